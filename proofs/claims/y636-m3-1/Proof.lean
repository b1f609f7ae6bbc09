import JvmDerived
import JvmDerived.Pilot.@@N@@Statement
import JvmDerived.Pilot.@@N@@Code
set_option linter.unusedVariables false
set_option linter.unusedSimpArgs false
namespace Jvm.Pilot.@@N@@
open Jvm Jvm.ClassFile Sem Op Lib Jvm.Free Jvm.Stand Jvm.LawKit Jvm.RoadKit Bundle Jvm.Pilot.@@N@@.Jvm.D
section OwnGo
/-! a run that comes to its end: what a body's walk owes, of any state on the way -/
def own_Go (tb : Tables) (e : Env) (below : List Frame) (Q : Outcome → State → Prop) (U : State) : Prop := ∃ s₂ o, Steps tb e below U s₂ ∧ s₂.status = .running ∧ Ended s₂ below o ∧ Q o s₂
theorem own_by {tb : Tables} {e : Env} {below : List Frame} {Q : Outcome → State → Prop} {U V : State} (h : ∀ t, Steps tb e below V t → Steps tb e below U t) (k : own_Go tb e below Q V) : own_Go tb e below Q U := by
  obtain ⟨s2, o, h1, h2⟩ := k; exact ⟨s2, o, h _ h1, h2⟩
theorem own_tr {tb : Tables} {e : Env} {below : List Frame} {Q : Outcome → State → Prop} {U V : State} (h : Steps tb e below U V) (k : own_Go tb e below Q V) : own_Go tb e below Q U := own_by (fun _ q => h.trans q) k
theorem own_gen {α : Type} {x y : α} (h : x = y) {tb : Tables} {e : Env} {below : List Frame} {Q : Outcome → State → Prop} (F : α → State) (k : own_Go tb e below Q (F y)) : own_Go tb e below Q (F x) := h ▸ k
def own_ap (f : Option Value → Heap → List Loc → Prop) (v : Option Value) (h : Heap) (L : List Loc) : Prop := f v h L
/-- what a body's contract says of its end -/
def own_Q (s : State) (Qh : Option Value → Heap → List Loc → Prop) (C S : Nat) (o : Outcome) (U' : State) : Prop := ∃ v L, o = .returned v ∧ Qh v U'.heap L ∧ FrameEnd s o U' L C S
variable {p : Program} {l : Launch} {e : Env} {R : Room} {s : State} {m : MethodId} {args : Array Value} {below : List Frame} {meth : Method} {c : Code} {T : State} {locs : List Loc} {cells slots : Nat} {Z : State} {h : Heap} {a : Addr} {pc : Nat} {Ls : Array Slot} {rest : List Value} {Qh : Option Value → Heap → List Loc → Prop} {C S : Nat} {Q : Outcome → State → Prop}
theorem own_leave (X : Stand p l e R s m args below meth c T locs cells slots) (hlk : meth.locks = false) {v : Option Value} (hv : meth.sig.returnType = none → v = none) {f : JFrame}
    (hst : ∀ fs, (∀ (f : JFrame) (acts : List Action), f.method = m → f.locked = none → f.entered = [] → (doReturn e (T.setTop f) acts v).1 = T.setFrames fs) → Steps p.tables e below (T.setTop f) (T.setFrames fs))
    (hq : Qh v T.heap locs) (hC : cells ≤ C) (hS : slots ≤ S) : own_Go p.tables e below (own_Q s Qh C S) (T.setTop f) := by
  obtain ⟨fs, hr, hrun, hended, hW, hsame⟩ := X.leave (v := v) hv hlk
  exact ⟨_, _, hst fs hr, hrun, hended, _, _, rfl, hq, ⟨_, rfl⟩, hW, hsame.mono hC hS⟩
theorem own_retI (X : Stand p l e R s m args below meth c T locs cells slots) (hx : p.tables.exec = Jvm.exec) (hlk : meth.locks = false) (eT : T.heap = h) (hret : meth.sig.returnType = some .int) {z : Int32} (hd : decode c.code pc = .ok (.ireturn, 1))
    (hq : Qh (some (.int z)) h locs) (hC : cells ≤ C) (hS : slots ≤ S) : own_Go p.tables e below (own_Q s Qh C S) (T.setTop (mkF m pc Ls (.int z :: rest))) :=
  own_leave X hlk (v := some (.int z)) (fun q => by rw [hret] at q; cases q) (fun fs hr => retOut X hx hret rfl (Or.inl ⟨rfl, Or.inl rfl, z, rfl⟩) hd hr) (eT ▸ hq) hC hS
theorem own_retN (X : Stand p l e R s m args below meth c T locs cells slots) (hx : p.tables.exec = Jvm.exec) (hlk : meth.locks = false) (eT : T.heap = h) {t : FieldType} (hret : meth.sig.returnType = some t) (ht : t = .boolean ∨ t = .byte ∨ t = .char ∨ t = .short) {z : Int32} (hd : decode c.code pc = .ok (.ireturn, 1))
    (hq : Qh (some (.int (nar t z))) h locs) (hC : cells ≤ C) (hS : slots ≤ S) : own_Go p.tables e below (own_Q s Qh C S) (T.setTop (mkF m pc Ls (.int z :: rest))) :=
  own_leave X hlk (v := some (.int (nar t z))) (fun q => by rw [hret] at q; cases q) (fun fs hr => retN X hx hret ht hd hr) (eT ▸ hq) hC hS
theorem own_retJ (X : Stand p l e R s m args below meth c T locs cells slots) (hx : p.tables.exec = Jvm.exec) (hlk : meth.locks = false) (eT : T.heap = h) (hret : meth.sig.returnType = some .long) {z : Int64} (hd : decode c.code pc = .ok (.lreturn, 1))
    (hq : Qh (some (.long z)) h locs) (hC : cells ≤ C) (hS : slots ≤ S) : own_Go p.tables e below (own_Q s Qh C S) (T.setTop (mkF m pc Ls (.long z :: rest))) :=
  own_leave X hlk (v := some (.long z)) (fun q => by rw [hret] at q; cases q) (fun fs hr => retOut X hx hret rfl (Or.inr (Or.inl ⟨rfl, rfl, z, rfl⟩)) hd hr) (eT ▸ hq) hC hS
theorem own_retA (X : Stand p l e R s m args below meth c T locs cells slots) (hx : p.tables.exec = Jvm.exec) (hlk : meth.locks = false) (eT : T.heap = h) {t : FieldType} (hret : meth.sig.returnType = some t) (ht : t.isReference = true) {w : Value} (hn : narrow t w = w) (hw : w.isRef = true) (hd : decode c.code pc = .ok (.areturn, 1))
    (hq : Qh (some w) h locs) (hC : cells ≤ C) (hS : slots ≤ S) : own_Go p.tables e below (own_Q s Qh C S) (T.setTop (mkF m pc Ls (w :: rest))) :=
  own_leave X hlk (v := some w) (fun q => by rw [hret] at q; cases q) (fun fs hr => retOut X hx hret hn (Or.inr (Or.inr (Or.inr (Or.inr ⟨rfl, ht, hw⟩)))) hd hr) (eT ▸ hq) hC hS
theorem own_retV (X : Stand p l e R s m args below meth c T locs cells slots) (hx : p.tables.exec = Jvm.exec) (hlk : meth.locks = false) (eT : T.heap = h) (hret : meth.sig.returnType = none) (hd : decode c.code pc = .ok (.return_, 1))
    (hq : Qh none h locs) (hC : cells ≤ C) (hS : slots ≤ S) : own_Go p.tables e below (own_Q s Qh C S) (T.setTop (mkF m pc Ls [])) :=
  own_leave X hlk (v := none) (fun _ => rfl) (fun fs hr => X.returnOut hx hret hd hr) (eT ▸ hq) hC hS
/-! an array by its places -/
def own_upd {α : Type} (f : Nat → α) (k : Nat) (v : α) : Nat → α := fun j => if j = k then v else f j
theorem own_upd_eq {α : Type} (f : Nat → α) (k : Nat) (v : α) : own_upd f k v k = v := by simp [own_upd]
theorem own_upd_ne {α : Type} (f : Nat → α) {k j : Nat} (v : α) (q : j ≠ k) : own_upd f k v j = f j := by simp [own_upd, q]
def own_Ar (Z : State) (h : Heap) (a : Addr) (ty : FieldType) (n : Nat) (f : Nat → Value) : Prop := ∃ cl : Cell, Arr Z h a cl ty ∧ cl.slots.size = n ∧ ∀ j, j < n → cl.slots[j]? = some (f j)
/-- ints and what is kept as ints -/
abbrev own_AI (Z : State) (h : Heap) (a : Addr) (ty : FieldType) (n : Nat) (f : Nat → Int32) : Prop := own_Ar Z h a ty n (fun j => .int (f j))
abbrev own_AJ (Z : State) (h : Heap) (a : Addr) (n : Nat) (f : Nat → Int64) : Prop := own_Ar Z h a .long n (fun j => .long (f j))
section
variable {h' : Heap} {b : Addr} {ty : FieldType} {n : Nat} {f : Nat → Value} {v : Value} {sl : Nat} {ws : List Addr}
theorem own_Ar.lt (A : own_Ar Z h a ty n f) : a < h.size := by obtain ⟨cl, q, -⟩ := A; exact q.lt
theorem own_Ar.ext (A : own_Ar Z h a ty n f) (E : Ext h h') : own_Ar Z h' a ty n f := by obtain ⟨cl, q, r⟩ := A; exact ⟨cl, q.ext E, r⟩
theorem own_Ar.other (A : own_Ar Z h a ty n f) (W : Wr h h' b sl v) (q : a ≠ b) : own_Ar Z h' a ty n f := by obtain ⟨cl, r, r'⟩ := A; exact ⟨cl, r.other W q, r'⟩
theorem own_Ar.keep (A : own_Ar Z h a ty n f) (K : Keep h h' ws) (q : a ∉ ws) : own_Ar Z h' a ty n f := by obtain ⟨cl, r, r'⟩ := A; exact ⟨cl, ⟨K.2.1 _ _ r.1 q, r.2⟩, r'⟩
theorem own_Ar.congr (A : own_Ar Z h a ty n f) {g : Nat → Value} (q : ∀ j, j < n → f j = g j) : own_Ar Z h a ty n g := by obtain ⟨cl, r, r1, r2⟩ := A; exact ⟨cl, r, r1, fun j hj => by rw [r2 j hj, q j hj]⟩
theorem own_in {j : Int32} {k n : Nat} (hk : j.toInt = (k : Int)) (hn : k < n) {cl : Cell} (S : cl.slots.size = n) : ¬ (j < 0 ∨ cl.slots.size ≤ j.toNatClampNeg) ∧ j.toNatClampNeg = k := by
  have q : j.toNatClampNeg = k := by simp [Int32.toNatClampNeg, hk]
  refine ⟨fun r => ?_, q⟩
  rcases r with r | r
  · rw [Int32.lt_iff_toInt_lt] at r; simp only [Int32.reduceToInt] at r; omega
  · omega
theorem own_Ar.set (A : own_Ar Z h a ty n f) {k : Nat} (hk : k < n) (W : Wr h h' a k v) : own_Ar Z h' a ty n (own_upd f k v) := by
  obtain ⟨cl, r, r1, r2⟩ := A
  refine ⟨_, r.same W, by rw [sz_set]; exact r1, fun j hj => ?_⟩
  show (cl.slots.setIfInBounds k v)[j]? = _
  by_cases q : j = k
  · subst q; simp [own_upd, r1, hj]
  · rw [Array.getElem?_setIfInBounds_ne (fun y => q y.symm), r2 j hj, own_upd_ne _ _ q]
end
theorem own_bal (X : Stand p l e R s m args below meth c T locs cells slots) (hx : p.tables.exec = Jvm.exec) (hZ : Z.Warmed39 s.vm) (eT : T.heap = h) {n : Nat} {f : Nat → Value} (A : own_Ar Z h a .byte n f) {j : Int32} (k : Nat) (hk : j.toInt = (k : Int)) (hn : k < n) (hd : decode c.code pc = .ok (.baload, 1)) {t : State}
    (kt : Steps p.tables e below (T.setTop (mkF m (pc + 1) Ls (f k :: rest))) t) : Steps p.tables e below (T.setTop (mkF m pc Ls (.int j :: .ref a :: rest))) t := by
  obtain ⟨cl, r, r1, r2⟩ := A
  obtain ⟨q1, q2⟩ := own_in hk hn r1
  exact X.baloadBytes hx (j := j) (v := f k) (by rw [eT]; exact r.1) (State.isArrayOf_alike hZ.alike r.2.1) r.2.2 q1 (by rw [q2]; exact r2 k hn) (g := mkF m pc Ls (.int j :: .ref a :: rest)) rfl rfl hd _ kt
theorem own_ial (X : Stand p l e R s m args below meth c T locs cells slots) (hx : p.tables.exec = Jvm.exec) (hZ : Z.Warmed39 s.vm) (eT : T.heap = h) {n : Nat} {f : Nat → Value} (A : own_Ar Z h a .int n f) {j : Int32} (k : Nat) (hk : j.toInt = (k : Int)) (hn : k < n) (hd : decode c.code pc = .ok (.iaload, 1)) {t : State}
    (kt : Steps p.tables e below (T.setTop (mkF m (pc + 1) Ls (f k :: rest))) t) : Steps p.tables e below (T.setTop (mkF m pc Ls (.int j :: .ref a :: rest))) t := by
  obtain ⟨cl, r, r1, r2⟩ := A
  obtain ⟨q1, q2⟩ := own_in hk hn r1
  exact X.iaload hx (j := j) (v := f k) (by rw [eT]; exact r.1) (State.isArrayOf_alike hZ.alike r.2.1) r.2.2 q1 (by rw [q2]; exact r2 k hn) (g := mkF m pc Ls (.int j :: .ref a :: rest)) rfl rfl hd _ kt
theorem own_lal (X : Stand p l e R s m args below meth c T locs cells slots) (hx : p.tables.exec = Jvm.exec) (hZ : Z.Warmed39 s.vm) (eT : T.heap = h) {n : Nat} {f : Nat → Value} (A : own_Ar Z h a .long n f) {j : Int32} (k : Nat) (hk : j.toInt = (k : Int)) (hn : k < n) (hd : decode c.code pc = .ok (.laload, 1)) {t : State}
    (kt : Steps p.tables e below (T.setTop (mkF m (pc + 1) Ls (f k :: rest))) t) : Steps p.tables e below (T.setTop (mkF m pc Ls (.int j :: .ref a :: rest))) t := by
  obtain ⟨cl, r, r1, r2⟩ := A
  obtain ⟨q1, q2⟩ := own_in hk hn r1
  exact X.laload hx (j := j) (v := f k) (by rw [eT]; exact r.1) (State.isArrayOf_alike hZ.alike r.2.1) r.2.2 q1 (by rw [q2]; exact r2 k hn) (g := mkF m pc Ls (.int j :: .ref a :: rest)) rfl rfl hd _ kt
theorem own_len (X : Stand p l e R s m args below meth c T locs cells slots) (hx : p.tables.exec = Jvm.exec) (hZ : Z.Warmed39 s.vm) (eT : T.heap = h) {ty : FieldType} {n : Nat} {f : Nat → Value} (A : own_Ar Z h a ty n f) (z : Int32) (hz : z = n.toInt32) (hd : decode c.code pc = .ok (.arraylength, 1)) {t : State}
    (kt : Steps p.tables e below (T.setTop (mkF m (pc + 1) Ls (.int z :: rest))) t) : Steps p.tables e below (T.setTop (mkF m pc Ls (.ref a :: rest))) t := by
  obtain ⟨cl, r, r1, r2⟩ := A
  refine X.arraylength hx (by rw [eT]; exact r.1) (State.isArrayOf_alike hZ.alike r.2.1) (g := mkF m pc Ls (.ref a :: rest)) rfl rfl hd _ ?_
  rw [r1, ← hz]; exact kt
theorem own_bas (X : Stand p l e R s m args below meth c T locs cells slots) (hx : p.tables.exec = Jvm.exec) (hZ : Z.Warmed39 s.vm) (eT : T.heap = h) {n : Nat} {f : Nat → Int32} (A : own_AI Z h a .byte n f) {j x : Int32} (k : Nat) (hk : j.toInt = (k : Int)) (hn : k < n) (hd : decode c.code pc = .ok (.bastore, 1))
    (K : ∀ T' h', Stand p l e R s m args below meth c T' (locs ++ [⟨a, k⟩]) cells slots → T'.heap = h' → Wr h h' a k (.int (nar .byte x)) → own_AI Z h' a .byte n (own_upd f k (nar .byte x)) → own_Go p.tables e below Q (T'.setTop (mkF m (pc + 1) Ls rest))) :
    own_Go p.tables e below Q (T.setTop (mkF m pc Ls (.int x :: .int j :: .ref a :: rest))) := by
  obtain ⟨cl, r, r1, r2⟩ := id A
  obtain ⟨q1, q2⟩ := own_in hk hn r1
  obtain ⟨T', h', X', e', W, st⟩ := stB X hx hZ eT r (j := j) (x := x) q1 (g := mkF m pc Ls (.int x :: .int j :: .ref a :: rest)) rfl rfl hd
  rw [q2] at X' W
  exact own_by st (K T' h' X' e' W ((A.set hn W).congr fun i hi => by simp only [own_upd]; split <;> rfl))
theorem own_ias (X : Stand p l e R s m args below meth c T locs cells slots) (hx : p.tables.exec = Jvm.exec) (hZ : Z.Warmed39 s.vm) (eT : T.heap = h) {n : Nat} {f : Nat → Int32} (A : own_AI Z h a .int n f) {j x : Int32} (k : Nat) (hk : j.toInt = (k : Int)) (hn : k < n) (hd : decode c.code pc = .ok (.iastore, 1))
    (K : ∀ T' h', Stand p l e R s m args below meth c T' (locs ++ [⟨a, k⟩]) cells slots → T'.heap = h' → Wr h h' a k (.int x) → own_AI Z h' a .int n (own_upd f k x) → own_Go p.tables e below Q (T'.setTop (mkF m (pc + 1) Ls rest))) :
    own_Go p.tables e below Q (T.setTop (mkF m pc Ls (.int x :: .int j :: .ref a :: rest))) := by
  obtain ⟨cl, r, r1, r2⟩ := id A
  obtain ⟨q1, q2⟩ := own_in hk hn r1
  obtain ⟨T', h', X', e', W, st⟩ := stI X hx hZ eT r (j := j) (x := x) q1 (g := mkF m pc Ls (.int x :: .int j :: .ref a :: rest)) rfl rfl hd
  rw [q2] at X' W
  exact own_by st (K T' h' X' e' W ((A.set hn W).congr fun i hi => by simp only [own_upd]; split <;> rfl))
theorem own_las (X : Stand p l e R s m args below meth c T locs cells slots) (hx : p.tables.exec = Jvm.exec) (hZ : Z.Warmed39 s.vm) (eT : T.heap = h) {n : Nat} {f : Nat → Int64} (A : own_AJ Z h a n f) {j : Int32} {x : Int64} (k : Nat) (hk : j.toInt = (k : Int)) (hn : k < n) (hd : decode c.code pc = .ok (.lastore, 1))
    (K : ∀ T' h', Stand p l e R s m args below meth c T' (locs ++ [⟨a, k⟩]) cells slots → T'.heap = h' → Wr h h' a k (.long x) → own_AJ Z h' a n (own_upd f k x) → own_Go p.tables e below Q (T'.setTop (mkF m (pc + 1) Ls rest))) :
    own_Go p.tables e below Q (T.setTop (mkF m pc Ls (.long x :: .int j :: .ref a :: rest))) := by
  obtain ⟨cl, r, r1, r2⟩ := id A
  obtain ⟨q1, q2⟩ := own_in hk hn r1
  obtain ⟨T', h', X', e', W, st⟩ := stJ X hx hZ eT r (j := j) (x := x) q1 (g := mkF m pc Ls (.long x :: .int j :: .ref a :: rest)) rfl rfl hd
  rw [q2] at X' W
  exact own_by st (K T' h' X' e' W ((A.set hn W).congr fun i hi => by simp only [own_upd]; split <;> rfl))
theorem own_newP (X : Stand p l e R s m args below meth c T locs cells slots) (hx : p.tables.exec = Jvm.exec) (hZ : Z.Warmed39 s.vm) {a0 : Array Value} {aty : ArrayType} (w : (Cond.arrayClass (newarray.typeOf aty)).before a0 Z = true) (eT : T.heap = h) {n : Int32} (k : Nat) (hk : n.toInt = (k : Int)) (cap : Nat) (hcap : k ≤ cap) (hb : cap * 8 ≤ 536870912) (hc : cells + 1 ≤ R.cells) (hl : slots + cap ≤ R.slots)
    (hd : decode c.code pc = .ok (.newarray aty, 2))
    (K : ∀ T' h', Stand p l e R s m args below meth c T' locs (cells + 1) (slots + cap) → T'.heap = h' → Ext h h' → own_Ar Z h' h.size (newarray.typeOf aty) k (fun _ => defaultValue (newarray.typeOf aty)) → own_Go p.tables e below Q (T'.setTop (mkF m (pc + 2) Ls (.ref h.size :: rest)))) :
    own_Go p.tables e below Q (T.setTop (mkF m pc Ls (.int n :: rest))) := by
  have q : n.toNatClampNeg = k := by simp [Int32.toNatClampNeg, hk]
  have q0 : ¬ n < 0 := by rw [Int32.lt_iff_toInt_lt]; simp only [Int32.reduceToInt]; omega
  obtain ⟨T', h', kk, X', e', E, A, st⟩ := newP X hx hZ w eT (n := n) (g := mkF m pc Ls (.int n :: rest)) rfl hd rfl q0 (cap := cap) (by rw [q]; exact hcap) hb hc hl
  refine own_by st (K T' h' X' e' E ⟨_, A, by rw [sz_new, q], fun j hj => ?_⟩)
  simp [newA, q, hj]
theorem own_newPE (X : Stand p l e R s m args below meth c T locs cells slots) (hx : p.tables.exec = Jvm.exec) (hZ : Z.Warmed39 s.vm) {a0 : Array Value} {aty : ArrayType} (w : (Cond.arrayClass (newarray.typeOf aty)).before a0 Z = true) (eT : T.heap = h) {n : Int32} (k : Nat) (hk : n.toInt = (k : Int)) (cap : Nat) (hcap : k ≤ cap) (hb : cap * 8 ≤ 536870912) (hc : cells + 1 ≤ R.cells) (hl : slots + cap ≤ R.slots)
    (hd : decode c.code pc = .ok (.newarray aty, 2)) {ad : String} (had : "[" ++ (newarray.typeOf aty).toString = ad)
    (K : ∀ T' h', Stand p l e R s m args below meth c T' locs (cells + 1) (slots + cap) → T'.heap = h' → Ext h h' → own_Ar Z h' h.size (newarray.typeOf aty) k (fun _ => defaultValue (newarray.typeOf aty)) → Exa Z h' h.size ad → own_Go p.tables e below Q (T'.setTop (mkF m (pc + 2) Ls (.ref h.size :: rest)))) :
    own_Go p.tables e below Q (T.setTop (mkF m pc Ls (.int n :: rest))) := by
  have q : n.toNatClampNeg = k := by simp [Int32.toNatClampNeg, hk]
  have q0 : ¬ n < 0 := by rw [Int32.lt_iff_toInt_lt]; simp only [Int32.reduceToInt]; omega
  obtain ⟨T', h', kk, X', e', E, A, EX, st⟩ := newPE X hx hZ w eT (n := n) (g := mkF m pc Ls (.int n :: rest)) rfl hd rfl q0 (cap := cap) (by rw [q]; exact hcap) hb hc hl had
  refine own_by st (K T' h' X' e' E ⟨_, A, by rw [sz_new, q], fun j hj => ?_⟩ EX)
  simp [newA, q, hj]
section
variable {a0 : Array Value} {own : String} {index : Nat} {y : MethodName} {bytes : ByteArray} {maxL : Nat} {ret : Option FieldType} {rm : Room} {as' : Array Value} {Qc : Option Value → Heap → List Loc → Prop} {argsL : List Value} {St : List Value}
/-! calls by contract, with what comes behind -/
theorem own_callS (X : Stand p l e R s m args below meth c T locs cells slots) (hx : p.tables.exec = Jvm.exec) (hZ : Z.Warmed39 s.vm) (hown : s.vm.findClass own = some m.cls)
    (w1 : (Cond.methodLink own index y).before a0 Z = true) (w2 : (Cond.static y).before a0 Z = true) (w3 : (Cond.initialized y.cls).before a0 Z = true) (w4 : (Cond.code y bytes maxL ret).before a0 Z = true) (hy : y.cls ≠ "java/lang/invoke/MethodHandle" ∧ y.cls ≠ "java/lang/invoke/VarHandle")
    (hM : MetFree l y (head1 [Cond.code y bytes maxL ret] rm) (fun a U => a = as' ∧ Z.Warmed39 U.vm ∧ U.heap = h) (fun _ _ _ _ _ => True) (fun _ U o U' => ∃ v L, o = .returned v ∧ Qc v U'.heap L ∧ FrameEnd U o U' L rm.cells rm.slots))
    (eT : T.heap = h) (hsize : Ls.size = c.maxLocals) (argsL rest : List Value) (hst : St = argsL.reverse ++ rest) (hlen : ∀ sig, parseMethodDescriptor y.desc = some sig → argsL.length = sig.parameters.length) (ha : argsL.toArray = as') (W : Nat) (hW : 2 * 0 + (rest.map fun v => v.category).sum ≤ W)
    (hf : rm.frames + 1 ≤ R.frames) (hl : W + (maxL + 11) + rm.locals ≤ R.locals) (hc : cells + rm.cells ≤ R.cells) (hs : slots + rm.slots ≤ R.slots) (hd : decode c.code pc = .ok (.invokestatic index, 3))
    (K : ∀ T' Lc v, Stand p l e R s m args below meth c T' (locs ++ Lc) (cells + rm.cells) (slots + rm.slots) → Qc v T'.heap Lc → own_Go p.tables e below Q (T'.setTop (mkF m (pc + 3) Ls (v.toList ++ rest)))) :
    own_Go p.tables e below Q (T.setTop (mkF m pc Ls St)) := by
  obtain ⟨v, _, ⟨T1, L1, k1, n1⟩, -, X1, ⟨Lc, hQ, l1, y1, z1⟩, st1⟩ := Jvm.LawKit.callS X hx (y := y) hown (mvT hZ w1) (mvT hZ w2) (mvT hZ w3) (mvT hZ w4) hy (backOf (W := W) hM hZ w4 w3 hf hl) (g := mkF m pc Ls St) rfl hsize (argsL := argsL) (rest := rest) hlen hst hW hd (fun _ _ => ⟨ha, eT, hc, hs⟩)
  dsimp only [Pt.U, Pt.locs, Pt.cells, Pt.slots] at X1 l1 y1 z1 st1 hQ
  subst l1 y1 z1
  exact own_by st1 (K T1 Lc v X1 hQ)
theorem own_callI (X : Stand p l e R s m args below meth c T locs cells slots) (hx : p.tables.exec = Jvm.exec) (hZ : Z.Warmed39 s.vm) (hown : s.vm.findClass own = some m.cls) (hy1 : y.name = "<init>")
    (w1 : (Cond.methodLink own index y).before a0 Z = true) (w2 : (Cond.instanceMethod y).before a0 Z = true) (w3 : (Cond.initialized y.cls).before a0 Z = true) (w4 : (Cond.code y bytes maxL none).before a0 Z = true) (hy : y.cls ≠ "java/lang/invoke/MethodHandle" ∧ y.cls ≠ "java/lang/invoke/VarHandle")
    (hM : MetFree l y (head1 [Cond.code y bytes maxL none] rm) (fun a U => a = as' ∧ Z.Warmed39 U.vm ∧ U.heap = h) (fun _ _ _ _ _ => True) (fun _ U o U' => ∃ v L, o = .returned v ∧ Qc v U'.heap L ∧ FrameEnd U o U' L rm.cells rm.slots))
    (eT : T.heap = h) (hsize : Ls.size = c.maxLocals) (b : Addr) (argsL rest : List Value) (hst : St = argsL.reverse ++ .ref b :: rest) (hlen : ∀ sig, parseMethodDescriptor y.desc = some sig → argsL.length = sig.parameters.length) (ha : (Value.ref b :: argsL).toArray = as') (W : Nat) (hW : 2 * 0 + (rest.map fun v => v.category).sum ≤ W)
    (hf : rm.frames + 1 ≤ R.frames) (hl : W + (maxL + 11) + rm.locals ≤ R.locals) (hc : cells + rm.cells ≤ R.cells) (hs : slots + rm.slots ≤ R.slots) (hd : decode c.code pc = .ok (.invokespecial index, 3))
    (K : ∀ T' Lc v, Stand p l e R s m args below meth c T' (locs ++ Lc) (cells + rm.cells) (slots + rm.slots) → Qc v T'.heap Lc → own_Go p.tables e below Q (T'.setTop (mkF m (pc + 3) Ls (v.toList ++ rest)))) :
    own_Go p.tables e below Q (T.setTop (mkF m pc Ls St)) := by
  obtain ⟨v, _, ⟨T1, L1, k1, n1⟩, -, X1, ⟨Lc, hQ, l1, y1, z1⟩, st1⟩ := X.specialBack hx (y := y) hy1 hown (mvT hZ w1) (mvT hZ w2) (mvT hZ w4) hy (backOf (W := W) hM hZ w4 w3 hf hl) (g := mkF m pc Ls St) rfl hsize (Steps.refl _) (a := b) (argsL := argsL) (rest := rest) hlen hst hW hd (fun _ _ => ⟨ha, eT, hc, hs⟩)
  dsimp only [Pt.U, Pt.locs, Pt.cells, Pt.slots] at X1 l1 y1 z1 st1 hQ
  subst l1 y1 z1
  exact own_tr st1 (K T1 Lc v X1 hQ)
theorem own_callV {C : String} {z : MethodName} (X : Stand p l e R s m args below meth c T locs cells slots) (hx : p.tables.exec = Jvm.exec) (hZ : Z.Warmed39 s.vm) (hown : s.vm.findClass own = some m.cls)
    (w1 : (Cond.methodLink own index y).before a0 Z = true) (w2 : (Cond.declares y).before a0 Z = true) (hnf : NotFace s y) (w5 : (Cond.selects C y z).before a0 Z = true) (w6 : (Cond.instanceMethod z).before a0 Z = true) (w3 : (Cond.initialized z.cls).before a0 Z = true) (w4 : (Cond.code z bytes maxL ret).before a0 Z = true) (hy : y.cls ≠ "java/lang/invoke/MethodHandle" ∧ y.cls ≠ "java/lang/invoke/VarHandle")
    (hM : MetFree l z (head1 [Cond.code z bytes maxL ret] rm) (fun a U => a = as' ∧ Z.Warmed39 U.vm ∧ U.heap = h) (fun _ _ _ _ _ => True) (fun _ U o U' => ∃ v L, o = .returned v ∧ Qc v U'.heap L ∧ FrameEnd U o U' L rm.cells rm.slots))
    (eT : T.heap = h) (b : Addr) (E : Exa Z h b C) (hsize : Ls.size = c.maxLocals) (argsL rest : List Value) (hst : St = argsL.reverse ++ .ref b :: rest) (hlen : ∀ sig, parseMethodDescriptor y.desc = some sig → argsL.length = sig.parameters.length) (ha : (Value.ref b :: argsL).toArray = as') (W : Nat) (hW : 2 * 0 + (rest.map fun v => v.category).sum ≤ W)
    (hf : rm.frames + 1 ≤ R.frames) (hl : W + (maxL + 11) + rm.locals ≤ R.locals) (hc : cells + rm.cells ≤ R.cells) (hs : slots + rm.slots ≤ R.slots) (hd : decode c.code pc = .ok (.invokevirtual index, 3))
    (K : ∀ T' Lc v, Stand p l e R s m args below meth c T' (locs ++ Lc) (cells + rm.cells) (slots + rm.slots) → Qc v T'.heap Lc → own_Go p.tables e below Q (T'.setTop (mkF m (pc + 3) Ls (v.toList ++ rest)))) :
    own_Go p.tables e below Q (T.setTop (mkF m pc Ls St)) := by
  obtain ⟨cq, kq, qa, qb, qc⟩ := isOf hZ eT E
  obtain ⟨v, _, ⟨T1, L1, k1, n1⟩, -, X1, ⟨Lc, hQ, l1, y1, z1⟩, st1⟩ := X.virtualBack hx (y := y) (z := z) hown (mvT hZ w1) (mvT hZ w2) hnf (mvT hZ w5) (mvT hZ w6) hy (backOf (W := W) hM hZ w4 w3 hf hl) qa qc (g := mkF m pc Ls St) rfl hsize (Steps.refl _) (argsL := argsL) (rest := rest) hlen hst hW hd (fun _ _ => ⟨ha, eT, hc, hs⟩)
  dsimp only [Pt.U, Pt.locs, Pt.cells, Pt.slots] at X1 l1 y1 z1 st1 hQ
  subst l1 y1 z1
  exact own_tr st1 (K T1 Lc v X1 hQ)
theorem own_selp {s : State} {aa : Array Value} {y y' : MethodName} (hc : y.cls = y'.cls) (w1 : (Cond.selects y'.cls y' y').before aa s = true) (hpriv : s.PrivateAt y) (hinst : (Cond.instanceMethod y).before aa s = true) (hy : y.cls ≠ "java/lang/invoke/MethodHandle" ∧ y.cls ≠ "java/lang/invoke/VarHandle") : (Cond.selects y.cls y y).before aa s = true := by
  obtain ⟨c2, r2, m2, q0, -, q3, -, kP, hkP, hkPi⟩ := Cond.selects_spec w1
  have h1 : s.vm.findClass y'.cls = some m2.cls := findClass_of_methodNamed q3
  exact selects_self_of_private (by rw [hc]; exact h1) hkP hkPi hpriv hinst hy
theorem own_callP {y' : MethodName} (X : Stand p l e R s m args below meth c T locs cells slots) (hx : p.tables.exec = Jvm.exec) (hZ : Z.Warmed39 s.vm) (hown : s.vm.findClass own = some m.cls)
    (w1 : (Cond.methodLink own index y).before a0 Z = true) (w2 : (Cond.instanceMethod y).before a0 Z = true) (w5 : (Cond.privateMethod y).before a0 Z = true) (hcc : y.cls = y'.cls) (w6 : (Cond.selects y'.cls y' y').before a0 Z = true) (w3 : (Cond.initialized y.cls).before a0 Z = true) (w4 : (Cond.code y bytes maxL ret).before a0 Z = true) (hy : y.cls ≠ "java/lang/invoke/MethodHandle" ∧ y.cls ≠ "java/lang/invoke/VarHandle")
    (hM : MetFree l y (head1 [Cond.code y bytes maxL ret] rm) (fun a U => a = as' ∧ Z.Warmed39 U.vm ∧ U.heap = h) (fun _ _ _ _ _ => True) (fun _ U o U' => ∃ v L, o = .returned v ∧ Qc v U'.heap L ∧ FrameEnd U o U' L rm.cells rm.slots))
    (eT : T.heap = h) (b : Addr) {C : String} (E : Exa Z h b C) (hsize : Ls.size = c.maxLocals) (argsL rest : List Value) (hst : St = argsL.reverse ++ .ref b :: rest) (hlen : ∀ sig, parseMethodDescriptor y.desc = some sig → argsL.length = sig.parameters.length) (ha : (Value.ref b :: argsL).toArray = as') (W : Nat) (hW : 2 * 0 + (rest.map fun v => v.category).sum ≤ W)
    (hf : rm.frames + 1 ≤ R.frames) (hl : W + (maxL + 11) + rm.locals ≤ R.locals) (hc : cells + rm.cells ≤ R.cells) (hs : slots + rm.slots ≤ R.slots) (hd : decode c.code pc = .ok (.invokevirtual index, 3))
    (K : ∀ T' Lc v, Stand p l e R s m args below meth c T' (locs ++ Lc) (cells + rm.cells) (slots + rm.slots) → Qc v T'.heap Lc → own_Go p.tables e below Q (T'.setTop (mkF m (pc + 3) Ls (v.toList ++ rest)))) :
    own_Go p.tables e below Q (T.setTop (mkF m pc Ls St)) := by
  obtain ⟨cq, q1, q2⟩ := E.cell
  have hpr := Cond.privateMethod_at (mvP hZ w5 (args := #[]))
  obtain ⟨v, _, ⟨T1, L1, k1, n1⟩, -, X1, ⟨Lc, hQ, l1, y1, z1⟩, st1⟩ := X.privateBack hx (y := y) hown (mvT hZ w1) (mvT hZ w2) (own_selp hcc (mvT hZ w6) hpr (mvT hZ w2) hy) hpr (mvT hZ w4) hy (backOf (W := W) hM hZ w4 w3 hf hl) (g := mkF m pc Ls St) rfl hsize (Steps.refl _) (a := b) (by rw [eT]; exact q1) q2 (argsL := argsL) (rest := rest) hlen hst hW hd (fun _ _ => ⟨ha, eT, hc, hs⟩)
  dsimp only [Pt.U, Pt.locs, Pt.cells, Pt.slots] at X1 l1 y1 z1 st1 hQ
  subst l1 y1 z1
  exact own_tr st1 (K T1 Lc v X1 hQ)
end
theorem own_size_wr {h h' : Heap} {b : Addr} {sl : Nat} {v : Value} {n0 : Nat} (W : Wr h h' b sl v) (q : n0 ≤ h.size) : n0 ≤ h'.size := by rw [W.size]; exact q
end OwnGo
theorem own_pd0 : parseMethodDescriptor "(IIIII)Z" = some ⟨[.int, .int, .int, .int, .int], some .boolean⟩ := by decide +kernel
theorem own_pd1 : parseMethodDescriptor "([C)V" = some ⟨[(.array .char)], none⟩ := by decide +kernel
theorem own_pd2 : parseMethodDescriptor "([CIILjava/lang/Void;)V" = some ⟨[(.array .char), .int, .int, (.object "java/lang/Void")], none⟩ := by decide +kernel
theorem own_pd3 : parseMethodDescriptor "()V" = some ⟨[], none⟩ := by decide +kernel
theorem own_pd4 : parseMethodDescriptor "([CII)[B" = some ⟨[(.array .char), .int, .int], some (.array .byte)⟩ := by decide +kernel
theorem own_pd5 : parseMethodDescriptor "([CI[BII)I" = some ⟨[(.array .char), .int, (.array .byte), .int, .int], some .int⟩ := by decide +kernel
theorem own_pd6 : parseMethodDescriptor "([BI)B" = some ⟨[(.array .byte), .int], some .byte⟩ := by decide +kernel
theorem own_pd7 : parseMethodDescriptor "(C)Ljava/lang/String;" = some ⟨[.char], some (.object "java/lang/String")⟩ := by decide +kernel
theorem own_pd8 : parseMethodDescriptor "(C)Z" = some ⟨[.char], some .boolean⟩ := by decide +kernel
theorem own_pd9 : parseMethodDescriptor "(C)[B" = some ⟨[.char], some (.array .byte)⟩ := by decide +kernel
theorem own_pd10 : parseMethodDescriptor "([BB)V" = some ⟨[(.array .byte), .byte], none⟩ := by decide +kernel
theorem own_pd11 : parseMethodDescriptor "(Z)V" = some ⟨[.boolean], none⟩ := by decide +kernel
theorem own_pd12 : parseMethodDescriptor "(Ljava/lang/String;I)V" = some ⟨[(.object "java/lang/String"), .int], none⟩ := by decide +kernel
theorem own_pd13 : parseMethodDescriptor "()I" = some ⟨[], some .int⟩ := by decide +kernel
theorem own_pd14 : parseMethodDescriptor "()B" = some ⟨[], some .byte⟩ := by decide +kernel
theorem own_pd15 : parseMethodDescriptor "(I)C" = some ⟨[.int], some .char⟩ := by decide +kernel
theorem own_pd16 : parseMethodDescriptor "()Z" = some ⟨[], some .boolean⟩ := by decide +kernel
theorem own_pd17 : parseMethodDescriptor "([BI)C" = some ⟨[(.array .byte), .int], some .char⟩ := by decide +kernel
theorem own_pd18 : parseMethodDescriptor "(II)V" = some ⟨[.int, .int], none⟩ := by decide +kernel
theorem own_pd19 : parseMethodDescriptor "(IILjava/util/function/BiFunction;)I" = some ⟨[.int, .int, (.object "java/util/function/BiFunction")], some .int⟩ := by decide +kernel
theorem own_pd20 : parseMethodDescriptor "(Ljava/lang/String;IZ)Z" = some ⟨[(.object "java/lang/String"), .int, .boolean], some .boolean⟩ := by decide +kernel
theorem own_pd21 : parseMethodDescriptor "(I)Z" = some ⟨[.int], some .boolean⟩ := by decide +kernel
theorem own_pd22 : parseMethodDescriptor "(CCIZI)I" = some ⟨[.char, .char, .int, .boolean, .int], some .int⟩ := by decide +kernel
theorem own_pd23 : parseMethodDescriptor "(CZ)I" = some ⟨[.char, .boolean], some .int⟩ := by decide +kernel
theorem own_pd24 : parseMethodDescriptor "(CZ)Z" = some ⟨[.char, .boolean], some .boolean⟩ := by decide +kernel
theorem own_pd25 : parseMethodDescriptor "(CZI)I" = some ⟨[.char, .boolean, .int], some .int⟩ := by decide +kernel
section OwnWide
/-! char arrays; bodies that may load String constants: the end is ReturnedEndW, the Stand lies over the start with the tables at hand -/
variable {p : Program} {l : Launch} {e : Env} {R : Room} {s : State} {m : MethodId} {args : Array Value} {below : List Frame} {meth : Method} {c : Code} {T : State} {locs : List Loc} {cells slots : Nat} {Z : State} {h : Heap} {a : Addr} {pc : Nat} {Ls : Array Slot} {rest : List Value} {t : State} {Q : Outcome → State → Prop} {C S : Nat} {Qh : Option Value → Heap → List Loc → Prop} {vm0 : Vm} {k0 : Nat} {a0 : Array Value}
theorem own_cal (X : Stand p l e R s m args below meth c T locs cells slots) (hx : p.tables.exec = Jvm.exec) (hZ : Z.Warmed39 s.vm) (eT : T.heap = h) {n : Nat} {f : Nat → Value} (A : own_Ar Z h a .char n f) {j : Int32} (k : Nat) (hk : j.toInt = (k : Int)) (hn : k < n) (hd : decode c.code pc = .ok (.caload, 1))
    (kt : Steps p.tables e below (T.setTop (mkF m (pc + 1) Ls (f k :: rest))) t) : Steps p.tables e below (T.setTop (mkF m pc Ls (.int j :: .ref a :: rest))) t := by
  obtain ⟨cl, r, r1, r2⟩ := A
  obtain ⟨q1, q2⟩ := own_in hk hn r1
  exact X.caload hx (j := j) (v := f k) (by rw [eT]; exact r.1) (State.isArrayOf_alike hZ.alike r.2.1) r.2.2 q1 (by rw [q2]; exact r2 k hn) (g := mkF m pc Ls (.int j :: .ref a :: rest)) rfl rfl hd _ kt
theorem own_cas (X : Stand p l e R s m args below meth c T locs cells slots) (hx : p.tables.exec = Jvm.exec) (hZ : Z.Warmed39 s.vm) (eT : T.heap = h) {n : Nat} {f : Nat → Int32} (A : own_AI Z h a .char n f) {j x : Int32} (k : Nat) (hk : j.toInt = (k : Int)) (hn : k < n) (hd : decode c.code pc = .ok (.castore, 1))
    (K : ∀ T' h', Stand p l e R s m args below meth c T' (locs ++ [⟨a, k⟩]) cells slots → T'.heap = h' → Wr h h' a k (.int (nar .char x)) → own_AI Z h' a .char n (own_upd f k (nar .char x)) → own_Go p.tables e below Q (T'.setTop (mkF m (pc + 1) Ls rest))) :
    own_Go p.tables e below Q (T.setTop (mkF m pc Ls (.int x :: .int j :: .ref a :: rest))) := by
  obtain ⟨cl, r, r1, r2⟩ := id A
  obtain ⟨q1, q2⟩ := own_in hk hn r1
  obtain ⟨T', h', X', e', W, st⟩ := stC X hx hZ eT r (j := j) (x := x) q1 (g := mkF m pc Ls (.int x :: .int j :: .ref a :: rest)) rfl rfl hd
  rw [q2] at X' W
  exact own_by st (K T' h' X' e' W ((A.set hn W).congr fun i hi => by simp only [own_upd]; split <;> rfl))
theorem own_Ar.nostat {ty : FieldType} {n : Nat} {f : Nat → Value} (A : own_Ar Z h a ty n f) : ∀ cell : Cell, h[a]? = some cell → cell.vm.isStatics = false := by obtain ⟨cl, r, -⟩ := A; exact r.nostat
theorem own_sta_keep {h' : Heap} {ws : List Addr} {K n d : String} {w : Value} (F : Sta Z h K n d w) (Kp : Keep h h' ws) (hn : ∀ x ∈ ws, ∀ cell : Cell, h[x]? = some cell → cell.vm.isStatics = false) : Sta Z h' K n d w := by
  obtain ⟨cf, i, k, f, st, cell, h1, h2, h3, h4, h5, h6, r⟩ := F
  exact ⟨cf, i, k, f, st, cell, h1, h2, h3, h4, Kp.2.1 _ _ h5 (fun hm => by rw [hn st hm cell h5] at h6; cases h6), h6, r⟩
def own_QW (s : State) (Qh : Option Value → Heap → List Loc → Prop) (C S : Nat) (o : Outcome) (U' : State) : Prop := ∃ v L, o = .returned v ∧ Qh v U'.heap L ∧ ReturnedEndW s o U' L C S
theorem own_leaveW (X : Stand p l e R (s.setVm vm0) m args below meth c T locs cells slots) (hlk : meth.locks = false) (hS : s.Since vm0 k0) (hk : k0 ≤ T.heap.size) {v : Option Value} (hv : meth.sig.returnType = none → v = none) {f : JFrame}
    (hst : ∀ fs, (∀ (f : JFrame) (acts : List Action), f.method = m → f.locked = none → f.entered = [] → (doReturn e (T.setTop f) acts v).1 = T.setFrames fs) → Steps p.tables e below (T.setTop f) (T.setFrames fs))
    (hq : Qh v T.heap locs) (hC : cells ≤ C) (hS' : slots ≤ S) : own_Go p.tables e below (own_QW s Qh C S) (T.setTop f) := by
  obtain ⟨fs, hr, hrun, hended, q1, q2, q3, q4⟩ := X.leaveW hS hk (v := v) hv hlk
  exact ⟨_, _, hst fs hr, hrun, hended, _, _, rfl, hq, q1, q2, q3, q4.mono hC hS'⟩
theorem own_retWN (X : Stand p l e R (s.setVm vm0) m args below meth c T locs cells slots) (hx : p.tables.exec = Jvm.exec) (hlk : meth.locks = false) (eT : T.heap = h) {t : FieldType} (hret : meth.sig.returnType = some t) (hS : s.Since vm0 k0) (hk : k0 ≤ h.size) (ht : t = .boolean ∨ t = .byte ∨ t = .char ∨ t = .short) {z : Int32} (hd : decode c.code pc = .ok (.ireturn, 1))
    (hq : Qh (some (.int (nar t z))) h locs) (hC : cells ≤ C) (hS' : slots ≤ S) : own_Go p.tables e below (own_QW s Qh C S) (T.setTop (mkF m pc Ls (.int z :: rest))) :=
  own_leaveW X hlk hS (eT ▸ hk) (v := some (.int (nar t z))) (fun q => by rw [hret] at q; cases q) (fun fs hr => retN X hx hret ht hd hr) (eT ▸ hq) hC hS'
theorem own_retWI (X : Stand p l e R (s.setVm vm0) m args below meth c T locs cells slots) (hx : p.tables.exec = Jvm.exec) (hlk : meth.locks = false) (eT : T.heap = h) (hret : meth.sig.returnType = some .int) (hS : s.Since vm0 k0) (hk : k0 ≤ h.size) {z : Int32} (hd : decode c.code pc = .ok (.ireturn, 1))
    (hq : Qh (some (.int z)) h locs) (hC : cells ≤ C) (hS' : slots ≤ S) : own_Go p.tables e below (own_QW s Qh C S) (T.setTop (mkF m pc Ls (.int z :: rest))) :=
  own_leaveW X hlk hS (eT ▸ hk) (v := some (.int z)) (fun q => by rw [hret] at q; cases q) (fun fs hr => retOut X hx hret rfl (Or.inl ⟨rfl, Or.inl rfl, z, rfl⟩) hd hr) (eT ▸ hq) hC hS'
theorem own_retWV (X : Stand p l e R (s.setVm vm0) m args below meth c T locs cells slots) (hx : p.tables.exec = Jvm.exec) (hlk : meth.locks = false) (eT : T.heap = h) (hret : meth.sig.returnType = none) (hS : s.Since vm0 k0) (hk : k0 ≤ h.size) (hd : decode c.code pc = .ok (.return_, 1))
    (hq : Qh none h locs) (hC : cells ≤ C) (hS' : slots ≤ S) : own_Go p.tables e below (own_QW s Qh C S) (T.setTop (mkF m pc Ls [])) :=
  own_leaveW X hlk hS (eT ▸ hk) (v := none) (fun _ => rfl) (fun fs hr => X.returnOut hx hret hd hr) (eT ▸ hq) hC hS'
/-- ldc of a String constant: which object, is not told -/
theorem own_ldcS {own text : String} {index : Nat} (X : Stand p l e R (s.setVm vm0) m args below meth c T locs cells slots) (hx : p.tables.exec = Jvm.exec) (hZ : Z.Warmed39 (s.setVm vm0).vm) (hown : (s.setVm vm0).vm.findClass own = some m.cls) (w : (Cond.stringLink own index text).before a0 Z = true) (wS : ∀ a ∈ Bundle.stringAtoms, a.before a0 Z = true)
    (eT : T.heap = h) (hS : s.Since vm0 k0) (hk : k0 ≤ h.size) (hd : decode c.code pc = .ok (.ldc index, 2)) (n : Nat) (hn : 4 * text.toList.length ≤ n) (hbig : n ≤ 536870912) (hc : cells + 2 ≤ R.cells) (hl : slots + (n + 4) ≤ R.slots)
    (K : ∀ a T' h' k1, Stand p l e R (s.setVm T'.vm) m args below meth c T' locs (cells + 2) (slots + (n + 4)) → T'.heap = h' → Ext h h' → s.Since T'.vm k1 → k1 ≤ h'.size → Z.Warmed39 (s.setVm T'.vm).vm → (s.setVm T'.vm).vm.findClass own = some m.cls → own_Go p.tables e below Q (T'.setTop (mkF m (pc + 2) Ls (.ref a :: rest)))) :
    own_Go p.tables e below Q (T.setTop (mkF m pc Ls rest)) := by
  obtain ⟨a, T', h', k1, X', e', E, hS', hk', hZ', hown', st⟩ := ldcS X hx hZ hown w wS eT hS hk (g := mkF m pc Ls rest) rfl hd hn hbig hc hl
  exact own_by st (K a T' h' k1 X' e' E hS' hk' hZ' hown')
/-- ldc of "" (or another constant), nothing interned since Z: what it holds, and what the table books -/
theorem own_ldcV {own text : String} {index : Nat} (X : Stand p l e R (s.setVm vm0) m args below meth c T locs cells slots) (hx : p.tables.exec = Jvm.exec) (hZ : Z.Warmed39 (s.setVm vm0).vm) (hown : (s.setVm vm0).vm.findClass own = some m.cls) (w : (Cond.stringLink own index text).before a0 Z = true) (wS : ∀ a ∈ Bundle.stringAtoms, a.before a0 Z = true)
    (eT : T.heap = h) (hS : s.Since vm0 k0) (hk : k0 ≤ h.size) (N : Fr s.heap.size locs) (hkeep : ∀ (b : Addr) (cl : Cell), Z.heap[b]? = some cl → s.heap[b]? = some cl) (I : vm0.interned = Z.vm.interned) (hh : Jvm.Lit.constHeld Z own index) (hcw : Jvm.Lit.compactW.before a0 Z = true)
    (vs : List Value) (z : Int32) (ht : (∀ c ∈ text.toList, c.toNat < 256) ∧ text.toList.map (fun c => Value.int (Jvm.Lit.byteI c.toNat.toUInt16)) = vs) (hz : ¬ z < 0) (hl : z.toNatClampNeg = vs.length)
    (hd : decode c.code pc = .ok (.ldc index, 2)) (n : Nat) (hn : 4 * text.toList.length ≤ n) (hbig : n ≤ 536870912) (hc : cells + 2 ≤ R.cells) (hl' : slots + (n + 4) ≤ R.slots)
    (K : ∀ a T' h' k1 b, Stand p l e R (s.setVm T'.vm) m args below meth c T' locs (cells + 2) (slots + (n + 4)) → T'.heap = h' → Ext h h' → s.Since T'.vm k1 → k1 ≤ h'.size → Z.Warmed39 (s.setVm T'.vm).vm → (s.setVm T'.vm).vm.findClass own = some m.cls →
      Fld Z h' a "java/lang/String" "coder" "B" (.int 0) → Fld Z h' a "java/lang/String" "value" "[B" (.ref b) → Lit (s.setVm T'.vm) own index a → own_Go p.tables e below Q (T'.setTop (mkF m (pc + 2) Ls (.ref a :: rest)))) :
    own_Go p.tables e below Q (T.setTop (mkF m pc Ls rest)) := by
  obtain ⟨a, T', h', k1, b, k, X', e', E, hS', hk', hZ', hown', -, F1, F2, -, -, -, -, Li, st⟩ := ldcSVL X hx hZ hown w wS eT hS hk N hkeep (Ts := []) ⟨#[], by simpa using I, fun q hq => by simp at hq⟩ (by simp) hh hcw ht hz hl (g := mkF m pc Ls rest) rfl hd hn hbig hc hl'
  exact own_by st (K a T' h' k1 b X' e' E hS' hk' hZ' hown' F1 F2 Li)
/-- a call of <init> whose law may intern -/
theorem own_callIW {own : String} {index : Nat} {y : MethodName} {bytes : ByteArray} {maxL : Nat} {rm : Room} {as' : Array Value} {Qc : Option Value → Heap → List Loc → Prop} {St : List Value} (X : Stand p l e R (s.setVm vm0) m args below meth c T locs cells slots) (hx : p.tables.exec = Jvm.exec) (hZ : Z.Warmed39 (s.setVm vm0).vm) (hown : (s.setVm vm0).vm.findClass own = some m.cls) (hy1 : y.name = "<init>")
    (w1 : (Cond.methodLink own index y).before a0 Z = true) (w2 : (Cond.instanceMethod y).before a0 Z = true) (w3 : (Cond.initialized y.cls).before a0 Z = true) (w4 : (Cond.code y bytes maxL none).before a0 Z = true) (hy : y.cls ≠ "java/lang/invoke/MethodHandle" ∧ y.cls ≠ "java/lang/invoke/VarHandle")
    (hI : vm0.interned = Z.vm.interned) (hS : s.Since vm0 k0) (hk : k0 ≤ h.size)
    (hM : MetFree l y (head1 [Cond.code y bytes maxL none] rm) (fun a U => a = as' ∧ Z.Warmed39 U.vm ∧ U.heap = h ∧ U.vm.interned = Z.vm.interned) (fun _ _ _ _ _ => True) (fun _ U o U' => ∃ v L, o = .returned v ∧ Qc v U'.heap L ∧ ReturnedEndW U o U' L rm.cells rm.slots))
    (eT : T.heap = h) (hsize : Ls.size = c.maxLocals) (b : Addr) (argsL rest : List Value) (hst : St = argsL.reverse ++ .ref b :: rest) (hlen : ∀ sig, parseMethodDescriptor y.desc = some sig → argsL.length = sig.parameters.length) (ha : (Value.ref b :: argsL).toArray = as') (W : Nat) (hW : 2 * 0 + (rest.map fun v => v.category).sum ≤ W)
    (hf : rm.frames + 1 ≤ R.frames) (hl : W + (maxL + 11) + rm.locals ≤ R.locals) (hc : cells + rm.cells ≤ R.cells) (hs : slots + rm.slots ≤ R.slots) (hd : decode c.code pc = .ok (.invokespecial index, 3))
    (K : ∀ T' Lc v, Stand p l e R (s.setVm T'.vm) m args below meth c T' (locs ++ Lc) (cells + rm.cells) (slots + rm.slots) → s.Since T'.vm T'.heap.size → Z.Warmed39 (s.setVm T'.vm).vm → (s.setVm T'.vm).vm.findClass own = some m.cls → Qc v T'.heap Lc → own_Go p.tables e below Q (T'.setTop (mkF m (pc + 3) Ls (v.toList ++ rest)))) :
    own_Go p.tables e below Q (T.setTop (mkF m pc Ls St)) := by
  have B : BackS l R p e below (s.setVm vm0) args y 3 W (fun A a => a = as' ∧ A.U.heap = h ∧ A.cells + rm.cells ≤ R.cells ∧ A.slots + rm.slots ≤ R.slots)
      (fun A _ v B => ∃ L, Qc v B.U.heap L ∧ B.locs = A.locs ++ L ∧ B.cells = A.cells + rm.cells ∧ B.slots = A.slots + rm.slots) := by
    refine BackS.of_freeW (bytes := bytes) (maxL := maxL) (ret := none) (E := fun _ _ o t L k n => k = rm.cells ∧ n = rm.slots ∧ ∃ v, o = .returned v ∧ Qc v t.heap L) hM hf hl ?_ ?_ (fun _ _ _ _ _ _ _ _ _ => trivial) ?_ ?_
    · intro m meth c A a Y hp
      have hU : Z.Warmed39 A.U.vm := wtrans hZ Y.warmed
      exact ⟨by show (Cond.and _ .tt).before a A.U = true; rw [Cond.before_and, mv hU w4]; rfl, mv hU w4, mv hU w3, hp.2.2⟩
    · intro m meth c A a g mk Y hp
      exact ⟨hp.1, wtrans hZ Y.warmed, hp.2.1, (show A.U.vm.interned = _ from Y.warmed.interned_eq).trans hI⟩
    · rintro _ _ _ _ ⟨v, L, h1, h2, h3⟩
      exact ⟨L, _, _, h3, rfl, rfl, v, h1, h2⟩
    · rintro m meth c A a g mk v t L k n Y hp _ _ ⟨rfl, rfl, v', e3, e4⟩
      cases e3
      exact ⟨L, e4, rfl, rfl, rfl⟩
  obtain ⟨v, _, ⟨T1, L1, k1, n1⟩, -, X1, hS1, hg1, ⟨Lc, hQ, l1, y1, z1⟩, st1⟩ := X.specialBackS hx (y := y) hy1 hown (mvT hZ w1) (mvT hZ w2) (mvT hZ w4) hy B (g := mkF m pc Ls St) rfl hsize (Steps.refl _) (a := b) (argsL := argsL) (rest := rest) hlen hst hW hd (fun vm1 _ => ⟨ha, eT, hc, hs⟩)
  dsimp only [Pt.U, Pt.locs, Pt.cells, Pt.slots] at X1 l1 y1 z1 st1 hQ hS1 hg1
  subst l1 y1 z1
  have hal := hS1.1
  exact own_tr st1 (K T1 Lc v X1 (foldS hS (eT ▸ hk) hS1 hg1) (State.Warmed39.trans (t := s.setVm vm0) hZ hal) (by rw [show (s.setVm T1.vm).vm = T1.vm from rfl, hal.alike.findClass]; exact hown) hQ)
end OwnWide

section OwnHeld
/-! bodies that read a String constant: the invariant CHv/CHr of the library goes along -/
variable {p : Program} {l : Launch} {e : Env} {R : Room} {s : State} {m : MethodId} {args : Array Value} {below : List Frame} {meth : Method} {c : Code} {T : State} {locs : List Loc} {cells slots : Nat} {Z : State} {h : Heap} {a : Addr} {pc : Nat} {Ls : Array Slot} {rest : List Value} {t : State} {Q : Outcome → State → Prop} {C S : Nat} {Qh : Option Value → Heap → List Loc → Prop} {vm0 : Vm} {k0 : Nat} {a0 : Array Value} {EL : List (String × Nat)} {v00 : Vm} {h00 : Heap}
def own_QH (Z : State) (EL : List (String × Nat)) (s : State) (Qh : Option Value → Heap → List Loc → Prop) (C S : Nat) (o : Outcome) (U' : State) : Prop := ∃ v L, o = .returned v ∧ Qh v U'.heap L ∧ CHr Z EL s.vm s.heap U'.vm U'.heap ∧ ReturnedEndW s o U' L C S
theorem own_safe {ty : FieldType} {n : Nat} {f : Nat → Value} {vm : Vm} (hal : Z.vm.Alike vm) (A : own_Ar Z h a ty n f) (ht : ty ≠ .byte) : Safe Z EL vm h a := by obtain ⟨cl, r, -⟩ := A; exact Safe.arr hal r ht
theorem own_leaveH (X : Stand p l e R (s.setVm vm0) m args below meth c T locs cells slots) (hlk : meth.locks = false) (hS : s.Since vm0 k0) (hk : k0 ≤ T.heap.size) (hZ : Z.Warmed39 vm0) (hEL : EW Z a0 EL) (hh : s.heap = h00) (CH : CHr Z EL s.vm h00 vm0 T.heap) {v : Option Value} (hv : meth.sig.returnType = none → v = none) {f : JFrame}
    (hst : ∀ fs, (∀ (f : JFrame) (acts : List Action), f.method = m → f.locked = none → f.entered = [] → (doReturn e (T.setTop f) acts v).1 = T.setFrames fs) → Steps p.tables e below (T.setTop f) (T.setFrames fs))
    (hq : Qh v T.heap locs) (hC : cells ≤ C) (hS' : slots ≤ S) : own_Go p.tables e below (own_QH Z EL s Qh C S) (T.setTop f) := by
  obtain ⟨fs, hr, hrun, hended, q1, q2, q3, q4⟩ := X.leaveW hS hk (v := v) hv hlk
  subst hh
  exact ⟨_, _, hst fs hr, hrun, hended, _, _, rfl, hq, (show CHr Z EL s.vm s.heap T.vm T.heap from CH.trans (CHv.at X hZ hEL CH.1)), q1, q2, q3, q4.mono hC hS'⟩
theorem own_retHI (X : Stand p l e R (s.setVm vm0) m args below meth c T locs cells slots) (hx : p.tables.exec = Jvm.exec) (hlk : meth.locks = false) (eT : T.heap = h) (hret : meth.sig.returnType = some .int) (hS : s.Since vm0 k0) (hk : k0 ≤ h.size) (hZ : Z.Warmed39 (s.setVm vm0).vm) (hEL : EW Z a0 EL) (hh : s.heap = h00) (CH : CHr Z EL s.vm h00 vm0 h) {z : Int32} (hd : decode c.code pc = .ok (.ireturn, 1))
    (hq : Qh (some (.int z)) h locs) (hC : cells ≤ C) (hS' : slots ≤ S) : own_Go p.tables e below (own_QH Z EL s Qh C S) (T.setTop (mkF m pc Ls (.int z :: rest))) :=
  own_leaveH X hlk hS (eT ▸ hk) hZ hEL hh (eT ▸ CH) (v := some (.int z)) (fun q => by rw [hret] at q; cases q) (fun fs hr => retOut X hx hret rfl (Or.inl ⟨rfl, Or.inl rfl, z, rfl⟩) hd hr) (eT ▸ hq) hC hS'
theorem own_retHN (X : Stand p l e R (s.setVm vm0) m args below meth c T locs cells slots) (hx : p.tables.exec = Jvm.exec) (hlk : meth.locks = false) (eT : T.heap = h) {t : FieldType} (hret : meth.sig.returnType = some t) (hS : s.Since vm0 k0) (hk : k0 ≤ h.size) (hZ : Z.Warmed39 (s.setVm vm0).vm) (hEL : EW Z a0 EL) (hh : s.heap = h00) (CH : CHr Z EL s.vm h00 vm0 h) (ht : t = .boolean ∨ t = .byte ∨ t = .char ∨ t = .short) {z : Int32} (hd : decode c.code pc = .ok (.ireturn, 1))
    (hq : Qh (some (.int (nar t z))) h locs) (hC : cells ≤ C) (hS' : slots ≤ S) : own_Go p.tables e below (own_QH Z EL s Qh C S) (T.setTop (mkF m pc Ls (.int z :: rest))) :=
  own_leaveH X hlk hS (eT ▸ hk) hZ hEL hh (eT ▸ CH) (v := some (.int (nar t z))) (fun q => by rw [hret] at q; cases q) (fun fs hr => retN X hx hret ht hd hr) (eT ▸ hq) hC hS'
theorem own_retHV (X : Stand p l e R (s.setVm vm0) m args below meth c T locs cells slots) (hx : p.tables.exec = Jvm.exec) (hlk : meth.locks = false) (eT : T.heap = h) (hret : meth.sig.returnType = none) (hS : s.Since vm0 k0) (hk : k0 ≤ h.size) (hZ : Z.Warmed39 (s.setVm vm0).vm) (hEL : EW Z a0 EL) (hh : s.heap = h00) (CH : CHr Z EL s.vm h00 vm0 h) (hd : decode c.code pc = .ok (.return_, 1))
    (hq : Qh none h locs) (hC : cells ≤ C) (hS' : slots ≤ S) : own_Go p.tables e below (own_QH Z EL s Qh C S) (T.setTop (mkF m pc Ls [])) :=
  own_leaveH X hlk hS (eT ▸ hk) hZ hEL hh (eT ▸ CH) (v := none) (fun _ => rfl) (fun fs hr => X.returnOut hx hret hd hr) (eT ▸ hq) hC hS'
theorem own_ldcO {own text : String} {index : Nat} (X : Stand p l e R (s.setVm vm0) m args below meth c T locs cells slots) (hx : p.tables.exec = Jvm.exec) (hZ : Z.Warmed39 (s.setVm vm0).vm) (hown : (s.setVm vm0).vm.findClass own = some m.cls) (w : (Cond.stringLink own index text).before a0 Z = true) (wS : ∀ a ∈ Bundle.stringAtoms, a.before a0 Z = true)
    (eT : T.heap = h) (hS : s.Since vm0 k0) (hk : k0 ≤ h.size) (hEL : EW Z a0 EL) (CH : CHr Z EL v00 h00 vm0 h) (hd : decode c.code pc = .ok (.ldc index, 2)) (n : Nat) (hn : 4 * text.toList.length ≤ n) (hbig : n ≤ 536870912) (hc : cells + 2 ≤ R.cells) (hl : slots + (n + 4) ≤ R.slots)
    (K : ∀ a T' h' k1, Stand p l e R (s.setVm T'.vm) m args below meth c T' locs (cells + 2) (slots + (n + 4)) → T'.heap = h' → Ext h h' → s.Since T'.vm k1 → k1 ≤ h'.size → Z.Warmed39 (s.setVm T'.vm).vm → (s.setVm T'.vm).vm.findClass own = some m.cls → CHr Z EL v00 h00 T'.vm h' → own_Go p.tables e below Q (T'.setTop (mkF m (pc + 2) Ls (.ref a :: rest)))) :
    own_Go p.tables e below Q (T.setTop (mkF m pc Ls rest)) := by
  obtain ⟨a, T', h', k1, X', e', E, hS', hk', hZ', hown', hC, -, st⟩ := ldcOH X hx hZ hown w wS eT hS hk hEL CH.1 (g := mkF m pc Ls rest) rfl hd hn hbig hc hl
  exact own_by st (K a T' h' k1 X' e' E hS' hk' hZ' hown' (CH.trans hC))
theorem own_ldcC {own text : String} {index : Nat} (X : Stand p l e R (s.setVm vm0) m args below meth c T locs cells slots) (hx : p.tables.exec = Jvm.exec) (hZ : Z.Warmed39 (s.setVm vm0).vm) (hown : (s.setVm vm0).vm.findClass own = some m.cls) (w : (Cond.stringLink own index text).before a0 Z = true) (wS : ∀ a ∈ Bundle.stringAtoms, a.before a0 Z = true)
    (eT : T.heap = h) (hS : s.Since vm0 k0) (hk : k0 ≤ h.size) (hEL : EW Z a0 EL) (hmem : (own, index) ∈ EL) (CH : CHr Z EL v00 h00 vm0 h)
    (vs : List Value) (z : Int32) (ht : (∀ c ∈ text.toList, c.toNat < 256) ∧ text.toList.map (fun c => Value.int (Jvm.Lit.byteI c.toNat.toUInt16)) = vs) (hz : ¬ z < 0) (N : Nat) (hN : z.toNatClampNeg = N) (hl : z.toNatClampNeg = vs.length) (f : Nat → Int32) (hf : ∀ j, j < N → vs.getD j (.int 0) = .int (f j))
    (hd : decode c.code pc = .ok (.ldc index, 2)) (n : Nat) (hn : 4 * text.toList.length ≤ n) (hbig : n ≤ 536870912) (hc : cells + 2 ≤ R.cells) (hl' : slots + (n + 4) ≤ R.slots)
    (K : ∀ a T' h' k1 b, Stand p l e R (s.setVm T'.vm) m args below meth c T' locs (cells + 2) (slots + (n + 4)) → T'.heap = h' → Ext h h' → s.Since T'.vm k1 → k1 ≤ h'.size → Z.Warmed39 (s.setVm T'.vm).vm → (s.setVm T'.vm).vm.findClass own = some m.cls → CHr Z EL v00 h00 T'.vm h' →
      Exa Z h' a "java/lang/String" → Fld Z h' a "java/lang/String" "coder" "B" (.int 0) → Fld Z h' a "java/lang/String" "value" "[B" (.ref b) → own_AI Z h' b .byte N f → Lit (s.setVm T'.vm) own index a → (∀ x, Safe Z EL T'.vm h' x → x ≠ a ∧ x ≠ b) → own_Go p.tables e below Q (T'.setTop (mkF m (pc + 2) Ls (.ref a :: rest)))) :
    own_Go p.tables e below Q (T.setTop (mkF m pc Ls rest)) := by
  obtain ⟨a, T', h', k1, b, k, X', e', E, hS', hk', hZ', hown', EX, F1, F2, ⟨cl, A, -, sz, -, H, -⟩, -, -, hC, hL, hne, st⟩ := ldcCH X hx hZ hown w wS eT hS hk hEL hmem CH.1 ht hz hl (g := mkF m pc Ls rest) rfl hd hn hbig hc hl'
  refine own_by st (K a T' h' k1 b X' e' E hS' hk' hZ' hown' (CH.trans hC) EX F1 F2 ⟨cl, A, sz.trans hN, fun j hj => ?_⟩ hL hne)
  rw [H j (by rw [sz, hN]; exact hj), hf j hj]
section
variable {own : String} {index : Nat} {y : MethodName} {bytes : ByteArray} {maxL : Nat} {ret : Option FieldType} {rm : Room} {as' : Array Value} {Qc : Option Value → Heap → List Loc → Prop} {St : List Value}
theorem own_callIH (X : Stand p l e R (s.setVm vm0) m args below meth c T locs cells slots) (hx : p.tables.exec = Jvm.exec) (hZ : Z.Warmed39 (s.setVm vm0).vm) (hown : (s.setVm vm0).vm.findClass own = some m.cls) (hy1 : y.name = "<init>")
    (w1 : (Cond.methodLink own index y).before a0 Z = true) (w2 : (Cond.instanceMethod y).before a0 Z = true) (w3 : (Cond.initialized y.cls).before a0 Z = true) (w4 : (Cond.code y bytes maxL none).before a0 Z = true) (hy : y.cls ≠ "java/lang/invoke/MethodHandle" ∧ y.cls ≠ "java/lang/invoke/VarHandle")
    (hEL : EW Z a0 EL) (CH : CHr Z EL v00 h00 vm0 h) (hS : s.Since vm0 k0) (hk : k0 ≤ h.size)
    (hM : MetFree l y (head1 [Cond.code y bytes maxL none] rm) (fun a U => a = as' ∧ Z.Warmed39 U.vm ∧ U.heap = h ∧ CHv Z EL U.vm h) (fun _ _ _ _ _ => True) (fun _ U o U' => ∃ v L, o = .returned v ∧ Qc v U'.heap L ∧ CHr Z EL U.vm U.heap U'.vm U'.heap ∧ ReturnedEndW U o U' L rm.cells rm.slots))
    (eT : T.heap = h) (hsize : Ls.size = c.maxLocals) (b : Addr) (argsL rest : List Value) (hst : St = argsL.reverse ++ .ref b :: rest) (hlen : ∀ sig, parseMethodDescriptor y.desc = some sig → argsL.length = sig.parameters.length) (ha : (Value.ref b :: argsL).toArray = as') (W : Nat) (hW : 2 * 0 + (rest.map fun v => v.category).sum ≤ W)
    (hf : rm.frames + 1 ≤ R.frames) (hl : W + (maxL + 11) + rm.locals ≤ R.locals) (hc : cells + rm.cells ≤ R.cells) (hs : slots + rm.slots ≤ R.slots) (hd : decode c.code pc = .ok (.invokespecial index, 3))
    (K : ∀ T' Lc v, Stand p l e R (s.setVm T'.vm) m args below meth c T' (locs ++ Lc) (cells + rm.cells) (slots + rm.slots) → s.Since T'.vm T'.heap.size → Z.Warmed39 (s.setVm T'.vm).vm → (s.setVm T'.vm).vm.findClass own = some m.cls → CHr Z EL v00 h00 T'.vm T'.heap → Qc v T'.heap Lc → own_Go p.tables e below Q (T'.setTop (mkF m (pc + 3) Ls (v.toList ++ rest)))) :
    own_Go p.tables e below Q (T.setTop (mkF m pc Ls St)) := by
  obtain ⟨v, _, ⟨T1, L1, k1, n1⟩, -, X1, hS1, hg1, ⟨Lc, hQ, l1, y1, z1, hC⟩, st1⟩ := X.specialBackS hx (y := y) hy1 hown (mvT hZ w1) (mvT hZ w2) (mvT hZ w4) hy (backOfSH (W := W) hM hZ w4 w3 hf hl hEL CH.1) (g := mkF m pc Ls St) rfl hsize (Steps.refl _) (a := b) (argsL := argsL) (rest := rest) hlen hst hW hd (fun vm1 _ => ⟨ha, eT, hc, hs⟩)
  dsimp only [Pt.U, Pt.locs, Pt.cells, Pt.slots] at X1 l1 y1 z1 st1 hQ hS1 hg1 hC
  subst l1 y1 z1
  have hal := hS1.1
  exact own_tr st1 (K T1 Lc v X1 (foldS hS (eT ▸ hk) hS1 hg1) (State.Warmed39.trans (t := s.setVm vm0) hZ hal) (by rw [show (s.setVm T1.vm).vm = T1.vm from rfl, hal.alike.findClass]; exact hown) (CH.trans hC) hQ)
theorem own_callVH {C : String} {z : MethodName} (X : Stand p l e R (s.setVm vm0) m args below meth c T locs cells slots) (hx : p.tables.exec = Jvm.exec) (hZ : Z.Warmed39 (s.setVm vm0).vm) (hown : (s.setVm vm0).vm.findClass own = some m.cls)
    (w1 : (Cond.methodLink own index y).before a0 Z = true) (w2 : (Cond.declares y).before a0 Z = true) (hnf : NotFace (s.setVm vm0) y) (w5 : (Cond.selects C y z).before a0 Z = true) (w6 : (Cond.instanceMethod z).before a0 Z = true) (w3 : (Cond.initialized z.cls).before a0 Z = true) (w4 : (Cond.code z bytes maxL ret).before a0 Z = true) (hy : y.cls ≠ "java/lang/invoke/MethodHandle" ∧ y.cls ≠ "java/lang/invoke/VarHandle")
    (hEL : EW Z a0 EL) (CH : CHr Z EL v00 h00 vm0 h) (hS : s.Since vm0 k0) (hk : k0 ≤ h.size)
    (hM : MetFree l z (head1 [Cond.code z bytes maxL ret] rm) (fun a U => a = as' ∧ Z.Warmed39 U.vm ∧ U.heap = h ∧ CHv Z EL U.vm h) (fun _ _ _ _ _ => True) (fun _ U o U' => ∃ v L, o = .returned v ∧ Qc v U'.heap L ∧ CHr Z EL U.vm U.heap U'.vm U'.heap ∧ ReturnedEndW U o U' L rm.cells rm.slots))
    (eT : T.heap = h) (b : Addr) (E : Exa Z h b C) (hsize : Ls.size = c.maxLocals) (argsL rest : List Value) (hst : St = argsL.reverse ++ .ref b :: rest) (hlen : ∀ sig, parseMethodDescriptor y.desc = some sig → argsL.length = sig.parameters.length) (ha : (Value.ref b :: argsL).toArray = as') (W : Nat) (hW : 2 * 0 + (rest.map fun v => v.category).sum ≤ W)
    (hf : rm.frames + 1 ≤ R.frames) (hl : W + (maxL + 11) + rm.locals ≤ R.locals) (hc : cells + rm.cells ≤ R.cells) (hs : slots + rm.slots ≤ R.slots) (hd : decode c.code pc = .ok (.invokevirtual index, 3))
    (K : ∀ T' Lc v, Stand p l e R (s.setVm T'.vm) m args below meth c T' (locs ++ Lc) (cells + rm.cells) (slots + rm.slots) → s.Since T'.vm T'.heap.size → Z.Warmed39 (s.setVm T'.vm).vm → (s.setVm T'.vm).vm.findClass own = some m.cls → CHr Z EL v00 h00 T'.vm T'.heap → Qc v T'.heap Lc → own_Go p.tables e below Q (T'.setTop (mkF m (pc + 3) Ls (v.toList ++ rest)))) :
    own_Go p.tables e below Q (T.setTop (mkF m pc Ls St)) := by
  obtain ⟨cq, kq, qa, qb, qc⟩ := isOf hZ eT E
  obtain ⟨v, _, ⟨T1, L1, k1, n1⟩, -, X1, hS1, hg1, ⟨Lc, hQ, l1, y1, z1, hC⟩, st1⟩ := X.virtualBackS hx (y := y) (z := z) hown (mvT hZ w1) (mvT hZ w2) hnf (mvT hZ w5) (mvT hZ w6) hy (backOfSH (W := W) hM hZ w4 w3 hf hl hEL CH.1) qa qc (g := mkF m pc Ls St) rfl hsize (Steps.refl _) (argsL := argsL) (rest := rest) hlen hst hW hd (fun vm1 _ => ⟨ha, eT, hc, hs⟩)
  dsimp only [Pt.U, Pt.locs, Pt.cells, Pt.slots] at X1 l1 y1 z1 st1 hQ hS1 hg1 hC
  subst l1 y1 z1
  have hal := hS1.1
  exact own_tr st1 (K T1 Lc v X1 (foldS hS (eT ▸ hk) hS1 hg1) (State.Warmed39.trans (t := s.setVm vm0) hZ hal) (by rw [show (s.setVm T1.vm).vm = T1.vm from rfl, hal.alike.findClass]; exact hown) (CH.trans hC) hQ)
/-- a static call through a nest-mate's entry -/
theorem own_callSN {host : String} (X : Stand p l e R s m args below meth c T locs cells slots) (hx : p.tables.exec = Jvm.exec) (hZ : Z.Warmed39 s.vm) (hown : s.vm.findClass own = some m.cls)
    (w1 : (Cond.methodLinkNest own index y host).before a0 Z = true) (w2 : (Cond.static y).before a0 Z = true) (w3 : (Cond.initialized y.cls).before a0 Z = true) (w4 : (Cond.code y bytes maxL ret).before a0 Z = true) (hy : y.cls ≠ "java/lang/invoke/MethodHandle" ∧ y.cls ≠ "java/lang/invoke/VarHandle")
    (hM : MetFree l y (head1 [Cond.code y bytes maxL ret] rm) (fun a U => a = as' ∧ Z.Warmed39 U.vm ∧ U.heap = h) (fun _ _ _ _ _ => True) (fun _ U o U' => ∃ v L, o = .returned v ∧ Qc v U'.heap L ∧ FrameEnd U o U' L rm.cells rm.slots))
    (eT : T.heap = h) (hsize : Ls.size = c.maxLocals) (argsL rest : List Value) (hst : St = argsL.reverse ++ rest) (hlen : ∀ sig, parseMethodDescriptor y.desc = some sig → argsL.length = sig.parameters.length) (ha : argsL.toArray = as') (W : Nat) (hW : 2 * 0 + (rest.map fun v => v.category).sum ≤ W)
    (hf : rm.frames + 1 ≤ R.frames) (hl : W + (maxL + 11) + rm.locals ≤ R.locals) (hc : cells + rm.cells ≤ R.cells) (hs : slots + rm.slots ≤ R.slots) (hd : decode c.code pc = .ok (.invokestatic index, 3))
    (K : ∀ T' Lc v, Stand p l e R s m args below meth c T' (locs ++ Lc) (cells + rm.cells) (slots + rm.slots) → Qc v T'.heap Lc → own_Go p.tables e below Q (T'.setTop (mkF m (pc + 3) Ls (v.toList ++ rest)))) :
    own_Go p.tables e below Q (T.setTop (mkF m pc Ls St)) := by
  obtain ⟨v, _, ⟨T1, L1, k1, n1⟩, -, X1, ⟨Lc, hQ, l1, y1, z1⟩, st1⟩ := Jvm.RoadKit.callSN X hx (y := y) hown (Cond.methodLinkNest_wide hZ w1 :) (mvT hZ w2) (mvT hZ w3) (mvT hZ w4) hy (backOf (W := W) hM hZ w4 w3 hf hl) (g := mkF m pc Ls St) rfl hsize (argsL := argsL) (rest := rest) hlen hst hW hd (fun _ _ => ⟨ha, eT, hc, hs⟩)
  dsimp only [Pt.U, Pt.locs, Pt.cells, Pt.slots] at X1 l1 y1 z1 st1 hQ
  subst l1 y1 z1
  exact own_tr st1 (K T1 Lc v X1 hQ)
end
end OwnHeld

theorem own_wSin : ∀ a ∈ Bundle.stringAtoms, a ∈ tables_1 := by decide +kernel
theorem own_wS {Z : State} {a0 : Array Value} (hw : ∀ d ∈ tables_1, d.before a0 Z = true) : ∀ a ∈ Bundle.stringAtoms, a.before a0 Z = true := fun a ha => hw a (own_wSin a ha)
theorem pn_0 : plainName "com/example/libmakespan/libmakespan/UnitsResetPinLaw" = true := by first | (simp [plainName, overriddenIn]; done) | decide +kernel
theorem d1_0 : decode jdk_42_method_3_code 0 = .ok (.aload_n 0, 1) := by decide +kernel
theorem d1_1 : decode jdk_42_method_3_code 1 = .ok (.aload_n 1, 1) := by decide +kernel
theorem d1_2 : decode jdk_42_method_3_code 2 = .ok (.iconst 0, 1) := by decide +kernel
theorem d1_3 : decode jdk_42_method_3_code 3 = .ok (.aload_n 1, 1) := by decide +kernel
theorem d1_4 : decode jdk_42_method_3_code 4 = .ok (.arraylength, 1) := by decide +kernel
theorem d1_5 : decode jdk_42_method_3_code 5 = .ok (.aconst_null, 1) := by decide +kernel
theorem d1_6 : decode jdk_42_method_3_code 6 = .ok (.invokespecial 27, 3) := by decide +kernel
theorem d1_9 : decode jdk_42_method_3_code 9 = .ok (.return_, 1) := by decide +kernel
theorem pn_1 : plainName "java/lang/String" = true := by first | (simp [plainName, overriddenIn]; done) | decide +kernel
theorem d2_0 : decode jdk_42_method_149_code 0 = .ok (.aload_n 0, 1) := by decide +kernel
theorem d2_1 : decode jdk_42_method_149_code 1 = .ok (.invokespecial 1, 3) := by decide +kernel
theorem d2_4 : decode jdk_42_method_149_code 4 = .ok (.iload_n 3, 1) := by decide +kernel
theorem d2_5 : decode jdk_42_method_149_code 5 = .ok (.ifCond .ne 22, 3) := by decide +kernel
theorem d2_8 : decode jdk_42_method_149_code 8 = .ok (.aload_n 0, 1) := by decide +kernel
theorem d2_9 : decode jdk_42_method_149_code 9 = .ok (.ldc 7, 2) := by decide +kernel
theorem d2_11 : decode jdk_42_method_149_code 11 = .ok (.getfield 9, 3) := by decide +kernel
theorem d2_14 : decode jdk_42_method_149_code 14 = .ok (.putfield 9, 3) := by decide +kernel
theorem d2_17 : decode jdk_42_method_149_code 17 = .ok (.aload_n 0, 1) := by decide +kernel
theorem d2_18 : decode jdk_42_method_149_code 18 = .ok (.ldc 7, 2) := by decide +kernel
theorem d2_20 : decode jdk_42_method_149_code 20 = .ok (.getfield 15, 3) := by decide +kernel
theorem d2_23 : decode jdk_42_method_149_code 23 = .ok (.putfield 15, 3) := by decide +kernel
theorem d2_26 : decode jdk_42_method_149_code 26 = .ok (.return_, 1) := by decide +kernel
theorem d2_27 : decode jdk_42_method_149_code 27 = .ok (.getstatic 38, 3) := by decide +kernel
theorem d2_30 : decode jdk_42_method_149_code 30 = .ok (.ifCond .eq 28, 3) := by decide +kernel
theorem d2_33 : decode jdk_42_method_149_code 33 = .ok (.aload_n 1, 1) := by decide +kernel
theorem d2_34 : decode jdk_42_method_149_code 34 = .ok (.iload_n 2, 1) := by decide +kernel
theorem d2_35 : decode jdk_42_method_149_code 35 = .ok (.iload_n 3, 1) := by decide +kernel
theorem d2_36 : decode jdk_42_method_149_code 36 = .ok (.invokestatic 177, 3) := by decide +kernel
theorem d2_39 : decode jdk_42_method_149_code 39 = .ok (.astore 5, 2) := by decide +kernel
theorem d2_41 : decode jdk_42_method_149_code 41 = .ok (.aload_n 0, 1) := by decide +kernel
theorem d2_42 : decode jdk_42_method_149_code 42 = .ok (.aload 5, 2) := by decide +kernel
theorem d2_44 : decode jdk_42_method_149_code 44 = .ok (.iload_n 3, 1) := by decide +kernel
theorem d2_45 : decode jdk_42_method_149_code 45 = .ok (.invokestatic 47, 3) := by decide +kernel
theorem d2_48 : decode jdk_42_method_149_code 48 = .ok (.putfield 15, 3) := by decide +kernel
theorem d2_51 : decode jdk_42_method_149_code 51 = .ok (.aload_n 0, 1) := by decide +kernel
theorem d2_52 : decode jdk_42_method_149_code 52 = .ok (.aload 5, 2) := by decide +kernel
theorem d2_54 : decode jdk_42_method_149_code 54 = .ok (.putfield 9, 3) := by decide +kernel
theorem d2_57 : decode jdk_42_method_149_code 57 = .ok (.return_, 1) := by decide +kernel
theorem d2_58 : decode jdk_42_method_149_code 58 = .ok (.aload_n 0, 1) := by decide +kernel
theorem d2_59 : decode jdk_42_method_149_code 59 = .ok (.iconst 1, 1) := by decide +kernel
theorem d2_60 : decode jdk_42_method_149_code 60 = .ok (.putfield 15, 3) := by decide +kernel
theorem d2_63 : decode jdk_42_method_149_code 63 = .ok (.aload_n 0, 1) := by decide +kernel
theorem d2_64 : decode jdk_42_method_149_code 64 = .ok (.aload_n 1, 1) := by decide +kernel
theorem d2_65 : decode jdk_42_method_149_code 65 = .ok (.iload_n 2, 1) := by decide +kernel
theorem d2_66 : decode jdk_42_method_149_code 66 = .ok (.iload_n 3, 1) := by decide +kernel
theorem d2_67 : decode jdk_42_method_149_code 67 = .ok (.invokestatic 180, 3) := by decide +kernel
theorem d2_70 : decode jdk_42_method_149_code 70 = .ok (.putfield 9, 3) := by decide +kernel
theorem d2_73 : decode jdk_42_method_149_code 73 = .ok (.return_, 1) := by decide +kernel
theorem pn_2 : plainName "java/lang/String" = true := by first | (simp [plainName, overriddenIn]; done) | decide +kernel
theorem d4_0 : decode jdk_52_method_16_code 0 = .ok (.iload_n 2, 1) := by decide +kernel
theorem d4_1 : decode jdk_52_method_16_code 1 = .ok (.newarray .byte, 2) := by decide +kernel
theorem d4_3 : decode jdk_52_method_16_code 3 = .ok (.astore_n 3, 1) := by decide +kernel
theorem d4_4 : decode jdk_52_method_16_code 4 = .ok (.aload_n 0, 1) := by decide +kernel
theorem d4_5 : decode jdk_52_method_16_code 5 = .ok (.iload_n 1, 1) := by decide +kernel
theorem d4_6 : decode jdk_52_method_16_code 6 = .ok (.aload_n 3, 1) := by decide +kernel
theorem d4_7 : decode jdk_52_method_16_code 7 = .ok (.iconst 0, 1) := by decide +kernel
theorem d4_8 : decode jdk_52_method_16_code 8 = .ok (.iload_n 2, 1) := by decide +kernel
theorem d4_9 : decode jdk_52_method_16_code 9 = .ok (.invokestatic 115, 3) := by decide +kernel
theorem d4_12 : decode jdk_52_method_16_code 12 = .ok (.istore 4, 2) := by decide +kernel
theorem d4_14 : decode jdk_52_method_16_code 14 = .ok (.iload 4, 2) := by decide +kernel
theorem d4_16 : decode jdk_52_method_16_code 16 = .ok (.iload_n 2, 1) := by decide +kernel
theorem d4_17 : decode jdk_52_method_16_code 17 = .ok (.if_icmp .eq 40, 3) := by decide +kernel
theorem d4_20 : decode jdk_52_method_16_code 20 = .ok (.aload_n 0, 1) := by decide +kernel
theorem d4_21 : decode jdk_52_method_16_code 21 = .ok (.iload_n 1, 1) := by decide +kernel
theorem d4_22 : decode jdk_52_method_16_code 22 = .ok (.iload_n 2, 1) := by decide +kernel
theorem d4_23 : decode jdk_52_method_16_code 23 = .ok (.invokestatic 119, 3) := by decide +kernel
theorem d4_26 : decode jdk_52_method_16_code 26 = .ok (.astore 5, 2) := by decide +kernel
theorem d4_28 : decode jdk_52_method_16_code 28 = .ok (.aload 5, 2) := by decide +kernel
theorem d4_30 : decode jdk_52_method_16_code 30 = .ok (.iload 4, 2) := by decide +kernel
theorem d4_32 : decode jdk_52_method_16_code 32 = .ok (.invokestatic 71, 3) := by decide +kernel
theorem d4_35 : decode jdk_52_method_16_code 35 = .ok (.sipush 255, 3) := by decide +kernel
theorem d4_38 : decode jdk_52_method_16_code 38 = .ok (.if_icmp .gt 16, 3) := by decide +kernel
theorem d4_41 : decode jdk_52_method_16_code 41 = .ok (.aload 5, 2) := by decide +kernel
theorem d4_43 : decode jdk_52_method_16_code 43 = .ok (.iconst 0, 1) := by decide +kernel
theorem d4_44 : decode jdk_52_method_16_code 44 = .ok (.aload_n 3, 1) := by decide +kernel
theorem d4_45 : decode jdk_52_method_16_code 45 = .ok (.iconst 0, 1) := by decide +kernel
theorem d4_46 : decode jdk_52_method_16_code 46 = .ok (.iload_n 2, 1) := by decide +kernel
theorem d4_47 : decode jdk_52_method_16_code 47 = .ok (.invokestatic 123, 3) := by decide +kernel
theorem d4_50 : decode jdk_52_method_16_code 50 = .ok (.iload_n 2, 1) := by decide +kernel
theorem d4_51 : decode jdk_52_method_16_code 51 = .ok (.if_icmp .eq 6, 3) := by decide +kernel
theorem d4_54 : decode jdk_52_method_16_code 54 = .ok (.aload 5, 2) := by decide +kernel
theorem d4_56 : decode jdk_52_method_16_code 56 = .ok (.areturn, 1) := by decide +kernel
theorem d4_57 : decode jdk_52_method_16_code 57 = .ok (.aload_n 3, 1) := by decide +kernel
theorem d4_58 : decode jdk_52_method_16_code 58 = .ok (.areturn, 1) := by decide +kernel
theorem pn_4 : plainName "java/lang/StringUTF16" = true := by first | (simp [plainName, overriddenIn]; done) | decide +kernel
theorem d5_0 : decode jdk_52_method_21_code 0 = .ok (.iconst 0, 1) := by decide +kernel
theorem d5_1 : decode jdk_52_method_21_code 1 = .ok (.istore 5, 2) := by decide +kernel
theorem d5_3 : decode jdk_52_method_21_code 3 = .ok (.iload 5, 2) := by decide +kernel
theorem d5_5 : decode jdk_52_method_21_code 5 = .ok (.iload 4, 2) := by decide +kernel
theorem d5_7 : decode jdk_52_method_21_code 7 = .ok (.if_icmp .ge 37, 3) := by decide +kernel
theorem d5_10 : decode jdk_52_method_21_code 10 = .ok (.aload_n 0, 1) := by decide +kernel
theorem d5_11 : decode jdk_52_method_21_code 11 = .ok (.iload_n 1, 1) := by decide +kernel
theorem d5_12 : decode jdk_52_method_21_code 12 = .ok (.caload, 1) := by decide +kernel
theorem d5_13 : decode jdk_52_method_21_code 13 = .ok (.istore 6, 2) := by decide +kernel
theorem d5_15 : decode jdk_52_method_21_code 15 = .ok (.iload 6, 2) := by decide +kernel
theorem d5_17 : decode jdk_52_method_21_code 17 = .ok (.sipush 255, 3) := by decide +kernel
theorem d5_20 : decode jdk_52_method_21_code 20 = .ok (.if_icmp .le 6, 3) := by decide +kernel
theorem d5_23 : decode jdk_52_method_21_code 23 = .ok (.iload 5, 2) := by decide +kernel
theorem d5_25 : decode jdk_52_method_21_code 25 = .ok (.ireturn, 1) := by decide +kernel
theorem d5_26 : decode jdk_52_method_21_code 26 = .ok (.aload_n 2, 1) := by decide +kernel
theorem d5_27 : decode jdk_52_method_21_code 27 = .ok (.iload_n 3, 1) := by decide +kernel
theorem d5_28 : decode jdk_52_method_21_code 28 = .ok (.iload 6, 2) := by decide +kernel
theorem d5_30 : decode jdk_52_method_21_code 30 = .ok (.i2b, 1) := by decide +kernel
theorem d5_31 : decode jdk_52_method_21_code 31 = .ok (.bastore, 1) := by decide +kernel
theorem d5_32 : decode jdk_52_method_21_code 32 = .ok (.iinc 1 1, 3) := by decide +kernel
theorem d5_35 : decode jdk_52_method_21_code 35 = .ok (.iinc 3 1, 3) := by decide +kernel
theorem d5_38 : decode jdk_52_method_21_code 38 = .ok (.iinc 5 1, 3) := by decide +kernel
theorem d5_41 : decode jdk_52_method_21_code 41 = .ok (.goto (-38), 3) := by decide +kernel
theorem d5_44 : decode jdk_52_method_21_code 44 = .ok (.iload 4, 2) := by decide +kernel
theorem d5_46 : decode jdk_52_method_21_code 46 = .ok (.ireturn, 1) := by decide +kernel
theorem pn_5 : plainName "java/lang/StringUTF16" = true := by first | (simp [plainName, overriddenIn]; done) | decide +kernel
theorem d6_0 : decode jdk_52_method_15_code 0 = .ok (.iload_n 1, 1) := by decide +kernel
theorem d6_1 : decode jdk_52_method_15_code 1 = .ok (.aload_n 0, 1) := by decide +kernel
theorem d6_2 : decode jdk_52_method_15_code 2 = .ok (.arraylength, 1) := by decide +kernel
theorem d6_3 : decode jdk_52_method_15_code 3 = .ok (.isub, 1) := by decide +kernel
theorem d6_4 : decode jdk_52_method_15_code 4 = .ok (.bipush 31, 2) := by decide +kernel
theorem d6_6 : decode jdk_52_method_15_code 6 = .ok (.iushr, 1) := by decide +kernel
theorem d6_7 : decode jdk_52_method_15_code 7 = .ok (.i2b, 1) := by decide +kernel
theorem d6_8 : decode jdk_52_method_15_code 8 = .ok (.ireturn, 1) := by decide +kernel
theorem pn_6 : plainName "java/lang/StringUTF16" = true := by first | (simp [plainName, overriddenIn]; done) | decide +kernel
theorem d7_0 : decode jdk_42_method_139_code 0 = .ok (.getstatic 38, 3) := by decide +kernel
theorem d7_3 : decode jdk_42_method_139_code 3 = .ok (.ifCond .eq 23, 3) := by decide +kernel
theorem d7_6 : decode jdk_42_method_139_code 6 = .ok (.iload_n 0, 1) := by decide +kernel
theorem d7_7 : decode jdk_42_method_139_code 7 = .ok (.invokestatic 1015, 3) := by decide +kernel
theorem d7_10 : decode jdk_42_method_139_code 10 = .ok (.ifCond .eq 16, 3) := by decide +kernel
theorem d7_13 : decode jdk_42_method_139_code 13 = .ok (.new 10, 3) := by decide +kernel
theorem d7_16 : decode jdk_42_method_139_code 16 = .ok (.dup, 1) := by decide +kernel
theorem d7_17 : decode jdk_42_method_139_code 17 = .ok (.iload_n 0, 1) := by decide +kernel
theorem d7_18 : decode jdk_42_method_139_code 18 = .ok (.invokestatic 1018, 3) := by decide +kernel
theorem d7_21 : decode jdk_42_method_139_code 21 = .ok (.iconst 0, 1) := by decide +kernel
theorem d7_22 : decode jdk_42_method_139_code 22 = .ok (.invokespecial 209, 3) := by decide +kernel
theorem d7_25 : decode jdk_42_method_139_code 25 = .ok (.areturn, 1) := by decide +kernel
theorem d7_26 : decode jdk_42_method_139_code 26 = .ok (.new 10, 3) := by decide +kernel
theorem d7_29 : decode jdk_42_method_139_code 29 = .ok (.dup, 1) := by decide +kernel
theorem d7_30 : decode jdk_42_method_139_code 30 = .ok (.iload_n 0, 1) := by decide +kernel
theorem d7_31 : decode jdk_42_method_139_code 31 = .ok (.invokestatic 1021, 3) := by decide +kernel
theorem d7_34 : decode jdk_42_method_139_code 34 = .ok (.iconst 1, 1) := by decide +kernel
theorem d7_35 : decode jdk_42_method_139_code 35 = .ok (.invokespecial 209, 3) := by decide +kernel
theorem d7_38 : decode jdk_42_method_139_code 38 = .ok (.areturn, 1) := by decide +kernel
theorem pn_7 : plainName "java/lang/String" = true := by first | (simp [plainName, overriddenIn]; done) | decide +kernel
theorem d8_0 : decode jdk_43_method_3_code 0 = .ok (.iload_n 0, 1) := by decide +kernel
theorem d8_1 : decode jdk_43_method_3_code 1 = .ok (.sipush 255, 3) := by decide +kernel
theorem d8_4 : decode jdk_43_method_3_code 4 = .ok (.if_icmp .gt 7, 3) := by decide +kernel
theorem d8_7 : decode jdk_43_method_3_code 7 = .ok (.iconst 1, 1) := by decide +kernel
theorem d8_8 : decode jdk_43_method_3_code 8 = .ok (.goto 4, 3) := by decide +kernel
theorem d8_11 : decode jdk_43_method_3_code 11 = .ok (.iconst 0, 1) := by decide +kernel
theorem d8_12 : decode jdk_43_method_3_code 12 = .ok (.ireturn, 1) := by decide +kernel
theorem pn_8 : plainName "java/lang/StringLatin1" = true := by first | (simp [plainName, overriddenIn]; done) | decide +kernel
theorem d9_0 : decode jdk_43_method_46_code 0 = .ok (.iconst 1, 1) := by decide +kernel
theorem d9_1 : decode jdk_43_method_46_code 1 = .ok (.newarray .byte, 2) := by decide +kernel
theorem d9_3 : decode jdk_43_method_46_code 3 = .ok (.dup, 1) := by decide +kernel
theorem d9_4 : decode jdk_43_method_46_code 4 = .ok (.iconst 0, 1) := by decide +kernel
theorem d9_5 : decode jdk_43_method_46_code 5 = .ok (.iload_n 0, 1) := by decide +kernel
theorem d9_6 : decode jdk_43_method_46_code 6 = .ok (.i2b, 1) := by decide +kernel
theorem d9_7 : decode jdk_43_method_46_code 7 = .ok (.bastore, 1) := by decide +kernel
theorem d9_8 : decode jdk_43_method_46_code 8 = .ok (.areturn, 1) := by decide +kernel
theorem pn_9 : plainName "java/lang/StringLatin1" = true := by first | (simp [plainName, overriddenIn]; done) | decide +kernel
theorem d10_0 : decode jdk_42_method_151_code 0 = .ok (.aload_n 0, 1) := by decide +kernel
theorem d10_1 : decode jdk_42_method_151_code 1 = .ok (.invokespecial 1, 3) := by decide +kernel
theorem d10_4 : decode jdk_42_method_151_code 4 = .ok (.aload_n 0, 1) := by decide +kernel
theorem d10_5 : decode jdk_42_method_151_code 5 = .ok (.aload_n 1, 1) := by decide +kernel
theorem d10_6 : decode jdk_42_method_151_code 6 = .ok (.putfield 9, 3) := by decide +kernel
theorem d10_9 : decode jdk_42_method_151_code 9 = .ok (.aload_n 0, 1) := by decide +kernel
theorem d10_10 : decode jdk_42_method_151_code 10 = .ok (.iload_n 2, 1) := by decide +kernel
theorem d10_11 : decode jdk_42_method_151_code 11 = .ok (.putfield 15, 3) := by decide +kernel
theorem d10_14 : decode jdk_42_method_151_code 14 = .ok (.return_, 1) := by decide +kernel
theorem pn_10 : plainName "java/lang/String" = true := by first | (simp [plainName, overriddenIn]; done) | decide +kernel
theorem d11_0 : decode prog_21_method_1_code 0 = .ok (.aload_n 0, 1) := by decide +kernel
theorem d11_1 : decode prog_21_method_1_code 1 = .ok (.invokespecial 3, 3) := by decide +kernel
theorem d11_4 : decode prog_21_method_1_code 4 = .ok (.aload_n 0, 1) := by decide +kernel
theorem d11_5 : decode prog_21_method_1_code 5 = .ok (.ldc 9, 2) := by decide +kernel
theorem d11_7 : decode prog_21_method_1_code 7 = .ok (.putfield 11, 3) := by decide +kernel
theorem d11_10 : decode prog_21_method_1_code 10 = .ok (.aload_n 0, 1) := by decide +kernel
theorem d11_11 : decode prog_21_method_1_code 11 = .ok (.iload_n 1, 1) := by decide +kernel
theorem d11_12 : decode prog_21_method_1_code 12 = .ok (.putfield 17, 3) := by decide +kernel
theorem d11_15 : decode prog_21_method_1_code 15 = .ok (.return_, 1) := by decide +kernel
theorem pn_11 : plainName "com/example/libmakespan/libmakespan/OneLine$Units" = true := by first | (simp [plainName, overriddenIn]; done) | decide +kernel
theorem d12_0 : decode prog_21_method_2_code 0 = .ok (.aload_n 0, 1) := by decide +kernel
theorem d12_1 : decode prog_21_method_2_code 1 = .ok (.aload_n 1, 1) := by decide +kernel
theorem d12_2 : decode prog_21_method_2_code 2 = .ok (.putfield 11, 3) := by decide +kernel
theorem d12_5 : decode prog_21_method_2_code 5 = .ok (.aload_n 0, 1) := by decide +kernel
theorem d12_6 : decode prog_21_method_2_code 6 = .ok (.iload_n 2, 1) := by decide +kernel
theorem d12_7 : decode prog_21_method_2_code 7 = .ok (.putfield 21, 3) := by decide +kernel
theorem d12_10 : decode prog_21_method_2_code 10 = .ok (.aload_n 0, 1) := by decide +kernel
theorem d12_11 : decode prog_21_method_2_code 11 = .ok (.iconst 0, 1) := by decide +kernel
theorem d12_12 : decode prog_21_method_2_code 12 = .ok (.putfield 25, 3) := by decide +kernel
theorem d12_15 : decode prog_21_method_2_code 15 = .ok (.aload_n 0, 1) := by decide +kernel
theorem d12_16 : decode prog_21_method_2_code 16 = .ok (.iconst 0, 1) := by decide +kernel
theorem d12_17 : decode prog_21_method_2_code 17 = .ok (.putfield 28, 3) := by decide +kernel
theorem d12_20 : decode prog_21_method_2_code 20 = .ok (.return_, 1) := by decide +kernel
theorem pn_12 : plainName "com/example/libmakespan/libmakespan/OneLine$Units" = true := by first | (simp [plainName, overriddenIn]; done) | decide +kernel
theorem d13_0 : decode prog_21_method_3_code 0 = .ok (.aload_n 0, 1) := by decide +kernel
theorem d13_1 : decode prog_21_method_3_code 1 = .ok (.getfield 25, 3) := by decide +kernel
theorem d13_4 : decode prog_21_method_3_code 4 = .ok (.aload_n 0, 1) := by decide +kernel
theorem d13_5 : decode prog_21_method_3_code 5 = .ok (.getfield 28, 3) := by decide +kernel
theorem d13_8 : decode prog_21_method_3_code 8 = .ok (.if_icmp .ge 20, 3) := by decide +kernel
theorem d13_11 : decode prog_21_method_3_code 11 = .ok (.aload_n 0, 1) := by decide +kernel
theorem d13_12 : decode prog_21_method_3_code 12 = .ok (.getfield 31, 3) := by decide +kernel
theorem d13_15 : decode prog_21_method_3_code 15 = .ok (.aload_n 0, 1) := by decide +kernel
theorem d13_16 : decode prog_21_method_3_code 16 = .ok (.dup, 1) := by decide +kernel
theorem d13_17 : decode prog_21_method_3_code 17 = .ok (.getfield 25, 3) := by decide +kernel
theorem d13_20 : decode prog_21_method_3_code 20 = .ok (.dup_x1, 1) := by decide +kernel
theorem d13_21 : decode prog_21_method_3_code 21 = .ok (.iconst 1, 1) := by decide +kernel
theorem d13_22 : decode prog_21_method_3_code 22 = .ok (.iadd, 1) := by decide +kernel
theorem d13_23 : decode prog_21_method_3_code 23 = .ok (.putfield 25, 3) := by decide +kernel
theorem d13_26 : decode prog_21_method_3_code 26 = .ok (.caload, 1) := by decide +kernel
theorem d13_27 : decode prog_21_method_3_code 27 = .ok (.ireturn, 1) := by decide +kernel
theorem d13_28 : decode prog_21_method_3_code 28 = .ok (.aload_n 0, 1) := by decide +kernel
theorem d13_29 : decode prog_21_method_3_code 29 = .ok (.getfield 21, 3) := by decide +kernel
theorem d13_32 : decode prog_21_method_3_code 32 = .ok (.aload_n 0, 1) := by decide +kernel
theorem d13_33 : decode prog_21_method_3_code 33 = .ok (.getfield 11, 3) := by decide +kernel
theorem d13_36 : decode prog_21_method_3_code 36 = .ok (.invokevirtual 35, 3) := by decide +kernel
theorem d13_39 : decode prog_21_method_3_code 39 = .ok (.if_icmp .ne 5, 3) := by decide +kernel
theorem d13_42 : decode prog_21_method_3_code 42 = .ok (.iconst (-1), 1) := by decide +kernel
theorem d13_43 : decode prog_21_method_3_code 43 = .ok (.ireturn, 1) := by decide +kernel
theorem d13_44 : decode prog_21_method_3_code 44 = .ok (.aload_n 0, 1) := by decide +kernel
theorem d13_45 : decode prog_21_method_3_code 45 = .ok (.getfield 11, 3) := by decide +kernel
theorem d13_48 : decode prog_21_method_3_code 48 = .ok (.aload_n 0, 1) := by decide +kernel
theorem d13_49 : decode prog_21_method_3_code 49 = .ok (.getfield 21, 3) := by decide +kernel
theorem d13_52 : decode prog_21_method_3_code 52 = .ok (.invokevirtual 40, 3) := by decide +kernel
theorem d13_55 : decode prog_21_method_3_code 55 = .ok (.istore_n 1, 1) := by decide +kernel
theorem d13_56 : decode prog_21_method_3_code 56 = .ok (.aload_n 0, 1) := by decide +kernel
theorem d13_57 : decode prog_21_method_3_code 57 = .ok (.getfield 11, 3) := by decide +kernel
theorem d13_60 : decode prog_21_method_3_code 60 = .ok (.aload_n 0, 1) := by decide +kernel
theorem d13_61 : decode prog_21_method_3_code 61 = .ok (.dup, 1) := by decide +kernel
theorem d13_62 : decode prog_21_method_3_code 62 = .ok (.getfield 21, 3) := by decide +kernel
theorem d13_65 : decode prog_21_method_3_code 65 = .ok (.dup_x1, 1) := by decide +kernel
theorem d13_66 : decode prog_21_method_3_code 66 = .ok (.iconst 1, 1) := by decide +kernel
theorem d13_67 : decode prog_21_method_3_code 67 = .ok (.iadd, 1) := by decide +kernel
theorem d13_68 : decode prog_21_method_3_code 68 = .ok (.putfield 21, 3) := by decide +kernel
theorem d13_71 : decode prog_21_method_3_code 71 = .ok (.aload_n 0, 1) := by decide +kernel
theorem d13_72 : decode prog_21_method_3_code 72 = .ok (.getfield 17, 3) := by decide +kernel
theorem d13_75 : decode prog_21_method_3_code 75 = .ok (.invokestatic 44, 3) := by decide +kernel
theorem d13_78 : decode prog_21_method_3_code 78 = .ok (.ifCond .ne 5, 3) := by decide +kernel
theorem d13_81 : decode prog_21_method_3_code 81 = .ok (.iload_n 1, 1) := by decide +kernel
theorem d13_82 : decode prog_21_method_3_code 82 = .ok (.ireturn, 1) := by decide +kernel
theorem d13_83 : decode prog_21_method_3_code 83 = .ok (.aload_n 0, 1) := by decide +kernel
theorem d13_84 : decode prog_21_method_3_code 84 = .ok (.getfield 31, 3) := by decide +kernel
theorem d13_87 : decode prog_21_method_3_code 87 = .ok (.ifnonnull 11, 3) := by decide +kernel
theorem d13_90 : decode prog_21_method_3_code 90 = .ok (.aload_n 0, 1) := by decide +kernel
theorem d13_91 : decode prog_21_method_3_code 91 = .ok (.bipush 6, 2) := by decide +kernel
theorem d13_93 : decode prog_21_method_3_code 93 = .ok (.newarray .char, 2) := by decide +kernel
theorem d13_95 : decode prog_21_method_3_code 95 = .ok (.putfield 31, 3) := by decide +kernel
theorem d13_98 : decode prog_21_method_3_code 98 = .ok (.aload_n 0, 1) := by decide +kernel
theorem d13_99 : decode prog_21_method_3_code 99 = .ok (.getfield 31, 3) := by decide +kernel
theorem d13_102 : decode prog_21_method_3_code 102 = .ok (.iconst 0, 1) := by decide +kernel
theorem d13_103 : decode prog_21_method_3_code 103 = .ok (.bipush 92, 2) := by decide +kernel
theorem d13_105 : decode prog_21_method_3_code 105 = .ok (.castore, 1) := by decide +kernel
theorem d13_106 : decode prog_21_method_3_code 106 = .ok (.iload_n 1, 1) := by decide +kernel
theorem d13_107 : decode prog_21_method_3_code 107 = .ok (.bipush 92, 2) := by decide +kernel
theorem d13_109 : decode prog_21_method_3_code 109 = .ok (.if_icmp .ne 19, 3) := by decide +kernel
theorem d13_112 : decode prog_21_method_3_code 112 = .ok (.aload_n 0, 1) := by decide +kernel
theorem d13_113 : decode prog_21_method_3_code 113 = .ok (.getfield 31, 3) := by decide +kernel
theorem d13_116 : decode prog_21_method_3_code 116 = .ok (.iconst 1, 1) := by decide +kernel
theorem d13_117 : decode prog_21_method_3_code 117 = .ok (.bipush 92, 2) := by decide +kernel
theorem d13_119 : decode prog_21_method_3_code 119 = .ok (.castore, 1) := by decide +kernel
theorem d13_120 : decode prog_21_method_3_code 120 = .ok (.aload_n 0, 1) := by decide +kernel
theorem d13_121 : decode prog_21_method_3_code 121 = .ok (.iconst 2, 1) := by decide +kernel
theorem d13_122 : decode prog_21_method_3_code 122 = .ok (.putfield 28, 3) := by decide +kernel
theorem d13_125 : decode prog_21_method_3_code 125 = .ok (.goto 54, 3) := by decide +kernel
theorem d13_128 : decode prog_21_method_3_code 128 = .ok (.aload_n 0, 1) := by decide +kernel
theorem d13_129 : decode prog_21_method_3_code 129 = .ok (.getfield 31, 3) := by decide +kernel
theorem d13_132 : decode prog_21_method_3_code 132 = .ok (.iconst 1, 1) := by decide +kernel
theorem d13_133 : decode prog_21_method_3_code 133 = .ok (.bipush 117, 2) := by decide +kernel
theorem d13_135 : decode prog_21_method_3_code 135 = .ok (.castore, 1) := by decide +kernel
theorem d13_136 : decode prog_21_method_3_code 136 = .ok (.iconst 0, 1) := by decide +kernel
theorem d13_137 : decode prog_21_method_3_code 137 = .ok (.istore_n 2, 1) := by decide +kernel
theorem d13_138 : decode prog_21_method_3_code 138 = .ok (.iload_n 2, 1) := by decide +kernel
theorem d13_139 : decode prog_21_method_3_code 139 = .ok (.iconst 4, 1) := by decide +kernel
theorem d13_140 : decode prog_21_method_3_code 140 = .ok (.if_icmp .ge 33, 3) := by decide +kernel
theorem d13_143 : decode prog_21_method_3_code 143 = .ok (.aload_n 0, 1) := by decide +kernel
theorem d13_144 : decode prog_21_method_3_code 144 = .ok (.getfield 31, 3) := by decide +kernel
theorem d13_147 : decode prog_21_method_3_code 147 = .ok (.iconst 2, 1) := by decide +kernel
theorem d13_148 : decode prog_21_method_3_code 148 = .ok (.iload_n 2, 1) := by decide +kernel
theorem d13_149 : decode prog_21_method_3_code 149 = .ok (.iadd, 1) := by decide +kernel
theorem d13_150 : decode prog_21_method_3_code 150 = .ok (.ldc 48, 2) := by decide +kernel
theorem d13_152 : decode prog_21_method_3_code 152 = .ok (.iload_n 1, 1) := by decide +kernel
theorem d13_153 : decode prog_21_method_3_code 153 = .ok (.bipush 12, 2) := by decide +kernel
theorem d13_155 : decode prog_21_method_3_code 155 = .ok (.iconst 4, 1) := by decide +kernel
theorem d13_156 : decode prog_21_method_3_code 156 = .ok (.iload_n 2, 1) := by decide +kernel
theorem d13_157 : decode prog_21_method_3_code 157 = .ok (.imul, 1) := by decide +kernel
theorem d13_158 : decode prog_21_method_3_code 158 = .ok (.isub, 1) := by decide +kernel
theorem d13_159 : decode prog_21_method_3_code 159 = .ok (.ishr, 1) := by decide +kernel
theorem d13_160 : decode prog_21_method_3_code 160 = .ok (.bipush 15, 2) := by decide +kernel
theorem d13_162 : decode prog_21_method_3_code 162 = .ok (.iand, 1) := by decide +kernel
theorem d13_163 : decode prog_21_method_3_code 163 = .ok (.invokevirtual 40, 3) := by decide +kernel
theorem d13_166 : decode prog_21_method_3_code 166 = .ok (.castore, 1) := by decide +kernel
theorem d13_167 : decode prog_21_method_3_code 167 = .ok (.iinc 2 1, 3) := by decide +kernel
theorem d13_170 : decode prog_21_method_3_code 170 = .ok (.goto (-32), 3) := by decide +kernel
theorem d13_173 : decode prog_21_method_3_code 173 = .ok (.aload_n 0, 1) := by decide +kernel
theorem d13_174 : decode prog_21_method_3_code 174 = .ok (.bipush 6, 2) := by decide +kernel
theorem d13_176 : decode prog_21_method_3_code 176 = .ok (.putfield 28, 3) := by decide +kernel
theorem d13_179 : decode prog_21_method_3_code 179 = .ok (.aload_n 0, 1) := by decide +kernel
theorem d13_180 : decode prog_21_method_3_code 180 = .ok (.iconst 1, 1) := by decide +kernel
theorem d13_181 : decode prog_21_method_3_code 181 = .ok (.putfield 25, 3) := by decide +kernel
theorem d13_184 : decode prog_21_method_3_code 184 = .ok (.aload_n 0, 1) := by decide +kernel
theorem d13_185 : decode prog_21_method_3_code 185 = .ok (.getfield 31, 3) := by decide +kernel
theorem d13_188 : decode prog_21_method_3_code 188 = .ok (.iconst 0, 1) := by decide +kernel
theorem d13_189 : decode prog_21_method_3_code 189 = .ok (.caload, 1) := by decide +kernel
theorem d13_190 : decode prog_21_method_3_code 190 = .ok (.ireturn, 1) := by decide +kernel
theorem pn_13 : plainName "com/example/libmakespan/libmakespan/OneLine$Units" = true := by first | (simp [plainName, overriddenIn]; done) | decide +kernel
theorem d14_0 : decode jdk_42_method_54_code 0 = .ok (.aload_n 0, 1) := by decide +kernel
theorem d14_1 : decode jdk_42_method_54_code 1 = .ok (.getfield 9, 3) := by decide +kernel
theorem d14_4 : decode jdk_42_method_54_code 4 = .ok (.arraylength, 1) := by decide +kernel
theorem d14_5 : decode jdk_42_method_54_code 5 = .ok (.aload_n 0, 1) := by decide +kernel
theorem d14_6 : decode jdk_42_method_54_code 6 = .ok (.invokevirtual 335, 3) := by decide +kernel
theorem d14_9 : decode jdk_42_method_54_code 9 = .ok (.ishr, 1) := by decide +kernel
theorem d14_10 : decode jdk_42_method_54_code 10 = .ok (.ireturn, 1) := by decide +kernel
theorem pn_14 : plainName "java/lang/String" = true := by first | (simp [plainName, overriddenIn]; done) | decide +kernel
theorem d15_0 : decode jdk_42_method_152_code 0 = .ok (.getstatic 38, 3) := by decide +kernel
theorem d15_3 : decode jdk_42_method_152_code 3 = .ok (.ifCond .eq 10, 3) := by decide +kernel
theorem d15_6 : decode jdk_42_method_152_code 6 = .ok (.aload_n 0, 1) := by decide +kernel
theorem d15_7 : decode jdk_42_method_152_code 7 = .ok (.getfield 15, 3) := by decide +kernel
theorem d15_10 : decode jdk_42_method_152_code 10 = .ok (.goto 4, 3) := by decide +kernel
theorem d15_13 : decode jdk_42_method_152_code 13 = .ok (.iconst 1, 1) := by decide +kernel
theorem d15_14 : decode jdk_42_method_152_code 14 = .ok (.ireturn, 1) := by decide +kernel
theorem pn_15 : plainName "java/lang/String" = true := by first | (simp [plainName, overriddenIn]; done) | decide +kernel
theorem d16_0 : decode jdk_42_method_56_code 0 = .ok (.aload_n 0, 1) := by decide +kernel
theorem d16_1 : decode jdk_42_method_56_code 1 = .ok (.invokevirtual 492, 3) := by decide +kernel
theorem d16_4 : decode jdk_42_method_56_code 4 = .ok (.ifCond .eq 12, 3) := by decide +kernel
theorem d16_7 : decode jdk_42_method_56_code 7 = .ok (.aload_n 0, 1) := by decide +kernel
theorem d16_8 : decode jdk_42_method_56_code 8 = .ok (.getfield 9, 3) := by decide +kernel
theorem d16_11 : decode jdk_42_method_56_code 11 = .ok (.iload_n 1, 1) := by decide +kernel
theorem d16_12 : decode jdk_42_method_56_code 12 = .ok (.invokestatic 495, 3) := by decide +kernel
theorem d16_15 : decode jdk_42_method_56_code 15 = .ok (.ireturn, 1) := by decide +kernel
theorem d16_16 : decode jdk_42_method_56_code 16 = .ok (.aload_n 0, 1) := by decide +kernel
theorem d16_17 : decode jdk_42_method_56_code 17 = .ok (.getfield 9, 3) := by decide +kernel
theorem d16_20 : decode jdk_42_method_56_code 20 = .ok (.iload_n 1, 1) := by decide +kernel
theorem d16_21 : decode jdk_42_method_56_code 21 = .ok (.invokestatic 498, 3) := by decide +kernel
theorem d16_24 : decode jdk_42_method_56_code 24 = .ok (.ireturn, 1) := by decide +kernel
theorem pn_16 : plainName "java/lang/String" = true := by first | (simp [plainName, overriddenIn]; done) | decide +kernel
theorem d17_0 : decode jdk_42_method_154_code 0 = .ok (.getstatic 38, 3) := by decide +kernel
theorem d17_3 : decode jdk_42_method_154_code 3 = .ok (.ifCond .eq 14, 3) := by decide +kernel
theorem d17_6 : decode jdk_42_method_154_code 6 = .ok (.aload_n 0, 1) := by decide +kernel
theorem d17_7 : decode jdk_42_method_154_code 7 = .ok (.getfield 15, 3) := by decide +kernel
theorem d17_10 : decode jdk_42_method_154_code 10 = .ok (.ifCond .ne 7, 3) := by decide +kernel
theorem d17_13 : decode jdk_42_method_154_code 13 = .ok (.iconst 1, 1) := by decide +kernel
theorem d17_14 : decode jdk_42_method_154_code 14 = .ok (.goto 4, 3) := by decide +kernel
theorem d17_17 : decode jdk_42_method_154_code 17 = .ok (.iconst 0, 1) := by decide +kernel
theorem d17_18 : decode jdk_42_method_154_code 18 = .ok (.ireturn, 1) := by decide +kernel
theorem pn_17 : plainName "java/lang/String" = true := by first | (simp [plainName, overriddenIn]; done) | decide +kernel
theorem d18_0 : decode jdk_43_method_2_code 0 = .ok (.iload_n 1, 1) := by decide +kernel
theorem d18_1 : decode jdk_43_method_2_code 1 = .ok (.aload_n 0, 1) := by decide +kernel
theorem d18_2 : decode jdk_43_method_2_code 2 = .ok (.arraylength, 1) := by decide +kernel
theorem d18_3 : decode jdk_43_method_2_code 3 = .ok (.invokestatic 9, 3) := by decide +kernel
theorem d18_6 : decode jdk_43_method_2_code 6 = .ok (.aload_n 0, 1) := by decide +kernel
theorem d18_7 : decode jdk_43_method_2_code 7 = .ok (.iload_n 1, 1) := by decide +kernel
theorem d18_8 : decode jdk_43_method_2_code 8 = .ok (.baload, 1) := by decide +kernel
theorem d18_9 : decode jdk_43_method_2_code 9 = .ok (.sipush 255, 3) := by decide +kernel
theorem d18_12 : decode jdk_43_method_2_code 12 = .ok (.iand, 1) := by decide +kernel
theorem d18_13 : decode jdk_43_method_2_code 13 = .ok (.i2c, 1) := by decide +kernel
theorem d18_14 : decode jdk_43_method_2_code 14 = .ok (.ireturn, 1) := by decide +kernel
theorem pn_18 : plainName "java/lang/StringLatin1" = true := by first | (simp [plainName, overriddenIn]; done) | decide +kernel
theorem d19_0 : decode jdk_42_method_155_code 0 = .ok (.iload_n 0, 1) := by decide +kernel
theorem d19_1 : decode jdk_42_method_155_code 1 = .ok (.iload_n 1, 1) := by decide +kernel
theorem d19_2 : decode jdk_42_method_155_code 2 = .ok (.getstatic 1053, 3) := by decide +kernel
theorem d19_5 : decode jdk_42_method_155_code 5 = .ok (.invokestatic 1059, 3) := by decide +kernel
theorem d19_8 : decode jdk_42_method_155_code 8 = .ok (.pop, 1) := by decide +kernel
theorem d19_9 : decode jdk_42_method_155_code 9 = .ok (.return_, 1) := by decide +kernel
theorem pn_19 : plainName "java/lang/String" = true := by first | (simp [plainName, overriddenIn]; done) | decide +kernel
theorem d20_0 : decode jdk_41_method_11_code 0 = .ok (.iload_n 0, 1) := by decide +kernel
theorem d20_1 : decode jdk_41_method_11_code 1 = .ok (.ifCond .lt 8, 3) := by decide +kernel
theorem d20_4 : decode jdk_41_method_11_code 4 = .ok (.iload_n 0, 1) := by decide +kernel
theorem d20_5 : decode jdk_41_method_11_code 5 = .ok (.iload_n 1, 1) := by decide +kernel
theorem d20_6 : decode jdk_41_method_11_code 6 = .ok (.if_icmp .lt 10, 3) := by decide +kernel
theorem d20_9 : decode jdk_41_method_11_code 9 = .ok (.aload_n 2, 1) := by decide +kernel
theorem d20_10 : decode jdk_41_method_11_code 10 = .ok (.iload_n 0, 1) := by decide +kernel
theorem d20_11 : decode jdk_41_method_11_code 11 = .ok (.iload_n 1, 1) := by decide +kernel
theorem d20_12 : decode jdk_41_method_11_code 12 = .ok (.invokestatic 95, 3) := by decide +kernel
theorem d20_15 : decode jdk_41_method_11_code 15 = .ok (.athrow, 1) := by decide +kernel
theorem d20_16 : decode jdk_41_method_11_code 16 = .ok (.iload_n 0, 1) := by decide +kernel
theorem d20_17 : decode jdk_41_method_11_code 17 = .ok (.ireturn, 1) := by decide +kernel
theorem pn_20 : plainName "jdk/internal/util/Preconditions" = true := by first | (simp [plainName, overriddenIn]; done) | decide +kernel
theorem d21_0 : decode prog_20_method_5_code 0 = .ok (.aload_n 0, 1) := by decide +kernel
theorem d21_1 : decode prog_20_method_5_code 1 = .ok (.iload_n 1, 1) := by decide +kernel
theorem d21_2 : decode prog_20_method_5_code 2 = .ok (.invokevirtual 51, 3) := by decide +kernel
theorem d21_5 : decode prog_20_method_5_code 5 = .ok (.istore_n 3, 1) := by decide +kernel
theorem d21_6 : decode prog_20_method_5_code 6 = .ok (.iload_n 3, 1) := by decide +kernel
theorem d21_7 : decode prog_20_method_5_code 7 = .ok (.bipush 32, 2) := by decide +kernel
theorem d21_9 : decode prog_20_method_5_code 9 = .ok (.if_icmp .lt 31, 3) := by decide +kernel
theorem d21_12 : decode prog_20_method_5_code 12 = .ok (.iload_n 3, 1) := by decide +kernel
theorem d21_13 : decode prog_20_method_5_code 13 = .ok (.bipush 127, 2) := by decide +kernel
theorem d21_15 : decode prog_20_method_5_code 15 = .ok (.if_icmp .ge 25, 3) := by decide +kernel
theorem d21_18 : decode prog_20_method_5_code 18 = .ok (.iload_n 3, 1) := by decide +kernel
theorem d21_19 : decode prog_20_method_5_code 19 = .ok (.bipush 92, 2) := by decide +kernel
theorem d21_21 : decode prog_20_method_5_code 21 = .ok (.if_icmp .eq 13, 3) := by decide +kernel
theorem d21_24 : decode prog_20_method_5_code 24 = .ok (.iload_n 2, 1) := by decide +kernel
theorem d21_25 : decode prog_20_method_5_code 25 = .ok (.ifCond .eq 13, 3) := by decide +kernel
theorem d21_28 : decode prog_20_method_5_code 28 = .ok (.iload_n 3, 1) := by decide +kernel
theorem d21_29 : decode prog_20_method_5_code 29 = .ok (.bipush 32, 2) := by decide +kernel
theorem d21_31 : decode prog_20_method_5_code 31 = .ok (.if_icmp .ne 7, 3) := by decide +kernel
theorem d21_34 : decode prog_20_method_5_code 34 = .ok (.iconst 1, 1) := by decide +kernel
theorem d21_35 : decode prog_20_method_5_code 35 = .ok (.goto 4, 3) := by decide +kernel
theorem d21_38 : decode prog_20_method_5_code 38 = .ok (.iconst 0, 1) := by decide +kernel
theorem d21_39 : decode prog_20_method_5_code 39 = .ok (.ireturn, 1) := by decide +kernel
theorem d21_40 : decode prog_20_method_5_code 40 = .ok (.iload_n 3, 1) := by decide +kernel
theorem d21_41 : decode prog_20_method_5_code 41 = .ok (.invokestatic 55, 3) := by decide +kernel
theorem d21_44 : decode prog_20_method_5_code 44 = .ok (.ifCond .eq 32, 3) := by decide +kernel
theorem d21_47 : decode prog_20_method_5_code 47 = .ok (.iload_n 1, 1) := by decide +kernel
theorem d21_48 : decode prog_20_method_5_code 48 = .ok (.iconst 1, 1) := by decide +kernel
theorem d21_49 : decode prog_20_method_5_code 49 = .ok (.iadd, 1) := by decide +kernel
theorem d21_50 : decode prog_20_method_5_code 50 = .ok (.aload_n 0, 1) := by decide +kernel
theorem d21_51 : decode prog_20_method_5_code 51 = .ok (.invokevirtual 13, 3) := by decide +kernel
theorem d21_54 : decode prog_20_method_5_code 54 = .ok (.if_icmp .eq 16, 3) := by decide +kernel
theorem d21_57 : decode prog_20_method_5_code 57 = .ok (.aload_n 0, 1) := by decide +kernel
theorem d21_58 : decode prog_20_method_5_code 58 = .ok (.iload_n 1, 1) := by decide +kernel
theorem d21_59 : decode prog_20_method_5_code 59 = .ok (.iconst 1, 1) := by decide +kernel
theorem d21_60 : decode prog_20_method_5_code 60 = .ok (.iadd, 1) := by decide +kernel
theorem d21_61 : decode prog_20_method_5_code 61 = .ok (.invokevirtual 51, 3) := by decide +kernel
theorem d21_64 : decode prog_20_method_5_code 64 = .ok (.invokestatic 61, 3) := by decide +kernel
theorem d21_67 : decode prog_20_method_5_code 67 = .ok (.ifCond .ne 7, 3) := by decide +kernel
theorem d21_70 : decode prog_20_method_5_code 70 = .ok (.iconst 1, 1) := by decide +kernel
theorem d21_71 : decode prog_20_method_5_code 71 = .ok (.goto 4, 3) := by decide +kernel
theorem d21_74 : decode prog_20_method_5_code 74 = .ok (.iconst 0, 1) := by decide +kernel
theorem d21_75 : decode prog_20_method_5_code 75 = .ok (.ireturn, 1) := by decide +kernel
theorem d21_76 : decode prog_20_method_5_code 76 = .ok (.iload_n 3, 1) := by decide +kernel
theorem d21_77 : decode prog_20_method_5_code 77 = .ok (.invokestatic 61, 3) := by decide +kernel
theorem d21_80 : decode prog_20_method_5_code 80 = .ok (.ifCond .eq 26, 3) := by decide +kernel
theorem d21_83 : decode prog_20_method_5_code 83 = .ok (.iload_n 1, 1) := by decide +kernel
theorem d21_84 : decode prog_20_method_5_code 84 = .ok (.ifCond .eq 16, 3) := by decide +kernel
theorem d21_87 : decode prog_20_method_5_code 87 = .ok (.aload_n 0, 1) := by decide +kernel
theorem d21_88 : decode prog_20_method_5_code 88 = .ok (.iload_n 1, 1) := by decide +kernel
theorem d21_89 : decode prog_20_method_5_code 89 = .ok (.iconst 1, 1) := by decide +kernel
theorem d21_90 : decode prog_20_method_5_code 90 = .ok (.isub, 1) := by decide +kernel
theorem d21_91 : decode prog_20_method_5_code 91 = .ok (.invokevirtual 51, 3) := by decide +kernel
theorem d21_94 : decode prog_20_method_5_code 94 = .ok (.invokestatic 55, 3) := by decide +kernel
theorem d21_97 : decode prog_20_method_5_code 97 = .ok (.ifCond .ne 7, 3) := by decide +kernel
theorem d21_100 : decode prog_20_method_5_code 100 = .ok (.iconst 1, 1) := by decide +kernel
theorem d21_101 : decode prog_20_method_5_code 101 = .ok (.goto 4, 3) := by decide +kernel
theorem d21_104 : decode prog_20_method_5_code 104 = .ok (.iconst 0, 1) := by decide +kernel
theorem d21_105 : decode prog_20_method_5_code 105 = .ok (.ireturn, 1) := by decide +kernel
theorem d21_106 : decode prog_20_method_5_code 106 = .ok (.iload_n 3, 1) := by decide +kernel
theorem d21_107 : decode prog_20_method_5_code 107 = .ok (.invokestatic 64, 3) := by decide +kernel
theorem d21_110 : decode prog_20_method_5_code 110 = .ok (.ifCond .ne 17, 3) := by decide +kernel
theorem d21_113 : decode prog_20_method_5_code 113 = .ok (.iload_n 3, 1) := by decide +kernel
theorem d21_114 : decode prog_20_method_5_code 114 = .ok (.sipush 8232, 3) := by decide +kernel
theorem d21_117 : decode prog_20_method_5_code 117 = .ok (.if_icmp .eq 10, 3) := by decide +kernel
theorem d21_120 : decode prog_20_method_5_code 120 = .ok (.iload_n 3, 1) := by decide +kernel
theorem d21_121 : decode prog_20_method_5_code 121 = .ok (.sipush 8233, 3) := by decide +kernel
theorem d21_124 : decode prog_20_method_5_code 124 = .ok (.if_icmp .ne 7, 3) := by decide +kernel
theorem d21_127 : decode prog_20_method_5_code 127 = .ok (.iconst 1, 1) := by decide +kernel
theorem d21_128 : decode prog_20_method_5_code 128 = .ok (.goto 4, 3) := by decide +kernel
theorem d21_131 : decode prog_20_method_5_code 131 = .ok (.iconst 0, 1) := by decide +kernel
theorem d21_132 : decode prog_20_method_5_code 132 = .ok (.ireturn, 1) := by decide +kernel
theorem pn_21 : plainName "com/example/libmakespan/libmakespan/OneLine" = true := by first | (simp [plainName, overriddenIn]; done) | decide +kernel
theorem d22_0 : decode jdk_89_method_14_code 0 = .ok (.iload_n 0, 1) := by decide +kernel
theorem d22_1 : decode jdk_89_method_14_code 1 = .ok (.ldc 75, 2) := by decide +kernel
theorem d22_3 : decode jdk_89_method_14_code 3 = .ok (.if_icmp .lt 13, 3) := by decide +kernel
theorem d22_6 : decode jdk_89_method_14_code 6 = .ok (.iload_n 0, 1) := by decide +kernel
theorem d22_7 : decode jdk_89_method_14_code 7 = .ok (.ldc 76, 2) := by decide +kernel
theorem d22_9 : decode jdk_89_method_14_code 9 = .ok (.if_icmp .ge 7, 3) := by decide +kernel
theorem d22_12 : decode jdk_89_method_14_code 12 = .ok (.iconst 1, 1) := by decide +kernel
theorem d22_13 : decode jdk_89_method_14_code 13 = .ok (.goto 4, 3) := by decide +kernel
theorem d22_16 : decode jdk_89_method_14_code 16 = .ok (.iconst 0, 1) := by decide +kernel
theorem d22_17 : decode jdk_89_method_14_code 17 = .ok (.ireturn, 1) := by decide +kernel
theorem pn_22 : plainName "java/lang/Character" = true := by first | (simp [plainName, overriddenIn]; done) | decide +kernel
theorem d23_0 : decode jdk_89_method_15_code 0 = .ok (.iload_n 0, 1) := by decide +kernel
theorem d23_1 : decode jdk_89_method_15_code 1 = .ok (.ldc 76, 2) := by decide +kernel
theorem d23_3 : decode jdk_89_method_15_code 3 = .ok (.if_icmp .lt 13, 3) := by decide +kernel
theorem d23_6 : decode jdk_89_method_15_code 6 = .ok (.iload_n 0, 1) := by decide +kernel
theorem d23_7 : decode jdk_89_method_15_code 7 = .ok (.ldc 77, 2) := by decide +kernel
theorem d23_9 : decode jdk_89_method_15_code 9 = .ok (.if_icmp .ge 7, 3) := by decide +kernel
theorem d23_12 : decode jdk_89_method_15_code 12 = .ok (.iconst 1, 1) := by decide +kernel
theorem d23_13 : decode jdk_89_method_15_code 13 = .ok (.goto 4, 3) := by decide +kernel
theorem d23_16 : decode jdk_89_method_15_code 16 = .ok (.iconst 0, 1) := by decide +kernel
theorem d23_17 : decode jdk_89_method_15_code 17 = .ok (.ireturn, 1) := by decide +kernel
theorem pn_23 : plainName "java/lang/Character" = true := by first | (simp [plainName, overriddenIn]; done) | decide +kernel
theorem d24_0 : decode jdk_89_method_88_code 0 = .ok (.iload_n 0, 1) := by decide +kernel
theorem d24_1 : decode jdk_89_method_88_code 1 = .ok (.invokestatic 266, 3) := by decide +kernel
theorem d24_4 : decode jdk_89_method_88_code 4 = .ok (.ireturn, 1) := by decide +kernel
theorem pn_24 : plainName "java/lang/Character" = true := by first | (simp [plainName, overriddenIn]; done) | decide +kernel
theorem d25_0 : decode jdk_89_method_89_code 0 = .ok (.iload_n 0, 1) := by decide +kernel
theorem d25_1 : decode jdk_89_method_89_code 1 = .ok (.sipush 159, 3) := by decide +kernel
theorem d25_4 : decode jdk_89_method_89_code 4 = .ok (.if_icmp .gt 19, 3) := by decide +kernel
theorem d25_7 : decode jdk_89_method_89_code 7 = .ok (.iload_n 0, 1) := by decide +kernel
theorem d25_8 : decode jdk_89_method_89_code 8 = .ok (.bipush 127, 2) := by decide +kernel
theorem d25_10 : decode jdk_89_method_89_code 10 = .ok (.if_icmp .ge 9, 3) := by decide +kernel
theorem d25_13 : decode jdk_89_method_89_code 13 = .ok (.iload_n 0, 1) := by decide +kernel
theorem d25_14 : decode jdk_89_method_89_code 14 = .ok (.iconst 5, 1) := by decide +kernel
theorem d25_15 : decode jdk_89_method_89_code 15 = .ok (.iushr, 1) := by decide +kernel
theorem d25_16 : decode jdk_89_method_89_code 16 = .ok (.ifCond .ne 7, 3) := by decide +kernel
theorem d25_19 : decode jdk_89_method_89_code 19 = .ok (.iconst 1, 1) := by decide +kernel
theorem d25_20 : decode jdk_89_method_89_code 20 = .ok (.goto 4, 3) := by decide +kernel
theorem d25_23 : decode jdk_89_method_89_code 23 = .ok (.iconst 0, 1) := by decide +kernel
theorem d25_24 : decode jdk_89_method_89_code 24 = .ok (.ireturn, 1) := by decide +kernel
theorem pn_25 : plainName "java/lang/Character" = true := by first | (simp [plainName, overriddenIn]; done) | decide +kernel
theorem d26_0 : decode method_7_code 0 = .ok (.iload_n 2, 1) := by decide +kernel
theorem d26_1 : decode method_7_code 1 = .ok (.iconst 2, 1) := by decide +kernel
theorem d26_2 : decode method_7_code 2 = .ok (.if_icmp .ne 5, 3) := by decide +kernel
theorem d26_5 : decode method_7_code 5 = .ok (.iconst (-1), 1) := by decide +kernel
theorem d26_6 : decode method_7_code 6 = .ok (.ireturn, 1) := by decide +kernel
theorem d26_7 : decode method_7_code 7 = .ok (.iload_n 2, 1) := by decide +kernel
theorem d26_8 : decode method_7_code 8 = .ok (.ifCond .ne 7, 3) := by decide +kernel
theorem d26_11 : decode method_7_code 11 = .ok (.iload_n 0, 1) := by decide +kernel
theorem d26_12 : decode method_7_code 12 = .ok (.goto 4, 3) := by decide +kernel
theorem d26_15 : decode method_7_code 15 = .ok (.iload_n 1, 1) := by decide +kernel
theorem d26_16 : decode method_7_code 16 = .ok (.istore 5, 2) := by decide +kernel
theorem d26_18 : decode method_7_code 18 = .ok (.iload 5, 2) := by decide +kernel
theorem d26_20 : decode method_7_code 20 = .ok (.iload_n 3, 1) := by decide +kernel
theorem d26_21 : decode method_7_code 21 = .ok (.invokestatic 44, 3) := by decide +kernel
theorem d26_24 : decode method_7_code 24 = .ok (.istore 6, 2) := by decide +kernel
theorem d26_26 : decode method_7_code 26 = .ok (.iload 4, 2) := by decide +kernel
theorem d26_28 : decode method_7_code 28 = .ok (.iload 6, 2) := by decide +kernel
theorem d26_30 : decode method_7_code 30 = .ok (.if_icmp .ge 12, 3) := by decide +kernel
theorem d26_33 : decode method_7_code 33 = .ok (.iload 5, 2) := by decide +kernel
theorem d26_35 : decode method_7_code 35 = .ok (.iload_n 3, 1) := by decide +kernel
theorem d26_36 : decode method_7_code 36 = .ok (.iload 4, 2) := by decide +kernel
theorem d26_38 : decode method_7_code 38 = .ok (.invokestatic 48, 3) := by decide +kernel
theorem d26_41 : decode method_7_code 41 = .ok (.ireturn, 1) := by decide +kernel
theorem d26_42 : decode method_7_code 42 = .ok (.iload 4, 2) := by decide +kernel
theorem d26_44 : decode method_7_code 44 = .ok (.iload 6, 2) := by decide +kernel
theorem d26_46 : decode method_7_code 46 = .ok (.isub, 1) := by decide +kernel
theorem d26_47 : decode method_7_code 47 = .ok (.istore 7, 2) := by decide +kernel
theorem d26_49 : decode method_7_code 49 = .ok (.iload_n 2, 1) := by decide +kernel
theorem d26_50 : decode method_7_code 50 = .ok (.iconst 1, 1) := by decide +kernel
theorem d26_51 : decode method_7_code 51 = .ok (.if_icmp .ne 5, 3) := by decide +kernel
theorem d26_54 : decode method_7_code 54 = .ok (.iconst (-1), 1) := by decide +kernel
theorem d26_55 : decode method_7_code 55 = .ok (.ireturn, 1) := by decide +kernel
theorem d26_56 : decode method_7_code 56 = .ok (.iload_n 1, 1) := by decide +kernel
theorem d26_57 : decode method_7_code 57 = .ok (.iload_n 3, 1) := by decide +kernel
theorem d26_58 : decode method_7_code 58 = .ok (.invokestatic 44, 3) := by decide +kernel
theorem d26_61 : decode method_7_code 61 = .ok (.istore 8, 2) := by decide +kernel
theorem d26_63 : decode method_7_code 63 = .ok (.iload 7, 2) := by decide +kernel
theorem d26_65 : decode method_7_code 65 = .ok (.iload 8, 2) := by decide +kernel
theorem d26_67 : decode method_7_code 67 = .ok (.if_icmp .ge 11, 3) := by decide +kernel
theorem d26_70 : decode method_7_code 70 = .ok (.iload_n 1, 1) := by decide +kernel
theorem d26_71 : decode method_7_code 71 = .ok (.iload_n 3, 1) := by decide +kernel
theorem d26_72 : decode method_7_code 72 = .ok (.iload 7, 2) := by decide +kernel
theorem d26_74 : decode method_7_code 74 = .ok (.invokestatic 48, 3) := by decide +kernel
theorem d26_77 : decode method_7_code 77 = .ok (.ireturn, 1) := by decide +kernel
theorem d26_78 : decode method_7_code 78 = .ok (.iconst (-1), 1) := by decide +kernel
theorem d26_79 : decode method_7_code 79 = .ok (.ireturn, 1) := by decide +kernel
theorem pn_26 : plainName "com/example/libmakespan/libmakespan/UnitsResetPinLaw" = true := by first | (simp [plainName, overriddenIn]; done) | decide +kernel
theorem d27_0 : decode method_4_code 0 = .ok (.iload_n 0, 1) := by decide +kernel
theorem d27_1 : decode method_4_code 1 = .ok (.iload_n 1, 1) := by decide +kernel
theorem d27_2 : decode method_4_code 2 = .ok (.invokestatic 36, 3) := by decide +kernel
theorem d27_5 : decode method_4_code 5 = .ok (.ifCond .ne 5, 3) := by decide +kernel
theorem d27_8 : decode method_4_code 8 = .ok (.iconst 1, 1) := by decide +kernel
theorem d27_9 : decode method_4_code 9 = .ok (.ireturn, 1) := by decide +kernel
theorem d27_10 : decode method_4_code 10 = .ok (.iload_n 0, 1) := by decide +kernel
theorem d27_11 : decode method_4_code 11 = .ok (.bipush 92, 2) := by decide +kernel
theorem d27_13 : decode method_4_code 13 = .ok (.if_icmp .ne 5, 3) := by decide +kernel
theorem d27_16 : decode method_4_code 16 = .ok (.iconst 2, 1) := by decide +kernel
theorem d27_17 : decode method_4_code 17 = .ok (.ireturn, 1) := by decide +kernel
theorem d27_18 : decode method_4_code 18 = .ok (.bipush 6, 2) := by decide +kernel
theorem d27_20 : decode method_4_code 20 = .ok (.ireturn, 1) := by decide +kernel
theorem pn_27 : plainName "com/example/libmakespan/libmakespan/UnitsResetPinLaw" = true := by first | (simp [plainName, overriddenIn]; done) | decide +kernel
theorem d28_0 : decode method_3_code 0 = .ok (.iload_n 0, 1) := by decide +kernel
theorem d28_1 : decode method_3_code 1 = .ok (.bipush 32, 2) := by decide +kernel
theorem d28_3 : decode method_3_code 3 = .ok (.if_icmp .lt 31, 3) := by decide +kernel
theorem d28_6 : decode method_3_code 6 = .ok (.iload_n 0, 1) := by decide +kernel
theorem d28_7 : decode method_3_code 7 = .ok (.bipush 127, 2) := by decide +kernel
theorem d28_9 : decode method_3_code 9 = .ok (.if_icmp .ge 25, 3) := by decide +kernel
theorem d28_12 : decode method_3_code 12 = .ok (.iload_n 0, 1) := by decide +kernel
theorem d28_13 : decode method_3_code 13 = .ok (.bipush 92, 2) := by decide +kernel
theorem d28_15 : decode method_3_code 15 = .ok (.if_icmp .eq 13, 3) := by decide +kernel
theorem d28_18 : decode method_3_code 18 = .ok (.iload_n 1, 1) := by decide +kernel
theorem d28_19 : decode method_3_code 19 = .ok (.ifCond .eq 13, 3) := by decide +kernel
theorem d28_22 : decode method_3_code 22 = .ok (.iload_n 0, 1) := by decide +kernel
theorem d28_23 : decode method_3_code 23 = .ok (.bipush 32, 2) := by decide +kernel
theorem d28_25 : decode method_3_code 25 = .ok (.if_icmp .ne 7, 3) := by decide +kernel
theorem d28_28 : decode method_3_code 28 = .ok (.iconst 1, 1) := by decide +kernel
theorem d28_29 : decode method_3_code 29 = .ok (.goto 4, 3) := by decide +kernel
theorem d28_32 : decode method_3_code 32 = .ok (.iconst 0, 1) := by decide +kernel
theorem d28_33 : decode method_3_code 33 = .ok (.ireturn, 1) := by decide +kernel
theorem d28_34 : decode method_3_code 34 = .ok (.iload_n 0, 1) := by decide +kernel
theorem d28_35 : decode method_3_code 35 = .ok (.bipush 32, 2) := by decide +kernel
theorem d28_37 : decode method_3_code 37 = .ok (.if_icmp .lt 16, 3) := by decide +kernel
theorem d28_40 : decode method_3_code 40 = .ok (.iload_n 0, 1) := by decide +kernel
theorem d28_41 : decode method_3_code 41 = .ok (.bipush 127, 2) := by decide +kernel
theorem d28_43 : decode method_3_code 43 = .ok (.if_icmp .lt 14, 3) := by decide +kernel
theorem d28_46 : decode method_3_code 46 = .ok (.iload_n 0, 1) := by decide +kernel
theorem d28_47 : decode method_3_code 47 = .ok (.sipush 159, 3) := by decide +kernel
theorem d28_50 : decode method_3_code 50 = .ok (.if_icmp .gt 7, 3) := by decide +kernel
theorem d28_53 : decode method_3_code 53 = .ok (.iconst 1, 1) := by decide +kernel
theorem d28_54 : decode method_3_code 54 = .ok (.goto 4, 3) := by decide +kernel
theorem d28_57 : decode method_3_code 57 = .ok (.iconst 0, 1) := by decide +kernel
theorem d28_58 : decode method_3_code 58 = .ok (.ireturn, 1) := by decide +kernel
theorem pn_28 : plainName "com/example/libmakespan/libmakespan/UnitsResetPinLaw" = true := by first | (simp [plainName, overriddenIn]; done) | decide +kernel
theorem d29_0 : decode method_6_code 0 = .ok (.iload_n 0, 1) := by decide +kernel
theorem d29_1 : decode method_6_code 1 = .ok (.iload_n 1, 1) := by decide +kernel
theorem d29_2 : decode method_6_code 2 = .ok (.invokestatic 36, 3) := by decide +kernel
theorem d29_5 : decode method_6_code 5 = .ok (.ifCond .ne 5, 3) := by decide +kernel
theorem d29_8 : decode method_6_code 8 = .ok (.iload_n 0, 1) := by decide +kernel
theorem d29_9 : decode method_6_code 9 = .ok (.ireturn, 1) := by decide +kernel
theorem d29_10 : decode method_6_code 10 = .ok (.iload_n 0, 1) := by decide +kernel
theorem d29_11 : decode method_6_code 11 = .ok (.bipush 92, 2) := by decide +kernel
theorem d29_13 : decode method_6_code 13 = .ok (.if_icmp .ne 6, 3) := by decide +kernel
theorem d29_16 : decode method_6_code 16 = .ok (.bipush 92, 2) := by decide +kernel
theorem d29_18 : decode method_6_code 18 = .ok (.ireturn, 1) := by decide +kernel
theorem d29_19 : decode method_6_code 19 = .ok (.iload_n 2, 1) := by decide +kernel
theorem d29_20 : decode method_6_code 20 = .ok (.ifCond .ne 6, 3) := by decide +kernel
theorem d29_23 : decode method_6_code 23 = .ok (.bipush 92, 2) := by decide +kernel
theorem d29_25 : decode method_6_code 25 = .ok (.ireturn, 1) := by decide +kernel
theorem d29_26 : decode method_6_code 26 = .ok (.iload_n 2, 1) := by decide +kernel
theorem d29_27 : decode method_6_code 27 = .ok (.iconst 1, 1) := by decide +kernel
theorem d29_28 : decode method_6_code 28 = .ok (.if_icmp .ne 6, 3) := by decide +kernel
theorem d29_31 : decode method_6_code 31 = .ok (.bipush 117, 2) := by decide +kernel
theorem d29_33 : decode method_6_code 33 = .ok (.ireturn, 1) := by decide +kernel
theorem d29_34 : decode method_6_code 34 = .ok (.iload_n 2, 1) := by decide +kernel
theorem d29_35 : decode method_6_code 35 = .ok (.iconst 2, 1) := by decide +kernel
theorem d29_36 : decode method_6_code 36 = .ok (.if_icmp .eq 8, 3) := by decide +kernel
theorem d29_39 : decode method_6_code 39 = .ok (.iload_n 2, 1) := by decide +kernel
theorem d29_40 : decode method_6_code 40 = .ok (.iconst 3, 1) := by decide +kernel
theorem d29_41 : decode method_6_code 41 = .ok (.if_icmp .ne 6, 3) := by decide +kernel
theorem d29_44 : decode method_6_code 44 = .ok (.bipush 48, 2) := by decide +kernel
theorem d29_46 : decode method_6_code 46 = .ok (.ireturn, 1) := by decide +kernel
theorem d29_47 : decode method_6_code 47 = .ok (.iload_n 2, 1) := by decide +kernel
theorem d29_48 : decode method_6_code 48 = .ok (.iconst 4, 1) := by decide +kernel
theorem d29_49 : decode method_6_code 49 = .ok (.if_icmp .ne 13, 3) := by decide +kernel
theorem d29_52 : decode method_6_code 52 = .ok (.iload_n 0, 1) := by decide +kernel
theorem d29_53 : decode method_6_code 53 = .ok (.iconst 4, 1) := by decide +kernel
theorem d29_54 : decode method_6_code 54 = .ok (.ishr, 1) := by decide +kernel
theorem d29_55 : decode method_6_code 55 = .ok (.bipush 15, 2) := by decide +kernel
theorem d29_57 : decode method_6_code 57 = .ok (.iand, 1) := by decide +kernel
theorem d29_58 : decode method_6_code 58 = .ok (.invokestatic 40, 3) := by decide +kernel
theorem d29_61 : decode method_6_code 61 = .ok (.ireturn, 1) := by decide +kernel
theorem d29_62 : decode method_6_code 62 = .ok (.iload_n 0, 1) := by decide +kernel
theorem d29_63 : decode method_6_code 63 = .ok (.bipush 15, 2) := by decide +kernel
theorem d29_65 : decode method_6_code 65 = .ok (.iand, 1) := by decide +kernel
theorem d29_66 : decode method_6_code 66 = .ok (.invokestatic 40, 3) := by decide +kernel
theorem d29_69 : decode method_6_code 69 = .ok (.ireturn, 1) := by decide +kernel
theorem pn_29 : plainName "com/example/libmakespan/libmakespan/UnitsResetPinLaw" = true := by first | (simp [plainName, overriddenIn]; done) | decide +kernel
def own_cv (b : Int32) : Int32 := (b &&& (255 : Int32)).toUInt32.toUInt16.toUInt32.toInt32
theorem own_chv (y : Int32) (h0 : 0 ≤ y.toInt) (h1 : y.toInt ≤ 255) : y.toUInt32.toUInt16.toUInt32.toInt32 = y := by
  have c := c_i2c y
  apply Int32.toInt_inj.mp; omega
/-- a sign below 256 -/
def own_lo (v : Int32) : Prop := 0 ≤ v.toInt ∧ v.toInt ≤ 255
theorem own_lo.nlt {v : Int32} (h : own_lo v) : ¬ (255 : Int32) < v := by
  have l : (255 : Int32).toInt = 255 := by decide
  rw [Int32.lt_iff_toInt_lt, l]; have := h.2; omega
theorem own_lo.nar {v : Int32} (h : own_lo v) : nar .char v = v := own_chv v h.1 h.2
theorem own_lo.mask (x v : Int32) (h : ((x &&& (255 : Int32)).toUInt32.toUInt16.toUInt32.toInt32) = v) : own_lo v := by
  have c1 := c_and x 255 (by decide)
  have l : (255 : Int32).toInt = 255 := by decide
  rw [l] at c1
  rw [own_chv _ c1.1 c1.2] at h
  subst h; exact c1
theorem own_b8 (v : Int32) (h0 : 0 ≤ v.toInt) (h1 : v.toInt ≤ 255) : (v.toInt8.toInt32 &&& (255 : Int32)) = v := by
  have hb : v.toBitVec.toNat < 256 := by
    have : v.toInt = v.toBitVec.toInt := rfl
    rw [this, BitVec.toInt_eq_toNat_cond] at h0 h1
    have := v.toBitVec.isLt
    split at h0 <;> omega
  have e : v = Int32.ofNat v.toBitVec.toNat := by
    apply Int32.toBitVec_inj.mp
    apply BitVec.eq_of_toNat_eq; simp [Int32.ofNat]
  rw [e]
  have key : ∀ n : Fin 256, ((Int32.ofNat n.val).toInt8.toInt32 &&& (255 : Int32)) = Int32.ofNat n.val := by decide +kernel
  exact key ⟨_, hb⟩
theorem own_lo.cv {v : Int32} (h : own_lo v) : own_cv (Jvm.RoadKit.nar .byte v.toInt8.toInt32) = v := by
  rw [own_cv, show Jvm.RoadKit.nar .byte v.toInt8.toInt32 = v.toInt8.toInt32.toInt8.toInt32 from rfl, Int8.toInt8_toInt32, own_b8 v h.1 h.2]; exact own_chv v h.1 h.2
set_option maxRecDepth 65536 in
set_option maxHeartbeats 40000000 in
theorem rm8 (l : Launch) (Z : State) (a0 : Array Value) (hw : ∀ d ∈ tables_1, d.before a0 Z = true) (ws : List Jvm.Cond) (p1 : Int32)  (h0 : Heap) (n0 : Nat) (Z0 : n0 ≤ h0.size) (Pp : own_lo p1) :
    MetFree l (⟨"java/lang/StringLatin1", "canEncode", "(C)Z"⟩ : MethodName) (head1 (Jvm.Cond.code (⟨"java/lang/StringLatin1", "canEncode", "(C)Z"⟩ : MethodName) jdk_43_method_3_code 1 (some .boolean) :: ws) ({ frames := 0, cells := 0, slots := 0, locals := 0 } : Room)) (fun a U => a = #[(.int p1)] ∧ Z.Warmed39 U.vm ∧ U.heap = h0) (fun _ _ _ _ _ => True) (fun _ U o U' => ∃ vv LL, o = .returned vv ∧ own_ap (fun v h L => v = some (.int 1) ∧ Fr n0 L ∧ h = h0) vv U'.heap LL ∧ FrameEnd U o U' LL 0 0) := by
  refine MetFree.of_bodySF (plainFor_of_name pn_8) hisR ?_
  intro p e s m args below meth c s₁ Bd hml0 hP hK
  obtain ⟨rfl, hZ, hh⟩ := hP
  have hx := Bd.exec
  have hby := Bd.bytes
  have hml : c.maxLocals = 1 := hml0
  have hown : s.vm.findClass "java/lang/StringLatin1" = some m.cls := findClass_of_methodNamed Bd.named
  have hnm := (name_of_methodNamed Bd.named Bd.method).1
  have X0 : Stand p l e ({ frames := 0, cells := 0, slots := 0, locals := 0 } : Room) s m #[(.int p1)] below meth c s₁ [] 0 0 := Stand.of_body Bd
  have e0 : s₁.heap = h0 := by rw [← hh, Bd.state]; rfl
  have N0 := Fr.nil n0
  show own_Go p.tables e below (own_Q s (fun v h L => v = some (.int 1) ∧ Fr n0 L ∧ h = h0) 0 0) (s₁.setTop (entryFrame m #[(.int p1)] 1))
  rw [show entryFrame m #[(.int p1)] 1 = mkF m 0 #[.val (.int p1)] [] from by first | (simp [entryFrame, mkF, argsToLocals, Value.category]; done) | rfl]
  show own_Go _ _ _ _ (s₁.setTop (mkF m 0 #[.val (.int p1)] []))
  refine own_by (fun _ k => XS.iloadN X0.here hx rfl (hb hby d8_0) rfl k) ?_
  refine own_by (fun _ k => XS.sipush X0.here hx rfl (hb hby d8_1) k) ?_
  show own_Go _ _ _ _ (s₁.setTop (mkF m 4 #[.val (.int p1)] [(.int (255 : Int32)), (.int p1)]))
  refine own_by (fun _ k => XS.icmpNo X0.here hx rfl (hb hby d8_4) rfl (flt (own_lo.nlt Pp)).2.2.1 k) ?_
  refine own_by (fun _ k => XS.iconst X0.here hx rfl (hb hby d8_7) k) ?_
  show own_Go _ _ _ _ (s₁.setTop (mkF m 8 #[.val (.int p1)] [(.int (1 : Int32))]))
  refine own_by (fun _ k => XS.goto X0.here hx rfl (pc0 := 8) (pc' := 12) rfl (hb hby d8_8) (by decide) (by decide) k) ?_
  show own_Go _ _ _ _ (s₁.setTop (mkF m 12 #[.val (.int p1)] [(.int (1 : Int32))]))
  exact own_retN X0 hx Bd.notSynchronized e0 Bd.returns (by simp) (hb hby d8_12) (⟨rfl, N0, rfl⟩) (by decide) (by decide)
set_option maxRecDepth 65536 in
set_option maxHeartbeats 40000000 in
theorem rm9 (l : Launch) (Z : State) (a0 : Array Value) (hw : ∀ d ∈ tables_1, d.before a0 Z = true) (ws : List Jvm.Cond) (p1 : Int32)  (h0 : Heap) (n0 : Nat) (Z0 : n0 ≤ h0.size) (Pp : own_lo p1) :
    MetFree l (⟨"java/lang/StringLatin1", "toBytes", "(C)[B"⟩ : MethodName) (head1 (Jvm.Cond.code (⟨"java/lang/StringLatin1", "toBytes", "(C)[B"⟩ : MethodName) jdk_43_method_46_code 1 (some (.array .byte)) :: ws) ({ frames := 0, cells := 1, slots := 1, locals := 0 } : Room)) (fun a U => a = #[(.int p1)] ∧ Z.Warmed39 U.vm ∧ U.heap = h0) (fun _ _ _ _ _ => True) (fun _ U o U' => ∃ vv LL, o = .returned vv ∧ own_ap (fun v h L => ∃ bb : Addr, v = some (.ref bb) ∧ Fr n0 L ∧ Keep h0 h [] ∧ h0.size ≤ bb ∧ ∃ g, own_AI Z h bb .byte 1 g ∧ own_cv (g 0) = p1) vv U'.heap LL ∧ FrameEnd U o U' LL 1 1) := by
  refine MetFree.of_bodySF (plainFor_of_name pn_9) hisR ?_
  intro p e s m args below meth c s₁ Bd hml0 hP hK
  obtain ⟨rfl, hZ, hh⟩ := hP
  have hx := Bd.exec
  have hby := Bd.bytes
  have hml : c.maxLocals = 1 := hml0
  have hown : s.vm.findClass "java/lang/StringLatin1" = some m.cls := findClass_of_methodNamed Bd.named
  have hnm := (name_of_methodNamed Bd.named Bd.method).1
  have X0 : Stand p l e ({ frames := 0, cells := 1, slots := 1, locals := 0 } : Room) s m #[(.int p1)] below meth c s₁ [] 0 0 := Stand.of_body Bd
  have e0 : s₁.heap = h0 := by rw [← hh, Bd.state]; rfl
  have N0 := Fr.nil n0
  show own_Go p.tables e below (own_Q s (fun v h L => ∃ bb : Addr, v = some (.ref bb) ∧ Fr n0 L ∧ Keep h0 h [] ∧ h0.size ≤ bb ∧ ∃ g, own_AI Z h bb .byte 1 g ∧ own_cv (g 0) = p1) 1 1) (s₁.setTop (entryFrame m #[(.int p1)] 1))
  rw [show entryFrame m #[(.int p1)] 1 = mkF m 0 #[.val (.int p1)] [] from by first | (simp [entryFrame, mkF, argsToLocals, Value.category]; done) | rfl]
  show own_Go _ _ _ _ (s₁.setTop (mkF m 0 #[.val (.int p1)] []))
  refine own_by (fun _ k => XS.iconst X0.here hx rfl (hb hby d9_0) k) ?_
  show own_Go _ _ _ _ (s₁.setTop (mkF m 1 #[.val (.int p1)] [(.int (1 : Int32))]))
  refine own_newP X0 hx hZ (hw _ (List.mem_of_getElem? (i := 20) rfl)) e0 1 (by decide) 1 (by decide) (by decide) (by decide) (by decide) (hb hby d9_1) ?_
  intro T1 h1 X1 e1 E1 A1
  show own_Go _ _ _ _ (T1.setTop (mkF m 3 #[.val (.int p1)] [.ref h0.size]))
  obtain ⟨b1, g1⟩ : ∃ z, z = h0.size := ⟨_, rfl⟩
  rw [← g1] at A1
  refine own_gen g1.symm (fun z_ => T1.setTop (mkF m 3 #[.val (.int p1)] [.ref z_])) ?_
  have ge1 : n0 ≤ b1 := Nat.le_trans Z0 (Nat.le_of_eq g1.symm)
  have nw1 : h0.size ≤ b1 := Nat.le_trans (Keep.refl h0 []).1 (Nat.le_of_eq g1.symm)
  have f2 := (Keep.refl h0 []).ext E1
  have Z1 := Nat.le_trans Z0 E1.1
  have f3 : own_AI Z h1 b1 .byte 1 (fun _ => 0) := A1
  show own_Go _ _ _ _ (T1.setTop (mkF m 3 #[.val (.int p1)] [(.ref b1)]))
  refine own_by (fun _ k => XS.dup X1.here hx rfl (hb hby d9_3) rfl rfl k) ?_
  refine own_by (fun _ k => XS.iconst X1.here hx rfl (hb hby d9_4) k) ?_
  refine own_by (fun _ k => XS.iloadN X1.here hx rfl (hb hby d9_5) rfl k) ?_
  show own_Go _ _ _ _ (T1.setTop (mkF m 6 #[.val (.int p1)] [(.int p1), (.int (0 : Int32)), (.ref b1), (.ref b1)]))
  refine own_by (fun _ k => XS.i2b X1.here hx rfl (hb hby d9_6) rfl k) ?_
  show own_Go _ _ _ _ (T1.setTop (mkF m 7 #[.val (.int p1)] [(.int (p1.toInt8.toInt32)), (.int (0 : Int32)), (.ref b1), (.ref b1)]))
  refine own_bas X1 hx hZ e1 f3 0 (by decide) (by decide) (hb hby d9_7) ?_
  intro T4 h4 X4 e4 W4 A4
  have f5 := f2.wr W4 (Or.inr nw1)
  have N4 := Fr.snoc X4 N0 ge1
  have Z4 := own_size_wr W4 Z1
  obtain ⟨fn4, hfn4⟩ : ∃ gf_ : Nat → Int32, gf_ = own_upd (fun _ => 0) 0 (nar .byte (p1.toInt8.toInt32)) := ⟨_, rfl⟩
  rw [← hfn4] at A4
  show own_Go _ _ _ _ (T4.setTop (mkF m 8 #[.val (.int p1)] [(.ref b1)]))
  exact own_retA X4 hx Bd.notSynchronized e4 Bd.returns rfl rfl rfl (hb hby d9_8) (⟨_, rfl, N4, f5, nw1, _, A4, by simp only [hfn4]; simp only [own_upd_eq]; exact own_lo.cv Pp⟩) (by decide) (by decide)
set_option maxRecDepth 65536 in
set_option maxHeartbeats 40000000 in
theorem rm10 (l : Launch) (Z : State) (a0 : Array Value) (hw : ∀ d ∈ tables_1, d.before a0 Z = true) (ws : List Jvm.Cond) (a1 : Addr) (b1 : Addr)  (h0 : Heap) (n0 : Nat) (Z0 : n0 ≤ h0.size) (PE : Exa Z h0 a1 "java/lang/String") (PF1 : Fld Z h0 a1 "java/lang/String" "value" "[B" .null) (PF2 : Fld Z h0 a1 "java/lang/String" "coder" "B" (.int 0)) (Pg1 : n0 ≤ a1) :
    MetFree l (⟨"java/lang/String", "<init>", "([BB)V"⟩ : MethodName) (head1 (Jvm.Cond.code (⟨"java/lang/String", "<init>", "([BB)V"⟩ : MethodName) jdk_42_method_151_code 3 none :: ws) ({ frames := 1, cells := 0, slots := 0, locals := 12 } : Room)) (fun a U => a = #[(.ref a1), (.ref b1), (.int (0 : Int32))] ∧ Z.Warmed39 U.vm ∧ U.heap = h0) (fun _ _ _ _ _ => True) (fun _ U o U' => ∃ vv LL, o = .returned vv ∧ own_ap (fun v h L => v = none ∧ Fr n0 L ∧ Keep h0 h [a1] ∧ Fld Z h a1 "java/lang/String" "value" "[B" (.ref b1) ∧ Fld Z h a1 "java/lang/String" "coder" "B" (.int 0)) vv U'.heap LL ∧ FrameEnd U o U' LL 0 0) := by
  refine MetFree.of_bodySF (plainFor_of_name pn_10) hisR ?_
  intro p e s m args below meth c s₁ Bd hml0 hP hK
  obtain ⟨rfl, hZ, hh⟩ := hP
  have hx := Bd.exec
  have hby := Bd.bytes
  have hml : c.maxLocals = 3 := hml0
  have hown : s.vm.findClass "java/lang/String" = some m.cls := findClass_of_methodNamed Bd.named
  have hnm := (name_of_methodNamed Bd.named Bd.method).1
  have X0 : Stand p l e ({ frames := 1, cells := 0, slots := 0, locals := 12 } : Room) s m #[(.ref a1), (.ref b1), (.int (0 : Int32))] below meth c s₁ [] 0 0 := Stand.of_body Bd
  have e0 : s₁.heap = h0 := by rw [← hh, Bd.state]; rfl
  have N0 := Fr.nil n0
  show own_Go p.tables e below (own_Q s (fun v h L => v = none ∧ Fr n0 L ∧ Keep h0 h [a1] ∧ Fld Z h a1 "java/lang/String" "value" "[B" (.ref b1) ∧ Fld Z h a1 "java/lang/String" "coder" "B" (.int 0)) 0 0) (s₁.setTop (entryFrame m #[(.ref a1), (.ref b1), (.int (0 : Int32))] 3))
  rw [show entryFrame m #[(.ref a1), (.ref b1), (.int (0 : Int32))] 3 = mkF m 0 #[.val (.ref a1), .val (.ref b1), .val (.int (0 : Int32))] [] from by first | (simp [entryFrame, mkF, argsToLocals, Value.category]; done) | rfl]
  show own_Go _ _ _ _ (s₁.setTop (mkF m 0 #[.val (.ref a1), .val (.ref b1), .val (.int (0 : Int32))] []))
  refine own_by (fun _ k => XS.aloadN X0.here hx rfl (hb hby d10_0) rfl rfl k) ?_
  show own_Go _ _ _ _ (s₁.setTop (mkF m 1 #[.val (.ref a1), .val (.ref b1), .val (.int (0 : Int32))] [(.ref a1)]))
  obtain ⟨T1, X1, e1, st1⟩ := initO X0 hx hZ hown (hw _ (List.mem_of_getElem? (i := 12) rfl)) (hw _ (List.mem_of_getElem? (i := 13) rfl)) (hw _ (List.mem_of_getElem? (i := 14) rfl)) e0 (g := (mkF m 1 #[.val (.ref a1), .val (.ref b1), .val (.int (0 : Int32))] [(.ref a1)])) rfl (by rw [hml]; rfl) rfl (hb hby d10_1) (by decide) (W := 0) (by show 2 * 0 + _ ≤ _; exact Nat.le_of_eq rfl) (by decide)
  refine own_by st1 ?_
  refine own_by (fun _ k => XS.aloadN X1.here hx rfl (hb hby d10_4) rfl rfl k) ?_
  refine own_by (fun _ k => XS.aloadN X1.here hx rfl (hb hby d10_5) rfl rfl k) ?_
  show own_Go _ _ _ _ (T1.setTop (mkF m 6 #[.val (.ref a1), .val (.ref b1), .val (.int (0 : Int32))] [(.ref b1), (.ref a1)]))
  obtain ⟨T2, h2, X2, e2, W2, st2⟩ := putF X1 hx hZ hown (host := "") (Or.inl (hw _ (List.mem_of_getElem? (i := 29) rfl))) Via.refl e1 PF1 PE (Or.inr ⟨(hw _ (List.mem_of_getElem? (i := 30) rfl)), rfl, hnm⟩) (hw _ (List.mem_of_getElem? (i := 3) rfl)) (ty := (.array .byte)) (by decide) rfl rfl (g := (mkF m 6 #[.val (.ref a1), .val (.ref b1), .val (.int (0 : Int32))] [(.ref b1), (.ref a1)])) rfl rfl (hb hby d10_6)
  refine own_by st2 ?_
  have f3 := PF1.same W2
  have f4 := PE.wr W2
  have f5 := PF2.other W2 (Or.inr (slot_ne (Or.inr (hw _ (List.mem_of_getElem? (i := 28) rfl))) (Or.inr (hw _ (List.mem_of_getElem? (i := 30) rfl))) (by decide) (t := .byte) (t' := (.array .byte)) (by decide) (by decide)))
  have f6 := (Keep.refl h0 [a1]).wr W2 (Or.inl (List.mem_of_getElem? (i := 0) rfl))
  have N2 := Fr.snoc X2 N0 Pg1
  have Z2 := own_size_wr W2 Z0
  show own_Go _ _ _ _ (T2.setTop (mkF m 9 #[.val (.ref a1), .val (.ref b1), .val (.int (0 : Int32))] []))
  refine own_by (fun _ k => XS.aloadN X2.here hx rfl (hb hby d10_9) rfl rfl k) ?_
  refine own_by (fun _ k => XS.iloadN X2.here hx rfl (hb hby d10_10) rfl k) ?_
  show own_Go _ _ _ _ (T2.setTop (mkF m 11 #[.val (.ref a1), .val (.ref b1), .val (.int (0 : Int32))] [(.int (0 : Int32)), (.ref a1)]))
  obtain ⟨T7, h7, X7, e7, W7, st7⟩ := putFN X2 hx hZ hown (hw _ (List.mem_of_getElem? (i := 27) rfl)) Via.refl e2 f5 f4 (Or.inr ⟨(hw _ (List.mem_of_getElem? (i := 28) rfl)), rfl, hnm⟩) (hw _ (List.mem_of_getElem? (i := 3) rfl)) (ty := .byte) (v' := (.int (nar .byte (0 : Int32)))) (by decide) rfl (fits_nar_byte _) (g := (mkF m 11 #[.val (.ref a1), .val (.ref b1), .val (.int (0 : Int32))] [(.int (0 : Int32)), (.ref a1)])) rfl rfl (hb hby d10_11)
  refine own_by st7 ?_
  have f8 := f5.same W7
  have f9 := f4.wr W7
  have f10 := f3.other W7 (Or.inr (slot_ne (Or.inr (hw _ (List.mem_of_getElem? (i := 30) rfl))) (Or.inr (hw _ (List.mem_of_getElem? (i := 28) rfl))) (by decide) (t := (.array .byte)) (t' := .byte) (by decide) (by decide)))
  have f11 := f6.wr W7 (Or.inl (List.mem_of_getElem? (i := 0) rfl))
  have N7 := Fr.snoc X7 N2 Pg1
  have Z7 := own_size_wr W7 Z2
  show own_Go _ _ _ _ (T7.setTop (mkF m 14 #[.val (.ref a1), .val (.ref b1), .val (.int (0 : Int32))] []))
  exact own_retV X7 hx Bd.notSynchronized e7 Bd.returns (hb hby d10_14) (⟨rfl, N7, f11, f10, f8⟩) (by decide) (by decide)
set_option maxRecDepth 65536 in
set_option maxHeartbeats 40000000 in
theorem rm7 (l : Launch) (Z : State) (a0 : Array Value) (hw : ∀ d ∈ tables_1, d.before a0 Z = true) (ws : List Jvm.Cond) (p1 : Int32) (cs : Int32) (h0 : Heap) (n0 : Nat) (Z0 : n0 ≤ h0.size) (PS : Sta Z h0 "java/lang/String" "COMPACT_STRINGS" "Z" (.int cs)) (Pcs : ¬ cs = 0) (Pp : own_lo p1) :
    MetFree l (⟨"java/lang/String", "valueOf", "(C)Ljava/lang/String;"⟩ : MethodName) (head1 (Jvm.Cond.code (⟨"java/lang/String", "valueOf", "(C)Ljava/lang/String;"⟩ : MethodName) jdk_42_method_139_code 1 (some (.object "java/lang/String")) :: ws) ({ frames := 2, cells := 2, slots := 5, locals := 40 } : Room)) (fun a U => a = #[(.int p1)] ∧ Z.Warmed39 U.vm ∧ U.heap = h0) (fun _ _ _ _ _ => True) (fun _ U o U' => ∃ vv LL, o = .returned vv ∧ own_ap (fun v h L => ∃ bb : Addr, v = some (.ref bb) ∧ Fr n0 L ∧ Keep h0 h [] ∧ h0.size ≤ bb ∧ ∃ bv g, Exa Z h bb "java/lang/String" ∧ Fld Z h bb "java/lang/String" "value" "[B" (.ref bv) ∧ Fld Z h bb "java/lang/String" "coder" "B" (.int 0) ∧ own_AI Z h bv .byte 1 g ∧ own_cv (g 0) = p1) vv U'.heap LL ∧ FrameEnd U o U' LL 2 5) := by
  refine MetFree.of_bodySF (plainFor_of_name pn_7) hisR ?_
  intro p e s m args below meth c s₁ Bd hml0 hP hK
  obtain ⟨rfl, hZ, hh⟩ := hP
  have hx := Bd.exec
  have hby := Bd.bytes
  have hml : c.maxLocals = 1 := hml0
  have hown : s.vm.findClass "java/lang/String" = some m.cls := findClass_of_methodNamed Bd.named
  have hnm := (name_of_methodNamed Bd.named Bd.method).1
  have X0 : Stand p l e ({ frames := 2, cells := 2, slots := 5, locals := 40 } : Room) s m #[(.int p1)] below meth c s₁ [] 0 0 := Stand.of_body Bd
  have e0 : s₁.heap = h0 := by rw [← hh, Bd.state]; rfl
  have N0 := Fr.nil n0
  show own_Go p.tables e below (own_Q s (fun v h L => ∃ bb : Addr, v = some (.ref bb) ∧ Fr n0 L ∧ Keep h0 h [] ∧ h0.size ≤ bb ∧ ∃ bv g, Exa Z h bb "java/lang/String" ∧ Fld Z h bb "java/lang/String" "value" "[B" (.ref bv) ∧ Fld Z h bb "java/lang/String" "coder" "B" (.int 0) ∧ own_AI Z h bv .byte 1 g ∧ own_cv (g 0) = p1) 2 5) (s₁.setTop (entryFrame m #[(.int p1)] 1))
  rw [show entryFrame m #[(.int p1)] 1 = mkF m 0 #[.val (.int p1)] [] from by first | (simp [entryFrame, mkF, argsToLocals, Value.category]; done) | rfl]
  show own_Go _ _ _ _ (s₁.setTop (mkF m 0 #[.val (.int p1)] []))
  obtain ⟨T1, X1, e1, st1⟩ := getS2 X0 hx hZ hown (host := "") (Or.inl (hw _ (List.mem_of_getElem? (i := 15) rfl))) Via.refl e0 PS (g := (mkF m 0 #[.val (.int p1)] [])) rfl (hb hby d7_0)
  refine own_by st1 ?_
  show own_Go _ _ _ _ (T1.setTop (mkF m 3 #[.val (.int p1)] [(.int cs)]))
  refine own_by (fun _ k => XS.ifNo X1.here hx rfl (hb hby d7_3) rfl ((if0 _ _).trans (feq Pcs).1) k) ?_
  refine own_by (fun _ k => XS.iloadN X1.here hx rfl (hb hby d7_6) rfl k) ?_
  show own_Go _ _ _ _ (T1.setTop (mkF m 7 #[.val (.int p1)] [(.int p1)]))
  refine own_callS X1 hx hZ hown (hw _ (List.mem_of_getElem? (i := 34) rfl)) (hw _ (List.mem_of_getElem? (i := 35) rfl)) (hw _ (List.mem_of_getElem? (i := 36) rfl)) (hw _ (List.mem_of_getElem? (i := 37) rfl)) (by decide) (rm8 l Z a0 hw [] p1 h0 n0 Z0 Pp) e1 (by rw [hml]; rfl) [(.int p1)] [] rfl (lenOf own_pd8 rfl) rfl 0 (Nat.le_of_eq rfl) (by decide) (by decide) (Nat.le_of_ble_eq_true rfl) (Nat.le_of_ble_eq_true rfl) (hb hby d7_7) ?_
  intro T2 Lc2 v2 X2 hQ2
  obtain ⟨rfl, N2q, e2⟩ := hQ2
  have N2 := Fr.app N0 N2q
  show own_Go _ _ _ _ (T2.setTop (mkF m 10 #[.val (.int p1)] [(.int (1 : Int32))]))
  refine own_by (fun _ k => XS.ifNo X2.here hx rfl (hb hby d7_10) rfl ((if0 _ _).trans (feq (by decide)).1) k) ?_
  show own_Go _ _ _ _ (T2.setTop (mkF m 13 #[.val (.int p1)] []))
  obtain ⟨T3, h3, X3, e3, E3, A3, D3, -, st3⟩ := newO X2 hx hZ hown (hw _ (List.mem_of_getElem? (i := 38) rfl)) (hw _ (List.mem_of_getElem? (i := 3) rfl)) (hw _ (List.mem_of_getElem? (i := 4) rfl)) e2 (g := (mkF m 13 #[.val (.int p1)] [])) rfl (hb hby d7_13) (by decide) (by decide)
  refine own_by st3 ?_
  show own_Go _ _ _ _ (T3.setTop (mkF m 16 #[.val (.int p1)] [.ref h0.size]))
  obtain ⟨b3, g3⟩ : ∃ z, z = h0.size := ⟨_, rfl⟩
  rw [← g3] at A3 D3
  refine own_gen g3.symm (fun z_ => T3.setTop (mkF m 16 #[.val (.int p1)] [.ref z_])) ?_
  have ge3 : n0 ≤ b3 := Nat.le_trans Z0 (Nat.le_of_eq g3.symm)
  have nw3 : h0.size ≤ b3 := Nat.le_trans (Keep.refl h0 []).1 (Nat.le_of_eq g3.symm)
  have f4 := PS.ext E3
  have f5 := (Keep.refl h0 []).ext E3
  have Z3 := Nat.le_trans Z0 E3.1
  have f6 : Fld Z h3 b3 "java/lang/String" "coder" "B" (.int (0 : Int32)) := D3 (Or.inr (hw _ (List.mem_of_getElem? (i := 28) rfl))) (ty := .byte) (by decide)
  have f7 : Fld Z h3 b3 "java/lang/String" "value" "[B" .null := D3 (Or.inr (hw _ (List.mem_of_getElem? (i := 30) rfl))) (ty := (.array .byte)) (by decide)
  show own_Go _ _ _ _ (T3.setTop (mkF m 16 #[.val (.int p1)] [(.ref b3)]))
  refine own_by (fun _ k => XS.dup X3.here hx rfl (hb hby d7_16) rfl rfl k) ?_
  refine own_by (fun _ k => XS.iloadN X3.here hx rfl (hb hby d7_17) rfl k) ?_
  show own_Go _ _ _ _ (T3.setTop (mkF m 18 #[.val (.int p1)] [(.int p1), (.ref b3), (.ref b3)]))
  refine own_callS X3 hx hZ hown (hw _ (List.mem_of_getElem? (i := 39) rfl)) (hw _ (List.mem_of_getElem? (i := 40) rfl)) (hw _ (List.mem_of_getElem? (i := 36) rfl)) (hw _ (List.mem_of_getElem? (i := 41) rfl)) (by decide) (rm9 l Z a0 hw [] p1 h3 n0 Z3 Pp) e3 (by rw [hml]; rfl) [(.int p1)] [(.ref b3), (.ref b3)] rfl (lenOf own_pd9 rfl) rfl 2 (Nat.le_of_eq rfl) (by decide) (by decide) (Nat.le_of_ble_eq_true rfl) (Nat.le_of_ble_eq_true rfl) (hb hby d7_18) ?_
  intro T8 Lc8 v8 X8 hQ8
  obtain ⟨h8, e8⟩ : ∃ h, T8.heap = h := ⟨_, rfl⟩
  rw [e8] at hQ8
  obtain ⟨bb8, rfl, N8q, K8, nwb8, gb8, AB8, cv8⟩ := hQ8
  have N8 := Fr.app N2 N8q
  have f9 := own_sta_keep f4 K8 ns0
  have f10 := f5.trans K8 all0
  have f11 := A3.keep K8
  have f12 := f6.keep K8 nin0
  have f13 := f7.keep K8 nin0
  have Z8 := Nat.le_trans Z3 K8.1
  have ne8_b3 : b3 ≠ bb8 := Nat.ne_of_lt (Nat.lt_of_lt_of_le A3.lt nwb8)
  show own_Go _ _ _ _ (T8.setTop (mkF m 21 #[.val (.int p1)] [(.ref bb8), (.ref b3), (.ref b3)]))
  refine own_by (fun _ k => XS.iconst X8.here hx rfl (hb hby d7_21) k) ?_
  show own_Go _ _ _ _ (T8.setTop (mkF m 22 #[.val (.int p1)] [(.int (0 : Int32)), (.ref bb8), (.ref b3), (.ref b3)]))
  refine own_callI X8 hx hZ hown rfl (hw _ (List.mem_of_getElem? (i := 42) rfl)) (hw _ (List.mem_of_getElem? (i := 43) rfl)) (hw _ (List.mem_of_getElem? (i := 4) rfl)) (hw _ (List.mem_of_getElem? (i := 44) rfl)) (by decide) (rm10 l Z a0 hw [] b3 bb8 h8 n0 Z8 f11 f13 f12 ge3) e8 (by rw [hml]; rfl) b3 [(.ref bb8), (.int (0 : Int32))] [(.ref b3)] rfl (lenOf own_pd10 rfl) rfl 1 (Nat.le_of_eq rfl) (by decide) (by decide) (Nat.le_of_ble_eq_true rfl) (Nat.le_of_ble_eq_true rfl) (hb hby d7_22) ?_
  intro T14 Lc14 v14 X14 hQ14
  obtain ⟨h14, e14⟩ : ∃ h, T14.heap = h := ⟨_, rfl⟩
  rw [e14] at hQ14
  obtain ⟨rfl, N14q, K14, FV14, FC14⟩ := hQ14
  have N14 := Fr.app N8 N14q
  have f15 := own_sta_keep f9 K14 (nsS f11.nostat ns0)
  have f16 := f10.trans K14 (allS (P := fun x => x ∈ [] ∨ h0.size ≤ x) (Or.inr nw3) all0)
  have f17 := f11.keep K14
  have f20 := AB8.keep K14 (ninS (Ne.symm ne8_b3) nin0)
  have Z14 := Nat.le_trans Z8 K14.1
  show own_Go _ _ _ _ (T14.setTop (mkF m 25 #[.val (.int p1)] [(.ref b3)]))
  exact own_retA X14 hx Bd.notSynchronized e14 Bd.returns rfl rfl rfl (hb hby d7_25) (⟨_, rfl, N14, f16, nw3, _, _, f17, FV14, FC14, f20, cv8⟩) (by decide) (by decide)
set_option maxRecDepth 65536 in
set_option maxHeartbeats 40000000 in
theorem rm5 (l : Launch) (Z : State) (a0 : Array Value) (hw : ∀ d ∈ tables_1, d.before a0 Z = true) (ws : List Jvm.Cond) (a1 : Addr) (a2 : Addr) (f fz : Nat → Int32) (h0 : Heap) (n0 : Nat) (Z0 : n0 ≤ h0.size) (PA1 : own_AI Z h0 a1 .char 2 f) (PA2 : own_AI Z h0 a2 .byte 2 fz) (Pg2 : n0 ≤ a2) (Pne : a1 ≠ a2) (Pv0 : own_lo (f 0)) (Pv1 : own_lo (f 1)) :
    MetFree l (⟨"java/lang/StringUTF16", "compress", "([CI[BII)I"⟩ : MethodName) (head1 (Jvm.Cond.code (⟨"java/lang/StringUTF16", "compress", "([CI[BII)I"⟩ : MethodName) jdk_52_method_21_code 7 (some .int) :: ws) ({ frames := 0, cells := 0, slots := 0, locals := 0 } : Room)) (fun a U => a = #[(.ref a1), (.int (0 : Int32)), (.ref a2), (.int (0 : Int32)), (.int (2 : Int32))] ∧ Z.Warmed39 U.vm ∧ U.heap = h0) (fun _ _ _ _ _ => True) (fun _ U o U' => ∃ vv LL, o = .returned vv ∧ own_ap (fun v h L => v = some (.int 2) ∧ Fr n0 L ∧ Keep h0 h [a2] ∧ ∃ fy, own_AI Z h a2 .byte 2 fy ∧ own_cv (fy 0) = f 0 ∧ own_cv (fy 1) = f 1) vv U'.heap LL ∧ FrameEnd U o U' LL 0 0) := by
  refine MetFree.of_bodySF (plainFor_of_name pn_5) hisR ?_
  intro p e s m args below meth c s₁ Bd hml0 hP hK
  obtain ⟨rfl, hZ, hh⟩ := hP
  have hx := Bd.exec
  have hby := Bd.bytes
  have hml : c.maxLocals = 7 := hml0
  have hown : s.vm.findClass "java/lang/StringUTF16" = some m.cls := findClass_of_methodNamed Bd.named
  have hnm := (name_of_methodNamed Bd.named Bd.method).1
  have X0 : Stand p l e ({ frames := 0, cells := 0, slots := 0, locals := 0 } : Room) s m #[(.ref a1), (.int (0 : Int32)), (.ref a2), (.int (0 : Int32)), (.int (2 : Int32))] below meth c s₁ [] 0 0 := Stand.of_body Bd
  have e0 : s₁.heap = h0 := by rw [← hh, Bd.state]; rfl
  have N0 := Fr.nil n0
  show own_Go p.tables e below (own_Q s (fun v h L => v = some (.int 2) ∧ Fr n0 L ∧ Keep h0 h [a2] ∧ ∃ fy, own_AI Z h a2 .byte 2 fy ∧ own_cv (fy 0) = f 0 ∧ own_cv (fy 1) = f 1) 0 0) (s₁.setTop (entryFrame m #[(.ref a1), (.int (0 : Int32)), (.ref a2), (.int (0 : Int32)), (.int (2 : Int32))] 7))
  rw [show entryFrame m #[(.ref a1), (.int (0 : Int32)), (.ref a2), (.int (0 : Int32)), (.int (2 : Int32))] 7 = mkF m 0 #[.val (.ref a1), .val (.int (0 : Int32)), .val (.ref a2), .val (.int (0 : Int32)), .val (.int (2 : Int32)), .unset, .unset] [] from by first | (simp [entryFrame, mkF, argsToLocals, Value.category]; done) | rfl]
  show own_Go _ _ _ _ (s₁.setTop (mkF m 0 #[.val (.ref a1), .val (.int (0 : Int32)), .val (.ref a2), .val (.int (0 : Int32)), .val (.int (2 : Int32)), .unset, .unset] []))
  refine own_by (fun _ k => XS.iconst X0.here hx rfl (hb hby d5_0) k) ?_
  show own_Go _ _ _ _ (s₁.setTop (mkF m 1 #[.val (.ref a1), .val (.int (0 : Int32)), .val (.ref a2), .val (.int (0 : Int32)), .val (.int (2 : Int32)), .unset, .unset] [(.int (0 : Int32))]))
  refine own_by (fun _ k => XS.istore X0.here hx rfl (hb hby d5_1) rfl (l' := #[.val (.ref a1), .val (.int (0 : Int32)), .val (.ref a2), .val (.int (0 : Int32)), .val (.int (2 : Int32)), .val (.int (0 : Int32)), .unset]) rfl k) ?_
  refine own_by (fun _ k => XS.iload X0.here hx rfl (hb hby d5_3) rfl k) ?_
  refine own_by (fun _ k => XS.iload X0.here hx rfl (hb hby d5_5) rfl k) ?_
  show own_Go _ _ _ _ (s₁.setTop (mkF m 7 #[.val (.ref a1), .val (.int (0 : Int32)), .val (.ref a2), .val (.int (0 : Int32)), .val (.int (2 : Int32)), .val (.int (0 : Int32)), .unset] [(.int (2 : Int32)), (.int (0 : Int32))]))
  refine own_by (fun _ k => XS.icmpNo X0.here hx rfl (hb hby d5_7) rfl (tlt (by decide)).2.1 k) ?_
  refine own_by (fun _ k => XS.aloadN X0.here hx rfl (hb hby d5_10) rfl rfl k) ?_
  refine own_by (fun _ k => XS.iloadN X0.here hx rfl (hb hby d5_11) rfl k) ?_
  show own_Go _ _ _ _ (s₁.setTop (mkF m 12 #[.val (.ref a1), .val (.int (0 : Int32)), .val (.ref a2), .val (.int (0 : Int32)), .val (.int (2 : Int32)), .val (.int (0 : Int32)), .unset] [(.int (0 : Int32)), (.ref a1)]))
  refine own_by (fun _ k => own_cal X0 hx hZ e0 PA1 0 (by decide) (by decide) (hb hby d5_12) k) ?_
  show own_Go _ _ _ _ (s₁.setTop (mkF m 13 #[.val (.ref a1), .val (.int (0 : Int32)), .val (.ref a2), .val (.int (0 : Int32)), .val (.int (2 : Int32)), .val (.int (0 : Int32)), .unset] [(.int (f 0))]))
  obtain ⟨v6_1, hv6_1⟩ : ∃ z_ : Int32, (f 0) = z_ := ⟨_, rfl⟩
  refine own_gen hv6_1 (fun z_ => s₁.setTop (mkF m 13 #[.val (.ref a1), .val (.int (0 : Int32)), .val (.ref a2), .val (.int (0 : Int32)), .val (.int (2 : Int32)), .val (.int (0 : Int32)), .unset] [(.int z_)])) ?_
  refine own_by (fun _ k => XS.istore X0.here hx rfl (hb hby d5_13) rfl (l' := #[.val (.ref a1), .val (.int (0 : Int32)), .val (.ref a2), .val (.int (0 : Int32)), .val (.int (2 : Int32)), .val (.int (0 : Int32)), .val (.int v6_1)]) rfl k) ?_
  refine own_by (fun _ k => XS.iload X0.here hx rfl (hb hby d5_15) rfl k) ?_
  refine own_by (fun _ k => XS.sipush X0.here hx rfl (hb hby d5_17) k) ?_
  show own_Go _ _ _ _ (s₁.setTop (mkF m 20 #[.val (.ref a1), .val (.int (0 : Int32)), .val (.ref a2), .val (.int (0 : Int32)), .val (.int (2 : Int32)), .val (.int (0 : Int32)), .val (.int v6_1)] [(.int (255 : Int32)), (.int v6_1)]))
  refine own_by (fun _ k => XS.icmpYes X0.here hx rfl (pc0 := 20) (pc' := 26) rfl (hb hby d5_20) rfl (flt (by rw [← hv6_1]; exact Pv0.nlt)).2.2.2 (by decide) (by decide) k) ?_
  refine own_by (fun _ k => XS.aloadN X0.here hx rfl (hb hby d5_26) rfl rfl k) ?_
  refine own_by (fun _ k => XS.iloadN X0.here hx rfl (hb hby d5_27) rfl k) ?_
  show own_Go _ _ _ _ (s₁.setTop (mkF m 28 #[.val (.ref a1), .val (.int (0 : Int32)), .val (.ref a2), .val (.int (0 : Int32)), .val (.int (2 : Int32)), .val (.int (0 : Int32)), .val (.int v6_1)] [(.int (0 : Int32)), (.ref a2)]))
  refine own_by (fun _ k => XS.iload X0.here hx rfl (hb hby d5_28) rfl k) ?_
  show own_Go _ _ _ _ (s₁.setTop (mkF m 30 #[.val (.ref a1), .val (.int (0 : Int32)), .val (.ref a2), .val (.int (0 : Int32)), .val (.int (2 : Int32)), .val (.int (0 : Int32)), .val (.int v6_1)] [(.int v6_1), (.int (0 : Int32)), (.ref a2)]))
  refine own_by (fun _ k => XS.i2b X0.here hx rfl (hb hby d5_30) rfl k) ?_
  show own_Go _ _ _ _ (s₁.setTop (mkF m 31 #[.val (.ref a1), .val (.int (0 : Int32)), .val (.ref a2), .val (.int (0 : Int32)), .val (.int (2 : Int32)), .val (.int (0 : Int32)), .val (.int v6_1)] [(.int (v6_1.toInt8.toInt32)), (.int (0 : Int32)), (.ref a2)]))
  refine own_bas X0 hx hZ e0 PA2 0 (by decide) (by decide) (hb hby d5_31) ?_
  intro T2 h2 X2 e2 W2 A2
  have f3 := PA1.other W2 Pne
  have f4 := (Keep.refl h0 [a2]).wr W2 (Or.inl (List.mem_of_getElem? (i := 0) rfl))
  have N2 := Fr.snoc X2 N0 Pg2
  have Z2 := own_size_wr W2 Z0
  obtain ⟨fn2, hfn2⟩ : ∃ gf_ : Nat → Int32, gf_ = own_upd fz 0 (nar .byte (v6_1.toInt8.toInt32)) := ⟨_, rfl⟩
  rw [← hfn2] at A2
  show own_Go _ _ _ _ (T2.setTop (mkF m 32 #[.val (.ref a1), .val (.int (0 : Int32)), .val (.ref a2), .val (.int (0 : Int32)), .val (.int (2 : Int32)), .val (.int (0 : Int32)), .val (.int v6_1)] []))
  refine own_by (fun _ k => XS.iinc X2.here hx rfl (hb hby d5_32) rfl (l' := #[.val (.ref a1), .val (.int ((0 : Int32) + (1 : Int32))), .val (.ref a2), .val (.int (0 : Int32)), .val (.int (2 : Int32)), .val (.int (0 : Int32)), .val (.int v6_1)]) rfl k) ?_
  show own_Go _ _ _ _ (T2.setTop (mkF m 35 #[.val (.ref a1), .val (.int ((0 : Int32) + (1 : Int32))), .val (.ref a2), .val (.int (0 : Int32)), .val (.int (2 : Int32)), .val (.int (0 : Int32)), .val (.int v6_1)] []))
  rw [(by decide : ((0 : Int32) + (1 : Int32)) = (1 : Int32))]
  show own_Go _ _ _ _ (T2.setTop (mkF m 35 #[.val (.ref a1), .val (.int (1 : Int32)), .val (.ref a2), .val (.int (0 : Int32)), .val (.int (2 : Int32)), .val (.int (0 : Int32)), .val (.int v6_1)] []))
  refine own_by (fun _ k => XS.iinc X2.here hx rfl (hb hby d5_35) rfl (l' := #[.val (.ref a1), .val (.int (1 : Int32)), .val (.ref a2), .val (.int ((0 : Int32) + (1 : Int32))), .val (.int (2 : Int32)), .val (.int (0 : Int32)), .val (.int v6_1)]) rfl k) ?_
  show own_Go _ _ _ _ (T2.setTop (mkF m 38 #[.val (.ref a1), .val (.int (1 : Int32)), .val (.ref a2), .val (.int ((0 : Int32) + (1 : Int32))), .val (.int (2 : Int32)), .val (.int (0 : Int32)), .val (.int v6_1)] []))
  rw [(by decide : ((0 : Int32) + (1 : Int32)) = (1 : Int32))]
  show own_Go _ _ _ _ (T2.setTop (mkF m 38 #[.val (.ref a1), .val (.int (1 : Int32)), .val (.ref a2), .val (.int (1 : Int32)), .val (.int (2 : Int32)), .val (.int (0 : Int32)), .val (.int v6_1)] []))
  refine own_by (fun _ k => XS.iinc X2.here hx rfl (hb hby d5_38) rfl (l' := #[.val (.ref a1), .val (.int (1 : Int32)), .val (.ref a2), .val (.int (1 : Int32)), .val (.int (2 : Int32)), .val (.int ((0 : Int32) + (1 : Int32))), .val (.int v6_1)]) rfl k) ?_
  show own_Go _ _ _ _ (T2.setTop (mkF m 41 #[.val (.ref a1), .val (.int (1 : Int32)), .val (.ref a2), .val (.int (1 : Int32)), .val (.int (2 : Int32)), .val (.int ((0 : Int32) + (1 : Int32))), .val (.int v6_1)] []))
  rw [(by decide : ((0 : Int32) + (1 : Int32)) = (1 : Int32))]
  show own_Go _ _ _ _ (T2.setTop (mkF m 41 #[.val (.ref a1), .val (.int (1 : Int32)), .val (.ref a2), .val (.int (1 : Int32)), .val (.int (2 : Int32)), .val (.int (1 : Int32)), .val (.int v6_1)] []))
  refine own_by (fun _ k => XS.goto X2.here hx rfl (pc0 := 41) (pc' := 3) rfl (hb hby d5_41) (by decide) (by decide) k) ?_
  refine own_by (fun _ k => XS.iload X2.here hx rfl (hb hby d5_3) rfl k) ?_
  refine own_by (fun _ k => XS.iload X2.here hx rfl (hb hby d5_5) rfl k) ?_
  show own_Go _ _ _ _ (T2.setTop (mkF m 7 #[.val (.ref a1), .val (.int (1 : Int32)), .val (.ref a2), .val (.int (1 : Int32)), .val (.int (2 : Int32)), .val (.int (1 : Int32)), .val (.int v6_1)] [(.int (2 : Int32)), (.int (1 : Int32))]))
  refine own_by (fun _ k => XS.icmpNo X2.here hx rfl (hb hby d5_7) rfl (tlt (by decide)).2.1 k) ?_
  refine own_by (fun _ k => XS.aloadN X2.here hx rfl (hb hby d5_10) rfl rfl k) ?_
  refine own_by (fun _ k => XS.iloadN X2.here hx rfl (hb hby d5_11) rfl k) ?_
  show own_Go _ _ _ _ (T2.setTop (mkF m 12 #[.val (.ref a1), .val (.int (1 : Int32)), .val (.ref a2), .val (.int (1 : Int32)), .val (.int (2 : Int32)), .val (.int (1 : Int32)), .val (.int v6_1)] [(.int (1 : Int32)), (.ref a1)]))
  refine own_by (fun _ k => own_cal X2 hx hZ e2 f3 1 (by decide) (by decide) (hb hby d5_12) k) ?_
  show own_Go _ _ _ _ (T2.setTop (mkF m 13 #[.val (.ref a1), .val (.int (1 : Int32)), .val (.ref a2), .val (.int (1 : Int32)), .val (.int (2 : Int32)), .val (.int (1 : Int32)), .val (.int v6_1)] [(.int (f 1))]))
  obtain ⟨v6_5, hv6_5⟩ : ∃ z_ : Int32, (f 1) = z_ := ⟨_, rfl⟩
  refine own_gen hv6_5 (fun z_ => T2.setTop (mkF m 13 #[.val (.ref a1), .val (.int (1 : Int32)), .val (.ref a2), .val (.int (1 : Int32)), .val (.int (2 : Int32)), .val (.int (1 : Int32)), .val (.int v6_1)] [(.int z_)])) ?_
  refine own_by (fun _ k => XS.istore X2.here hx rfl (hb hby d5_13) rfl (l' := #[.val (.ref a1), .val (.int (1 : Int32)), .val (.ref a2), .val (.int (1 : Int32)), .val (.int (2 : Int32)), .val (.int (1 : Int32)), .val (.int v6_5)]) rfl k) ?_
  refine own_by (fun _ k => XS.iload X2.here hx rfl (hb hby d5_15) rfl k) ?_
  refine own_by (fun _ k => XS.sipush X2.here hx rfl (hb hby d5_17) k) ?_
  show own_Go _ _ _ _ (T2.setTop (mkF m 20 #[.val (.ref a1), .val (.int (1 : Int32)), .val (.ref a2), .val (.int (1 : Int32)), .val (.int (2 : Int32)), .val (.int (1 : Int32)), .val (.int v6_5)] [(.int (255 : Int32)), (.int v6_5)]))
  refine own_by (fun _ k => XS.icmpYes X2.here hx rfl (pc0 := 20) (pc' := 26) rfl (hb hby d5_20) rfl (flt (by rw [← hv6_5]; exact Pv1.nlt)).2.2.2 (by decide) (by decide) k) ?_
  refine own_by (fun _ k => XS.aloadN X2.here hx rfl (hb hby d5_26) rfl rfl k) ?_
  refine own_by (fun _ k => XS.iloadN X2.here hx rfl (hb hby d5_27) rfl k) ?_
  show own_Go _ _ _ _ (T2.setTop (mkF m 28 #[.val (.ref a1), .val (.int (1 : Int32)), .val (.ref a2), .val (.int (1 : Int32)), .val (.int (2 : Int32)), .val (.int (1 : Int32)), .val (.int v6_5)] [(.int (1 : Int32)), (.ref a2)]))
  refine own_by (fun _ k => XS.iload X2.here hx rfl (hb hby d5_28) rfl k) ?_
  show own_Go _ _ _ _ (T2.setTop (mkF m 30 #[.val (.ref a1), .val (.int (1 : Int32)), .val (.ref a2), .val (.int (1 : Int32)), .val (.int (2 : Int32)), .val (.int (1 : Int32)), .val (.int v6_5)] [(.int v6_5), (.int (1 : Int32)), (.ref a2)]))
  refine own_by (fun _ k => XS.i2b X2.here hx rfl (hb hby d5_30) rfl k) ?_
  show own_Go _ _ _ _ (T2.setTop (mkF m 31 #[.val (.ref a1), .val (.int (1 : Int32)), .val (.ref a2), .val (.int (1 : Int32)), .val (.int (2 : Int32)), .val (.int (1 : Int32)), .val (.int v6_5)] [(.int (v6_5.toInt8.toInt32)), (.int (1 : Int32)), (.ref a2)]))
  refine own_bas X2 hx hZ e2 A2 1 (by decide) (by decide) (hb hby d5_31) ?_
  intro T6 h6 X6 e6 W6 A6
  have f7 := f3.other W6 Pne
  have f8 := f4.wr W6 (Or.inl (List.mem_of_getElem? (i := 0) rfl))
  have N6 := Fr.snoc X6 N2 Pg2
  have Z6 := own_size_wr W6 Z2
  obtain ⟨fn6, hfn6⟩ : ∃ gf_ : Nat → Int32, gf_ = own_upd fn2 1 (nar .byte (v6_5.toInt8.toInt32)) := ⟨_, rfl⟩
  rw [← hfn6] at A6
  show own_Go _ _ _ _ (T6.setTop (mkF m 32 #[.val (.ref a1), .val (.int (1 : Int32)), .val (.ref a2), .val (.int (1 : Int32)), .val (.int (2 : Int32)), .val (.int (1 : Int32)), .val (.int v6_5)] []))
  refine own_by (fun _ k => XS.iinc X6.here hx rfl (hb hby d5_32) rfl (l' := #[.val (.ref a1), .val (.int ((1 : Int32) + (1 : Int32))), .val (.ref a2), .val (.int (1 : Int32)), .val (.int (2 : Int32)), .val (.int (1 : Int32)), .val (.int v6_5)]) rfl k) ?_
  show own_Go _ _ _ _ (T6.setTop (mkF m 35 #[.val (.ref a1), .val (.int ((1 : Int32) + (1 : Int32))), .val (.ref a2), .val (.int (1 : Int32)), .val (.int (2 : Int32)), .val (.int (1 : Int32)), .val (.int v6_5)] []))
  rw [(by decide : ((1 : Int32) + (1 : Int32)) = (2 : Int32))]
  show own_Go _ _ _ _ (T6.setTop (mkF m 35 #[.val (.ref a1), .val (.int (2 : Int32)), .val (.ref a2), .val (.int (1 : Int32)), .val (.int (2 : Int32)), .val (.int (1 : Int32)), .val (.int v6_5)] []))
  refine own_by (fun _ k => XS.iinc X6.here hx rfl (hb hby d5_35) rfl (l' := #[.val (.ref a1), .val (.int (2 : Int32)), .val (.ref a2), .val (.int ((1 : Int32) + (1 : Int32))), .val (.int (2 : Int32)), .val (.int (1 : Int32)), .val (.int v6_5)]) rfl k) ?_
  show own_Go _ _ _ _ (T6.setTop (mkF m 38 #[.val (.ref a1), .val (.int (2 : Int32)), .val (.ref a2), .val (.int ((1 : Int32) + (1 : Int32))), .val (.int (2 : Int32)), .val (.int (1 : Int32)), .val (.int v6_5)] []))
  rw [(by decide : ((1 : Int32) + (1 : Int32)) = (2 : Int32))]
  show own_Go _ _ _ _ (T6.setTop (mkF m 38 #[.val (.ref a1), .val (.int (2 : Int32)), .val (.ref a2), .val (.int (2 : Int32)), .val (.int (2 : Int32)), .val (.int (1 : Int32)), .val (.int v6_5)] []))
  refine own_by (fun _ k => XS.iinc X6.here hx rfl (hb hby d5_38) rfl (l' := #[.val (.ref a1), .val (.int (2 : Int32)), .val (.ref a2), .val (.int (2 : Int32)), .val (.int (2 : Int32)), .val (.int ((1 : Int32) + (1 : Int32))), .val (.int v6_5)]) rfl k) ?_
  show own_Go _ _ _ _ (T6.setTop (mkF m 41 #[.val (.ref a1), .val (.int (2 : Int32)), .val (.ref a2), .val (.int (2 : Int32)), .val (.int (2 : Int32)), .val (.int ((1 : Int32) + (1 : Int32))), .val (.int v6_5)] []))
  rw [(by decide : ((1 : Int32) + (1 : Int32)) = (2 : Int32))]
  show own_Go _ _ _ _ (T6.setTop (mkF m 41 #[.val (.ref a1), .val (.int (2 : Int32)), .val (.ref a2), .val (.int (2 : Int32)), .val (.int (2 : Int32)), .val (.int (2 : Int32)), .val (.int v6_5)] []))
  refine own_by (fun _ k => XS.goto X6.here hx rfl (pc0 := 41) (pc' := 3) rfl (hb hby d5_41) (by decide) (by decide) k) ?_
  refine own_by (fun _ k => XS.iload X6.here hx rfl (hb hby d5_3) rfl k) ?_
  refine own_by (fun _ k => XS.iload X6.here hx rfl (hb hby d5_5) rfl k) ?_
  show own_Go _ _ _ _ (T6.setTop (mkF m 7 #[.val (.ref a1), .val (.int (2 : Int32)), .val (.ref a2), .val (.int (2 : Int32)), .val (.int (2 : Int32)), .val (.int (2 : Int32)), .val (.int v6_5)] [(.int (2 : Int32)), (.int (2 : Int32))]))
  refine own_by (fun _ k => XS.icmpYes X6.here hx rfl (pc0 := 7) (pc' := 44) rfl (hb hby d5_7) rfl (flt (by decide)).2.1 (by decide) (by decide) k) ?_
  refine own_by (fun _ k => XS.iload X6.here hx rfl (hb hby d5_44) rfl k) ?_
  show own_Go _ _ _ _ (T6.setTop (mkF m 46 #[.val (.ref a1), .val (.int (2 : Int32)), .val (.ref a2), .val (.int (2 : Int32)), .val (.int (2 : Int32)), .val (.int (2 : Int32)), .val (.int v6_5)] [(.int (2 : Int32))]))
  exact own_retI X6 hx Bd.notSynchronized e6 Bd.returns (hb hby d5_46) (⟨rfl, N6, f8, _, A6, by rw [show fn6 0 = (nar .byte (v6_1.toInt8.toInt32)) from by simp [own_upd, hfn6, hfn2], ← hv6_1]; exact own_lo.cv Pv0, by rw [show fn6 1 = (nar .byte (v6_5.toInt8.toInt32)) from by simp [own_upd, hfn6], ← hv6_5]; exact own_lo.cv Pv1⟩) (by decide) (by decide)
set_option maxRecDepth 65536 in
set_option maxHeartbeats 40000000 in
theorem rm4 (l : Launch) (Z : State) (a0 : Array Value) (hw : ∀ d ∈ tables_1, d.before a0 Z = true) (ws : List Jvm.Cond) (a1 : Addr) (f : Nat → Int32) (h0 : Heap) (n0 : Nat) (Z0 : n0 ≤ h0.size) (PA1 : own_AI Z h0 a1 .char 2 f) (Pv0 : own_lo (f 0)) (Pv1 : own_lo (f 1)) :
    MetFree l (⟨"java/lang/StringUTF16", "compress", "([CII)[B"⟩ : MethodName) (head1 (Jvm.Cond.code (⟨"java/lang/StringUTF16", "compress", "([CII)[B"⟩ : MethodName) jdk_52_method_16_code 6 (some (.array .byte)) :: ws) ({ frames := 1, cells := 1, slots := 2, locals := 18 } : Room)) (fun a U => a = #[(.ref a1), (.int (0 : Int32)), (.int (2 : Int32))] ∧ Z.Warmed39 U.vm ∧ U.heap = h0) (fun _ _ _ _ _ => True) (fun _ U o U' => ∃ vv LL, o = .returned vv ∧ own_ap (fun v h L => ∃ bb : Addr, v = some (.ref bb) ∧ Fr n0 L ∧ Keep h0 h [] ∧ h0.size ≤ bb ∧ ∃ fy, own_AI Z h bb .byte 2 fy ∧ own_cv (fy 0) = f 0 ∧ own_cv (fy 1) = f 1) vv U'.heap LL ∧ FrameEnd U o U' LL 1 2) := by
  refine MetFree.of_bodySF (plainFor_of_name pn_4) hisR ?_
  intro p e s m args below meth c s₁ Bd hml0 hP hK
  obtain ⟨rfl, hZ, hh⟩ := hP
  have hx := Bd.exec
  have hby := Bd.bytes
  have hml : c.maxLocals = 6 := hml0
  have hown : s.vm.findClass "java/lang/StringUTF16" = some m.cls := findClass_of_methodNamed Bd.named
  have hnm := (name_of_methodNamed Bd.named Bd.method).1
  have X0 : Stand p l e ({ frames := 1, cells := 1, slots := 2, locals := 18 } : Room) s m #[(.ref a1), (.int (0 : Int32)), (.int (2 : Int32))] below meth c s₁ [] 0 0 := Stand.of_body Bd
  have e0 : s₁.heap = h0 := by rw [← hh, Bd.state]; rfl
  have N0 := Fr.nil n0
  show own_Go p.tables e below (own_Q s (fun v h L => ∃ bb : Addr, v = some (.ref bb) ∧ Fr n0 L ∧ Keep h0 h [] ∧ h0.size ≤ bb ∧ ∃ fy, own_AI Z h bb .byte 2 fy ∧ own_cv (fy 0) = f 0 ∧ own_cv (fy 1) = f 1) 1 2) (s₁.setTop (entryFrame m #[(.ref a1), (.int (0 : Int32)), (.int (2 : Int32))] 6))
  rw [show entryFrame m #[(.ref a1), (.int (0 : Int32)), (.int (2 : Int32))] 6 = mkF m 0 #[.val (.ref a1), .val (.int (0 : Int32)), .val (.int (2 : Int32)), .unset, .unset, .unset] [] from by first | (simp [entryFrame, mkF, argsToLocals, Value.category]; done) | rfl]
  show own_Go _ _ _ _ (s₁.setTop (mkF m 0 #[.val (.ref a1), .val (.int (0 : Int32)), .val (.int (2 : Int32)), .unset, .unset, .unset] []))
  refine own_by (fun _ k => XS.iloadN X0.here hx rfl (hb hby d4_0) rfl k) ?_
  show own_Go _ _ _ _ (s₁.setTop (mkF m 1 #[.val (.ref a1), .val (.int (0 : Int32)), .val (.int (2 : Int32)), .unset, .unset, .unset] [(.int (2 : Int32))]))
  refine own_newP X0 hx hZ (hw _ (List.mem_of_getElem? (i := 20) rfl)) e0 2 (by decide) 2 (by decide) (by decide) (by decide) (by decide) (hb hby d4_1) ?_
  intro T1 h1 X1 e1 E1 A1
  show own_Go _ _ _ _ (T1.setTop (mkF m 3 #[.val (.ref a1), .val (.int (0 : Int32)), .val (.int (2 : Int32)), .unset, .unset, .unset] [.ref h0.size]))
  obtain ⟨b1, g1⟩ : ∃ z, z = h0.size := ⟨_, rfl⟩
  rw [← g1] at A1
  refine own_gen g1.symm (fun z_ => T1.setTop (mkF m 3 #[.val (.ref a1), .val (.int (0 : Int32)), .val (.int (2 : Int32)), .unset, .unset, .unset] [.ref z_])) ?_
  have ne2 : a1 ≠ b1 := Nat.ne_of_lt (Nat.lt_of_lt_of_le PA1.lt (Nat.le_of_eq g1.symm))
  have ge1 : n0 ≤ b1 := Nat.le_trans Z0 (Nat.le_of_eq g1.symm)
  have nw1 : h0.size ≤ b1 := Nat.le_trans (Keep.refl h0 []).1 (Nat.le_of_eq g1.symm)
  have f3 := PA1.ext E1
  have f4 := (Keep.refl h0 []).ext E1
  have Z1 := Nat.le_trans Z0 E1.1
  have f5 : own_AI Z h1 b1 .byte 2 (fun _ => 0) := A1
  show own_Go _ _ _ _ (T1.setTop (mkF m 3 #[.val (.ref a1), .val (.int (0 : Int32)), .val (.int (2 : Int32)), .unset, .unset, .unset] [(.ref b1)]))
  refine own_by (fun _ k => XS.astoreN X1.here hx rfl (hb hby d4_3) rfl rfl (l' := #[.val (.ref a1), .val (.int (0 : Int32)), .val (.int (2 : Int32)), .val (.ref b1), .unset, .unset]) rfl k) ?_
  refine own_by (fun _ k => XS.aloadN X1.here hx rfl (hb hby d4_4) rfl rfl k) ?_
  refine own_by (fun _ k => XS.iloadN X1.here hx rfl (hb hby d4_5) rfl k) ?_
  show own_Go _ _ _ _ (T1.setTop (mkF m 6 #[.val (.ref a1), .val (.int (0 : Int32)), .val (.int (2 : Int32)), .val (.ref b1), .unset, .unset] [(.int (0 : Int32)), (.ref a1)]))
  refine own_by (fun _ k => XS.aloadN X1.here hx rfl (hb hby d4_6) rfl rfl k) ?_
  refine own_by (fun _ k => XS.iconst X1.here hx rfl (hb hby d4_7) k) ?_
  refine own_by (fun _ k => XS.iloadN X1.here hx rfl (hb hby d4_8) rfl k) ?_
  show own_Go _ _ _ _ (T1.setTop (mkF m 9 #[.val (.ref a1), .val (.int (0 : Int32)), .val (.int (2 : Int32)), .val (.ref b1), .unset, .unset] [(.int (2 : Int32)), (.int (0 : Int32)), (.ref b1), (.int (0 : Int32)), (.ref a1)]))
  refine own_callS X1 hx hZ hown (hw _ (List.mem_of_getElem? (i := 21) rfl)) (hw _ (List.mem_of_getElem? (i := 22) rfl)) (hw _ (List.mem_of_getElem? (i := 18) rfl)) (hw _ (List.mem_of_getElem? (i := 23) rfl)) (by decide) (rm5 l Z a0 hw [] a1 b1 f (fun _ => 0) h1 n0 Z1 f3 f5 ge1 ne2 Pv0 Pv1) e1 (by rw [hml]; rfl) [(.ref a1), (.int (0 : Int32)), (.ref b1), (.int (0 : Int32)), (.int (2 : Int32))] [] rfl (lenOf own_pd5 rfl) rfl 0 (Nat.le_of_eq rfl) (by decide) (by decide) (Nat.le_of_ble_eq_true rfl) (Nat.le_of_ble_eq_true rfl) (hb hby d4_9) ?_
  intro T6 Lc6 v6 X6 hQ6
  obtain ⟨h6, e6⟩ : ∃ h, T6.heap = h := ⟨_, rfl⟩
  rw [e6] at hQ6
  obtain ⟨rfl, N6q, K6, fz6, AB6, cva6, cvb6⟩ := hQ6
  have N6 := Fr.app N0 N6q
  have f7 := f3.keep K6 (ninS ne2 nin0)
  have f8 := f4.trans K6 (allS (P := fun x => x ∈ [] ∨ h0.size ≤ x) (Or.inr nw1) all0)
  have Z6 := Nat.le_trans Z1 K6.1
  show own_Go _ _ _ _ (T6.setTop (mkF m 12 #[.val (.ref a1), .val (.int (0 : Int32)), .val (.int (2 : Int32)), .val (.ref b1), .unset, .unset] [(.int (2 : Int32))]))
  refine own_by (fun _ k => XS.istore X6.here hx rfl (hb hby d4_12) rfl (l' := #[.val (.ref a1), .val (.int (0 : Int32)), .val (.int (2 : Int32)), .val (.ref b1), .val (.int (2 : Int32)), .unset]) rfl k) ?_
  refine own_by (fun _ k => XS.iload X6.here hx rfl (hb hby d4_14) rfl k) ?_
  refine own_by (fun _ k => XS.iloadN X6.here hx rfl (hb hby d4_16) rfl k) ?_
  show own_Go _ _ _ _ (T6.setTop (mkF m 17 #[.val (.ref a1), .val (.int (0 : Int32)), .val (.int (2 : Int32)), .val (.ref b1), .val (.int (2 : Int32)), .unset] [(.int (2 : Int32)), (.int (2 : Int32))]))
  refine own_by (fun _ k => XS.icmpYes X6.here hx rfl (pc0 := 17) (pc' := 57) rfl (hb hby d4_17) rfl (teq (by decide)).1 (by decide) (by decide) k) ?_
  refine own_by (fun _ k => XS.aloadN X6.here hx rfl (hb hby d4_57) rfl rfl k) ?_
  show own_Go _ _ _ _ (T6.setTop (mkF m 58 #[.val (.ref a1), .val (.int (0 : Int32)), .val (.int (2 : Int32)), .val (.ref b1), .val (.int (2 : Int32)), .unset] [(.ref b1)]))
  exact own_retA X6 hx Bd.notSynchronized e6 Bd.returns rfl rfl rfl (hb hby d4_58) (⟨_, rfl, N6, f8, nw1, _, AB6, cva6, cvb6⟩) (by decide) (by decide)
set_option maxRecDepth 65536 in
set_option maxHeartbeats 40000000 in
theorem rm6 (l : Launch) (Z : State) (a0 : Array Value) (hw : ∀ d ∈ tables_1, d.before a0 Z = true) (ws : List Jvm.Cond) (a1 : Addr) (f : Nat → Int32) (h0 : Heap) (n0 : Nat) (Z0 : n0 ≤ h0.size) (PA1 : own_AI Z h0 a1 .byte 2 f) :
    MetFree l (⟨"java/lang/StringUTF16", "coderFromArrayLen", "([BI)B"⟩ : MethodName) (head1 (Jvm.Cond.code (⟨"java/lang/StringUTF16", "coderFromArrayLen", "([BI)B"⟩ : MethodName) jdk_52_method_15_code 2 (some .byte) :: ws) ({ frames := 0, cells := 0, slots := 0, locals := 0 } : Room)) (fun a U => a = #[(.ref a1), (.int (2 : Int32))] ∧ Z.Warmed39 U.vm ∧ U.heap = h0) (fun _ _ _ _ _ => True) (fun _ U o U' => ∃ vv LL, o = .returned vv ∧ own_ap (fun v h L => v = some (.int 0) ∧ Fr n0 L ∧ h = h0) vv U'.heap LL ∧ FrameEnd U o U' LL 0 0) := by
  refine MetFree.of_bodySF (plainFor_of_name pn_6) hisR ?_
  intro p e s m args below meth c s₁ Bd hml0 hP hK
  obtain ⟨rfl, hZ, hh⟩ := hP
  have hx := Bd.exec
  have hby := Bd.bytes
  have hml : c.maxLocals = 2 := hml0
  have hown : s.vm.findClass "java/lang/StringUTF16" = some m.cls := findClass_of_methodNamed Bd.named
  have hnm := (name_of_methodNamed Bd.named Bd.method).1
  have X0 : Stand p l e ({ frames := 0, cells := 0, slots := 0, locals := 0 } : Room) s m #[(.ref a1), (.int (2 : Int32))] below meth c s₁ [] 0 0 := Stand.of_body Bd
  have e0 : s₁.heap = h0 := by rw [← hh, Bd.state]; rfl
  have N0 := Fr.nil n0
  show own_Go p.tables e below (own_Q s (fun v h L => v = some (.int 0) ∧ Fr n0 L ∧ h = h0) 0 0) (s₁.setTop (entryFrame m #[(.ref a1), (.int (2 : Int32))] 2))
  rw [show entryFrame m #[(.ref a1), (.int (2 : Int32))] 2 = mkF m 0 #[.val (.ref a1), .val (.int (2 : Int32))] [] from by first | (simp [entryFrame, mkF, argsToLocals, Value.category]; done) | rfl]
  show own_Go _ _ _ _ (s₁.setTop (mkF m 0 #[.val (.ref a1), .val (.int (2 : Int32))] []))
  refine own_by (fun _ k => XS.iloadN X0.here hx rfl (hb hby d6_0) rfl k) ?_
  refine own_by (fun _ k => XS.aloadN X0.here hx rfl (hb hby d6_1) rfl rfl k) ?_
  show own_Go _ _ _ _ (s₁.setTop (mkF m 2 #[.val (.ref a1), .val (.int (2 : Int32))] [(.ref a1), (.int (2 : Int32))]))
  refine own_by (fun _ k => own_len X0 hx hZ e0 PA1 (2 : Int32) (by decide) (hb hby d6_2) k) ?_
  show own_Go _ _ _ _ (s₁.setTop (mkF m 3 #[.val (.ref a1), .val (.int (2 : Int32))] [(.int (2 : Int32)), (.int (2 : Int32))]))
  refine own_by (fun _ k => XS.isub X0.here hx rfl (hb hby d6_3) rfl k) ?_
  show own_Go _ _ _ _ (s₁.setTop (mkF m 4 #[.val (.ref a1), .val (.int (2 : Int32))] [(.int ((2 : Int32) - (2 : Int32)))]))
  rw [(by decide : ((2 : Int32) - (2 : Int32)) = (0 : Int32))]
  refine own_by (fun _ k => XS.bipush X0.here hx rfl (hb hby d6_4) k) ?_
  show own_Go _ _ _ _ (s₁.setTop (mkF m 6 #[.val (.ref a1), .val (.int (2 : Int32))] [(.int (31 : Int32)), (.int (0 : Int32))]))
  refine own_by (fun _ k => XS.iushr X0.here hx rfl (hb hby d6_6) rfl k) ?_
  show own_Go _ _ _ _ (s₁.setTop (mkF m 7 #[.val (.ref a1), .val (.int (2 : Int32))] [(.int (((0 : Int32).toUInt32 >>> ((31 : Int32) &&& 31).toUInt32).toInt32))]))
  rw [(by decide : (((0 : Int32).toUInt32 >>> ((31 : Int32) &&& 31).toUInt32).toInt32) = (0 : Int32))]
  show own_Go _ _ _ _ (s₁.setTop (mkF m 7 #[.val (.ref a1), .val (.int (2 : Int32))] [(.int (0 : Int32))]))
  refine own_by (fun _ k => XS.i2b X0.here hx rfl (hb hby d6_7) rfl k) ?_
  show own_Go _ _ _ _ (s₁.setTop (mkF m 8 #[.val (.ref a1), .val (.int (2 : Int32))] [(.int ((0 : Int32).toInt8.toInt32))]))
  rw [(by decide : ((0 : Int32).toInt8.toInt32) = (0 : Int32))]
  show own_Go _ _ _ _ (s₁.setTop (mkF m 8 #[.val (.ref a1), .val (.int (2 : Int32))] [(.int (0 : Int32))]))
  exact own_retN X0 hx Bd.notSynchronized e0 Bd.returns (by simp) (hb hby d6_8) (⟨rfl, N0, rfl⟩) (by decide) (by decide)
set_option maxRecDepth 65536 in
set_option maxHeartbeats 40000000 in
theorem rm2 (l : Launch) (Z : State) (a0 : Array Value) (hw : ∀ d ∈ tables_1, d.before a0 Z = true) (ws : List Jvm.Cond) (a1 : Addr) (b1 : Addr) (cs : Int32) (f : Nat → Int32) (h0 : Heap) (n0 : Nat) (Z0 : n0 ≤ h0.size) (PE : Exa Z h0 a1 "java/lang/String") (PF1 : Fld Z h0 a1 "java/lang/String" "value" "[B" .null) (PF2 : Fld Z h0 a1 "java/lang/String" "coder" "B" (.int 0)) (Pg1 : n0 ≤ a1) (PS : Sta Z h0 "java/lang/String" "COMPACT_STRINGS" "Z" (.int cs)) (Pcs : ¬ cs = 0) (PA1 : own_AI Z h0 b1 .char 2 f) (Pne : a1 ≠ b1) (Pv0 : own_lo (f 0)) (Pv1 : own_lo (f 1)) :
    MetFree l (⟨"java/lang/String", "<init>", "([CIILjava/lang/Void;)V"⟩ : MethodName) (head1 (Jvm.Cond.code (⟨"java/lang/String", "<init>", "([CIILjava/lang/Void;)V"⟩ : MethodName) jdk_42_method_149_code 6 none :: ws) ({ frames := 2, cells := 1, slots := 2, locals := 40 } : Room)) (fun a U => a = #[(.ref a1), (.ref b1), (.int (0 : Int32)), (.int (2 : Int32)), .null] ∧ Z.Warmed39 U.vm ∧ U.heap = h0) (fun _ _ _ _ _ => True) (fun _ U o U' => ∃ vv LL, o = .returned vv ∧ own_ap (fun v h L => v = none ∧ Fr n0 L ∧ Keep h0 h [a1] ∧ ∃ bv fy, Fld Z h a1 "java/lang/String" "value" "[B" (.ref bv) ∧ Fld Z h a1 "java/lang/String" "coder" "B" (.int 0) ∧ own_AI Z h bv .byte 2 fy ∧ own_cv (fy 0) = f 0 ∧ own_cv (fy 1) = f 1 ∧ n0 ≤ bv) vv U'.heap LL ∧ FrameEnd U o U' LL 1 2) := by
  refine MetFree.of_bodySF (plainFor_of_name pn_2) hisR ?_
  intro p e s m args below meth c s₁ Bd hml0 hP hK
  obtain ⟨rfl, hZ, hh⟩ := hP
  have hx := Bd.exec
  have hby := Bd.bytes
  have hml : c.maxLocals = 6 := hml0
  have hown : s.vm.findClass "java/lang/String" = some m.cls := findClass_of_methodNamed Bd.named
  have hnm := (name_of_methodNamed Bd.named Bd.method).1
  have X0 : Stand p l e ({ frames := 2, cells := 1, slots := 2, locals := 40 } : Room) s m #[(.ref a1), (.ref b1), (.int (0 : Int32)), (.int (2 : Int32)), .null] below meth c s₁ [] 0 0 := Stand.of_body Bd
  have e0 : s₁.heap = h0 := by rw [← hh, Bd.state]; rfl
  have N0 := Fr.nil n0
  show own_Go p.tables e below (own_Q s (fun v h L => v = none ∧ Fr n0 L ∧ Keep h0 h [a1] ∧ ∃ bv fy, Fld Z h a1 "java/lang/String" "value" "[B" (.ref bv) ∧ Fld Z h a1 "java/lang/String" "coder" "B" (.int 0) ∧ own_AI Z h bv .byte 2 fy ∧ own_cv (fy 0) = f 0 ∧ own_cv (fy 1) = f 1 ∧ n0 ≤ bv) 1 2) (s₁.setTop (entryFrame m #[(.ref a1), (.ref b1), (.int (0 : Int32)), (.int (2 : Int32)), .null] 6))
  rw [show entryFrame m #[(.ref a1), (.ref b1), (.int (0 : Int32)), (.int (2 : Int32)), .null] 6 = mkF m 0 #[.val (.ref a1), .val (.ref b1), .val (.int (0 : Int32)), .val (.int (2 : Int32)), .val .null, .unset] [] from by first | (simp [entryFrame, mkF, argsToLocals, Value.category]; done) | rfl]
  show own_Go _ _ _ _ (s₁.setTop (mkF m 0 #[.val (.ref a1), .val (.ref b1), .val (.int (0 : Int32)), .val (.int (2 : Int32)), .val .null, .unset] []))
  refine own_by (fun _ k => XS.aloadN X0.here hx rfl (hb hby d2_0) rfl rfl k) ?_
  show own_Go _ _ _ _ (s₁.setTop (mkF m 1 #[.val (.ref a1), .val (.ref b1), .val (.int (0 : Int32)), .val (.int (2 : Int32)), .val .null, .unset] [(.ref a1)]))
  obtain ⟨T1, X1, e1, st1⟩ := initO X0 hx hZ hown (hw _ (List.mem_of_getElem? (i := 12) rfl)) (hw _ (List.mem_of_getElem? (i := 13) rfl)) (hw _ (List.mem_of_getElem? (i := 14) rfl)) e0 (g := (mkF m 1 #[.val (.ref a1), .val (.ref b1), .val (.int (0 : Int32)), .val (.int (2 : Int32)), .val .null, .unset] [(.ref a1)])) rfl (by rw [hml]; rfl) rfl (hb hby d2_1) (by decide) (W := 0) (by show 2 * 0 + _ ≤ _; exact Nat.le_of_eq rfl) (by decide)
  refine own_by st1 ?_
  refine own_by (fun _ k => XS.iloadN X1.here hx rfl (hb hby d2_4) rfl k) ?_
  show own_Go _ _ _ _ (T1.setTop (mkF m 5 #[.val (.ref a1), .val (.ref b1), .val (.int (0 : Int32)), .val (.int (2 : Int32)), .val .null, .unset] [(.int (2 : Int32))]))
  refine own_by (fun _ k => XS.ifYes X1.here hx rfl (pc0 := 5) (pc' := 27) rfl (hb hby d2_5) rfl ((if0 _ _).trans (feq (by decide)).2) (by decide) (by decide) k) ?_
  show own_Go _ _ _ _ (T1.setTop (mkF m 27 #[.val (.ref a1), .val (.ref b1), .val (.int (0 : Int32)), .val (.int (2 : Int32)), .val .null, .unset] []))
  obtain ⟨T2, X2, e2, st2⟩ := getS2 X1 hx hZ hown (host := "") (Or.inl (hw _ (List.mem_of_getElem? (i := 15) rfl))) Via.refl e1 PS (g := (mkF m 27 #[.val (.ref a1), .val (.ref b1), .val (.int (0 : Int32)), .val (.int (2 : Int32)), .val .null, .unset] [])) rfl (hb hby d2_27)
  refine own_by st2 ?_
  show own_Go _ _ _ _ (T2.setTop (mkF m 30 #[.val (.ref a1), .val (.ref b1), .val (.int (0 : Int32)), .val (.int (2 : Int32)), .val .null, .unset] [(.int cs)]))
  refine own_by (fun _ k => XS.ifNo X2.here hx rfl (hb hby d2_30) rfl ((if0 _ _).trans (feq Pcs).1) k) ?_
  refine own_by (fun _ k => XS.aloadN X2.here hx rfl (hb hby d2_33) rfl rfl k) ?_
  refine own_by (fun _ k => XS.iloadN X2.here hx rfl (hb hby d2_34) rfl k) ?_
  show own_Go _ _ _ _ (T2.setTop (mkF m 35 #[.val (.ref a1), .val (.ref b1), .val (.int (0 : Int32)), .val (.int (2 : Int32)), .val .null, .unset] [(.int (0 : Int32)), (.ref b1)]))
  refine own_by (fun _ k => XS.iloadN X2.here hx rfl (hb hby d2_35) rfl k) ?_
  show own_Go _ _ _ _ (T2.setTop (mkF m 36 #[.val (.ref a1), .val (.ref b1), .val (.int (0 : Int32)), .val (.int (2 : Int32)), .val .null, .unset] [(.int (2 : Int32)), (.int (0 : Int32)), (.ref b1)]))
  refine own_callS X2 hx hZ hown (hw _ (List.mem_of_getElem? (i := 16) rfl)) (hw _ (List.mem_of_getElem? (i := 17) rfl)) (hw _ (List.mem_of_getElem? (i := 18) rfl)) (hw _ (List.mem_of_getElem? (i := 19) rfl)) (by decide) (rm4 l Z a0 hw [] b1 f h0 n0 Z0 PA1 Pv0 Pv1) e2 (by rw [hml]; rfl) [(.ref b1), (.int (0 : Int32)), (.int (2 : Int32))] [] rfl (lenOf own_pd4 rfl) rfl 0 (Nat.le_of_eq rfl) (by decide) (by decide) (Nat.le_of_ble_eq_true rfl) (Nat.le_of_ble_eq_true rfl) (hb hby d2_36) ?_
  intro T3 Lc3 v3 X3 hQ3
  obtain ⟨h3, e3⟩ : ∃ h, T3.heap = h := ⟨_, rfl⟩
  rw [e3] at hQ3
  obtain ⟨bb3, rfl, N3q, K3, nwb3, fz3, AB3, cva3, cvb3⟩ := hQ3
  have N3 := Fr.app N0 N3q
  have f4 := PE.keep K3
  have f5 := PF1.keep K3 nin0
  have f6 := PF2.keep K3 nin0
  have f7 := (Keep.refl h0 [a1]).trans K3 all0
  have f8 := own_sta_keep PS K3 ns0
  have f9 := PA1.keep K3 nin0
  have Z3 := Nat.le_trans Z0 K3.1
  have ne3_a1 : a1 ≠ bb3 := Nat.ne_of_lt (Nat.lt_of_lt_of_le PE.lt nwb3)
  have ne3_b1 : b1 ≠ bb3 := Nat.ne_of_lt (Nat.lt_of_lt_of_le PA1.lt nwb3)
  show own_Go _ _ _ _ (T3.setTop (mkF m 39 #[.val (.ref a1), .val (.ref b1), .val (.int (0 : Int32)), .val (.int (2 : Int32)), .val .null, .unset] [(.ref bb3)]))
  refine own_by (fun _ k => XS.astore X3.here hx rfl (hb hby d2_39) rfl rfl (l' := #[.val (.ref a1), .val (.ref b1), .val (.int (0 : Int32)), .val (.int (2 : Int32)), .val .null, .val (.ref bb3)]) rfl k) ?_
  refine own_by (fun _ k => XS.aloadN X3.here hx rfl (hb hby d2_41) rfl rfl k) ?_
  refine own_by (fun _ k => XS.aload X3.here hx rfl (hb hby d2_42) rfl rfl k) ?_
  show own_Go _ _ _ _ (T3.setTop (mkF m 44 #[.val (.ref a1), .val (.ref b1), .val (.int (0 : Int32)), .val (.int (2 : Int32)), .val .null, .val (.ref bb3)] [(.ref bb3), (.ref a1)]))
  refine own_by (fun _ k => XS.iloadN X3.here hx rfl (hb hby d2_44) rfl k) ?_
  show own_Go _ _ _ _ (T3.setTop (mkF m 45 #[.val (.ref a1), .val (.ref b1), .val (.int (0 : Int32)), .val (.int (2 : Int32)), .val .null, .val (.ref bb3)] [(.int (2 : Int32)), (.ref bb3), (.ref a1)]))
  refine own_callS X3 hx hZ hown (hw _ (List.mem_of_getElem? (i := 24) rfl)) (hw _ (List.mem_of_getElem? (i := 25) rfl)) (hw _ (List.mem_of_getElem? (i := 18) rfl)) (hw _ (List.mem_of_getElem? (i := 26) rfl)) (by decide) (rm6 l Z a0 hw [] bb3 fz3 h3 n0 Z3 AB3) e3 (by rw [hml]; rfl) [(.ref bb3), (.int (2 : Int32))] [(.ref a1)] rfl (lenOf own_pd6 rfl) rfl 1 (Nat.le_of_eq rfl) (by decide) (by decide) (Nat.le_of_ble_eq_true rfl) (Nat.le_of_ble_eq_true rfl) (hb hby d2_45) ?_
  intro T10 Lc10 v10 X10 hQ10
  obtain ⟨rfl, N10q, e10⟩ := hQ10
  have N10 := Fr.app N3 N10q
  show own_Go _ _ _ _ (T10.setTop (mkF m 48 #[.val (.ref a1), .val (.ref b1), .val (.int (0 : Int32)), .val (.int (2 : Int32)), .val .null, .val (.ref bb3)] [(.int (0 : Int32)), (.ref a1)]))
  obtain ⟨T11, h11, X11, e11, W11, st11⟩ := putFN X10 hx hZ hown (hw _ (List.mem_of_getElem? (i := 27) rfl)) Via.refl e10 f6 f4 (Or.inr ⟨(hw _ (List.mem_of_getElem? (i := 28) rfl)), rfl, hnm⟩) (hw _ (List.mem_of_getElem? (i := 3) rfl)) (ty := .byte) (v' := (.int (nar .byte (0 : Int32)))) (by decide) rfl (fits_nar_byte _) (g := (mkF m 48 #[.val (.ref a1), .val (.ref b1), .val (.int (0 : Int32)), .val (.int (2 : Int32)), .val .null, .val (.ref bb3)] [(.int (0 : Int32)), (.ref a1)])) rfl rfl (hb hby d2_48)
  refine own_by st11 ?_
  have f12 := f6.same W11
  have f13 := f4.wr W11
  have f14 := f5.other W11 (Or.inr (slot_ne (Or.inr (hw _ (List.mem_of_getElem? (i := 30) rfl))) (Or.inr (hw _ (List.mem_of_getElem? (i := 28) rfl))) (by decide) (t := (.array .byte)) (t' := .byte) (by decide) (by decide)))
  have f15 := f7.wr W11 (Or.inl (List.mem_of_getElem? (i := 0) rfl))
  have f16 := f8.wr W11
  have f17 := f9.other W11 (Ne.symm Pne)
  have f18 := AB3.other W11 (Ne.symm ne3_a1)
  have N11 := Fr.snoc X11 N10 Pg1
  have Z11 := own_size_wr W11 Z3
  show own_Go _ _ _ _ (T11.setTop (mkF m 51 #[.val (.ref a1), .val (.ref b1), .val (.int (0 : Int32)), .val (.int (2 : Int32)), .val .null, .val (.ref bb3)] []))
  refine own_by (fun _ k => XS.aloadN X11.here hx rfl (hb hby d2_51) rfl rfl k) ?_
  refine own_by (fun _ k => XS.aload X11.here hx rfl (hb hby d2_52) rfl rfl k) ?_
  show own_Go _ _ _ _ (T11.setTop (mkF m 54 #[.val (.ref a1), .val (.ref b1), .val (.int (0 : Int32)), .val (.int (2 : Int32)), .val .null, .val (.ref bb3)] [(.ref bb3), (.ref a1)]))
  obtain ⟨T19, h19, X19, e19, W19, st19⟩ := putF X11 hx hZ hown (host := "") (Or.inl (hw _ (List.mem_of_getElem? (i := 29) rfl))) Via.refl e11 f14 f13 (Or.inr ⟨(hw _ (List.mem_of_getElem? (i := 30) rfl)), rfl, hnm⟩) (hw _ (List.mem_of_getElem? (i := 3) rfl)) (ty := (.array .byte)) (by decide) rfl rfl (g := (mkF m 54 #[.val (.ref a1), .val (.ref b1), .val (.int (0 : Int32)), .val (.int (2 : Int32)), .val .null, .val (.ref bb3)] [(.ref bb3), (.ref a1)])) rfl rfl (hb hby d2_54)
  refine own_by st19 ?_
  have f20 := f14.same W19
  have f21 := f13.wr W19
  have f22 := f12.other W19 (Or.inr (slot_ne (Or.inr (hw _ (List.mem_of_getElem? (i := 28) rfl))) (Or.inr (hw _ (List.mem_of_getElem? (i := 30) rfl))) (by decide) (t := .byte) (t' := (.array .byte)) (by decide) (by decide)))
  have f23 := f15.wr W19 (Or.inl (List.mem_of_getElem? (i := 0) rfl))
  have f24 := f16.wr W19
  have f25 := f17.other W19 (Ne.symm Pne)
  have f26 := f18.other W19 (Ne.symm ne3_a1)
  have N19 := Fr.snoc X19 N11 Pg1
  have Z19 := own_size_wr W19 Z11
  show own_Go _ _ _ _ (T19.setTop (mkF m 57 #[.val (.ref a1), .val (.ref b1), .val (.int (0 : Int32)), .val (.int (2 : Int32)), .val .null, .val (.ref bb3)] []))
  exact own_retV X19 hx Bd.notSynchronized e19 Bd.returns (hb hby d2_57) (⟨rfl, N19, f23, _, _, f20, f22, f26, cva3, cvb3, Nat.le_trans Z0 nwb3⟩) (by decide) (by decide)
set_option maxRecDepth 65536 in
set_option maxHeartbeats 40000000 in
theorem rm1 (l : Launch) (Z : State) (a0 : Array Value) (hw : ∀ d ∈ tables_1, d.before a0 Z = true) (ws : List Jvm.Cond) (a1 : Addr) (b1 : Addr) (cs : Int32) (f : Nat → Int32) (h0 : Heap) (n0 : Nat) (Z0 : n0 ≤ h0.size) (PE : Exa Z h0 a1 "java/lang/String") (PF1 : Fld Z h0 a1 "java/lang/String" "value" "[B" .null) (PF2 : Fld Z h0 a1 "java/lang/String" "coder" "B" (.int 0)) (Pg1 : n0 ≤ a1) (PS : Sta Z h0 "java/lang/String" "COMPACT_STRINGS" "Z" (.int cs)) (Pcs : ¬ cs = 0) (PA1 : own_AI Z h0 b1 .char 2 f) (Pne : a1 ≠ b1) (Pv0 : own_lo (f 0)) (Pv1 : own_lo (f 1)) :
    MetFree l (⟨"java/lang/String", "<init>", "([C)V"⟩ : MethodName) (head1 (Jvm.Cond.code (⟨"java/lang/String", "<init>", "([C)V"⟩ : MethodName) jdk_42_method_3_code 2 none :: ws) ({ frames := 3, cells := 1, slots := 2, locals := 60 } : Room)) (fun a U => a = #[(.ref a1), (.ref b1)] ∧ Z.Warmed39 U.vm ∧ U.heap = h0) (fun _ _ _ _ _ => True) (fun _ U o U' => ∃ vv LL, o = .returned vv ∧ own_ap (fun v h L => v = none ∧ Fr n0 L ∧ Keep h0 h [a1] ∧ ∃ bv fy, Fld Z h a1 "java/lang/String" "value" "[B" (.ref bv) ∧ Fld Z h a1 "java/lang/String" "coder" "B" (.int 0) ∧ own_AI Z h bv .byte 2 fy ∧ own_cv (fy 0) = f 0 ∧ own_cv (fy 1) = f 1 ∧ n0 ≤ bv) vv U'.heap LL ∧ FrameEnd U o U' LL 1 2) := by
  refine MetFree.of_bodySF (plainFor_of_name pn_1) hisR ?_
  intro p e s m args below meth c s₁ Bd hml0 hP hK
  obtain ⟨rfl, hZ, hh⟩ := hP
  have hx := Bd.exec
  have hby := Bd.bytes
  have hml : c.maxLocals = 2 := hml0
  have hown : s.vm.findClass "java/lang/String" = some m.cls := findClass_of_methodNamed Bd.named
  have hnm := (name_of_methodNamed Bd.named Bd.method).1
  have X0 : Stand p l e ({ frames := 3, cells := 1, slots := 2, locals := 60 } : Room) s m #[(.ref a1), (.ref b1)] below meth c s₁ [] 0 0 := Stand.of_body Bd
  have e0 : s₁.heap = h0 := by rw [← hh, Bd.state]; rfl
  have N0 := Fr.nil n0
  show own_Go p.tables e below (own_Q s (fun v h L => v = none ∧ Fr n0 L ∧ Keep h0 h [a1] ∧ ∃ bv fy, Fld Z h a1 "java/lang/String" "value" "[B" (.ref bv) ∧ Fld Z h a1 "java/lang/String" "coder" "B" (.int 0) ∧ own_AI Z h bv .byte 2 fy ∧ own_cv (fy 0) = f 0 ∧ own_cv (fy 1) = f 1 ∧ n0 ≤ bv) 1 2) (s₁.setTop (entryFrame m #[(.ref a1), (.ref b1)] 2))
  rw [show entryFrame m #[(.ref a1), (.ref b1)] 2 = mkF m 0 #[.val (.ref a1), .val (.ref b1)] [] from by first | (simp [entryFrame, mkF, argsToLocals, Value.category]; done) | rfl]
  show own_Go _ _ _ _ (s₁.setTop (mkF m 0 #[.val (.ref a1), .val (.ref b1)] []))
  refine own_by (fun _ k => XS.aloadN X0.here hx rfl (hb hby d1_0) rfl rfl k) ?_
  refine own_by (fun _ k => XS.aloadN X0.here hx rfl (hb hby d1_1) rfl rfl k) ?_
  refine own_by (fun _ k => XS.iconst X0.here hx rfl (hb hby d1_2) k) ?_
  show own_Go _ _ _ _ (s₁.setTop (mkF m 3 #[.val (.ref a1), .val (.ref b1)] [(.int (0 : Int32)), (.ref b1), (.ref a1)]))
  refine own_by (fun _ k => XS.aloadN X0.here hx rfl (hb hby d1_3) rfl rfl k) ?_
  show own_Go _ _ _ _ (s₁.setTop (mkF m 4 #[.val (.ref a1), .val (.ref b1)] [(.ref b1), (.int (0 : Int32)), (.ref b1), (.ref a1)]))
  refine own_by (fun _ k => own_len X0 hx hZ e0 PA1 (2 : Int32) (by decide) (hb hby d1_4) k) ?_
  show own_Go _ _ _ _ (s₁.setTop (mkF m 5 #[.val (.ref a1), .val (.ref b1)] [(.int (2 : Int32)), (.int (0 : Int32)), (.ref b1), (.ref a1)]))
  refine own_by (fun _ k => XS.aconstNull X0.here hx rfl (hb hby d1_5) k) ?_
  show own_Go _ _ _ _ (s₁.setTop (mkF m 6 #[.val (.ref a1), .val (.ref b1)] [.null, (.int (2 : Int32)), (.int (0 : Int32)), (.ref b1), (.ref a1)]))
  refine own_callI X0 hx hZ hown rfl (hw _ (List.mem_of_getElem? (i := 8) rfl)) (hw _ (List.mem_of_getElem? (i := 9) rfl)) (hw _ (List.mem_of_getElem? (i := 4) rfl)) (hw _ (List.mem_of_getElem? (i := 11) rfl)) (by decide) (rm2 l Z a0 hw [] a1 b1 cs f h0 n0 Z0 PE PF1 PF2 Pg1 PS Pcs PA1 Pne Pv0 Pv1) e0 (by rw [hml]; rfl) a1 [(.ref b1), (.int (0 : Int32)), (.int (2 : Int32)), .null] [] rfl (lenOf own_pd2 rfl) rfl 0 (Nat.le_of_eq rfl) (by decide) (by decide) (Nat.le_of_ble_eq_true rfl) (Nat.le_of_ble_eq_true rfl) (hb hby d1_6) ?_
  intro T1 Lc1 v1 X1 hQ1
  obtain ⟨h1, e1⟩ : ∃ h, T1.heap = h := ⟨_, rfl⟩
  rw [e1] at hQ1
  obtain ⟨rfl, N1q, K1, R1⟩ := hQ1
  have N1 := Fr.app N0 N1q
  have f2 := PE.keep K1
  have f5 := (Keep.refl h0 [a1]).trans K1 (allS (P := fun x => x ∈ [a1] ∨ h0.size ≤ x) (Or.inl (List.mem_of_getElem? (i := 0) rfl)) all0)
  have f6 := own_sta_keep PS K1 (nsS PE.nostat ns0)
  have f7 := PA1.keep K1 (ninS (Ne.symm Pne) nin0)
  have Z1 := Nat.le_trans Z0 K1.1
  show own_Go _ _ _ _ (T1.setTop (mkF m 9 #[.val (.ref a1), .val (.ref b1)] []))
  exact own_retV X1 hx Bd.notSynchronized e1 Bd.returns (hb hby d1_9) (⟨rfl, N1, f5, R1⟩) (by decide) (by decide)
theorem own_shr0 (z : Int32) : z >>> ((0 : Int32) &&& 31) = z := by rw [show ((0 : Int32) &&& 31) = 0 from by decide]; simp
theorem own_narcv (b : Int32) : nar .char ((b &&& (255 : Int32)).toUInt32.toUInt16.toUInt32.toInt32) = own_cv b := own_lo.nar (own_lo.mask b _ rfl)
theorem own_ref {w : Value} (h : w.isRef = true) : w = .null ∨ ∃ b, w = .ref b := ref_cases h
theorem own_cvlo (b : Int32) : own_lo (own_cv b) := own_lo.mask b _ rfl
set_option maxRecDepth 65536 in
set_option maxHeartbeats 40000000 in
theorem rm15 (l : Launch) (Z : State) (a0 : Array Value) (hw : ∀ d ∈ tables_1, d.before a0 Z = true) (ws : List Jvm.Cond) (a1 : Addr) (cs : Int32) (h0 : Heap) (n0 : Nat) (Z0 : n0 ≤ h0.size) (PS : Sta Z h0 "java/lang/String" "COMPACT_STRINGS" "Z" (.int cs)) (Pcs : ¬ cs = 0) (PFc : Fld Z h0 a1 "java/lang/String" "coder" "B" (.int 0)) :
    MetFree l (⟨"java/lang/String", "coder", "()B"⟩ : MethodName) (head1 (Jvm.Cond.code (⟨"java/lang/String", "coder", "()B"⟩ : MethodName) jdk_42_method_152_code 1 (some .byte) :: ws) ({ frames := 0, cells := 0, slots := 0, locals := 0 } : Room)) (fun a U => a = #[(.ref a1)] ∧ Z.Warmed39 U.vm ∧ U.heap = h0) (fun _ _ _ _ _ => True) (fun _ U o U' => ∃ vv LL, o = .returned vv ∧ own_ap (fun v h L => v = some (.int 0) ∧ Fr n0 L ∧ h = h0) vv U'.heap LL ∧ FrameEnd U o U' LL 0 0) := by
  refine MetFree.of_bodySF (plainFor_of_name pn_15) hisR ?_
  intro p e s m args below meth c s₁ Bd hml0 hP hK
  obtain ⟨rfl, hZ, hh⟩ := hP
  have hx := Bd.exec
  have hby := Bd.bytes
  have hml : c.maxLocals = 1 := hml0
  have hown : s.vm.findClass "java/lang/String" = some m.cls := findClass_of_methodNamed Bd.named
  have hnm := (name_of_methodNamed Bd.named Bd.method).1
  have X0 : Stand p l e ({ frames := 0, cells := 0, slots := 0, locals := 0 } : Room) s m #[(.ref a1)] below meth c s₁ [] 0 0 := Stand.of_body Bd
  have e0 : s₁.heap = h0 := by rw [← hh, Bd.state]; rfl
  have N0 := Fr.nil n0
  show own_Go p.tables e below (own_Q s (fun v h L => v = some (.int 0) ∧ Fr n0 L ∧ h = h0) 0 0) (s₁.setTop (entryFrame m #[(.ref a1)] 1))
  rw [show entryFrame m #[(.ref a1)] 1 = mkF m 0 #[.val (.ref a1)] [] from by first | (simp [entryFrame, mkF, argsToLocals, Value.category]; done) | rfl]
  show own_Go _ _ _ _ (s₁.setTop (mkF m 0 #[.val (.ref a1)] []))
  obtain ⟨T1, X1, e1, st1⟩ := getS2 X0 hx hZ hown (host := "") (Or.inl (hw _ (List.mem_of_getElem? (i := 15) rfl))) Via.refl e0 PS (g := (mkF m 0 #[.val (.ref a1)] [])) rfl (hb hby d15_0)
  refine own_by st1 ?_
  show own_Go _ _ _ _ (T1.setTop (mkF m 3 #[.val (.ref a1)] [(.int cs)]))
  refine own_by (fun _ k => XS.ifNo X1.here hx rfl (hb hby d15_3) rfl ((if0 _ _).trans (feq Pcs).1) k) ?_
  refine own_by (fun _ k => XS.aloadN X1.here hx rfl (hb hby d15_6) rfl rfl k) ?_
  show own_Go _ _ _ _ (T1.setTop (mkF m 7 #[.val (.ref a1)] [(.ref a1)]))
  obtain ⟨T2, X2, e2, st2⟩ := getF X1 hx hZ hown (host := "") (Or.inl (hw _ (List.mem_of_getElem? (i := 27) rfl))) Via.refl e1 PFc (g := (mkF m 7 #[.val (.ref a1)] [(.ref a1)])) rfl rfl (hb hby d15_7)
  refine own_by st2 ?_
  show own_Go _ _ _ _ (T2.setTop (mkF m 10 #[.val (.ref a1)] [(.int (0 : Int32))]))
  refine own_by (fun _ k => XS.goto X2.here hx rfl (pc0 := 10) (pc' := 14) rfl (hb hby d15_10) (by decide) (by decide) k) ?_
  show own_Go _ _ _ _ (T2.setTop (mkF m 14 #[.val (.ref a1)] [(.int (0 : Int32))]))
  exact own_retN X2 hx Bd.notSynchronized e2 Bd.returns (by simp) (hb hby d15_14) (⟨rfl, N0, rfl⟩) (by decide) (by decide)
set_option maxRecDepth 65536 in
set_option maxHeartbeats 40000000 in
theorem rm17 (l : Launch) (Z : State) (a0 : Array Value) (hw : ∀ d ∈ tables_1, d.before a0 Z = true) (ws : List Jvm.Cond) (a1 : Addr) (cs : Int32) (h0 : Heap) (n0 : Nat) (Z0 : n0 ≤ h0.size) (PS : Sta Z h0 "java/lang/String" "COMPACT_STRINGS" "Z" (.int cs)) (Pcs : ¬ cs = 0) (PFc : Fld Z h0 a1 "java/lang/String" "coder" "B" (.int 0)) :
    MetFree l (⟨"java/lang/String", "isLatin1", "()Z"⟩ : MethodName) (head1 (Jvm.Cond.code (⟨"java/lang/String", "isLatin1", "()Z"⟩ : MethodName) jdk_42_method_154_code 1 (some .boolean) :: ws) ({ frames := 0, cells := 0, slots := 0, locals := 0 } : Room)) (fun a U => a = #[(.ref a1)] ∧ Z.Warmed39 U.vm ∧ U.heap = h0) (fun _ _ _ _ _ => True) (fun _ U o U' => ∃ vv LL, o = .returned vv ∧ own_ap (fun v h L => v = some (.int 1) ∧ Fr n0 L ∧ h = h0) vv U'.heap LL ∧ FrameEnd U o U' LL 0 0) := by
  refine MetFree.of_bodySF (plainFor_of_name pn_17) hisR ?_
  intro p e s m args below meth c s₁ Bd hml0 hP hK
  obtain ⟨rfl, hZ, hh⟩ := hP
  have hx := Bd.exec
  have hby := Bd.bytes
  have hml : c.maxLocals = 1 := hml0
  have hown : s.vm.findClass "java/lang/String" = some m.cls := findClass_of_methodNamed Bd.named
  have hnm := (name_of_methodNamed Bd.named Bd.method).1
  have X0 : Stand p l e ({ frames := 0, cells := 0, slots := 0, locals := 0 } : Room) s m #[(.ref a1)] below meth c s₁ [] 0 0 := Stand.of_body Bd
  have e0 : s₁.heap = h0 := by rw [← hh, Bd.state]; rfl
  have N0 := Fr.nil n0
  show own_Go p.tables e below (own_Q s (fun v h L => v = some (.int 1) ∧ Fr n0 L ∧ h = h0) 0 0) (s₁.setTop (entryFrame m #[(.ref a1)] 1))
  rw [show entryFrame m #[(.ref a1)] 1 = mkF m 0 #[.val (.ref a1)] [] from by first | (simp [entryFrame, mkF, argsToLocals, Value.category]; done) | rfl]
  show own_Go _ _ _ _ (s₁.setTop (mkF m 0 #[.val (.ref a1)] []))
  obtain ⟨T1, X1, e1, st1⟩ := getS2 X0 hx hZ hown (host := "") (Or.inl (hw _ (List.mem_of_getElem? (i := 15) rfl))) Via.refl e0 PS (g := (mkF m 0 #[.val (.ref a1)] [])) rfl (hb hby d17_0)
  refine own_by st1 ?_
  show own_Go _ _ _ _ (T1.setTop (mkF m 3 #[.val (.ref a1)] [(.int cs)]))
  refine own_by (fun _ k => XS.ifNo X1.here hx rfl (hb hby d17_3) rfl ((if0 _ _).trans (feq Pcs).1) k) ?_
  refine own_by (fun _ k => XS.aloadN X1.here hx rfl (hb hby d17_6) rfl rfl k) ?_
  show own_Go _ _ _ _ (T1.setTop (mkF m 7 #[.val (.ref a1)] [(.ref a1)]))
  obtain ⟨T2, X2, e2, st2⟩ := getF X1 hx hZ hown (host := "") (Or.inl (hw _ (List.mem_of_getElem? (i := 27) rfl))) Via.refl e1 PFc (g := (mkF m 7 #[.val (.ref a1)] [(.ref a1)])) rfl rfl (hb hby d17_7)
  refine own_by st2 ?_
  show own_Go _ _ _ _ (T2.setTop (mkF m 10 #[.val (.ref a1)] [(.int (0 : Int32))]))
  refine own_by (fun _ k => XS.ifNo X2.here hx rfl (hb hby d17_10) rfl ((if0 _ _).trans (teq (by decide)).2) k) ?_
  refine own_by (fun _ k => XS.iconst X2.here hx rfl (hb hby d17_13) k) ?_
  show own_Go _ _ _ _ (T2.setTop (mkF m 14 #[.val (.ref a1)] [(.int (1 : Int32))]))
  refine own_by (fun _ k => XS.goto X2.here hx rfl (pc0 := 14) (pc' := 18) rfl (hb hby d17_14) (by decide) (by decide) k) ?_
  show own_Go _ _ _ _ (T2.setTop (mkF m 18 #[.val (.ref a1)] [(.int (1 : Int32))]))
  exact own_retN X2 hx Bd.notSynchronized e2 Bd.returns (by simp) (hb hby d17_18) (⟨rfl, N0, rfl⟩) (by decide) (by decide)
set_option maxRecDepth 65536 in
set_option maxHeartbeats 40000000 in
theorem rm14 (l : Launch) (Z : State) (a0 : Array Value) (hw : ∀ d ∈ tables_1, d.before a0 Z = true) (ws : List Jvm.Cond) (a1 : Addr) (bv : Addr) (n : Nat) (z : Int32) (g : Nat → Int32) (cs : Int32) (h0 : Heap) (n0 : Nat) (Z0 : n0 ≤ h0.size) (PE : Exa Z h0 a1 "java/lang/String") (PFv : Fld Z h0 a1 "java/lang/String" "value" "[B" (.ref bv)) (PFc : Fld Z h0 a1 "java/lang/String" "coder" "B" (.int 0)) (PA : own_AI Z h0 bv .byte n g) (Pz : z = n.toInt32) (Pzi : z.toInt = (n : Int)) (PS : Sta Z h0 "java/lang/String" "COMPACT_STRINGS" "Z" (.int cs)) (Pcs : ¬ cs = 0) :
    MetFree l (⟨"java/lang/String", "length", "()I"⟩ : MethodName) (head1 (Jvm.Cond.code (⟨"java/lang/String", "length", "()I"⟩ : MethodName) jdk_42_method_54_code 1 (some .int) :: ws) ({ frames := 1, cells := 0, slots := 0, locals := 16 } : Room)) (fun a U => a = #[(.ref a1)] ∧ Z.Warmed39 U.vm ∧ U.heap = h0) (fun _ _ _ _ _ => True) (fun _ U o U' => ∃ vv LL, o = .returned vv ∧ own_ap (fun v h L => v = some (.int z) ∧ Fr n0 L ∧ h = h0) vv U'.heap LL ∧ FrameEnd U o U' LL 0 0) := by
  refine MetFree.of_bodySF (plainFor_of_name pn_14) hisR ?_
  intro p e s m args below meth c s₁ Bd hml0 hP hK
  obtain ⟨rfl, hZ, hh⟩ := hP
  have hx := Bd.exec
  have hby := Bd.bytes
  have hml : c.maxLocals = 1 := hml0
  have hown : s.vm.findClass "java/lang/String" = some m.cls := findClass_of_methodNamed Bd.named
  have hnm := (name_of_methodNamed Bd.named Bd.method).1
  have X0 : Stand p l e ({ frames := 1, cells := 0, slots := 0, locals := 16 } : Room) s m #[(.ref a1)] below meth c s₁ [] 0 0 := Stand.of_body Bd
  have e0 : s₁.heap = h0 := by rw [← hh, Bd.state]; rfl
  have N0 := Fr.nil n0
  show own_Go p.tables e below (own_Q s (fun v h L => v = some (.int z) ∧ Fr n0 L ∧ h = h0) 0 0) (s₁.setTop (entryFrame m #[(.ref a1)] 1))
  rw [show entryFrame m #[(.ref a1)] 1 = mkF m 0 #[.val (.ref a1)] [] from by first | (simp [entryFrame, mkF, argsToLocals, Value.category]; done) | rfl]
  show own_Go _ _ _ _ (s₁.setTop (mkF m 0 #[.val (.ref a1)] []))
  refine own_by (fun _ k => XS.aloadN X0.here hx rfl (hb hby d14_0) rfl rfl k) ?_
  show own_Go _ _ _ _ (s₁.setTop (mkF m 1 #[.val (.ref a1)] [(.ref a1)]))
  obtain ⟨T1, X1, e1, st1⟩ := getF X0 hx hZ hown (host := "") (Or.inl (hw _ (List.mem_of_getElem? (i := 29) rfl))) Via.refl e0 PFv (g := (mkF m 1 #[.val (.ref a1)] [(.ref a1)])) rfl rfl (hb hby d14_1)
  refine own_by st1 ?_
  show own_Go _ _ _ _ (T1.setTop (mkF m 4 #[.val (.ref a1)] [(.ref bv)]))
  refine own_by (fun _ k => own_len X1 hx hZ e1 PA z Pz (hb hby d14_4) k) ?_
  refine own_by (fun _ k => XS.aloadN X1.here hx rfl (hb hby d14_5) rfl rfl k) ?_
  show own_Go _ _ _ _ (T1.setTop (mkF m 6 #[.val (.ref a1)] [(.ref a1), (.int z)]))
  refine own_callV X1 hx hZ hown (hw _ (List.mem_of_getElem? (i := 80) rfl)) (hw _ (List.mem_of_getElem? (i := 81) rfl)) (notFace_of_selects (args := #[]) (mvT hZ (hw _ (List.mem_of_getElem? (i := 83) rfl)))) (hw _ (List.mem_of_getElem? (i := 83) rfl)) (hw _ (List.mem_of_getElem? (i := 82) rfl)) (hw _ (List.mem_of_getElem? (i := 4) rfl)) (hw _ (List.mem_of_getElem? (i := 84) rfl)) (by decide) (rm15 l Z a0 hw [] a1 cs h0 n0 Z0 PS Pcs PFc) e1 a1 PE (by rw [hml]; rfl) [] [(.int z)] rfl (lenOf own_pd14 rfl) rfl 1 (Nat.le_of_eq rfl) (by decide) (by decide) (Nat.le_of_ble_eq_true rfl) (Nat.le_of_ble_eq_true rfl) (hb hby d14_6) ?_
  intro T2 Lc2 v2 X2 hQ2
  obtain ⟨rfl, N2q, e2⟩ := hQ2
  have N2 := Fr.app N0 N2q
  show own_Go _ _ _ _ (T2.setTop (mkF m 9 #[.val (.ref a1)] [(.int (0 : Int32)), (.int z)]))
  refine own_by (fun _ k => XS.ishr X2.here hx rfl (hb hby d14_9) rfl k) ?_
  show own_Go _ _ _ _ (T2.setTop (mkF m 10 #[.val (.ref a1)] [(.int (z >>> ((0 : Int32) &&& 31)))]))
  exact own_retI X2 hx Bd.notSynchronized e2 Bd.returns (hb hby d14_10) (⟨by rw [own_shr0], N2, rfl⟩) (by decide) (by decide)
set_option maxRecDepth 65536 in
set_option maxHeartbeats 40000000 in
theorem rm20_n (l : Launch) (Z : State) (a0 : Array Value) (hw : ∀ d ∈ tables_1, d.before a0 Z = true) (ws : List Jvm.Cond) (p1 : Int32) (p2 : Int32)  (h0 : Heap) (n0 : Nat) (Z0 : n0 ≤ h0.size) (P0 : ¬ p1 < 0) (P1 : p1 < p2) :
    MetFree l (⟨"jdk/internal/util/Preconditions", "checkIndex", "(IILjava/util/function/BiFunction;)I"⟩ : MethodName) (head1 (Jvm.Cond.code (⟨"jdk/internal/util/Preconditions", "checkIndex", "(IILjava/util/function/BiFunction;)I"⟩ : MethodName) jdk_41_method_11_code 3 (some .int) :: ws) ({ frames := 0, cells := 0, slots := 0, locals := 0 } : Room)) (fun a U => a = #[(.int p1), (.int p2), .null] ∧ Z.Warmed39 U.vm ∧ U.heap = h0) (fun _ _ _ _ _ => True) (fun _ U o U' => ∃ vv LL, o = .returned vv ∧ own_ap (fun v h L => v = some (.int p1) ∧ Fr n0 L ∧ h = h0) vv U'.heap LL ∧ FrameEnd U o U' LL 0 0) := by
  refine MetFree.of_bodySF (plainFor_of_name pn_20) hisR ?_
  intro p e s m args below meth c s₁ Bd hml0 hP hK
  obtain ⟨rfl, hZ, hh⟩ := hP
  have hx := Bd.exec
  have hby := Bd.bytes
  have hml : c.maxLocals = 3 := hml0
  have hown : s.vm.findClass "jdk/internal/util/Preconditions" = some m.cls := findClass_of_methodNamed Bd.named
  have hnm := (name_of_methodNamed Bd.named Bd.method).1
  have X0 : Stand p l e ({ frames := 0, cells := 0, slots := 0, locals := 0 } : Room) s m #[(.int p1), (.int p2), .null] below meth c s₁ [] 0 0 := Stand.of_body Bd
  have e0 : s₁.heap = h0 := by rw [← hh, Bd.state]; rfl
  have N0 := Fr.nil n0
  show own_Go p.tables e below (own_Q s (fun v h L => v = some (.int p1) ∧ Fr n0 L ∧ h = h0) 0 0) (s₁.setTop (entryFrame m #[(.int p1), (.int p2), .null] 3))
  rw [show entryFrame m #[(.int p1), (.int p2), .null] 3 = mkF m 0 #[.val (.int p1), .val (.int p2), .val .null] [] from by first | (simp [entryFrame, mkF, argsToLocals, Value.category]; done) | rfl]
  show own_Go _ _ _ _ (s₁.setTop (mkF m 0 #[.val (.int p1), .val (.int p2), .val .null] []))
  refine own_by (fun _ k => XS.iloadN X0.here hx rfl (hb hby d20_0) rfl k) ?_
  show own_Go _ _ _ _ (s₁.setTop (mkF m 1 #[.val (.int p1), .val (.int p2), .val .null] [(.int p1)]))
  refine own_by (fun _ k => XS.ifNo X0.here hx rfl (hb hby d20_1) rfl ((if0 _ _).trans (flt P0).1) k) ?_
  refine own_by (fun _ k => XS.iloadN X0.here hx rfl (hb hby d20_4) rfl k) ?_
  refine own_by (fun _ k => XS.iloadN X0.here hx rfl (hb hby d20_5) rfl k) ?_
  show own_Go _ _ _ _ (s₁.setTop (mkF m 6 #[.val (.int p1), .val (.int p2), .val .null] [(.int p2), (.int p1)]))
  refine own_by (fun _ k => XS.icmpYes X0.here hx rfl (pc0 := 6) (pc' := 16) rfl (hb hby d20_6) rfl (tlt P1).1 (by decide) (by decide) k) ?_
  refine own_by (fun _ k => XS.iloadN X0.here hx rfl (hb hby d20_16) rfl k) ?_
  show own_Go _ _ _ _ (s₁.setTop (mkF m 17 #[.val (.int p1), .val (.int p2), .val .null] [(.int p1)]))
  exact own_retI X0 hx Bd.notSynchronized e0 Bd.returns (hb hby d20_17) (⟨rfl, N0, rfl⟩) (by decide) (by decide)
set_option maxRecDepth 65536 in
set_option maxHeartbeats 40000000 in
theorem rm20_v (l : Launch) (Z : State) (a0 : Array Value) (hw : ∀ d ∈ tables_1, d.before a0 Z = true) (ws : List Jvm.Cond) (p1 : Int32) (p2 : Int32) (r3 : Addr)  (h0 : Heap) (n0 : Nat) (Z0 : n0 ≤ h0.size) (P0 : ¬ p1 < 0) (P1 : p1 < p2) :
    MetFree l (⟨"jdk/internal/util/Preconditions", "checkIndex", "(IILjava/util/function/BiFunction;)I"⟩ : MethodName) (head1 (Jvm.Cond.code (⟨"jdk/internal/util/Preconditions", "checkIndex", "(IILjava/util/function/BiFunction;)I"⟩ : MethodName) jdk_41_method_11_code 3 (some .int) :: ws) ({ frames := 0, cells := 0, slots := 0, locals := 0 } : Room)) (fun a U => a = #[(.int p1), (.int p2), (.ref r3)] ∧ Z.Warmed39 U.vm ∧ U.heap = h0) (fun _ _ _ _ _ => True) (fun _ U o U' => ∃ vv LL, o = .returned vv ∧ own_ap (fun v h L => v = some (.int p1) ∧ Fr n0 L ∧ h = h0) vv U'.heap LL ∧ FrameEnd U o U' LL 0 0) := by
  refine MetFree.of_bodySF (plainFor_of_name pn_20) hisR ?_
  intro p e s m args below meth c s₁ Bd hml0 hP hK
  obtain ⟨rfl, hZ, hh⟩ := hP
  have hx := Bd.exec
  have hby := Bd.bytes
  have hml : c.maxLocals = 3 := hml0
  have hown : s.vm.findClass "jdk/internal/util/Preconditions" = some m.cls := findClass_of_methodNamed Bd.named
  have hnm := (name_of_methodNamed Bd.named Bd.method).1
  have X0 : Stand p l e ({ frames := 0, cells := 0, slots := 0, locals := 0 } : Room) s m #[(.int p1), (.int p2), (.ref r3)] below meth c s₁ [] 0 0 := Stand.of_body Bd
  have e0 : s₁.heap = h0 := by rw [← hh, Bd.state]; rfl
  have N0 := Fr.nil n0
  show own_Go p.tables e below (own_Q s (fun v h L => v = some (.int p1) ∧ Fr n0 L ∧ h = h0) 0 0) (s₁.setTop (entryFrame m #[(.int p1), (.int p2), (.ref r3)] 3))
  rw [show entryFrame m #[(.int p1), (.int p2), (.ref r3)] 3 = mkF m 0 #[.val (.int p1), .val (.int p2), .val (.ref r3)] [] from by first | (simp [entryFrame, mkF, argsToLocals, Value.category]; done) | rfl]
  show own_Go _ _ _ _ (s₁.setTop (mkF m 0 #[.val (.int p1), .val (.int p2), .val (.ref r3)] []))
  refine own_by (fun _ k => XS.iloadN X0.here hx rfl (hb hby d20_0) rfl k) ?_
  show own_Go _ _ _ _ (s₁.setTop (mkF m 1 #[.val (.int p1), .val (.int p2), .val (.ref r3)] [(.int p1)]))
  refine own_by (fun _ k => XS.ifNo X0.here hx rfl (hb hby d20_1) rfl ((if0 _ _).trans (flt P0).1) k) ?_
  refine own_by (fun _ k => XS.iloadN X0.here hx rfl (hb hby d20_4) rfl k) ?_
  refine own_by (fun _ k => XS.iloadN X0.here hx rfl (hb hby d20_5) rfl k) ?_
  show own_Go _ _ _ _ (s₁.setTop (mkF m 6 #[.val (.int p1), .val (.int p2), .val (.ref r3)] [(.int p2), (.int p1)]))
  refine own_by (fun _ k => XS.icmpYes X0.here hx rfl (pc0 := 6) (pc' := 16) rfl (hb hby d20_6) rfl (tlt P1).1 (by decide) (by decide) k) ?_
  refine own_by (fun _ k => XS.iloadN X0.here hx rfl (hb hby d20_16) rfl k) ?_
  show own_Go _ _ _ _ (s₁.setTop (mkF m 17 #[.val (.int p1), .val (.int p2), .val (.ref r3)] [(.int p1)]))
  exact own_retI X0 hx Bd.notSynchronized e0 Bd.returns (hb hby d20_17) (⟨rfl, N0, rfl⟩) (by decide) (by decide)
set_option maxRecDepth 65536 in
set_option maxHeartbeats 40000000 in
theorem rm19 (l : Launch) (Z : State) (a0 : Array Value) (hw : ∀ d ∈ tables_1, d.before a0 Z = true) (ws : List Jvm.Cond) (p1 : Int32) (p2 : Int32) (wf : Value) (h0 : Heap) (n0 : Nat) (Z0 : n0 ≤ h0.size) (PW : Sta Z h0 "jdk/internal/util/Preconditions" "SIOOBE_FORMATTER" "Ljava/util/function/BiFunction;" wf) (Pwf : wf.isRef = true) (P0 : ¬ p1 < 0) (P1 : p1 < p2) :
    MetFree l (⟨"java/lang/String", "checkIndex", "(II)V"⟩ : MethodName) (head1 (Jvm.Cond.code (⟨"java/lang/String", "checkIndex", "(II)V"⟩ : MethodName) jdk_42_method_155_code 2 none :: ws) ({ frames := 1, cells := 0, slots := 0, locals := 20 } : Room)) (fun a U => a = #[(.int p1), (.int p2)] ∧ Z.Warmed39 U.vm ∧ U.heap = h0) (fun _ _ _ _ _ => True) (fun _ U o U' => ∃ vv LL, o = .returned vv ∧ own_ap (fun v h L => v = none ∧ Fr n0 L ∧ h = h0) vv U'.heap LL ∧ FrameEnd U o U' LL 0 0) := by
  refine MetFree.of_bodySF (plainFor_of_name pn_19) hisR ?_
  intro p e s m args below meth c s₁ Bd hml0 hP hK
  obtain ⟨rfl, hZ, hh⟩ := hP
  have hx := Bd.exec
  have hby := Bd.bytes
  have hml : c.maxLocals = 2 := hml0
  have hown : s.vm.findClass "java/lang/String" = some m.cls := findClass_of_methodNamed Bd.named
  have hnm := (name_of_methodNamed Bd.named Bd.method).1
  have X0 : Stand p l e ({ frames := 1, cells := 0, slots := 0, locals := 20 } : Room) s m #[(.int p1), (.int p2)] below meth c s₁ [] 0 0 := Stand.of_body Bd
  have e0 : s₁.heap = h0 := by rw [← hh, Bd.state]; rfl
  have N0 := Fr.nil n0
  show own_Go p.tables e below (own_Q s (fun v h L => v = none ∧ Fr n0 L ∧ h = h0) 0 0) (s₁.setTop (entryFrame m #[(.int p1), (.int p2)] 2))
  rw [show entryFrame m #[(.int p1), (.int p2)] 2 = mkF m 0 #[.val (.int p1), .val (.int p2)] [] from by first | (simp [entryFrame, mkF, argsToLocals, Value.category]; done) | rfl]
  rcases own_ref Pwf with rfl | ⟨bw, rfl⟩
  · --
    show own_Go _ _ _ _ (s₁.setTop (mkF m 0 #[.val (.int p1), .val (.int p2)] []))
    refine own_by (fun _ k => XS.iloadN X0.here hx rfl (hb hby d19_0) rfl k) ?_
    refine own_by (fun _ k => XS.iloadN X0.here hx rfl (hb hby d19_1) rfl k) ?_
    show own_Go _ _ _ _ (s₁.setTop (mkF m 2 #[.val (.int p1), .val (.int p2)] [(.int p2), (.int p1)]))
    obtain ⟨T1, X1, e1, st1⟩ := getS2 X0 hx hZ hown (host := "") (Or.inl (hw _ (List.mem_of_getElem? (i := 101) rfl))) Via.refl e0 PW (g := (mkF m 2 #[.val (.int p1), .val (.int p2)] [(.int p2), (.int p1)])) rfl (hb hby d19_2)
    refine own_by st1 ?_
    show own_Go _ _ _ _ (T1.setTop (mkF m 5 #[.val (.int p1), .val (.int p2)] [.null, (.int p2), (.int p1)]))
    refine own_callS X1 hx hZ hown (hw _ (List.mem_of_getElem? (i := 103) rfl)) (hw _ (List.mem_of_getElem? (i := 104) rfl)) (hw _ (List.mem_of_getElem? (i := 102) rfl)) (hw _ (List.mem_of_getElem? (i := 105) rfl)) (by decide) (rm20_n l Z a0 hw [] p1 p2 h0 n0 Z0 P0 P1) e1 (by rw [hml]; rfl) [(.int p1), (.int p2), .null] [] rfl (lenOf own_pd19 rfl) rfl 0 (Nat.le_of_eq rfl) (by decide) (by decide) (Nat.le_of_ble_eq_true rfl) (Nat.le_of_ble_eq_true rfl) (hb hby d19_5) ?_
    intro T2 Lc2 v2 X2 hQ2
    obtain ⟨rfl, N2q, e2⟩ := hQ2
    have N2 := Fr.app N0 N2q
    show own_Go _ _ _ _ (T2.setTop (mkF m 8 #[.val (.int p1), .val (.int p2)] [(.int p1)]))
    refine own_by (fun _ k => XS.pop X2.here hx rfl (hb hby d19_8) rfl rfl k) ?_
    show own_Go _ _ _ _ (T2.setTop (mkF m 9 #[.val (.int p1), .val (.int p2)] []))
    exact own_retV X2 hx Bd.notSynchronized e2 Bd.returns (hb hby d19_9) (⟨rfl, N2, rfl⟩) (by decide) (by decide)
  · --
    show own_Go _ _ _ _ (s₁.setTop (mkF m 0 #[.val (.int p1), .val (.int p2)] []))
    refine own_by (fun _ k => XS.iloadN X0.here hx rfl (hb hby d19_0) rfl k) ?_
    refine own_by (fun _ k => XS.iloadN X0.here hx rfl (hb hby d19_1) rfl k) ?_
    show own_Go _ _ _ _ (s₁.setTop (mkF m 2 #[.val (.int p1), .val (.int p2)] [(.int p2), (.int p1)]))
    obtain ⟨T3, X3, e3, st3⟩ := getS2 X0 hx hZ hown (host := "") (Or.inl (hw _ (List.mem_of_getElem? (i := 101) rfl))) Via.refl e0 PW (g := (mkF m 2 #[.val (.int p1), .val (.int p2)] [(.int p2), (.int p1)])) rfl (hb hby d19_2)
    refine own_by st3 ?_
    show own_Go _ _ _ _ (T3.setTop (mkF m 5 #[.val (.int p1), .val (.int p2)] [(.ref bw), (.int p2), (.int p1)]))
    refine own_callS X3 hx hZ hown (hw _ (List.mem_of_getElem? (i := 103) rfl)) (hw _ (List.mem_of_getElem? (i := 104) rfl)) (hw _ (List.mem_of_getElem? (i := 102) rfl)) (hw _ (List.mem_of_getElem? (i := 105) rfl)) (by decide) (rm20_v l Z a0 hw [] p1 p2 bw h0 n0 Z0 P0 P1) e3 (by rw [hml]; rfl) [(.int p1), (.int p2), (.ref bw)] [] rfl (lenOf own_pd19 rfl) rfl 0 (Nat.le_of_eq rfl) (by decide) (by decide) (Nat.le_of_ble_eq_true rfl) (Nat.le_of_ble_eq_true rfl) (hb hby d19_5) ?_
    intro T4 Lc4 v4 X4 hQ4
    obtain ⟨rfl, N4q, e4⟩ := hQ4
    have N4 := Fr.app N0 N4q
    show own_Go _ _ _ _ (T4.setTop (mkF m 8 #[.val (.int p1), .val (.int p2)] [(.int p1)]))
    refine own_by (fun _ k => XS.pop X4.here hx rfl (hb hby d19_8) rfl rfl k) ?_
    show own_Go _ _ _ _ (T4.setTop (mkF m 9 #[.val (.int p1), .val (.int p2)] []))
    exact own_retV X4 hx Bd.notSynchronized e4 Bd.returns (hb hby d19_9) (⟨rfl, N4, rfl⟩) (by decide) (by decide)
set_option maxRecDepth 65536 in
set_option maxHeartbeats 40000000 in
theorem rm18 (l : Launch) (Z : State) (a0 : Array Value) (hw : ∀ d ∈ tables_1, d.before a0 Z = true) (ws : List Jvm.Cond) (a1 : Addr) (p1 : Int32) (wf : Value) (n : Nat) (z : Int32) (g : Nat → Int32) (kx : Nat) (h0 : Heap) (n0 : Nat) (Z0 : n0 ≤ h0.size) (PW : Sta Z h0 "jdk/internal/util/Preconditions" "SIOOBE_FORMATTER" "Ljava/util/function/BiFunction;" wf) (Pwf : wf.isRef = true) (PA : own_AI Z h0 a1 .byte n g) (Pz : z = n.toInt32) (Pzi : z.toInt = (n : Int)) (Pk : p1.toInt = (kx : Int)) (Pkn : kx < n) :
    MetFree l (⟨"java/lang/StringLatin1", "charAt", "([BI)C"⟩ : MethodName) (head1 (Jvm.Cond.code (⟨"java/lang/StringLatin1", "charAt", "([BI)C"⟩ : MethodName) jdk_43_method_2_code 2 (some .char) :: ws) ({ frames := 2, cells := 0, slots := 0, locals := 40 } : Room)) (fun a U => a = #[(.ref a1), (.int p1)] ∧ Z.Warmed39 U.vm ∧ U.heap = h0) (fun _ _ _ _ _ => True) (fun _ U o U' => ∃ vv LL, o = .returned vv ∧ own_ap (fun v h L => v = some (.int (own_cv (g kx))) ∧ Fr n0 L ∧ h = h0) vv U'.heap LL ∧ FrameEnd U o U' LL 0 0) := by
  refine MetFree.of_bodySF (plainFor_of_name pn_18) hisR ?_
  intro p e s m args below meth c s₁ Bd hml0 hP hK
  obtain ⟨rfl, hZ, hh⟩ := hP
  have hx := Bd.exec
  have hby := Bd.bytes
  have hml : c.maxLocals = 2 := hml0
  have hown : s.vm.findClass "java/lang/StringLatin1" = some m.cls := findClass_of_methodNamed Bd.named
  have hnm := (name_of_methodNamed Bd.named Bd.method).1
  have X0 : Stand p l e ({ frames := 2, cells := 0, slots := 0, locals := 40 } : Room) s m #[(.ref a1), (.int p1)] below meth c s₁ [] 0 0 := Stand.of_body Bd
  have e0 : s₁.heap = h0 := by rw [← hh, Bd.state]; rfl
  have N0 := Fr.nil n0
  show own_Go p.tables e below (own_Q s (fun v h L => v = some (.int (own_cv (g kx))) ∧ Fr n0 L ∧ h = h0) 0 0) (s₁.setTop (entryFrame m #[(.ref a1), (.int p1)] 2))
  rw [show entryFrame m #[(.ref a1), (.int p1)] 2 = mkF m 0 #[.val (.ref a1), .val (.int p1)] [] from by first | (simp [entryFrame, mkF, argsToLocals, Value.category]; done) | rfl]
  show own_Go _ _ _ _ (s₁.setTop (mkF m 0 #[.val (.ref a1), .val (.int p1)] []))
  refine own_by (fun _ k => XS.iloadN X0.here hx rfl (hb hby d18_0) rfl k) ?_
  refine own_by (fun _ k => XS.aloadN X0.here hx rfl (hb hby d18_1) rfl rfl k) ?_
  show own_Go _ _ _ _ (s₁.setTop (mkF m 2 #[.val (.ref a1), .val (.int p1)] [(.ref a1), (.int p1)]))
  refine own_by (fun _ k => own_len X0 hx hZ e0 PA z Pz (hb hby d18_2) k) ?_
  show own_Go _ _ _ _ (s₁.setTop (mkF m 3 #[.val (.ref a1), .val (.int p1)] [(.int z), (.int p1)]))
  refine own_callS X0 hx hZ hown (hw _ (List.mem_of_getElem? (i := 98) rfl)) (hw _ (List.mem_of_getElem? (i := 99) rfl)) (hw _ (List.mem_of_getElem? (i := 4) rfl)) (hw _ (List.mem_of_getElem? (i := 100) rfl)) (by decide) (rm19 l Z a0 hw [] p1 z wf h0 n0 Z0 PW Pwf (by rw [Int32.lt_iff_toInt_lt, Pk]; simp) (by rw [Int32.lt_iff_toInt_lt, Pk, Pzi]; omega)) e0 (by rw [hml]; rfl) [(.int p1), (.int z)] [] rfl (lenOf own_pd18 rfl) rfl 0 (Nat.le_of_eq rfl) (by decide) (by decide) (Nat.le_of_ble_eq_true rfl) (Nat.le_of_ble_eq_true rfl) (hb hby d18_3) ?_
  intro T1 Lc1 v1 X1 hQ1
  obtain ⟨rfl, N1q, e1⟩ := hQ1
  have N1 := Fr.app N0 N1q
  show own_Go _ _ _ _ (T1.setTop (mkF m 6 #[.val (.ref a1), .val (.int p1)] []))
  refine own_by (fun _ k => XS.aloadN X1.here hx rfl (hb hby d18_6) rfl rfl k) ?_
  refine own_by (fun _ k => XS.iloadN X1.here hx rfl (hb hby d18_7) rfl k) ?_
  show own_Go _ _ _ _ (T1.setTop (mkF m 8 #[.val (.ref a1), .val (.int p1)] [(.int p1), (.ref a1)]))
  refine own_by (fun _ k => own_bal X1 hx hZ e1 PA kx Pk Pkn (hb hby d18_8) k) ?_
  refine own_by (fun _ k => XS.sipush X1.here hx rfl (hb hby d18_9) k) ?_
  show own_Go _ _ _ _ (T1.setTop (mkF m 12 #[.val (.ref a1), .val (.int p1)] [(.int (255 : Int32)), (.int (g kx))]))
  refine own_by (fun _ k => XS.iand X1.here hx rfl (hb hby d18_12) rfl k) ?_
  show own_Go _ _ _ _ (T1.setTop (mkF m 13 #[.val (.ref a1), .val (.int p1)] [(.int ((g kx) &&& (255 : Int32)))]))
  refine own_by (fun _ k => XS.i2c X1.here hx rfl (hb hby d18_13) rfl k) ?_
  show own_Go _ _ _ _ (T1.setTop (mkF m 14 #[.val (.ref a1), .val (.int p1)] [(.int (((g kx) &&& (255 : Int32)).toUInt32.toUInt16.toUInt32.toInt32))]))
  exact own_retN X1 hx Bd.notSynchronized e1 Bd.returns (by simp) (hb hby d18_14) (⟨by rw [own_narcv], N1, rfl⟩) (by decide) (by decide)
set_option maxRecDepth 65536 in
set_option maxHeartbeats 40000000 in
theorem rm16 (l : Launch) (Z : State) (a0 : Array Value) (hw : ∀ d ∈ tables_1, d.before a0 Z = true) (ws : List Jvm.Cond) (a1 : Addr) (p1 : Int32) (bv : Addr) (n : Nat) (z : Int32) (g : Nat → Int32) (cs : Int32) (wf : Value) (kx : Nat) (h0 : Heap) (n0 : Nat) (Z0 : n0 ≤ h0.size) (PE : Exa Z h0 a1 "java/lang/String") (PFv : Fld Z h0 a1 "java/lang/String" "value" "[B" (.ref bv)) (PFc : Fld Z h0 a1 "java/lang/String" "coder" "B" (.int 0)) (PA : own_AI Z h0 bv .byte n g) (Pz : z = n.toInt32) (Pzi : z.toInt = (n : Int)) (PS : Sta Z h0 "java/lang/String" "COMPACT_STRINGS" "Z" (.int cs)) (Pcs : ¬ cs = 0) (PW : Sta Z h0 "jdk/internal/util/Preconditions" "SIOOBE_FORMATTER" "Ljava/util/function/BiFunction;" wf) (Pwf : wf.isRef = true) (Pk : p1.toInt = (kx : Int)) (Pkn : kx < n) :
    MetFree l (⟨"java/lang/String", "charAt", "(I)C"⟩ : MethodName) (head1 (Jvm.Cond.code (⟨"java/lang/String", "charAt", "(I)C"⟩ : MethodName) jdk_42_method_56_code 2 (some .char) :: ws) ({ frames := 3, cells := 0, slots := 0, locals := 60 } : Room)) (fun a U => a = #[(.ref a1), (.int p1)] ∧ Z.Warmed39 U.vm ∧ U.heap = h0) (fun _ _ _ _ _ => True) (fun _ U o U' => ∃ vv LL, o = .returned vv ∧ own_ap (fun v h L => v = some (.int (own_cv (g kx))) ∧ Fr n0 L ∧ h = h0) vv U'.heap LL ∧ FrameEnd U o U' LL 0 0) := by
  refine MetFree.of_bodySF (plainFor_of_name pn_16) hisR ?_
  intro p e s m args below meth c s₁ Bd hml0 hP hK
  obtain ⟨rfl, hZ, hh⟩ := hP
  have hx := Bd.exec
  have hby := Bd.bytes
  have hml : c.maxLocals = 2 := hml0
  have hown : s.vm.findClass "java/lang/String" = some m.cls := findClass_of_methodNamed Bd.named
  have hnm := (name_of_methodNamed Bd.named Bd.method).1
  have X0 : Stand p l e ({ frames := 3, cells := 0, slots := 0, locals := 60 } : Room) s m #[(.ref a1), (.int p1)] below meth c s₁ [] 0 0 := Stand.of_body Bd
  have e0 : s₁.heap = h0 := by rw [← hh, Bd.state]; rfl
  have N0 := Fr.nil n0
  show own_Go p.tables e below (own_Q s (fun v h L => v = some (.int (own_cv (g kx))) ∧ Fr n0 L ∧ h = h0) 0 0) (s₁.setTop (entryFrame m #[(.ref a1), (.int p1)] 2))
  rw [show entryFrame m #[(.ref a1), (.int p1)] 2 = mkF m 0 #[.val (.ref a1), .val (.int p1)] [] from by first | (simp [entryFrame, mkF, argsToLocals, Value.category]; done) | rfl]
  show own_Go _ _ _ _ (s₁.setTop (mkF m 0 #[.val (.ref a1), .val (.int p1)] []))
  refine own_by (fun _ k => XS.aloadN X0.here hx rfl (hb hby d16_0) rfl rfl k) ?_
  show own_Go _ _ _ _ (s₁.setTop (mkF m 1 #[.val (.ref a1), .val (.int p1)] [(.ref a1)]))
  refine own_callV X0 hx hZ hown (hw _ (List.mem_of_getElem? (i := 90) rfl)) (hw _ (List.mem_of_getElem? (i := 91) rfl)) (notFace_of_selects (args := #[]) (mvT hZ (hw _ (List.mem_of_getElem? (i := 93) rfl)))) (hw _ (List.mem_of_getElem? (i := 93) rfl)) (hw _ (List.mem_of_getElem? (i := 92) rfl)) (hw _ (List.mem_of_getElem? (i := 4) rfl)) (hw _ (List.mem_of_getElem? (i := 94) rfl)) (by decide) (rm17 l Z a0 hw [] a1 cs h0 n0 Z0 PS Pcs PFc) e0 a1 PE (by rw [hml]; rfl) [] [] rfl (lenOf own_pd16 rfl) rfl 0 (Nat.le_of_eq rfl) (by decide) (by decide) (Nat.le_of_ble_eq_true rfl) (Nat.le_of_ble_eq_true rfl) (hb hby d16_1) ?_
  intro T1 Lc1 v1 X1 hQ1
  obtain ⟨rfl, N1q, e1⟩ := hQ1
  have N1 := Fr.app N0 N1q
  show own_Go _ _ _ _ (T1.setTop (mkF m 4 #[.val (.ref a1), .val (.int p1)] [(.int (1 : Int32))]))
  refine own_by (fun _ k => XS.ifNo X1.here hx rfl (hb hby d16_4) rfl ((if0 _ _).trans (feq (by decide)).1) k) ?_
  refine own_by (fun _ k => XS.aloadN X1.here hx rfl (hb hby d16_7) rfl rfl k) ?_
  show own_Go _ _ _ _ (T1.setTop (mkF m 8 #[.val (.ref a1), .val (.int p1)] [(.ref a1)]))
  obtain ⟨T2, X2, e2, st2⟩ := getF X1 hx hZ hown (host := "") (Or.inl (hw _ (List.mem_of_getElem? (i := 29) rfl))) Via.refl e1 PFv (g := (mkF m 8 #[.val (.ref a1), .val (.int p1)] [(.ref a1)])) rfl rfl (hb hby d16_8)
  refine own_by st2 ?_
  refine own_by (fun _ k => XS.iloadN X2.here hx rfl (hb hby d16_11) rfl k) ?_
  show own_Go _ _ _ _ (T2.setTop (mkF m 12 #[.val (.ref a1), .val (.int p1)] [(.int p1), (.ref bv)]))
  refine own_callS X2 hx hZ hown (hw _ (List.mem_of_getElem? (i := 95) rfl)) (hw _ (List.mem_of_getElem? (i := 96) rfl)) (hw _ (List.mem_of_getElem? (i := 36) rfl)) (hw _ (List.mem_of_getElem? (i := 97) rfl)) (by decide) (rm18 l Z a0 hw [] bv p1 wf n z g kx h0 n0 Z0 PW Pwf PA Pz Pzi Pk Pkn) e2 (by rw [hml]; rfl) [(.ref bv), (.int p1)] [] rfl (lenOf own_pd17 rfl) rfl 0 (Nat.le_of_eq rfl) (by decide) (by decide) (Nat.le_of_ble_eq_true rfl) (Nat.le_of_ble_eq_true rfl) (hb hby d16_12) ?_
  intro T3 Lc3 v3 X3 hQ3
  obtain ⟨rfl, N3q, e3⟩ := hQ3
  have N3 := Fr.app N1 N3q
  show own_Go _ _ _ _ (T3.setTop (mkF m 15 #[.val (.ref a1), .val (.int p1)] [(.int (own_cv (g kx)))]))
  exact own_retN X3 hx Bd.notSynchronized e3 Bd.returns (by simp) (hb hby d16_15) (⟨by rw [own_lo.nar (own_cvlo _)], N3, rfl⟩) (by decide) (by decide)
/-! which signs are escaped -/
def own_es (c w : Int32) : Int32 := if c < 32 then 1 else if c < 127 then (if c = 92 then 1 else if w = 0 then 0 else if c = 32 then 1 else 0) else if (159 : Int32) < c then 0 else 1
def own_iso (c : Int32) : Int32 := if (159 : Int32) < c then 0 else if c < 127 then (if ((c.toUInt32 >>> ((5 : Int32) &&& 31).toUInt32).toInt32) = 0 then 1 else 0) else 1
theorem own_isoes (c w : Int32) (hl : own_lo c) (h : c < 32 ∨ ¬ c < 127) : own_iso c = own_es c w := by
  have l32 : (32 : Int32).toInt = 32 := by decide
  have l127 : (127 : Int32).toInt = 127 := by decide
  have l159 : (159 : Int32).toInt = 159 := by decide
  unfold own_iso own_es
  by_cases h1 : c < 32
  · have q := Int32.lt_iff_toInt_lt.mp h1
    have n1 : ¬ (159 : Int32) < c := by rw [Int32.lt_iff_toInt_lt]; omega
    have n2 : c < 127 := by rw [Int32.lt_iff_toInt_lt]; omega
    have c1 := c_iushr c 5 5 (by decide) (by decide)
    have q0 := hl.1
    have e : ((c.toUInt32 >>> ((5 : Int32) &&& 31).toUInt32).toInt32) = 0 := by
      apply Int32.toInt_inj.mp; rw [c1, show (0 : Int32).toInt = 0 by decide]; omega
    rw [if_neg n1, if_pos n2, if_pos e, if_pos h1]
  · have h2 : ¬ c < 127 := by rcases h with h | h; exact absurd h h1; exact h
    rw [if_neg h1, if_neg h2, if_neg h2]
theorem own_lo.ltk {c : Int32} (h : own_lo c) (k : Int32) (hk : 255 < k.toInt) : c < k := by rw [Int32.lt_iff_toInt_lt]; have := h.2; omega
theorem own_lo.nek {c : Int32} (h : own_lo c) (k : Int32) (hk : 255 < k.toInt) : ¬ c = k := fun e => by subst e; have := h.2; omega
set_option maxRecDepth 65536 in
set_option maxHeartbeats 40000000 in
theorem rm28 (l : Launch) (Z : State) (a0 : Array Value) (hw : ∀ d ∈ tables_1, d.before a0 Z = true) (ws : List Jvm.Cond) (p1 : Int32) (p2 : Int32)  (h0 : Heap) (n0 : Nat) (Z0 : n0 ≤ h0.size) :
    MetFree l (⟨"com/example/libmakespan/libmakespan/UnitsResetPinLaw", "esc", "(CZ)Z"⟩ : MethodName) (head1 (Jvm.Cond.code (⟨"com/example/libmakespan/libmakespan/UnitsResetPinLaw", "esc", "(CZ)Z"⟩ : MethodName) method_3_code 2 (some .boolean) :: ws) ({ frames := 0, cells := 0, slots := 0, locals := 0 } : Room)) (fun a U => a = #[(.int p1), (.int p2)] ∧ Z.Warmed39 U.vm ∧ U.heap = h0) (fun _ _ _ _ _ => True) (fun _ U o U' => ∃ vv LL, o = .returned vv ∧ own_ap (fun v h L => v = some (.int (own_es p1 p2)) ∧ Fr n0 L ∧ h = h0) vv U'.heap LL ∧ FrameEnd U o U' LL 0 0) := by
  refine MetFree.of_bodySF (plainFor_of_name pn_28) hisR ?_
  intro p e s m args below meth c s₁ Bd hml0 hP hK
  obtain ⟨rfl, hZ, hh⟩ := hP
  have hx := Bd.exec
  have hby := Bd.bytes
  have hml : c.maxLocals = 2 := hml0
  have hown : s.vm.findClass "com/example/libmakespan/libmakespan/UnitsResetPinLaw" = some m.cls := findClass_of_methodNamed Bd.named
  have hnm := (name_of_methodNamed Bd.named Bd.method).1
  have X0 : Stand p l e ({ frames := 0, cells := 0, slots := 0, locals := 0 } : Room) s m #[(.int p1), (.int p2)] below meth c s₁ [] 0 0 := Stand.of_body Bd
  have e0 : s₁.heap = h0 := by rw [← hh, Bd.state]; rfl
  have N0 := Fr.nil n0
  show own_Go p.tables e below (own_Q s (fun v h L => v = some (.int (own_es p1 p2)) ∧ Fr n0 L ∧ h = h0) 0 0) (s₁.setTop (entryFrame m #[(.int p1), (.int p2)] 2))
  rw [show entryFrame m #[(.int p1), (.int p2)] 2 = mkF m 0 #[.val (.int p1), .val (.int p2)] [] from by first | (simp [entryFrame, mkF, argsToLocals, Value.category]; done) | rfl]
  show own_Go _ _ _ _ (s₁.setTop (mkF m 0 #[.val (.int p1), .val (.int p2)] []))
  refine own_by (fun _ k => XS.iloadN X0.here hx rfl (hb hby d28_0) rfl k) ?_
  refine own_by (fun _ k => XS.bipush X0.here hx rfl (hb hby d28_1) k) ?_
  show own_Go _ _ _ _ (s₁.setTop (mkF m 3 #[.val (.int p1), .val (.int p2)] [(.int (32 : Int32)), (.int p1)]))
  by_cases hc1 : p1 < (32 : Int32)
  · --
    refine own_by (fun _ k => XS.icmpYes X0.here hx rfl (pc0 := 3) (pc' := 34) rfl (hb hby d28_3) rfl (tlt hc1).1 (by decide) (by decide) k) ?_
    refine own_by (fun _ k => XS.iloadN X0.here hx rfl (hb hby d28_34) rfl k) ?_
    refine own_by (fun _ k => XS.bipush X0.here hx rfl (hb hby d28_35) k) ?_
    show own_Go _ _ _ _ (s₁.setTop (mkF m 37 #[.val (.int p1), .val (.int p2)] [(.int (32 : Int32)), (.int p1)]))
    refine own_by (fun _ k => XS.icmpYes X0.here hx rfl (pc0 := 37) (pc' := 53) rfl (hb hby d28_37) rfl (tlt hc1).1 (by decide) (by decide) k) ?_
    refine own_by (fun _ k => XS.iconst X0.here hx rfl (hb hby d28_53) k) ?_
    show own_Go _ _ _ _ (s₁.setTop (mkF m 54 #[.val (.int p1), .val (.int p2)] [(.int (1 : Int32))]))
    refine own_by (fun _ k => XS.goto X0.here hx rfl (pc0 := 54) (pc' := 58) rfl (hb hby d28_54) (by decide) (by decide) k) ?_
    show own_Go _ _ _ _ (s₁.setTop (mkF m 58 #[.val (.int p1), .val (.int p2)] [(.int (1 : Int32))]))
    exact own_retN X0 hx Bd.notSynchronized e0 Bd.returns (by simp) (hb hby d28_58) (⟨by rw [show own_es p1 p2 = 1 from by unfold own_es; simp only [if_pos hc1]]; rfl, N0, rfl⟩) (by decide) (by decide)
  · --
    refine own_by (fun _ k => XS.icmpNo X0.here hx rfl (hb hby d28_3) rfl (flt hc1).1 k) ?_
    refine own_by (fun _ k => XS.iloadN X0.here hx rfl (hb hby d28_6) rfl k) ?_
    refine own_by (fun _ k => XS.bipush X0.here hx rfl (hb hby d28_7) k) ?_
    show own_Go _ _ _ _ (s₁.setTop (mkF m 9 #[.val (.int p1), .val (.int p2)] [(.int (127 : Int32)), (.int p1)]))
    by_cases hc2 : p1 < (127 : Int32)
    · --
      refine own_by (fun _ k => XS.icmpNo X0.here hx rfl (hb hby d28_9) rfl (tlt hc2).2.1 k) ?_
      refine own_by (fun _ k => XS.iloadN X0.here hx rfl (hb hby d28_12) rfl k) ?_
      refine own_by (fun _ k => XS.bipush X0.here hx rfl (hb hby d28_13) k) ?_
      show own_Go _ _ _ _ (s₁.setTop (mkF m 15 #[.val (.int p1), .val (.int p2)] [(.int (92 : Int32)), (.int p1)]))
      by_cases hc3 : p1 = (92 : Int32)
      · --
        refine own_by (fun _ k => XS.icmpYes X0.here hx rfl (pc0 := 15) (pc' := 28) rfl (hb hby d28_15) rfl (teq hc3).1 (by decide) (by decide) k) ?_
        refine own_by (fun _ k => XS.iconst X0.here hx rfl (hb hby d28_28) k) ?_
        show own_Go _ _ _ _ (s₁.setTop (mkF m 29 #[.val (.int p1), .val (.int p2)] [(.int (1 : Int32))]))
        refine own_by (fun _ k => XS.goto X0.here hx rfl (pc0 := 29) (pc' := 33) rfl (hb hby d28_29) (by decide) (by decide) k) ?_
        show own_Go _ _ _ _ (s₁.setTop (mkF m 33 #[.val (.int p1), .val (.int p2)] [(.int (1 : Int32))]))
        exact own_retN X0 hx Bd.notSynchronized e0 Bd.returns (by simp) (hb hby d28_33) (⟨by rw [show own_es p1 p2 = 1 from by unfold own_es; simp only [if_neg hc1, if_pos hc2, if_pos hc3]]; rfl, N0, rfl⟩) (by decide) (by decide)
      · --
        refine own_by (fun _ k => XS.icmpNo X0.here hx rfl (hb hby d28_15) rfl (feq hc3).1 k) ?_
        refine own_by (fun _ k => XS.iloadN X0.here hx rfl (hb hby d28_18) rfl k) ?_
        show own_Go _ _ _ _ (s₁.setTop (mkF m 19 #[.val (.int p1), .val (.int p2)] [(.int p2)]))
        by_cases hc4 : p2 = (0 : Int32)
        · --
          refine own_by (fun _ k => XS.ifYes X0.here hx rfl (pc0 := 19) (pc' := 32) rfl (hb hby d28_19) rfl ((if0 _ _).trans (teq hc4).1) (by decide) (by decide) k) ?_
          refine own_by (fun _ k => XS.iconst X0.here hx rfl (hb hby d28_32) k) ?_
          show own_Go _ _ _ _ (s₁.setTop (mkF m 33 #[.val (.int p1), .val (.int p2)] [(.int (0 : Int32))]))
          exact own_retN X0 hx Bd.notSynchronized e0 Bd.returns (by simp) (hb hby d28_33) (⟨by rw [show own_es p1 p2 = 0 from by unfold own_es; simp only [if_neg hc1, if_pos hc2, if_neg hc3, if_pos hc4]]; rfl, N0, rfl⟩) (by decide) (by decide)
        · --
          refine own_by (fun _ k => XS.ifNo X0.here hx rfl (hb hby d28_19) rfl ((if0 _ _).trans (feq hc4).1) k) ?_
          refine own_by (fun _ k => XS.iloadN X0.here hx rfl (hb hby d28_22) rfl k) ?_
          refine own_by (fun _ k => XS.bipush X0.here hx rfl (hb hby d28_23) k) ?_
          show own_Go _ _ _ _ (s₁.setTop (mkF m 25 #[.val (.int p1), .val (.int p2)] [(.int (32 : Int32)), (.int p1)]))
          by_cases hc5 : p1 = (32 : Int32)
          · --
            refine own_by (fun _ k => XS.icmpNo X0.here hx rfl (hb hby d28_25) rfl (teq hc5).2 k) ?_
            refine own_by (fun _ k => XS.iconst X0.here hx rfl (hb hby d28_28) k) ?_
            show own_Go _ _ _ _ (s₁.setTop (mkF m 29 #[.val (.int p1), .val (.int p2)] [(.int (1 : Int32))]))
            refine own_by (fun _ k => XS.goto X0.here hx rfl (pc0 := 29) (pc' := 33) rfl (hb hby d28_29) (by decide) (by decide) k) ?_
            show own_Go _ _ _ _ (s₁.setTop (mkF m 33 #[.val (.int p1), .val (.int p2)] [(.int (1 : Int32))]))
            exact own_retN X0 hx Bd.notSynchronized e0 Bd.returns (by simp) (hb hby d28_33) (⟨by rw [show own_es p1 p2 = 1 from by unfold own_es; simp only [if_neg hc1, if_pos hc2, if_neg hc3, if_neg hc4, if_pos hc5]]; rfl, N0, rfl⟩) (by decide) (by decide)
          · --
            refine own_by (fun _ k => XS.icmpYes X0.here hx rfl (pc0 := 25) (pc' := 32) rfl (hb hby d28_25) rfl (feq hc5).2 (by decide) (by decide) k) ?_
            refine own_by (fun _ k => XS.iconst X0.here hx rfl (hb hby d28_32) k) ?_
            show own_Go _ _ _ _ (s₁.setTop (mkF m 33 #[.val (.int p1), .val (.int p2)] [(.int (0 : Int32))]))
            exact own_retN X0 hx Bd.notSynchronized e0 Bd.returns (by simp) (hb hby d28_33) (⟨by rw [show own_es p1 p2 = 0 from by unfold own_es; simp only [if_neg hc1, if_pos hc2, if_neg hc3, if_neg hc4, if_neg hc5]]; rfl, N0, rfl⟩) (by decide) (by decide)
    · --
      refine own_by (fun _ k => XS.icmpYes X0.here hx rfl (pc0 := 9) (pc' := 34) rfl (hb hby d28_9) rfl (flt hc2).2.1 (by decide) (by decide) k) ?_
      refine own_by (fun _ k => XS.iloadN X0.here hx rfl (hb hby d28_34) rfl k) ?_
      refine own_by (fun _ k => XS.bipush X0.here hx rfl (hb hby d28_35) k) ?_
      show own_Go _ _ _ _ (s₁.setTop (mkF m 37 #[.val (.int p1), .val (.int p2)] [(.int (32 : Int32)), (.int p1)]))
      refine own_by (fun _ k => XS.icmpNo X0.here hx rfl (hb hby d28_37) rfl (flt hc1).1 k) ?_
      refine own_by (fun _ k => XS.iloadN X0.here hx rfl (hb hby d28_40) rfl k) ?_
      refine own_by (fun _ k => XS.bipush X0.here hx rfl (hb hby d28_41) k) ?_
      show own_Go _ _ _ _ (s₁.setTop (mkF m 43 #[.val (.int p1), .val (.int p2)] [(.int (127 : Int32)), (.int p1)]))
      refine own_by (fun _ k => XS.icmpNo X0.here hx rfl (hb hby d28_43) rfl (flt hc2).1 k) ?_
      refine own_by (fun _ k => XS.iloadN X0.here hx rfl (hb hby d28_46) rfl k) ?_
      refine own_by (fun _ k => XS.sipush X0.here hx rfl (hb hby d28_47) k) ?_
      show own_Go _ _ _ _ (s₁.setTop (mkF m 50 #[.val (.int p1), .val (.int p2)] [(.int (159 : Int32)), (.int p1)]))
      by_cases hc6 : (159 : Int32) < p1
      · --
        refine own_by (fun _ k => XS.icmpYes X0.here hx rfl (pc0 := 50) (pc' := 57) rfl (hb hby d28_50) rfl (tlt hc6).2.2.1 (by decide) (by decide) k) ?_
        refine own_by (fun _ k => XS.iconst X0.here hx rfl (hb hby d28_57) k) ?_
        show own_Go _ _ _ _ (s₁.setTop (mkF m 58 #[.val (.int p1), .val (.int p2)] [(.int (0 : Int32))]))
        exact own_retN X0 hx Bd.notSynchronized e0 Bd.returns (by simp) (hb hby d28_58) (⟨by rw [show own_es p1 p2 = 0 from by unfold own_es; simp only [if_neg hc1, if_neg hc2, if_pos hc6]]; rfl, N0, rfl⟩) (by decide) (by decide)
      · --
        refine own_by (fun _ k => XS.icmpNo X0.here hx rfl (hb hby d28_50) rfl (flt hc6).2.2.1 k) ?_
        refine own_by (fun _ k => XS.iconst X0.here hx rfl (hb hby d28_53) k) ?_
        show own_Go _ _ _ _ (s₁.setTop (mkF m 54 #[.val (.int p1), .val (.int p2)] [(.int (1 : Int32))]))
        refine own_by (fun _ k => XS.goto X0.here hx rfl (pc0 := 54) (pc' := 58) rfl (hb hby d28_54) (by decide) (by decide) k) ?_
        show own_Go _ _ _ _ (s₁.setTop (mkF m 58 #[.val (.int p1), .val (.int p2)] [(.int (1 : Int32))]))
        exact own_retN X0 hx Bd.notSynchronized e0 Bd.returns (by simp) (hb hby d28_58) (⟨by rw [show own_es p1 p2 = 1 from by unfold own_es; simp only [if_neg hc1, if_neg hc2, if_neg hc6]]; rfl, N0, rfl⟩) (by decide) (by decide)
set_option maxRecDepth 65536 in
set_option maxHeartbeats 40000000 in
theorem rm25 (l : Launch) (Z : State) (a0 : Array Value) (hw : ∀ d ∈ tables_1, d.before a0 Z = true) (ws : List Jvm.Cond) (p1 : Int32)  (h0 : Heap) (n0 : Nat) (Z0 : n0 ≤ h0.size) :
    MetFree l (⟨"java/lang/Character", "isISOControl", "(I)Z"⟩ : MethodName) (head1 (Jvm.Cond.code (⟨"java/lang/Character", "isISOControl", "(I)Z"⟩ : MethodName) jdk_89_method_89_code 1 (some .boolean) :: ws) ({ frames := 0, cells := 0, slots := 0, locals := 0 } : Room)) (fun a U => a = #[(.int p1)] ∧ Z.Warmed39 U.vm ∧ U.heap = h0) (fun _ _ _ _ _ => True) (fun _ U o U' => ∃ vv LL, o = .returned vv ∧ own_ap (fun v h L => v = some (.int (own_iso p1)) ∧ Fr n0 L ∧ h = h0) vv U'.heap LL ∧ FrameEnd U o U' LL 0 0) := by
  refine MetFree.of_bodySF (plainFor_of_name pn_25) hisR ?_
  intro p e s m args below meth c s₁ Bd hml0 hP hK
  obtain ⟨rfl, hZ, hh⟩ := hP
  have hx := Bd.exec
  have hby := Bd.bytes
  have hml : c.maxLocals = 1 := hml0
  have hown : s.vm.findClass "java/lang/Character" = some m.cls := findClass_of_methodNamed Bd.named
  have hnm := (name_of_methodNamed Bd.named Bd.method).1
  have X0 : Stand p l e ({ frames := 0, cells := 0, slots := 0, locals := 0 } : Room) s m #[(.int p1)] below meth c s₁ [] 0 0 := Stand.of_body Bd
  have e0 : s₁.heap = h0 := by rw [← hh, Bd.state]; rfl
  have N0 := Fr.nil n0
  show own_Go p.tables e below (own_Q s (fun v h L => v = some (.int (own_iso p1)) ∧ Fr n0 L ∧ h = h0) 0 0) (s₁.setTop (entryFrame m #[(.int p1)] 1))
  rw [show entryFrame m #[(.int p1)] 1 = mkF m 0 #[.val (.int p1)] [] from by first | (simp [entryFrame, mkF, argsToLocals, Value.category]; done) | rfl]
  show own_Go _ _ _ _ (s₁.setTop (mkF m 0 #[.val (.int p1)] []))
  refine own_by (fun _ k => XS.iloadN X0.here hx rfl (hb hby d25_0) rfl k) ?_
  refine own_by (fun _ k => XS.sipush X0.here hx rfl (hb hby d25_1) k) ?_
  show own_Go _ _ _ _ (s₁.setTop (mkF m 4 #[.val (.int p1)] [(.int (159 : Int32)), (.int p1)]))
  by_cases hc1 : (159 : Int32) < p1
  · --
    refine own_by (fun _ k => XS.icmpYes X0.here hx rfl (pc0 := 4) (pc' := 23) rfl (hb hby d25_4) rfl (tlt hc1).2.2.1 (by decide) (by decide) k) ?_
    refine own_by (fun _ k => XS.iconst X0.here hx rfl (hb hby d25_23) k) ?_
    show own_Go _ _ _ _ (s₁.setTop (mkF m 24 #[.val (.int p1)] [(.int (0 : Int32))]))
    exact own_retN X0 hx Bd.notSynchronized e0 Bd.returns (by simp) (hb hby d25_24) (⟨by rw [show own_iso p1 = 0 from by unfold own_iso; simp only [if_pos hc1]]; rfl, N0, rfl⟩) (by decide) (by decide)
  · --
    refine own_by (fun _ k => XS.icmpNo X0.here hx rfl (hb hby d25_4) rfl (flt hc1).2.2.1 k) ?_
    refine own_by (fun _ k => XS.iloadN X0.here hx rfl (hb hby d25_7) rfl k) ?_
    refine own_by (fun _ k => XS.bipush X0.here hx rfl (hb hby d25_8) k) ?_
    show own_Go _ _ _ _ (s₁.setTop (mkF m 10 #[.val (.int p1)] [(.int (127 : Int32)), (.int p1)]))
    by_cases hc2 : p1 < (127 : Int32)
    · --
      refine own_by (fun _ k => XS.icmpNo X0.here hx rfl (hb hby d25_10) rfl (tlt hc2).2.1 k) ?_
      refine own_by (fun _ k => XS.iloadN X0.here hx rfl (hb hby d25_13) rfl k) ?_
      refine own_by (fun _ k => XS.iconst X0.here hx rfl (hb hby d25_14) k) ?_
      show own_Go _ _ _ _ (s₁.setTop (mkF m 15 #[.val (.int p1)] [(.int (5 : Int32)), (.int p1)]))
      refine own_by (fun _ k => XS.iushr X0.here hx rfl (hb hby d25_15) rfl k) ?_
      show own_Go _ _ _ _ (s₁.setTop (mkF m 16 #[.val (.int p1)] [(.int ((p1.toUInt32 >>> ((5 : Int32) &&& 31).toUInt32).toInt32))]))
      by_cases hc3 : ((p1.toUInt32 >>> ((5 : Int32) &&& 31).toUInt32).toInt32) = (0 : Int32)
      · --
        refine own_by (fun _ k => XS.ifNo X0.here hx rfl (hb hby d25_16) rfl ((if0 _ _).trans (teq hc3).2) k) ?_
        refine own_by (fun _ k => XS.iconst X0.here hx rfl (hb hby d25_19) k) ?_
        show own_Go _ _ _ _ (s₁.setTop (mkF m 20 #[.val (.int p1)] [(.int (1 : Int32))]))
        refine own_by (fun _ k => XS.goto X0.here hx rfl (pc0 := 20) (pc' := 24) rfl (hb hby d25_20) (by decide) (by decide) k) ?_
        show own_Go _ _ _ _ (s₁.setTop (mkF m 24 #[.val (.int p1)] [(.int (1 : Int32))]))
        exact own_retN X0 hx Bd.notSynchronized e0 Bd.returns (by simp) (hb hby d25_24) (⟨by rw [show own_iso p1 = 1 from by unfold own_iso; simp only [if_neg hc1, if_pos hc2, if_pos hc3]]; rfl, N0, rfl⟩) (by decide) (by decide)
      · --
        refine own_by (fun _ k => XS.ifYes X0.here hx rfl (pc0 := 16) (pc' := 23) rfl (hb hby d25_16) rfl ((if0 _ _).trans (feq hc3).2) (by decide) (by decide) k) ?_
        refine own_by (fun _ k => XS.iconst X0.here hx rfl (hb hby d25_23) k) ?_
        show own_Go _ _ _ _ (s₁.setTop (mkF m 24 #[.val (.int p1)] [(.int (0 : Int32))]))
        exact own_retN X0 hx Bd.notSynchronized e0 Bd.returns (by simp) (hb hby d25_24) (⟨by rw [show own_iso p1 = 0 from by unfold own_iso; simp only [if_neg hc1, if_pos hc2, if_neg hc3]]; rfl, N0, rfl⟩) (by decide) (by decide)
    · --
      refine own_by (fun _ k => XS.icmpYes X0.here hx rfl (pc0 := 10) (pc' := 19) rfl (hb hby d25_10) rfl (flt hc2).2.1 (by decide) (by decide) k) ?_
      refine own_by (fun _ k => XS.iconst X0.here hx rfl (hb hby d25_19) k) ?_
      show own_Go _ _ _ _ (s₁.setTop (mkF m 20 #[.val (.int p1)] [(.int (1 : Int32))]))
      refine own_by (fun _ k => XS.goto X0.here hx rfl (pc0 := 20) (pc' := 24) rfl (hb hby d25_20) (by decide) (by decide) k) ?_
      show own_Go _ _ _ _ (s₁.setTop (mkF m 24 #[.val (.int p1)] [(.int (1 : Int32))]))
      exact own_retN X0 hx Bd.notSynchronized e0 Bd.returns (by simp) (hb hby d25_24) (⟨by rw [show own_iso p1 = 1 from by unfold own_iso; simp only [if_neg hc1, if_neg hc2]]; rfl, N0, rfl⟩) (by decide) (by decide)
theorem own_iso01 (c : Int32) : own_iso c = 0 ∨ own_iso c = 1 := by unfold own_iso; (repeat' split) <;> simp
theorem own_nariso (c : Int32) : nar .boolean (own_iso c) = own_iso c := by rcases own_iso01 c with h | h <;> rw [h] <;> rfl
set_option maxRecDepth 65536 in
set_option maxHeartbeats 40000000 in
theorem rm24 (l : Launch) (Z : State) (a0 : Array Value) (hw : ∀ d ∈ tables_1, d.before a0 Z = true) (ws : List Jvm.Cond) (p1 : Int32)  (h0 : Heap) (n0 : Nat) (Z0 : n0 ≤ h0.size) :
    MetFree l (⟨"java/lang/Character", "isISOControl", "(C)Z"⟩ : MethodName) (head1 (Jvm.Cond.code (⟨"java/lang/Character", "isISOControl", "(C)Z"⟩ : MethodName) jdk_89_method_88_code 1 (some .boolean) :: ws) ({ frames := 1, cells := 0, slots := 0, locals := 12 } : Room)) (fun a U => a = #[(.int p1)] ∧ Z.Warmed39 U.vm ∧ U.heap = h0) (fun _ _ _ _ _ => True) (fun _ U o U' => ∃ vv LL, o = .returned vv ∧ own_ap (fun v h L => v = some (.int (own_iso p1)) ∧ Fr n0 L ∧ h = h0) vv U'.heap LL ∧ FrameEnd U o U' LL 0 0) := by
  refine MetFree.of_bodySF (plainFor_of_name pn_24) hisR ?_
  intro p e s m args below meth c s₁ Bd hml0 hP hK
  obtain ⟨rfl, hZ, hh⟩ := hP
  have hx := Bd.exec
  have hby := Bd.bytes
  have hml : c.maxLocals = 1 := hml0
  have hown : s.vm.findClass "java/lang/Character" = some m.cls := findClass_of_methodNamed Bd.named
  have hnm := (name_of_methodNamed Bd.named Bd.method).1
  have X0 : Stand p l e ({ frames := 1, cells := 0, slots := 0, locals := 12 } : Room) s m #[(.int p1)] below meth c s₁ [] 0 0 := Stand.of_body Bd
  have e0 : s₁.heap = h0 := by rw [← hh, Bd.state]; rfl
  have N0 := Fr.nil n0
  show own_Go p.tables e below (own_Q s (fun v h L => v = some (.int (own_iso p1)) ∧ Fr n0 L ∧ h = h0) 0 0) (s₁.setTop (entryFrame m #[(.int p1)] 1))
  rw [show entryFrame m #[(.int p1)] 1 = mkF m 0 #[.val (.int p1)] [] from by first | (simp [entryFrame, mkF, argsToLocals, Value.category]; done) | rfl]
  show own_Go _ _ _ _ (s₁.setTop (mkF m 0 #[.val (.int p1)] []))
  refine own_by (fun _ k => XS.iloadN X0.here hx rfl (hb hby d24_0) rfl k) ?_
  show own_Go _ _ _ _ (s₁.setTop (mkF m 1 #[.val (.int p1)] [(.int p1)]))
  refine own_callS X0 hx hZ hown (hw _ (List.mem_of_getElem? (i := 123) rfl)) (hw _ (List.mem_of_getElem? (i := 124) rfl)) (hw _ (List.mem_of_getElem? (i := 113) rfl)) (hw _ (List.mem_of_getElem? (i := 125) rfl)) (by decide) (rm25 l Z a0 hw [] p1 h0 n0 Z0) e0 (by rw [hml]; rfl) [(.int p1)] [] rfl (lenOf own_pd21 rfl) rfl 0 (Nat.le_of_eq rfl) (by decide) (by decide) (Nat.le_of_ble_eq_true rfl) (Nat.le_of_ble_eq_true rfl) (hb hby d24_1) ?_
  intro T1 Lc1 v1 X1 hQ1
  obtain ⟨rfl, N1q, e1⟩ := hQ1
  have N1 := Fr.app N0 N1q
  show own_Go _ _ _ _ (T1.setTop (mkF m 4 #[.val (.int p1)] [(.int (own_iso p1))]))
  exact own_retN X1 hx Bd.notSynchronized e1 Bd.returns (by simp) (hb hby d24_4) (⟨by rw [own_nariso], N1, rfl⟩) (by decide) (by decide)
set_option maxRecDepth 65536 in
set_option maxHeartbeats 40000000 in
theorem rm22 (l : Launch) (Z : State) (a0 : Array Value) (hw : ∀ d ∈ tables_1, d.before a0 Z = true) (ws : List Jvm.Cond) (p1 : Int32)  (h0 : Heap) (n0 : Nat) (Z0 : n0 ≤ h0.size) (Pp : own_lo p1) :
    MetFree l (⟨"java/lang/Character", "isHighSurrogate", "(C)Z"⟩ : MethodName) (head1 (Jvm.Cond.code (⟨"java/lang/Character", "isHighSurrogate", "(C)Z"⟩ : MethodName) jdk_89_method_14_code 1 (some .boolean) :: ws) ({ frames := 0, cells := 0, slots := 0, locals := 0 } : Room)) (fun a U => a = #[(.int p1)] ∧ Z.Warmed39 U.vm ∧ U.heap = h0) (fun _ _ _ _ _ => True) (fun _ U o U' => ∃ vv LL, o = .returned vv ∧ own_ap (fun v h L => v = some (.int 0) ∧ Fr n0 L ∧ h = h0) vv U'.heap LL ∧ FrameEnd U o U' LL 0 0) := by
  refine MetFree.of_bodySF (plainFor_of_name pn_22) hisR ?_
  intro p e s m args below meth c s₁ Bd hml0 hP hK
  obtain ⟨rfl, hZ, hh⟩ := hP
  have hx := Bd.exec
  have hby := Bd.bytes
  have hml : c.maxLocals = 1 := hml0
  have hown : s.vm.findClass "java/lang/Character" = some m.cls := findClass_of_methodNamed Bd.named
  have hnm := (name_of_methodNamed Bd.named Bd.method).1
  have X0 : Stand p l e ({ frames := 0, cells := 0, slots := 0, locals := 0 } : Room) s m #[(.int p1)] below meth c s₁ [] 0 0 := Stand.of_body Bd
  have e0 : s₁.heap = h0 := by rw [← hh, Bd.state]; rfl
  have N0 := Fr.nil n0
  show own_Go p.tables e below (own_Q s (fun v h L => v = some (.int 0) ∧ Fr n0 L ∧ h = h0) 0 0) (s₁.setTop (entryFrame m #[(.int p1)] 1))
  rw [show entryFrame m #[(.int p1)] 1 = mkF m 0 #[.val (.int p1)] [] from by first | (simp [entryFrame, mkF, argsToLocals, Value.category]; done) | rfl]
  show own_Go _ _ _ _ (s₁.setTop (mkF m 0 #[.val (.int p1)] []))
  refine own_by (fun _ k => XS.iloadN X0.here hx rfl (hb hby d22_0) rfl k) ?_
  show own_Go _ _ _ _ (s₁.setTop (mkF m 1 #[.val (.int p1)] [(.int p1)]))
  refine own_by (fun _ k => X0.ldcInt hx hown (mvT hZ (hw _ (List.mem_of_getElem? (i := 115) rfl))) (g := (mkF m 1 #[.val (.int p1)] [(.int p1)])) rfl (hb hby d22_1) _ k) ?_
  show own_Go _ _ _ _ (s₁.setTop (mkF m 3 #[.val (.int p1)] [(.int (55296 : Int32)), (.int p1)]))
  refine own_by (fun _ k => XS.icmpYes X0.here hx rfl (pc0 := 3) (pc' := 16) rfl (hb hby d22_3) rfl (tlt (own_lo.ltk Pp _ (by decide))).1 (by decide) (by decide) k) ?_
  refine own_by (fun _ k => XS.iconst X0.here hx rfl (hb hby d22_16) k) ?_
  show own_Go _ _ _ _ (s₁.setTop (mkF m 17 #[.val (.int p1)] [(.int (0 : Int32))]))
  exact own_retN X0 hx Bd.notSynchronized e0 Bd.returns (by simp) (hb hby d22_17) (⟨rfl, N0, rfl⟩) (by decide) (by decide)
set_option maxRecDepth 65536 in
set_option maxHeartbeats 40000000 in
theorem rm23 (l : Launch) (Z : State) (a0 : Array Value) (hw : ∀ d ∈ tables_1, d.before a0 Z = true) (ws : List Jvm.Cond) (p1 : Int32)  (h0 : Heap) (n0 : Nat) (Z0 : n0 ≤ h0.size) (Pp : own_lo p1) :
    MetFree l (⟨"java/lang/Character", "isLowSurrogate", "(C)Z"⟩ : MethodName) (head1 (Jvm.Cond.code (⟨"java/lang/Character", "isLowSurrogate", "(C)Z"⟩ : MethodName) jdk_89_method_15_code 1 (some .boolean) :: ws) ({ frames := 0, cells := 0, slots := 0, locals := 0 } : Room)) (fun a U => a = #[(.int p1)] ∧ Z.Warmed39 U.vm ∧ U.heap = h0) (fun _ _ _ _ _ => True) (fun _ U o U' => ∃ vv LL, o = .returned vv ∧ own_ap (fun v h L => v = some (.int 0) ∧ Fr n0 L ∧ h = h0) vv U'.heap LL ∧ FrameEnd U o U' LL 0 0) := by
  refine MetFree.of_bodySF (plainFor_of_name pn_23) hisR ?_
  intro p e s m args below meth c s₁ Bd hml0 hP hK
  obtain ⟨rfl, hZ, hh⟩ := hP
  have hx := Bd.exec
  have hby := Bd.bytes
  have hml : c.maxLocals = 1 := hml0
  have hown : s.vm.findClass "java/lang/Character" = some m.cls := findClass_of_methodNamed Bd.named
  have hnm := (name_of_methodNamed Bd.named Bd.method).1
  have X0 : Stand p l e ({ frames := 0, cells := 0, slots := 0, locals := 0 } : Room) s m #[(.int p1)] below meth c s₁ [] 0 0 := Stand.of_body Bd
  have e0 : s₁.heap = h0 := by rw [← hh, Bd.state]; rfl
  have N0 := Fr.nil n0
  show own_Go p.tables e below (own_Q s (fun v h L => v = some (.int 0) ∧ Fr n0 L ∧ h = h0) 0 0) (s₁.setTop (entryFrame m #[(.int p1)] 1))
  rw [show entryFrame m #[(.int p1)] 1 = mkF m 0 #[.val (.int p1)] [] from by first | (simp [entryFrame, mkF, argsToLocals, Value.category]; done) | rfl]
  show own_Go _ _ _ _ (s₁.setTop (mkF m 0 #[.val (.int p1)] []))
  refine own_by (fun _ k => XS.iloadN X0.here hx rfl (hb hby d23_0) rfl k) ?_
  show own_Go _ _ _ _ (s₁.setTop (mkF m 1 #[.val (.int p1)] [(.int p1)]))
  refine own_by (fun _ k => X0.ldcInt hx hown (mvT hZ (hw _ (List.mem_of_getElem? (i := 119) rfl))) (g := (mkF m 1 #[.val (.int p1)] [(.int p1)])) rfl (hb hby d23_1) _ k) ?_
  show own_Go _ _ _ _ (s₁.setTop (mkF m 3 #[.val (.int p1)] [(.int (56320 : Int32)), (.int p1)]))
  refine own_by (fun _ k => XS.icmpYes X0.here hx rfl (pc0 := 3) (pc' := 16) rfl (hb hby d23_3) rfl (tlt (own_lo.ltk Pp _ (by decide))).1 (by decide) (by decide) k) ?_
  refine own_by (fun _ k => XS.iconst X0.here hx rfl (hb hby d23_16) k) ?_
  show own_Go _ _ _ _ (s₁.setTop (mkF m 17 #[.val (.int p1)] [(.int (0 : Int32))]))
  exact own_retN X0 hx Bd.notSynchronized e0 Bd.returns (by simp) (hb hby d23_17) (⟨rfl, N0, rfl⟩) (by decide) (by decide)
set_option maxRecDepth 65536 in
set_option maxHeartbeats 40000000 in
theorem rm21 (l : Launch) (Z : State) (a0 : Array Value) (hw : ∀ d ∈ tables_1, d.before a0 Z = true) (ws : List Jvm.Cond) (a1 : Addr) (p1 : Int32) (p2 : Int32) (bv : Addr) (n : Nat) (z : Int32) (g : Nat → Int32) (cs : Int32) (wf : Value) (kx : Nat) (h0 : Heap) (n0 : Nat) (Z0 : n0 ≤ h0.size) (PE : Exa Z h0 a1 "java/lang/String") (PFv : Fld Z h0 a1 "java/lang/String" "value" "[B" (.ref bv)) (PFc : Fld Z h0 a1 "java/lang/String" "coder" "B" (.int 0)) (PA : own_AI Z h0 bv .byte n g) (Pz : z = n.toInt32) (Pzi : z.toInt = (n : Int)) (PS : Sta Z h0 "java/lang/String" "COMPACT_STRINGS" "Z" (.int cs)) (Pcs : ¬ cs = 0) (PW : Sta Z h0 "jdk/internal/util/Preconditions" "SIOOBE_FORMATTER" "Ljava/util/function/BiFunction;" wf) (Pwf : wf.isRef = true) (Pk : p1.toInt = (kx : Int)) (Pkn : kx < n) :
    MetFree l (⟨"com/example/libmakespan/libmakespan/OneLine", "escaped", "(Ljava/lang/String;IZ)Z"⟩ : MethodName) (head1 (Jvm.Cond.code (⟨"com/example/libmakespan/libmakespan/OneLine", "escaped", "(Ljava/lang/String;IZ)Z"⟩ : MethodName) prog_20_method_5_code 4 (some .boolean) :: ws) ({ frames := 4, cells := 0, slots := 0, locals := 80 } : Room)) (fun a U => a = #[(.ref a1), (.int p1), (.int p2)] ∧ Z.Warmed39 U.vm ∧ U.heap = h0) (fun _ _ _ _ _ => True) (fun _ U o U' => ∃ vv LL, o = .returned vv ∧ own_ap (fun v h L => v = some (.int (own_es (own_cv (g kx)) p2)) ∧ Fr n0 L ∧ h = h0) vv U'.heap LL ∧ FrameEnd U o U' LL 0 0) := by
  refine MetFree.of_bodySF (plainFor_of_name pn_21) hisR ?_
  intro p e s m args below meth c s₁ Bd hml0 hP hK
  obtain ⟨rfl, hZ, hh⟩ := hP
  have hx := Bd.exec
  have hby := Bd.bytes
  have hml : c.maxLocals = 4 := hml0
  have hown : s.vm.findClass "com/example/libmakespan/libmakespan/OneLine" = some m.cls := findClass_of_methodNamed Bd.named
  have hnm := (name_of_methodNamed Bd.named Bd.method).1
  have X0 : Stand p l e ({ frames := 4, cells := 0, slots := 0, locals := 80 } : Room) s m #[(.ref a1), (.int p1), (.int p2)] below meth c s₁ [] 0 0 := Stand.of_body Bd
  have e0 : s₁.heap = h0 := by rw [← hh, Bd.state]; rfl
  have N0 := Fr.nil n0
  show own_Go p.tables e below (own_Q s (fun v h L => v = some (.int (own_es (own_cv (g kx)) p2)) ∧ Fr n0 L ∧ h = h0) 0 0) (s₁.setTop (entryFrame m #[(.ref a1), (.int p1), (.int p2)] 4))
  rw [show entryFrame m #[(.ref a1), (.int p1), (.int p2)] 4 = mkF m 0 #[.val (.ref a1), .val (.int p1), .val (.int p2), .unset] [] from by first | (simp [entryFrame, mkF, argsToLocals, Value.category]; done) | rfl]
  show own_Go _ _ _ _ (s₁.setTop (mkF m 0 #[.val (.ref a1), .val (.int p1), .val (.int p2), .unset] []))
  refine own_by (fun _ k => XS.aloadN X0.here hx rfl (hb hby d21_0) rfl rfl k) ?_
  refine own_by (fun _ k => XS.iloadN X0.here hx rfl (hb hby d21_1) rfl k) ?_
  show own_Go _ _ _ _ (s₁.setTop (mkF m 2 #[.val (.ref a1), .val (.int p1), .val (.int p2), .unset] [(.int p1), (.ref a1)]))
  refine own_callV X0 hx hZ hown (hw _ (List.mem_of_getElem? (i := 110) rfl)) (hw _ (List.mem_of_getElem? (i := 86) rfl)) (notFace_of_selects (args := #[]) (mvT hZ (hw _ (List.mem_of_getElem? (i := 88) rfl)))) (hw _ (List.mem_of_getElem? (i := 88) rfl)) (hw _ (List.mem_of_getElem? (i := 87) rfl)) (hw _ (List.mem_of_getElem? (i := 4) rfl)) (hw _ (List.mem_of_getElem? (i := 89) rfl)) (by decide) (rm16 l Z a0 hw [] a1 p1 bv n z g cs wf kx h0 n0 Z0 PE PFv PFc PA Pz Pzi PS Pcs PW Pwf Pk Pkn) e0 a1 PE (by rw [hml]; rfl) [(.int p1)] [] rfl (lenOf own_pd15 rfl) rfl 0 (Nat.le_of_eq rfl) (by decide) (by decide) (Nat.le_of_ble_eq_true rfl) (Nat.le_of_ble_eq_true rfl) (hb hby d21_2) ?_
  intro T1 Lc1 v1 X1 hQ1
  obtain ⟨rfl, N1q, e1⟩ := hQ1
  have N1 := Fr.app N0 N1q
  show own_Go _ _ _ _ (T1.setTop (mkF m 5 #[.val (.ref a1), .val (.int p1), .val (.int p2), .unset] [(.int (own_cv (g kx)))]))
  obtain ⟨v3_2, hv3_2⟩ : ∃ z_ : Int32, (own_cv (g kx)) = z_ := ⟨_, rfl⟩
  refine own_gen hv3_2 (fun z_ => T1.setTop (mkF m 5 #[.val (.ref a1), .val (.int p1), .val (.int p2), .unset] [(.int z_)])) ?_
  refine own_by (fun _ k => XS.istoreN X1.here hx rfl (hb hby d21_5) rfl (l' := #[.val (.ref a1), .val (.int p1), .val (.int p2), .val (.int v3_2)]) rfl k) ?_
  refine own_by (fun _ k => XS.iloadN X1.here hx rfl (hb hby d21_6) rfl k) ?_
  refine own_by (fun _ k => XS.bipush X1.here hx rfl (hb hby d21_7) k) ?_
  show own_Go _ _ _ _ (T1.setTop (mkF m 9 #[.val (.ref a1), .val (.int p1), .val (.int p2), .val (.int v3_2)] [(.int (32 : Int32)), (.int v3_2)]))
  by_cases hc3 : v3_2 < (32 : Int32)
  · --
    refine own_by (fun _ k => XS.icmpYes X1.here hx rfl (pc0 := 9) (pc' := 40) rfl (hb hby d21_9) rfl (tlt hc3).1 (by decide) (by decide) k) ?_
    refine own_by (fun _ k => XS.iloadN X1.here hx rfl (hb hby d21_40) rfl k) ?_
    show own_Go _ _ _ _ (T1.setTop (mkF m 41 #[.val (.ref a1), .val (.int p1), .val (.int p2), .val (.int v3_2)] [(.int v3_2)]))
    refine own_callS X1 hx hZ hown (hw _ (List.mem_of_getElem? (i := 111) rfl)) (hw _ (List.mem_of_getElem? (i := 112) rfl)) (hw _ (List.mem_of_getElem? (i := 113) rfl)) (hw _ (List.mem_of_getElem? (i := 114) rfl)) (by decide) (rm22 l Z a0 hw [] v3_2 h0 n0 Z0 (hv3_2 ▸ own_cvlo _)) e1 (by rw [hml]; rfl) [(.int v3_2)] [] rfl (lenOf own_pd8 rfl) rfl 0 (Nat.le_of_eq rfl) (by decide) (by decide) (Nat.le_of_ble_eq_true rfl) (Nat.le_of_ble_eq_true rfl) (hb hby d21_41) ?_
    intro T4 Lc4 v4 X4 hQ4
    obtain ⟨rfl, N4q, e4⟩ := hQ4
    have N4 := Fr.app N1 N4q
    show own_Go _ _ _ _ (T4.setTop (mkF m 44 #[.val (.ref a1), .val (.int p1), .val (.int p2), .val (.int v3_2)] [(.int (0 : Int32))]))
    refine own_by (fun _ k => XS.ifYes X4.here hx rfl (pc0 := 44) (pc' := 76) rfl (hb hby d21_44) rfl ((if0 _ _).trans (teq (by decide)).1) (by decide) (by decide) k) ?_
    refine own_by (fun _ k => XS.iloadN X4.here hx rfl (hb hby d21_76) rfl k) ?_
    show own_Go _ _ _ _ (T4.setTop (mkF m 77 #[.val (.ref a1), .val (.int p1), .val (.int p2), .val (.int v3_2)] [(.int v3_2)]))
    refine own_callS X4 hx hZ hown (hw _ (List.mem_of_getElem? (i := 116) rfl)) (hw _ (List.mem_of_getElem? (i := 117) rfl)) (hw _ (List.mem_of_getElem? (i := 113) rfl)) (hw _ (List.mem_of_getElem? (i := 118) rfl)) (by decide) (rm23 l Z a0 hw [] v3_2 h0 n0 Z0 (hv3_2 ▸ own_cvlo _)) e4 (by rw [hml]; rfl) [(.int v3_2)] [] rfl (lenOf own_pd8 rfl) rfl 0 (Nat.le_of_eq rfl) (by decide) (by decide) (Nat.le_of_ble_eq_true rfl) (Nat.le_of_ble_eq_true rfl) (hb hby d21_77) ?_
    intro T5 Lc5 v5 X5 hQ5
    obtain ⟨rfl, N5q, e5⟩ := hQ5
    have N5 := Fr.app N4 N5q
    show own_Go _ _ _ _ (T5.setTop (mkF m 80 #[.val (.ref a1), .val (.int p1), .val (.int p2), .val (.int v3_2)] [(.int (0 : Int32))]))
    refine own_by (fun _ k => XS.ifYes X5.here hx rfl (pc0 := 80) (pc' := 106) rfl (hb hby d21_80) rfl ((if0 _ _).trans (teq (by decide)).1) (by decide) (by decide) k) ?_
    refine own_by (fun _ k => XS.iloadN X5.here hx rfl (hb hby d21_106) rfl k) ?_
    show own_Go _ _ _ _ (T5.setTop (mkF m 107 #[.val (.ref a1), .val (.int p1), .val (.int p2), .val (.int v3_2)] [(.int v3_2)]))
    refine own_callS X5 hx hZ hown (hw _ (List.mem_of_getElem? (i := 120) rfl)) (hw _ (List.mem_of_getElem? (i := 121) rfl)) (hw _ (List.mem_of_getElem? (i := 113) rfl)) (hw _ (List.mem_of_getElem? (i := 122) rfl)) (by decide) (rm24 l Z a0 hw [] v3_2 h0 n0 Z0) e5 (by rw [hml]; rfl) [(.int v3_2)] [] rfl (lenOf own_pd8 rfl) rfl 0 (Nat.le_of_eq rfl) (by decide) (by decide) (Nat.le_of_ble_eq_true rfl) (Nat.le_of_ble_eq_true rfl) (hb hby d21_107) ?_
    intro T6 Lc6 v6 X6 hQ6
    obtain ⟨rfl, N6q, e6⟩ := hQ6
    have N6 := Fr.app N5 N6q
    show own_Go _ _ _ _ (T6.setTop (mkF m 110 #[.val (.ref a1), .val (.int p1), .val (.int p2), .val (.int v3_2)] [(.int (own_iso v3_2))]))
    by_cases hc7 : (own_iso v3_2) = (0 : Int32)
    · --
      refine own_by (fun _ k => XS.ifNo X6.here hx rfl (hb hby d21_110) rfl ((if0 _ _).trans (teq hc7).2) k) ?_
      refine own_by (fun _ k => XS.iloadN X6.here hx rfl (hb hby d21_113) rfl k) ?_
      refine own_by (fun _ k => XS.sipush X6.here hx rfl (hb hby d21_114) k) ?_
      show own_Go _ _ _ _ (T6.setTop (mkF m 117 #[.val (.ref a1), .val (.int p1), .val (.int p2), .val (.int v3_2)] [(.int (8232 : Int32)), (.int v3_2)]))
      refine own_by (fun _ k => XS.icmpNo X6.here hx rfl (hb hby d21_117) rfl (feq (own_lo.nek (hv3_2 ▸ own_cvlo _) _ (by decide))).1 k) ?_
      refine own_by (fun _ k => XS.iloadN X6.here hx rfl (hb hby d21_120) rfl k) ?_
      refine own_by (fun _ k => XS.sipush X6.here hx rfl (hb hby d21_121) k) ?_
      show own_Go _ _ _ _ (T6.setTop (mkF m 124 #[.val (.ref a1), .val (.int p1), .val (.int p2), .val (.int v3_2)] [(.int (8233 : Int32)), (.int v3_2)]))
      refine own_by (fun _ k => XS.icmpYes X6.here hx rfl (pc0 := 124) (pc' := 131) rfl (hb hby d21_124) rfl (feq (own_lo.nek (hv3_2 ▸ own_cvlo _) _ (by decide))).2 (by decide) (by decide) k) ?_
      refine own_by (fun _ k => XS.iconst X6.here hx rfl (hb hby d21_131) k) ?_
      show own_Go _ _ _ _ (T6.setTop (mkF m 132 #[.val (.ref a1), .val (.int p1), .val (.int p2), .val (.int v3_2)] [(.int (0 : Int32))]))
      exact own_retN X6 hx Bd.notSynchronized e6 Bd.returns (by simp) (hb hby d21_132) (⟨by rw [hv3_2, ← own_isoes v3_2 p2 (hv3_2 ▸ own_cvlo _) (Or.inl hc3), hc7]; rfl, N6, rfl⟩) (by decide) (by decide)
    · --
      refine own_by (fun _ k => XS.ifYes X6.here hx rfl (pc0 := 110) (pc' := 127) rfl (hb hby d21_110) rfl ((if0 _ _).trans (feq hc7).2) (by decide) (by decide) k) ?_
      refine own_by (fun _ k => XS.iconst X6.here hx rfl (hb hby d21_127) k) ?_
      show own_Go _ _ _ _ (T6.setTop (mkF m 128 #[.val (.ref a1), .val (.int p1), .val (.int p2), .val (.int v3_2)] [(.int (1 : Int32))]))
      refine own_by (fun _ k => XS.goto X6.here hx rfl (pc0 := 128) (pc' := 132) rfl (hb hby d21_128) (by decide) (by decide) k) ?_
      show own_Go _ _ _ _ (T6.setTop (mkF m 132 #[.val (.ref a1), .val (.int p1), .val (.int p2), .val (.int v3_2)] [(.int (1 : Int32))]))
      exact own_retN X6 hx Bd.notSynchronized e6 Bd.returns (by simp) (hb hby d21_132) (⟨by rw [hv3_2, ← own_isoes v3_2 p2 (hv3_2 ▸ own_cvlo _) (Or.inl hc3), (own_iso01 v3_2).resolve_left hc7]; rfl, N6, rfl⟩) (by decide) (by decide)
  · --
    refine own_by (fun _ k => XS.icmpNo X1.here hx rfl (hb hby d21_9) rfl (flt hc3).1 k) ?_
    refine own_by (fun _ k => XS.iloadN X1.here hx rfl (hb hby d21_12) rfl k) ?_
    refine own_by (fun _ k => XS.bipush X1.here hx rfl (hb hby d21_13) k) ?_
    show own_Go _ _ _ _ (T1.setTop (mkF m 15 #[.val (.ref a1), .val (.int p1), .val (.int p2), .val (.int v3_2)] [(.int (127 : Int32)), (.int v3_2)]))
    by_cases hc8 : v3_2 < (127 : Int32)
    · --
      refine own_by (fun _ k => XS.icmpNo X1.here hx rfl (hb hby d21_15) rfl (tlt hc8).2.1 k) ?_
      refine own_by (fun _ k => XS.iloadN X1.here hx rfl (hb hby d21_18) rfl k) ?_
      refine own_by (fun _ k => XS.bipush X1.here hx rfl (hb hby d21_19) k) ?_
      show own_Go _ _ _ _ (T1.setTop (mkF m 21 #[.val (.ref a1), .val (.int p1), .val (.int p2), .val (.int v3_2)] [(.int (92 : Int32)), (.int v3_2)]))
      by_cases hc9 : v3_2 = (92 : Int32)
      · --
        refine own_by (fun _ k => XS.icmpYes X1.here hx rfl (pc0 := 21) (pc' := 34) rfl (hb hby d21_21) rfl (teq hc9).1 (by decide) (by decide) k) ?_
        refine own_by (fun _ k => XS.iconst X1.here hx rfl (hb hby d21_34) k) ?_
        show own_Go _ _ _ _ (T1.setTop (mkF m 35 #[.val (.ref a1), .val (.int p1), .val (.int p2), .val (.int v3_2)] [(.int (1 : Int32))]))
        refine own_by (fun _ k => XS.goto X1.here hx rfl (pc0 := 35) (pc' := 39) rfl (hb hby d21_35) (by decide) (by decide) k) ?_
        show own_Go _ _ _ _ (T1.setTop (mkF m 39 #[.val (.ref a1), .val (.int p1), .val (.int p2), .val (.int v3_2)] [(.int (1 : Int32))]))
        exact own_retN X1 hx Bd.notSynchronized e1 Bd.returns (by simp) (hb hby d21_39) (⟨by rw [hv3_2, show own_es v3_2 p2 = 1 from by unfold own_es; simp only [if_neg hc3, if_pos hc8, if_pos hc9]]; rfl, N1, rfl⟩) (by decide) (by decide)
      · --
        refine own_by (fun _ k => XS.icmpNo X1.here hx rfl (hb hby d21_21) rfl (feq hc9).1 k) ?_
        refine own_by (fun _ k => XS.iloadN X1.here hx rfl (hb hby d21_24) rfl k) ?_
        show own_Go _ _ _ _ (T1.setTop (mkF m 25 #[.val (.ref a1), .val (.int p1), .val (.int p2), .val (.int v3_2)] [(.int p2)]))
        by_cases hc10 : p2 = (0 : Int32)
        · --
          refine own_by (fun _ k => XS.ifYes X1.here hx rfl (pc0 := 25) (pc' := 38) rfl (hb hby d21_25) rfl ((if0 _ _).trans (teq hc10).1) (by decide) (by decide) k) ?_
          refine own_by (fun _ k => XS.iconst X1.here hx rfl (hb hby d21_38) k) ?_
          show own_Go _ _ _ _ (T1.setTop (mkF m 39 #[.val (.ref a1), .val (.int p1), .val (.int p2), .val (.int v3_2)] [(.int (0 : Int32))]))
          exact own_retN X1 hx Bd.notSynchronized e1 Bd.returns (by simp) (hb hby d21_39) (⟨by rw [hv3_2, show own_es v3_2 p2 = 0 from by unfold own_es; simp only [if_neg hc3, if_pos hc8, if_neg hc9, if_pos hc10]]; rfl, N1, rfl⟩) (by decide) (by decide)
        · --
          refine own_by (fun _ k => XS.ifNo X1.here hx rfl (hb hby d21_25) rfl ((if0 _ _).trans (feq hc10).1) k) ?_
          refine own_by (fun _ k => XS.iloadN X1.here hx rfl (hb hby d21_28) rfl k) ?_
          refine own_by (fun _ k => XS.bipush X1.here hx rfl (hb hby d21_29) k) ?_
          show own_Go _ _ _ _ (T1.setTop (mkF m 31 #[.val (.ref a1), .val (.int p1), .val (.int p2), .val (.int v3_2)] [(.int (32 : Int32)), (.int v3_2)]))
          by_cases hc11 : v3_2 = (32 : Int32)
          · --
            refine own_by (fun _ k => XS.icmpNo X1.here hx rfl (hb hby d21_31) rfl (teq hc11).2 k) ?_
            refine own_by (fun _ k => XS.iconst X1.here hx rfl (hb hby d21_34) k) ?_
            show own_Go _ _ _ _ (T1.setTop (mkF m 35 #[.val (.ref a1), .val (.int p1), .val (.int p2), .val (.int v3_2)] [(.int (1 : Int32))]))
            refine own_by (fun _ k => XS.goto X1.here hx rfl (pc0 := 35) (pc' := 39) rfl (hb hby d21_35) (by decide) (by decide) k) ?_
            show own_Go _ _ _ _ (T1.setTop (mkF m 39 #[.val (.ref a1), .val (.int p1), .val (.int p2), .val (.int v3_2)] [(.int (1 : Int32))]))
            exact own_retN X1 hx Bd.notSynchronized e1 Bd.returns (by simp) (hb hby d21_39) (⟨by rw [hv3_2, show own_es v3_2 p2 = 1 from by unfold own_es; simp only [if_neg hc3, if_pos hc8, if_neg hc9, if_neg hc10, if_pos hc11]]; rfl, N1, rfl⟩) (by decide) (by decide)
          · --
            refine own_by (fun _ k => XS.icmpYes X1.here hx rfl (pc0 := 31) (pc' := 38) rfl (hb hby d21_31) rfl (feq hc11).2 (by decide) (by decide) k) ?_
            refine own_by (fun _ k => XS.iconst X1.here hx rfl (hb hby d21_38) k) ?_
            show own_Go _ _ _ _ (T1.setTop (mkF m 39 #[.val (.ref a1), .val (.int p1), .val (.int p2), .val (.int v3_2)] [(.int (0 : Int32))]))
            exact own_retN X1 hx Bd.notSynchronized e1 Bd.returns (by simp) (hb hby d21_39) (⟨by rw [hv3_2, show own_es v3_2 p2 = 0 from by unfold own_es; simp only [if_neg hc3, if_pos hc8, if_neg hc9, if_neg hc10, if_neg hc11]]; rfl, N1, rfl⟩) (by decide) (by decide)
    · --
      refine own_by (fun _ k => XS.icmpYes X1.here hx rfl (pc0 := 15) (pc' := 40) rfl (hb hby d21_15) rfl (flt hc8).2.1 (by decide) (by decide) k) ?_
      refine own_by (fun _ k => XS.iloadN X1.here hx rfl (hb hby d21_40) rfl k) ?_
      show own_Go _ _ _ _ (T1.setTop (mkF m 41 #[.val (.ref a1), .val (.int p1), .val (.int p2), .val (.int v3_2)] [(.int v3_2)]))
      refine own_callS X1 hx hZ hown (hw _ (List.mem_of_getElem? (i := 111) rfl)) (hw _ (List.mem_of_getElem? (i := 112) rfl)) (hw _ (List.mem_of_getElem? (i := 113) rfl)) (hw _ (List.mem_of_getElem? (i := 114) rfl)) (by decide) (rm22 l Z a0 hw [] v3_2 h0 n0 Z0 (hv3_2 ▸ own_cvlo _)) e1 (by rw [hml]; rfl) [(.int v3_2)] [] rfl (lenOf own_pd8 rfl) rfl 0 (Nat.le_of_eq rfl) (by decide) (by decide) (Nat.le_of_ble_eq_true rfl) (Nat.le_of_ble_eq_true rfl) (hb hby d21_41) ?_
      intro T12 Lc12 v12 X12 hQ12
      obtain ⟨rfl, N12q, e12⟩ := hQ12
      have N12 := Fr.app N1 N12q
      show own_Go _ _ _ _ (T12.setTop (mkF m 44 #[.val (.ref a1), .val (.int p1), .val (.int p2), .val (.int v3_2)] [(.int (0 : Int32))]))
      refine own_by (fun _ k => XS.ifYes X12.here hx rfl (pc0 := 44) (pc' := 76) rfl (hb hby d21_44) rfl ((if0 _ _).trans (teq (by decide)).1) (by decide) (by decide) k) ?_
      refine own_by (fun _ k => XS.iloadN X12.here hx rfl (hb hby d21_76) rfl k) ?_
      show own_Go _ _ _ _ (T12.setTop (mkF m 77 #[.val (.ref a1), .val (.int p1), .val (.int p2), .val (.int v3_2)] [(.int v3_2)]))
      refine own_callS X12 hx hZ hown (hw _ (List.mem_of_getElem? (i := 116) rfl)) (hw _ (List.mem_of_getElem? (i := 117) rfl)) (hw _ (List.mem_of_getElem? (i := 113) rfl)) (hw _ (List.mem_of_getElem? (i := 118) rfl)) (by decide) (rm23 l Z a0 hw [] v3_2 h0 n0 Z0 (hv3_2 ▸ own_cvlo _)) e12 (by rw [hml]; rfl) [(.int v3_2)] [] rfl (lenOf own_pd8 rfl) rfl 0 (Nat.le_of_eq rfl) (by decide) (by decide) (Nat.le_of_ble_eq_true rfl) (Nat.le_of_ble_eq_true rfl) (hb hby d21_77) ?_
      intro T13 Lc13 v13 X13 hQ13
      obtain ⟨rfl, N13q, e13⟩ := hQ13
      have N13 := Fr.app N12 N13q
      show own_Go _ _ _ _ (T13.setTop (mkF m 80 #[.val (.ref a1), .val (.int p1), .val (.int p2), .val (.int v3_2)] [(.int (0 : Int32))]))
      refine own_by (fun _ k => XS.ifYes X13.here hx rfl (pc0 := 80) (pc' := 106) rfl (hb hby d21_80) rfl ((if0 _ _).trans (teq (by decide)).1) (by decide) (by decide) k) ?_
      refine own_by (fun _ k => XS.iloadN X13.here hx rfl (hb hby d21_106) rfl k) ?_
      show own_Go _ _ _ _ (T13.setTop (mkF m 107 #[.val (.ref a1), .val (.int p1), .val (.int p2), .val (.int v3_2)] [(.int v3_2)]))
      refine own_callS X13 hx hZ hown (hw _ (List.mem_of_getElem? (i := 120) rfl)) (hw _ (List.mem_of_getElem? (i := 121) rfl)) (hw _ (List.mem_of_getElem? (i := 113) rfl)) (hw _ (List.mem_of_getElem? (i := 122) rfl)) (by decide) (rm24 l Z a0 hw [] v3_2 h0 n0 Z0) e13 (by rw [hml]; rfl) [(.int v3_2)] [] rfl (lenOf own_pd8 rfl) rfl 0 (Nat.le_of_eq rfl) (by decide) (by decide) (Nat.le_of_ble_eq_true rfl) (Nat.le_of_ble_eq_true rfl) (hb hby d21_107) ?_
      intro T14 Lc14 v14 X14 hQ14
      obtain ⟨rfl, N14q, e14⟩ := hQ14
      have N14 := Fr.app N13 N14q
      show own_Go _ _ _ _ (T14.setTop (mkF m 110 #[.val (.ref a1), .val (.int p1), .val (.int p2), .val (.int v3_2)] [(.int (own_iso v3_2))]))
      by_cases hc15 : (own_iso v3_2) = (0 : Int32)
      · --
        refine own_by (fun _ k => XS.ifNo X14.here hx rfl (hb hby d21_110) rfl ((if0 _ _).trans (teq hc15).2) k) ?_
        refine own_by (fun _ k => XS.iloadN X14.here hx rfl (hb hby d21_113) rfl k) ?_
        refine own_by (fun _ k => XS.sipush X14.here hx rfl (hb hby d21_114) k) ?_
        show own_Go _ _ _ _ (T14.setTop (mkF m 117 #[.val (.ref a1), .val (.int p1), .val (.int p2), .val (.int v3_2)] [(.int (8232 : Int32)), (.int v3_2)]))
        refine own_by (fun _ k => XS.icmpNo X14.here hx rfl (hb hby d21_117) rfl (feq (own_lo.nek (hv3_2 ▸ own_cvlo _) _ (by decide))).1 k) ?_
        refine own_by (fun _ k => XS.iloadN X14.here hx rfl (hb hby d21_120) rfl k) ?_
        refine own_by (fun _ k => XS.sipush X14.here hx rfl (hb hby d21_121) k) ?_
        show own_Go _ _ _ _ (T14.setTop (mkF m 124 #[.val (.ref a1), .val (.int p1), .val (.int p2), .val (.int v3_2)] [(.int (8233 : Int32)), (.int v3_2)]))
        refine own_by (fun _ k => XS.icmpYes X14.here hx rfl (pc0 := 124) (pc' := 131) rfl (hb hby d21_124) rfl (feq (own_lo.nek (hv3_2 ▸ own_cvlo _) _ (by decide))).2 (by decide) (by decide) k) ?_
        refine own_by (fun _ k => XS.iconst X14.here hx rfl (hb hby d21_131) k) ?_
        show own_Go _ _ _ _ (T14.setTop (mkF m 132 #[.val (.ref a1), .val (.int p1), .val (.int p2), .val (.int v3_2)] [(.int (0 : Int32))]))
        exact own_retN X14 hx Bd.notSynchronized e14 Bd.returns (by simp) (hb hby d21_132) (⟨by rw [hv3_2, ← own_isoes v3_2 p2 (hv3_2 ▸ own_cvlo _) (Or.inr hc8), hc15]; rfl, N14, rfl⟩) (by decide) (by decide)
      · --
        refine own_by (fun _ k => XS.ifYes X14.here hx rfl (pc0 := 110) (pc' := 127) rfl (hb hby d21_110) rfl ((if0 _ _).trans (feq hc15).2) (by decide) (by decide) k) ?_
        refine own_by (fun _ k => XS.iconst X14.here hx rfl (hb hby d21_127) k) ?_
        show own_Go _ _ _ _ (T14.setTop (mkF m 128 #[.val (.ref a1), .val (.int p1), .val (.int p2), .val (.int v3_2)] [(.int (1 : Int32))]))
        refine own_by (fun _ k => XS.goto X14.here hx rfl (pc0 := 128) (pc' := 132) rfl (hb hby d21_128) (by decide) (by decide) k) ?_
        show own_Go _ _ _ _ (T14.setTop (mkF m 132 #[.val (.ref a1), .val (.int p1), .val (.int p2), .val (.int v3_2)] [(.int (1 : Int32))]))
        exact own_retN X14 hx Bd.notSynchronized e14 Bd.returns (by simp) (hb hby d21_132) (⟨by rw [hv3_2, ← own_isoes v3_2 p2 (hv3_2 ▸ own_cvlo _) (Or.inr hc8), (own_iso01 v3_2).resolve_left hc15]; rfl, N14, rfl⟩) (by decide) (by decide)
def own_ln (c w : Int32) : Int32 := if own_es c w = 0 then 1 else if c = 92 then 2 else 6
def own_un (c w k : Int32) : Int32 := if own_es c w = 0 then c else if c = 92 then 92 else if k = 0 then 92 else if k = 1 then 117 else 48
def own_ex (a b f w k : Int32) : Int32 := if f = 2 then -1 else
  if k < own_ln (if f = 0 then a else b) w then own_un (if f = 0 then a else b) w k else
  if f = 1 then -1 else if k - own_ln (if f = 0 then a else b) w < own_ln b w then own_un b w (k - own_ln (if f = 0 then a else b) w) else -1
set_option maxRecDepth 65536 in
set_option maxHeartbeats 40000000 in
theorem rm27 (l : Launch) (Z : State) (a0 : Array Value) (hw : ∀ d ∈ tables_1, d.before a0 Z = true) (ws : List Jvm.Cond) (p1 : Int32) (p2 : Int32)  (h0 : Heap) (n0 : Nat) (Z0 : n0 ≤ h0.size) :
    MetFree l (⟨"com/example/libmakespan/libmakespan/UnitsResetPinLaw", "len", "(CZ)I"⟩ : MethodName) (head1 (Jvm.Cond.code (⟨"com/example/libmakespan/libmakespan/UnitsResetPinLaw", "len", "(CZ)I"⟩ : MethodName) method_4_code 2 (some .int) :: ws) ({ frames := 1, cells := 0, slots := 0, locals := 13 } : Room)) (fun a U => a = #[(.int p1), (.int p2)] ∧ Z.Warmed39 U.vm ∧ U.heap = h0) (fun _ _ _ _ _ => True) (fun _ U o U' => ∃ vv LL, o = .returned vv ∧ own_ap (fun v h L => v = some (.int (own_ln p1 p2)) ∧ Fr n0 L ∧ h = h0) vv U'.heap LL ∧ FrameEnd U o U' LL 0 0) := by
  refine MetFree.of_bodySF (plainFor_of_name pn_27) hisR ?_
  intro p e s m args below meth c s₁ Bd hml0 hP hK
  obtain ⟨rfl, hZ, hh⟩ := hP
  have hx := Bd.exec
  have hby := Bd.bytes
  have hml : c.maxLocals = 2 := hml0
  have hown : s.vm.findClass "com/example/libmakespan/libmakespan/UnitsResetPinLaw" = some m.cls := findClass_of_methodNamed Bd.named
  have hnm := (name_of_methodNamed Bd.named Bd.method).1
  have X0 : Stand p l e ({ frames := 1, cells := 0, slots := 0, locals := 13 } : Room) s m #[(.int p1), (.int p2)] below meth c s₁ [] 0 0 := Stand.of_body Bd
  have e0 : s₁.heap = h0 := by rw [← hh, Bd.state]; rfl
  have N0 := Fr.nil n0
  show own_Go p.tables e below (own_Q s (fun v h L => v = some (.int (own_ln p1 p2)) ∧ Fr n0 L ∧ h = h0) 0 0) (s₁.setTop (entryFrame m #[(.int p1), (.int p2)] 2))
  rw [show entryFrame m #[(.int p1), (.int p2)] 2 = mkF m 0 #[.val (.int p1), .val (.int p2)] [] from by first | (simp [entryFrame, mkF, argsToLocals, Value.category]; done) | rfl]
  show own_Go _ _ _ _ (s₁.setTop (mkF m 0 #[.val (.int p1), .val (.int p2)] []))
  refine own_by (fun _ k => XS.iloadN X0.here hx rfl (hb hby d27_0) rfl k) ?_
  refine own_by (fun _ k => XS.iloadN X0.here hx rfl (hb hby d27_1) rfl k) ?_
  show own_Go _ _ _ _ (s₁.setTop (mkF m 2 #[.val (.int p1), .val (.int p2)] [(.int p2), (.int p1)]))
  refine own_callS X0 hx hZ hown (hw _ (List.mem_of_getElem? (i := 136) rfl)) (hw _ (List.mem_of_getElem? (i := 137) rfl)) (hw _ (List.mem_of_getElem? (i := 131) rfl)) (hw _ (List.mem_of_getElem? (i := 138) rfl)) (by decide) (rm28 l Z a0 hw [] p1 p2 h0 n0 Z0) e0 (by rw [hml]; rfl) [(.int p1), (.int p2)] [] rfl (lenOf own_pd24 rfl) rfl 0 (Nat.le_of_eq rfl) (by decide) (by decide) (Nat.le_of_ble_eq_true rfl) (Nat.le_of_ble_eq_true rfl) (hb hby d27_2) ?_
  intro T1 Lc1 v1 X1 hQ1
  obtain ⟨rfl, N1q, e1⟩ := hQ1
  have N1 := Fr.app N0 N1q
  show own_Go _ _ _ _ (T1.setTop (mkF m 5 #[.val (.int p1), .val (.int p2)] [(.int (own_es p1 p2))]))
  by_cases hc2 : (own_es p1 p2) = (0 : Int32)
  · --
    refine own_by (fun _ k => XS.ifNo X1.here hx rfl (hb hby d27_5) rfl ((if0 _ _).trans (teq hc2).2) k) ?_
    refine own_by (fun _ k => XS.iconst X1.here hx rfl (hb hby d27_8) k) ?_
    show own_Go _ _ _ _ (T1.setTop (mkF m 9 #[.val (.int p1), .val (.int p2)] [(.int (1 : Int32))]))
    exact own_retI X1 hx Bd.notSynchronized e1 Bd.returns (hb hby d27_9) (⟨by rw [show own_ln p1 p2 = (1 : Int32) from by unfold own_ln; simp only [if_pos hc2]], N1, rfl⟩) (by decide) (by decide)
  · --
    refine own_by (fun _ k => XS.ifYes X1.here hx rfl (pc0 := 5) (pc' := 10) rfl (hb hby d27_5) rfl ((if0 _ _).trans (feq hc2).2) (by decide) (by decide) k) ?_
    refine own_by (fun _ k => XS.iloadN X1.here hx rfl (hb hby d27_10) rfl k) ?_
    refine own_by (fun _ k => XS.bipush X1.here hx rfl (hb hby d27_11) k) ?_
    show own_Go _ _ _ _ (T1.setTop (mkF m 13 #[.val (.int p1), .val (.int p2)] [(.int (92 : Int32)), (.int p1)]))
    by_cases hc3 : p1 = (92 : Int32)
    · --
      refine own_by (fun _ k => XS.icmpNo X1.here hx rfl (hb hby d27_13) rfl (teq hc3).2 k) ?_
      refine own_by (fun _ k => XS.iconst X1.here hx rfl (hb hby d27_16) k) ?_
      show own_Go _ _ _ _ (T1.setTop (mkF m 17 #[.val (.int p1), .val (.int p2)] [(.int (2 : Int32))]))
      exact own_retI X1 hx Bd.notSynchronized e1 Bd.returns (hb hby d27_17) (⟨by rw [show own_ln p1 p2 = (2 : Int32) from by unfold own_ln; simp only [if_neg hc2, if_pos hc3]], N1, rfl⟩) (by decide) (by decide)
    · --
      refine own_by (fun _ k => XS.icmpYes X1.here hx rfl (pc0 := 13) (pc' := 18) rfl (hb hby d27_13) rfl (feq hc3).2 (by decide) (by decide) k) ?_
      refine own_by (fun _ k => XS.bipush X1.here hx rfl (hb hby d27_18) k) ?_
      show own_Go _ _ _ _ (T1.setTop (mkF m 20 #[.val (.int p1), .val (.int p2)] [(.int (6 : Int32))]))
      exact own_retI X1 hx Bd.notSynchronized e1 Bd.returns (hb hby d27_20) (⟨by rw [show own_ln p1 p2 = (6 : Int32) from by unfold own_ln; simp only [if_neg hc2, if_neg hc3]], N1, rfl⟩) (by decide) (by decide)
def own_k3 (k : Int32) : Prop := k = 0 ∨ k = 1 ∨ k = 2
theorem own_ln3 (c w : Int32) : own_ln c w = 1 ∨ own_ln c w = 2 ∨ own_ln c w = 6 := by unfold own_ln; (repeat' split) <;> simp
theorem own_k3.sub {k : Int32} (h : own_k3 k) {l : Int32} (hl : l = 1 ∨ l = 2 ∨ l = 6) (q : ¬ k < l) : own_k3 (k - l) := by
  rcases h with rfl | rfl | rfl <;> rcases hl with rfl | rfl | rfl <;> first | (exfalso; revert q; decide) | (unfold own_k3; decide)
set_option maxRecDepth 65536 in
set_option maxHeartbeats 40000000 in
theorem rm29 (l : Launch) (Z : State) (a0 : Array Value) (hw : ∀ d ∈ tables_1, d.before a0 Z = true) (ws : List Jvm.Cond) (p1 : Int32) (p2 : Int32) (p3 : Int32)  (h0 : Heap) (n0 : Nat) (Z0 : n0 ≤ h0.size) (Pk3 : own_k3 p3) :
    MetFree l (⟨"com/example/libmakespan/libmakespan/UnitsResetPinLaw", "unit", "(CZI)I"⟩ : MethodName) (head1 (Jvm.Cond.code (⟨"com/example/libmakespan/libmakespan/UnitsResetPinLaw", "unit", "(CZI)I"⟩ : MethodName) method_6_code 3 (some .int) :: ws) ({ frames := 1, cells := 0, slots := 0, locals := 14 } : Room)) (fun a U => a = #[(.int p1), (.int p2), (.int p3)] ∧ Z.Warmed39 U.vm ∧ U.heap = h0) (fun _ _ _ _ _ => True) (fun _ U o U' => ∃ vv LL, o = .returned vv ∧ own_ap (fun v h L => v = some (.int (own_un p1 p2 p3)) ∧ Fr n0 L ∧ h = h0) vv U'.heap LL ∧ FrameEnd U o U' LL 0 0) := by
  refine MetFree.of_bodySF (plainFor_of_name pn_29) hisR ?_
  intro p e s m args below meth c s₁ Bd hml0 hP hK
  obtain ⟨rfl, hZ, hh⟩ := hP
  have hx := Bd.exec
  have hby := Bd.bytes
  have hml : c.maxLocals = 3 := hml0
  have hown : s.vm.findClass "com/example/libmakespan/libmakespan/UnitsResetPinLaw" = some m.cls := findClass_of_methodNamed Bd.named
  have hnm := (name_of_methodNamed Bd.named Bd.method).1
  have X0 : Stand p l e ({ frames := 1, cells := 0, slots := 0, locals := 14 } : Room) s m #[(.int p1), (.int p2), (.int p3)] below meth c s₁ [] 0 0 := Stand.of_body Bd
  have e0 : s₁.heap = h0 := by rw [← hh, Bd.state]; rfl
  have N0 := Fr.nil n0
  show own_Go p.tables e below (own_Q s (fun v h L => v = some (.int (own_un p1 p2 p3)) ∧ Fr n0 L ∧ h = h0) 0 0) (s₁.setTop (entryFrame m #[(.int p1), (.int p2), (.int p3)] 3))
  rw [show entryFrame m #[(.int p1), (.int p2), (.int p3)] 3 = mkF m 0 #[.val (.int p1), .val (.int p2), .val (.int p3)] [] from by first | (simp [entryFrame, mkF, argsToLocals, Value.category]; done) | rfl]
  show own_Go _ _ _ _ (s₁.setTop (mkF m 0 #[.val (.int p1), .val (.int p2), .val (.int p3)] []))
  refine own_by (fun _ k => XS.iloadN X0.here hx rfl (hb hby d29_0) rfl k) ?_
  refine own_by (fun _ k => XS.iloadN X0.here hx rfl (hb hby d29_1) rfl k) ?_
  show own_Go _ _ _ _ (s₁.setTop (mkF m 2 #[.val (.int p1), .val (.int p2), .val (.int p3)] [(.int p2), (.int p1)]))
  refine own_callS X0 hx hZ hown (hw _ (List.mem_of_getElem? (i := 136) rfl)) (hw _ (List.mem_of_getElem? (i := 137) rfl)) (hw _ (List.mem_of_getElem? (i := 131) rfl)) (hw _ (List.mem_of_getElem? (i := 138) rfl)) (by decide) (rm28 l Z a0 hw [] p1 p2 h0 n0 Z0) e0 (by rw [hml]; rfl) [(.int p1), (.int p2)] [] rfl (lenOf own_pd24 rfl) rfl 0 (Nat.le_of_eq rfl) (by decide) (by decide) (Nat.le_of_ble_eq_true rfl) (Nat.le_of_ble_eq_true rfl) (hb hby d29_2) ?_
  intro T1 Lc1 v1 X1 hQ1
  obtain ⟨rfl, N1q, e1⟩ := hQ1
  have N1 := Fr.app N0 N1q
  show own_Go _ _ _ _ (T1.setTop (mkF m 5 #[.val (.int p1), .val (.int p2), .val (.int p3)] [(.int (own_es p1 p2))]))
  by_cases hc2 : (own_es p1 p2) = (0 : Int32)
  · --
    refine own_by (fun _ k => XS.ifNo X1.here hx rfl (hb hby d29_5) rfl ((if0 _ _).trans (teq hc2).2) k) ?_
    refine own_by (fun _ k => XS.iloadN X1.here hx rfl (hb hby d29_8) rfl k) ?_
    show own_Go _ _ _ _ (T1.setTop (mkF m 9 #[.val (.int p1), .val (.int p2), .val (.int p3)] [(.int p1)]))
    exact own_retI X1 hx Bd.notSynchronized e1 Bd.returns (hb hby d29_9) (⟨by rw [show own_un p1 p2 p3 = p1 from by unfold own_un; simp only [if_pos hc2]], N1, rfl⟩) (by decide) (by decide)
  · --
    refine own_by (fun _ k => XS.ifYes X1.here hx rfl (pc0 := 5) (pc' := 10) rfl (hb hby d29_5) rfl ((if0 _ _).trans (feq hc2).2) (by decide) (by decide) k) ?_
    refine own_by (fun _ k => XS.iloadN X1.here hx rfl (hb hby d29_10) rfl k) ?_
    refine own_by (fun _ k => XS.bipush X1.here hx rfl (hb hby d29_11) k) ?_
    show own_Go _ _ _ _ (T1.setTop (mkF m 13 #[.val (.int p1), .val (.int p2), .val (.int p3)] [(.int (92 : Int32)), (.int p1)]))
    by_cases hc3 : p1 = (92 : Int32)
    · --
      refine own_by (fun _ k => XS.icmpNo X1.here hx rfl (hb hby d29_13) rfl (teq hc3).2 k) ?_
      refine own_by (fun _ k => XS.bipush X1.here hx rfl (hb hby d29_16) k) ?_
      show own_Go _ _ _ _ (T1.setTop (mkF m 18 #[.val (.int p1), .val (.int p2), .val (.int p3)] [(.int (92 : Int32))]))
      exact own_retI X1 hx Bd.notSynchronized e1 Bd.returns (hb hby d29_18) (⟨by rw [show own_un p1 p2 p3 = (92 : Int32) from by unfold own_un; simp only [if_neg hc2, if_pos hc3]], N1, rfl⟩) (by decide) (by decide)
    · --
      refine own_by (fun _ k => XS.icmpYes X1.here hx rfl (pc0 := 13) (pc' := 19) rfl (hb hby d29_13) rfl (feq hc3).2 (by decide) (by decide) k) ?_
      refine own_by (fun _ k => XS.iloadN X1.here hx rfl (hb hby d29_19) rfl k) ?_
      show own_Go _ _ _ _ (T1.setTop (mkF m 20 #[.val (.int p1), .val (.int p2), .val (.int p3)] [(.int p3)]))
      by_cases hc4 : p3 = (0 : Int32)
      · --
        refine own_by (fun _ k => XS.ifNo X1.here hx rfl (hb hby d29_20) rfl ((if0 _ _).trans (teq hc4).2) k) ?_
        refine own_by (fun _ k => XS.bipush X1.here hx rfl (hb hby d29_23) k) ?_
        show own_Go _ _ _ _ (T1.setTop (mkF m 25 #[.val (.int p1), .val (.int p2), .val (.int p3)] [(.int (92 : Int32))]))
        exact own_retI X1 hx Bd.notSynchronized e1 Bd.returns (hb hby d29_25) (⟨by rw [show own_un p1 p2 p3 = (92 : Int32) from by unfold own_un; simp only [if_neg hc2, if_neg hc3, if_pos hc4]], N1, rfl⟩) (by decide) (by decide)
      · --
        refine own_by (fun _ k => XS.ifYes X1.here hx rfl (pc0 := 20) (pc' := 26) rfl (hb hby d29_20) rfl ((if0 _ _).trans (feq hc4).2) (by decide) (by decide) k) ?_
        refine own_by (fun _ k => XS.iloadN X1.here hx rfl (hb hby d29_26) rfl k) ?_
        refine own_by (fun _ k => XS.iconst X1.here hx rfl (hb hby d29_27) k) ?_
        show own_Go _ _ _ _ (T1.setTop (mkF m 28 #[.val (.int p1), .val (.int p2), .val (.int p3)] [(.int (1 : Int32)), (.int p3)]))
        by_cases hc5 : p3 = (1 : Int32)
        · --
          refine own_by (fun _ k => XS.icmpNo X1.here hx rfl (hb hby d29_28) rfl (teq hc5).2 k) ?_
          refine own_by (fun _ k => XS.bipush X1.here hx rfl (hb hby d29_31) k) ?_
          show own_Go _ _ _ _ (T1.setTop (mkF m 33 #[.val (.int p1), .val (.int p2), .val (.int p3)] [(.int (117 : Int32))]))
          exact own_retI X1 hx Bd.notSynchronized e1 Bd.returns (hb hby d29_33) (⟨by rw [show own_un p1 p2 p3 = (117 : Int32) from by unfold own_un; simp only [if_neg hc2, if_neg hc3, if_neg hc4, if_pos hc5]], N1, rfl⟩) (by decide) (by decide)
        · --
          refine own_by (fun _ k => XS.icmpYes X1.here hx rfl (pc0 := 28) (pc' := 34) rfl (hb hby d29_28) rfl (feq hc5).2 (by decide) (by decide) k) ?_
          refine own_by (fun _ k => XS.iloadN X1.here hx rfl (hb hby d29_34) rfl k) ?_
          refine own_by (fun _ k => XS.iconst X1.here hx rfl (hb hby d29_35) k) ?_
          show own_Go _ _ _ _ (T1.setTop (mkF m 36 #[.val (.int p1), .val (.int p2), .val (.int p3)] [(.int (2 : Int32)), (.int p3)]))
          refine own_by (fun _ k => XS.icmpYes X1.here hx rfl (pc0 := 36) (pc' := 44) rfl (hb hby d29_36) rfl (teq ((Pk3.resolve_left hc4).resolve_left hc5)).1 (by decide) (by decide) k) ?_
          refine own_by (fun _ k => XS.bipush X1.here hx rfl (hb hby d29_44) k) ?_
          show own_Go _ _ _ _ (T1.setTop (mkF m 46 #[.val (.int p1), .val (.int p2), .val (.int p3)] [(.int (48 : Int32))]))
          exact own_retI X1 hx Bd.notSynchronized e1 Bd.returns (hb hby d29_46) (⟨by rw [show own_un p1 p2 p3 = (48 : Int32) from by unfold own_un; simp only [if_neg hc2, if_neg hc3, if_neg hc4, if_neg hc5]], N1, rfl⟩) (by decide) (by decide)
set_option maxRecDepth 65536 in
set_option maxHeartbeats 40000000 in
theorem rm26 (l : Launch) (Z : State) (a0 : Array Value) (hw : ∀ d ∈ tables_1, d.before a0 Z = true) (ws : List Jvm.Cond) (p1 : Int32) (p2 : Int32) (p3 : Int32) (p4 : Int32) (p5 : Int32)  (h0 : Heap) (n0 : Nat) (Z0 : n0 ≤ h0.size) (Pk3 : own_k3 p5) (Pf3 : own_k3 p3) :
    MetFree l (⟨"com/example/libmakespan/libmakespan/UnitsResetPinLaw", "expected", "(CCIZI)I"⟩ : MethodName) (head1 (Jvm.Cond.code (⟨"com/example/libmakespan/libmakespan/UnitsResetPinLaw", "expected", "(CCIZI)I"⟩ : MethodName) method_7_code 9 (some .int) :: ws) ({ frames := 2, cells := 0, slots := 0, locals := 40 } : Room)) (fun a U => a = #[(.int p1), (.int p2), (.int p3), (.int p4), (.int p5)] ∧ Z.Warmed39 U.vm ∧ U.heap = h0) (fun _ _ _ _ _ => True) (fun _ U o U' => ∃ vv LL, o = .returned vv ∧ own_ap (fun v h L => v = some (.int (own_ex p1 p2 p3 p4 p5)) ∧ Fr n0 L ∧ h = h0) vv U'.heap LL ∧ FrameEnd U o U' LL 0 0) := by
  refine MetFree.of_bodySF (plainFor_of_name pn_26) hisR ?_
  intro p e s m args below meth c s₁ Bd hml0 hP hK
  obtain ⟨rfl, hZ, hh⟩ := hP
  have hx := Bd.exec
  have hby := Bd.bytes
  have hml : c.maxLocals = 9 := hml0
  have hown : s.vm.findClass "com/example/libmakespan/libmakespan/UnitsResetPinLaw" = some m.cls := findClass_of_methodNamed Bd.named
  have hnm := (name_of_methodNamed Bd.named Bd.method).1
  have X0 : Stand p l e ({ frames := 2, cells := 0, slots := 0, locals := 40 } : Room) s m #[(.int p1), (.int p2), (.int p3), (.int p4), (.int p5)] below meth c s₁ [] 0 0 := Stand.of_body Bd
  have e0 : s₁.heap = h0 := by rw [← hh, Bd.state]; rfl
  have N0 := Fr.nil n0
  show own_Go p.tables e below (own_Q s (fun v h L => v = some (.int (own_ex p1 p2 p3 p4 p5)) ∧ Fr n0 L ∧ h = h0) 0 0) (s₁.setTop (entryFrame m #[(.int p1), (.int p2), (.int p3), (.int p4), (.int p5)] 9))
  rw [show entryFrame m #[(.int p1), (.int p2), (.int p3), (.int p4), (.int p5)] 9 = mkF m 0 #[.val (.int p1), .val (.int p2), .val (.int p3), .val (.int p4), .val (.int p5), .unset, .unset, .unset, .unset] [] from by first | (simp [entryFrame, mkF, argsToLocals, Value.category]; done) | rfl]
  show own_Go _ _ _ _ (s₁.setTop (mkF m 0 #[.val (.int p1), .val (.int p2), .val (.int p3), .val (.int p4), .val (.int p5), .unset, .unset, .unset, .unset] []))
  refine own_by (fun _ k => XS.iloadN X0.here hx rfl (hb hby d26_0) rfl k) ?_
  refine own_by (fun _ k => XS.iconst X0.here hx rfl (hb hby d26_1) k) ?_
  show own_Go _ _ _ _ (s₁.setTop (mkF m 2 #[.val (.int p1), .val (.int p2), .val (.int p3), .val (.int p4), .val (.int p5), .unset, .unset, .unset, .unset] [(.int (2 : Int32)), (.int p3)]))
  by_cases hc1 : p3 = (2 : Int32)
  · --
    refine own_by (fun _ k => XS.icmpNo X0.here hx rfl (hb hby d26_2) rfl (teq hc1).2 k) ?_
    refine own_by (fun _ k => XS.iconst X0.here hx rfl (hb hby d26_5) k) ?_
    show own_Go _ _ _ _ (s₁.setTop (mkF m 6 #[.val (.int p1), .val (.int p2), .val (.int p3), .val (.int p4), .val (.int p5), .unset, .unset, .unset, .unset] [(.int (-1 : Int32))]))
    exact own_retI X0 hx Bd.notSynchronized e0 Bd.returns (hb hby d26_6) (⟨by rw [show own_ex p1 p2 p3 p4 p5 = (-1 : Int32) from by unfold own_ex; simp only [if_pos hc1]], N0, rfl⟩) (by decide) (by decide)
  · --
    refine own_by (fun _ k => XS.icmpYes X0.here hx rfl (pc0 := 2) (pc' := 7) rfl (hb hby d26_2) rfl (feq hc1).2 (by decide) (by decide) k) ?_
    refine own_by (fun _ k => XS.iloadN X0.here hx rfl (hb hby d26_7) rfl k) ?_
    show own_Go _ _ _ _ (s₁.setTop (mkF m 8 #[.val (.int p1), .val (.int p2), .val (.int p3), .val (.int p4), .val (.int p5), .unset, .unset, .unset, .unset] [(.int p3)]))
    by_cases hc2 : p3 = (0 : Int32)
    · --
      refine own_by (fun _ k => XS.ifNo X0.here hx rfl (hb hby d26_8) rfl ((if0 _ _).trans (teq hc2).2) k) ?_
      refine own_by (fun _ k => XS.iloadN X0.here hx rfl (hb hby d26_11) rfl k) ?_
      show own_Go _ _ _ _ (s₁.setTop (mkF m 12 #[.val (.int p1), .val (.int p2), .val (.int p3), .val (.int p4), .val (.int p5), .unset, .unset, .unset, .unset] [(.int p1)]))
      refine own_by (fun _ k => XS.goto X0.here hx rfl (pc0 := 12) (pc' := 16) rfl (hb hby d26_12) (by decide) (by decide) k) ?_
      show own_Go _ _ _ _ (s₁.setTop (mkF m 16 #[.val (.int p1), .val (.int p2), .val (.int p3), .val (.int p4), .val (.int p5), .unset, .unset, .unset, .unset] [(.int p1)]))
      refine own_by (fun _ k => XS.istore X0.here hx rfl (hb hby d26_16) rfl (l' := #[.val (.int p1), .val (.int p2), .val (.int p3), .val (.int p4), .val (.int p5), .val (.int p1), .unset, .unset, .unset]) rfl k) ?_
      refine own_by (fun _ k => XS.iload X0.here hx rfl (hb hby d26_18) rfl k) ?_
      refine own_by (fun _ k => XS.iloadN X0.here hx rfl (hb hby d26_20) rfl k) ?_
      show own_Go _ _ _ _ (s₁.setTop (mkF m 21 #[.val (.int p1), .val (.int p2), .val (.int p3), .val (.int p4), .val (.int p5), .val (.int p1), .unset, .unset, .unset] [(.int p4), (.int p1)]))
      refine own_callS X0 hx hZ hown (hw _ (List.mem_of_getElem? (i := 133) rfl)) (hw _ (List.mem_of_getElem? (i := 134) rfl)) (hw _ (List.mem_of_getElem? (i := 131) rfl)) (hw _ (List.mem_of_getElem? (i := 135) rfl)) (by decide) (rm27 l Z a0 hw [] p1 p4 h0 n0 Z0) e0 (by rw [hml]; rfl) [(.int p1), (.int p4)] [] rfl (lenOf own_pd23 rfl) rfl 0 (Nat.le_of_eq rfl) (by decide) (by decide) (Nat.le_of_ble_eq_true rfl) (Nat.le_of_ble_eq_true rfl) (hb hby d26_21) ?_
      intro T3 Lc3 v3 X3 hQ3
      obtain ⟨rfl, N3q, e3⟩ := hQ3
      have N3 := Fr.app N0 N3q
      show own_Go _ _ _ _ (T3.setTop (mkF m 24 #[.val (.int p1), .val (.int p2), .val (.int p3), .val (.int p4), .val (.int p5), .val (.int p1), .unset, .unset, .unset] [(.int (own_ln p1 p4))]))
      obtain ⟨v6_4, hv6_4⟩ : ∃ z_ : Int32, (own_ln p1 p4) = z_ := ⟨_, rfl⟩
      refine own_gen hv6_4 (fun z_ => T3.setTop (mkF m 24 #[.val (.int p1), .val (.int p2), .val (.int p3), .val (.int p4), .val (.int p5), .val (.int p1), .unset, .unset, .unset] [(.int z_)])) ?_
      refine own_by (fun _ k => XS.istore X3.here hx rfl (hb hby d26_24) rfl (l' := #[.val (.int p1), .val (.int p2), .val (.int p3), .val (.int p4), .val (.int p5), .val (.int p1), .val (.int v6_4), .unset, .unset]) rfl k) ?_
      refine own_by (fun _ k => XS.iload X3.here hx rfl (hb hby d26_26) rfl k) ?_
      refine own_by (fun _ k => XS.iload X3.here hx rfl (hb hby d26_28) rfl k) ?_
      show own_Go _ _ _ _ (T3.setTop (mkF m 30 #[.val (.int p1), .val (.int p2), .val (.int p3), .val (.int p4), .val (.int p5), .val (.int p1), .val (.int v6_4), .unset, .unset] [(.int v6_4), (.int p5)]))
      by_cases hc5 : p5 < v6_4
      · --
        refine own_by (fun _ k => XS.icmpNo X3.here hx rfl (hb hby d26_30) rfl (tlt hc5).2.1 k) ?_
        refine own_by (fun _ k => XS.iload X3.here hx rfl (hb hby d26_33) rfl k) ?_
        refine own_by (fun _ k => XS.iloadN X3.here hx rfl (hb hby d26_35) rfl k) ?_
        show own_Go _ _ _ _ (T3.setTop (mkF m 36 #[.val (.int p1), .val (.int p2), .val (.int p3), .val (.int p4), .val (.int p5), .val (.int p1), .val (.int v6_4), .unset, .unset] [(.int p4), (.int p1)]))
        refine own_by (fun _ k => XS.iload X3.here hx rfl (hb hby d26_36) rfl k) ?_
        show own_Go _ _ _ _ (T3.setTop (mkF m 38 #[.val (.int p1), .val (.int p2), .val (.int p3), .val (.int p4), .val (.int p5), .val (.int p1), .val (.int v6_4), .unset, .unset] [(.int p5), (.int p4), (.int p1)]))
        refine own_callS X3 hx hZ hown (hw _ (List.mem_of_getElem? (i := 139) rfl)) (hw _ (List.mem_of_getElem? (i := 140) rfl)) (hw _ (List.mem_of_getElem? (i := 131) rfl)) (hw _ (List.mem_of_getElem? (i := 141) rfl)) (by decide) (rm29 l Z a0 hw [] p1 p4 p5 h0 n0 Z0 Pk3) e3 (by rw [hml]; rfl) [(.int p1), (.int p4), (.int p5)] [] rfl (lenOf own_pd25 rfl) rfl 0 (Nat.le_of_eq rfl) (by decide) (by decide) (Nat.le_of_ble_eq_true rfl) (Nat.le_of_ble_eq_true rfl) (hb hby d26_38) ?_
        intro T6 Lc6 v6 X6 hQ6
        obtain ⟨rfl, N6q, e6⟩ := hQ6
        have N6 := Fr.app N3 N6q
        show own_Go _ _ _ _ (T6.setTop (mkF m 41 #[.val (.int p1), .val (.int p2), .val (.int p3), .val (.int p4), .val (.int p5), .val (.int p1), .val (.int v6_4), .unset, .unset] [(.int (own_un p1 p4 p5))]))
        exact own_retI X6 hx Bd.notSynchronized e6 Bd.returns (hb hby d26_41) (⟨by rw [show own_ex p1 p2 p3 p4 p5 = (own_un p1 p4 p5) from by unfold own_ex; simp only [if_neg hc1, if_pos hc2, hv6_4, if_pos hc5]], N6, rfl⟩) (by decide) (by decide)
      · --
        refine own_by (fun _ k => XS.icmpYes X3.here hx rfl (pc0 := 30) (pc' := 42) rfl (hb hby d26_30) rfl (flt hc5).2.1 (by decide) (by decide) k) ?_
        refine own_by (fun _ k => XS.iload X3.here hx rfl (hb hby d26_42) rfl k) ?_
        refine own_by (fun _ k => XS.iload X3.here hx rfl (hb hby d26_44) rfl k) ?_
        show own_Go _ _ _ _ (T3.setTop (mkF m 46 #[.val (.int p1), .val (.int p2), .val (.int p3), .val (.int p4), .val (.int p5), .val (.int p1), .val (.int v6_4), .unset, .unset] [(.int v6_4), (.int p5)]))
        refine own_by (fun _ k => XS.isub X3.here hx rfl (hb hby d26_46) rfl k) ?_
        show own_Go _ _ _ _ (T3.setTop (mkF m 47 #[.val (.int p1), .val (.int p2), .val (.int p3), .val (.int p4), .val (.int p5), .val (.int p1), .val (.int v6_4), .unset, .unset] [(.int (p5 - v6_4))]))
        obtain ⟨v7_7, hv7_7⟩ : ∃ z_ : Int32, (p5 - v6_4) = z_ := ⟨_, rfl⟩
        refine own_gen hv7_7 (fun z_ => T3.setTop (mkF m 47 #[.val (.int p1), .val (.int p2), .val (.int p3), .val (.int p4), .val (.int p5), .val (.int p1), .val (.int v6_4), .unset, .unset] [(.int z_)])) ?_
        refine own_by (fun _ k => XS.istore X3.here hx rfl (hb hby d26_47) rfl (l' := #[.val (.int p1), .val (.int p2), .val (.int p3), .val (.int p4), .val (.int p5), .val (.int p1), .val (.int v6_4), .val (.int v7_7), .unset]) rfl k) ?_
        refine own_by (fun _ k => XS.iloadN X3.here hx rfl (hb hby d26_49) rfl k) ?_
        refine own_by (fun _ k => XS.iconst X3.here hx rfl (hb hby d26_50) k) ?_
        show own_Go _ _ _ _ (T3.setTop (mkF m 51 #[.val (.int p1), .val (.int p2), .val (.int p3), .val (.int p4), .val (.int p5), .val (.int p1), .val (.int v6_4), .val (.int v7_7), .unset] [(.int (1 : Int32)), (.int p3)]))
        by_cases hc8 : p3 = (1 : Int32)
        · --
          refine own_by (fun _ k => XS.icmpNo X3.here hx rfl (hb hby d26_51) rfl (teq hc8).2 k) ?_
          refine own_by (fun _ k => XS.iconst X3.here hx rfl (hb hby d26_54) k) ?_
          show own_Go _ _ _ _ (T3.setTop (mkF m 55 #[.val (.int p1), .val (.int p2), .val (.int p3), .val (.int p4), .val (.int p5), .val (.int p1), .val (.int v6_4), .val (.int v7_7), .unset] [(.int (-1 : Int32))]))
          exact own_retI X3 hx Bd.notSynchronized e3 Bd.returns (hb hby d26_55) (⟨by rw [show own_ex p1 p2 p3 p4 p5 = (-1 : Int32) from by unfold own_ex; simp only [if_neg hc1, if_pos hc2, hv6_4, hv7_7, if_neg hc5, if_pos hc8]], N3, rfl⟩) (by decide) (by decide)
        · --
          refine own_by (fun _ k => XS.icmpYes X3.here hx rfl (pc0 := 51) (pc' := 56) rfl (hb hby d26_51) rfl (feq hc8).2 (by decide) (by decide) k) ?_
          refine own_by (fun _ k => XS.iloadN X3.here hx rfl (hb hby d26_56) rfl k) ?_
          refine own_by (fun _ k => XS.iloadN X3.here hx rfl (hb hby d26_57) rfl k) ?_
          show own_Go _ _ _ _ (T3.setTop (mkF m 58 #[.val (.int p1), .val (.int p2), .val (.int p3), .val (.int p4), .val (.int p5), .val (.int p1), .val (.int v6_4), .val (.int v7_7), .unset] [(.int p4), (.int p2)]))
          refine own_callS X3 hx hZ hown (hw _ (List.mem_of_getElem? (i := 133) rfl)) (hw _ (List.mem_of_getElem? (i := 134) rfl)) (hw _ (List.mem_of_getElem? (i := 131) rfl)) (hw _ (List.mem_of_getElem? (i := 135) rfl)) (by decide) (rm27 l Z a0 hw [] p2 p4 h0 n0 Z0) e3 (by rw [hml]; rfl) [(.int p2), (.int p4)] [] rfl (lenOf own_pd23 rfl) rfl 0 (Nat.le_of_eq rfl) (by decide) (by decide) (Nat.le_of_ble_eq_true rfl) (Nat.le_of_ble_eq_true rfl) (hb hby d26_58) ?_
          intro T9 Lc9 v9 X9 hQ9
          obtain ⟨rfl, N9q, e9⟩ := hQ9
          have N9 := Fr.app N3 N9q
          show own_Go _ _ _ _ (T9.setTop (mkF m 61 #[.val (.int p1), .val (.int p2), .val (.int p3), .val (.int p4), .val (.int p5), .val (.int p1), .val (.int v6_4), .val (.int v7_7), .unset] [(.int (own_ln p2 p4))]))
          obtain ⟨v8_10, hv8_10⟩ : ∃ z_ : Int32, (own_ln p2 p4) = z_ := ⟨_, rfl⟩
          refine own_gen hv8_10 (fun z_ => T9.setTop (mkF m 61 #[.val (.int p1), .val (.int p2), .val (.int p3), .val (.int p4), .val (.int p5), .val (.int p1), .val (.int v6_4), .val (.int v7_7), .unset] [(.int z_)])) ?_
          refine own_by (fun _ k => XS.istore X9.here hx rfl (hb hby d26_61) rfl (l' := #[.val (.int p1), .val (.int p2), .val (.int p3), .val (.int p4), .val (.int p5), .val (.int p1), .val (.int v6_4), .val (.int v7_7), .val (.int v8_10)]) rfl k) ?_
          refine own_by (fun _ k => XS.iload X9.here hx rfl (hb hby d26_63) rfl k) ?_
          refine own_by (fun _ k => XS.iload X9.here hx rfl (hb hby d26_65) rfl k) ?_
          show own_Go _ _ _ _ (T9.setTop (mkF m 67 #[.val (.int p1), .val (.int p2), .val (.int p3), .val (.int p4), .val (.int p5), .val (.int p1), .val (.int v6_4), .val (.int v7_7), .val (.int v8_10)] [(.int v8_10), (.int v7_7)]))
          by_cases hc11 : v7_7 < v8_10
          · --
            refine own_by (fun _ k => XS.icmpNo X9.here hx rfl (hb hby d26_67) rfl (tlt hc11).2.1 k) ?_
            refine own_by (fun _ k => XS.iloadN X9.here hx rfl (hb hby d26_70) rfl k) ?_
            refine own_by (fun _ k => XS.iloadN X9.here hx rfl (hb hby d26_71) rfl k) ?_
            show own_Go _ _ _ _ (T9.setTop (mkF m 72 #[.val (.int p1), .val (.int p2), .val (.int p3), .val (.int p4), .val (.int p5), .val (.int p1), .val (.int v6_4), .val (.int v7_7), .val (.int v8_10)] [(.int p4), (.int p2)]))
            refine own_by (fun _ k => XS.iload X9.here hx rfl (hb hby d26_72) rfl k) ?_
            show own_Go _ _ _ _ (T9.setTop (mkF m 74 #[.val (.int p1), .val (.int p2), .val (.int p3), .val (.int p4), .val (.int p5), .val (.int p1), .val (.int v6_4), .val (.int v7_7), .val (.int v8_10)] [(.int v7_7), (.int p4), (.int p2)]))
            refine own_callS X9 hx hZ hown (hw _ (List.mem_of_getElem? (i := 139) rfl)) (hw _ (List.mem_of_getElem? (i := 140) rfl)) (hw _ (List.mem_of_getElem? (i := 131) rfl)) (hw _ (List.mem_of_getElem? (i := 141) rfl)) (by decide) (rm29 l Z a0 hw [] p2 p4 v7_7 h0 n0 Z0 (hv7_7 ▸ Pk3.sub (hv6_4 ▸ own_ln3 _ _) hc5)) e9 (by rw [hml]; rfl) [(.int p2), (.int p4), (.int v7_7)] [] rfl (lenOf own_pd25 rfl) rfl 0 (Nat.le_of_eq rfl) (by decide) (by decide) (Nat.le_of_ble_eq_true rfl) (Nat.le_of_ble_eq_true rfl) (hb hby d26_74) ?_
            intro T12 Lc12 v12 X12 hQ12
            obtain ⟨rfl, N12q, e12⟩ := hQ12
            have N12 := Fr.app N9 N12q
            show own_Go _ _ _ _ (T12.setTop (mkF m 77 #[.val (.int p1), .val (.int p2), .val (.int p3), .val (.int p4), .val (.int p5), .val (.int p1), .val (.int v6_4), .val (.int v7_7), .val (.int v8_10)] [(.int (own_un p2 p4 v7_7))]))
            exact own_retI X12 hx Bd.notSynchronized e12 Bd.returns (hb hby d26_77) (⟨by rw [show own_ex p1 p2 p3 p4 p5 = (own_un p2 p4 v7_7) from by unfold own_ex; simp only [if_neg hc1, if_pos hc2, hv6_4, hv7_7, hv8_10, if_neg hc5, if_neg hc8, if_pos hc11]], N12, rfl⟩) (by decide) (by decide)
          · --
            refine own_by (fun _ k => XS.icmpYes X9.here hx rfl (pc0 := 67) (pc' := 78) rfl (hb hby d26_67) rfl (flt hc11).2.1 (by decide) (by decide) k) ?_
            refine own_by (fun _ k => XS.iconst X9.here hx rfl (hb hby d26_78) k) ?_
            show own_Go _ _ _ _ (T9.setTop (mkF m 79 #[.val (.int p1), .val (.int p2), .val (.int p3), .val (.int p4), .val (.int p5), .val (.int p1), .val (.int v6_4), .val (.int v7_7), .val (.int v8_10)] [(.int (-1 : Int32))]))
            exact own_retI X9 hx Bd.notSynchronized e9 Bd.returns (hb hby d26_79) (⟨by rw [show own_ex p1 p2 p3 p4 p5 = (-1 : Int32) from by unfold own_ex; simp only [if_neg hc1, if_pos hc2, hv6_4, hv7_7, hv8_10, if_neg hc5, if_neg hc8, if_neg hc11]], N9, rfl⟩) (by decide) (by decide)
    · --
      refine own_by (fun _ k => XS.ifYes X0.here hx rfl (pc0 := 8) (pc' := 15) rfl (hb hby d26_8) rfl ((if0 _ _).trans (feq hc2).2) (by decide) (by decide) k) ?_
      refine own_by (fun _ k => XS.iloadN X0.here hx rfl (hb hby d26_15) rfl k) ?_
      show own_Go _ _ _ _ (s₁.setTop (mkF m 16 #[.val (.int p1), .val (.int p2), .val (.int p3), .val (.int p4), .val (.int p5), .unset, .unset, .unset, .unset] [(.int p2)]))
      refine own_by (fun _ k => XS.istore X0.here hx rfl (hb hby d26_16) rfl (l' := #[.val (.int p1), .val (.int p2), .val (.int p3), .val (.int p4), .val (.int p5), .val (.int p2), .unset, .unset, .unset]) rfl k) ?_
      refine own_by (fun _ k => XS.iload X0.here hx rfl (hb hby d26_18) rfl k) ?_
      refine own_by (fun _ k => XS.iloadN X0.here hx rfl (hb hby d26_20) rfl k) ?_
      show own_Go _ _ _ _ (s₁.setTop (mkF m 21 #[.val (.int p1), .val (.int p2), .val (.int p3), .val (.int p4), .val (.int p5), .val (.int p2), .unset, .unset, .unset] [(.int p4), (.int p2)]))
      refine own_callS X0 hx hZ hown (hw _ (List.mem_of_getElem? (i := 133) rfl)) (hw _ (List.mem_of_getElem? (i := 134) rfl)) (hw _ (List.mem_of_getElem? (i := 131) rfl)) (hw _ (List.mem_of_getElem? (i := 135) rfl)) (by decide) (rm27 l Z a0 hw [] p2 p4 h0 n0 Z0) e0 (by rw [hml]; rfl) [(.int p2), (.int p4)] [] rfl (lenOf own_pd23 rfl) rfl 0 (Nat.le_of_eq rfl) (by decide) (by decide) (Nat.le_of_ble_eq_true rfl) (Nat.le_of_ble_eq_true rfl) (hb hby d26_21) ?_
      intro T13 Lc13 v13 X13 hQ13
      obtain ⟨rfl, N13q, e13⟩ := hQ13
      have N13 := Fr.app N0 N13q
      show own_Go _ _ _ _ (T13.setTop (mkF m 24 #[.val (.int p1), .val (.int p2), .val (.int p3), .val (.int p4), .val (.int p5), .val (.int p2), .unset, .unset, .unset] [(.int (own_ln p2 p4))]))
      obtain ⟨v6_14, hv6_14⟩ : ∃ z_ : Int32, (own_ln p2 p4) = z_ := ⟨_, rfl⟩
      refine own_gen hv6_14 (fun z_ => T13.setTop (mkF m 24 #[.val (.int p1), .val (.int p2), .val (.int p3), .val (.int p4), .val (.int p5), .val (.int p2), .unset, .unset, .unset] [(.int z_)])) ?_
      refine own_by (fun _ k => XS.istore X13.here hx rfl (hb hby d26_24) rfl (l' := #[.val (.int p1), .val (.int p2), .val (.int p3), .val (.int p4), .val (.int p5), .val (.int p2), .val (.int v6_14), .unset, .unset]) rfl k) ?_
      refine own_by (fun _ k => XS.iload X13.here hx rfl (hb hby d26_26) rfl k) ?_
      refine own_by (fun _ k => XS.iload X13.here hx rfl (hb hby d26_28) rfl k) ?_
      show own_Go _ _ _ _ (T13.setTop (mkF m 30 #[.val (.int p1), .val (.int p2), .val (.int p3), .val (.int p4), .val (.int p5), .val (.int p2), .val (.int v6_14), .unset, .unset] [(.int v6_14), (.int p5)]))
      by_cases hc15 : p5 < v6_14
      · --
        refine own_by (fun _ k => XS.icmpNo X13.here hx rfl (hb hby d26_30) rfl (tlt hc15).2.1 k) ?_
        refine own_by (fun _ k => XS.iload X13.here hx rfl (hb hby d26_33) rfl k) ?_
        refine own_by (fun _ k => XS.iloadN X13.here hx rfl (hb hby d26_35) rfl k) ?_
        show own_Go _ _ _ _ (T13.setTop (mkF m 36 #[.val (.int p1), .val (.int p2), .val (.int p3), .val (.int p4), .val (.int p5), .val (.int p2), .val (.int v6_14), .unset, .unset] [(.int p4), (.int p2)]))
        refine own_by (fun _ k => XS.iload X13.here hx rfl (hb hby d26_36) rfl k) ?_
        show own_Go _ _ _ _ (T13.setTop (mkF m 38 #[.val (.int p1), .val (.int p2), .val (.int p3), .val (.int p4), .val (.int p5), .val (.int p2), .val (.int v6_14), .unset, .unset] [(.int p5), (.int p4), (.int p2)]))
        refine own_callS X13 hx hZ hown (hw _ (List.mem_of_getElem? (i := 139) rfl)) (hw _ (List.mem_of_getElem? (i := 140) rfl)) (hw _ (List.mem_of_getElem? (i := 131) rfl)) (hw _ (List.mem_of_getElem? (i := 141) rfl)) (by decide) (rm29 l Z a0 hw [] p2 p4 p5 h0 n0 Z0 Pk3) e13 (by rw [hml]; rfl) [(.int p2), (.int p4), (.int p5)] [] rfl (lenOf own_pd25 rfl) rfl 0 (Nat.le_of_eq rfl) (by decide) (by decide) (Nat.le_of_ble_eq_true rfl) (Nat.le_of_ble_eq_true rfl) (hb hby d26_38) ?_
        intro T16 Lc16 v16 X16 hQ16
        obtain ⟨rfl, N16q, e16⟩ := hQ16
        have N16 := Fr.app N13 N16q
        show own_Go _ _ _ _ (T16.setTop (mkF m 41 #[.val (.int p1), .val (.int p2), .val (.int p3), .val (.int p4), .val (.int p5), .val (.int p2), .val (.int v6_14), .unset, .unset] [(.int (own_un p2 p4 p5))]))
        exact own_retI X16 hx Bd.notSynchronized e16 Bd.returns (hb hby d26_41) (⟨by rw [show own_ex p1 p2 p3 p4 p5 = (own_un p2 p4 p5) from by unfold own_ex; simp only [if_neg hc1, if_neg hc2, hv6_14, if_pos hc15]], N16, rfl⟩) (by decide) (by decide)
      · --
        refine own_by (fun _ k => XS.icmpYes X13.here hx rfl (pc0 := 30) (pc' := 42) rfl (hb hby d26_30) rfl (flt hc15).2.1 (by decide) (by decide) k) ?_
        refine own_by (fun _ k => XS.iload X13.here hx rfl (hb hby d26_42) rfl k) ?_
        refine own_by (fun _ k => XS.iload X13.here hx rfl (hb hby d26_44) rfl k) ?_
        show own_Go _ _ _ _ (T13.setTop (mkF m 46 #[.val (.int p1), .val (.int p2), .val (.int p3), .val (.int p4), .val (.int p5), .val (.int p2), .val (.int v6_14), .unset, .unset] [(.int v6_14), (.int p5)]))
        refine own_by (fun _ k => XS.isub X13.here hx rfl (hb hby d26_46) rfl k) ?_
        show own_Go _ _ _ _ (T13.setTop (mkF m 47 #[.val (.int p1), .val (.int p2), .val (.int p3), .val (.int p4), .val (.int p5), .val (.int p2), .val (.int v6_14), .unset, .unset] [(.int (p5 - v6_14))]))
        obtain ⟨v7_17, hv7_17⟩ : ∃ z_ : Int32, (p5 - v6_14) = z_ := ⟨_, rfl⟩
        refine own_gen hv7_17 (fun z_ => T13.setTop (mkF m 47 #[.val (.int p1), .val (.int p2), .val (.int p3), .val (.int p4), .val (.int p5), .val (.int p2), .val (.int v6_14), .unset, .unset] [(.int z_)])) ?_
        refine own_by (fun _ k => XS.istore X13.here hx rfl (hb hby d26_47) rfl (l' := #[.val (.int p1), .val (.int p2), .val (.int p3), .val (.int p4), .val (.int p5), .val (.int p2), .val (.int v6_14), .val (.int v7_17), .unset]) rfl k) ?_
        refine own_by (fun _ k => XS.iloadN X13.here hx rfl (hb hby d26_49) rfl k) ?_
        refine own_by (fun _ k => XS.iconst X13.here hx rfl (hb hby d26_50) k) ?_
        show own_Go _ _ _ _ (T13.setTop (mkF m 51 #[.val (.int p1), .val (.int p2), .val (.int p3), .val (.int p4), .val (.int p5), .val (.int p2), .val (.int v6_14), .val (.int v7_17), .unset] [(.int (1 : Int32)), (.int p3)]))
        by_cases hc18 : p3 = (1 : Int32)
        · --
          refine own_by (fun _ k => XS.icmpNo X13.here hx rfl (hb hby d26_51) rfl (teq hc18).2 k) ?_
          refine own_by (fun _ k => XS.iconst X13.here hx rfl (hb hby d26_54) k) ?_
          show own_Go _ _ _ _ (T13.setTop (mkF m 55 #[.val (.int p1), .val (.int p2), .val (.int p3), .val (.int p4), .val (.int p5), .val (.int p2), .val (.int v6_14), .val (.int v7_17), .unset] [(.int (-1 : Int32))]))
          exact own_retI X13 hx Bd.notSynchronized e13 Bd.returns (hb hby d26_55) (⟨by rw [show own_ex p1 p2 p3 p4 p5 = (-1 : Int32) from by unfold own_ex; simp only [if_neg hc1, if_neg hc2, hv6_14, hv7_17, if_neg hc15, if_pos hc18]], N13, rfl⟩) (by decide) (by decide)
        · --
          exact absurd Pf3 (fun q => Or.elim q hc2 fun q => Or.elim q hc18 hc1)
def own_EL : List (String × Nat) := [("com/example/libmakespan/libmakespan/OneLine$Units", 48)]
theorem own_EW {Z : State} {a0 : Array Value} (hw : ∀ d ∈ tables_1, d.before a0 Z = true) : EW Z a0 own_EL := EW.cons (text := "0123456789abcdef") (hw _ (List.mem_of_getElem? (i := 128) rfl)) (by decide) EW.nil
def own_lit48 (j : Nat) : Int32 := ([48, 49, 50, 51, 52, 53, 54, 55, 56, 57, 97, 98, 99, 100, 101, 102] : List Int32).getD j 0
theorem own_lit48_t : (∀ c ∈ ("0123456789abcdef" : String).toList, c.toNat < 256) ∧ ("0123456789abcdef" : String).toList.map (fun c => Value.int (Jvm.Lit.byteI c.toNat.toUInt16)) = [.int 48, .int 49, .int 50, .int 51, .int 52, .int 53, .int 54, .int 55, .int 56, .int 57, .int 97, .int 98, .int 99, .int 100, .int 101, .int 102] := ⟨by decide, by decide⟩
theorem own_lit48_f : ∀ j, j < 16 → ([.int 48, .int 49, .int 50, .int 51, .int 52, .int 53, .int 54, .int 55, .int 56, .int 57, .int 97, .int 98, .int 99, .int 100, .int 101, .int 102] : List Value).getD j (.int 0) = .int (own_lit48 j) := by decide
/-! the iterator's object -/
def own_US (Z : State) (h : Heap) (au t : Addr) (wx ax gx lx : Int32) (ea : Addr) (fe : Nat → Int32) : Prop :=
  Exa Z h au "com/example/libmakespan/libmakespan/OneLine$Units" ∧ Fld Z h au "com/example/libmakespan/libmakespan/OneLine$Units" "text" "Ljava/lang/String;" (.ref t) ∧ Fld Z h au "com/example/libmakespan/libmakespan/OneLine$Units" "at" "I" (.int ax) ∧ Fld Z h au "com/example/libmakespan/libmakespan/OneLine$Units" "given" "I" (.int gx) ∧ Fld Z h au "com/example/libmakespan/libmakespan/OneLine$Units" "length" "I" (.int lx) ∧ Fld Z h au "com/example/libmakespan/libmakespan/OneLine$Units" "word" "Z" (.int wx) ∧ au ≤ ea ∧
  ((Fld Z h au "com/example/libmakespan/libmakespan/OneLine$Units" "escape" "[C" .null ∧ ea = au ∧ lx = 0) ∨ (Fld Z h au "com/example/libmakespan/libmakespan/OneLine$Units" "escape" "[C" (.ref ea) ∧ own_AI Z h ea .char 6 fe ∧ ea ≠ au))
def own_OK (n : Nat) (ax gx lx : Int32) : Prop := 0 ≤ ax.toInt ∧ ax.toInt ≤ (n : Int) ∧ 0 ≤ gx.toInt ∧ lx.toInt ≤ 6
def own_NX (n : Nat) (g : Nat → Int32) (w ax gx lx : Int32) (f : Nat → Int32) (r ax' gx' lx' : Int32) (f' : Nat → Int32) : Prop :=
  (gx < lx ∧ (∃ kx : Nat, gx.toInt = (kx : Int) ∧ r = f kx) ∧ ax' = ax ∧ gx' = gx + 1 ∧ lx' = lx ∧ f' = f) ∨
  (¬ gx < lx ∧ ax.toInt = (n : Int) ∧ r = -1 ∧ ax' = ax ∧ gx' = gx ∧ lx' = lx ∧ f' = f) ∨
  (¬ gx < lx ∧ ∃ kx : Nat, ax.toInt = (kx : Int) ∧ kx < n ∧ ax' = ax + 1 ∧
    ((own_es (own_cv (g kx)) w = 0 ∧ r = own_cv (g kx) ∧ gx' = gx ∧ lx' = lx ∧ f' = f) ∨
     (¬ own_es (own_cv (g kx)) w = 0 ∧ own_cv (g kx) = 92 ∧ r = 92 ∧ gx' = 1 ∧ lx' = 2 ∧ f' 0 = 92 ∧ f' 1 = 92) ∨
     (¬ own_es (own_cv (g kx)) w = 0 ∧ ¬ own_cv (g kx) = 92 ∧ r = 92 ∧ gx' = 1 ∧ lx' = 6 ∧ f' 0 = 92 ∧ f' 1 = 117 ∧ f' 2 = 48)))
theorem own_OK.giv {n : Nat} {ax gx lx : Int32} (O : own_OK n ax gx lx) (h : gx < lx) : ∃ kx : Nat, gx.toInt = (kx : Int) ∧ kx < 6 := by
  obtain ⟨-, -, h1, h2⟩ := O
  have h := Int32.lt_iff_toInt_lt.mp h
  exact ⟨gx.toInt.toNat, by omega, by omega⟩
theorem own_OK.atx {n : Nat} {ax gx lx z : Int32} (O : own_OK n ax gx lx) (hz : z.toInt = (n : Int)) (h : ¬ ax = z) : ∃ kx : Nat, ax.toInt = (kx : Int) ∧ kx < n := by
  obtain ⟨h1, h2, -, -⟩ := O
  have h : ax.toInt ≠ z.toInt := fun q => h (Int32.toInt_inj.mp q)
  exact ⟨ax.toInt.toNat, by omega, by omega⟩
theorem own_ix (x y : Int32) (h : (x &&& (15 : Int32)) = y) : ∃ kx : Nat, y.toInt = (kx : Int) ∧ kx < 16 := by
  have c1 := c_and x 15 (by decide)
  have l : (15 : Int32).toInt = 15 := by decide
  subst h
  exact ⟨(x &&& 15).toInt.toNat, by omega, by omega⟩
theorem own_ix0 (v y : Int32) (hv : own_lo v) (h : ((v >>> ((12 : Int32) &&& 31)) &&& (15 : Int32)) = y) : y.toInt = ((0 : Nat) : Int) := by
  obtain ⟨h0, h1⟩ := hv
  have hb : v.toBitVec.toNat < 256 := by
    have : v.toInt = v.toBitVec.toInt := rfl
    rw [this, BitVec.toInt_eq_toNat_cond] at h0 h1
    have := v.toBitVec.isLt
    split at h0 <;> omega
  have e : v = Int32.ofNat v.toBitVec.toNat := by
    apply Int32.toBitVec_inj.mp
    apply BitVec.eq_of_toNat_eq; simp [Int32.ofNat]
  subst h
  rw [e]
  have key : ∀ n : Fin 256, ((Int32.ofNat n.val >>> ((12 : Int32) &&& 31)) &&& (15 : Int32)) = 0 := by decide +kernel
  rw [key ⟨_, hb⟩]; rfl
theorem own_c92 : nar .char 92 = 92 := by decide
theorem own_c117 : nar .char 117 = 117 := by decide
theorem own_c48 : nar .char (own_cv (own_lit48 0)) = 48 := by decide
set_option maxRecDepth 65536 in
set_option maxHeartbeats 40000000 in
theorem rm11 (l : Launch) (Z : State) (a0 : Array Value) (hw : ∀ d ∈ tables_1, d.before a0 Z = true) (ws : List Jvm.Cond) (au : Addr) (wx : Int32)  (h0 : Heap) (n0 : Nat) (Z0 : n0 ≤ h0.size) (PEu : Exa Z h0 au "com/example/libmakespan/libmakespan/OneLine$Units") (PFt : Fld Z h0 au "com/example/libmakespan/libmakespan/OneLine$Units" "text" "Ljava/lang/String;" .null) (PFa : Fld Z h0 au "com/example/libmakespan/libmakespan/OneLine$Units" "at" "I" (.int 0)) (PFg : Fld Z h0 au "com/example/libmakespan/libmakespan/OneLine$Units" "given" "I" (.int 0)) (PFl : Fld Z h0 au "com/example/libmakespan/libmakespan/OneLine$Units" "length" "I" (.int 0)) (PFw : Fld Z h0 au "com/example/libmakespan/libmakespan/OneLine$Units" "word" "Z" (.int 0)) (PFe : Fld Z h0 au "com/example/libmakespan/libmakespan/OneLine$Units" "escape" "[C" .null) (Pau : n0 ≤ au) (Pw : nar .boolean wx = wx) :
    MetFree l (⟨"com/example/libmakespan/libmakespan/OneLine$Units", "<init>", "(Z)V"⟩ : MethodName) (head1 (Jvm.Cond.code (⟨"com/example/libmakespan/libmakespan/OneLine$Units", "<init>", "(Z)V"⟩ : MethodName) prog_21_method_1_code 2 none :: ws) ({ frames := 1, cells := 2, slots := 4, locals := 12 } : Room)) (fun a U => a = #[(.ref au), (.int wx)] ∧ Z.Warmed39 U.vm ∧ U.heap = h0 ∧ CHv Z own_EL U.vm h0) (fun _ _ _ _ _ => True) (fun _ U o U' => ∃ vv LL, o = .returned vv ∧ own_ap (fun v h L => ∃ t : Addr, v = none ∧ Fr n0 L ∧ Keep h0 h [au] ∧ own_US Z h au t wx 0 0 0 au (fun _ => 0)) vv U'.heap LL ∧ CHr Z own_EL U.vm U.heap U'.vm U'.heap ∧ ReturnedEndW U o U' LL 2 4) := by
  refine MetFree.of_bodySF (plainFor_of_name pn_11) hisR ?_
  intro p e s m args below meth c s₁ Bd hml0 hP hK
  obtain ⟨rfl, hZ, hh, Hc⟩ := hP
  have hx := Bd.exec
  have hby := Bd.bytes
  have hml : c.maxLocals = 2 := hml0
  have hown : s.vm.findClass "com/example/libmakespan/libmakespan/OneLine$Units" = some m.cls := findClass_of_methodNamed Bd.named
  have hnm := (name_of_methodNamed Bd.named Bd.method).1
  have X0 : Stand p l e ({ frames := 1, cells := 2, slots := 4, locals := 12 } : Room) (s.setVm s.vm) m #[(.ref au), (.int wx)] below meth c s₁ [] 0 0 := Stand.of_body Bd
  have e0 : s₁.heap = h0 := by rw [← hh, Bd.state]; rfl
  have N0 := Fr.nil n0
  have hZ : Z.Warmed39 (s.setVm s.vm).vm := hZ
  have hown : (s.setVm s.vm).vm.findClass "com/example/libmakespan/libmakespan/OneLine$Units" = some m.cls := hown
  have hS0 : s.Since s.vm 0 := (State.WarmedH.refl s).since 0
  have k0 : 0 ≤ h0.size := Nat.zero_le _
  show own_Go p.tables e below (own_QH Z own_EL s (fun v h L => ∃ t : Addr, v = none ∧ Fr n0 L ∧ Keep h0 h [au] ∧ own_US Z h au t wx 0 0 0 au (fun _ => 0)) 2 4) (s₁.setTop (entryFrame m #[(.ref au), (.int wx)] 2))
  rw [show entryFrame m #[(.ref au), (.int wx)] 2 = mkF m 0 #[.val (.ref au), .val (.int wx)] [] from by first | (simp [entryFrame, mkF, argsToLocals, Value.category]; done) | rfl]
  show own_Go _ _ _ _ (s₁.setTop (mkF m 0 #[.val (.ref au), .val (.int wx)] []))
  refine own_by (fun _ k => XS.aloadN X0.here hx rfl (hb hby d11_0) rfl rfl k) ?_
  show own_Go _ _ _ _ (s₁.setTop (mkF m 1 #[.val (.ref au), .val (.int wx)] [(.ref au)]))
  obtain ⟨T1, X1, e1, st1⟩ := initO X0 hx hZ hown (hw _ (List.mem_of_getElem? (i := 51) rfl)) (hw _ (List.mem_of_getElem? (i := 13) rfl)) (hw _ (List.mem_of_getElem? (i := 14) rfl)) e0 (g := (mkF m 1 #[.val (.ref au), .val (.int wx)] [(.ref au)])) rfl (by rw [hml]; rfl) rfl (hb hby d11_1) (by decide) (W := 0) (by show 2 * 0 + _ ≤ _; exact Nat.le_of_eq rfl) (by decide)
  refine own_by st1 ?_
  refine own_by (fun _ k => XS.aloadN X1.here hx rfl (hb hby d11_4) rfl rfl k) ?_
  show own_Go _ _ _ _ (T1.setTop (mkF m 5 #[.val (.ref au), .val (.int wx)] [(.ref au)]))
  refine own_ldcO X1 hx hZ hown (hw _ (List.mem_of_getElem? (i := 52) rfl)) (own_wS hw) e1 hS0 k0 (own_EW hw) (CHr.refl Hc) (hb hby d11_5) 0 (by decide) (by decide) (by decide) (by decide) ?_
  intro b2 T2 h2 kk2 X2 e2 E2 hS2 ks2 hZ hown CH2
  have f3 := PEu.ext E2
  have f4 := (Keep.refl h0 [au]).ext E2
  have f5 := PFt.ext E2
  have f6 := PFa.ext E2
  have f7 := PFg.ext E2
  have f8 := PFl.ext E2
  have f9 := PFw.ext E2
  have f10 := PFe.ext E2
  have Z2 := Nat.le_trans Z0 E2.1
  show own_Go _ _ _ _ (T2.setTop (mkF m 7 #[.val (.ref au), .val (.int wx)] [(.ref b2), (.ref au)]))
  obtain ⟨T11, h11, X11, e11, W11, st11⟩ := putF X2 hx hZ hown (host := "") (Or.inl (hw _ (List.mem_of_getElem? (i := 55) rfl))) Via.refl e2 f5 f3 (Or.inl (hw _ (List.mem_of_getElem? (i := 56) rfl))) (hw _ (List.mem_of_getElem? (i := 46) rfl)) (ty := (.object "java/lang/String")) (by decide) rfl rfl (g := (mkF m 7 #[.val (.ref au), .val (.int wx)] [(.ref b2), (.ref au)])) rfl rfl (hb hby d11_7)
  refine own_by st11 ?_
  have f12 := f5.same W11
  have CH11 := CH2.trans (CHr.wr W11 (Safe.exa hZ.alike f3 (by decide) (by decide)) CH2.1)
  have f13 := f3.wr W11
  have f14 := f4.wr W11 (Or.inl (List.mem_of_getElem? (i := 0) rfl))
  have f15 := f6.other W11 (Or.inr (slot_ne (Or.inl (hw _ (List.mem_of_getElem? (i := 65) rfl))) (Or.inl (hw _ (List.mem_of_getElem? (i := 56) rfl))) (by decide) (t := .int) (t' := (.object "java/lang/String")) (by decide) (by decide)))
  have f16 := f7.other W11 (Or.inr (slot_ne (Or.inl (hw _ (List.mem_of_getElem? (i := 67) rfl))) (Or.inl (hw _ (List.mem_of_getElem? (i := 56) rfl))) (by decide) (t := .int) (t' := (.object "java/lang/String")) (by decide) (by decide)))
  have f17 := f8.other W11 (Or.inr (slot_ne (Or.inl (hw _ (List.mem_of_getElem? (i := 69) rfl))) (Or.inl (hw _ (List.mem_of_getElem? (i := 56) rfl))) (by decide) (t := .int) (t' := (.object "java/lang/String")) (by decide) (by decide)))
  have f18 := f9.other W11 (Or.inr (slot_ne (Or.inr (hw _ (List.mem_of_getElem? (i := 58) rfl))) (Or.inl (hw _ (List.mem_of_getElem? (i := 56) rfl))) (by decide) (t := .boolean) (t' := (.object "java/lang/String")) (by decide) (by decide)))
  have f19 := f10.other W11 (Or.inr (slot_ne (Or.inl (hw _ (List.mem_of_getElem? (i := 127) rfl))) (Or.inl (hw _ (List.mem_of_getElem? (i := 56) rfl))) (by decide) (t := (.array .char)) (t' := (.object "java/lang/String")) (by decide) (by decide)))
  have N11 := Fr.snoc X11 N0 Pau
  have Z11 := own_size_wr W11 Z2
  have ks11 := own_size_wr W11 ks2
  show own_Go _ _ _ _ (T11.setTop (mkF m 10 #[.val (.ref au), .val (.int wx)] []))
  refine own_by (fun _ k => XS.aloadN X11.here hx rfl (hb hby d11_10) rfl rfl k) ?_
  refine own_by (fun _ k => XS.iloadN X11.here hx rfl (hb hby d11_11) rfl k) ?_
  show own_Go _ _ _ _ (T11.setTop (mkF m 12 #[.val (.ref au), .val (.int wx)] [(.int wx), (.ref au)]))
  obtain ⟨T20, h20, X20, e20, W20, st20⟩ := putFN X11 hx hZ hown (hw _ (List.mem_of_getElem? (i := 57) rfl)) Via.refl e11 f18 f13 (Or.inr ⟨(hw _ (List.mem_of_getElem? (i := 58) rfl)), rfl, hnm⟩) (hw _ (List.mem_of_getElem? (i := 46) rfl)) (ty := .boolean) (v' := (.int (nar .boolean wx))) (by decide) rfl (fits_nar_bool _) (g := (mkF m 12 #[.val (.ref au), .val (.int wx)] [(.int wx), (.ref au)])) rfl rfl (hb hby d11_12)
  refine own_by st20 ?_
  have f21 := f18.same W20
  have CH20 := CH11.trans (CHr.wr W20 (Safe.exa hZ.alike f13 (by decide) (by decide)) CH11.1)
  have f22 := f13.wr W20
  have f23 := f14.wr W20 (Or.inl (List.mem_of_getElem? (i := 0) rfl))
  have f24 := f12.other W20 (Or.inr (slot_ne (Or.inl (hw _ (List.mem_of_getElem? (i := 56) rfl))) (Or.inr (hw _ (List.mem_of_getElem? (i := 58) rfl))) (by decide) (t := (.object "java/lang/String")) (t' := .boolean) (by decide) (by decide)))
  have f25 := f15.other W20 (Or.inr (slot_ne (Or.inl (hw _ (List.mem_of_getElem? (i := 65) rfl))) (Or.inr (hw _ (List.mem_of_getElem? (i := 58) rfl))) (by decide) (t := .int) (t' := .boolean) (by decide) (by decide)))
  have f26 := f16.other W20 (Or.inr (slot_ne (Or.inl (hw _ (List.mem_of_getElem? (i := 67) rfl))) (Or.inr (hw _ (List.mem_of_getElem? (i := 58) rfl))) (by decide) (t := .int) (t' := .boolean) (by decide) (by decide)))
  have f27 := f17.other W20 (Or.inr (slot_ne (Or.inl (hw _ (List.mem_of_getElem? (i := 69) rfl))) (Or.inr (hw _ (List.mem_of_getElem? (i := 58) rfl))) (by decide) (t := .int) (t' := .boolean) (by decide) (by decide)))
  have f28 := f19.other W20 (Or.inr (slot_ne (Or.inl (hw _ (List.mem_of_getElem? (i := 127) rfl))) (Or.inr (hw _ (List.mem_of_getElem? (i := 58) rfl))) (by decide) (t := (.array .char)) (t' := .boolean) (by decide) (by decide)))
  have N20 := Fr.snoc X20 N11 Pau
  have Z20 := own_size_wr W20 Z11
  have ks20 := own_size_wr W20 ks11
  show own_Go _ _ _ _ (T20.setTop (mkF m 15 #[.val (.ref au), .val (.int wx)] []))
  exact own_retHV X20 hx Bd.notSynchronized e20 Bd.returns hS2 ks20 hZ (own_EW hw) hh CH20 (hb hby d11_15) (⟨_, rfl, N20, f23, f22, f24, f25, f26, f27, Pw ▸ f21, Nat.le_refl _, Or.inl ⟨f28, rfl, rfl⟩⟩) (by decide) (by decide)
set_option maxRecDepth 65536 in
set_option maxHeartbeats 40000000 in
theorem rm12 (l : Launch) (Z : State) (a0 : Array Value) (hw : ∀ d ∈ tables_1, d.before a0 Z = true) (ws : List Jvm.Cond) (au : Addr) (a1 : Addr) (p1 : Int32) (a9 : Addr) (wx ax gx lx : Int32) (ea : Addr) (fe : Nat → Int32) (h0 : Heap) (n0 : Nat) (Z0 : n0 ≤ h0.size) (PU : own_US Z h0 au a9 wx ax gx lx ea fe) (Pau : n0 ≤ au) :
    MetFree l (⟨"com/example/libmakespan/libmakespan/OneLine$Units", "reset", "(Ljava/lang/String;I)V"⟩ : MethodName) (head1 (Jvm.Cond.code (⟨"com/example/libmakespan/libmakespan/OneLine$Units", "reset", "(Ljava/lang/String;I)V"⟩ : MethodName) prog_21_method_2_code 3 none :: ws) ({ frames := 0, cells := 0, slots := 0, locals := 0 } : Room)) (fun a U => a = #[(.ref au), (.ref a1), (.int p1)] ∧ Z.Warmed39 U.vm ∧ U.heap = h0) (fun _ _ _ _ _ => True) (fun _ U o U' => ∃ vv LL, o = .returned vv ∧ own_ap (fun v h L => v = none ∧ Fr n0 L ∧ Keep h0 h [au] ∧ own_US Z h au a1 wx p1 0 0 ea fe) vv U'.heap LL ∧ FrameEnd U o U' LL 0 0) := by
  refine MetFree.of_bodySF (plainFor_of_name pn_12) hisR ?_
  intro p e s m args below meth c s₁ Bd hml0 hP hK
  obtain ⟨rfl, hZ, hh⟩ := hP
  have hx := Bd.exec
  have hby := Bd.bytes
  have hml : c.maxLocals = 3 := hml0
  have hown : s.vm.findClass "com/example/libmakespan/libmakespan/OneLine$Units" = some m.cls := findClass_of_methodNamed Bd.named
  have hnm := (name_of_methodNamed Bd.named Bd.method).1
  have X0 : Stand p l e ({ frames := 0, cells := 0, slots := 0, locals := 0 } : Room) s m #[(.ref au), (.ref a1), (.int p1)] below meth c s₁ [] 0 0 := Stand.of_body Bd
  have e0 : s₁.heap = h0 := by rw [← hh, Bd.state]; rfl
  have N0 := Fr.nil n0
  show own_Go p.tables e below (own_Q s (fun v h L => v = none ∧ Fr n0 L ∧ Keep h0 h [au] ∧ own_US Z h au a1 wx p1 0 0 ea fe) 0 0) (s₁.setTop (entryFrame m #[(.ref au), (.ref a1), (.int p1)] 3))
  rw [show entryFrame m #[(.ref au), (.ref a1), (.int p1)] 3 = mkF m 0 #[.val (.ref au), .val (.ref a1), .val (.int p1)] [] from by first | (simp [entryFrame, mkF, argsToLocals, Value.category]; done) | rfl]
  obtain ⟨PEu, PFt, PFa, PFg, PFl, PFw, Pue, Pes⟩ := PU
  rcases Pes with ⟨PFe, Peu, Pl0⟩ | ⟨PFe, PAe, Pne⟩
  · --
    show own_Go _ _ _ _ (s₁.setTop (mkF m 0 #[.val (.ref au), .val (.ref a1), .val (.int p1)] []))
    refine own_by (fun _ k => XS.aloadN X0.here hx rfl (hb hby d12_0) rfl rfl k) ?_
    refine own_by (fun _ k => XS.aloadN X0.here hx rfl (hb hby d12_1) rfl rfl k) ?_
    show own_Go _ _ _ _ (s₁.setTop (mkF m 2 #[.val (.ref au), .val (.ref a1), .val (.int p1)] [(.ref a1), (.ref au)]))
    obtain ⟨T1, h1, X1, e1, W1, st1⟩ := putF X0 hx hZ hown (host := "") (Or.inl (hw _ (List.mem_of_getElem? (i := 55) rfl))) Via.refl e0 PFt PEu (Or.inl (hw _ (List.mem_of_getElem? (i := 56) rfl))) (hw _ (List.mem_of_getElem? (i := 46) rfl)) (ty := (.object "java/lang/String")) (by decide) rfl rfl (g := (mkF m 2 #[.val (.ref au), .val (.ref a1), .val (.int p1)] [(.ref a1), (.ref au)])) rfl rfl (hb hby d12_2)
    refine own_by st1 ?_
    have f2 := PFt.same W1
    have f3 := PEu.wr W1
    have f4 := PFa.other W1 (Or.inr (slot_ne (Or.inl (hw _ (List.mem_of_getElem? (i := 65) rfl))) (Or.inl (hw _ (List.mem_of_getElem? (i := 56) rfl))) (by decide) (t := .int) (t' := (.object "java/lang/String")) (by decide) (by decide)))
    have f5 := PFg.other W1 (Or.inr (slot_ne (Or.inl (hw _ (List.mem_of_getElem? (i := 67) rfl))) (Or.inl (hw _ (List.mem_of_getElem? (i := 56) rfl))) (by decide) (t := .int) (t' := (.object "java/lang/String")) (by decide) (by decide)))
    have f6 := PFl.other W1 (Or.inr (slot_ne (Or.inl (hw _ (List.mem_of_getElem? (i := 69) rfl))) (Or.inl (hw _ (List.mem_of_getElem? (i := 56) rfl))) (by decide) (t := .int) (t' := (.object "java/lang/String")) (by decide) (by decide)))
    have f7 := PFw.other W1 (Or.inr (slot_ne (Or.inr (hw _ (List.mem_of_getElem? (i := 58) rfl))) (Or.inl (hw _ (List.mem_of_getElem? (i := 56) rfl))) (by decide) (t := .boolean) (t' := (.object "java/lang/String")) (by decide) (by decide)))
    have f8 := (Keep.refl h0 [au]).wr W1 (Or.inl (List.mem_of_getElem? (i := 0) rfl))
    have f9 := PFe.other W1 (Or.inr (slot_ne (Or.inl (hw _ (List.mem_of_getElem? (i := 127) rfl))) (Or.inl (hw _ (List.mem_of_getElem? (i := 56) rfl))) (by decide) (t := (.array .char)) (t' := (.object "java/lang/String")) (by decide) (by decide)))
    have N1 := Fr.snoc X1 N0 Pau
    have Z1 := own_size_wr W1 Z0
    show own_Go _ _ _ _ (T1.setTop (mkF m 5 #[.val (.ref au), .val (.ref a1), .val (.int p1)] []))
    refine own_by (fun _ k => XS.aloadN X1.here hx rfl (hb hby d12_5) rfl rfl k) ?_
    refine own_by (fun _ k => XS.iloadN X1.here hx rfl (hb hby d12_6) rfl k) ?_
    show own_Go _ _ _ _ (T1.setTop (mkF m 7 #[.val (.ref au), .val (.ref a1), .val (.int p1)] [(.int p1), (.ref au)]))
    obtain ⟨T10, h10, X10, e10, W10, st10⟩ := putF X1 hx hZ hown (host := "") (Or.inl (hw _ (List.mem_of_getElem? (i := 64) rfl))) Via.refl e1 f4 f3 (Or.inl (hw _ (List.mem_of_getElem? (i := 65) rfl))) (hw _ (List.mem_of_getElem? (i := 46) rfl)) (ty := .int) (by decide) rfl rfl (g := (mkF m 7 #[.val (.ref au), .val (.ref a1), .val (.int p1)] [(.int p1), (.ref au)])) rfl rfl (hb hby d12_7)
    refine own_by st10 ?_
    have f11 := f4.same W10
    have f12 := f3.wr W10
    have f13 := f2.other W10 (Or.inr (slot_ne (Or.inl (hw _ (List.mem_of_getElem? (i := 56) rfl))) (Or.inl (hw _ (List.mem_of_getElem? (i := 65) rfl))) (by decide) (t := (.object "java/lang/String")) (t' := .int) (by decide) (by decide)))
    have f14 := f5.other W10 (Or.inr (slot_ne (Or.inl (hw _ (List.mem_of_getElem? (i := 67) rfl))) (Or.inl (hw _ (List.mem_of_getElem? (i := 65) rfl))) (by decide) (t := .int) (t' := .int) (by decide) (by decide)))
    have f15 := f6.other W10 (Or.inr (slot_ne (Or.inl (hw _ (List.mem_of_getElem? (i := 69) rfl))) (Or.inl (hw _ (List.mem_of_getElem? (i := 65) rfl))) (by decide) (t := .int) (t' := .int) (by decide) (by decide)))
    have f16 := f7.other W10 (Or.inr (slot_ne (Or.inr (hw _ (List.mem_of_getElem? (i := 58) rfl))) (Or.inl (hw _ (List.mem_of_getElem? (i := 65) rfl))) (by decide) (t := .boolean) (t' := .int) (by decide) (by decide)))
    have f17 := f8.wr W10 (Or.inl (List.mem_of_getElem? (i := 0) rfl))
    have f18 := f9.other W10 (Or.inr (slot_ne (Or.inl (hw _ (List.mem_of_getElem? (i := 127) rfl))) (Or.inl (hw _ (List.mem_of_getElem? (i := 65) rfl))) (by decide) (t := (.array .char)) (t' := .int) (by decide) (by decide)))
    have N10 := Fr.snoc X10 N1 Pau
    have Z10 := own_size_wr W10 Z1
    show own_Go _ _ _ _ (T10.setTop (mkF m 10 #[.val (.ref au), .val (.ref a1), .val (.int p1)] []))
    refine own_by (fun _ k => XS.aloadN X10.here hx rfl (hb hby d12_10) rfl rfl k) ?_
    refine own_by (fun _ k => XS.iconst X10.here hx rfl (hb hby d12_11) k) ?_
    show own_Go _ _ _ _ (T10.setTop (mkF m 12 #[.val (.ref au), .val (.ref a1), .val (.int p1)] [(.int (0 : Int32)), (.ref au)]))
    obtain ⟨T19, h19, X19, e19, W19, st19⟩ := putF X10 hx hZ hown (host := "") (Or.inl (hw _ (List.mem_of_getElem? (i := 66) rfl))) Via.refl e10 f14 f12 (Or.inl (hw _ (List.mem_of_getElem? (i := 67) rfl))) (hw _ (List.mem_of_getElem? (i := 46) rfl)) (ty := .int) (by decide) rfl rfl (g := (mkF m 12 #[.val (.ref au), .val (.ref a1), .val (.int p1)] [(.int (0 : Int32)), (.ref au)])) rfl rfl (hb hby d12_12)
    refine own_by st19 ?_
    have f20 := f14.same W19
    have f21 := f12.wr W19
    have f22 := f13.other W19 (Or.inr (slot_ne (Or.inl (hw _ (List.mem_of_getElem? (i := 56) rfl))) (Or.inl (hw _ (List.mem_of_getElem? (i := 67) rfl))) (by decide) (t := (.object "java/lang/String")) (t' := .int) (by decide) (by decide)))
    have f23 := f11.other W19 (Or.inr (slot_ne (Or.inl (hw _ (List.mem_of_getElem? (i := 65) rfl))) (Or.inl (hw _ (List.mem_of_getElem? (i := 67) rfl))) (by decide) (t := .int) (t' := .int) (by decide) (by decide)))
    have f24 := f15.other W19 (Or.inr (slot_ne (Or.inl (hw _ (List.mem_of_getElem? (i := 69) rfl))) (Or.inl (hw _ (List.mem_of_getElem? (i := 67) rfl))) (by decide) (t := .int) (t' := .int) (by decide) (by decide)))
    have f25 := f16.other W19 (Or.inr (slot_ne (Or.inr (hw _ (List.mem_of_getElem? (i := 58) rfl))) (Or.inl (hw _ (List.mem_of_getElem? (i := 67) rfl))) (by decide) (t := .boolean) (t' := .int) (by decide) (by decide)))
    have f26 := f17.wr W19 (Or.inl (List.mem_of_getElem? (i := 0) rfl))
    have f27 := f18.other W19 (Or.inr (slot_ne (Or.inl (hw _ (List.mem_of_getElem? (i := 127) rfl))) (Or.inl (hw _ (List.mem_of_getElem? (i := 67) rfl))) (by decide) (t := (.array .char)) (t' := .int) (by decide) (by decide)))
    have N19 := Fr.snoc X19 N10 Pau
    have Z19 := own_size_wr W19 Z10
    show own_Go _ _ _ _ (T19.setTop (mkF m 15 #[.val (.ref au), .val (.ref a1), .val (.int p1)] []))
    refine own_by (fun _ k => XS.aloadN X19.here hx rfl (hb hby d12_15) rfl rfl k) ?_
    refine own_by (fun _ k => XS.iconst X19.here hx rfl (hb hby d12_16) k) ?_
    show own_Go _ _ _ _ (T19.setTop (mkF m 17 #[.val (.ref au), .val (.ref a1), .val (.int p1)] [(.int (0 : Int32)), (.ref au)]))
    obtain ⟨T28, h28, X28, e28, W28, st28⟩ := putF X19 hx hZ hown (host := "") (Or.inl (hw _ (List.mem_of_getElem? (i := 68) rfl))) Via.refl e19 f24 f21 (Or.inl (hw _ (List.mem_of_getElem? (i := 69) rfl))) (hw _ (List.mem_of_getElem? (i := 46) rfl)) (ty := .int) (by decide) rfl rfl (g := (mkF m 17 #[.val (.ref au), .val (.ref a1), .val (.int p1)] [(.int (0 : Int32)), (.ref au)])) rfl rfl (hb hby d12_17)
    refine own_by st28 ?_
    have f29 := f24.same W28
    have f30 := f21.wr W28
    have f31 := f22.other W28 (Or.inr (slot_ne (Or.inl (hw _ (List.mem_of_getElem? (i := 56) rfl))) (Or.inl (hw _ (List.mem_of_getElem? (i := 69) rfl))) (by decide) (t := (.object "java/lang/String")) (t' := .int) (by decide) (by decide)))
    have f32 := f23.other W28 (Or.inr (slot_ne (Or.inl (hw _ (List.mem_of_getElem? (i := 65) rfl))) (Or.inl (hw _ (List.mem_of_getElem? (i := 69) rfl))) (by decide) (t := .int) (t' := .int) (by decide) (by decide)))
    have f33 := f20.other W28 (Or.inr (slot_ne (Or.inl (hw _ (List.mem_of_getElem? (i := 67) rfl))) (Or.inl (hw _ (List.mem_of_getElem? (i := 69) rfl))) (by decide) (t := .int) (t' := .int) (by decide) (by decide)))
    have f34 := f25.other W28 (Or.inr (slot_ne (Or.inr (hw _ (List.mem_of_getElem? (i := 58) rfl))) (Or.inl (hw _ (List.mem_of_getElem? (i := 69) rfl))) (by decide) (t := .boolean) (t' := .int) (by decide) (by decide)))
    have f35 := f26.wr W28 (Or.inl (List.mem_of_getElem? (i := 0) rfl))
    have f36 := f27.other W28 (Or.inr (slot_ne (Or.inl (hw _ (List.mem_of_getElem? (i := 127) rfl))) (Or.inl (hw _ (List.mem_of_getElem? (i := 69) rfl))) (by decide) (t := (.array .char)) (t' := .int) (by decide) (by decide)))
    have N28 := Fr.snoc X28 N19 Pau
    have Z28 := own_size_wr W28 Z19
    show own_Go _ _ _ _ (T28.setTop (mkF m 20 #[.val (.ref au), .val (.ref a1), .val (.int p1)] []))
    exact own_retV X28 hx Bd.notSynchronized e28 Bd.returns (hb hby d12_20) (⟨rfl, N28, f35, ⟨f30, f31, f32, f33, f29, f34, Pue, Or.inl ⟨f36, Peu, rfl⟩⟩⟩) (by decide) (by decide)
  · --
    show own_Go _ _ _ _ (s₁.setTop (mkF m 0 #[.val (.ref au), .val (.ref a1), .val (.int p1)] []))
    refine own_by (fun _ k => XS.aloadN X0.here hx rfl (hb hby d12_0) rfl rfl k) ?_
    refine own_by (fun _ k => XS.aloadN X0.here hx rfl (hb hby d12_1) rfl rfl k) ?_
    show own_Go _ _ _ _ (s₁.setTop (mkF m 2 #[.val (.ref au), .val (.ref a1), .val (.int p1)] [(.ref a1), (.ref au)]))
    obtain ⟨T37, h37, X37, e37, W37, st37⟩ := putF X0 hx hZ hown (host := "") (Or.inl (hw _ (List.mem_of_getElem? (i := 55) rfl))) Via.refl e0 PFt PEu (Or.inl (hw _ (List.mem_of_getElem? (i := 56) rfl))) (hw _ (List.mem_of_getElem? (i := 46) rfl)) (ty := (.object "java/lang/String")) (by decide) rfl rfl (g := (mkF m 2 #[.val (.ref au), .val (.ref a1), .val (.int p1)] [(.ref a1), (.ref au)])) rfl rfl (hb hby d12_2)
    refine own_by st37 ?_
    have f38 := PFt.same W37
    have f39 := PEu.wr W37
    have f40 := PFa.other W37 (Or.inr (slot_ne (Or.inl (hw _ (List.mem_of_getElem? (i := 65) rfl))) (Or.inl (hw _ (List.mem_of_getElem? (i := 56) rfl))) (by decide) (t := .int) (t' := (.object "java/lang/String")) (by decide) (by decide)))
    have f41 := PFg.other W37 (Or.inr (slot_ne (Or.inl (hw _ (List.mem_of_getElem? (i := 67) rfl))) (Or.inl (hw _ (List.mem_of_getElem? (i := 56) rfl))) (by decide) (t := .int) (t' := (.object "java/lang/String")) (by decide) (by decide)))
    have f42 := PFl.other W37 (Or.inr (slot_ne (Or.inl (hw _ (List.mem_of_getElem? (i := 69) rfl))) (Or.inl (hw _ (List.mem_of_getElem? (i := 56) rfl))) (by decide) (t := .int) (t' := (.object "java/lang/String")) (by decide) (by decide)))
    have f43 := PFw.other W37 (Or.inr (slot_ne (Or.inr (hw _ (List.mem_of_getElem? (i := 58) rfl))) (Or.inl (hw _ (List.mem_of_getElem? (i := 56) rfl))) (by decide) (t := .boolean) (t' := (.object "java/lang/String")) (by decide) (by decide)))
    have f44 := (Keep.refl h0 [au]).wr W37 (Or.inl (List.mem_of_getElem? (i := 0) rfl))
    have f45 := PFe.other W37 (Or.inr (slot_ne (Or.inl (hw _ (List.mem_of_getElem? (i := 127) rfl))) (Or.inl (hw _ (List.mem_of_getElem? (i := 56) rfl))) (by decide) (t := (.array .char)) (t' := (.object "java/lang/String")) (by decide) (by decide)))
    have f46 := PAe.other W37 Pne
    have N37 := Fr.snoc X37 N0 Pau
    have Z37 := own_size_wr W37 Z0
    show own_Go _ _ _ _ (T37.setTop (mkF m 5 #[.val (.ref au), .val (.ref a1), .val (.int p1)] []))
    refine own_by (fun _ k => XS.aloadN X37.here hx rfl (hb hby d12_5) rfl rfl k) ?_
    refine own_by (fun _ k => XS.iloadN X37.here hx rfl (hb hby d12_6) rfl k) ?_
    show own_Go _ _ _ _ (T37.setTop (mkF m 7 #[.val (.ref au), .val (.ref a1), .val (.int p1)] [(.int p1), (.ref au)]))
    obtain ⟨T47, h47, X47, e47, W47, st47⟩ := putF X37 hx hZ hown (host := "") (Or.inl (hw _ (List.mem_of_getElem? (i := 64) rfl))) Via.refl e37 f40 f39 (Or.inl (hw _ (List.mem_of_getElem? (i := 65) rfl))) (hw _ (List.mem_of_getElem? (i := 46) rfl)) (ty := .int) (by decide) rfl rfl (g := (mkF m 7 #[.val (.ref au), .val (.ref a1), .val (.int p1)] [(.int p1), (.ref au)])) rfl rfl (hb hby d12_7)
    refine own_by st47 ?_
    have f48 := f40.same W47
    have f49 := f39.wr W47
    have f50 := f38.other W47 (Or.inr (slot_ne (Or.inl (hw _ (List.mem_of_getElem? (i := 56) rfl))) (Or.inl (hw _ (List.mem_of_getElem? (i := 65) rfl))) (by decide) (t := (.object "java/lang/String")) (t' := .int) (by decide) (by decide)))
    have f51 := f41.other W47 (Or.inr (slot_ne (Or.inl (hw _ (List.mem_of_getElem? (i := 67) rfl))) (Or.inl (hw _ (List.mem_of_getElem? (i := 65) rfl))) (by decide) (t := .int) (t' := .int) (by decide) (by decide)))
    have f52 := f42.other W47 (Or.inr (slot_ne (Or.inl (hw _ (List.mem_of_getElem? (i := 69) rfl))) (Or.inl (hw _ (List.mem_of_getElem? (i := 65) rfl))) (by decide) (t := .int) (t' := .int) (by decide) (by decide)))
    have f53 := f43.other W47 (Or.inr (slot_ne (Or.inr (hw _ (List.mem_of_getElem? (i := 58) rfl))) (Or.inl (hw _ (List.mem_of_getElem? (i := 65) rfl))) (by decide) (t := .boolean) (t' := .int) (by decide) (by decide)))
    have f54 := f44.wr W47 (Or.inl (List.mem_of_getElem? (i := 0) rfl))
    have f55 := f45.other W47 (Or.inr (slot_ne (Or.inl (hw _ (List.mem_of_getElem? (i := 127) rfl))) (Or.inl (hw _ (List.mem_of_getElem? (i := 65) rfl))) (by decide) (t := (.array .char)) (t' := .int) (by decide) (by decide)))
    have f56 := f46.other W47 Pne
    have N47 := Fr.snoc X47 N37 Pau
    have Z47 := own_size_wr W47 Z37
    show own_Go _ _ _ _ (T47.setTop (mkF m 10 #[.val (.ref au), .val (.ref a1), .val (.int p1)] []))
    refine own_by (fun _ k => XS.aloadN X47.here hx rfl (hb hby d12_10) rfl rfl k) ?_
    refine own_by (fun _ k => XS.iconst X47.here hx rfl (hb hby d12_11) k) ?_
    show own_Go _ _ _ _ (T47.setTop (mkF m 12 #[.val (.ref au), .val (.ref a1), .val (.int p1)] [(.int (0 : Int32)), (.ref au)]))
    obtain ⟨T57, h57, X57, e57, W57, st57⟩ := putF X47 hx hZ hown (host := "") (Or.inl (hw _ (List.mem_of_getElem? (i := 66) rfl))) Via.refl e47 f51 f49 (Or.inl (hw _ (List.mem_of_getElem? (i := 67) rfl))) (hw _ (List.mem_of_getElem? (i := 46) rfl)) (ty := .int) (by decide) rfl rfl (g := (mkF m 12 #[.val (.ref au), .val (.ref a1), .val (.int p1)] [(.int (0 : Int32)), (.ref au)])) rfl rfl (hb hby d12_12)
    refine own_by st57 ?_
    have f58 := f51.same W57
    have f59 := f49.wr W57
    have f60 := f50.other W57 (Or.inr (slot_ne (Or.inl (hw _ (List.mem_of_getElem? (i := 56) rfl))) (Or.inl (hw _ (List.mem_of_getElem? (i := 67) rfl))) (by decide) (t := (.object "java/lang/String")) (t' := .int) (by decide) (by decide)))
    have f61 := f48.other W57 (Or.inr (slot_ne (Or.inl (hw _ (List.mem_of_getElem? (i := 65) rfl))) (Or.inl (hw _ (List.mem_of_getElem? (i := 67) rfl))) (by decide) (t := .int) (t' := .int) (by decide) (by decide)))
    have f62 := f52.other W57 (Or.inr (slot_ne (Or.inl (hw _ (List.mem_of_getElem? (i := 69) rfl))) (Or.inl (hw _ (List.mem_of_getElem? (i := 67) rfl))) (by decide) (t := .int) (t' := .int) (by decide) (by decide)))
    have f63 := f53.other W57 (Or.inr (slot_ne (Or.inr (hw _ (List.mem_of_getElem? (i := 58) rfl))) (Or.inl (hw _ (List.mem_of_getElem? (i := 67) rfl))) (by decide) (t := .boolean) (t' := .int) (by decide) (by decide)))
    have f64 := f54.wr W57 (Or.inl (List.mem_of_getElem? (i := 0) rfl))
    have f65 := f55.other W57 (Or.inr (slot_ne (Or.inl (hw _ (List.mem_of_getElem? (i := 127) rfl))) (Or.inl (hw _ (List.mem_of_getElem? (i := 67) rfl))) (by decide) (t := (.array .char)) (t' := .int) (by decide) (by decide)))
    have f66 := f56.other W57 Pne
    have N57 := Fr.snoc X57 N47 Pau
    have Z57 := own_size_wr W57 Z47
    show own_Go _ _ _ _ (T57.setTop (mkF m 15 #[.val (.ref au), .val (.ref a1), .val (.int p1)] []))
    refine own_by (fun _ k => XS.aloadN X57.here hx rfl (hb hby d12_15) rfl rfl k) ?_
    refine own_by (fun _ k => XS.iconst X57.here hx rfl (hb hby d12_16) k) ?_
    show own_Go _ _ _ _ (T57.setTop (mkF m 17 #[.val (.ref au), .val (.ref a1), .val (.int p1)] [(.int (0 : Int32)), (.ref au)]))
    obtain ⟨T67, h67, X67, e67, W67, st67⟩ := putF X57 hx hZ hown (host := "") (Or.inl (hw _ (List.mem_of_getElem? (i := 68) rfl))) Via.refl e57 f62 f59 (Or.inl (hw _ (List.mem_of_getElem? (i := 69) rfl))) (hw _ (List.mem_of_getElem? (i := 46) rfl)) (ty := .int) (by decide) rfl rfl (g := (mkF m 17 #[.val (.ref au), .val (.ref a1), .val (.int p1)] [(.int (0 : Int32)), (.ref au)])) rfl rfl (hb hby d12_17)
    refine own_by st67 ?_
    have f68 := f62.same W67
    have f69 := f59.wr W67
    have f70 := f60.other W67 (Or.inr (slot_ne (Or.inl (hw _ (List.mem_of_getElem? (i := 56) rfl))) (Or.inl (hw _ (List.mem_of_getElem? (i := 69) rfl))) (by decide) (t := (.object "java/lang/String")) (t' := .int) (by decide) (by decide)))
    have f71 := f61.other W67 (Or.inr (slot_ne (Or.inl (hw _ (List.mem_of_getElem? (i := 65) rfl))) (Or.inl (hw _ (List.mem_of_getElem? (i := 69) rfl))) (by decide) (t := .int) (t' := .int) (by decide) (by decide)))
    have f72 := f58.other W67 (Or.inr (slot_ne (Or.inl (hw _ (List.mem_of_getElem? (i := 67) rfl))) (Or.inl (hw _ (List.mem_of_getElem? (i := 69) rfl))) (by decide) (t := .int) (t' := .int) (by decide) (by decide)))
    have f73 := f63.other W67 (Or.inr (slot_ne (Or.inr (hw _ (List.mem_of_getElem? (i := 58) rfl))) (Or.inl (hw _ (List.mem_of_getElem? (i := 69) rfl))) (by decide) (t := .boolean) (t' := .int) (by decide) (by decide)))
    have f74 := f64.wr W67 (Or.inl (List.mem_of_getElem? (i := 0) rfl))
    have f75 := f65.other W67 (Or.inr (slot_ne (Or.inl (hw _ (List.mem_of_getElem? (i := 127) rfl))) (Or.inl (hw _ (List.mem_of_getElem? (i := 69) rfl))) (by decide) (t := (.array .char)) (t' := .int) (by decide) (by decide)))
    have f76 := f66.other W67 Pne
    have N67 := Fr.snoc X67 N57 Pau
    have Z67 := own_size_wr W67 Z57
    show own_Go _ _ _ _ (T67.setTop (mkF m 20 #[.val (.ref au), .val (.ref a1), .val (.int p1)] []))
    exact own_retV X67 hx Bd.notSynchronized e67 Bd.returns (hb hby d12_20) (⟨rfl, N67, f74, ⟨f69, f70, f71, f72, f68, f73, Pue, Or.inr ⟨f75, f76, Pne⟩⟩⟩) (by decide) (by decide)
theorem own_n00 {n : Nat} {ax gx lx : Int32} (O : own_OK n ax gx lx) (h : lx = 0) : ¬ gx < lx := fun q => by
  have q := Int32.lt_iff_toInt_lt.mp q
  have l : (0 : Int32).toInt = 0 := by decide
  subst h; have := O.2.2.1; omega
set_option maxRecDepth 65536 in
set_option maxHeartbeats 40000000 in
theorem rm13 (l : Launch) (Z : State) (a0 : Array Value) (hw : ∀ d ∈ tables_1, d.before a0 Z = true) (ws : List Jvm.Cond) (au : Addr) (a1 : Addr) (bv : Addr) (n : Nat) (z : Int32) (g : Nat → Int32) (cs : Int32) (wf : Value) (wx ax gx lx : Int32) (ea : Addr) (fe : Nat → Int32) (h0 : Heap) (n0 : Nat) (Z0 : n0 ≤ h0.size) (PU : own_US Z h0 au a1 wx ax gx lx ea fe) (PO : own_OK n ax gx lx) (PE : Exa Z h0 a1 "java/lang/String") (PFv : Fld Z h0 a1 "java/lang/String" "value" "[B" (.ref bv)) (PFc : Fld Z h0 a1 "java/lang/String" "coder" "B" (.int 0)) (PA : own_AI Z h0 bv .byte n g) (Pz : z = n.toInt32) (Pzi : z.toInt = (n : Int)) (PS : Sta Z h0 "java/lang/String" "COMPACT_STRINGS" "Z" (.int cs)) (Pcs : ¬ cs = 0) (PW : Sta Z h0 "jdk/internal/util/Preconditions" "SIOOBE_FORMATTER" "Ljava/util/function/BiFunction;" wf) (Pwf : wf.isRef = true) (Pau : n0 ≤ au) (P1u : a1 ≠ au) (Pbu : bv ≠ au) :
    MetFree l (⟨"com/example/libmakespan/libmakespan/OneLine$Units", "next", "()I"⟩ : MethodName) (head1 (Jvm.Cond.code (⟨"com/example/libmakespan/libmakespan/OneLine$Units", "next", "()I"⟩ : MethodName) prog_21_method_3_code 3 (some .int) :: ws) ({ frames := 5, cells := 3, slots := 74, locals := 110 } : Room)) (fun a U => a = #[(.ref au)] ∧ Z.Warmed39 U.vm ∧ U.heap = h0 ∧ CHv Z own_EL U.vm h0) (fun _ _ _ _ _ => True) (fun _ U o U' => ∃ vv LL, o = .returned vv ∧ own_ap (fun v h L => ∃ r ax' gx' lx' ea' fe', v = some (.int r) ∧ Fr n0 L ∧ Keep h0 h [au, ea] ∧ own_US Z h au a1 wx ax' gx' lx' ea' fe' ∧ own_NX n g wx ax gx lx fe r ax' gx' lx' fe') vv U'.heap LL ∧ CHr Z own_EL U.vm U.heap U'.vm U'.heap ∧ ReturnedEndW U o U' LL 3 74) := by
  refine MetFree.of_bodySF (plainFor_of_name pn_13) hisR ?_
  intro p e s m args below meth c s₁ Bd hml0 hP hK
  obtain ⟨rfl, hZ, hh, Hc⟩ := hP
  have hx := Bd.exec
  have hby := Bd.bytes
  have hml : c.maxLocals = 3 := hml0
  have hown : s.vm.findClass "com/example/libmakespan/libmakespan/OneLine$Units" = some m.cls := findClass_of_methodNamed Bd.named
  have hnm := (name_of_methodNamed Bd.named Bd.method).1
  have X0 : Stand p l e ({ frames := 5, cells := 3, slots := 74, locals := 110 } : Room) (s.setVm s.vm) m #[(.ref au)] below meth c s₁ [] 0 0 := Stand.of_body Bd
  have e0 : s₁.heap = h0 := by rw [← hh, Bd.state]; rfl
  have N0 := Fr.nil n0
  have hZ : Z.Warmed39 (s.setVm s.vm).vm := hZ
  have hown : (s.setVm s.vm).vm.findClass "com/example/libmakespan/libmakespan/OneLine$Units" = some m.cls := hown
  have hS0 : s.Since s.vm 0 := (State.WarmedH.refl s).since 0
  have k0 : 0 ≤ h0.size := Nat.zero_le _
  show own_Go p.tables e below (own_QH Z own_EL s (fun v h L => ∃ r ax' gx' lx' ea' fe', v = some (.int r) ∧ Fr n0 L ∧ Keep h0 h [au, ea] ∧ own_US Z h au a1 wx ax' gx' lx' ea' fe' ∧ own_NX n g wx ax gx lx fe r ax' gx' lx' fe') 3 74) (s₁.setTop (entryFrame m #[(.ref au)] 3))
  rw [show entryFrame m #[(.ref au)] 3 = mkF m 0 #[.val (.ref au), .unset, .unset] [] from by first | (simp [entryFrame, mkF, argsToLocals, Value.category]; done) | rfl]
  obtain ⟨PEu, PFt, PFa, PFg, PFl, PFw, Pue, Pes⟩ := PU
  rcases Pes with ⟨PFe, Peu, Pl0⟩ | ⟨PFe, PAe, Pne⟩
  · --
    show own_Go _ _ _ _ (s₁.setTop (mkF m 0 #[.val (.ref au), .unset, .unset] []))
    refine own_by (fun _ k => XS.aloadN X0.here hx rfl (hb hby d13_0) rfl rfl k) ?_
    show own_Go _ _ _ _ (s₁.setTop (mkF m 1 #[.val (.ref au), .unset, .unset] [(.ref au)]))
    obtain ⟨T1, X1, e1, st1⟩ := getF X0 hx hZ hown (host := "") (Or.inl (hw _ (List.mem_of_getElem? (i := 66) rfl))) Via.refl e0 PFg (g := (mkF m 1 #[.val (.ref au), .unset, .unset] [(.ref au)])) rfl rfl (hb hby d13_1)
    refine own_by st1 ?_
    refine own_by (fun _ k => XS.aloadN X1.here hx rfl (hb hby d13_4) rfl rfl k) ?_
    show own_Go _ _ _ _ (T1.setTop (mkF m 5 #[.val (.ref au), .unset, .unset] [(.ref au), (.int gx)]))
    obtain ⟨T2, X2, e2, st2⟩ := getF X1 hx hZ hown (host := "") (Or.inl (hw _ (List.mem_of_getElem? (i := 68) rfl))) Via.refl e1 PFl (g := (mkF m 5 #[.val (.ref au), .unset, .unset] [(.ref au), (.int gx)])) rfl rfl (hb hby d13_5)
    refine own_by st2 ?_
    show own_Go _ _ _ _ (T2.setTop (mkF m 8 #[.val (.ref au), .unset, .unset] [(.int lx), (.int gx)]))
    by_cases hc3 : gx < lx
    · --
      refine own_by (fun _ k => XS.icmpNo X2.here hx rfl (hb hby d13_8) rfl (tlt hc3).2.1 k) ?_
      exact absurd hc3 (own_n00 PO Pl0)
    · --
      refine own_by (fun _ k => XS.icmpYes X2.here hx rfl (pc0 := 8) (pc' := 28) rfl (hb hby d13_8) rfl (flt hc3).2.1 (by decide) (by decide) k) ?_
      refine own_by (fun _ k => XS.aloadN X2.here hx rfl (hb hby d13_28) rfl rfl k) ?_
      show own_Go _ _ _ _ (T2.setTop (mkF m 29 #[.val (.ref au), .unset, .unset] [(.ref au)]))
      obtain ⟨T4, X4, e4, st4⟩ := getF X2 hx hZ hown (host := "") (Or.inl (hw _ (List.mem_of_getElem? (i := 64) rfl))) Via.refl e2 PFa (g := (mkF m 29 #[.val (.ref au), .unset, .unset] [(.ref au)])) rfl rfl (hb hby d13_29)
      refine own_by st4 ?_
      refine own_by (fun _ k => XS.aloadN X4.here hx rfl (hb hby d13_32) rfl rfl k) ?_
      show own_Go _ _ _ _ (T4.setTop (mkF m 33 #[.val (.ref au), .unset, .unset] [(.ref au), (.int ax)]))
      obtain ⟨T5, X5, e5, st5⟩ := getF X4 hx hZ hown (host := "") (Or.inl (hw _ (List.mem_of_getElem? (i := 55) rfl))) Via.refl e4 PFt (g := (mkF m 33 #[.val (.ref au), .unset, .unset] [(.ref au), (.int ax)])) rfl rfl (hb hby d13_33)
      refine own_by st5 ?_
      show own_Go _ _ _ _ (T5.setTop (mkF m 36 #[.val (.ref au), .unset, .unset] [(.ref a1), (.int ax)]))
      refine own_callV X5 hx hZ hown (hw _ (List.mem_of_getElem? (i := 75) rfl)) (hw _ (List.mem_of_getElem? (i := 76) rfl)) (notFace_of_selects (args := #[]) (mvT hZ (hw _ (List.mem_of_getElem? (i := 78) rfl)))) (hw _ (List.mem_of_getElem? (i := 78) rfl)) (hw _ (List.mem_of_getElem? (i := 77) rfl)) (hw _ (List.mem_of_getElem? (i := 4) rfl)) (hw _ (List.mem_of_getElem? (i := 79) rfl)) (by decide) (rm14 l Z a0 hw [] a1 bv n z g cs h0 n0 Z0 PE PFv PFc PA Pz Pzi PS Pcs) e5 a1 PE (by rw [hml]; rfl) [] [(.int ax)] rfl (lenOf own_pd13 rfl) rfl 1 (Nat.le_of_eq rfl) (by decide) (by decide) (Nat.le_of_ble_eq_true rfl) (Nat.le_of_ble_eq_true rfl) (hb hby d13_36) ?_
      intro T6 Lc6 v6 X6 hQ6
      obtain ⟨rfl, N6q, e6⟩ := hQ6
      have N6 := Fr.app N0 N6q
      show own_Go _ _ _ _ (T6.setTop (mkF m 39 #[.val (.ref au), .unset, .unset] [(.int z), (.int ax)]))
      by_cases hc7 : ax = z
      · --
        refine own_by (fun _ k => XS.icmpNo X6.here hx rfl (hb hby d13_39) rfl (teq hc7).2 k) ?_
        refine own_by (fun _ k => XS.iconst X6.here hx rfl (hb hby d13_42) k) ?_
        show own_Go _ _ _ _ (T6.setTop (mkF m 43 #[.val (.ref au), .unset, .unset] [(.int (-1 : Int32))]))
        exact own_retHI X6 hx Bd.notSynchronized e6 Bd.returns hS0 k0 hZ (own_EW hw) hh (CHr.refl Hc) (hb hby d13_43) (⟨_, _, _, _, ea, fe, rfl, N6, (Keep.refl h0 [au, ea]), ⟨PEu, PFt, PFa, PFg, PFl, PFw, Pue, Or.inl ⟨PFe, Peu, Pl0⟩⟩, Or.inr (Or.inl ⟨hc3, by rw [hc7]; exact Pzi, rfl, rfl, rfl, rfl, rfl⟩)⟩) (by decide) (by decide)
      · --
        refine own_by (fun _ k => XS.icmpYes X6.here hx rfl (pc0 := 39) (pc' := 44) rfl (hb hby d13_39) rfl (feq hc7).2 (by decide) (by decide) k) ?_
        obtain ⟨kx, Pk, Pkn⟩ := PO.atx Pzi hc7
        refine own_by (fun _ k => XS.aloadN X6.here hx rfl (hb hby d13_44) rfl rfl k) ?_
        show own_Go _ _ _ _ (T6.setTop (mkF m 45 #[.val (.ref au), .unset, .unset] [(.ref au)]))
        obtain ⟨T8, X8, e8, st8⟩ := getF X6 hx hZ hown (host := "") (Or.inl (hw _ (List.mem_of_getElem? (i := 55) rfl))) Via.refl e6 PFt (g := (mkF m 45 #[.val (.ref au), .unset, .unset] [(.ref au)])) rfl rfl (hb hby d13_45)
        refine own_by st8 ?_
        refine own_by (fun _ k => XS.aloadN X8.here hx rfl (hb hby d13_48) rfl rfl k) ?_
        show own_Go _ _ _ _ (T8.setTop (mkF m 49 #[.val (.ref au), .unset, .unset] [(.ref au), (.ref a1)]))
        obtain ⟨T9, X9, e9, st9⟩ := getF X8 hx hZ hown (host := "") (Or.inl (hw _ (List.mem_of_getElem? (i := 64) rfl))) Via.refl e8 PFa (g := (mkF m 49 #[.val (.ref au), .unset, .unset] [(.ref au), (.ref a1)])) rfl rfl (hb hby d13_49)
        refine own_by st9 ?_
        show own_Go _ _ _ _ (T9.setTop (mkF m 52 #[.val (.ref au), .unset, .unset] [(.int ax), (.ref a1)]))
        refine own_callV X9 hx hZ hown (hw _ (List.mem_of_getElem? (i := 85) rfl)) (hw _ (List.mem_of_getElem? (i := 86) rfl)) (notFace_of_selects (args := #[]) (mvT hZ (hw _ (List.mem_of_getElem? (i := 88) rfl)))) (hw _ (List.mem_of_getElem? (i := 88) rfl)) (hw _ (List.mem_of_getElem? (i := 87) rfl)) (hw _ (List.mem_of_getElem? (i := 4) rfl)) (hw _ (List.mem_of_getElem? (i := 89) rfl)) (by decide) (rm16 l Z a0 hw [] a1 ax bv n z g cs wf kx h0 n0 Z0 PE PFv PFc PA Pz Pzi PS Pcs PW Pwf Pk Pkn) e9 a1 PE (by rw [hml]; rfl) [(.int ax)] [] rfl (lenOf own_pd15 rfl) rfl 0 (Nat.le_of_eq rfl) (by decide) (by decide) (Nat.le_of_ble_eq_true rfl) (Nat.le_of_ble_eq_true rfl) (hb hby d13_52) ?_
        intro T10 Lc10 v10 X10 hQ10
        obtain ⟨rfl, N10q, e10⟩ := hQ10
        have N10 := Fr.app N6 N10q
        show own_Go _ _ _ _ (T10.setTop (mkF m 55 #[.val (.ref au), .unset, .unset] [(.int (own_cv (g kx)))]))
        obtain ⟨v1_11, hv1_11⟩ : ∃ z_ : Int32, (own_cv (g kx)) = z_ := ⟨_, rfl⟩
        refine own_gen hv1_11 (fun z_ => T10.setTop (mkF m 55 #[.val (.ref au), .unset, .unset] [(.int z_)])) ?_
        refine own_by (fun _ k => XS.istoreN X10.here hx rfl (hb hby d13_55) rfl (l' := #[.val (.ref au), .val (.int v1_11), .unset]) rfl k) ?_
        refine own_by (fun _ k => XS.aloadN X10.here hx rfl (hb hby d13_56) rfl rfl k) ?_
        show own_Go _ _ _ _ (T10.setTop (mkF m 57 #[.val (.ref au), .val (.int v1_11), .unset] [(.ref au)]))
        obtain ⟨T12, X12, e12, st12⟩ := getF X10 hx hZ hown (host := "") (Or.inl (hw _ (List.mem_of_getElem? (i := 55) rfl))) Via.refl e10 PFt (g := (mkF m 57 #[.val (.ref au), .val (.int v1_11), .unset] [(.ref au)])) rfl rfl (hb hby d13_57)
        refine own_by st12 ?_
        refine own_by (fun _ k => XS.aloadN X12.here hx rfl (hb hby d13_60) rfl rfl k) ?_
        show own_Go _ _ _ _ (T12.setTop (mkF m 61 #[.val (.ref au), .val (.int v1_11), .unset] [(.ref au), (.ref a1)]))
        refine own_by (fun _ k => XS.dup X12.here hx rfl (hb hby d13_61) rfl rfl k) ?_
        show own_Go _ _ _ _ (T12.setTop (mkF m 62 #[.val (.ref au), .val (.int v1_11), .unset] [(.ref au), (.ref au), (.ref a1)]))
        obtain ⟨T13, X13, e13, st13⟩ := getF X12 hx hZ hown (host := "") (Or.inl (hw _ (List.mem_of_getElem? (i := 64) rfl))) Via.refl e12 PFa (g := (mkF m 62 #[.val (.ref au), .val (.int v1_11), .unset] [(.ref au), (.ref au), (.ref a1)])) rfl rfl (hb hby d13_62)
        refine own_by st13 ?_
        show own_Go _ _ _ _ (T13.setTop (mkF m 65 #[.val (.ref au), .val (.int v1_11), .unset] [(.int ax), (.ref au), (.ref a1)]))
        refine own_by (fun _ k => XS.dupX1 X13.here hx rfl (hb hby d13_65) rfl rfl rfl k) ?_
        refine own_by (fun _ k => XS.iconst X13.here hx rfl (hb hby d13_66) k) ?_
        show own_Go _ _ _ _ (T13.setTop (mkF m 67 #[.val (.ref au), .val (.int v1_11), .unset] [(.int (1 : Int32)), (.int ax), (.ref au), (.int ax), (.ref a1)]))
        refine own_by (fun _ k => XS.iadd X13.here hx rfl (hb hby d13_67) rfl k) ?_
        show own_Go _ _ _ _ (T13.setTop (mkF m 68 #[.val (.ref au), .val (.int v1_11), .unset] [(.int (ax + (1 : Int32))), (.ref au), (.int ax), (.ref a1)]))
        obtain ⟨T14, h14, X14, e14, W14, st14⟩ := putF X13 hx hZ hown (host := "") (Or.inl (hw _ (List.mem_of_getElem? (i := 64) rfl))) Via.refl e13 PFa PEu (Or.inl (hw _ (List.mem_of_getElem? (i := 65) rfl))) (hw _ (List.mem_of_getElem? (i := 46) rfl)) (ty := .int) (by decide) rfl rfl (g := (mkF m 68 #[.val (.ref au), .val (.int v1_11), .unset] [(.int (ax + (1 : Int32))), (.ref au), (.int ax), (.ref a1)])) rfl rfl (hb hby d13_68)
        refine own_by st14 ?_
        have f15 := PFa.same W14
        have CH14 := (CHr.refl Hc).trans (CHr.wr W14 (Safe.exa hZ.alike PEu (by decide) (by decide)) (CHr.refl Hc).1)
        have f16 := PE.wr W14
        have f17 := PFv.other W14 (Or.inl P1u)
        have f18 := PFc.other W14 (Or.inl P1u)
        have f19 := PA.other W14 Pbu
        have f20 := PS.wr W14
        have f21 := PW.wr W14
        have f22 := PEu.wr W14
        have f23 := PFt.other W14 (Or.inr (slot_ne (Or.inl (hw _ (List.mem_of_getElem? (i := 56) rfl))) (Or.inl (hw _ (List.mem_of_getElem? (i := 65) rfl))) (by decide) (t := (.object "java/lang/String")) (t' := .int) (by decide) (by decide)))
        have f24 := PFg.other W14 (Or.inr (slot_ne (Or.inl (hw _ (List.mem_of_getElem? (i := 67) rfl))) (Or.inl (hw _ (List.mem_of_getElem? (i := 65) rfl))) (by decide) (t := .int) (t' := .int) (by decide) (by decide)))
        have f25 := PFl.other W14 (Or.inr (slot_ne (Or.inl (hw _ (List.mem_of_getElem? (i := 69) rfl))) (Or.inl (hw _ (List.mem_of_getElem? (i := 65) rfl))) (by decide) (t := .int) (t' := .int) (by decide) (by decide)))
        have f26 := PFw.other W14 (Or.inr (slot_ne (Or.inr (hw _ (List.mem_of_getElem? (i := 58) rfl))) (Or.inl (hw _ (List.mem_of_getElem? (i := 65) rfl))) (by decide) (t := .boolean) (t' := .int) (by decide) (by decide)))
        have f27 := (Keep.refl h0 [au, ea]).wr W14 (Or.inl (List.mem_of_getElem? (i := 0) rfl))
        have f28 := PFe.other W14 (Or.inr (slot_ne (Or.inl (hw _ (List.mem_of_getElem? (i := 127) rfl))) (Or.inl (hw _ (List.mem_of_getElem? (i := 65) rfl))) (by decide) (t := (.array .char)) (t' := .int) (by decide) (by decide)))
        have N14 := Fr.snoc X14 N10 Pau
        have Z14 := own_size_wr W14 Z0
        have ks14 := own_size_wr W14 k0
        show own_Go _ _ _ _ (T14.setTop (mkF m 71 #[.val (.ref au), .val (.int v1_11), .unset] [(.int ax), (.ref a1)]))
        refine own_by (fun _ k => XS.aloadN X14.here hx rfl (hb hby d13_71) rfl rfl k) ?_
        show own_Go _ _ _ _ (T14.setTop (mkF m 72 #[.val (.ref au), .val (.int v1_11), .unset] [(.ref au), (.int ax), (.ref a1)]))
        obtain ⟨T29, X29, e29, st29⟩ := getF X14 hx hZ hown (host := "") (Or.inl (hw _ (List.mem_of_getElem? (i := 57) rfl))) Via.refl e14 f26 (g := (mkF m 72 #[.val (.ref au), .val (.int v1_11), .unset] [(.ref au), (.int ax), (.ref a1)])) rfl rfl (hb hby d13_72)
        refine own_by st29 ?_
        show own_Go _ _ _ _ (T29.setTop (mkF m 75 #[.val (.ref au), .val (.int v1_11), .unset] [(.int wx), (.int ax), (.ref a1)]))
        refine own_callSN X29 hx hZ hown (hw _ (List.mem_of_getElem? (i := 106) rfl)) (hw _ (List.mem_of_getElem? (i := 107) rfl)) (hw _ (List.mem_of_getElem? (i := 108) rfl)) (hw _ (List.mem_of_getElem? (i := 109) rfl)) (by decide) (rm21 l Z a0 hw [] a1 ax wx bv n z g cs wf kx h14 n0 Z14 f16 f17 f18 f19 Pz Pzi f20 Pcs f21 Pwf Pk Pkn) e29 (by rw [hml]; rfl) [(.ref a1), (.int ax), (.int wx)] [] rfl (lenOf own_pd20 rfl) rfl 0 (Nat.le_of_eq rfl) (by decide) (by decide) (Nat.le_of_ble_eq_true rfl) (Nat.le_of_ble_eq_true rfl) (hb hby d13_75) ?_
        intro T30 Lc30 v30 X30 hQ30
        obtain ⟨rfl, N30q, e30⟩ := hQ30
        have N30 := Fr.app N14 N30q
        show own_Go _ _ _ _ (T30.setTop (mkF m 78 #[.val (.ref au), .val (.int v1_11), .unset] [(.int (own_es (own_cv (g kx)) wx))]))
        by_cases hc31 : (own_es (own_cv (g kx)) wx) = (0 : Int32)
        · --
          refine own_by (fun _ k => XS.ifNo X30.here hx rfl (hb hby d13_78) rfl ((if0 _ _).trans (teq hc31).2) k) ?_
          refine own_by (fun _ k => XS.iloadN X30.here hx rfl (hb hby d13_81) rfl k) ?_
          show own_Go _ _ _ _ (T30.setTop (mkF m 82 #[.val (.ref au), .val (.int v1_11), .unset] [(.int v1_11)]))
          exact own_retHI X30 hx Bd.notSynchronized e30 Bd.returns hS0 ks14 hZ (own_EW hw) hh CH14 (hb hby d13_82) (⟨_, _, _, _, ea, fe, rfl, N30, f27, ⟨f22, f23, f15, f24, f25, f26, Pue, Or.inl ⟨f28, Peu, Pl0⟩⟩, Or.inr (Or.inr ⟨hc3, kx, Pk, Pkn, rfl, Or.inl ⟨hc31, hv1_11.symm, rfl, rfl, rfl⟩⟩)⟩) (by decide) (by decide)
        · --
          refine own_by (fun _ k => XS.ifYes X30.here hx rfl (pc0 := 78) (pc' := 83) rfl (hb hby d13_78) rfl ((if0 _ _).trans (feq hc31).2) (by decide) (by decide) k) ?_
          refine own_by (fun _ k => XS.aloadN X30.here hx rfl (hb hby d13_83) rfl rfl k) ?_
          show own_Go _ _ _ _ (T30.setTop (mkF m 84 #[.val (.ref au), .val (.int v1_11), .unset] [(.ref au)]))
          obtain ⟨T32, X32, e32, st32⟩ := getF X30 hx hZ hown (host := "") (Or.inl (hw _ (List.mem_of_getElem? (i := 126) rfl))) Via.refl e30 f28 (g := (mkF m 84 #[.val (.ref au), .val (.int v1_11), .unset] [(.ref au)])) rfl rfl (hb hby d13_84)
          refine own_by st32 ?_
          show own_Go _ _ _ _ (T32.setTop (mkF m 87 #[.val (.ref au), .val (.int v1_11), .unset] [.null]))
          refine own_by (fun _ k => XS.ifnonnullNo X32.here hx rfl (hb hby d13_87) rfl k) ?_
          refine own_by (fun _ k => XS.aloadN X32.here hx rfl (hb hby d13_90) rfl rfl k) ?_
          refine own_by (fun _ k => XS.bipush X32.here hx rfl (hb hby d13_91) k) ?_
          show own_Go _ _ _ _ (T32.setTop (mkF m 93 #[.val (.ref au), .val (.int v1_11), .unset] [(.int (6 : Int32)), (.ref au)]))
          refine own_newP X32 hx hZ (hw _ (List.mem_of_getElem? (i := 1) rfl)) e32 6 (by decide) 6 (by decide) (by decide) (by decide) (by decide) (hb hby d13_93) ?_
          intro T33 h33 X33 e33 E33 A33
          show own_Go _ _ _ _ (T33.setTop (mkF m 95 #[.val (.ref au), .val (.int v1_11), .unset] [.ref h14.size, (.ref au)]))
          obtain ⟨b33, g33⟩ : ∃ z, z = h14.size := ⟨_, rfl⟩
          rw [← g33] at A33
          refine own_gen g33.symm (fun z_ => T33.setTop (mkF m 95 #[.val (.ref au), .val (.int v1_11), .unset] [.ref z_, (.ref au)])) ?_
          have ne34 : au ≠ b33 := Nat.ne_of_lt (Nat.lt_of_lt_of_le f28.lt (Nat.le_of_eq g33.symm))
          have ge33 : n0 ≤ b33 := Nat.le_trans Z14 (Nat.le_of_eq g33.symm)
          have nw33 : h0.size ≤ b33 := Nat.le_trans f27.1 (Nat.le_of_eq g33.symm)
          have CH33 := CH14.trans (CHr.ext E33 CH14.1)
          have f35 := f20.ext E33
          have f36 := f21.ext E33
          have f37 := f22.ext E33
          have f38 := f23.ext E33
          have f39 := f15.ext E33
          have f40 := f24.ext E33
          have f41 := f25.ext E33
          have f42 := f26.ext E33
          have f43 := f27.ext E33
          have f44 := f28.ext E33
          have Z33 := Nat.le_trans Z14 E33.1
          have ks33 := Nat.le_trans ks14 E33.1
          have f45 : own_AI Z h33 b33 .char 6 (fun _ => 0) := A33
          show own_Go _ _ _ _ (T33.setTop (mkF m 95 #[.val (.ref au), .val (.int v1_11), .unset] [(.ref b33), (.ref au)]))
          obtain ⟨T46, h46, X46, e46, W46, st46⟩ := putF X33 hx hZ hown (host := "") (Or.inl (hw _ (List.mem_of_getElem? (i := 126) rfl))) Via.refl e33 f44 f37 (Or.inl (hw _ (List.mem_of_getElem? (i := 127) rfl))) (hw _ (List.mem_of_getElem? (i := 46) rfl)) (ty := (.array .char)) (by decide) rfl rfl (g := (mkF m 95 #[.val (.ref au), .val (.int v1_11), .unset] [(.ref b33), (.ref au)])) rfl rfl (hb hby d13_95)
          refine own_by st46 ?_
          have f47 := f44.same W46
          have CH46 := CH33.trans (CHr.wr W46 (Safe.exa hZ.alike f37 (by decide) (by decide)) CH33.1)
          have f48 := f35.wr W46
          have f49 := f36.wr W46
          have f50 := f37.wr W46
          have f51 := f38.other W46 (Or.inr (slot_ne (Or.inl (hw _ (List.mem_of_getElem? (i := 56) rfl))) (Or.inl (hw _ (List.mem_of_getElem? (i := 127) rfl))) (by decide) (t := (.object "java/lang/String")) (t' := (.array .char)) (by decide) (by decide)))
          have f52 := f39.other W46 (Or.inr (slot_ne (Or.inl (hw _ (List.mem_of_getElem? (i := 65) rfl))) (Or.inl (hw _ (List.mem_of_getElem? (i := 127) rfl))) (by decide) (t := .int) (t' := (.array .char)) (by decide) (by decide)))
          have f53 := f40.other W46 (Or.inr (slot_ne (Or.inl (hw _ (List.mem_of_getElem? (i := 67) rfl))) (Or.inl (hw _ (List.mem_of_getElem? (i := 127) rfl))) (by decide) (t := .int) (t' := (.array .char)) (by decide) (by decide)))
          have f54 := f41.other W46 (Or.inr (slot_ne (Or.inl (hw _ (List.mem_of_getElem? (i := 69) rfl))) (Or.inl (hw _ (List.mem_of_getElem? (i := 127) rfl))) (by decide) (t := .int) (t' := (.array .char)) (by decide) (by decide)))
          have f55 := f42.other W46 (Or.inr (slot_ne (Or.inr (hw _ (List.mem_of_getElem? (i := 58) rfl))) (Or.inl (hw _ (List.mem_of_getElem? (i := 127) rfl))) (by decide) (t := .boolean) (t' := (.array .char)) (by decide) (by decide)))
          have f56 := f43.wr W46 (Or.inl (List.mem_of_getElem? (i := 0) rfl))
          have f57 := f45.other W46 (Ne.symm ne34)
          have N46 := Fr.snoc X46 N30 Pau
          have Z46 := own_size_wr W46 Z33
          have ks46 := own_size_wr W46 ks33
          show own_Go _ _ _ _ (T46.setTop (mkF m 98 #[.val (.ref au), .val (.int v1_11), .unset] []))
          refine own_by (fun _ k => XS.aloadN X46.here hx rfl (hb hby d13_98) rfl rfl k) ?_
          show own_Go _ _ _ _ (T46.setTop (mkF m 99 #[.val (.ref au), .val (.int v1_11), .unset] [(.ref au)]))
          obtain ⟨T58, X58, e58, st58⟩ := getF X46 hx hZ hown (host := "") (Or.inl (hw _ (List.mem_of_getElem? (i := 126) rfl))) Via.refl e46 f47 (g := (mkF m 99 #[.val (.ref au), .val (.int v1_11), .unset] [(.ref au)])) rfl rfl (hb hby d13_99)
          refine own_by st58 ?_
          refine own_by (fun _ k => XS.iconst X58.here hx rfl (hb hby d13_102) k) ?_
          refine own_by (fun _ k => XS.bipush X58.here hx rfl (hb hby d13_103) k) ?_
          show own_Go _ _ _ _ (T58.setTop (mkF m 105 #[.val (.ref au), .val (.int v1_11), .unset] [(.int (92 : Int32)), (.int (0 : Int32)), (.ref b33)]))
          refine own_cas X58 hx hZ e58 f57 0 (by decide) (by decide) (hb hby d13_105) ?_
          intro T59 h59 X59 e59 W59 A59
          have CH59 := CH46.trans (CHr.wr W59 (own_safe hZ.alike f57 (by decide)) CH46.1)
          have f60 := f48.wr W59
          have f61 := f49.wr W59
          have f62 := f50.wr W59
          have f63 := f51.other W59 (Or.inl ne34)
          have f64 := f52.other W59 (Or.inl ne34)
          have f65 := f53.other W59 (Or.inl ne34)
          have f66 := f54.other W59 (Or.inl ne34)
          have f67 := f55.other W59 (Or.inl ne34)
          have f68 := f56.wr W59 (Or.inr nw33)
          have f69 := f47.other W59 (Or.inl ne34)
          have N59 := Fr.snoc X59 N46 ge33
          have Z59 := own_size_wr W59 Z46
          have ks59 := own_size_wr W59 ks46
          obtain ⟨fn59, hfn59⟩ : ∃ gf_ : Nat → Int32, gf_ = own_upd (fun _ => 0) 0 (nar .char (92 : Int32)) := ⟨_, rfl⟩
          rw [← hfn59] at A59
          show own_Go _ _ _ _ (T59.setTop (mkF m 106 #[.val (.ref au), .val (.int v1_11), .unset] []))
          refine own_by (fun _ k => XS.iloadN X59.here hx rfl (hb hby d13_106) rfl k) ?_
          refine own_by (fun _ k => XS.bipush X59.here hx rfl (hb hby d13_107) k) ?_
          show own_Go _ _ _ _ (T59.setTop (mkF m 109 #[.val (.ref au), .val (.int v1_11), .unset] [(.int (92 : Int32)), (.int v1_11)]))
          by_cases hc70 : v1_11 = (92 : Int32)
          · --
            refine own_by (fun _ k => XS.icmpNo X59.here hx rfl (hb hby d13_109) rfl (teq hc70).2 k) ?_
            refine own_by (fun _ k => XS.aloadN X59.here hx rfl (hb hby d13_112) rfl rfl k) ?_
            show own_Go _ _ _ _ (T59.setTop (mkF m 113 #[.val (.ref au), .val (.int v1_11), .unset] [(.ref au)]))
            obtain ⟨T71, X71, e71, st71⟩ := getF X59 hx hZ hown (host := "") (Or.inl (hw _ (List.mem_of_getElem? (i := 126) rfl))) Via.refl e59 f69 (g := (mkF m 113 #[.val (.ref au), .val (.int v1_11), .unset] [(.ref au)])) rfl rfl (hb hby d13_113)
            refine own_by st71 ?_
            refine own_by (fun _ k => XS.iconst X71.here hx rfl (hb hby d13_116) k) ?_
            refine own_by (fun _ k => XS.bipush X71.here hx rfl (hb hby d13_117) k) ?_
            show own_Go _ _ _ _ (T71.setTop (mkF m 119 #[.val (.ref au), .val (.int v1_11), .unset] [(.int (92 : Int32)), (.int (1 : Int32)), (.ref b33)]))
            refine own_cas X71 hx hZ e71 A59 1 (by decide) (by decide) (hb hby d13_119) ?_
            intro T72 h72 X72 e72 W72 A72
            have CH72 := CH59.trans (CHr.wr W72 (own_safe hZ.alike A59 (by decide)) CH59.1)
            have f73 := f60.wr W72
            have f74 := f61.wr W72
            have f75 := f62.wr W72
            have f76 := f63.other W72 (Or.inl ne34)
            have f77 := f64.other W72 (Or.inl ne34)
            have f78 := f65.other W72 (Or.inl ne34)
            have f79 := f66.other W72 (Or.inl ne34)
            have f80 := f67.other W72 (Or.inl ne34)
            have f81 := f68.wr W72 (Or.inr nw33)
            have f82 := f69.other W72 (Or.inl ne34)
            have N72 := Fr.snoc X72 N59 ge33
            have Z72 := own_size_wr W72 Z59
            have ks72 := own_size_wr W72 ks59
            obtain ⟨fn72, hfn72⟩ : ∃ gf_ : Nat → Int32, gf_ = own_upd fn59 1 (nar .char (92 : Int32)) := ⟨_, rfl⟩
            rw [← hfn72] at A72
            show own_Go _ _ _ _ (T72.setTop (mkF m 120 #[.val (.ref au), .val (.int v1_11), .unset] []))
            refine own_by (fun _ k => XS.aloadN X72.here hx rfl (hb hby d13_120) rfl rfl k) ?_
            refine own_by (fun _ k => XS.iconst X72.here hx rfl (hb hby d13_121) k) ?_
            show own_Go _ _ _ _ (T72.setTop (mkF m 122 #[.val (.ref au), .val (.int v1_11), .unset] [(.int (2 : Int32)), (.ref au)]))
            obtain ⟨T83, h83, X83, e83, W83, st83⟩ := putF X72 hx hZ hown (host := "") (Or.inl (hw _ (List.mem_of_getElem? (i := 68) rfl))) Via.refl e72 f79 f75 (Or.inl (hw _ (List.mem_of_getElem? (i := 69) rfl))) (hw _ (List.mem_of_getElem? (i := 46) rfl)) (ty := .int) (by decide) rfl rfl (g := (mkF m 122 #[.val (.ref au), .val (.int v1_11), .unset] [(.int (2 : Int32)), (.ref au)])) rfl rfl (hb hby d13_122)
            refine own_by st83 ?_
            have f84 := f79.same W83
            have CH83 := CH72.trans (CHr.wr W83 (Safe.exa hZ.alike f75 (by decide) (by decide)) CH72.1)
            have f85 := f73.wr W83
            have f86 := f74.wr W83
            have f87 := f75.wr W83
            have f88 := f76.other W83 (Or.inr (slot_ne (Or.inl (hw _ (List.mem_of_getElem? (i := 56) rfl))) (Or.inl (hw _ (List.mem_of_getElem? (i := 69) rfl))) (by decide) (t := (.object "java/lang/String")) (t' := .int) (by decide) (by decide)))
            have f89 := f77.other W83 (Or.inr (slot_ne (Or.inl (hw _ (List.mem_of_getElem? (i := 65) rfl))) (Or.inl (hw _ (List.mem_of_getElem? (i := 69) rfl))) (by decide) (t := .int) (t' := .int) (by decide) (by decide)))
            have f90 := f78.other W83 (Or.inr (slot_ne (Or.inl (hw _ (List.mem_of_getElem? (i := 67) rfl))) (Or.inl (hw _ (List.mem_of_getElem? (i := 69) rfl))) (by decide) (t := .int) (t' := .int) (by decide) (by decide)))
            have f91 := f80.other W83 (Or.inr (slot_ne (Or.inr (hw _ (List.mem_of_getElem? (i := 58) rfl))) (Or.inl (hw _ (List.mem_of_getElem? (i := 69) rfl))) (by decide) (t := .boolean) (t' := .int) (by decide) (by decide)))
            have f92 := f81.wr W83 (Or.inl (List.mem_of_getElem? (i := 0) rfl))
            have f93 := f82.other W83 (Or.inr (slot_ne (Or.inl (hw _ (List.mem_of_getElem? (i := 127) rfl))) (Or.inl (hw _ (List.mem_of_getElem? (i := 69) rfl))) (by decide) (t := (.array .char)) (t' := .int) (by decide) (by decide)))
            have f94 := A72.other W83 (Ne.symm ne34)
            have N83 := Fr.snoc X83 N72 Pau
            have Z83 := own_size_wr W83 Z72
            have ks83 := own_size_wr W83 ks72
            show own_Go _ _ _ _ (T83.setTop (mkF m 125 #[.val (.ref au), .val (.int v1_11), .unset] []))
            refine own_by (fun _ k => XS.goto X83.here hx rfl (pc0 := 125) (pc' := 179) rfl (hb hby d13_125) (by decide) (by decide) k) ?_
            refine own_by (fun _ k => XS.aloadN X83.here hx rfl (hb hby d13_179) rfl rfl k) ?_
            refine own_by (fun _ k => XS.iconst X83.here hx rfl (hb hby d13_180) k) ?_
            show own_Go _ _ _ _ (T83.setTop (mkF m 181 #[.val (.ref au), .val (.int v1_11), .unset] [(.int (1 : Int32)), (.ref au)]))
            obtain ⟨T95, h95, X95, e95, W95, st95⟩ := putF X83 hx hZ hown (host := "") (Or.inl (hw _ (List.mem_of_getElem? (i := 66) rfl))) Via.refl e83 f90 f87 (Or.inl (hw _ (List.mem_of_getElem? (i := 67) rfl))) (hw _ (List.mem_of_getElem? (i := 46) rfl)) (ty := .int) (by decide) rfl rfl (g := (mkF m 181 #[.val (.ref au), .val (.int v1_11), .unset] [(.int (1 : Int32)), (.ref au)])) rfl rfl (hb hby d13_181)
            refine own_by st95 ?_
            have f96 := f90.same W95
            have CH95 := CH83.trans (CHr.wr W95 (Safe.exa hZ.alike f87 (by decide) (by decide)) CH83.1)
            have f97 := f85.wr W95
            have f98 := f86.wr W95
            have f99 := f87.wr W95
            have f100 := f88.other W95 (Or.inr (slot_ne (Or.inl (hw _ (List.mem_of_getElem? (i := 56) rfl))) (Or.inl (hw _ (List.mem_of_getElem? (i := 67) rfl))) (by decide) (t := (.object "java/lang/String")) (t' := .int) (by decide) (by decide)))
            have f101 := f89.other W95 (Or.inr (slot_ne (Or.inl (hw _ (List.mem_of_getElem? (i := 65) rfl))) (Or.inl (hw _ (List.mem_of_getElem? (i := 67) rfl))) (by decide) (t := .int) (t' := .int) (by decide) (by decide)))
            have f102 := f84.other W95 (Or.inr (slot_ne (Or.inl (hw _ (List.mem_of_getElem? (i := 69) rfl))) (Or.inl (hw _ (List.mem_of_getElem? (i := 67) rfl))) (by decide) (t := .int) (t' := .int) (by decide) (by decide)))
            have f103 := f91.other W95 (Or.inr (slot_ne (Or.inr (hw _ (List.mem_of_getElem? (i := 58) rfl))) (Or.inl (hw _ (List.mem_of_getElem? (i := 67) rfl))) (by decide) (t := .boolean) (t' := .int) (by decide) (by decide)))
            have f104 := f92.wr W95 (Or.inl (List.mem_of_getElem? (i := 0) rfl))
            have f105 := f93.other W95 (Or.inr (slot_ne (Or.inl (hw _ (List.mem_of_getElem? (i := 127) rfl))) (Or.inl (hw _ (List.mem_of_getElem? (i := 67) rfl))) (by decide) (t := (.array .char)) (t' := .int) (by decide) (by decide)))
            have f106 := f94.other W95 (Ne.symm ne34)
            have N95 := Fr.snoc X95 N83 Pau
            have Z95 := own_size_wr W95 Z83
            have ks95 := own_size_wr W95 ks83
            show own_Go _ _ _ _ (T95.setTop (mkF m 184 #[.val (.ref au), .val (.int v1_11), .unset] []))
            refine own_by (fun _ k => XS.aloadN X95.here hx rfl (hb hby d13_184) rfl rfl k) ?_
            show own_Go _ _ _ _ (T95.setTop (mkF m 185 #[.val (.ref au), .val (.int v1_11), .unset] [(.ref au)]))
            obtain ⟨T107, X107, e107, st107⟩ := getF X95 hx hZ hown (host := "") (Or.inl (hw _ (List.mem_of_getElem? (i := 126) rfl))) Via.refl e95 f105 (g := (mkF m 185 #[.val (.ref au), .val (.int v1_11), .unset] [(.ref au)])) rfl rfl (hb hby d13_185)
            refine own_by st107 ?_
            refine own_by (fun _ k => XS.iconst X107.here hx rfl (hb hby d13_188) k) ?_
            show own_Go _ _ _ _ (T107.setTop (mkF m 189 #[.val (.ref au), .val (.int v1_11), .unset] [(.int (0 : Int32)), (.ref b33)]))
            refine own_by (fun _ k => own_cal X107 hx hZ e107 f106 0 (by decide) (by decide) (hb hby d13_189) k) ?_
            show own_Go _ _ _ _ (T107.setTop (mkF m 190 #[.val (.ref au), .val (.int v1_11), .unset] [(.int (fn72 0))]))
            rw [show (fn72 0) = (nar .char (92 : Int32)) from by simp [own_upd, hfn72, hfn59]]
            show own_Go _ _ _ _ (T107.setTop (mkF m 190 #[.val (.ref au), .val (.int v1_11), .unset] [(.int (nar .char (92 : Int32)))]))
            exact own_retHI X107 hx Bd.notSynchronized e107 Bd.returns hS0 ks95 hZ (own_EW hw) hh CH95 (hb hby d13_190) (⟨_, _, _, _, b33, fn72, rfl, N95, f104, ⟨f99, f100, f101, f96, f102, f103, (Nat.le_trans (Nat.le_of_lt PEu.lt) nw33), Or.inr ⟨f105, f106, (Ne.symm ne34)⟩⟩, Or.inr (Or.inr ⟨hc3, kx, Pk, Pkn, rfl, Or.inr (Or.inl ⟨hc31, hv1_11.trans hc70, by rfl, rfl, rfl, by simp [own_upd, hfn72, hfn59, own_c92, own_c117, own_c48], by simp [own_upd, hfn72, hfn59, own_c92, own_c117, own_c48]⟩)⟩)⟩) (by decide) (by decide)
          · --
            refine own_by (fun _ k => XS.icmpYes X59.here hx rfl (pc0 := 109) (pc' := 128) rfl (hb hby d13_109) rfl (feq hc70).2 (by decide) (by decide) k) ?_
            refine own_by (fun _ k => XS.aloadN X59.here hx rfl (hb hby d13_128) rfl rfl k) ?_
            show own_Go _ _ _ _ (T59.setTop (mkF m 129 #[.val (.ref au), .val (.int v1_11), .unset] [(.ref au)]))
            obtain ⟨T108, X108, e108, st108⟩ := getF X59 hx hZ hown (host := "") (Or.inl (hw _ (List.mem_of_getElem? (i := 126) rfl))) Via.refl e59 f69 (g := (mkF m 129 #[.val (.ref au), .val (.int v1_11), .unset] [(.ref au)])) rfl rfl (hb hby d13_129)
            refine own_by st108 ?_
            refine own_by (fun _ k => XS.iconst X108.here hx rfl (hb hby d13_132) k) ?_
            refine own_by (fun _ k => XS.bipush X108.here hx rfl (hb hby d13_133) k) ?_
            show own_Go _ _ _ _ (T108.setTop (mkF m 135 #[.val (.ref au), .val (.int v1_11), .unset] [(.int (117 : Int32)), (.int (1 : Int32)), (.ref b33)]))
            refine own_cas X108 hx hZ e108 A59 1 (by decide) (by decide) (hb hby d13_135) ?_
            intro T109 h109 X109 e109 W109 A109
            have CH109 := CH59.trans (CHr.wr W109 (own_safe hZ.alike A59 (by decide)) CH59.1)
            have f110 := f60.wr W109
            have f111 := f61.wr W109
            have f112 := f62.wr W109
            have f113 := f63.other W109 (Or.inl ne34)
            have f114 := f64.other W109 (Or.inl ne34)
            have f115 := f65.other W109 (Or.inl ne34)
            have f116 := f66.other W109 (Or.inl ne34)
            have f117 := f67.other W109 (Or.inl ne34)
            have f118 := f68.wr W109 (Or.inr nw33)
            have f119 := f69.other W109 (Or.inl ne34)
            have N109 := Fr.snoc X109 N59 ge33
            have Z109 := own_size_wr W109 Z59
            have ks109 := own_size_wr W109 ks59
            obtain ⟨fn109, hfn109⟩ : ∃ gf_ : Nat → Int32, gf_ = own_upd fn59 1 (nar .char (117 : Int32)) := ⟨_, rfl⟩
            rw [← hfn109] at A109
            show own_Go _ _ _ _ (T109.setTop (mkF m 136 #[.val (.ref au), .val (.int v1_11), .unset] []))
            refine own_by (fun _ k => XS.iconst X109.here hx rfl (hb hby d13_136) k) ?_
            show own_Go _ _ _ _ (T109.setTop (mkF m 137 #[.val (.ref au), .val (.int v1_11), .unset] [(.int (0 : Int32))]))
            refine own_by (fun _ k => XS.istoreN X109.here hx rfl (hb hby d13_137) rfl (l' := #[.val (.ref au), .val (.int v1_11), .val (.int (0 : Int32))]) rfl k) ?_
            refine own_by (fun _ k => XS.iloadN X109.here hx rfl (hb hby d13_138) rfl k) ?_
            refine own_by (fun _ k => XS.iconst X109.here hx rfl (hb hby d13_139) k) ?_
            show own_Go _ _ _ _ (T109.setTop (mkF m 140 #[.val (.ref au), .val (.int v1_11), .val (.int (0 : Int32))] [(.int (4 : Int32)), (.int (0 : Int32))]))
            refine own_by (fun _ k => XS.icmpNo X109.here hx rfl (hb hby d13_140) rfl (tlt (by decide)).2.1 k) ?_
            refine own_by (fun _ k => XS.aloadN X109.here hx rfl (hb hby d13_143) rfl rfl k) ?_
            show own_Go _ _ _ _ (T109.setTop (mkF m 144 #[.val (.ref au), .val (.int v1_11), .val (.int (0 : Int32))] [(.ref au)]))
            obtain ⟨T120, X120, e120, st120⟩ := getF X109 hx hZ hown (host := "") (Or.inl (hw _ (List.mem_of_getElem? (i := 126) rfl))) Via.refl e109 f119 (g := (mkF m 144 #[.val (.ref au), .val (.int v1_11), .val (.int (0 : Int32))] [(.ref au)])) rfl rfl (hb hby d13_144)
            refine own_by st120 ?_
            refine own_by (fun _ k => XS.iconst X120.here hx rfl (hb hby d13_147) k) ?_
            refine own_by (fun _ k => XS.iloadN X120.here hx rfl (hb hby d13_148) rfl k) ?_
            show own_Go _ _ _ _ (T120.setTop (mkF m 149 #[.val (.ref au), .val (.int v1_11), .val (.int (0 : Int32))] [(.int (0 : Int32)), (.int (2 : Int32)), (.ref b33)]))
            refine own_by (fun _ k => XS.iadd X120.here hx rfl (hb hby d13_149) rfl k) ?_
            show own_Go _ _ _ _ (T120.setTop (mkF m 150 #[.val (.ref au), .val (.int v1_11), .val (.int (0 : Int32))] [(.int ((2 : Int32) + (0 : Int32))), (.ref b33)]))
            rw [(by decide : ((2 : Int32) + (0 : Int32)) = (2 : Int32))]
            show own_Go _ _ _ _ (T120.setTop (mkF m 150 #[.val (.ref au), .val (.int v1_11), .val (.int (0 : Int32))] [(.int (2 : Int32)), (.ref b33)]))
            refine own_ldcC X120 hx hZ hown (hw _ (List.mem_of_getElem? (i := 128) rfl)) (own_wS hw) e120 hS0 ks109 (own_EW hw) (by decide) CH109 _ 16 own_lit48_t (by decide) 16 (by decide) (by decide) own_lit48 own_lit48_f (hb hby d13_150) 64 (by decide) (by decide) (by decide) (by decide) ?_
            intro b121 T121 h121 kk121 bv121 X121 e121 E121 hS121 ks121 hZ hown CH121 EX121 FC121 FV121 AV121 Li121 SF121
            have f122 := f110.ext E121
            have f123 := f111.ext E121
            have f124 := f112.ext E121
            have f125 := f113.ext E121
            have f126 := f114.ext E121
            have f127 := f115.ext E121
            have f128 := f116.ext E121
            have f129 := f117.ext E121
            have f130 := f118.ext E121
            have f131 := f119.ext E121
            have f132 := A109.ext E121
            have Z121 := Nat.le_trans Z109 E121.1
            have sf121_b33 := SF121 b33 (own_safe hZ.alike f132 (by decide))
            have sf121_au := SF121 au (Safe.exa hZ.alike f124 (by decide) (by decide))
            show own_Go _ _ _ _ (T121.setTop (mkF m 152 #[.val (.ref au), .val (.int v1_11), .val (.int (0 : Int32))] [(.ref b121), (.int (2 : Int32)), (.ref b33)]))
            refine own_by (fun _ k => XS.iloadN X121.here hx rfl (hb hby d13_152) rfl k) ?_
            refine own_by (fun _ k => XS.bipush X121.here hx rfl (hb hby d13_153) k) ?_
            refine own_by (fun _ k => XS.iconst X121.here hx rfl (hb hby d13_155) k) ?_
            show own_Go _ _ _ _ (T121.setTop (mkF m 156 #[.val (.ref au), .val (.int v1_11), .val (.int (0 : Int32))] [(.int (4 : Int32)), (.int (12 : Int32)), (.int v1_11), (.ref b121), (.int (2 : Int32)), (.ref b33)]))
            refine own_by (fun _ k => XS.iloadN X121.here hx rfl (hb hby d13_156) rfl k) ?_
            show own_Go _ _ _ _ (T121.setTop (mkF m 157 #[.val (.ref au), .val (.int v1_11), .val (.int (0 : Int32))] [(.int (0 : Int32)), (.int (4 : Int32)), (.int (12 : Int32)), (.int v1_11), (.ref b121), (.int (2 : Int32)), (.ref b33)]))
            refine own_by (fun _ k => XS.imul X121.here hx rfl (hb hby d13_157) rfl k) ?_
            show own_Go _ _ _ _ (T121.setTop (mkF m 158 #[.val (.ref au), .val (.int v1_11), .val (.int (0 : Int32))] [(.int ((4 : Int32) * (0 : Int32))), (.int (12 : Int32)), (.int v1_11), (.ref b121), (.int (2 : Int32)), (.ref b33)]))
            rw [(by decide : ((4 : Int32) * (0 : Int32)) = (0 : Int32))]
            show own_Go _ _ _ _ (T121.setTop (mkF m 158 #[.val (.ref au), .val (.int v1_11), .val (.int (0 : Int32))] [(.int (0 : Int32)), (.int (12 : Int32)), (.int v1_11), (.ref b121), (.int (2 : Int32)), (.ref b33)]))
            refine own_by (fun _ k => XS.isub X121.here hx rfl (hb hby d13_158) rfl k) ?_
            show own_Go _ _ _ _ (T121.setTop (mkF m 159 #[.val (.ref au), .val (.int v1_11), .val (.int (0 : Int32))] [(.int ((12 : Int32) - (0 : Int32))), (.int v1_11), (.ref b121), (.int (2 : Int32)), (.ref b33)]))
            rw [(by decide : ((12 : Int32) - (0 : Int32)) = (12 : Int32))]
            show own_Go _ _ _ _ (T121.setTop (mkF m 159 #[.val (.ref au), .val (.int v1_11), .val (.int (0 : Int32))] [(.int (12 : Int32)), (.int v1_11), (.ref b121), (.int (2 : Int32)), (.ref b33)]))
            refine own_by (fun _ k => XS.ishr X121.here hx rfl (hb hby d13_159) rfl k) ?_
            refine own_by (fun _ k => XS.bipush X121.here hx rfl (hb hby d13_160) k) ?_
            show own_Go _ _ _ _ (T121.setTop (mkF m 162 #[.val (.ref au), .val (.int v1_11), .val (.int (0 : Int32))] [(.int (15 : Int32)), (.int (v1_11 >>> ((12 : Int32) &&& 31))), (.ref b121), (.int (2 : Int32)), (.ref b33)]))
            refine own_by (fun _ k => XS.iand X121.here hx rfl (hb hby d13_162) rfl k) ?_
            show own_Go _ _ _ _ (T121.setTop (mkF m 163 #[.val (.ref au), .val (.int v1_11), .val (.int (0 : Int32))] [(.int ((v1_11 >>> ((12 : Int32) &&& 31)) &&& (15 : Int32))), (.ref b121), (.int (2 : Int32)), (.ref b33)]))
            obtain ⟨g133, hg133⟩ : ∃ z_ : Int32, ((v1_11 >>> ((12 : Int32) &&& 31)) &&& (15 : Int32)) = z_ := ⟨_, rfl⟩
            refine own_gen hg133 (fun z_ => T121.setTop (mkF m 163 #[.val (.ref au), .val (.int v1_11), .val (.int (0 : Int32))] [(.int z_), (.ref b121), (.int (2 : Int32)), (.ref b33)])) ?_
            have Pq135 := own_ix0 v1_11 g133 (hv1_11 ▸ own_cvlo _) hg133
            refine own_callV X121 hx hZ hown (hw _ (List.mem_of_getElem? (i := 85) rfl)) (hw _ (List.mem_of_getElem? (i := 86) rfl)) (notFace_of_selects (args := #[]) (mvT hZ (hw _ (List.mem_of_getElem? (i := 88) rfl)))) (hw _ (List.mem_of_getElem? (i := 88) rfl)) (hw _ (List.mem_of_getElem? (i := 87) rfl)) (hw _ (List.mem_of_getElem? (i := 4) rfl)) (hw _ (List.mem_of_getElem? (i := 89) rfl)) (by decide) (rm16 l Z a0 hw [] b121 g133 bv121 16 16 own_lit48 cs wf 0 h121 n0 Z121 EX121 FV121 FC121 AV121 (by decide) (by decide) f122 Pcs f123 Pwf Pq135 (by decide)) e121 b121 EX121 (by rw [hml]; rfl) [(.int g133)] [(.int (2 : Int32)), (.ref b33)] rfl (lenOf own_pd15 rfl) rfl 2 (Nat.le_of_eq rfl) (by decide) (by decide) (Nat.le_of_ble_eq_true rfl) (Nat.le_of_ble_eq_true rfl) (hb hby d13_163) ?_
            intro T134 Lc134 v134 X134 hQ134
            obtain ⟨rfl, N134q, e134⟩ := hQ134
            have N134 := Fr.app N109 N134q
            show own_Go _ _ _ _ (T134.setTop (mkF m 166 #[.val (.ref au), .val (.int v1_11), .val (.int (0 : Int32))] [(.int (own_cv (own_lit48 0))), (.int (2 : Int32)), (.ref b33)]))
            refine own_cas X134 hx hZ e134 f132 2 (by decide) (by decide) (hb hby d13_166) ?_
            intro T136 h136 X136 e136 W136 A136
            have CH136 := CH121.trans (CHr.wr W136 (own_safe hZ.alike f132 (by decide)) CH121.1)
            have f137 := f122.wr W136
            have f138 := f123.wr W136
            have f139 := f124.wr W136
            have f140 := f125.other W136 (Or.inl ne34)
            have f141 := f126.other W136 (Or.inl ne34)
            have f142 := f127.other W136 (Or.inl ne34)
            have f143 := f128.other W136 (Or.inl ne34)
            have f144 := f129.other W136 (Or.inl ne34)
            have f145 := f130.wr W136 (Or.inr nw33)
            have f146 := f131.other W136 (Or.inl ne34)
            have f147 := FC121.other W136 (Or.inl (Ne.symm sf121_b33.1))
            have f148 := FV121.other W136 (Or.inl (Ne.symm sf121_b33.1))
            have f149 := EX121.wr W136
            have f150 := AV121.other W136 (Ne.symm sf121_b33.2)
            have N136 := Fr.snoc X136 N134 ge33
            have Z136 := own_size_wr W136 Z121
            have ks136 := own_size_wr W136 ks121
            obtain ⟨fn136, hfn136⟩ : ∃ gf_ : Nat → Int32, gf_ = own_upd fn109 2 (nar .char (own_cv (own_lit48 0))) := ⟨_, rfl⟩
            rw [← hfn136] at A136
            show own_Go _ _ _ _ (T136.setTop (mkF m 167 #[.val (.ref au), .val (.int v1_11), .val (.int (0 : Int32))] []))
            refine own_by (fun _ k => XS.iinc X136.here hx rfl (hb hby d13_167) rfl (l' := #[.val (.ref au), .val (.int v1_11), .val (.int ((0 : Int32) + (1 : Int32)))]) rfl k) ?_
            show own_Go _ _ _ _ (T136.setTop (mkF m 170 #[.val (.ref au), .val (.int v1_11), .val (.int ((0 : Int32) + (1 : Int32)))] []))
            rw [(by decide : ((0 : Int32) + (1 : Int32)) = (1 : Int32))]
            show own_Go _ _ _ _ (T136.setTop (mkF m 170 #[.val (.ref au), .val (.int v1_11), .val (.int (1 : Int32))] []))
            refine own_by (fun _ k => XS.goto X136.here hx rfl (pc0 := 170) (pc' := 138) rfl (hb hby d13_170) (by decide) (by decide) k) ?_
            refine own_by (fun _ k => XS.iloadN X136.here hx rfl (hb hby d13_138) rfl k) ?_
            refine own_by (fun _ k => XS.iconst X136.here hx rfl (hb hby d13_139) k) ?_
            show own_Go _ _ _ _ (T136.setTop (mkF m 140 #[.val (.ref au), .val (.int v1_11), .val (.int (1 : Int32))] [(.int (4 : Int32)), (.int (1 : Int32))]))
            refine own_by (fun _ k => XS.icmpNo X136.here hx rfl (hb hby d13_140) rfl (tlt (by decide)).2.1 k) ?_
            refine own_by (fun _ k => XS.aloadN X136.here hx rfl (hb hby d13_143) rfl rfl k) ?_
            show own_Go _ _ _ _ (T136.setTop (mkF m 144 #[.val (.ref au), .val (.int v1_11), .val (.int (1 : Int32))] [(.ref au)]))
            obtain ⟨T151, X151, e151, st151⟩ := getF X136 hx hZ hown (host := "") (Or.inl (hw _ (List.mem_of_getElem? (i := 126) rfl))) Via.refl e136 f146 (g := (mkF m 144 #[.val (.ref au), .val (.int v1_11), .val (.int (1 : Int32))] [(.ref au)])) rfl rfl (hb hby d13_144)
            refine own_by st151 ?_
            refine own_by (fun _ k => XS.iconst X151.here hx rfl (hb hby d13_147) k) ?_
            refine own_by (fun _ k => XS.iloadN X151.here hx rfl (hb hby d13_148) rfl k) ?_
            show own_Go _ _ _ _ (T151.setTop (mkF m 149 #[.val (.ref au), .val (.int v1_11), .val (.int (1 : Int32))] [(.int (1 : Int32)), (.int (2 : Int32)), (.ref b33)]))
            refine own_by (fun _ k => XS.iadd X151.here hx rfl (hb hby d13_149) rfl k) ?_
            show own_Go _ _ _ _ (T151.setTop (mkF m 150 #[.val (.ref au), .val (.int v1_11), .val (.int (1 : Int32))] [(.int ((2 : Int32) + (1 : Int32))), (.ref b33)]))
            rw [(by decide : ((2 : Int32) + (1 : Int32)) = (3 : Int32))]
            show own_Go _ _ _ _ (T151.setTop (mkF m 150 #[.val (.ref au), .val (.int v1_11), .val (.int (1 : Int32))] [(.int (3 : Int32)), (.ref b33)]))
            refine own_by (ldcAgain X151 hx hZ hown (hw _ (List.mem_of_getElem? (i := 128) rfl)) Li121 (g := (mkF m 150 #[.val (.ref au), .val (.int v1_11), .val (.int (1 : Int32))] [(.int (3 : Int32)), (.ref b33)])) rfl (hb hby d13_150)) ?_
            refine own_by (fun _ k => XS.iloadN X151.here hx rfl (hb hby d13_152) rfl k) ?_
            refine own_by (fun _ k => XS.bipush X151.here hx rfl (hb hby d13_153) k) ?_
            show own_Go _ _ _ _ (T151.setTop (mkF m 155 #[.val (.ref au), .val (.int v1_11), .val (.int (1 : Int32))] [(.int (12 : Int32)), (.int v1_11), (.ref b121), (.int (3 : Int32)), (.ref b33)]))
            refine own_by (fun _ k => XS.iconst X151.here hx rfl (hb hby d13_155) k) ?_
            refine own_by (fun _ k => XS.iloadN X151.here hx rfl (hb hby d13_156) rfl k) ?_
            show own_Go _ _ _ _ (T151.setTop (mkF m 157 #[.val (.ref au), .val (.int v1_11), .val (.int (1 : Int32))] [(.int (1 : Int32)), (.int (4 : Int32)), (.int (12 : Int32)), (.int v1_11), (.ref b121), (.int (3 : Int32)), (.ref b33)]))
            refine own_by (fun _ k => XS.imul X151.here hx rfl (hb hby d13_157) rfl k) ?_
            show own_Go _ _ _ _ (T151.setTop (mkF m 158 #[.val (.ref au), .val (.int v1_11), .val (.int (1 : Int32))] [(.int ((4 : Int32) * (1 : Int32))), (.int (12 : Int32)), (.int v1_11), (.ref b121), (.int (3 : Int32)), (.ref b33)]))
            rw [(by decide : ((4 : Int32) * (1 : Int32)) = (4 : Int32))]
            show own_Go _ _ _ _ (T151.setTop (mkF m 158 #[.val (.ref au), .val (.int v1_11), .val (.int (1 : Int32))] [(.int (4 : Int32)), (.int (12 : Int32)), (.int v1_11), (.ref b121), (.int (3 : Int32)), (.ref b33)]))
            refine own_by (fun _ k => XS.isub X151.here hx rfl (hb hby d13_158) rfl k) ?_
            show own_Go _ _ _ _ (T151.setTop (mkF m 159 #[.val (.ref au), .val (.int v1_11), .val (.int (1 : Int32))] [(.int ((12 : Int32) - (4 : Int32))), (.int v1_11), (.ref b121), (.int (3 : Int32)), (.ref b33)]))
            rw [(by decide : ((12 : Int32) - (4 : Int32)) = (8 : Int32))]
            show own_Go _ _ _ _ (T151.setTop (mkF m 159 #[.val (.ref au), .val (.int v1_11), .val (.int (1 : Int32))] [(.int (8 : Int32)), (.int v1_11), (.ref b121), (.int (3 : Int32)), (.ref b33)]))
            refine own_by (fun _ k => XS.ishr X151.here hx rfl (hb hby d13_159) rfl k) ?_
            refine own_by (fun _ k => XS.bipush X151.here hx rfl (hb hby d13_160) k) ?_
            show own_Go _ _ _ _ (T151.setTop (mkF m 162 #[.val (.ref au), .val (.int v1_11), .val (.int (1 : Int32))] [(.int (15 : Int32)), (.int (v1_11 >>> ((8 : Int32) &&& 31))), (.ref b121), (.int (3 : Int32)), (.ref b33)]))
            refine own_by (fun _ k => XS.iand X151.here hx rfl (hb hby d13_162) rfl k) ?_
            show own_Go _ _ _ _ (T151.setTop (mkF m 163 #[.val (.ref au), .val (.int v1_11), .val (.int (1 : Int32))] [(.int ((v1_11 >>> ((8 : Int32) &&& 31)) &&& (15 : Int32))), (.ref b121), (.int (3 : Int32)), (.ref b33)]))
            obtain ⟨g153, hg153⟩ : ∃ z_ : Int32, ((v1_11 >>> ((8 : Int32) &&& 31)) &&& (15 : Int32)) = z_ := ⟨_, rfl⟩
            refine own_gen hg153 (fun z_ => T151.setTop (mkF m 163 #[.val (.ref au), .val (.int v1_11), .val (.int (1 : Int32))] [(.int z_), (.ref b121), (.int (3 : Int32)), (.ref b33)])) ?_
            obtain ⟨kq155, Pq155, Rq155⟩ := own_ix _ g153 hg153
            refine own_callV X151 hx hZ hown (hw _ (List.mem_of_getElem? (i := 85) rfl)) (hw _ (List.mem_of_getElem? (i := 86) rfl)) (notFace_of_selects (args := #[]) (mvT hZ (hw _ (List.mem_of_getElem? (i := 88) rfl)))) (hw _ (List.mem_of_getElem? (i := 88) rfl)) (hw _ (List.mem_of_getElem? (i := 87) rfl)) (hw _ (List.mem_of_getElem? (i := 4) rfl)) (hw _ (List.mem_of_getElem? (i := 89) rfl)) (by decide) (rm16 l Z a0 hw [] b121 g153 bv121 16 16 own_lit48 cs wf kq155 h136 n0 Z136 f149 f148 f147 f150 (by decide) (by decide) f137 Pcs f138 Pwf Pq155 Rq155) e151 b121 f149 (by rw [hml]; rfl) [(.int g153)] [(.int (3 : Int32)), (.ref b33)] rfl (lenOf own_pd15 rfl) rfl 2 (Nat.le_of_eq rfl) (by decide) (by decide) (Nat.le_of_ble_eq_true rfl) (Nat.le_of_ble_eq_true rfl) (hb hby d13_163) ?_
            intro T154 Lc154 v154 X154 hQ154
            obtain ⟨rfl, N154q, e154⟩ := hQ154
            have N154 := Fr.app N136 N154q
            show own_Go _ _ _ _ (T154.setTop (mkF m 166 #[.val (.ref au), .val (.int v1_11), .val (.int (1 : Int32))] [(.int (own_cv (own_lit48 kq155))), (.int (3 : Int32)), (.ref b33)]))
            refine own_cas X154 hx hZ e154 A136 3 (by decide) (by decide) (hb hby d13_166) ?_
            intro T156 h156 X156 e156 W156 A156
            have CH156 := CH136.trans (CHr.wr W156 (own_safe hZ.alike A136 (by decide)) CH136.1)
            have f157 := f137.wr W156
            have f158 := f138.wr W156
            have f159 := f139.wr W156
            have f160 := f140.other W156 (Or.inl ne34)
            have f161 := f141.other W156 (Or.inl ne34)
            have f162 := f142.other W156 (Or.inl ne34)
            have f163 := f143.other W156 (Or.inl ne34)
            have f164 := f144.other W156 (Or.inl ne34)
            have f165 := f145.wr W156 (Or.inr nw33)
            have f166 := f146.other W156 (Or.inl ne34)
            have f167 := f147.other W156 (Or.inl (Ne.symm sf121_b33.1))
            have f168 := f148.other W156 (Or.inl (Ne.symm sf121_b33.1))
            have f169 := f149.wr W156
            have f170 := f150.other W156 (Ne.symm sf121_b33.2)
            have N156 := Fr.snoc X156 N154 ge33
            have Z156 := own_size_wr W156 Z136
            have ks156 := own_size_wr W156 ks136
            obtain ⟨fn156, hfn156⟩ : ∃ gf_ : Nat → Int32, gf_ = own_upd fn136 3 (nar .char (own_cv (own_lit48 kq155))) := ⟨_, rfl⟩
            rw [← hfn156] at A156
            show own_Go _ _ _ _ (T156.setTop (mkF m 167 #[.val (.ref au), .val (.int v1_11), .val (.int (1 : Int32))] []))
            refine own_by (fun _ k => XS.iinc X156.here hx rfl (hb hby d13_167) rfl (l' := #[.val (.ref au), .val (.int v1_11), .val (.int ((1 : Int32) + (1 : Int32)))]) rfl k) ?_
            show own_Go _ _ _ _ (T156.setTop (mkF m 170 #[.val (.ref au), .val (.int v1_11), .val (.int ((1 : Int32) + (1 : Int32)))] []))
            rw [(by decide : ((1 : Int32) + (1 : Int32)) = (2 : Int32))]
            show own_Go _ _ _ _ (T156.setTop (mkF m 170 #[.val (.ref au), .val (.int v1_11), .val (.int (2 : Int32))] []))
            refine own_by (fun _ k => XS.goto X156.here hx rfl (pc0 := 170) (pc' := 138) rfl (hb hby d13_170) (by decide) (by decide) k) ?_
            refine own_by (fun _ k => XS.iloadN X156.here hx rfl (hb hby d13_138) rfl k) ?_
            refine own_by (fun _ k => XS.iconst X156.here hx rfl (hb hby d13_139) k) ?_
            show own_Go _ _ _ _ (T156.setTop (mkF m 140 #[.val (.ref au), .val (.int v1_11), .val (.int (2 : Int32))] [(.int (4 : Int32)), (.int (2 : Int32))]))
            refine own_by (fun _ k => XS.icmpNo X156.here hx rfl (hb hby d13_140) rfl (tlt (by decide)).2.1 k) ?_
            refine own_by (fun _ k => XS.aloadN X156.here hx rfl (hb hby d13_143) rfl rfl k) ?_
            show own_Go _ _ _ _ (T156.setTop (mkF m 144 #[.val (.ref au), .val (.int v1_11), .val (.int (2 : Int32))] [(.ref au)]))
            obtain ⟨T171, X171, e171, st171⟩ := getF X156 hx hZ hown (host := "") (Or.inl (hw _ (List.mem_of_getElem? (i := 126) rfl))) Via.refl e156 f166 (g := (mkF m 144 #[.val (.ref au), .val (.int v1_11), .val (.int (2 : Int32))] [(.ref au)])) rfl rfl (hb hby d13_144)
            refine own_by st171 ?_
            refine own_by (fun _ k => XS.iconst X171.here hx rfl (hb hby d13_147) k) ?_
            refine own_by (fun _ k => XS.iloadN X171.here hx rfl (hb hby d13_148) rfl k) ?_
            show own_Go _ _ _ _ (T171.setTop (mkF m 149 #[.val (.ref au), .val (.int v1_11), .val (.int (2 : Int32))] [(.int (2 : Int32)), (.int (2 : Int32)), (.ref b33)]))
            refine own_by (fun _ k => XS.iadd X171.here hx rfl (hb hby d13_149) rfl k) ?_
            show own_Go _ _ _ _ (T171.setTop (mkF m 150 #[.val (.ref au), .val (.int v1_11), .val (.int (2 : Int32))] [(.int ((2 : Int32) + (2 : Int32))), (.ref b33)]))
            rw [(by decide : ((2 : Int32) + (2 : Int32)) = (4 : Int32))]
            show own_Go _ _ _ _ (T171.setTop (mkF m 150 #[.val (.ref au), .val (.int v1_11), .val (.int (2 : Int32))] [(.int (4 : Int32)), (.ref b33)]))
            refine own_by (ldcAgain X171 hx hZ hown (hw _ (List.mem_of_getElem? (i := 128) rfl)) Li121 (g := (mkF m 150 #[.val (.ref au), .val (.int v1_11), .val (.int (2 : Int32))] [(.int (4 : Int32)), (.ref b33)])) rfl (hb hby d13_150)) ?_
            refine own_by (fun _ k => XS.iloadN X171.here hx rfl (hb hby d13_152) rfl k) ?_
            refine own_by (fun _ k => XS.bipush X171.here hx rfl (hb hby d13_153) k) ?_
            show own_Go _ _ _ _ (T171.setTop (mkF m 155 #[.val (.ref au), .val (.int v1_11), .val (.int (2 : Int32))] [(.int (12 : Int32)), (.int v1_11), (.ref b121), (.int (4 : Int32)), (.ref b33)]))
            refine own_by (fun _ k => XS.iconst X171.here hx rfl (hb hby d13_155) k) ?_
            refine own_by (fun _ k => XS.iloadN X171.here hx rfl (hb hby d13_156) rfl k) ?_
            show own_Go _ _ _ _ (T171.setTop (mkF m 157 #[.val (.ref au), .val (.int v1_11), .val (.int (2 : Int32))] [(.int (2 : Int32)), (.int (4 : Int32)), (.int (12 : Int32)), (.int v1_11), (.ref b121), (.int (4 : Int32)), (.ref b33)]))
            refine own_by (fun _ k => XS.imul X171.here hx rfl (hb hby d13_157) rfl k) ?_
            show own_Go _ _ _ _ (T171.setTop (mkF m 158 #[.val (.ref au), .val (.int v1_11), .val (.int (2 : Int32))] [(.int ((4 : Int32) * (2 : Int32))), (.int (12 : Int32)), (.int v1_11), (.ref b121), (.int (4 : Int32)), (.ref b33)]))
            rw [(by decide : ((4 : Int32) * (2 : Int32)) = (8 : Int32))]
            show own_Go _ _ _ _ (T171.setTop (mkF m 158 #[.val (.ref au), .val (.int v1_11), .val (.int (2 : Int32))] [(.int (8 : Int32)), (.int (12 : Int32)), (.int v1_11), (.ref b121), (.int (4 : Int32)), (.ref b33)]))
            refine own_by (fun _ k => XS.isub X171.here hx rfl (hb hby d13_158) rfl k) ?_
            show own_Go _ _ _ _ (T171.setTop (mkF m 159 #[.val (.ref au), .val (.int v1_11), .val (.int (2 : Int32))] [(.int ((12 : Int32) - (8 : Int32))), (.int v1_11), (.ref b121), (.int (4 : Int32)), (.ref b33)]))
            rw [(by decide : ((12 : Int32) - (8 : Int32)) = (4 : Int32))]
            show own_Go _ _ _ _ (T171.setTop (mkF m 159 #[.val (.ref au), .val (.int v1_11), .val (.int (2 : Int32))] [(.int (4 : Int32)), (.int v1_11), (.ref b121), (.int (4 : Int32)), (.ref b33)]))
            refine own_by (fun _ k => XS.ishr X171.here hx rfl (hb hby d13_159) rfl k) ?_
            refine own_by (fun _ k => XS.bipush X171.here hx rfl (hb hby d13_160) k) ?_
            show own_Go _ _ _ _ (T171.setTop (mkF m 162 #[.val (.ref au), .val (.int v1_11), .val (.int (2 : Int32))] [(.int (15 : Int32)), (.int (v1_11 >>> ((4 : Int32) &&& 31))), (.ref b121), (.int (4 : Int32)), (.ref b33)]))
            refine own_by (fun _ k => XS.iand X171.here hx rfl (hb hby d13_162) rfl k) ?_
            show own_Go _ _ _ _ (T171.setTop (mkF m 163 #[.val (.ref au), .val (.int v1_11), .val (.int (2 : Int32))] [(.int ((v1_11 >>> ((4 : Int32) &&& 31)) &&& (15 : Int32))), (.ref b121), (.int (4 : Int32)), (.ref b33)]))
            obtain ⟨g173, hg173⟩ : ∃ z_ : Int32, ((v1_11 >>> ((4 : Int32) &&& 31)) &&& (15 : Int32)) = z_ := ⟨_, rfl⟩
            refine own_gen hg173 (fun z_ => T171.setTop (mkF m 163 #[.val (.ref au), .val (.int v1_11), .val (.int (2 : Int32))] [(.int z_), (.ref b121), (.int (4 : Int32)), (.ref b33)])) ?_
            obtain ⟨kq175, Pq175, Rq175⟩ := own_ix _ g173 hg173
            refine own_callV X171 hx hZ hown (hw _ (List.mem_of_getElem? (i := 85) rfl)) (hw _ (List.mem_of_getElem? (i := 86) rfl)) (notFace_of_selects (args := #[]) (mvT hZ (hw _ (List.mem_of_getElem? (i := 88) rfl)))) (hw _ (List.mem_of_getElem? (i := 88) rfl)) (hw _ (List.mem_of_getElem? (i := 87) rfl)) (hw _ (List.mem_of_getElem? (i := 4) rfl)) (hw _ (List.mem_of_getElem? (i := 89) rfl)) (by decide) (rm16 l Z a0 hw [] b121 g173 bv121 16 16 own_lit48 cs wf kq175 h156 n0 Z156 f169 f168 f167 f170 (by decide) (by decide) f157 Pcs f158 Pwf Pq175 Rq175) e171 b121 f169 (by rw [hml]; rfl) [(.int g173)] [(.int (4 : Int32)), (.ref b33)] rfl (lenOf own_pd15 rfl) rfl 2 (Nat.le_of_eq rfl) (by decide) (by decide) (Nat.le_of_ble_eq_true rfl) (Nat.le_of_ble_eq_true rfl) (hb hby d13_163) ?_
            intro T174 Lc174 v174 X174 hQ174
            obtain ⟨rfl, N174q, e174⟩ := hQ174
            have N174 := Fr.app N156 N174q
            show own_Go _ _ _ _ (T174.setTop (mkF m 166 #[.val (.ref au), .val (.int v1_11), .val (.int (2 : Int32))] [(.int (own_cv (own_lit48 kq175))), (.int (4 : Int32)), (.ref b33)]))
            refine own_cas X174 hx hZ e174 A156 4 (by decide) (by decide) (hb hby d13_166) ?_
            intro T176 h176 X176 e176 W176 A176
            have CH176 := CH156.trans (CHr.wr W176 (own_safe hZ.alike A156 (by decide)) CH156.1)
            have f177 := f157.wr W176
            have f178 := f158.wr W176
            have f179 := f159.wr W176
            have f180 := f160.other W176 (Or.inl ne34)
            have f181 := f161.other W176 (Or.inl ne34)
            have f182 := f162.other W176 (Or.inl ne34)
            have f183 := f163.other W176 (Or.inl ne34)
            have f184 := f164.other W176 (Or.inl ne34)
            have f185 := f165.wr W176 (Or.inr nw33)
            have f186 := f166.other W176 (Or.inl ne34)
            have f187 := f167.other W176 (Or.inl (Ne.symm sf121_b33.1))
            have f188 := f168.other W176 (Or.inl (Ne.symm sf121_b33.1))
            have f189 := f169.wr W176
            have f190 := f170.other W176 (Ne.symm sf121_b33.2)
            have N176 := Fr.snoc X176 N174 ge33
            have Z176 := own_size_wr W176 Z156
            have ks176 := own_size_wr W176 ks156
            obtain ⟨fn176, hfn176⟩ : ∃ gf_ : Nat → Int32, gf_ = own_upd fn156 4 (nar .char (own_cv (own_lit48 kq175))) := ⟨_, rfl⟩
            rw [← hfn176] at A176
            show own_Go _ _ _ _ (T176.setTop (mkF m 167 #[.val (.ref au), .val (.int v1_11), .val (.int (2 : Int32))] []))
            refine own_by (fun _ k => XS.iinc X176.here hx rfl (hb hby d13_167) rfl (l' := #[.val (.ref au), .val (.int v1_11), .val (.int ((2 : Int32) + (1 : Int32)))]) rfl k) ?_
            show own_Go _ _ _ _ (T176.setTop (mkF m 170 #[.val (.ref au), .val (.int v1_11), .val (.int ((2 : Int32) + (1 : Int32)))] []))
            rw [(by decide : ((2 : Int32) + (1 : Int32)) = (3 : Int32))]
            show own_Go _ _ _ _ (T176.setTop (mkF m 170 #[.val (.ref au), .val (.int v1_11), .val (.int (3 : Int32))] []))
            refine own_by (fun _ k => XS.goto X176.here hx rfl (pc0 := 170) (pc' := 138) rfl (hb hby d13_170) (by decide) (by decide) k) ?_
            refine own_by (fun _ k => XS.iloadN X176.here hx rfl (hb hby d13_138) rfl k) ?_
            refine own_by (fun _ k => XS.iconst X176.here hx rfl (hb hby d13_139) k) ?_
            show own_Go _ _ _ _ (T176.setTop (mkF m 140 #[.val (.ref au), .val (.int v1_11), .val (.int (3 : Int32))] [(.int (4 : Int32)), (.int (3 : Int32))]))
            refine own_by (fun _ k => XS.icmpNo X176.here hx rfl (hb hby d13_140) rfl (tlt (by decide)).2.1 k) ?_
            refine own_by (fun _ k => XS.aloadN X176.here hx rfl (hb hby d13_143) rfl rfl k) ?_
            show own_Go _ _ _ _ (T176.setTop (mkF m 144 #[.val (.ref au), .val (.int v1_11), .val (.int (3 : Int32))] [(.ref au)]))
            obtain ⟨T191, X191, e191, st191⟩ := getF X176 hx hZ hown (host := "") (Or.inl (hw _ (List.mem_of_getElem? (i := 126) rfl))) Via.refl e176 f186 (g := (mkF m 144 #[.val (.ref au), .val (.int v1_11), .val (.int (3 : Int32))] [(.ref au)])) rfl rfl (hb hby d13_144)
            refine own_by st191 ?_
            refine own_by (fun _ k => XS.iconst X191.here hx rfl (hb hby d13_147) k) ?_
            refine own_by (fun _ k => XS.iloadN X191.here hx rfl (hb hby d13_148) rfl k) ?_
            show own_Go _ _ _ _ (T191.setTop (mkF m 149 #[.val (.ref au), .val (.int v1_11), .val (.int (3 : Int32))] [(.int (3 : Int32)), (.int (2 : Int32)), (.ref b33)]))
            refine own_by (fun _ k => XS.iadd X191.here hx rfl (hb hby d13_149) rfl k) ?_
            show own_Go _ _ _ _ (T191.setTop (mkF m 150 #[.val (.ref au), .val (.int v1_11), .val (.int (3 : Int32))] [(.int ((2 : Int32) + (3 : Int32))), (.ref b33)]))
            rw [(by decide : ((2 : Int32) + (3 : Int32)) = (5 : Int32))]
            show own_Go _ _ _ _ (T191.setTop (mkF m 150 #[.val (.ref au), .val (.int v1_11), .val (.int (3 : Int32))] [(.int (5 : Int32)), (.ref b33)]))
            refine own_by (ldcAgain X191 hx hZ hown (hw _ (List.mem_of_getElem? (i := 128) rfl)) Li121 (g := (mkF m 150 #[.val (.ref au), .val (.int v1_11), .val (.int (3 : Int32))] [(.int (5 : Int32)), (.ref b33)])) rfl (hb hby d13_150)) ?_
            refine own_by (fun _ k => XS.iloadN X191.here hx rfl (hb hby d13_152) rfl k) ?_
            refine own_by (fun _ k => XS.bipush X191.here hx rfl (hb hby d13_153) k) ?_
            show own_Go _ _ _ _ (T191.setTop (mkF m 155 #[.val (.ref au), .val (.int v1_11), .val (.int (3 : Int32))] [(.int (12 : Int32)), (.int v1_11), (.ref b121), (.int (5 : Int32)), (.ref b33)]))
            refine own_by (fun _ k => XS.iconst X191.here hx rfl (hb hby d13_155) k) ?_
            refine own_by (fun _ k => XS.iloadN X191.here hx rfl (hb hby d13_156) rfl k) ?_
            show own_Go _ _ _ _ (T191.setTop (mkF m 157 #[.val (.ref au), .val (.int v1_11), .val (.int (3 : Int32))] [(.int (3 : Int32)), (.int (4 : Int32)), (.int (12 : Int32)), (.int v1_11), (.ref b121), (.int (5 : Int32)), (.ref b33)]))
            refine own_by (fun _ k => XS.imul X191.here hx rfl (hb hby d13_157) rfl k) ?_
            show own_Go _ _ _ _ (T191.setTop (mkF m 158 #[.val (.ref au), .val (.int v1_11), .val (.int (3 : Int32))] [(.int ((4 : Int32) * (3 : Int32))), (.int (12 : Int32)), (.int v1_11), (.ref b121), (.int (5 : Int32)), (.ref b33)]))
            rw [(by decide : ((4 : Int32) * (3 : Int32)) = (12 : Int32))]
            show own_Go _ _ _ _ (T191.setTop (mkF m 158 #[.val (.ref au), .val (.int v1_11), .val (.int (3 : Int32))] [(.int (12 : Int32)), (.int (12 : Int32)), (.int v1_11), (.ref b121), (.int (5 : Int32)), (.ref b33)]))
            refine own_by (fun _ k => XS.isub X191.here hx rfl (hb hby d13_158) rfl k) ?_
            show own_Go _ _ _ _ (T191.setTop (mkF m 159 #[.val (.ref au), .val (.int v1_11), .val (.int (3 : Int32))] [(.int ((12 : Int32) - (12 : Int32))), (.int v1_11), (.ref b121), (.int (5 : Int32)), (.ref b33)]))
            rw [(by decide : ((12 : Int32) - (12 : Int32)) = (0 : Int32))]
            show own_Go _ _ _ _ (T191.setTop (mkF m 159 #[.val (.ref au), .val (.int v1_11), .val (.int (3 : Int32))] [(.int (0 : Int32)), (.int v1_11), (.ref b121), (.int (5 : Int32)), (.ref b33)]))
            refine own_by (fun _ k => XS.ishr X191.here hx rfl (hb hby d13_159) rfl k) ?_
            refine own_by (fun _ k => XS.bipush X191.here hx rfl (hb hby d13_160) k) ?_
            show own_Go _ _ _ _ (T191.setTop (mkF m 162 #[.val (.ref au), .val (.int v1_11), .val (.int (3 : Int32))] [(.int (15 : Int32)), (.int (v1_11 >>> ((0 : Int32) &&& 31))), (.ref b121), (.int (5 : Int32)), (.ref b33)]))
            refine own_by (fun _ k => XS.iand X191.here hx rfl (hb hby d13_162) rfl k) ?_
            show own_Go _ _ _ _ (T191.setTop (mkF m 163 #[.val (.ref au), .val (.int v1_11), .val (.int (3 : Int32))] [(.int ((v1_11 >>> ((0 : Int32) &&& 31)) &&& (15 : Int32))), (.ref b121), (.int (5 : Int32)), (.ref b33)]))
            obtain ⟨g193, hg193⟩ : ∃ z_ : Int32, ((v1_11 >>> ((0 : Int32) &&& 31)) &&& (15 : Int32)) = z_ := ⟨_, rfl⟩
            refine own_gen hg193 (fun z_ => T191.setTop (mkF m 163 #[.val (.ref au), .val (.int v1_11), .val (.int (3 : Int32))] [(.int z_), (.ref b121), (.int (5 : Int32)), (.ref b33)])) ?_
            obtain ⟨kq195, Pq195, Rq195⟩ := own_ix _ g193 hg193
            refine own_callV X191 hx hZ hown (hw _ (List.mem_of_getElem? (i := 85) rfl)) (hw _ (List.mem_of_getElem? (i := 86) rfl)) (notFace_of_selects (args := #[]) (mvT hZ (hw _ (List.mem_of_getElem? (i := 88) rfl)))) (hw _ (List.mem_of_getElem? (i := 88) rfl)) (hw _ (List.mem_of_getElem? (i := 87) rfl)) (hw _ (List.mem_of_getElem? (i := 4) rfl)) (hw _ (List.mem_of_getElem? (i := 89) rfl)) (by decide) (rm16 l Z a0 hw [] b121 g193 bv121 16 16 own_lit48 cs wf kq195 h176 n0 Z176 f189 f188 f187 f190 (by decide) (by decide) f177 Pcs f178 Pwf Pq195 Rq195) e191 b121 f189 (by rw [hml]; rfl) [(.int g193)] [(.int (5 : Int32)), (.ref b33)] rfl (lenOf own_pd15 rfl) rfl 2 (Nat.le_of_eq rfl) (by decide) (by decide) (Nat.le_of_ble_eq_true rfl) (Nat.le_of_ble_eq_true rfl) (hb hby d13_163) ?_
            intro T194 Lc194 v194 X194 hQ194
            obtain ⟨rfl, N194q, e194⟩ := hQ194
            have N194 := Fr.app N176 N194q
            show own_Go _ _ _ _ (T194.setTop (mkF m 166 #[.val (.ref au), .val (.int v1_11), .val (.int (3 : Int32))] [(.int (own_cv (own_lit48 kq195))), (.int (5 : Int32)), (.ref b33)]))
            refine own_cas X194 hx hZ e194 A176 5 (by decide) (by decide) (hb hby d13_166) ?_
            intro T196 h196 X196 e196 W196 A196
            have CH196 := CH176.trans (CHr.wr W196 (own_safe hZ.alike A176 (by decide)) CH176.1)
            have f197 := f177.wr W196
            have f198 := f178.wr W196
            have f199 := f179.wr W196
            have f200 := f180.other W196 (Or.inl ne34)
            have f201 := f181.other W196 (Or.inl ne34)
            have f202 := f182.other W196 (Or.inl ne34)
            have f203 := f183.other W196 (Or.inl ne34)
            have f204 := f184.other W196 (Or.inl ne34)
            have f205 := f185.wr W196 (Or.inr nw33)
            have f206 := f186.other W196 (Or.inl ne34)
            have f207 := f187.other W196 (Or.inl (Ne.symm sf121_b33.1))
            have f208 := f188.other W196 (Or.inl (Ne.symm sf121_b33.1))
            have f209 := f189.wr W196
            have f210 := f190.other W196 (Ne.symm sf121_b33.2)
            have N196 := Fr.snoc X196 N194 ge33
            have Z196 := own_size_wr W196 Z176
            have ks196 := own_size_wr W196 ks176
            obtain ⟨fn196, hfn196⟩ : ∃ gf_ : Nat → Int32, gf_ = own_upd fn176 5 (nar .char (own_cv (own_lit48 kq195))) := ⟨_, rfl⟩
            rw [← hfn196] at A196
            show own_Go _ _ _ _ (T196.setTop (mkF m 167 #[.val (.ref au), .val (.int v1_11), .val (.int (3 : Int32))] []))
            refine own_by (fun _ k => XS.iinc X196.here hx rfl (hb hby d13_167) rfl (l' := #[.val (.ref au), .val (.int v1_11), .val (.int ((3 : Int32) + (1 : Int32)))]) rfl k) ?_
            show own_Go _ _ _ _ (T196.setTop (mkF m 170 #[.val (.ref au), .val (.int v1_11), .val (.int ((3 : Int32) + (1 : Int32)))] []))
            rw [(by decide : ((3 : Int32) + (1 : Int32)) = (4 : Int32))]
            show own_Go _ _ _ _ (T196.setTop (mkF m 170 #[.val (.ref au), .val (.int v1_11), .val (.int (4 : Int32))] []))
            refine own_by (fun _ k => XS.goto X196.here hx rfl (pc0 := 170) (pc' := 138) rfl (hb hby d13_170) (by decide) (by decide) k) ?_
            refine own_by (fun _ k => XS.iloadN X196.here hx rfl (hb hby d13_138) rfl k) ?_
            refine own_by (fun _ k => XS.iconst X196.here hx rfl (hb hby d13_139) k) ?_
            show own_Go _ _ _ _ (T196.setTop (mkF m 140 #[.val (.ref au), .val (.int v1_11), .val (.int (4 : Int32))] [(.int (4 : Int32)), (.int (4 : Int32))]))
            refine own_by (fun _ k => XS.icmpYes X196.here hx rfl (pc0 := 140) (pc' := 173) rfl (hb hby d13_140) rfl (flt (by decide)).2.1 (by decide) (by decide) k) ?_
            refine own_by (fun _ k => XS.aloadN X196.here hx rfl (hb hby d13_173) rfl rfl k) ?_
            refine own_by (fun _ k => XS.bipush X196.here hx rfl (hb hby d13_174) k) ?_
            show own_Go _ _ _ _ (T196.setTop (mkF m 176 #[.val (.ref au), .val (.int v1_11), .val (.int (4 : Int32))] [(.int (6 : Int32)), (.ref au)]))
            obtain ⟨T211, h211, X211, e211, W211, st211⟩ := putF X196 hx hZ hown (host := "") (Or.inl (hw _ (List.mem_of_getElem? (i := 68) rfl))) Via.refl e196 f203 f199 (Or.inl (hw _ (List.mem_of_getElem? (i := 69) rfl))) (hw _ (List.mem_of_getElem? (i := 46) rfl)) (ty := .int) (by decide) rfl rfl (g := (mkF m 176 #[.val (.ref au), .val (.int v1_11), .val (.int (4 : Int32))] [(.int (6 : Int32)), (.ref au)])) rfl rfl (hb hby d13_176)
            refine own_by st211 ?_
            have f212 := f203.same W211
            have CH211 := CH196.trans (CHr.wr W211 (Safe.exa hZ.alike f199 (by decide) (by decide)) CH196.1)
            have f213 := f197.wr W211
            have f214 := f198.wr W211
            have f215 := f199.wr W211
            have f216 := f200.other W211 (Or.inr (slot_ne (Or.inl (hw _ (List.mem_of_getElem? (i := 56) rfl))) (Or.inl (hw _ (List.mem_of_getElem? (i := 69) rfl))) (by decide) (t := (.object "java/lang/String")) (t' := .int) (by decide) (by decide)))
            have f217 := f201.other W211 (Or.inr (slot_ne (Or.inl (hw _ (List.mem_of_getElem? (i := 65) rfl))) (Or.inl (hw _ (List.mem_of_getElem? (i := 69) rfl))) (by decide) (t := .int) (t' := .int) (by decide) (by decide)))
            have f218 := f202.other W211 (Or.inr (slot_ne (Or.inl (hw _ (List.mem_of_getElem? (i := 67) rfl))) (Or.inl (hw _ (List.mem_of_getElem? (i := 69) rfl))) (by decide) (t := .int) (t' := .int) (by decide) (by decide)))
            have f219 := f204.other W211 (Or.inr (slot_ne (Or.inr (hw _ (List.mem_of_getElem? (i := 58) rfl))) (Or.inl (hw _ (List.mem_of_getElem? (i := 69) rfl))) (by decide) (t := .boolean) (t' := .int) (by decide) (by decide)))
            have f220 := f205.wr W211 (Or.inl (List.mem_of_getElem? (i := 0) rfl))
            have f221 := f206.other W211 (Or.inr (slot_ne (Or.inl (hw _ (List.mem_of_getElem? (i := 127) rfl))) (Or.inl (hw _ (List.mem_of_getElem? (i := 69) rfl))) (by decide) (t := (.array .char)) (t' := .int) (by decide) (by decide)))
            have f222 := A196.other W211 (Ne.symm ne34)
            have N211 := Fr.snoc X211 N196 Pau
            have Z211 := own_size_wr W211 Z196
            have ks211 := own_size_wr W211 ks196
            show own_Go _ _ _ _ (T211.setTop (mkF m 179 #[.val (.ref au), .val (.int v1_11), .val (.int (4 : Int32))] []))
            refine own_by (fun _ k => XS.aloadN X211.here hx rfl (hb hby d13_179) rfl rfl k) ?_
            refine own_by (fun _ k => XS.iconst X211.here hx rfl (hb hby d13_180) k) ?_
            show own_Go _ _ _ _ (T211.setTop (mkF m 181 #[.val (.ref au), .val (.int v1_11), .val (.int (4 : Int32))] [(.int (1 : Int32)), (.ref au)]))
            obtain ⟨T223, h223, X223, e223, W223, st223⟩ := putF X211 hx hZ hown (host := "") (Or.inl (hw _ (List.mem_of_getElem? (i := 66) rfl))) Via.refl e211 f218 f215 (Or.inl (hw _ (List.mem_of_getElem? (i := 67) rfl))) (hw _ (List.mem_of_getElem? (i := 46) rfl)) (ty := .int) (by decide) rfl rfl (g := (mkF m 181 #[.val (.ref au), .val (.int v1_11), .val (.int (4 : Int32))] [(.int (1 : Int32)), (.ref au)])) rfl rfl (hb hby d13_181)
            refine own_by st223 ?_
            have f224 := f218.same W223
            have CH223 := CH211.trans (CHr.wr W223 (Safe.exa hZ.alike f215 (by decide) (by decide)) CH211.1)
            have f225 := f213.wr W223
            have f226 := f214.wr W223
            have f227 := f215.wr W223
            have f228 := f216.other W223 (Or.inr (slot_ne (Or.inl (hw _ (List.mem_of_getElem? (i := 56) rfl))) (Or.inl (hw _ (List.mem_of_getElem? (i := 67) rfl))) (by decide) (t := (.object "java/lang/String")) (t' := .int) (by decide) (by decide)))
            have f229 := f217.other W223 (Or.inr (slot_ne (Or.inl (hw _ (List.mem_of_getElem? (i := 65) rfl))) (Or.inl (hw _ (List.mem_of_getElem? (i := 67) rfl))) (by decide) (t := .int) (t' := .int) (by decide) (by decide)))
            have f230 := f212.other W223 (Or.inr (slot_ne (Or.inl (hw _ (List.mem_of_getElem? (i := 69) rfl))) (Or.inl (hw _ (List.mem_of_getElem? (i := 67) rfl))) (by decide) (t := .int) (t' := .int) (by decide) (by decide)))
            have f231 := f219.other W223 (Or.inr (slot_ne (Or.inr (hw _ (List.mem_of_getElem? (i := 58) rfl))) (Or.inl (hw _ (List.mem_of_getElem? (i := 67) rfl))) (by decide) (t := .boolean) (t' := .int) (by decide) (by decide)))
            have f232 := f220.wr W223 (Or.inl (List.mem_of_getElem? (i := 0) rfl))
            have f233 := f221.other W223 (Or.inr (slot_ne (Or.inl (hw _ (List.mem_of_getElem? (i := 127) rfl))) (Or.inl (hw _ (List.mem_of_getElem? (i := 67) rfl))) (by decide) (t := (.array .char)) (t' := .int) (by decide) (by decide)))
            have f234 := f222.other W223 (Ne.symm ne34)
            have N223 := Fr.snoc X223 N211 Pau
            have Z223 := own_size_wr W223 Z211
            have ks223 := own_size_wr W223 ks211
            show own_Go _ _ _ _ (T223.setTop (mkF m 184 #[.val (.ref au), .val (.int v1_11), .val (.int (4 : Int32))] []))
            refine own_by (fun _ k => XS.aloadN X223.here hx rfl (hb hby d13_184) rfl rfl k) ?_
            show own_Go _ _ _ _ (T223.setTop (mkF m 185 #[.val (.ref au), .val (.int v1_11), .val (.int (4 : Int32))] [(.ref au)]))
            obtain ⟨T235, X235, e235, st235⟩ := getF X223 hx hZ hown (host := "") (Or.inl (hw _ (List.mem_of_getElem? (i := 126) rfl))) Via.refl e223 f233 (g := (mkF m 185 #[.val (.ref au), .val (.int v1_11), .val (.int (4 : Int32))] [(.ref au)])) rfl rfl (hb hby d13_185)
            refine own_by st235 ?_
            refine own_by (fun _ k => XS.iconst X235.here hx rfl (hb hby d13_188) k) ?_
            show own_Go _ _ _ _ (T235.setTop (mkF m 189 #[.val (.ref au), .val (.int v1_11), .val (.int (4 : Int32))] [(.int (0 : Int32)), (.ref b33)]))
            refine own_by (fun _ k => own_cal X235 hx hZ e235 f234 0 (by decide) (by decide) (hb hby d13_189) k) ?_
            show own_Go _ _ _ _ (T235.setTop (mkF m 190 #[.val (.ref au), .val (.int v1_11), .val (.int (4 : Int32))] [(.int (fn196 0))]))
            rw [show (fn196 0) = (nar .char (92 : Int32)) from by simp [own_upd, hfn196, hfn176, hfn156, hfn136, hfn109, hfn59]]
            show own_Go _ _ _ _ (T235.setTop (mkF m 190 #[.val (.ref au), .val (.int v1_11), .val (.int (4 : Int32))] [(.int (nar .char (92 : Int32)))]))
            exact own_retHI X235 hx Bd.notSynchronized e235 Bd.returns hS121 ks223 hZ (own_EW hw) hh CH223 (hb hby d13_190) (⟨_, _, _, _, b33, fn196, rfl, N223, f232, ⟨f227, f228, f229, f224, f230, f231, (Nat.le_trans (Nat.le_of_lt PEu.lt) nw33), Or.inr ⟨f233, f234, (Ne.symm ne34)⟩⟩, Or.inr (Or.inr ⟨hc3, kx, Pk, Pkn, rfl, Or.inr (Or.inr ⟨hc31, fun q => hc70 (hv1_11.symm.trans q), by rfl, rfl, rfl, by simp [own_upd, hfn196, hfn176, hfn156, hfn136, hfn109, hfn59, own_c92, own_c117, own_c48], by simp [own_upd, hfn196, hfn176, hfn156, hfn136, hfn109, hfn59, own_c92, own_c117, own_c48], by simp [own_upd, hfn196, hfn176, hfn156, hfn136, hfn109, hfn59, own_c92, own_c117, own_c48]⟩)⟩)⟩) (by decide) (by decide)
  · --
    show own_Go _ _ _ _ (s₁.setTop (mkF m 0 #[.val (.ref au), .unset, .unset] []))
    refine own_by (fun _ k => XS.aloadN X0.here hx rfl (hb hby d13_0) rfl rfl k) ?_
    show own_Go _ _ _ _ (s₁.setTop (mkF m 1 #[.val (.ref au), .unset, .unset] [(.ref au)]))
    obtain ⟨T236, X236, e236, st236⟩ := getF X0 hx hZ hown (host := "") (Or.inl (hw _ (List.mem_of_getElem? (i := 66) rfl))) Via.refl e0 PFg (g := (mkF m 1 #[.val (.ref au), .unset, .unset] [(.ref au)])) rfl rfl (hb hby d13_1)
    refine own_by st236 ?_
    refine own_by (fun _ k => XS.aloadN X236.here hx rfl (hb hby d13_4) rfl rfl k) ?_
    show own_Go _ _ _ _ (T236.setTop (mkF m 5 #[.val (.ref au), .unset, .unset] [(.ref au), (.int gx)]))
    obtain ⟨T237, X237, e237, st237⟩ := getF X236 hx hZ hown (host := "") (Or.inl (hw _ (List.mem_of_getElem? (i := 68) rfl))) Via.refl e236 PFl (g := (mkF m 5 #[.val (.ref au), .unset, .unset] [(.ref au), (.int gx)])) rfl rfl (hb hby d13_5)
    refine own_by st237 ?_
    show own_Go _ _ _ _ (T237.setTop (mkF m 8 #[.val (.ref au), .unset, .unset] [(.int lx), (.int gx)]))
    by_cases hc238 : gx < lx
    · --
      refine own_by (fun _ k => XS.icmpNo X237.here hx rfl (hb hby d13_8) rfl (tlt hc238).2.1 k) ?_
      obtain ⟨kx, Pk, Pk6⟩ := PO.giv hc238
      refine own_by (fun _ k => XS.aloadN X237.here hx rfl (hb hby d13_11) rfl rfl k) ?_
      show own_Go _ _ _ _ (T237.setTop (mkF m 12 #[.val (.ref au), .unset, .unset] [(.ref au)]))
      obtain ⟨T239, X239, e239, st239⟩ := getF X237 hx hZ hown (host := "") (Or.inl (hw _ (List.mem_of_getElem? (i := 126) rfl))) Via.refl e237 PFe (g := (mkF m 12 #[.val (.ref au), .unset, .unset] [(.ref au)])) rfl rfl (hb hby d13_12)
      refine own_by st239 ?_
      refine own_by (fun _ k => XS.aloadN X239.here hx rfl (hb hby d13_15) rfl rfl k) ?_
      show own_Go _ _ _ _ (T239.setTop (mkF m 16 #[.val (.ref au), .unset, .unset] [(.ref au), (.ref ea)]))
      refine own_by (fun _ k => XS.dup X239.here hx rfl (hb hby d13_16) rfl rfl k) ?_
      show own_Go _ _ _ _ (T239.setTop (mkF m 17 #[.val (.ref au), .unset, .unset] [(.ref au), (.ref au), (.ref ea)]))
      obtain ⟨T240, X240, e240, st240⟩ := getF X239 hx hZ hown (host := "") (Or.inl (hw _ (List.mem_of_getElem? (i := 66) rfl))) Via.refl e239 PFg (g := (mkF m 17 #[.val (.ref au), .unset, .unset] [(.ref au), (.ref au), (.ref ea)])) rfl rfl (hb hby d13_17)
      refine own_by st240 ?_
      show own_Go _ _ _ _ (T240.setTop (mkF m 20 #[.val (.ref au), .unset, .unset] [(.int gx), (.ref au), (.ref ea)]))
      refine own_by (fun _ k => XS.dupX1 X240.here hx rfl (hb hby d13_20) rfl rfl rfl k) ?_
      refine own_by (fun _ k => XS.iconst X240.here hx rfl (hb hby d13_21) k) ?_
      show own_Go _ _ _ _ (T240.setTop (mkF m 22 #[.val (.ref au), .unset, .unset] [(.int (1 : Int32)), (.int gx), (.ref au), (.int gx), (.ref ea)]))
      refine own_by (fun _ k => XS.iadd X240.here hx rfl (hb hby d13_22) rfl k) ?_
      show own_Go _ _ _ _ (T240.setTop (mkF m 23 #[.val (.ref au), .unset, .unset] [(.int (gx + (1 : Int32))), (.ref au), (.int gx), (.ref ea)]))
      obtain ⟨T241, h241, X241, e241, W241, st241⟩ := putF X240 hx hZ hown (host := "") (Or.inl (hw _ (List.mem_of_getElem? (i := 66) rfl))) Via.refl e240 PFg PEu (Or.inl (hw _ (List.mem_of_getElem? (i := 67) rfl))) (hw _ (List.mem_of_getElem? (i := 46) rfl)) (ty := .int) (by decide) rfl rfl (g := (mkF m 23 #[.val (.ref au), .unset, .unset] [(.int (gx + (1 : Int32))), (.ref au), (.int gx), (.ref ea)])) rfl rfl (hb hby d13_23)
      refine own_by st241 ?_
      have f242 := PFg.same W241
      have CH241 := (CHr.refl Hc).trans (CHr.wr W241 (Safe.exa hZ.alike PEu (by decide) (by decide)) (CHr.refl Hc).1)
      have f243 := PE.wr W241
      have f244 := PFv.other W241 (Or.inl P1u)
      have f245 := PFc.other W241 (Or.inl P1u)
      have f246 := PA.other W241 Pbu
      have f247 := PS.wr W241
      have f248 := PW.wr W241
      have f249 := PEu.wr W241
      have f250 := PFt.other W241 (Or.inr (slot_ne (Or.inl (hw _ (List.mem_of_getElem? (i := 56) rfl))) (Or.inl (hw _ (List.mem_of_getElem? (i := 67) rfl))) (by decide) (t := (.object "java/lang/String")) (t' := .int) (by decide) (by decide)))
      have f251 := PFa.other W241 (Or.inr (slot_ne (Or.inl (hw _ (List.mem_of_getElem? (i := 65) rfl))) (Or.inl (hw _ (List.mem_of_getElem? (i := 67) rfl))) (by decide) (t := .int) (t' := .int) (by decide) (by decide)))
      have f252 := PFl.other W241 (Or.inr (slot_ne (Or.inl (hw _ (List.mem_of_getElem? (i := 69) rfl))) (Or.inl (hw _ (List.mem_of_getElem? (i := 67) rfl))) (by decide) (t := .int) (t' := .int) (by decide) (by decide)))
      have f253 := PFw.other W241 (Or.inr (slot_ne (Or.inr (hw _ (List.mem_of_getElem? (i := 58) rfl))) (Or.inl (hw _ (List.mem_of_getElem? (i := 67) rfl))) (by decide) (t := .boolean) (t' := .int) (by decide) (by decide)))
      have f254 := (Keep.refl h0 [au, ea]).wr W241 (Or.inl (List.mem_of_getElem? (i := 0) rfl))
      have f255 := PFe.other W241 (Or.inr (slot_ne (Or.inl (hw _ (List.mem_of_getElem? (i := 127) rfl))) (Or.inl (hw _ (List.mem_of_getElem? (i := 67) rfl))) (by decide) (t := (.array .char)) (t' := .int) (by decide) (by decide)))
      have f256 := PAe.other W241 Pne
      have N241 := Fr.snoc X241 N0 Pau
      have Z241 := own_size_wr W241 Z0
      have ks241 := own_size_wr W241 k0
      show own_Go _ _ _ _ (T241.setTop (mkF m 26 #[.val (.ref au), .unset, .unset] [(.int gx), (.ref ea)]))
      refine own_by (fun _ k => own_cal X241 hx hZ e241 f256 kx Pk Pk6 (hb hby d13_26) k) ?_
      show own_Go _ _ _ _ (T241.setTop (mkF m 27 #[.val (.ref au), .unset, .unset] [(.int (fe kx))]))
      exact own_retHI X241 hx Bd.notSynchronized e241 Bd.returns hS0 ks241 hZ (own_EW hw) hh CH241 (hb hby d13_27) (⟨_, _, _, _, ea, fe, rfl, N241, f254, ⟨f249, f250, f251, f242, f252, f253, Pue, Or.inr ⟨f255, f256, Pne⟩⟩, Or.inl ⟨hc238, ⟨kx, Pk, rfl⟩, rfl, rfl, rfl, rfl⟩⟩) (by decide) (by decide)
    · --
      refine own_by (fun _ k => XS.icmpYes X237.here hx rfl (pc0 := 8) (pc' := 28) rfl (hb hby d13_8) rfl (flt hc238).2.1 (by decide) (by decide) k) ?_
      refine own_by (fun _ k => XS.aloadN X237.here hx rfl (hb hby d13_28) rfl rfl k) ?_
      show own_Go _ _ _ _ (T237.setTop (mkF m 29 #[.val (.ref au), .unset, .unset] [(.ref au)]))
      obtain ⟨T257, X257, e257, st257⟩ := getF X237 hx hZ hown (host := "") (Or.inl (hw _ (List.mem_of_getElem? (i := 64) rfl))) Via.refl e237 PFa (g := (mkF m 29 #[.val (.ref au), .unset, .unset] [(.ref au)])) rfl rfl (hb hby d13_29)
      refine own_by st257 ?_
      refine own_by (fun _ k => XS.aloadN X257.here hx rfl (hb hby d13_32) rfl rfl k) ?_
      show own_Go _ _ _ _ (T257.setTop (mkF m 33 #[.val (.ref au), .unset, .unset] [(.ref au), (.int ax)]))
      obtain ⟨T258, X258, e258, st258⟩ := getF X257 hx hZ hown (host := "") (Or.inl (hw _ (List.mem_of_getElem? (i := 55) rfl))) Via.refl e257 PFt (g := (mkF m 33 #[.val (.ref au), .unset, .unset] [(.ref au), (.int ax)])) rfl rfl (hb hby d13_33)
      refine own_by st258 ?_
      show own_Go _ _ _ _ (T258.setTop (mkF m 36 #[.val (.ref au), .unset, .unset] [(.ref a1), (.int ax)]))
      refine own_callV X258 hx hZ hown (hw _ (List.mem_of_getElem? (i := 75) rfl)) (hw _ (List.mem_of_getElem? (i := 76) rfl)) (notFace_of_selects (args := #[]) (mvT hZ (hw _ (List.mem_of_getElem? (i := 78) rfl)))) (hw _ (List.mem_of_getElem? (i := 78) rfl)) (hw _ (List.mem_of_getElem? (i := 77) rfl)) (hw _ (List.mem_of_getElem? (i := 4) rfl)) (hw _ (List.mem_of_getElem? (i := 79) rfl)) (by decide) (rm14 l Z a0 hw [] a1 bv n z g cs h0 n0 Z0 PE PFv PFc PA Pz Pzi PS Pcs) e258 a1 PE (by rw [hml]; rfl) [] [(.int ax)] rfl (lenOf own_pd13 rfl) rfl 1 (Nat.le_of_eq rfl) (by decide) (by decide) (Nat.le_of_ble_eq_true rfl) (Nat.le_of_ble_eq_true rfl) (hb hby d13_36) ?_
      intro T259 Lc259 v259 X259 hQ259
      obtain ⟨rfl, N259q, e259⟩ := hQ259
      have N259 := Fr.app N0 N259q
      show own_Go _ _ _ _ (T259.setTop (mkF m 39 #[.val (.ref au), .unset, .unset] [(.int z), (.int ax)]))
      by_cases hc260 : ax = z
      · --
        refine own_by (fun _ k => XS.icmpNo X259.here hx rfl (hb hby d13_39) rfl (teq hc260).2 k) ?_
        refine own_by (fun _ k => XS.iconst X259.here hx rfl (hb hby d13_42) k) ?_
        show own_Go _ _ _ _ (T259.setTop (mkF m 43 #[.val (.ref au), .unset, .unset] [(.int (-1 : Int32))]))
        exact own_retHI X259 hx Bd.notSynchronized e259 Bd.returns hS0 k0 hZ (own_EW hw) hh (CHr.refl Hc) (hb hby d13_43) (⟨_, _, _, _, ea, fe, rfl, N259, (Keep.refl h0 [au, ea]), ⟨PEu, PFt, PFa, PFg, PFl, PFw, Pue, Or.inr ⟨PFe, PAe, Pne⟩⟩, Or.inr (Or.inl ⟨hc238, by rw [hc260]; exact Pzi, rfl, rfl, rfl, rfl, rfl⟩)⟩) (by decide) (by decide)
      · --
        refine own_by (fun _ k => XS.icmpYes X259.here hx rfl (pc0 := 39) (pc' := 44) rfl (hb hby d13_39) rfl (feq hc260).2 (by decide) (by decide) k) ?_
        obtain ⟨kx, Pk, Pkn⟩ := PO.atx Pzi hc260
        refine own_by (fun _ k => XS.aloadN X259.here hx rfl (hb hby d13_44) rfl rfl k) ?_
        show own_Go _ _ _ _ (T259.setTop (mkF m 45 #[.val (.ref au), .unset, .unset] [(.ref au)]))
        obtain ⟨T261, X261, e261, st261⟩ := getF X259 hx hZ hown (host := "") (Or.inl (hw _ (List.mem_of_getElem? (i := 55) rfl))) Via.refl e259 PFt (g := (mkF m 45 #[.val (.ref au), .unset, .unset] [(.ref au)])) rfl rfl (hb hby d13_45)
        refine own_by st261 ?_
        refine own_by (fun _ k => XS.aloadN X261.here hx rfl (hb hby d13_48) rfl rfl k) ?_
        show own_Go _ _ _ _ (T261.setTop (mkF m 49 #[.val (.ref au), .unset, .unset] [(.ref au), (.ref a1)]))
        obtain ⟨T262, X262, e262, st262⟩ := getF X261 hx hZ hown (host := "") (Or.inl (hw _ (List.mem_of_getElem? (i := 64) rfl))) Via.refl e261 PFa (g := (mkF m 49 #[.val (.ref au), .unset, .unset] [(.ref au), (.ref a1)])) rfl rfl (hb hby d13_49)
        refine own_by st262 ?_
        show own_Go _ _ _ _ (T262.setTop (mkF m 52 #[.val (.ref au), .unset, .unset] [(.int ax), (.ref a1)]))
        refine own_callV X262 hx hZ hown (hw _ (List.mem_of_getElem? (i := 85) rfl)) (hw _ (List.mem_of_getElem? (i := 86) rfl)) (notFace_of_selects (args := #[]) (mvT hZ (hw _ (List.mem_of_getElem? (i := 88) rfl)))) (hw _ (List.mem_of_getElem? (i := 88) rfl)) (hw _ (List.mem_of_getElem? (i := 87) rfl)) (hw _ (List.mem_of_getElem? (i := 4) rfl)) (hw _ (List.mem_of_getElem? (i := 89) rfl)) (by decide) (rm16 l Z a0 hw [] a1 ax bv n z g cs wf kx h0 n0 Z0 PE PFv PFc PA Pz Pzi PS Pcs PW Pwf Pk Pkn) e262 a1 PE (by rw [hml]; rfl) [(.int ax)] [] rfl (lenOf own_pd15 rfl) rfl 0 (Nat.le_of_eq rfl) (by decide) (by decide) (Nat.le_of_ble_eq_true rfl) (Nat.le_of_ble_eq_true rfl) (hb hby d13_52) ?_
        intro T263 Lc263 v263 X263 hQ263
        obtain ⟨rfl, N263q, e263⟩ := hQ263
        have N263 := Fr.app N259 N263q
        show own_Go _ _ _ _ (T263.setTop (mkF m 55 #[.val (.ref au), .unset, .unset] [(.int (own_cv (g kx)))]))
        obtain ⟨v1_264, hv1_264⟩ : ∃ z_ : Int32, (own_cv (g kx)) = z_ := ⟨_, rfl⟩
        refine own_gen hv1_264 (fun z_ => T263.setTop (mkF m 55 #[.val (.ref au), .unset, .unset] [(.int z_)])) ?_
        refine own_by (fun _ k => XS.istoreN X263.here hx rfl (hb hby d13_55) rfl (l' := #[.val (.ref au), .val (.int v1_264), .unset]) rfl k) ?_
        refine own_by (fun _ k => XS.aloadN X263.here hx rfl (hb hby d13_56) rfl rfl k) ?_
        show own_Go _ _ _ _ (T263.setTop (mkF m 57 #[.val (.ref au), .val (.int v1_264), .unset] [(.ref au)]))
        obtain ⟨T265, X265, e265, st265⟩ := getF X263 hx hZ hown (host := "") (Or.inl (hw _ (List.mem_of_getElem? (i := 55) rfl))) Via.refl e263 PFt (g := (mkF m 57 #[.val (.ref au), .val (.int v1_264), .unset] [(.ref au)])) rfl rfl (hb hby d13_57)
        refine own_by st265 ?_
        refine own_by (fun _ k => XS.aloadN X265.here hx rfl (hb hby d13_60) rfl rfl k) ?_
        show own_Go _ _ _ _ (T265.setTop (mkF m 61 #[.val (.ref au), .val (.int v1_264), .unset] [(.ref au), (.ref a1)]))
        refine own_by (fun _ k => XS.dup X265.here hx rfl (hb hby d13_61) rfl rfl k) ?_
        show own_Go _ _ _ _ (T265.setTop (mkF m 62 #[.val (.ref au), .val (.int v1_264), .unset] [(.ref au), (.ref au), (.ref a1)]))
        obtain ⟨T266, X266, e266, st266⟩ := getF X265 hx hZ hown (host := "") (Or.inl (hw _ (List.mem_of_getElem? (i := 64) rfl))) Via.refl e265 PFa (g := (mkF m 62 #[.val (.ref au), .val (.int v1_264), .unset] [(.ref au), (.ref au), (.ref a1)])) rfl rfl (hb hby d13_62)
        refine own_by st266 ?_
        show own_Go _ _ _ _ (T266.setTop (mkF m 65 #[.val (.ref au), .val (.int v1_264), .unset] [(.int ax), (.ref au), (.ref a1)]))
        refine own_by (fun _ k => XS.dupX1 X266.here hx rfl (hb hby d13_65) rfl rfl rfl k) ?_
        refine own_by (fun _ k => XS.iconst X266.here hx rfl (hb hby d13_66) k) ?_
        show own_Go _ _ _ _ (T266.setTop (mkF m 67 #[.val (.ref au), .val (.int v1_264), .unset] [(.int (1 : Int32)), (.int ax), (.ref au), (.int ax), (.ref a1)]))
        refine own_by (fun _ k => XS.iadd X266.here hx rfl (hb hby d13_67) rfl k) ?_
        show own_Go _ _ _ _ (T266.setTop (mkF m 68 #[.val (.ref au), .val (.int v1_264), .unset] [(.int (ax + (1 : Int32))), (.ref au), (.int ax), (.ref a1)]))
        obtain ⟨T267, h267, X267, e267, W267, st267⟩ := putF X266 hx hZ hown (host := "") (Or.inl (hw _ (List.mem_of_getElem? (i := 64) rfl))) Via.refl e266 PFa PEu (Or.inl (hw _ (List.mem_of_getElem? (i := 65) rfl))) (hw _ (List.mem_of_getElem? (i := 46) rfl)) (ty := .int) (by decide) rfl rfl (g := (mkF m 68 #[.val (.ref au), .val (.int v1_264), .unset] [(.int (ax + (1 : Int32))), (.ref au), (.int ax), (.ref a1)])) rfl rfl (hb hby d13_68)
        refine own_by st267 ?_
        have f268 := PFa.same W267
        have CH267 := (CHr.refl Hc).trans (CHr.wr W267 (Safe.exa hZ.alike PEu (by decide) (by decide)) (CHr.refl Hc).1)
        have f269 := PE.wr W267
        have f270 := PFv.other W267 (Or.inl P1u)
        have f271 := PFc.other W267 (Or.inl P1u)
        have f272 := PA.other W267 Pbu
        have f273 := PS.wr W267
        have f274 := PW.wr W267
        have f275 := PEu.wr W267
        have f276 := PFt.other W267 (Or.inr (slot_ne (Or.inl (hw _ (List.mem_of_getElem? (i := 56) rfl))) (Or.inl (hw _ (List.mem_of_getElem? (i := 65) rfl))) (by decide) (t := (.object "java/lang/String")) (t' := .int) (by decide) (by decide)))
        have f277 := PFg.other W267 (Or.inr (slot_ne (Or.inl (hw _ (List.mem_of_getElem? (i := 67) rfl))) (Or.inl (hw _ (List.mem_of_getElem? (i := 65) rfl))) (by decide) (t := .int) (t' := .int) (by decide) (by decide)))
        have f278 := PFl.other W267 (Or.inr (slot_ne (Or.inl (hw _ (List.mem_of_getElem? (i := 69) rfl))) (Or.inl (hw _ (List.mem_of_getElem? (i := 65) rfl))) (by decide) (t := .int) (t' := .int) (by decide) (by decide)))
        have f279 := PFw.other W267 (Or.inr (slot_ne (Or.inr (hw _ (List.mem_of_getElem? (i := 58) rfl))) (Or.inl (hw _ (List.mem_of_getElem? (i := 65) rfl))) (by decide) (t := .boolean) (t' := .int) (by decide) (by decide)))
        have f280 := (Keep.refl h0 [au, ea]).wr W267 (Or.inl (List.mem_of_getElem? (i := 0) rfl))
        have f281 := PFe.other W267 (Or.inr (slot_ne (Or.inl (hw _ (List.mem_of_getElem? (i := 127) rfl))) (Or.inl (hw _ (List.mem_of_getElem? (i := 65) rfl))) (by decide) (t := (.array .char)) (t' := .int) (by decide) (by decide)))
        have f282 := PAe.other W267 Pne
        have N267 := Fr.snoc X267 N263 Pau
        have Z267 := own_size_wr W267 Z0
        have ks267 := own_size_wr W267 k0
        show own_Go _ _ _ _ (T267.setTop (mkF m 71 #[.val (.ref au), .val (.int v1_264), .unset] [(.int ax), (.ref a1)]))
        refine own_by (fun _ k => XS.aloadN X267.here hx rfl (hb hby d13_71) rfl rfl k) ?_
        show own_Go _ _ _ _ (T267.setTop (mkF m 72 #[.val (.ref au), .val (.int v1_264), .unset] [(.ref au), (.int ax), (.ref a1)]))
        obtain ⟨T283, X283, e283, st283⟩ := getF X267 hx hZ hown (host := "") (Or.inl (hw _ (List.mem_of_getElem? (i := 57) rfl))) Via.refl e267 f279 (g := (mkF m 72 #[.val (.ref au), .val (.int v1_264), .unset] [(.ref au), (.int ax), (.ref a1)])) rfl rfl (hb hby d13_72)
        refine own_by st283 ?_
        show own_Go _ _ _ _ (T283.setTop (mkF m 75 #[.val (.ref au), .val (.int v1_264), .unset] [(.int wx), (.int ax), (.ref a1)]))
        refine own_callSN X283 hx hZ hown (hw _ (List.mem_of_getElem? (i := 106) rfl)) (hw _ (List.mem_of_getElem? (i := 107) rfl)) (hw _ (List.mem_of_getElem? (i := 108) rfl)) (hw _ (List.mem_of_getElem? (i := 109) rfl)) (by decide) (rm21 l Z a0 hw [] a1 ax wx bv n z g cs wf kx h267 n0 Z267 f269 f270 f271 f272 Pz Pzi f273 Pcs f274 Pwf Pk Pkn) e283 (by rw [hml]; rfl) [(.ref a1), (.int ax), (.int wx)] [] rfl (lenOf own_pd20 rfl) rfl 0 (Nat.le_of_eq rfl) (by decide) (by decide) (Nat.le_of_ble_eq_true rfl) (Nat.le_of_ble_eq_true rfl) (hb hby d13_75) ?_
        intro T284 Lc284 v284 X284 hQ284
        obtain ⟨rfl, N284q, e284⟩ := hQ284
        have N284 := Fr.app N267 N284q
        show own_Go _ _ _ _ (T284.setTop (mkF m 78 #[.val (.ref au), .val (.int v1_264), .unset] [(.int (own_es (own_cv (g kx)) wx))]))
        by_cases hc285 : (own_es (own_cv (g kx)) wx) = (0 : Int32)
        · --
          refine own_by (fun _ k => XS.ifNo X284.here hx rfl (hb hby d13_78) rfl ((if0 _ _).trans (teq hc285).2) k) ?_
          refine own_by (fun _ k => XS.iloadN X284.here hx rfl (hb hby d13_81) rfl k) ?_
          show own_Go _ _ _ _ (T284.setTop (mkF m 82 #[.val (.ref au), .val (.int v1_264), .unset] [(.int v1_264)]))
          exact own_retHI X284 hx Bd.notSynchronized e284 Bd.returns hS0 ks267 hZ (own_EW hw) hh CH267 (hb hby d13_82) (⟨_, _, _, _, ea, fe, rfl, N284, f280, ⟨f275, f276, f268, f277, f278, f279, Pue, Or.inr ⟨f281, f282, Pne⟩⟩, Or.inr (Or.inr ⟨hc238, kx, Pk, Pkn, rfl, Or.inl ⟨hc285, hv1_264.symm, rfl, rfl, rfl⟩⟩)⟩) (by decide) (by decide)
        · --
          refine own_by (fun _ k => XS.ifYes X284.here hx rfl (pc0 := 78) (pc' := 83) rfl (hb hby d13_78) rfl ((if0 _ _).trans (feq hc285).2) (by decide) (by decide) k) ?_
          refine own_by (fun _ k => XS.aloadN X284.here hx rfl (hb hby d13_83) rfl rfl k) ?_
          show own_Go _ _ _ _ (T284.setTop (mkF m 84 #[.val (.ref au), .val (.int v1_264), .unset] [(.ref au)]))
          obtain ⟨T286, X286, e286, st286⟩ := getF X284 hx hZ hown (host := "") (Or.inl (hw _ (List.mem_of_getElem? (i := 126) rfl))) Via.refl e284 f281 (g := (mkF m 84 #[.val (.ref au), .val (.int v1_264), .unset] [(.ref au)])) rfl rfl (hb hby d13_84)
          refine own_by st286 ?_
          show own_Go _ _ _ _ (T286.setTop (mkF m 87 #[.val (.ref au), .val (.int v1_264), .unset] [(.ref ea)]))
          refine own_by (fun _ k => XS.ifnonnullYes X286.here hx rfl (pc0 := 87) (pc' := 98) rfl (hb hby d13_87) rfl (by decide) (by decide) k) ?_
          refine own_by (fun _ k => XS.aloadN X286.here hx rfl (hb hby d13_98) rfl rfl k) ?_
          show own_Go _ _ _ _ (T286.setTop (mkF m 99 #[.val (.ref au), .val (.int v1_264), .unset] [(.ref au)]))
          obtain ⟨T287, X287, e287, st287⟩ := getF X286 hx hZ hown (host := "") (Or.inl (hw _ (List.mem_of_getElem? (i := 126) rfl))) Via.refl e286 f281 (g := (mkF m 99 #[.val (.ref au), .val (.int v1_264), .unset] [(.ref au)])) rfl rfl (hb hby d13_99)
          refine own_by st287 ?_
          refine own_by (fun _ k => XS.iconst X287.here hx rfl (hb hby d13_102) k) ?_
          refine own_by (fun _ k => XS.bipush X287.here hx rfl (hb hby d13_103) k) ?_
          show own_Go _ _ _ _ (T287.setTop (mkF m 105 #[.val (.ref au), .val (.int v1_264), .unset] [(.int (92 : Int32)), (.int (0 : Int32)), (.ref ea)]))
          refine own_cas X287 hx hZ e287 f282 0 (by decide) (by decide) (hb hby d13_105) ?_
          intro T288 h288 X288 e288 W288 A288
          have CH288 := CH267.trans (CHr.wr W288 (own_safe hZ.alike f282 (by decide)) CH267.1)
          have f289 := f273.wr W288
          have f290 := f274.wr W288
          have f291 := f275.wr W288
          have f292 := f276.other W288 (Or.inl (Ne.symm Pne))
          have f293 := f268.other W288 (Or.inl (Ne.symm Pne))
          have f294 := f277.other W288 (Or.inl (Ne.symm Pne))
          have f295 := f278.other W288 (Or.inl (Ne.symm Pne))
          have f296 := f279.other W288 (Or.inl (Ne.symm Pne))
          have f297 := f280.wr W288 (Or.inl (List.mem_of_getElem? (i := 1) rfl))
          have f298 := f281.other W288 (Or.inl (Ne.symm Pne))
          have N288 := Fr.snoc X288 N284 (Nat.le_trans Pau Pue)
          have Z288 := own_size_wr W288 Z267
          have ks288 := own_size_wr W288 ks267
          obtain ⟨fn288, hfn288⟩ : ∃ gf_ : Nat → Int32, gf_ = own_upd fe 0 (nar .char (92 : Int32)) := ⟨_, rfl⟩
          rw [← hfn288] at A288
          show own_Go _ _ _ _ (T288.setTop (mkF m 106 #[.val (.ref au), .val (.int v1_264), .unset] []))
          refine own_by (fun _ k => XS.iloadN X288.here hx rfl (hb hby d13_106) rfl k) ?_
          refine own_by (fun _ k => XS.bipush X288.here hx rfl (hb hby d13_107) k) ?_
          show own_Go _ _ _ _ (T288.setTop (mkF m 109 #[.val (.ref au), .val (.int v1_264), .unset] [(.int (92 : Int32)), (.int v1_264)]))
          by_cases hc299 : v1_264 = (92 : Int32)
          · --
            refine own_by (fun _ k => XS.icmpNo X288.here hx rfl (hb hby d13_109) rfl (teq hc299).2 k) ?_
            refine own_by (fun _ k => XS.aloadN X288.here hx rfl (hb hby d13_112) rfl rfl k) ?_
            show own_Go _ _ _ _ (T288.setTop (mkF m 113 #[.val (.ref au), .val (.int v1_264), .unset] [(.ref au)]))
            obtain ⟨T300, X300, e300, st300⟩ := getF X288 hx hZ hown (host := "") (Or.inl (hw _ (List.mem_of_getElem? (i := 126) rfl))) Via.refl e288 f298 (g := (mkF m 113 #[.val (.ref au), .val (.int v1_264), .unset] [(.ref au)])) rfl rfl (hb hby d13_113)
            refine own_by st300 ?_
            refine own_by (fun _ k => XS.iconst X300.here hx rfl (hb hby d13_116) k) ?_
            refine own_by (fun _ k => XS.bipush X300.here hx rfl (hb hby d13_117) k) ?_
            show own_Go _ _ _ _ (T300.setTop (mkF m 119 #[.val (.ref au), .val (.int v1_264), .unset] [(.int (92 : Int32)), (.int (1 : Int32)), (.ref ea)]))
            refine own_cas X300 hx hZ e300 A288 1 (by decide) (by decide) (hb hby d13_119) ?_
            intro T301 h301 X301 e301 W301 A301
            have CH301 := CH288.trans (CHr.wr W301 (own_safe hZ.alike A288 (by decide)) CH288.1)
            have f302 := f289.wr W301
            have f303 := f290.wr W301
            have f304 := f291.wr W301
            have f305 := f292.other W301 (Or.inl (Ne.symm Pne))
            have f306 := f293.other W301 (Or.inl (Ne.symm Pne))
            have f307 := f294.other W301 (Or.inl (Ne.symm Pne))
            have f308 := f295.other W301 (Or.inl (Ne.symm Pne))
            have f309 := f296.other W301 (Or.inl (Ne.symm Pne))
            have f310 := f297.wr W301 (Or.inl (List.mem_of_getElem? (i := 1) rfl))
            have f311 := f298.other W301 (Or.inl (Ne.symm Pne))
            have N301 := Fr.snoc X301 N288 (Nat.le_trans Pau Pue)
            have Z301 := own_size_wr W301 Z288
            have ks301 := own_size_wr W301 ks288
            obtain ⟨fn301, hfn301⟩ : ∃ gf_ : Nat → Int32, gf_ = own_upd fn288 1 (nar .char (92 : Int32)) := ⟨_, rfl⟩
            rw [← hfn301] at A301
            show own_Go _ _ _ _ (T301.setTop (mkF m 120 #[.val (.ref au), .val (.int v1_264), .unset] []))
            refine own_by (fun _ k => XS.aloadN X301.here hx rfl (hb hby d13_120) rfl rfl k) ?_
            refine own_by (fun _ k => XS.iconst X301.here hx rfl (hb hby d13_121) k) ?_
            show own_Go _ _ _ _ (T301.setTop (mkF m 122 #[.val (.ref au), .val (.int v1_264), .unset] [(.int (2 : Int32)), (.ref au)]))
            obtain ⟨T312, h312, X312, e312, W312, st312⟩ := putF X301 hx hZ hown (host := "") (Or.inl (hw _ (List.mem_of_getElem? (i := 68) rfl))) Via.refl e301 f308 f304 (Or.inl (hw _ (List.mem_of_getElem? (i := 69) rfl))) (hw _ (List.mem_of_getElem? (i := 46) rfl)) (ty := .int) (by decide) rfl rfl (g := (mkF m 122 #[.val (.ref au), .val (.int v1_264), .unset] [(.int (2 : Int32)), (.ref au)])) rfl rfl (hb hby d13_122)
            refine own_by st312 ?_
            have f313 := f308.same W312
            have CH312 := CH301.trans (CHr.wr W312 (Safe.exa hZ.alike f304 (by decide) (by decide)) CH301.1)
            have f314 := f302.wr W312
            have f315 := f303.wr W312
            have f316 := f304.wr W312
            have f317 := f305.other W312 (Or.inr (slot_ne (Or.inl (hw _ (List.mem_of_getElem? (i := 56) rfl))) (Or.inl (hw _ (List.mem_of_getElem? (i := 69) rfl))) (by decide) (t := (.object "java/lang/String")) (t' := .int) (by decide) (by decide)))
            have f318 := f306.other W312 (Or.inr (slot_ne (Or.inl (hw _ (List.mem_of_getElem? (i := 65) rfl))) (Or.inl (hw _ (List.mem_of_getElem? (i := 69) rfl))) (by decide) (t := .int) (t' := .int) (by decide) (by decide)))
            have f319 := f307.other W312 (Or.inr (slot_ne (Or.inl (hw _ (List.mem_of_getElem? (i := 67) rfl))) (Or.inl (hw _ (List.mem_of_getElem? (i := 69) rfl))) (by decide) (t := .int) (t' := .int) (by decide) (by decide)))
            have f320 := f309.other W312 (Or.inr (slot_ne (Or.inr (hw _ (List.mem_of_getElem? (i := 58) rfl))) (Or.inl (hw _ (List.mem_of_getElem? (i := 69) rfl))) (by decide) (t := .boolean) (t' := .int) (by decide) (by decide)))
            have f321 := f310.wr W312 (Or.inl (List.mem_of_getElem? (i := 0) rfl))
            have f322 := f311.other W312 (Or.inr (slot_ne (Or.inl (hw _ (List.mem_of_getElem? (i := 127) rfl))) (Or.inl (hw _ (List.mem_of_getElem? (i := 69) rfl))) (by decide) (t := (.array .char)) (t' := .int) (by decide) (by decide)))
            have f323 := A301.other W312 Pne
            have N312 := Fr.snoc X312 N301 Pau
            have Z312 := own_size_wr W312 Z301
            have ks312 := own_size_wr W312 ks301
            show own_Go _ _ _ _ (T312.setTop (mkF m 125 #[.val (.ref au), .val (.int v1_264), .unset] []))
            refine own_by (fun _ k => XS.goto X312.here hx rfl (pc0 := 125) (pc' := 179) rfl (hb hby d13_125) (by decide) (by decide) k) ?_
            refine own_by (fun _ k => XS.aloadN X312.here hx rfl (hb hby d13_179) rfl rfl k) ?_
            refine own_by (fun _ k => XS.iconst X312.here hx rfl (hb hby d13_180) k) ?_
            show own_Go _ _ _ _ (T312.setTop (mkF m 181 #[.val (.ref au), .val (.int v1_264), .unset] [(.int (1 : Int32)), (.ref au)]))
            obtain ⟨T324, h324, X324, e324, W324, st324⟩ := putF X312 hx hZ hown (host := "") (Or.inl (hw _ (List.mem_of_getElem? (i := 66) rfl))) Via.refl e312 f319 f316 (Or.inl (hw _ (List.mem_of_getElem? (i := 67) rfl))) (hw _ (List.mem_of_getElem? (i := 46) rfl)) (ty := .int) (by decide) rfl rfl (g := (mkF m 181 #[.val (.ref au), .val (.int v1_264), .unset] [(.int (1 : Int32)), (.ref au)])) rfl rfl (hb hby d13_181)
            refine own_by st324 ?_
            have f325 := f319.same W324
            have CH324 := CH312.trans (CHr.wr W324 (Safe.exa hZ.alike f316 (by decide) (by decide)) CH312.1)
            have f326 := f314.wr W324
            have f327 := f315.wr W324
            have f328 := f316.wr W324
            have f329 := f317.other W324 (Or.inr (slot_ne (Or.inl (hw _ (List.mem_of_getElem? (i := 56) rfl))) (Or.inl (hw _ (List.mem_of_getElem? (i := 67) rfl))) (by decide) (t := (.object "java/lang/String")) (t' := .int) (by decide) (by decide)))
            have f330 := f318.other W324 (Or.inr (slot_ne (Or.inl (hw _ (List.mem_of_getElem? (i := 65) rfl))) (Or.inl (hw _ (List.mem_of_getElem? (i := 67) rfl))) (by decide) (t := .int) (t' := .int) (by decide) (by decide)))
            have f331 := f313.other W324 (Or.inr (slot_ne (Or.inl (hw _ (List.mem_of_getElem? (i := 69) rfl))) (Or.inl (hw _ (List.mem_of_getElem? (i := 67) rfl))) (by decide) (t := .int) (t' := .int) (by decide) (by decide)))
            have f332 := f320.other W324 (Or.inr (slot_ne (Or.inr (hw _ (List.mem_of_getElem? (i := 58) rfl))) (Or.inl (hw _ (List.mem_of_getElem? (i := 67) rfl))) (by decide) (t := .boolean) (t' := .int) (by decide) (by decide)))
            have f333 := f321.wr W324 (Or.inl (List.mem_of_getElem? (i := 0) rfl))
            have f334 := f322.other W324 (Or.inr (slot_ne (Or.inl (hw _ (List.mem_of_getElem? (i := 127) rfl))) (Or.inl (hw _ (List.mem_of_getElem? (i := 67) rfl))) (by decide) (t := (.array .char)) (t' := .int) (by decide) (by decide)))
            have f335 := f323.other W324 Pne
            have N324 := Fr.snoc X324 N312 Pau
            have Z324 := own_size_wr W324 Z312
            have ks324 := own_size_wr W324 ks312
            show own_Go _ _ _ _ (T324.setTop (mkF m 184 #[.val (.ref au), .val (.int v1_264), .unset] []))
            refine own_by (fun _ k => XS.aloadN X324.here hx rfl (hb hby d13_184) rfl rfl k) ?_
            show own_Go _ _ _ _ (T324.setTop (mkF m 185 #[.val (.ref au), .val (.int v1_264), .unset] [(.ref au)]))
            obtain ⟨T336, X336, e336, st336⟩ := getF X324 hx hZ hown (host := "") (Or.inl (hw _ (List.mem_of_getElem? (i := 126) rfl))) Via.refl e324 f334 (g := (mkF m 185 #[.val (.ref au), .val (.int v1_264), .unset] [(.ref au)])) rfl rfl (hb hby d13_185)
            refine own_by st336 ?_
            refine own_by (fun _ k => XS.iconst X336.here hx rfl (hb hby d13_188) k) ?_
            show own_Go _ _ _ _ (T336.setTop (mkF m 189 #[.val (.ref au), .val (.int v1_264), .unset] [(.int (0 : Int32)), (.ref ea)]))
            refine own_by (fun _ k => own_cal X336 hx hZ e336 f335 0 (by decide) (by decide) (hb hby d13_189) k) ?_
            show own_Go _ _ _ _ (T336.setTop (mkF m 190 #[.val (.ref au), .val (.int v1_264), .unset] [(.int (fn301 0))]))
            rw [show (fn301 0) = (nar .char (92 : Int32)) from by simp [own_upd, hfn301, hfn288]]
            show own_Go _ _ _ _ (T336.setTop (mkF m 190 #[.val (.ref au), .val (.int v1_264), .unset] [(.int (nar .char (92 : Int32)))]))
            exact own_retHI X336 hx Bd.notSynchronized e336 Bd.returns hS0 ks324 hZ (own_EW hw) hh CH324 (hb hby d13_190) (⟨_, _, _, _, ea, fn301, rfl, N324, f333, ⟨f328, f329, f330, f325, f331, f332, Pue, Or.inr ⟨f334, f335, Pne⟩⟩, Or.inr (Or.inr ⟨hc238, kx, Pk, Pkn, rfl, Or.inr (Or.inl ⟨hc285, hv1_264.trans hc299, by rfl, rfl, rfl, by simp [own_upd, hfn301, hfn288, own_c92, own_c117, own_c48], by simp [own_upd, hfn301, hfn288, own_c92, own_c117, own_c48]⟩)⟩)⟩) (by decide) (by decide)
          · --
            refine own_by (fun _ k => XS.icmpYes X288.here hx rfl (pc0 := 109) (pc' := 128) rfl (hb hby d13_109) rfl (feq hc299).2 (by decide) (by decide) k) ?_
            refine own_by (fun _ k => XS.aloadN X288.here hx rfl (hb hby d13_128) rfl rfl k) ?_
            show own_Go _ _ _ _ (T288.setTop (mkF m 129 #[.val (.ref au), .val (.int v1_264), .unset] [(.ref au)]))
            obtain ⟨T337, X337, e337, st337⟩ := getF X288 hx hZ hown (host := "") (Or.inl (hw _ (List.mem_of_getElem? (i := 126) rfl))) Via.refl e288 f298 (g := (mkF m 129 #[.val (.ref au), .val (.int v1_264), .unset] [(.ref au)])) rfl rfl (hb hby d13_129)
            refine own_by st337 ?_
            refine own_by (fun _ k => XS.iconst X337.here hx rfl (hb hby d13_132) k) ?_
            refine own_by (fun _ k => XS.bipush X337.here hx rfl (hb hby d13_133) k) ?_
            show own_Go _ _ _ _ (T337.setTop (mkF m 135 #[.val (.ref au), .val (.int v1_264), .unset] [(.int (117 : Int32)), (.int (1 : Int32)), (.ref ea)]))
            refine own_cas X337 hx hZ e337 A288 1 (by decide) (by decide) (hb hby d13_135) ?_
            intro T338 h338 X338 e338 W338 A338
            have CH338 := CH288.trans (CHr.wr W338 (own_safe hZ.alike A288 (by decide)) CH288.1)
            have f339 := f289.wr W338
            have f340 := f290.wr W338
            have f341 := f291.wr W338
            have f342 := f292.other W338 (Or.inl (Ne.symm Pne))
            have f343 := f293.other W338 (Or.inl (Ne.symm Pne))
            have f344 := f294.other W338 (Or.inl (Ne.symm Pne))
            have f345 := f295.other W338 (Or.inl (Ne.symm Pne))
            have f346 := f296.other W338 (Or.inl (Ne.symm Pne))
            have f347 := f297.wr W338 (Or.inl (List.mem_of_getElem? (i := 1) rfl))
            have f348 := f298.other W338 (Or.inl (Ne.symm Pne))
            have N338 := Fr.snoc X338 N288 (Nat.le_trans Pau Pue)
            have Z338 := own_size_wr W338 Z288
            have ks338 := own_size_wr W338 ks288
            obtain ⟨fn338, hfn338⟩ : ∃ gf_ : Nat → Int32, gf_ = own_upd fn288 1 (nar .char (117 : Int32)) := ⟨_, rfl⟩
            rw [← hfn338] at A338
            show own_Go _ _ _ _ (T338.setTop (mkF m 136 #[.val (.ref au), .val (.int v1_264), .unset] []))
            refine own_by (fun _ k => XS.iconst X338.here hx rfl (hb hby d13_136) k) ?_
            show own_Go _ _ _ _ (T338.setTop (mkF m 137 #[.val (.ref au), .val (.int v1_264), .unset] [(.int (0 : Int32))]))
            refine own_by (fun _ k => XS.istoreN X338.here hx rfl (hb hby d13_137) rfl (l' := #[.val (.ref au), .val (.int v1_264), .val (.int (0 : Int32))]) rfl k) ?_
            refine own_by (fun _ k => XS.iloadN X338.here hx rfl (hb hby d13_138) rfl k) ?_
            refine own_by (fun _ k => XS.iconst X338.here hx rfl (hb hby d13_139) k) ?_
            show own_Go _ _ _ _ (T338.setTop (mkF m 140 #[.val (.ref au), .val (.int v1_264), .val (.int (0 : Int32))] [(.int (4 : Int32)), (.int (0 : Int32))]))
            refine own_by (fun _ k => XS.icmpNo X338.here hx rfl (hb hby d13_140) rfl (tlt (by decide)).2.1 k) ?_
            refine own_by (fun _ k => XS.aloadN X338.here hx rfl (hb hby d13_143) rfl rfl k) ?_
            show own_Go _ _ _ _ (T338.setTop (mkF m 144 #[.val (.ref au), .val (.int v1_264), .val (.int (0 : Int32))] [(.ref au)]))
            obtain ⟨T349, X349, e349, st349⟩ := getF X338 hx hZ hown (host := "") (Or.inl (hw _ (List.mem_of_getElem? (i := 126) rfl))) Via.refl e338 f348 (g := (mkF m 144 #[.val (.ref au), .val (.int v1_264), .val (.int (0 : Int32))] [(.ref au)])) rfl rfl (hb hby d13_144)
            refine own_by st349 ?_
            refine own_by (fun _ k => XS.iconst X349.here hx rfl (hb hby d13_147) k) ?_
            refine own_by (fun _ k => XS.iloadN X349.here hx rfl (hb hby d13_148) rfl k) ?_
            show own_Go _ _ _ _ (T349.setTop (mkF m 149 #[.val (.ref au), .val (.int v1_264), .val (.int (0 : Int32))] [(.int (0 : Int32)), (.int (2 : Int32)), (.ref ea)]))
            refine own_by (fun _ k => XS.iadd X349.here hx rfl (hb hby d13_149) rfl k) ?_
            show own_Go _ _ _ _ (T349.setTop (mkF m 150 #[.val (.ref au), .val (.int v1_264), .val (.int (0 : Int32))] [(.int ((2 : Int32) + (0 : Int32))), (.ref ea)]))
            rw [(by decide : ((2 : Int32) + (0 : Int32)) = (2 : Int32))]
            show own_Go _ _ _ _ (T349.setTop (mkF m 150 #[.val (.ref au), .val (.int v1_264), .val (.int (0 : Int32))] [(.int (2 : Int32)), (.ref ea)]))
            refine own_ldcC X349 hx hZ hown (hw _ (List.mem_of_getElem? (i := 128) rfl)) (own_wS hw) e349 hS0 ks338 (own_EW hw) (by decide) CH338 _ 16 own_lit48_t (by decide) 16 (by decide) (by decide) own_lit48 own_lit48_f (hb hby d13_150) 64 (by decide) (by decide) (by decide) (by decide) ?_
            intro b350 T350 h350 kk350 bv350 X350 e350 E350 hS350 ks350 hZ hown CH350 EX350 FC350 FV350 AV350 Li350 SF350
            have f351 := f339.ext E350
            have f352 := f340.ext E350
            have f353 := f341.ext E350
            have f354 := f342.ext E350
            have f355 := f343.ext E350
            have f356 := f344.ext E350
            have f357 := f345.ext E350
            have f358 := f346.ext E350
            have f359 := f347.ext E350
            have f360 := f348.ext E350
            have f361 := A338.ext E350
            have Z350 := Nat.le_trans Z338 E350.1
            have sf350_ea := SF350 ea (own_safe hZ.alike f361 (by decide))
            have sf350_au := SF350 au (Safe.exa hZ.alike f353 (by decide) (by decide))
            show own_Go _ _ _ _ (T350.setTop (mkF m 152 #[.val (.ref au), .val (.int v1_264), .val (.int (0 : Int32))] [(.ref b350), (.int (2 : Int32)), (.ref ea)]))
            refine own_by (fun _ k => XS.iloadN X350.here hx rfl (hb hby d13_152) rfl k) ?_
            refine own_by (fun _ k => XS.bipush X350.here hx rfl (hb hby d13_153) k) ?_
            refine own_by (fun _ k => XS.iconst X350.here hx rfl (hb hby d13_155) k) ?_
            show own_Go _ _ _ _ (T350.setTop (mkF m 156 #[.val (.ref au), .val (.int v1_264), .val (.int (0 : Int32))] [(.int (4 : Int32)), (.int (12 : Int32)), (.int v1_264), (.ref b350), (.int (2 : Int32)), (.ref ea)]))
            refine own_by (fun _ k => XS.iloadN X350.here hx rfl (hb hby d13_156) rfl k) ?_
            show own_Go _ _ _ _ (T350.setTop (mkF m 157 #[.val (.ref au), .val (.int v1_264), .val (.int (0 : Int32))] [(.int (0 : Int32)), (.int (4 : Int32)), (.int (12 : Int32)), (.int v1_264), (.ref b350), (.int (2 : Int32)), (.ref ea)]))
            refine own_by (fun _ k => XS.imul X350.here hx rfl (hb hby d13_157) rfl k) ?_
            show own_Go _ _ _ _ (T350.setTop (mkF m 158 #[.val (.ref au), .val (.int v1_264), .val (.int (0 : Int32))] [(.int ((4 : Int32) * (0 : Int32))), (.int (12 : Int32)), (.int v1_264), (.ref b350), (.int (2 : Int32)), (.ref ea)]))
            rw [(by decide : ((4 : Int32) * (0 : Int32)) = (0 : Int32))]
            show own_Go _ _ _ _ (T350.setTop (mkF m 158 #[.val (.ref au), .val (.int v1_264), .val (.int (0 : Int32))] [(.int (0 : Int32)), (.int (12 : Int32)), (.int v1_264), (.ref b350), (.int (2 : Int32)), (.ref ea)]))
            refine own_by (fun _ k => XS.isub X350.here hx rfl (hb hby d13_158) rfl k) ?_
            show own_Go _ _ _ _ (T350.setTop (mkF m 159 #[.val (.ref au), .val (.int v1_264), .val (.int (0 : Int32))] [(.int ((12 : Int32) - (0 : Int32))), (.int v1_264), (.ref b350), (.int (2 : Int32)), (.ref ea)]))
            rw [(by decide : ((12 : Int32) - (0 : Int32)) = (12 : Int32))]
            show own_Go _ _ _ _ (T350.setTop (mkF m 159 #[.val (.ref au), .val (.int v1_264), .val (.int (0 : Int32))] [(.int (12 : Int32)), (.int v1_264), (.ref b350), (.int (2 : Int32)), (.ref ea)]))
            refine own_by (fun _ k => XS.ishr X350.here hx rfl (hb hby d13_159) rfl k) ?_
            refine own_by (fun _ k => XS.bipush X350.here hx rfl (hb hby d13_160) k) ?_
            show own_Go _ _ _ _ (T350.setTop (mkF m 162 #[.val (.ref au), .val (.int v1_264), .val (.int (0 : Int32))] [(.int (15 : Int32)), (.int (v1_264 >>> ((12 : Int32) &&& 31))), (.ref b350), (.int (2 : Int32)), (.ref ea)]))
            refine own_by (fun _ k => XS.iand X350.here hx rfl (hb hby d13_162) rfl k) ?_
            show own_Go _ _ _ _ (T350.setTop (mkF m 163 #[.val (.ref au), .val (.int v1_264), .val (.int (0 : Int32))] [(.int ((v1_264 >>> ((12 : Int32) &&& 31)) &&& (15 : Int32))), (.ref b350), (.int (2 : Int32)), (.ref ea)]))
            obtain ⟨g362, hg362⟩ : ∃ z_ : Int32, ((v1_264 >>> ((12 : Int32) &&& 31)) &&& (15 : Int32)) = z_ := ⟨_, rfl⟩
            refine own_gen hg362 (fun z_ => T350.setTop (mkF m 163 #[.val (.ref au), .val (.int v1_264), .val (.int (0 : Int32))] [(.int z_), (.ref b350), (.int (2 : Int32)), (.ref ea)])) ?_
            have Pq364 := own_ix0 v1_264 g362 (hv1_264 ▸ own_cvlo _) hg362
            refine own_callV X350 hx hZ hown (hw _ (List.mem_of_getElem? (i := 85) rfl)) (hw _ (List.mem_of_getElem? (i := 86) rfl)) (notFace_of_selects (args := #[]) (mvT hZ (hw _ (List.mem_of_getElem? (i := 88) rfl)))) (hw _ (List.mem_of_getElem? (i := 88) rfl)) (hw _ (List.mem_of_getElem? (i := 87) rfl)) (hw _ (List.mem_of_getElem? (i := 4) rfl)) (hw _ (List.mem_of_getElem? (i := 89) rfl)) (by decide) (rm16 l Z a0 hw [] b350 g362 bv350 16 16 own_lit48 cs wf 0 h350 n0 Z350 EX350 FV350 FC350 AV350 (by decide) (by decide) f351 Pcs f352 Pwf Pq364 (by decide)) e350 b350 EX350 (by rw [hml]; rfl) [(.int g362)] [(.int (2 : Int32)), (.ref ea)] rfl (lenOf own_pd15 rfl) rfl 2 (Nat.le_of_eq rfl) (by decide) (by decide) (Nat.le_of_ble_eq_true rfl) (Nat.le_of_ble_eq_true rfl) (hb hby d13_163) ?_
            intro T363 Lc363 v363 X363 hQ363
            obtain ⟨rfl, N363q, e363⟩ := hQ363
            have N363 := Fr.app N338 N363q
            show own_Go _ _ _ _ (T363.setTop (mkF m 166 #[.val (.ref au), .val (.int v1_264), .val (.int (0 : Int32))] [(.int (own_cv (own_lit48 0))), (.int (2 : Int32)), (.ref ea)]))
            refine own_cas X363 hx hZ e363 f361 2 (by decide) (by decide) (hb hby d13_166) ?_
            intro T365 h365 X365 e365 W365 A365
            have CH365 := CH350.trans (CHr.wr W365 (own_safe hZ.alike f361 (by decide)) CH350.1)
            have f366 := f351.wr W365
            have f367 := f352.wr W365
            have f368 := f353.wr W365
            have f369 := f354.other W365 (Or.inl (Ne.symm Pne))
            have f370 := f355.other W365 (Or.inl (Ne.symm Pne))
            have f371 := f356.other W365 (Or.inl (Ne.symm Pne))
            have f372 := f357.other W365 (Or.inl (Ne.symm Pne))
            have f373 := f358.other W365 (Or.inl (Ne.symm Pne))
            have f374 := f359.wr W365 (Or.inl (List.mem_of_getElem? (i := 1) rfl))
            have f375 := f360.other W365 (Or.inl (Ne.symm Pne))
            have f376 := FC350.other W365 (Or.inl (Ne.symm sf350_ea.1))
            have f377 := FV350.other W365 (Or.inl (Ne.symm sf350_ea.1))
            have f378 := EX350.wr W365
            have f379 := AV350.other W365 (Ne.symm sf350_ea.2)
            have N365 := Fr.snoc X365 N363 (Nat.le_trans Pau Pue)
            have Z365 := own_size_wr W365 Z350
            have ks365 := own_size_wr W365 ks350
            obtain ⟨fn365, hfn365⟩ : ∃ gf_ : Nat → Int32, gf_ = own_upd fn338 2 (nar .char (own_cv (own_lit48 0))) := ⟨_, rfl⟩
            rw [← hfn365] at A365
            show own_Go _ _ _ _ (T365.setTop (mkF m 167 #[.val (.ref au), .val (.int v1_264), .val (.int (0 : Int32))] []))
            refine own_by (fun _ k => XS.iinc X365.here hx rfl (hb hby d13_167) rfl (l' := #[.val (.ref au), .val (.int v1_264), .val (.int ((0 : Int32) + (1 : Int32)))]) rfl k) ?_
            show own_Go _ _ _ _ (T365.setTop (mkF m 170 #[.val (.ref au), .val (.int v1_264), .val (.int ((0 : Int32) + (1 : Int32)))] []))
            rw [(by decide : ((0 : Int32) + (1 : Int32)) = (1 : Int32))]
            show own_Go _ _ _ _ (T365.setTop (mkF m 170 #[.val (.ref au), .val (.int v1_264), .val (.int (1 : Int32))] []))
            refine own_by (fun _ k => XS.goto X365.here hx rfl (pc0 := 170) (pc' := 138) rfl (hb hby d13_170) (by decide) (by decide) k) ?_
            refine own_by (fun _ k => XS.iloadN X365.here hx rfl (hb hby d13_138) rfl k) ?_
            refine own_by (fun _ k => XS.iconst X365.here hx rfl (hb hby d13_139) k) ?_
            show own_Go _ _ _ _ (T365.setTop (mkF m 140 #[.val (.ref au), .val (.int v1_264), .val (.int (1 : Int32))] [(.int (4 : Int32)), (.int (1 : Int32))]))
            refine own_by (fun _ k => XS.icmpNo X365.here hx rfl (hb hby d13_140) rfl (tlt (by decide)).2.1 k) ?_
            refine own_by (fun _ k => XS.aloadN X365.here hx rfl (hb hby d13_143) rfl rfl k) ?_
            show own_Go _ _ _ _ (T365.setTop (mkF m 144 #[.val (.ref au), .val (.int v1_264), .val (.int (1 : Int32))] [(.ref au)]))
            obtain ⟨T380, X380, e380, st380⟩ := getF X365 hx hZ hown (host := "") (Or.inl (hw _ (List.mem_of_getElem? (i := 126) rfl))) Via.refl e365 f375 (g := (mkF m 144 #[.val (.ref au), .val (.int v1_264), .val (.int (1 : Int32))] [(.ref au)])) rfl rfl (hb hby d13_144)
            refine own_by st380 ?_
            refine own_by (fun _ k => XS.iconst X380.here hx rfl (hb hby d13_147) k) ?_
            refine own_by (fun _ k => XS.iloadN X380.here hx rfl (hb hby d13_148) rfl k) ?_
            show own_Go _ _ _ _ (T380.setTop (mkF m 149 #[.val (.ref au), .val (.int v1_264), .val (.int (1 : Int32))] [(.int (1 : Int32)), (.int (2 : Int32)), (.ref ea)]))
            refine own_by (fun _ k => XS.iadd X380.here hx rfl (hb hby d13_149) rfl k) ?_
            show own_Go _ _ _ _ (T380.setTop (mkF m 150 #[.val (.ref au), .val (.int v1_264), .val (.int (1 : Int32))] [(.int ((2 : Int32) + (1 : Int32))), (.ref ea)]))
            rw [(by decide : ((2 : Int32) + (1 : Int32)) = (3 : Int32))]
            show own_Go _ _ _ _ (T380.setTop (mkF m 150 #[.val (.ref au), .val (.int v1_264), .val (.int (1 : Int32))] [(.int (3 : Int32)), (.ref ea)]))
            refine own_by (ldcAgain X380 hx hZ hown (hw _ (List.mem_of_getElem? (i := 128) rfl)) Li350 (g := (mkF m 150 #[.val (.ref au), .val (.int v1_264), .val (.int (1 : Int32))] [(.int (3 : Int32)), (.ref ea)])) rfl (hb hby d13_150)) ?_
            refine own_by (fun _ k => XS.iloadN X380.here hx rfl (hb hby d13_152) rfl k) ?_
            refine own_by (fun _ k => XS.bipush X380.here hx rfl (hb hby d13_153) k) ?_
            show own_Go _ _ _ _ (T380.setTop (mkF m 155 #[.val (.ref au), .val (.int v1_264), .val (.int (1 : Int32))] [(.int (12 : Int32)), (.int v1_264), (.ref b350), (.int (3 : Int32)), (.ref ea)]))
            refine own_by (fun _ k => XS.iconst X380.here hx rfl (hb hby d13_155) k) ?_
            refine own_by (fun _ k => XS.iloadN X380.here hx rfl (hb hby d13_156) rfl k) ?_
            show own_Go _ _ _ _ (T380.setTop (mkF m 157 #[.val (.ref au), .val (.int v1_264), .val (.int (1 : Int32))] [(.int (1 : Int32)), (.int (4 : Int32)), (.int (12 : Int32)), (.int v1_264), (.ref b350), (.int (3 : Int32)), (.ref ea)]))
            refine own_by (fun _ k => XS.imul X380.here hx rfl (hb hby d13_157) rfl k) ?_
            show own_Go _ _ _ _ (T380.setTop (mkF m 158 #[.val (.ref au), .val (.int v1_264), .val (.int (1 : Int32))] [(.int ((4 : Int32) * (1 : Int32))), (.int (12 : Int32)), (.int v1_264), (.ref b350), (.int (3 : Int32)), (.ref ea)]))
            rw [(by decide : ((4 : Int32) * (1 : Int32)) = (4 : Int32))]
            show own_Go _ _ _ _ (T380.setTop (mkF m 158 #[.val (.ref au), .val (.int v1_264), .val (.int (1 : Int32))] [(.int (4 : Int32)), (.int (12 : Int32)), (.int v1_264), (.ref b350), (.int (3 : Int32)), (.ref ea)]))
            refine own_by (fun _ k => XS.isub X380.here hx rfl (hb hby d13_158) rfl k) ?_
            show own_Go _ _ _ _ (T380.setTop (mkF m 159 #[.val (.ref au), .val (.int v1_264), .val (.int (1 : Int32))] [(.int ((12 : Int32) - (4 : Int32))), (.int v1_264), (.ref b350), (.int (3 : Int32)), (.ref ea)]))
            rw [(by decide : ((12 : Int32) - (4 : Int32)) = (8 : Int32))]
            show own_Go _ _ _ _ (T380.setTop (mkF m 159 #[.val (.ref au), .val (.int v1_264), .val (.int (1 : Int32))] [(.int (8 : Int32)), (.int v1_264), (.ref b350), (.int (3 : Int32)), (.ref ea)]))
            refine own_by (fun _ k => XS.ishr X380.here hx rfl (hb hby d13_159) rfl k) ?_
            refine own_by (fun _ k => XS.bipush X380.here hx rfl (hb hby d13_160) k) ?_
            show own_Go _ _ _ _ (T380.setTop (mkF m 162 #[.val (.ref au), .val (.int v1_264), .val (.int (1 : Int32))] [(.int (15 : Int32)), (.int (v1_264 >>> ((8 : Int32) &&& 31))), (.ref b350), (.int (3 : Int32)), (.ref ea)]))
            refine own_by (fun _ k => XS.iand X380.here hx rfl (hb hby d13_162) rfl k) ?_
            show own_Go _ _ _ _ (T380.setTop (mkF m 163 #[.val (.ref au), .val (.int v1_264), .val (.int (1 : Int32))] [(.int ((v1_264 >>> ((8 : Int32) &&& 31)) &&& (15 : Int32))), (.ref b350), (.int (3 : Int32)), (.ref ea)]))
            obtain ⟨g382, hg382⟩ : ∃ z_ : Int32, ((v1_264 >>> ((8 : Int32) &&& 31)) &&& (15 : Int32)) = z_ := ⟨_, rfl⟩
            refine own_gen hg382 (fun z_ => T380.setTop (mkF m 163 #[.val (.ref au), .val (.int v1_264), .val (.int (1 : Int32))] [(.int z_), (.ref b350), (.int (3 : Int32)), (.ref ea)])) ?_
            obtain ⟨kq384, Pq384, Rq384⟩ := own_ix _ g382 hg382
            refine own_callV X380 hx hZ hown (hw _ (List.mem_of_getElem? (i := 85) rfl)) (hw _ (List.mem_of_getElem? (i := 86) rfl)) (notFace_of_selects (args := #[]) (mvT hZ (hw _ (List.mem_of_getElem? (i := 88) rfl)))) (hw _ (List.mem_of_getElem? (i := 88) rfl)) (hw _ (List.mem_of_getElem? (i := 87) rfl)) (hw _ (List.mem_of_getElem? (i := 4) rfl)) (hw _ (List.mem_of_getElem? (i := 89) rfl)) (by decide) (rm16 l Z a0 hw [] b350 g382 bv350 16 16 own_lit48 cs wf kq384 h365 n0 Z365 f378 f377 f376 f379 (by decide) (by decide) f366 Pcs f367 Pwf Pq384 Rq384) e380 b350 f378 (by rw [hml]; rfl) [(.int g382)] [(.int (3 : Int32)), (.ref ea)] rfl (lenOf own_pd15 rfl) rfl 2 (Nat.le_of_eq rfl) (by decide) (by decide) (Nat.le_of_ble_eq_true rfl) (Nat.le_of_ble_eq_true rfl) (hb hby d13_163) ?_
            intro T383 Lc383 v383 X383 hQ383
            obtain ⟨rfl, N383q, e383⟩ := hQ383
            have N383 := Fr.app N365 N383q
            show own_Go _ _ _ _ (T383.setTop (mkF m 166 #[.val (.ref au), .val (.int v1_264), .val (.int (1 : Int32))] [(.int (own_cv (own_lit48 kq384))), (.int (3 : Int32)), (.ref ea)]))
            refine own_cas X383 hx hZ e383 A365 3 (by decide) (by decide) (hb hby d13_166) ?_
            intro T385 h385 X385 e385 W385 A385
            have CH385 := CH365.trans (CHr.wr W385 (own_safe hZ.alike A365 (by decide)) CH365.1)
            have f386 := f366.wr W385
            have f387 := f367.wr W385
            have f388 := f368.wr W385
            have f389 := f369.other W385 (Or.inl (Ne.symm Pne))
            have f390 := f370.other W385 (Or.inl (Ne.symm Pne))
            have f391 := f371.other W385 (Or.inl (Ne.symm Pne))
            have f392 := f372.other W385 (Or.inl (Ne.symm Pne))
            have f393 := f373.other W385 (Or.inl (Ne.symm Pne))
            have f394 := f374.wr W385 (Or.inl (List.mem_of_getElem? (i := 1) rfl))
            have f395 := f375.other W385 (Or.inl (Ne.symm Pne))
            have f396 := f376.other W385 (Or.inl (Ne.symm sf350_ea.1))
            have f397 := f377.other W385 (Or.inl (Ne.symm sf350_ea.1))
            have f398 := f378.wr W385
            have f399 := f379.other W385 (Ne.symm sf350_ea.2)
            have N385 := Fr.snoc X385 N383 (Nat.le_trans Pau Pue)
            have Z385 := own_size_wr W385 Z365
            have ks385 := own_size_wr W385 ks365
            obtain ⟨fn385, hfn385⟩ : ∃ gf_ : Nat → Int32, gf_ = own_upd fn365 3 (nar .char (own_cv (own_lit48 kq384))) := ⟨_, rfl⟩
            rw [← hfn385] at A385
            show own_Go _ _ _ _ (T385.setTop (mkF m 167 #[.val (.ref au), .val (.int v1_264), .val (.int (1 : Int32))] []))
            refine own_by (fun _ k => XS.iinc X385.here hx rfl (hb hby d13_167) rfl (l' := #[.val (.ref au), .val (.int v1_264), .val (.int ((1 : Int32) + (1 : Int32)))]) rfl k) ?_
            show own_Go _ _ _ _ (T385.setTop (mkF m 170 #[.val (.ref au), .val (.int v1_264), .val (.int ((1 : Int32) + (1 : Int32)))] []))
            rw [(by decide : ((1 : Int32) + (1 : Int32)) = (2 : Int32))]
            show own_Go _ _ _ _ (T385.setTop (mkF m 170 #[.val (.ref au), .val (.int v1_264), .val (.int (2 : Int32))] []))
            refine own_by (fun _ k => XS.goto X385.here hx rfl (pc0 := 170) (pc' := 138) rfl (hb hby d13_170) (by decide) (by decide) k) ?_
            refine own_by (fun _ k => XS.iloadN X385.here hx rfl (hb hby d13_138) rfl k) ?_
            refine own_by (fun _ k => XS.iconst X385.here hx rfl (hb hby d13_139) k) ?_
            show own_Go _ _ _ _ (T385.setTop (mkF m 140 #[.val (.ref au), .val (.int v1_264), .val (.int (2 : Int32))] [(.int (4 : Int32)), (.int (2 : Int32))]))
            refine own_by (fun _ k => XS.icmpNo X385.here hx rfl (hb hby d13_140) rfl (tlt (by decide)).2.1 k) ?_
            refine own_by (fun _ k => XS.aloadN X385.here hx rfl (hb hby d13_143) rfl rfl k) ?_
            show own_Go _ _ _ _ (T385.setTop (mkF m 144 #[.val (.ref au), .val (.int v1_264), .val (.int (2 : Int32))] [(.ref au)]))
            obtain ⟨T400, X400, e400, st400⟩ := getF X385 hx hZ hown (host := "") (Or.inl (hw _ (List.mem_of_getElem? (i := 126) rfl))) Via.refl e385 f395 (g := (mkF m 144 #[.val (.ref au), .val (.int v1_264), .val (.int (2 : Int32))] [(.ref au)])) rfl rfl (hb hby d13_144)
            refine own_by st400 ?_
            refine own_by (fun _ k => XS.iconst X400.here hx rfl (hb hby d13_147) k) ?_
            refine own_by (fun _ k => XS.iloadN X400.here hx rfl (hb hby d13_148) rfl k) ?_
            show own_Go _ _ _ _ (T400.setTop (mkF m 149 #[.val (.ref au), .val (.int v1_264), .val (.int (2 : Int32))] [(.int (2 : Int32)), (.int (2 : Int32)), (.ref ea)]))
            refine own_by (fun _ k => XS.iadd X400.here hx rfl (hb hby d13_149) rfl k) ?_
            show own_Go _ _ _ _ (T400.setTop (mkF m 150 #[.val (.ref au), .val (.int v1_264), .val (.int (2 : Int32))] [(.int ((2 : Int32) + (2 : Int32))), (.ref ea)]))
            rw [(by decide : ((2 : Int32) + (2 : Int32)) = (4 : Int32))]
            show own_Go _ _ _ _ (T400.setTop (mkF m 150 #[.val (.ref au), .val (.int v1_264), .val (.int (2 : Int32))] [(.int (4 : Int32)), (.ref ea)]))
            refine own_by (ldcAgain X400 hx hZ hown (hw _ (List.mem_of_getElem? (i := 128) rfl)) Li350 (g := (mkF m 150 #[.val (.ref au), .val (.int v1_264), .val (.int (2 : Int32))] [(.int (4 : Int32)), (.ref ea)])) rfl (hb hby d13_150)) ?_
            refine own_by (fun _ k => XS.iloadN X400.here hx rfl (hb hby d13_152) rfl k) ?_
            refine own_by (fun _ k => XS.bipush X400.here hx rfl (hb hby d13_153) k) ?_
            show own_Go _ _ _ _ (T400.setTop (mkF m 155 #[.val (.ref au), .val (.int v1_264), .val (.int (2 : Int32))] [(.int (12 : Int32)), (.int v1_264), (.ref b350), (.int (4 : Int32)), (.ref ea)]))
            refine own_by (fun _ k => XS.iconst X400.here hx rfl (hb hby d13_155) k) ?_
            refine own_by (fun _ k => XS.iloadN X400.here hx rfl (hb hby d13_156) rfl k) ?_
            show own_Go _ _ _ _ (T400.setTop (mkF m 157 #[.val (.ref au), .val (.int v1_264), .val (.int (2 : Int32))] [(.int (2 : Int32)), (.int (4 : Int32)), (.int (12 : Int32)), (.int v1_264), (.ref b350), (.int (4 : Int32)), (.ref ea)]))
            refine own_by (fun _ k => XS.imul X400.here hx rfl (hb hby d13_157) rfl k) ?_
            show own_Go _ _ _ _ (T400.setTop (mkF m 158 #[.val (.ref au), .val (.int v1_264), .val (.int (2 : Int32))] [(.int ((4 : Int32) * (2 : Int32))), (.int (12 : Int32)), (.int v1_264), (.ref b350), (.int (4 : Int32)), (.ref ea)]))
            rw [(by decide : ((4 : Int32) * (2 : Int32)) = (8 : Int32))]
            show own_Go _ _ _ _ (T400.setTop (mkF m 158 #[.val (.ref au), .val (.int v1_264), .val (.int (2 : Int32))] [(.int (8 : Int32)), (.int (12 : Int32)), (.int v1_264), (.ref b350), (.int (4 : Int32)), (.ref ea)]))
            refine own_by (fun _ k => XS.isub X400.here hx rfl (hb hby d13_158) rfl k) ?_
            show own_Go _ _ _ _ (T400.setTop (mkF m 159 #[.val (.ref au), .val (.int v1_264), .val (.int (2 : Int32))] [(.int ((12 : Int32) - (8 : Int32))), (.int v1_264), (.ref b350), (.int (4 : Int32)), (.ref ea)]))
            rw [(by decide : ((12 : Int32) - (8 : Int32)) = (4 : Int32))]
            show own_Go _ _ _ _ (T400.setTop (mkF m 159 #[.val (.ref au), .val (.int v1_264), .val (.int (2 : Int32))] [(.int (4 : Int32)), (.int v1_264), (.ref b350), (.int (4 : Int32)), (.ref ea)]))
            refine own_by (fun _ k => XS.ishr X400.here hx rfl (hb hby d13_159) rfl k) ?_
            refine own_by (fun _ k => XS.bipush X400.here hx rfl (hb hby d13_160) k) ?_
            show own_Go _ _ _ _ (T400.setTop (mkF m 162 #[.val (.ref au), .val (.int v1_264), .val (.int (2 : Int32))] [(.int (15 : Int32)), (.int (v1_264 >>> ((4 : Int32) &&& 31))), (.ref b350), (.int (4 : Int32)), (.ref ea)]))
            refine own_by (fun _ k => XS.iand X400.here hx rfl (hb hby d13_162) rfl k) ?_
            show own_Go _ _ _ _ (T400.setTop (mkF m 163 #[.val (.ref au), .val (.int v1_264), .val (.int (2 : Int32))] [(.int ((v1_264 >>> ((4 : Int32) &&& 31)) &&& (15 : Int32))), (.ref b350), (.int (4 : Int32)), (.ref ea)]))
            obtain ⟨g402, hg402⟩ : ∃ z_ : Int32, ((v1_264 >>> ((4 : Int32) &&& 31)) &&& (15 : Int32)) = z_ := ⟨_, rfl⟩
            refine own_gen hg402 (fun z_ => T400.setTop (mkF m 163 #[.val (.ref au), .val (.int v1_264), .val (.int (2 : Int32))] [(.int z_), (.ref b350), (.int (4 : Int32)), (.ref ea)])) ?_
            obtain ⟨kq404, Pq404, Rq404⟩ := own_ix _ g402 hg402
            refine own_callV X400 hx hZ hown (hw _ (List.mem_of_getElem? (i := 85) rfl)) (hw _ (List.mem_of_getElem? (i := 86) rfl)) (notFace_of_selects (args := #[]) (mvT hZ (hw _ (List.mem_of_getElem? (i := 88) rfl)))) (hw _ (List.mem_of_getElem? (i := 88) rfl)) (hw _ (List.mem_of_getElem? (i := 87) rfl)) (hw _ (List.mem_of_getElem? (i := 4) rfl)) (hw _ (List.mem_of_getElem? (i := 89) rfl)) (by decide) (rm16 l Z a0 hw [] b350 g402 bv350 16 16 own_lit48 cs wf kq404 h385 n0 Z385 f398 f397 f396 f399 (by decide) (by decide) f386 Pcs f387 Pwf Pq404 Rq404) e400 b350 f398 (by rw [hml]; rfl) [(.int g402)] [(.int (4 : Int32)), (.ref ea)] rfl (lenOf own_pd15 rfl) rfl 2 (Nat.le_of_eq rfl) (by decide) (by decide) (Nat.le_of_ble_eq_true rfl) (Nat.le_of_ble_eq_true rfl) (hb hby d13_163) ?_
            intro T403 Lc403 v403 X403 hQ403
            obtain ⟨rfl, N403q, e403⟩ := hQ403
            have N403 := Fr.app N385 N403q
            show own_Go _ _ _ _ (T403.setTop (mkF m 166 #[.val (.ref au), .val (.int v1_264), .val (.int (2 : Int32))] [(.int (own_cv (own_lit48 kq404))), (.int (4 : Int32)), (.ref ea)]))
            refine own_cas X403 hx hZ e403 A385 4 (by decide) (by decide) (hb hby d13_166) ?_
            intro T405 h405 X405 e405 W405 A405
            have CH405 := CH385.trans (CHr.wr W405 (own_safe hZ.alike A385 (by decide)) CH385.1)
            have f406 := f386.wr W405
            have f407 := f387.wr W405
            have f408 := f388.wr W405
            have f409 := f389.other W405 (Or.inl (Ne.symm Pne))
            have f410 := f390.other W405 (Or.inl (Ne.symm Pne))
            have f411 := f391.other W405 (Or.inl (Ne.symm Pne))
            have f412 := f392.other W405 (Or.inl (Ne.symm Pne))
            have f413 := f393.other W405 (Or.inl (Ne.symm Pne))
            have f414 := f394.wr W405 (Or.inl (List.mem_of_getElem? (i := 1) rfl))
            have f415 := f395.other W405 (Or.inl (Ne.symm Pne))
            have f416 := f396.other W405 (Or.inl (Ne.symm sf350_ea.1))
            have f417 := f397.other W405 (Or.inl (Ne.symm sf350_ea.1))
            have f418 := f398.wr W405
            have f419 := f399.other W405 (Ne.symm sf350_ea.2)
            have N405 := Fr.snoc X405 N403 (Nat.le_trans Pau Pue)
            have Z405 := own_size_wr W405 Z385
            have ks405 := own_size_wr W405 ks385
            obtain ⟨fn405, hfn405⟩ : ∃ gf_ : Nat → Int32, gf_ = own_upd fn385 4 (nar .char (own_cv (own_lit48 kq404))) := ⟨_, rfl⟩
            rw [← hfn405] at A405
            show own_Go _ _ _ _ (T405.setTop (mkF m 167 #[.val (.ref au), .val (.int v1_264), .val (.int (2 : Int32))] []))
            refine own_by (fun _ k => XS.iinc X405.here hx rfl (hb hby d13_167) rfl (l' := #[.val (.ref au), .val (.int v1_264), .val (.int ((2 : Int32) + (1 : Int32)))]) rfl k) ?_
            show own_Go _ _ _ _ (T405.setTop (mkF m 170 #[.val (.ref au), .val (.int v1_264), .val (.int ((2 : Int32) + (1 : Int32)))] []))
            rw [(by decide : ((2 : Int32) + (1 : Int32)) = (3 : Int32))]
            show own_Go _ _ _ _ (T405.setTop (mkF m 170 #[.val (.ref au), .val (.int v1_264), .val (.int (3 : Int32))] []))
            refine own_by (fun _ k => XS.goto X405.here hx rfl (pc0 := 170) (pc' := 138) rfl (hb hby d13_170) (by decide) (by decide) k) ?_
            refine own_by (fun _ k => XS.iloadN X405.here hx rfl (hb hby d13_138) rfl k) ?_
            refine own_by (fun _ k => XS.iconst X405.here hx rfl (hb hby d13_139) k) ?_
            show own_Go _ _ _ _ (T405.setTop (mkF m 140 #[.val (.ref au), .val (.int v1_264), .val (.int (3 : Int32))] [(.int (4 : Int32)), (.int (3 : Int32))]))
            refine own_by (fun _ k => XS.icmpNo X405.here hx rfl (hb hby d13_140) rfl (tlt (by decide)).2.1 k) ?_
            refine own_by (fun _ k => XS.aloadN X405.here hx rfl (hb hby d13_143) rfl rfl k) ?_
            show own_Go _ _ _ _ (T405.setTop (mkF m 144 #[.val (.ref au), .val (.int v1_264), .val (.int (3 : Int32))] [(.ref au)]))
            obtain ⟨T420, X420, e420, st420⟩ := getF X405 hx hZ hown (host := "") (Or.inl (hw _ (List.mem_of_getElem? (i := 126) rfl))) Via.refl e405 f415 (g := (mkF m 144 #[.val (.ref au), .val (.int v1_264), .val (.int (3 : Int32))] [(.ref au)])) rfl rfl (hb hby d13_144)
            refine own_by st420 ?_
            refine own_by (fun _ k => XS.iconst X420.here hx rfl (hb hby d13_147) k) ?_
            refine own_by (fun _ k => XS.iloadN X420.here hx rfl (hb hby d13_148) rfl k) ?_
            show own_Go _ _ _ _ (T420.setTop (mkF m 149 #[.val (.ref au), .val (.int v1_264), .val (.int (3 : Int32))] [(.int (3 : Int32)), (.int (2 : Int32)), (.ref ea)]))
            refine own_by (fun _ k => XS.iadd X420.here hx rfl (hb hby d13_149) rfl k) ?_
            show own_Go _ _ _ _ (T420.setTop (mkF m 150 #[.val (.ref au), .val (.int v1_264), .val (.int (3 : Int32))] [(.int ((2 : Int32) + (3 : Int32))), (.ref ea)]))
            rw [(by decide : ((2 : Int32) + (3 : Int32)) = (5 : Int32))]
            show own_Go _ _ _ _ (T420.setTop (mkF m 150 #[.val (.ref au), .val (.int v1_264), .val (.int (3 : Int32))] [(.int (5 : Int32)), (.ref ea)]))
            refine own_by (ldcAgain X420 hx hZ hown (hw _ (List.mem_of_getElem? (i := 128) rfl)) Li350 (g := (mkF m 150 #[.val (.ref au), .val (.int v1_264), .val (.int (3 : Int32))] [(.int (5 : Int32)), (.ref ea)])) rfl (hb hby d13_150)) ?_
            refine own_by (fun _ k => XS.iloadN X420.here hx rfl (hb hby d13_152) rfl k) ?_
            refine own_by (fun _ k => XS.bipush X420.here hx rfl (hb hby d13_153) k) ?_
            show own_Go _ _ _ _ (T420.setTop (mkF m 155 #[.val (.ref au), .val (.int v1_264), .val (.int (3 : Int32))] [(.int (12 : Int32)), (.int v1_264), (.ref b350), (.int (5 : Int32)), (.ref ea)]))
            refine own_by (fun _ k => XS.iconst X420.here hx rfl (hb hby d13_155) k) ?_
            refine own_by (fun _ k => XS.iloadN X420.here hx rfl (hb hby d13_156) rfl k) ?_
            show own_Go _ _ _ _ (T420.setTop (mkF m 157 #[.val (.ref au), .val (.int v1_264), .val (.int (3 : Int32))] [(.int (3 : Int32)), (.int (4 : Int32)), (.int (12 : Int32)), (.int v1_264), (.ref b350), (.int (5 : Int32)), (.ref ea)]))
            refine own_by (fun _ k => XS.imul X420.here hx rfl (hb hby d13_157) rfl k) ?_
            show own_Go _ _ _ _ (T420.setTop (mkF m 158 #[.val (.ref au), .val (.int v1_264), .val (.int (3 : Int32))] [(.int ((4 : Int32) * (3 : Int32))), (.int (12 : Int32)), (.int v1_264), (.ref b350), (.int (5 : Int32)), (.ref ea)]))
            rw [(by decide : ((4 : Int32) * (3 : Int32)) = (12 : Int32))]
            show own_Go _ _ _ _ (T420.setTop (mkF m 158 #[.val (.ref au), .val (.int v1_264), .val (.int (3 : Int32))] [(.int (12 : Int32)), (.int (12 : Int32)), (.int v1_264), (.ref b350), (.int (5 : Int32)), (.ref ea)]))
            refine own_by (fun _ k => XS.isub X420.here hx rfl (hb hby d13_158) rfl k) ?_
            show own_Go _ _ _ _ (T420.setTop (mkF m 159 #[.val (.ref au), .val (.int v1_264), .val (.int (3 : Int32))] [(.int ((12 : Int32) - (12 : Int32))), (.int v1_264), (.ref b350), (.int (5 : Int32)), (.ref ea)]))
            rw [(by decide : ((12 : Int32) - (12 : Int32)) = (0 : Int32))]
            show own_Go _ _ _ _ (T420.setTop (mkF m 159 #[.val (.ref au), .val (.int v1_264), .val (.int (3 : Int32))] [(.int (0 : Int32)), (.int v1_264), (.ref b350), (.int (5 : Int32)), (.ref ea)]))
            refine own_by (fun _ k => XS.ishr X420.here hx rfl (hb hby d13_159) rfl k) ?_
            refine own_by (fun _ k => XS.bipush X420.here hx rfl (hb hby d13_160) k) ?_
            show own_Go _ _ _ _ (T420.setTop (mkF m 162 #[.val (.ref au), .val (.int v1_264), .val (.int (3 : Int32))] [(.int (15 : Int32)), (.int (v1_264 >>> ((0 : Int32) &&& 31))), (.ref b350), (.int (5 : Int32)), (.ref ea)]))
            refine own_by (fun _ k => XS.iand X420.here hx rfl (hb hby d13_162) rfl k) ?_
            show own_Go _ _ _ _ (T420.setTop (mkF m 163 #[.val (.ref au), .val (.int v1_264), .val (.int (3 : Int32))] [(.int ((v1_264 >>> ((0 : Int32) &&& 31)) &&& (15 : Int32))), (.ref b350), (.int (5 : Int32)), (.ref ea)]))
            obtain ⟨g422, hg422⟩ : ∃ z_ : Int32, ((v1_264 >>> ((0 : Int32) &&& 31)) &&& (15 : Int32)) = z_ := ⟨_, rfl⟩
            refine own_gen hg422 (fun z_ => T420.setTop (mkF m 163 #[.val (.ref au), .val (.int v1_264), .val (.int (3 : Int32))] [(.int z_), (.ref b350), (.int (5 : Int32)), (.ref ea)])) ?_
            obtain ⟨kq424, Pq424, Rq424⟩ := own_ix _ g422 hg422
            refine own_callV X420 hx hZ hown (hw _ (List.mem_of_getElem? (i := 85) rfl)) (hw _ (List.mem_of_getElem? (i := 86) rfl)) (notFace_of_selects (args := #[]) (mvT hZ (hw _ (List.mem_of_getElem? (i := 88) rfl)))) (hw _ (List.mem_of_getElem? (i := 88) rfl)) (hw _ (List.mem_of_getElem? (i := 87) rfl)) (hw _ (List.mem_of_getElem? (i := 4) rfl)) (hw _ (List.mem_of_getElem? (i := 89) rfl)) (by decide) (rm16 l Z a0 hw [] b350 g422 bv350 16 16 own_lit48 cs wf kq424 h405 n0 Z405 f418 f417 f416 f419 (by decide) (by decide) f406 Pcs f407 Pwf Pq424 Rq424) e420 b350 f418 (by rw [hml]; rfl) [(.int g422)] [(.int (5 : Int32)), (.ref ea)] rfl (lenOf own_pd15 rfl) rfl 2 (Nat.le_of_eq rfl) (by decide) (by decide) (Nat.le_of_ble_eq_true rfl) (Nat.le_of_ble_eq_true rfl) (hb hby d13_163) ?_
            intro T423 Lc423 v423 X423 hQ423
            obtain ⟨rfl, N423q, e423⟩ := hQ423
            have N423 := Fr.app N405 N423q
            show own_Go _ _ _ _ (T423.setTop (mkF m 166 #[.val (.ref au), .val (.int v1_264), .val (.int (3 : Int32))] [(.int (own_cv (own_lit48 kq424))), (.int (5 : Int32)), (.ref ea)]))
            refine own_cas X423 hx hZ e423 A405 5 (by decide) (by decide) (hb hby d13_166) ?_
            intro T425 h425 X425 e425 W425 A425
            have CH425 := CH405.trans (CHr.wr W425 (own_safe hZ.alike A405 (by decide)) CH405.1)
            have f426 := f406.wr W425
            have f427 := f407.wr W425
            have f428 := f408.wr W425
            have f429 := f409.other W425 (Or.inl (Ne.symm Pne))
            have f430 := f410.other W425 (Or.inl (Ne.symm Pne))
            have f431 := f411.other W425 (Or.inl (Ne.symm Pne))
            have f432 := f412.other W425 (Or.inl (Ne.symm Pne))
            have f433 := f413.other W425 (Or.inl (Ne.symm Pne))
            have f434 := f414.wr W425 (Or.inl (List.mem_of_getElem? (i := 1) rfl))
            have f435 := f415.other W425 (Or.inl (Ne.symm Pne))
            have f436 := f416.other W425 (Or.inl (Ne.symm sf350_ea.1))
            have f437 := f417.other W425 (Or.inl (Ne.symm sf350_ea.1))
            have f438 := f418.wr W425
            have f439 := f419.other W425 (Ne.symm sf350_ea.2)
            have N425 := Fr.snoc X425 N423 (Nat.le_trans Pau Pue)
            have Z425 := own_size_wr W425 Z405
            have ks425 := own_size_wr W425 ks405
            obtain ⟨fn425, hfn425⟩ : ∃ gf_ : Nat → Int32, gf_ = own_upd fn405 5 (nar .char (own_cv (own_lit48 kq424))) := ⟨_, rfl⟩
            rw [← hfn425] at A425
            show own_Go _ _ _ _ (T425.setTop (mkF m 167 #[.val (.ref au), .val (.int v1_264), .val (.int (3 : Int32))] []))
            refine own_by (fun _ k => XS.iinc X425.here hx rfl (hb hby d13_167) rfl (l' := #[.val (.ref au), .val (.int v1_264), .val (.int ((3 : Int32) + (1 : Int32)))]) rfl k) ?_
            show own_Go _ _ _ _ (T425.setTop (mkF m 170 #[.val (.ref au), .val (.int v1_264), .val (.int ((3 : Int32) + (1 : Int32)))] []))
            rw [(by decide : ((3 : Int32) + (1 : Int32)) = (4 : Int32))]
            show own_Go _ _ _ _ (T425.setTop (mkF m 170 #[.val (.ref au), .val (.int v1_264), .val (.int (4 : Int32))] []))
            refine own_by (fun _ k => XS.goto X425.here hx rfl (pc0 := 170) (pc' := 138) rfl (hb hby d13_170) (by decide) (by decide) k) ?_
            refine own_by (fun _ k => XS.iloadN X425.here hx rfl (hb hby d13_138) rfl k) ?_
            refine own_by (fun _ k => XS.iconst X425.here hx rfl (hb hby d13_139) k) ?_
            show own_Go _ _ _ _ (T425.setTop (mkF m 140 #[.val (.ref au), .val (.int v1_264), .val (.int (4 : Int32))] [(.int (4 : Int32)), (.int (4 : Int32))]))
            refine own_by (fun _ k => XS.icmpYes X425.here hx rfl (pc0 := 140) (pc' := 173) rfl (hb hby d13_140) rfl (flt (by decide)).2.1 (by decide) (by decide) k) ?_
            refine own_by (fun _ k => XS.aloadN X425.here hx rfl (hb hby d13_173) rfl rfl k) ?_
            refine own_by (fun _ k => XS.bipush X425.here hx rfl (hb hby d13_174) k) ?_
            show own_Go _ _ _ _ (T425.setTop (mkF m 176 #[.val (.ref au), .val (.int v1_264), .val (.int (4 : Int32))] [(.int (6 : Int32)), (.ref au)]))
            obtain ⟨T440, h440, X440, e440, W440, st440⟩ := putF X425 hx hZ hown (host := "") (Or.inl (hw _ (List.mem_of_getElem? (i := 68) rfl))) Via.refl e425 f432 f428 (Or.inl (hw _ (List.mem_of_getElem? (i := 69) rfl))) (hw _ (List.mem_of_getElem? (i := 46) rfl)) (ty := .int) (by decide) rfl rfl (g := (mkF m 176 #[.val (.ref au), .val (.int v1_264), .val (.int (4 : Int32))] [(.int (6 : Int32)), (.ref au)])) rfl rfl (hb hby d13_176)
            refine own_by st440 ?_
            have f441 := f432.same W440
            have CH440 := CH425.trans (CHr.wr W440 (Safe.exa hZ.alike f428 (by decide) (by decide)) CH425.1)
            have f442 := f426.wr W440
            have f443 := f427.wr W440
            have f444 := f428.wr W440
            have f445 := f429.other W440 (Or.inr (slot_ne (Or.inl (hw _ (List.mem_of_getElem? (i := 56) rfl))) (Or.inl (hw _ (List.mem_of_getElem? (i := 69) rfl))) (by decide) (t := (.object "java/lang/String")) (t' := .int) (by decide) (by decide)))
            have f446 := f430.other W440 (Or.inr (slot_ne (Or.inl (hw _ (List.mem_of_getElem? (i := 65) rfl))) (Or.inl (hw _ (List.mem_of_getElem? (i := 69) rfl))) (by decide) (t := .int) (t' := .int) (by decide) (by decide)))
            have f447 := f431.other W440 (Or.inr (slot_ne (Or.inl (hw _ (List.mem_of_getElem? (i := 67) rfl))) (Or.inl (hw _ (List.mem_of_getElem? (i := 69) rfl))) (by decide) (t := .int) (t' := .int) (by decide) (by decide)))
            have f448 := f433.other W440 (Or.inr (slot_ne (Or.inr (hw _ (List.mem_of_getElem? (i := 58) rfl))) (Or.inl (hw _ (List.mem_of_getElem? (i := 69) rfl))) (by decide) (t := .boolean) (t' := .int) (by decide) (by decide)))
            have f449 := f434.wr W440 (Or.inl (List.mem_of_getElem? (i := 0) rfl))
            have f450 := f435.other W440 (Or.inr (slot_ne (Or.inl (hw _ (List.mem_of_getElem? (i := 127) rfl))) (Or.inl (hw _ (List.mem_of_getElem? (i := 69) rfl))) (by decide) (t := (.array .char)) (t' := .int) (by decide) (by decide)))
            have f451 := A425.other W440 Pne
            have N440 := Fr.snoc X440 N425 Pau
            have Z440 := own_size_wr W440 Z425
            have ks440 := own_size_wr W440 ks425
            show own_Go _ _ _ _ (T440.setTop (mkF m 179 #[.val (.ref au), .val (.int v1_264), .val (.int (4 : Int32))] []))
            refine own_by (fun _ k => XS.aloadN X440.here hx rfl (hb hby d13_179) rfl rfl k) ?_
            refine own_by (fun _ k => XS.iconst X440.here hx rfl (hb hby d13_180) k) ?_
            show own_Go _ _ _ _ (T440.setTop (mkF m 181 #[.val (.ref au), .val (.int v1_264), .val (.int (4 : Int32))] [(.int (1 : Int32)), (.ref au)]))
            obtain ⟨T452, h452, X452, e452, W452, st452⟩ := putF X440 hx hZ hown (host := "") (Or.inl (hw _ (List.mem_of_getElem? (i := 66) rfl))) Via.refl e440 f447 f444 (Or.inl (hw _ (List.mem_of_getElem? (i := 67) rfl))) (hw _ (List.mem_of_getElem? (i := 46) rfl)) (ty := .int) (by decide) rfl rfl (g := (mkF m 181 #[.val (.ref au), .val (.int v1_264), .val (.int (4 : Int32))] [(.int (1 : Int32)), (.ref au)])) rfl rfl (hb hby d13_181)
            refine own_by st452 ?_
            have f453 := f447.same W452
            have CH452 := CH440.trans (CHr.wr W452 (Safe.exa hZ.alike f444 (by decide) (by decide)) CH440.1)
            have f454 := f442.wr W452
            have f455 := f443.wr W452
            have f456 := f444.wr W452
            have f457 := f445.other W452 (Or.inr (slot_ne (Or.inl (hw _ (List.mem_of_getElem? (i := 56) rfl))) (Or.inl (hw _ (List.mem_of_getElem? (i := 67) rfl))) (by decide) (t := (.object "java/lang/String")) (t' := .int) (by decide) (by decide)))
            have f458 := f446.other W452 (Or.inr (slot_ne (Or.inl (hw _ (List.mem_of_getElem? (i := 65) rfl))) (Or.inl (hw _ (List.mem_of_getElem? (i := 67) rfl))) (by decide) (t := .int) (t' := .int) (by decide) (by decide)))
            have f459 := f441.other W452 (Or.inr (slot_ne (Or.inl (hw _ (List.mem_of_getElem? (i := 69) rfl))) (Or.inl (hw _ (List.mem_of_getElem? (i := 67) rfl))) (by decide) (t := .int) (t' := .int) (by decide) (by decide)))
            have f460 := f448.other W452 (Or.inr (slot_ne (Or.inr (hw _ (List.mem_of_getElem? (i := 58) rfl))) (Or.inl (hw _ (List.mem_of_getElem? (i := 67) rfl))) (by decide) (t := .boolean) (t' := .int) (by decide) (by decide)))
            have f461 := f449.wr W452 (Or.inl (List.mem_of_getElem? (i := 0) rfl))
            have f462 := f450.other W452 (Or.inr (slot_ne (Or.inl (hw _ (List.mem_of_getElem? (i := 127) rfl))) (Or.inl (hw _ (List.mem_of_getElem? (i := 67) rfl))) (by decide) (t := (.array .char)) (t' := .int) (by decide) (by decide)))
            have f463 := f451.other W452 Pne
            have N452 := Fr.snoc X452 N440 Pau
            have Z452 := own_size_wr W452 Z440
            have ks452 := own_size_wr W452 ks440
            show own_Go _ _ _ _ (T452.setTop (mkF m 184 #[.val (.ref au), .val (.int v1_264), .val (.int (4 : Int32))] []))
            refine own_by (fun _ k => XS.aloadN X452.here hx rfl (hb hby d13_184) rfl rfl k) ?_
            show own_Go _ _ _ _ (T452.setTop (mkF m 185 #[.val (.ref au), .val (.int v1_264), .val (.int (4 : Int32))] [(.ref au)]))
            obtain ⟨T464, X464, e464, st464⟩ := getF X452 hx hZ hown (host := "") (Or.inl (hw _ (List.mem_of_getElem? (i := 126) rfl))) Via.refl e452 f462 (g := (mkF m 185 #[.val (.ref au), .val (.int v1_264), .val (.int (4 : Int32))] [(.ref au)])) rfl rfl (hb hby d13_185)
            refine own_by st464 ?_
            refine own_by (fun _ k => XS.iconst X464.here hx rfl (hb hby d13_188) k) ?_
            show own_Go _ _ _ _ (T464.setTop (mkF m 189 #[.val (.ref au), .val (.int v1_264), .val (.int (4 : Int32))] [(.int (0 : Int32)), (.ref ea)]))
            refine own_by (fun _ k => own_cal X464 hx hZ e464 f463 0 (by decide) (by decide) (hb hby d13_189) k) ?_
            show own_Go _ _ _ _ (T464.setTop (mkF m 190 #[.val (.ref au), .val (.int v1_264), .val (.int (4 : Int32))] [(.int (fn425 0))]))
            rw [show (fn425 0) = (nar .char (92 : Int32)) from by simp [own_upd, hfn425, hfn405, hfn385, hfn365, hfn338, hfn288]]
            show own_Go _ _ _ _ (T464.setTop (mkF m 190 #[.val (.ref au), .val (.int v1_264), .val (.int (4 : Int32))] [(.int (nar .char (92 : Int32)))]))
            exact own_retHI X464 hx Bd.notSynchronized e464 Bd.returns hS350 ks452 hZ (own_EW hw) hh CH452 (hb hby d13_190) (⟨_, _, _, _, ea, fn425, rfl, N452, f461, ⟨f456, f457, f458, f453, f459, f460, Pue, Or.inr ⟨f462, f463, Pne⟩⟩, Or.inr (Or.inr ⟨hc238, kx, Pk, Pkn, rfl, Or.inr (Or.inr ⟨hc285, fun q => hc299 (hv1_264.symm.trans q), by rfl, rfl, rfl, by simp [own_upd, hfn425, hfn405, hfn385, hfn365, hfn338, hfn288, own_c92, own_c117, own_c48], by simp [own_upd, hfn425, hfn405, hfn385, hfn365, hfn338, hfn288, own_c92, own_c117, own_c48], by simp [own_upd, hfn425, hfn405, hfn385, hfn365, hfn338, hfn288, own_c92, own_c117, own_c48]⟩)⟩)⟩) (by decide) (by decide)
theorem own_US.ns {Z : State} {h : Heap} {au t : Addr} {wx ax gx lx : Int32} {ea : Addr} {fe : Nat → Int32} (U : own_US Z h au t wx ax gx lx ea fe) : ∀ cell : Cell, h[ea]? = some cell → cell.vm.isStatics = false := by
  obtain ⟨E, -, -, -, -, -, -, r⟩ := U
  rcases r with ⟨-, r, -⟩ | ⟨-, r, -⟩
  · rw [r]; exact E.nostat
  · exact r.nostat
theorem own_US.le {Z : State} {h : Heap} {au t : Addr} {wx ax gx lx : Int32} {ea : Addr} {fe : Nat → Int32} (U : own_US Z h au t wx ax gx lx ea fe) : au ≤ ea := U.2.2.2.2.2.2.1
theorem own_nb (q : Prop) [Decidable q] (m : Int32) (h : (if q then (0 : Int32) else (1 : Int32)) = m) : nar .boolean m = m := by subst h; split <;> decide
theorem own_m3 (x y : Int32) (h : ((x &&& (2147483647 : Int32)) % (3 : Int32)) = y) : own_k3 y := by
  have c1 := c_and x 2147483647 (by decide)
  have l : (3 : Int32).toInt = 3 := by decide
  have e := Int32.toInt_mod (x &&& 2147483647) 3
  rw [h, l, Int.tmod_eq_emod_of_nonneg c1.1] at e
  have b1 := Int.emod_nonneg (x &&& 2147483647).toInt (show (3 : Int) ≠ 0 by decide)
  have b2 := Int.emod_lt_of_pos (x &&& 2147483647).toInt (show (0 : Int) < 3 by decide)
  have : y.toInt = 0 ∨ y.toInt = 1 ∨ y.toInt = 2 := by omega
  rcases this with q | q | q
  · exact Or.inl (Int32.toInt_inj.mp q)
  · exact Or.inr (Or.inl (Int32.toInt_inj.mp q))
  · exact Or.inr (Or.inr (Int32.toInt_inj.mp q))
theorem own_ok0 : own_OK 1 0 0 0 := by unfold own_OK; decide
theorem own_okr {f : Int32} (h : own_k3 f) : own_OK 2 f 0 0 := by rcases h with rfl | rfl | rfl <;> (unfold own_OK; decide)
theorem own_add1 (x : Int32) (h0 : 0 ≤ x.toInt) (h1 : x.toInt ≤ 6) : (x + 1).toInt = x.toInt + 1 := by
  rw [Int32.toInt_add, show (1 : Int32).toInt = 1 by decide]
  exact Int.bmod_eq_of_le (by omega) (by omega)
theorem own_NX.ok {n : Nat} {g : Nat → Int32} {w ax gx lx : Int32} {f : Nat → Int32} {r ax' gx' lx' : Int32} {f' : Nat → Int32} (N : own_NX n g w ax gx lx f r ax' gx' lx' f') (hn : n ≤ 2) (O : own_OK n ax gx lx) : own_OK n ax' gx' lx' := by
  obtain ⟨o1, o2, o3, o4⟩ := O
  have l1 : (1 : Int32).toInt = 1 := by decide
  have l2 : (2 : Int32).toInt = 2 := by decide
  have l6 : (6 : Int32).toInt = 6 := by decide
  rcases N with ⟨h, -, rfl, rfl, rfl, -⟩ | ⟨-, -, -, rfl, rfl, rfl, -⟩ | ⟨-, kx, h1, h2, rfl, ⟨-, -, rfl, rfl, -⟩ | ⟨-, -, -, rfl, rfl, -⟩ | ⟨-, -, -, rfl, rfl, -⟩⟩
  · have h := Int32.lt_iff_toInt_lt.mp h
    exact ⟨o1, o2, by rw [own_add1 _ o3 (by omega)]; omega, o4⟩
  · exact ⟨o1, o2, o3, o4⟩
  · have q := own_add1 ax o1 (by omega)
    exact ⟨by omega, by omega, o3, o4⟩
  · have q := own_add1 ax o1 (by omega)
    exact ⟨by omega, by omega, by omega, by omega⟩
  · have q := own_add1 ax o1 (by omega)
    exact ⟨by omega, by omega, by omega, by omega⟩
theorem own_NX.a {n : Nat} {g : Nat → Int32} {w ax gx lx : Int32} {f : Nat → Int32} {r ax' gx' lx' : Int32} {f' : Nat → Int32} (N : own_NX n g w ax gx lx f r ax' gx' lx' f') (h : gx < lx) (kx : Nat) (hk : gx.toInt = (kx : Int)) : r = f kx ∧ ax' = ax ∧ gx' = gx + 1 ∧ lx' = lx ∧ f' = f := by
  rcases N with ⟨-, ⟨ky, h1, h2⟩, r⟩ | ⟨q, -⟩ | ⟨q, -⟩
  · have : ky = kx := by omega
    subst this; exact ⟨h2, r⟩
  · exact absurd h q
  · exact absurd h q
theorem own_NX.b {n : Nat} {g : Nat → Int32} {w ax gx lx : Int32} {f : Nat → Int32} {r ax' gx' lx' : Int32} {f' : Nat → Int32} (N : own_NX n g w ax gx lx f r ax' gx' lx' f') (h : ¬ gx < lx) (hk : ax.toInt = (n : Int)) : r = -1 ∧ ax' = ax ∧ gx' = gx ∧ lx' = lx ∧ f' = f := by
  rcases N with ⟨q, -⟩ | ⟨-, -, r⟩ | ⟨-, kx, q1, q2, -⟩
  · exact absurd q h
  · exact r
  · omega
theorem own_NX.c {n : Nat} {g : Nat → Int32} {w ax gx lx : Int32} {f : Nat → Int32} {r ax' gx' lx' : Int32} {f' : Nat → Int32} (N : own_NX n g w ax gx lx f r ax' gx' lx' f') (h : ¬ gx < lx) (kx : Nat) (hk : ax.toInt = (kx : Int)) (hn : kx < n) {c : Int32} (hc : own_cv (g kx) = c) : ax' = ax + 1 ∧
    ((own_es c w = 0 ∧ r = c ∧ gx' = gx ∧ lx' = lx ∧ f' = f) ∨ (¬ own_es c w = 0 ∧ c = 92 ∧ r = 92 ∧ gx' = 1 ∧ lx' = 2 ∧ f' 0 = 92 ∧ f' 1 = 92) ∨ (¬ own_es c w = 0 ∧ ¬ c = 92 ∧ r = 92 ∧ gx' = 1 ∧ lx' = 6 ∧ f' 0 = 92 ∧ f' 1 = 117 ∧ f' 2 = 48)) := by
  rcases N with ⟨q, -⟩ | ⟨-, q, -⟩ | ⟨-, ky, q1, q2, r⟩
  · exact absurd q h
  · omega
  · have : ky = kx := by omega
    subst this; subst hc; exact r
theorem own_law3 {a b f w : Int32} {g : Nat → Int32} {f0 f1 f2 f3 : Nat → Int32} {r1 a1 g1 l1 r2 a2 g2 l2 r3 a3 g3 l3 : Int32} (ha : own_cv (g 0) = a) (hb : own_cv (g 1) = b) (hf : own_k3 f)
    (N1 : own_NX 2 g w f 0 0 f0 r1 a1 g1 l1 f1) (N2 : own_NX 2 g w a1 g1 l1 f1 r2 a2 g2 l2 f2) (N3 : own_NX 2 g w a2 g2 l2 f2 r3 a3 g3 l3 f3) : r1 = own_ex a b f w 0 ∧ r2 = own_ex a b f w 1 ∧ r3 = own_ex a b f w 2 := by
  rcases hf with rfl | rfl | rfl
  · obtain ⟨rfl, ⟨e1, rfl, rfl, rfl, rfl⟩ | ⟨e1, rfl, rfl, rfl, rfl, p0, p1⟩ | ⟨e1, e2, rfl, rfl, rfl, p0, p1, p2⟩⟩ := N1.c (by decide) 0 (by decide) (by decide) ha
    · obtain ⟨rfl, ⟨d1, rfl, rfl, rfl, rfl⟩ | ⟨d1, rfl, rfl, rfl, rfl, p0, p1⟩ | ⟨d1, d2, rfl, rfl, rfl, p0, p1, p2⟩⟩ := N2.c (by decide) 1 (by decide) (by decide) hb
      · obtain ⟨rfl, -⟩ := N3.b (by decide) (by decide)
        simp [own_ex, own_ln, own_un, e1, d1]
      · obtain ⟨rfl, -⟩ := N3.a (by decide) 1 (by decide)
        simp [own_ex, own_ln, own_un, e1, d1, p1]
      · obtain ⟨rfl, -⟩ := N3.a (by decide) 1 (by decide)
        simp [own_ex, own_ln, own_un, e1, d1, d2, p1]
    · obtain ⟨rfl, rfl, rfl, rfl, rfl⟩ := N2.a (by decide) 1 (by decide)
      obtain ⟨rfl, ⟨d1, rfl, -⟩ | ⟨d1, rfl, rfl, -⟩ | ⟨d1, d2, rfl, -⟩⟩ := N3.c (by decide) 1 (by decide) (by decide) hb
      · simp [own_ex, own_ln, own_un, e1, p1, d1]
      · simp [own_ex, own_ln, own_un, e1, p1, d1]
      · simp [own_ex, own_ln, own_un, e1, p1, d1, d2]
    · obtain ⟨rfl, rfl, rfl, rfl, rfl⟩ := N2.a (by decide) 1 (by decide)
      obtain ⟨rfl, -⟩ := N3.a (by decide) 2 (by decide)
      simp [own_ex, own_ln, own_un, e1, e2, p1, p2]
  · obtain ⟨rfl, ⟨e1, rfl, rfl, rfl, rfl⟩ | ⟨e1, rfl, rfl, rfl, rfl, p0, p1⟩ | ⟨e1, e2, rfl, rfl, rfl, p0, p1, p2⟩⟩ := N1.c (by decide) 1 (by decide) (by decide) hb
    · obtain ⟨rfl, rfl, rfl, rfl, rfl⟩ := N2.b (by decide) (by decide)
      obtain ⟨rfl, -⟩ := N3.b (by decide) (by decide)
      simp [own_ex, own_ln, own_un, e1]
    · obtain ⟨rfl, rfl, rfl, rfl, rfl⟩ := N2.a (by decide) 1 (by decide)
      obtain ⟨rfl, -⟩ := N3.b (by decide) (by decide)
      simp [own_ex, own_ln, own_un, e1, p1]
    · obtain ⟨rfl, rfl, rfl, rfl, rfl⟩ := N2.a (by decide) 1 (by decide)
      obtain ⟨rfl, -⟩ := N3.a (by decide) 2 (by decide)
      simp [own_ex, own_ln, own_un, e1, e2, p1, p2]
  · obtain ⟨rfl, rfl, rfl, rfl, rfl⟩ := N1.b (by decide) (by decide)
    obtain ⟨rfl, rfl, rfl, rfl, rfl⟩ := N2.b (by decide) (by decide)
    obtain ⟨rfl, -⟩ := N3.b (by decide) (by decide)
    simp [own_ex]
set_option maxRecDepth 65536 in
set_option maxHeartbeats 40000000 in
theorem rm0 (l : Launch) (Z : State) (a0 : Array Value) (hw : ∀ d ∈ tables_1, d.before a0 Z = true) (ws : List Jvm.Cond) (p1 : Int32) (p2 : Int32) (p3 : Int32) (p4 : Int32) (p5 : Int32) (cs : Int32) (wf : Value) (h0 : Heap) (n0 : Nat) (Z0 : n0 ≤ h0.size) (PS : Sta Z h0 "java/lang/String" "COMPACT_STRINGS" "Z" (.int cs)) (Pcs : ¬ cs = 0) (PW : Sta Z h0 "jdk/internal/util/Preconditions" "SIOOBE_FORMATTER" "Ljava/util/function/BiFunction;" wf) (Pwf : wf.isRef = true) :
    MetFree l x (head1 (Jvm.Cond.code x code maxLocals ret :: ws) room_1) (fun a U => a = #[(.int p1), (.int p2), (.int p3), (.int p4), (.int p5)] ∧ Z.Warmed39 U.vm ∧ U.heap = h0 ∧ CHv Z own_EL U.vm h0) (fun _ _ _ _ _ => True) (fun _ U o U' => ∃ vv LL, o = .returned vv ∧ own_ap (fun v h L => v = some (.int 1) ∧ Fr n0 L) vv U'.heap LL ∧ CHr Z own_EL U.vm U.heap U'.vm U'.heap ∧ ReturnedEndW U o U' LL 32 2176) := by
  refine MetFree.of_bodySF (plainFor_of_name pn_0) hisR ?_
  intro p e s m args below meth c s₁ Bd hml0 hP hK
  obtain ⟨rfl, hZ, hh, Hc⟩ := hP
  have hx := Bd.exec
  have hby := Bd.bytes
  have hml : c.maxLocals = 17 := hml0
  have hown : s.vm.findClass "com/example/libmakespan/libmakespan/UnitsResetPinLaw" = some m.cls := findClass_of_methodNamed Bd.named
  have hnm := (name_of_methodNamed Bd.named Bd.method).1
  have X0 : Stand p l e room_1 (s.setVm s.vm) m #[(.int p1), (.int p2), (.int p3), (.int p4), (.int p5)] below meth c s₁ [] 0 0 := Stand.of_body Bd
  have e0 : s₁.heap = h0 := by rw [← hh, Bd.state]; rfl
  have N0 := Fr.nil n0
  have hZ : Z.Warmed39 (s.setVm s.vm).vm := hZ
  have hown : (s.setVm s.vm).vm.findClass "com/example/libmakespan/libmakespan/UnitsResetPinLaw" = some m.cls := hown
  have hS0 : s.Since s.vm 0 := (State.WarmedH.refl s).since 0
  have k0 : 0 ≤ h0.size := Nat.zero_le _
  show own_Go p.tables e below (own_QH Z own_EL s (fun v h L => v = some (.int 1) ∧ Fr n0 L) 32 2176) (s₁.setTop (entryFrame m #[(.int p1), (.int p2), (.int p3), (.int p4), (.int p5)] maxLocals))
  rw [show entryFrame m #[(.int p1), (.int p2), (.int p3), (.int p4), (.int p5)] maxLocals = mkF m 0 #[.val (.int p1), .val (.int p2), .val (.int p3), .val (.int p4), .val (.int p5), .unset, .unset, .unset, .unset, .unset, .unset, .unset, .unset, .unset, .unset, .unset, .unset] [] from by first | (simp [entryFrame, mkF, argsToLocals, Value.category, maxLocals]; done) | rfl]
  show own_Go _ _ _ _ (s₁.setTop (mkF m 0 #[.val (.int p1), .val (.int p2), .val (.int p3), .val (.int p4), .val (.int p5), .unset, .unset, .unset, .unset, .unset, .unset, .unset, .unset, .unset, .unset, .unset, .unset] []))
  refine own_by (fun _ k => XS.iloadN X0.here hx rfl (hb hby at_0) rfl k) ?_
  refine own_by (fun _ k => XS.iconst X0.here hx rfl (hb hby at_1) k) ?_
  show own_Go _ _ _ _ (s₁.setTop (mkF m 2 #[.val (.int p1), .val (.int p2), .val (.int p3), .val (.int p4), .val (.int p5), .unset, .unset, .unset, .unset, .unset, .unset, .unset, .unset, .unset, .unset, .unset, .unset] [(.int (1 : Int32)), (.int p1)]))
  refine own_by (fun _ k => XS.iand X0.here hx rfl (hb hby at_2) rfl k) ?_
  refine own_by (V := s₁.setTop (mkF m 11 #[.val (.int p1), .val (.int p2), .val (.int p3), .val (.int p4), .val (.int p5), .unset, .unset, .unset, .unset, .unset, .unset, .unset, .unset, .unset, .unset, .unset, .unset] [(.int (if (p1 &&& (1 : Int32)) = (0 : Int32) then (0 : Int32) else (1 : Int32)))])) (fun _ kk => ?_) ?_
  · --
    show Steps _ _ _ (s₁.setTop (mkF m 3 #[.val (.int p1), .val (.int p2), .val (.int p3), .val (.int p4), .val (.int p5), .unset, .unset, .unset, .unset, .unset, .unset, .unset, .unset, .unset, .unset, .unset, .unset] [(.int (p1 &&& (1 : Int32)))])) _
    by_cases hc1 : (p1 &&& (1 : Int32)) = (0 : Int32)
    · --
      refine XS.ifYes X0.here hx rfl (pc0 := 3) (pc' := 10) rfl (hb hby at_3) rfl ((if0 _ _).trans (teq hc1).1) (by decide) (by decide) ?_
      show Steps _ _ _ (s₁.setTop (mkF m 10 #[.val (.int p1), .val (.int p2), .val (.int p3), .val (.int p4), .val (.int p5), .unset, .unset, .unset, .unset, .unset, .unset, .unset, .unset, .unset, .unset, .unset, .unset] [])) _
      refine XS.iconst X0.here hx rfl (hb hby at_10) ?_
      show Steps _ _ _ (s₁.setTop (mkF m 11 #[.val (.int p1), .val (.int p2), .val (.int p3), .val (.int p4), .val (.int p5), .unset, .unset, .unset, .unset, .unset, .unset, .unset, .unset, .unset, .unset, .unset, .unset] [(.int (0 : Int32))])) _
      try simp only [if_pos hc1] at kk
      exact kk
    · --
      refine XS.ifNo X0.here hx rfl (hb hby at_3) rfl ((if0 _ _).trans (feq hc1).1) ?_
      show Steps _ _ _ (s₁.setTop (mkF m 6 #[.val (.int p1), .val (.int p2), .val (.int p3), .val (.int p4), .val (.int p5), .unset, .unset, .unset, .unset, .unset, .unset, .unset, .unset, .unset, .unset, .unset, .unset] [])) _
      refine XS.iconst X0.here hx rfl (hb hby at_6) ?_
      show Steps _ _ _ (s₁.setTop (mkF m 7 #[.val (.int p1), .val (.int p2), .val (.int p3), .val (.int p4), .val (.int p5), .unset, .unset, .unset, .unset, .unset, .unset, .unset, .unset, .unset, .unset, .unset, .unset] [(.int (1 : Int32))])) _
      refine XS.goto X0.here hx rfl (pc0 := 7) (pc' := 11) rfl (hb hby at_7) (by decide) (by decide) ?_
      show Steps _ _ _ (s₁.setTop (mkF m 11 #[.val (.int p1), .val (.int p2), .val (.int p3), .val (.int p4), .val (.int p5), .unset, .unset, .unset, .unset, .unset, .unset, .unset, .unset, .unset, .unset, .unset, .unset] [(.int (1 : Int32))])) _
      try simp only [if_neg hc1] at kk
      exact kk
  obtain ⟨m2, hm2⟩ : ∃ z_ : Int32, (if (p1 &&& (1 : Int32)) = (0 : Int32) then (0 : Int32) else (1 : Int32)) = z_ := ⟨_, rfl⟩
  refine own_gen hm2 (fun z_ => s₁.setTop (mkF m 11 #[.val (.int p1), .val (.int p2), .val (.int p3), .val (.int p4), .val (.int p5), .unset, .unset, .unset, .unset, .unset, .unset, .unset, .unset, .unset, .unset, .unset, .unset] [(.int z_)])) ?_
  show own_Go _ _ _ _ (s₁.setTop (mkF m 11 #[.val (.int p1), .val (.int p2), .val (.int p3), .val (.int p4), .val (.int p5), .unset, .unset, .unset, .unset, .unset, .unset, .unset, .unset, .unset, .unset, .unset, .unset] [(.int m2)]))
  refine own_by (fun _ k => XS.istore X0.here hx rfl (hb hby at_11) rfl (l' := #[.val (.int p1), .val (.int p2), .val (.int p3), .val (.int p4), .val (.int p5), .val (.int m2), .unset, .unset, .unset, .unset, .unset, .unset, .unset, .unset, .unset, .unset, .unset]) rfl k) ?_
  refine own_by (fun _ k => XS.iloadN X0.here hx rfl (hb hby at_13) rfl k) ?_
  refine own_by (fun _ k => XS.sipush X0.here hx rfl (hb hby at_14) k) ?_
  show own_Go _ _ _ _ (s₁.setTop (mkF m 17 #[.val (.int p1), .val (.int p2), .val (.int p3), .val (.int p4), .val (.int p5), .val (.int m2), .unset, .unset, .unset, .unset, .unset, .unset, .unset, .unset, .unset, .unset, .unset] [(.int (255 : Int32)), (.int p2)]))
  refine own_by (fun _ k => XS.iand X0.here hx rfl (hb hby at_17) rfl k) ?_
  show own_Go _ _ _ _ (s₁.setTop (mkF m 18 #[.val (.int p1), .val (.int p2), .val (.int p3), .val (.int p4), .val (.int p5), .val (.int m2), .unset, .unset, .unset, .unset, .unset, .unset, .unset, .unset, .unset, .unset, .unset] [(.int (p2 &&& (255 : Int32)))]))
  refine own_by (fun _ k => XS.i2c X0.here hx rfl (hb hby at_18) rfl k) ?_
  show own_Go _ _ _ _ (s₁.setTop (mkF m 19 #[.val (.int p1), .val (.int p2), .val (.int p3), .val (.int p4), .val (.int p5), .val (.int m2), .unset, .unset, .unset, .unset, .unset, .unset, .unset, .unset, .unset, .unset, .unset] [(.int ((p2 &&& (255 : Int32)).toUInt32.toUInt16.toUInt32.toInt32))]))
  obtain ⟨v6_3, hv6_3⟩ : ∃ z_ : Int32, ((p2 &&& (255 : Int32)).toUInt32.toUInt16.toUInt32.toInt32) = z_ := ⟨_, rfl⟩
  refine own_gen hv6_3 (fun z_ => s₁.setTop (mkF m 19 #[.val (.int p1), .val (.int p2), .val (.int p3), .val (.int p4), .val (.int p5), .val (.int m2), .unset, .unset, .unset, .unset, .unset, .unset, .unset, .unset, .unset, .unset, .unset] [(.int z_)])) ?_
  refine own_by (fun _ k => XS.istore X0.here hx rfl (hb hby at_19) rfl (l' := #[.val (.int p1), .val (.int p2), .val (.int p3), .val (.int p4), .val (.int p5), .val (.int m2), .val (.int v6_3), .unset, .unset, .unset, .unset, .unset, .unset, .unset, .unset, .unset, .unset]) rfl k) ?_
  refine own_by (fun _ k => XS.iloadN X0.here hx rfl (hb hby at_21) rfl k) ?_
  refine own_by (fun _ k => XS.sipush X0.here hx rfl (hb hby at_22) k) ?_
  show own_Go _ _ _ _ (s₁.setTop (mkF m 25 #[.val (.int p1), .val (.int p2), .val (.int p3), .val (.int p4), .val (.int p5), .val (.int m2), .val (.int v6_3), .unset, .unset, .unset, .unset, .unset, .unset, .unset, .unset, .unset, .unset] [(.int (255 : Int32)), (.int p3)]))
  refine own_by (fun _ k => XS.iand X0.here hx rfl (hb hby at_25) rfl k) ?_
  show own_Go _ _ _ _ (s₁.setTop (mkF m 26 #[.val (.int p1), .val (.int p2), .val (.int p3), .val (.int p4), .val (.int p5), .val (.int m2), .val (.int v6_3), .unset, .unset, .unset, .unset, .unset, .unset, .unset, .unset, .unset, .unset] [(.int (p3 &&& (255 : Int32)))]))
  refine own_by (fun _ k => XS.i2c X0.here hx rfl (hb hby at_26) rfl k) ?_
  show own_Go _ _ _ _ (s₁.setTop (mkF m 27 #[.val (.int p1), .val (.int p2), .val (.int p3), .val (.int p4), .val (.int p5), .val (.int m2), .val (.int v6_3), .unset, .unset, .unset, .unset, .unset, .unset, .unset, .unset, .unset, .unset] [(.int ((p3 &&& (255 : Int32)).toUInt32.toUInt16.toUInt32.toInt32))]))
  obtain ⟨v7_4, hv7_4⟩ : ∃ z_ : Int32, ((p3 &&& (255 : Int32)).toUInt32.toUInt16.toUInt32.toInt32) = z_ := ⟨_, rfl⟩
  refine own_gen hv7_4 (fun z_ => s₁.setTop (mkF m 27 #[.val (.int p1), .val (.int p2), .val (.int p3), .val (.int p4), .val (.int p5), .val (.int m2), .val (.int v6_3), .unset, .unset, .unset, .unset, .unset, .unset, .unset, .unset, .unset, .unset] [(.int z_)])) ?_
  refine own_by (fun _ k => XS.istore X0.here hx rfl (hb hby at_27) rfl (l' := #[.val (.int p1), .val (.int p2), .val (.int p3), .val (.int p4), .val (.int p5), .val (.int m2), .val (.int v6_3), .val (.int v7_4), .unset, .unset, .unset, .unset, .unset, .unset, .unset, .unset, .unset]) rfl k) ?_
  refine own_by (fun _ k => XS.iloadN X0.here hx rfl (hb hby at_29) rfl k) ?_
  refine own_by (fun _ k => XS.sipush X0.here hx rfl (hb hby at_30) k) ?_
  show own_Go _ _ _ _ (s₁.setTop (mkF m 33 #[.val (.int p1), .val (.int p2), .val (.int p3), .val (.int p4), .val (.int p5), .val (.int m2), .val (.int v6_3), .val (.int v7_4), .unset, .unset, .unset, .unset, .unset, .unset, .unset, .unset, .unset] [(.int (255 : Int32)), (.int p4)]))
  refine own_by (fun _ k => XS.iand X0.here hx rfl (hb hby at_33) rfl k) ?_
  show own_Go _ _ _ _ (s₁.setTop (mkF m 34 #[.val (.int p1), .val (.int p2), .val (.int p3), .val (.int p4), .val (.int p5), .val (.int m2), .val (.int v6_3), .val (.int v7_4), .unset, .unset, .unset, .unset, .unset, .unset, .unset, .unset, .unset] [(.int (p4 &&& (255 : Int32)))]))
  refine own_by (fun _ k => XS.i2c X0.here hx rfl (hb hby at_34) rfl k) ?_
  show own_Go _ _ _ _ (s₁.setTop (mkF m 35 #[.val (.int p1), .val (.int p2), .val (.int p3), .val (.int p4), .val (.int p5), .val (.int m2), .val (.int v6_3), .val (.int v7_4), .unset, .unset, .unset, .unset, .unset, .unset, .unset, .unset, .unset] [(.int ((p4 &&& (255 : Int32)).toUInt32.toUInt16.toUInt32.toInt32))]))
  obtain ⟨v8_5, hv8_5⟩ : ∃ z_ : Int32, ((p4 &&& (255 : Int32)).toUInt32.toUInt16.toUInt32.toInt32) = z_ := ⟨_, rfl⟩
  refine own_gen hv8_5 (fun z_ => s₁.setTop (mkF m 35 #[.val (.int p1), .val (.int p2), .val (.int p3), .val (.int p4), .val (.int p5), .val (.int m2), .val (.int v6_3), .val (.int v7_4), .unset, .unset, .unset, .unset, .unset, .unset, .unset, .unset, .unset] [(.int z_)])) ?_
  refine own_by (fun _ k => XS.istore X0.here hx rfl (hb hby at_35) rfl (l' := #[.val (.int p1), .val (.int p2), .val (.int p3), .val (.int p4), .val (.int p5), .val (.int m2), .val (.int v6_3), .val (.int v7_4), .val (.int v8_5), .unset, .unset, .unset, .unset, .unset, .unset, .unset, .unset]) rfl k) ?_
  refine own_by (fun _ k => XS.iload X0.here hx rfl (hb hby at_37) rfl k) ?_
  show own_Go _ _ _ _ (s₁.setTop (mkF m 39 #[.val (.int p1), .val (.int p2), .val (.int p3), .val (.int p4), .val (.int p5), .val (.int m2), .val (.int v6_3), .val (.int v7_4), .val (.int v8_5), .unset, .unset, .unset, .unset, .unset, .unset, .unset, .unset] [(.int p5)]))
  refine own_by (fun _ k => X0.ldcInt hx hown (mvT hZ (hw _ (List.mem_of_getElem? (i := 0) rfl))) (g := (mkF m 39 #[.val (.int p1), .val (.int p2), .val (.int p3), .val (.int p4), .val (.int p5), .val (.int m2), .val (.int v6_3), .val (.int v7_4), .val (.int v8_5), .unset, .unset, .unset, .unset, .unset, .unset, .unset, .unset] [(.int p5)])) rfl (hb hby at_39) _ k) ?_
  show own_Go _ _ _ _ (s₁.setTop (mkF m 41 #[.val (.int p1), .val (.int p2), .val (.int p3), .val (.int p4), .val (.int p5), .val (.int m2), .val (.int v6_3), .val (.int v7_4), .val (.int v8_5), .unset, .unset, .unset, .unset, .unset, .unset, .unset, .unset] [(.int (2147483647 : Int32)), (.int p5)]))
  refine own_by (fun _ k => XS.iand X0.here hx rfl (hb hby at_41) rfl k) ?_
  refine own_by (fun _ k => XS.iconst X0.here hx rfl (hb hby at_42) k) ?_
  show own_Go _ _ _ _ (s₁.setTop (mkF m 43 #[.val (.int p1), .val (.int p2), .val (.int p3), .val (.int p4), .val (.int p5), .val (.int m2), .val (.int v6_3), .val (.int v7_4), .val (.int v8_5), .unset, .unset, .unset, .unset, .unset, .unset, .unset, .unset] [(.int (3 : Int32)), (.int (p5 &&& (2147483647 : Int32)))]))
  refine own_by (fun _ k => iremM X0 hx rfl (hb hby at_43) rfl (by decide) k) ?_
  show own_Go _ _ _ _ (s₁.setTop (mkF m 44 #[.val (.int p1), .val (.int p2), .val (.int p3), .val (.int p4), .val (.int p5), .val (.int m2), .val (.int v6_3), .val (.int v7_4), .val (.int v8_5), .unset, .unset, .unset, .unset, .unset, .unset, .unset, .unset] [(.int ((p5 &&& (2147483647 : Int32)) % (3 : Int32)))]))
  obtain ⟨v9_6, hv9_6⟩ : ∃ z_ : Int32, ((p5 &&& (2147483647 : Int32)) % (3 : Int32)) = z_ := ⟨_, rfl⟩
  refine own_gen hv9_6 (fun z_ => s₁.setTop (mkF m 44 #[.val (.int p1), .val (.int p2), .val (.int p3), .val (.int p4), .val (.int p5), .val (.int m2), .val (.int v6_3), .val (.int v7_4), .val (.int v8_5), .unset, .unset, .unset, .unset, .unset, .unset, .unset, .unset] [(.int z_)])) ?_
  refine own_by (fun _ k => XS.istore X0.here hx rfl (hb hby at_44) rfl (l' := #[.val (.int p1), .val (.int p2), .val (.int p3), .val (.int p4), .val (.int p5), .val (.int m2), .val (.int v6_3), .val (.int v7_4), .val (.int v8_5), .val (.int v9_6), .unset, .unset, .unset, .unset, .unset, .unset, .unset]) rfl k) ?_
  refine own_by (fun _ k => XS.iconst X0.here hx rfl (hb hby at_46) k) ?_
  show own_Go _ _ _ _ (s₁.setTop (mkF m 47 #[.val (.int p1), .val (.int p2), .val (.int p3), .val (.int p4), .val (.int p5), .val (.int m2), .val (.int v6_3), .val (.int v7_4), .val (.int v8_5), .val (.int v9_6), .unset, .unset, .unset, .unset, .unset, .unset, .unset] [(.int (2 : Int32))]))
  refine own_newP X0 hx hZ (hw _ (List.mem_of_getElem? (i := 1) rfl)) e0 2 (by decide) 2 (by decide) (by decide) (by decide) (by decide) (hb hby at_47) ?_
  intro T7 h7 X7 e7 E7 A7
  show own_Go _ _ _ _ (T7.setTop (mkF m 49 #[.val (.int p1), .val (.int p2), .val (.int p3), .val (.int p4), .val (.int p5), .val (.int m2), .val (.int v6_3), .val (.int v7_4), .val (.int v8_5), .val (.int v9_6), .unset, .unset, .unset, .unset, .unset, .unset, .unset] [.ref h0.size]))
  obtain ⟨b7, g7⟩ : ∃ z, z = h0.size := ⟨_, rfl⟩
  rw [← g7] at A7
  refine own_gen g7.symm (fun z_ => T7.setTop (mkF m 49 #[.val (.int p1), .val (.int p2), .val (.int p3), .val (.int p4), .val (.int p5), .val (.int m2), .val (.int v6_3), .val (.int v7_4), .val (.int v8_5), .val (.int v9_6), .unset, .unset, .unset, .unset, .unset, .unset, .unset] [.ref z_])) ?_
  have ge7 : n0 ≤ b7 := Nat.le_trans Z0 (Nat.le_of_eq g7.symm)
  have nw7 : h0.size ≤ b7 := Nat.le_trans (Keep.refl h0 []).1 (Nat.le_of_eq g7.symm)
  have f8 := PS.ext E7
  have f9 := PW.ext E7
  have f10 := (Keep.refl h0 []).ext E7
  have Z7 := Nat.le_trans Z0 E7.1
  have ks7 := Nat.le_trans k0 E7.1
  have f11 : own_AI Z h7 b7 .char 2 (fun _ => 0) := A7
  show own_Go _ _ _ _ (T7.setTop (mkF m 49 #[.val (.int p1), .val (.int p2), .val (.int p3), .val (.int p4), .val (.int p5), .val (.int m2), .val (.int v6_3), .val (.int v7_4), .val (.int v8_5), .val (.int v9_6), .unset, .unset, .unset, .unset, .unset, .unset, .unset] [(.ref b7)]))
  refine own_by (fun _ k => XS.astore X7.here hx rfl (hb hby at_49) rfl rfl (l' := #[.val (.int p1), .val (.int p2), .val (.int p3), .val (.int p4), .val (.int p5), .val (.int m2), .val (.int v6_3), .val (.int v7_4), .val (.int v8_5), .val (.int v9_6), .val (.ref b7), .unset, .unset, .unset, .unset, .unset, .unset]) rfl k) ?_
  refine own_by (fun _ k => XS.aload X7.here hx rfl (hb hby at_51) rfl rfl k) ?_
  refine own_by (fun _ k => XS.iconst X7.here hx rfl (hb hby at_53) k) ?_
  show own_Go _ _ _ _ (T7.setTop (mkF m 54 #[.val (.int p1), .val (.int p2), .val (.int p3), .val (.int p4), .val (.int p5), .val (.int m2), .val (.int v6_3), .val (.int v7_4), .val (.int v8_5), .val (.int v9_6), .val (.ref b7), .unset, .unset, .unset, .unset, .unset, .unset] [(.int (0 : Int32)), (.ref b7)]))
  refine own_by (fun _ k => XS.iload X7.here hx rfl (hb hby at_54) rfl k) ?_
  show own_Go _ _ _ _ (T7.setTop (mkF m 56 #[.val (.int p1), .val (.int p2), .val (.int p3), .val (.int p4), .val (.int p5), .val (.int m2), .val (.int v6_3), .val (.int v7_4), .val (.int v8_5), .val (.int v9_6), .val (.ref b7), .unset, .unset, .unset, .unset, .unset, .unset] [(.int v6_3), (.int (0 : Int32)), (.ref b7)]))
  refine own_cas X7 hx hZ e7 f11 0 (by decide) (by decide) (hb hby at_56) ?_
  intro T12 h12 X12 e12 W12 A12
  have f13 := f8.wr W12
  have f14 := f9.wr W12
  have f15 := f10.wr W12 (Or.inr nw7)
  have N12 := Fr.snoc X12 N0 ge7
  have Z12 := own_size_wr W12 Z7
  have ks12 := own_size_wr W12 ks7
  obtain ⟨fn12, hfn12⟩ : ∃ gf_ : Nat → Int32, gf_ = own_upd (fun _ => 0) 0 (nar .char v6_3) := ⟨_, rfl⟩
  rw [← hfn12] at A12
  show own_Go _ _ _ _ (T12.setTop (mkF m 57 #[.val (.int p1), .val (.int p2), .val (.int p3), .val (.int p4), .val (.int p5), .val (.int m2), .val (.int v6_3), .val (.int v7_4), .val (.int v8_5), .val (.int v9_6), .val (.ref b7), .unset, .unset, .unset, .unset, .unset, .unset] []))
  refine own_by (fun _ k => XS.aload X12.here hx rfl (hb hby at_57) rfl rfl k) ?_
  refine own_by (fun _ k => XS.iconst X12.here hx rfl (hb hby at_59) k) ?_
  refine own_by (fun _ k => XS.iload X12.here hx rfl (hb hby at_60) rfl k) ?_
  show own_Go _ _ _ _ (T12.setTop (mkF m 62 #[.val (.int p1), .val (.int p2), .val (.int p3), .val (.int p4), .val (.int p5), .val (.int m2), .val (.int v6_3), .val (.int v7_4), .val (.int v8_5), .val (.int v9_6), .val (.ref b7), .unset, .unset, .unset, .unset, .unset, .unset] [(.int v7_4), (.int (1 : Int32)), (.ref b7)]))
  refine own_cas X12 hx hZ e12 A12 1 (by decide) (by decide) (hb hby at_62) ?_
  intro T16 h16 X16 e16 W16 A16
  have f17 := f13.wr W16
  have f18 := f14.wr W16
  have f19 := f15.wr W16 (Or.inr nw7)
  have N16 := Fr.snoc X16 N12 ge7
  have Z16 := own_size_wr W16 Z12
  have ks16 := own_size_wr W16 ks12
  obtain ⟨fn16, hfn16⟩ : ∃ gf_ : Nat → Int32, gf_ = own_upd fn12 1 (nar .char v7_4) := ⟨_, rfl⟩
  rw [← hfn16] at A16
  show own_Go _ _ _ _ (T16.setTop (mkF m 63 #[.val (.int p1), .val (.int p2), .val (.int p3), .val (.int p4), .val (.int p5), .val (.int m2), .val (.int v6_3), .val (.int v7_4), .val (.int v8_5), .val (.int v9_6), .val (.ref b7), .unset, .unset, .unset, .unset, .unset, .unset] []))
  obtain ⟨T20, h20, X20, e20, E20, A20, D20, -, st20⟩ := newO X16 hx hZ hown (hw _ (List.mem_of_getElem? (i := 2) rfl)) (hw _ (List.mem_of_getElem? (i := 3) rfl)) (hw _ (List.mem_of_getElem? (i := 4) rfl)) e16 (g := (mkF m 63 #[.val (.int p1), .val (.int p2), .val (.int p3), .val (.int p4), .val (.int p5), .val (.int m2), .val (.int v6_3), .val (.int v7_4), .val (.int v8_5), .val (.int v9_6), .val (.ref b7), .unset, .unset, .unset, .unset, .unset, .unset] [])) rfl (hb hby at_63) (by decide) (by decide)
  refine own_by st20 ?_
  show own_Go _ _ _ _ (T20.setTop (mkF m 66 #[.val (.int p1), .val (.int p2), .val (.int p3), .val (.int p4), .val (.int p5), .val (.int m2), .val (.int v6_3), .val (.int v7_4), .val (.int v8_5), .val (.int v9_6), .val (.ref b7), .unset, .unset, .unset, .unset, .unset, .unset] [.ref h16.size]))
  obtain ⟨b20, g20⟩ : ∃ z, z = h16.size := ⟨_, rfl⟩
  rw [← g20] at A20 D20
  refine own_gen g20.symm (fun z_ => T20.setTop (mkF m 66 #[.val (.int p1), .val (.int p2), .val (.int p3), .val (.int p4), .val (.int p5), .val (.int m2), .val (.int v6_3), .val (.int v7_4), .val (.int v8_5), .val (.int v9_6), .val (.ref b7), .unset, .unset, .unset, .unset, .unset, .unset] [.ref z_])) ?_
  have ne21 : b7 ≠ b20 := Nat.ne_of_lt (Nat.lt_of_lt_of_le A16.lt (Nat.le_of_eq g20.symm))
  have ge20 : n0 ≤ b20 := Nat.le_trans Z16 (Nat.le_of_eq g20.symm)
  have nw20 : h0.size ≤ b20 := Nat.le_trans f19.1 (Nat.le_of_eq g20.symm)
  have f22 := f17.ext E20
  have f23 := f18.ext E20
  have f24 := f19.ext E20
  have f25 := A16.ext E20
  have Z20 := Nat.le_trans Z16 E20.1
  have ks20 := Nat.le_trans ks16 E20.1
  have f26 : Fld Z h20 b20 "java/lang/String" "coder" "B" (.int (0 : Int32)) := D20 (Or.inr (hw _ (List.mem_of_getElem? (i := 28) rfl))) (ty := .byte) (by decide)
  have f27 : Fld Z h20 b20 "java/lang/String" "value" "[B" .null := D20 (Or.inr (hw _ (List.mem_of_getElem? (i := 30) rfl))) (ty := (.array .byte)) (by decide)
  show own_Go _ _ _ _ (T20.setTop (mkF m 66 #[.val (.int p1), .val (.int p2), .val (.int p3), .val (.int p4), .val (.int p5), .val (.int m2), .val (.int v6_3), .val (.int v7_4), .val (.int v8_5), .val (.int v9_6), .val (.ref b7), .unset, .unset, .unset, .unset, .unset, .unset] [(.ref b20)]))
  refine own_by (fun _ k => XS.dup X20.here hx rfl (hb hby at_66) rfl rfl k) ?_
  refine own_by (fun _ k => XS.aload X20.here hx rfl (hb hby at_67) rfl rfl k) ?_
  show own_Go _ _ _ _ (T20.setTop (mkF m 69 #[.val (.int p1), .val (.int p2), .val (.int p3), .val (.int p4), .val (.int p5), .val (.int m2), .val (.int v6_3), .val (.int v7_4), .val (.int v8_5), .val (.int v9_6), .val (.ref b7), .unset, .unset, .unset, .unset, .unset, .unset] [(.ref b7), (.ref b20), (.ref b20)]))
  refine own_callI X20 hx hZ hown rfl (hw _ (List.mem_of_getElem? (i := 5) rfl)) (hw _ (List.mem_of_getElem? (i := 6) rfl)) (hw _ (List.mem_of_getElem? (i := 4) rfl)) (hw _ (List.mem_of_getElem? (i := 7) rfl)) (by decide) (rm1 l Z a0 hw [] b20 b7 cs fn16 h20 n0 Z20 A20 f27 f26 ge20 f22 Pcs f25 (Ne.symm ne21) (by rw [(show fn16 0 = (nar .char v6_3) from by simp [own_upd, hfn16, hfn12]), own_lo.nar (own_lo.mask _ _ hv6_3)]; exact (own_lo.mask _ _ hv6_3)) (by rw [(show fn16 1 = (nar .char v7_4) from by simp [own_upd, hfn16]), own_lo.nar (own_lo.mask _ _ hv7_4)]; exact (own_lo.mask _ _ hv7_4))) e20 (by rw [hml]; rfl) b20 [(.ref b7)] [(.ref b20)] rfl (lenOf own_pd1 rfl) rfl 1 (Nat.le_of_eq rfl) (by decide) (by decide) (Nat.le_of_ble_eq_true rfl) (Nat.le_of_ble_eq_true rfl) (hb hby at_69) ?_
  intro T28 Lc28 v28 X28 hQ28
  obtain ⟨h28, e28⟩ : ∃ h, T28.heap = h := ⟨_, rfl⟩
  rw [e28] at hQ28
  obtain ⟨rfl, N28q, K28, bv28, fy28, FV28, FC28, AB28, cva_28, cvb_28, gb28⟩ := hQ28
  have N28 := Fr.app N16 N28q
  have f29 := own_sta_keep f22 K28 (nsS A20.nostat ns0)
  have f30 := own_sta_keep f23 K28 (nsS A20.nostat ns0)
  have f31 := f24.trans K28 (allS (P := fun x => x ∈ [] ∨ h0.size ≤ x) (Or.inr nw20) all0)
  have f32 := f25.keep K28 (ninS ne21 nin0)
  have f33 := A20.keep K28
  have Z28 := Nat.le_trans Z20 K28.1
  have ks28 := Nat.le_trans ks20 K28.1
  have cva28 : own_cv (fy28 0) = v6_3 := by rw [cva_28, (show fn16 0 = (nar .char v6_3) from by simp [own_upd, hfn16, hfn12]), own_lo.nar (own_lo.mask _ _ hv6_3)]
  have cvb28 : own_cv (fy28 1) = v7_4 := by rw [cvb_28, (show fn16 1 = (nar .char v7_4) from by simp [own_upd, hfn16]), own_lo.nar (own_lo.mask _ _ hv7_4)]
  show own_Go _ _ _ _ (T28.setTop (mkF m 72 #[.val (.int p1), .val (.int p2), .val (.int p3), .val (.int p4), .val (.int p5), .val (.int m2), .val (.int v6_3), .val (.int v7_4), .val (.int v8_5), .val (.int v9_6), .val (.ref b7), .unset, .unset, .unset, .unset, .unset, .unset] [(.ref b20)]))
  refine own_by (fun _ k => XS.astore X28.here hx rfl (hb hby at_72) rfl rfl (l' := #[.val (.int p1), .val (.int p2), .val (.int p3), .val (.int p4), .val (.int p5), .val (.int m2), .val (.int v6_3), .val (.int v7_4), .val (.int v8_5), .val (.int v9_6), .val (.ref b7), .val (.ref b20), .unset, .unset, .unset, .unset, .unset]) rfl k) ?_
  refine own_by (fun _ k => XS.iload X28.here hx rfl (hb hby at_74) rfl k) ?_
  show own_Go _ _ _ _ (T28.setTop (mkF m 76 #[.val (.int p1), .val (.int p2), .val (.int p3), .val (.int p4), .val (.int p5), .val (.int m2), .val (.int v6_3), .val (.int v7_4), .val (.int v8_5), .val (.int v9_6), .val (.ref b7), .val (.ref b20), .unset, .unset, .unset, .unset, .unset] [(.int v8_5)]))
  refine own_callS X28 hx hZ hown (hw _ (List.mem_of_getElem? (i := 31) rfl)) (hw _ (List.mem_of_getElem? (i := 32) rfl)) (hw _ (List.mem_of_getElem? (i := 4) rfl)) (hw _ (List.mem_of_getElem? (i := 33) rfl)) (by decide) (rm7 l Z a0 hw [] v8_5 cs h28 n0 Z28 f29 Pcs (own_lo.mask _ _ hv8_5)) e28 (by rw [hml]; rfl) [(.int v8_5)] [] rfl (lenOf own_pd7 rfl) rfl 0 (Nat.le_of_eq rfl) (by decide) (by decide) (Nat.le_of_ble_eq_true rfl) (Nat.le_of_ble_eq_true rfl) (hb hby at_76) ?_
  intro T36 Lc36 v36 X36 hQ36
  obtain ⟨h36, e36⟩ : ∃ h, T36.heap = h := ⟨_, rfl⟩
  rw [e36] at hQ36
  obtain ⟨bs36, rfl, N36q, K36, nw36, bv36, fy36, EX36, FV36, FC36, AB36, cv36⟩ := hQ36
  have N36 := Fr.app N28 N36q
  have f37 := own_sta_keep f29 K36 ns0
  have f38 := own_sta_keep f30 K36 ns0
  have f39 := f31.trans K36 all0
  have f40 := f32.keep K36 nin0
  have f41 := f33.keep K36
  have f42 := FV28.keep K36 nin0
  have f43 := FC28.keep K36 nin0
  have f44 := AB28.keep K36 nin0
  have Z36 := Nat.le_trans Z28 K36.1
  have ks36 := Nat.le_trans ks28 K36.1
  show own_Go _ _ _ _ (T36.setTop (mkF m 79 #[.val (.int p1), .val (.int p2), .val (.int p3), .val (.int p4), .val (.int p5), .val (.int m2), .val (.int v6_3), .val (.int v7_4), .val (.int v8_5), .val (.int v9_6), .val (.ref b7), .val (.ref b20), .unset, .unset, .unset, .unset, .unset] [(.ref bs36)]))
  refine own_by (fun _ k => XS.astore X36.here hx rfl (hb hby at_79) rfl rfl (l' := #[.val (.int p1), .val (.int p2), .val (.int p3), .val (.int p4), .val (.int p5), .val (.int m2), .val (.int v6_3), .val (.int v7_4), .val (.int v8_5), .val (.int v9_6), .val (.ref b7), .val (.ref b20), .val (.ref bs36), .unset, .unset, .unset, .unset]) rfl k) ?_
  have lt_b20 : b20 < h36.size := f41.lt
  have lt_bv28 : bv28 < h36.size := f44.lt
  have lt_bs36 : bs36 < h36.size := EX36.lt
  have lt_bv36 : bv36 < h36.size := AB36.lt
  show own_Go _ _ _ _ (T36.setTop (mkF m 81 #[.val (.int p1), .val (.int p2), .val (.int p3), .val (.int p4), .val (.int p5), .val (.int m2), .val (.int v6_3), .val (.int v7_4), .val (.int v8_5), .val (.int v9_6), .val (.ref b7), .val (.ref b20), .val (.ref bs36), .unset, .unset, .unset, .unset] []))
  obtain ⟨T45, h45, X45, e45, E45, A45, D45, -, st45⟩ := newO X36 hx hZ hown (hw _ (List.mem_of_getElem? (i := 45) rfl)) (hw _ (List.mem_of_getElem? (i := 46) rfl)) (hw _ (List.mem_of_getElem? (i := 47) rfl)) e36 (g := (mkF m 81 #[.val (.int p1), .val (.int p2), .val (.int p3), .val (.int p4), .val (.int p5), .val (.int m2), .val (.int v6_3), .val (.int v7_4), .val (.int v8_5), .val (.int v9_6), .val (.ref b7), .val (.ref b20), .val (.ref bs36), .unset, .unset, .unset, .unset] [])) rfl (hb hby at_81) (by decide) (by decide)
  refine own_by st45 ?_
  show own_Go _ _ _ _ (T45.setTop (mkF m 84 #[.val (.int p1), .val (.int p2), .val (.int p3), .val (.int p4), .val (.int p5), .val (.int m2), .val (.int v6_3), .val (.int v7_4), .val (.int v8_5), .val (.int v9_6), .val (.ref b7), .val (.ref b20), .val (.ref bs36), .unset, .unset, .unset, .unset] [.ref h36.size]))
  obtain ⟨b45, g45⟩ : ∃ z, z = h36.size := ⟨_, rfl⟩
  rw [← g45] at A45 D45
  refine own_gen g45.symm (fun z_ => T45.setTop (mkF m 84 #[.val (.int p1), .val (.int p2), .val (.int p3), .val (.int p4), .val (.int p5), .val (.int m2), .val (.int v6_3), .val (.int v7_4), .val (.int v8_5), .val (.int v9_6), .val (.ref b7), .val (.ref b20), .val (.ref bs36), .unset, .unset, .unset, .unset] [.ref z_])) ?_
  have ne46 : b20 ≠ b45 := Nat.ne_of_lt (Nat.lt_of_lt_of_le f43.lt (Nat.le_of_eq g45.symm))
  have ne47 : bv28 ≠ b45 := Nat.ne_of_lt (Nat.lt_of_lt_of_le f44.lt (Nat.le_of_eq g45.symm))
  have ne48 : bs36 ≠ b45 := Nat.ne_of_lt (Nat.lt_of_lt_of_le FC36.lt (Nat.le_of_eq g45.symm))
  have ne49 : bv36 ≠ b45 := Nat.ne_of_lt (Nat.lt_of_lt_of_le AB36.lt (Nat.le_of_eq g45.symm))
  have ge45 : n0 ≤ b45 := Nat.le_trans Z36 (Nat.le_of_eq g45.symm)
  have nw45 : h0.size ≤ b45 := Nat.le_trans f39.1 (Nat.le_of_eq g45.symm)
  have f50 := f37.ext E45
  have f51 := f38.ext E45
  have f52 := f39.ext E45
  have f53 := f41.ext E45
  have f54 := f42.ext E45
  have f55 := f43.ext E45
  have f56 := f44.ext E45
  have f57 := EX36.ext E45
  have f58 := FV36.ext E45
  have f59 := FC36.ext E45
  have f60 := AB36.ext E45
  have Z45 := Nat.le_trans Z36 E45.1
  have ks45 := Nat.le_trans ks36 E45.1
  have f61 : Fld Z h45 b45 "com/example/libmakespan/libmakespan/OneLine$Units" "text" "Ljava/lang/String;" .null := D45 (Or.inl (hw _ (List.mem_of_getElem? (i := 56) rfl))) (ty := (.object "java/lang/String")) (by decide)
  have f62 : Fld Z h45 b45 "com/example/libmakespan/libmakespan/OneLine$Units" "word" "Z" (.int (0 : Int32)) := D45 (Or.inr (hw _ (List.mem_of_getElem? (i := 58) rfl))) (ty := .boolean) (by decide)
  have f63 : Fld Z h45 b45 "com/example/libmakespan/libmakespan/OneLine$Units" "at" "I" (.int (0 : Int32)) := D45 (Or.inl (hw _ (List.mem_of_getElem? (i := 65) rfl))) (ty := .int) (by decide)
  have f64 : Fld Z h45 b45 "com/example/libmakespan/libmakespan/OneLine$Units" "given" "I" (.int (0 : Int32)) := D45 (Or.inl (hw _ (List.mem_of_getElem? (i := 67) rfl))) (ty := .int) (by decide)
  have f65 : Fld Z h45 b45 "com/example/libmakespan/libmakespan/OneLine$Units" "length" "I" (.int (0 : Int32)) := D45 (Or.inl (hw _ (List.mem_of_getElem? (i := 69) rfl))) (ty := .int) (by decide)
  have f66 : Fld Z h45 b45 "com/example/libmakespan/libmakespan/OneLine$Units" "escape" "[C" .null := D45 (Or.inl (hw _ (List.mem_of_getElem? (i := 127) rfl))) (ty := (.array .char)) (by decide)
  have lu_b20 : b20 < b45 := Nat.lt_of_lt_of_le lt_b20 (Nat.le_of_eq g45.symm)
  have lu_bv28 : bv28 < b45 := Nat.lt_of_lt_of_le lt_bv28 (Nat.le_of_eq g45.symm)
  have lu_bs36 : bs36 < b45 := Nat.lt_of_lt_of_le lt_bs36 (Nat.le_of_eq g45.symm)
  have lu_bv36 : bv36 < b45 := Nat.lt_of_lt_of_le lt_bv36 (Nat.le_of_eq g45.symm)
  show own_Go _ _ _ _ (T45.setTop (mkF m 84 #[.val (.int p1), .val (.int p2), .val (.int p3), .val (.int p4), .val (.int p5), .val (.int m2), .val (.int v6_3), .val (.int v7_4), .val (.int v8_5), .val (.int v9_6), .val (.ref b7), .val (.ref b20), .val (.ref bs36), .unset, .unset, .unset, .unset] [(.ref b45)]))
  refine own_by (fun _ k => XS.dup X45.here hx rfl (hb hby at_84) rfl rfl k) ?_
  refine own_by (fun _ k => XS.iload X45.here hx rfl (hb hby at_85) rfl k) ?_
  show own_Go _ _ _ _ (T45.setTop (mkF m 87 #[.val (.int p1), .val (.int p2), .val (.int p3), .val (.int p4), .val (.int p5), .val (.int m2), .val (.int v6_3), .val (.int v7_4), .val (.int v8_5), .val (.int v9_6), .val (.ref b7), .val (.ref b20), .val (.ref bs36), .unset, .unset, .unset, .unset] [(.int m2), (.ref b45), (.ref b45)]))
  have CHk68 := CHr.keep f52 (fun _ q => absurd q (by simp)) Hc
  refine own_callIH X45 hx hZ hown rfl (hw _ (List.mem_of_getElem? (i := 48) rfl)) (hw _ (List.mem_of_getElem? (i := 49) rfl)) (hw _ (List.mem_of_getElem? (i := 47) rfl)) (hw _ (List.mem_of_getElem? (i := 50) rfl)) (by decide) (own_EW hw) CHk68 hS0 ks45 (rm11 l Z a0 hw [] b45 m2 h45 n0 Z45 A45 f61 f63 f64 f65 f62 f66 ge45 (own_nb _ _ hm2)) e45 (by rw [hml]; rfl) b45 [(.int m2)] [(.ref b45)] rfl (lenOf own_pd11 rfl) rfl 1 (Nat.le_of_eq rfl) (by decide) (by decide) (Nat.le_of_ble_eq_true rfl) (Nat.le_of_ble_eq_true rfl) (hb hby at_87) ?_
  intro T67 Lc67 v67 X67 hS67 hZ hown CH67 hQ67
  obtain ⟨h67, e67⟩ : ∃ h, T67.heap = h := ⟨_, rfl⟩
  rw [e67] at hQ67 CH67
  obtain ⟨tz67, rfl, N67q, K67, US67⟩ := hQ67
  have N67 := Fr.app N36 N67q
  have f69 := own_sta_keep f50 K67 (nsS A45.nostat ns0)
  have f70 := own_sta_keep f51 K67 (nsS A45.nostat ns0)
  have f71 := f52.trans K67 (allS (P := fun x => x ∈ [] ∨ h0.size ≤ x) (Or.inr nw45) all0)
  have f72 := f53.keep K67
  have f73 := f54.keep K67 (ninS ne46 nin0)
  have f74 := f55.keep K67 (ninS ne46 nin0)
  have f75 := f56.keep K67 (ninS ne47 nin0)
  have f76 := f57.keep K67
  have f77 := f58.keep K67 (ninS ne48 nin0)
  have f78 := f59.keep K67 (ninS ne48 nin0)
  have f79 := f60.keep K67 (ninS ne49 nin0)
  have f80 := A45.keep K67
  have Z67 := Nat.le_trans Z45 K67.1
  have ks67 : T67.heap.size ≤ h67.size := Nat.le_of_eq (by rw [e67])
  show own_Go _ _ _ _ (T67.setTop (mkF m 90 #[.val (.int p1), .val (.int p2), .val (.int p3), .val (.int p4), .val (.int p5), .val (.int m2), .val (.int v6_3), .val (.int v7_4), .val (.int v8_5), .val (.int v9_6), .val (.ref b7), .val (.ref b20), .val (.ref bs36), .unset, .unset, .unset, .unset] [(.ref b45)]))
  refine own_by (fun _ k => XS.astore X67.here hx rfl (hb hby at_90) rfl rfl (l' := #[.val (.int p1), .val (.int p2), .val (.int p3), .val (.int p4), .val (.int p5), .val (.int m2), .val (.int v6_3), .val (.int v7_4), .val (.int v8_5), .val (.int v9_6), .val (.ref b7), .val (.ref b20), .val (.ref bs36), .val (.ref b45), .unset, .unset, .unset]) rfl k) ?_
  refine own_by (fun _ k => XS.aload X67.here hx rfl (hb hby at_92) rfl rfl k) ?_
  refine own_by (fun _ k => XS.aload X67.here hx rfl (hb hby at_94) rfl rfl k) ?_
  show own_Go _ _ _ _ (T67.setTop (mkF m 96 #[.val (.int p1), .val (.int p2), .val (.int p3), .val (.int p4), .val (.int p5), .val (.int m2), .val (.int v6_3), .val (.int v7_4), .val (.int v8_5), .val (.int v9_6), .val (.ref b7), .val (.ref b20), .val (.ref bs36), .val (.ref b45), .unset, .unset, .unset] [(.ref bs36), (.ref b45)]))
  refine own_by (fun _ k => XS.iconst X67.here hx rfl (hb hby at_96) k) ?_
  show own_Go _ _ _ _ (T67.setTop (mkF m 97 #[.val (.int p1), .val (.int p2), .val (.int p3), .val (.int p4), .val (.int p5), .val (.int m2), .val (.int v6_3), .val (.int v7_4), .val (.int v8_5), .val (.int v9_6), .val (.ref b7), .val (.ref b20), .val (.ref bs36), .val (.ref b45), .unset, .unset, .unset] [(.int (0 : Int32)), (.ref bs36), (.ref b45)]))
  refine own_callV X67 hx hZ hown (hw _ (List.mem_of_getElem? (i := 59) rfl)) (hw _ (List.mem_of_getElem? (i := 60) rfl)) (notFace_of_selects (args := #[]) (mvT hZ (hw _ (List.mem_of_getElem? (i := 62) rfl)))) (hw _ (List.mem_of_getElem? (i := 62) rfl)) (hw _ (List.mem_of_getElem? (i := 61) rfl)) (hw _ (List.mem_of_getElem? (i := 47) rfl)) (hw _ (List.mem_of_getElem? (i := 63) rfl)) (by decide) (rm12 l Z a0 hw [] b45 bs36 (0 : Int32) tz67 m2 (0 : Int32) (0 : Int32) (0 : Int32) b45 (fun _ => 0) h67 n0 Z67 US67 ge45) e67 b45 f80 (by rw [hml]; rfl) [(.ref bs36), (.int (0 : Int32))] [] rfl (lenOf own_pd12 rfl) rfl 0 (Nat.le_of_eq rfl) (by decide) (by decide) (Nat.le_of_ble_eq_true rfl) (Nat.le_of_ble_eq_true rfl) (hb hby at_97) ?_
  intro T87 Lc87 v87 X87 hQ87
  obtain ⟨h87, e87⟩ : ∃ h, T87.heap = h := ⟨_, rfl⟩
  rw [e87] at hQ87
  obtain ⟨rfl, N87q, K87, US87⟩ := hQ87
  have N87 := Fr.app N67 N87q
  have CH87 := CH67.trans (CHr.keep K87 (allS (P := fun x => Safe Z own_EL _ _ x) (Safe.exa hZ.alike f80 (by decide) (by decide)) all0) CH67.1)
  have f88 := own_sta_keep f69 K87 (nsS f80.nostat ns0)
  have f89 := own_sta_keep f70 K87 (nsS f80.nostat ns0)
  have f90 := f72.keep K87
  have f91 := f73.keep K87 (ninS ne46 nin0)
  have f92 := f74.keep K87 (ninS ne46 nin0)
  have f93 := f75.keep K87 (ninS ne47 nin0)
  have f94 := f76.keep K87
  have f95 := f77.keep K87 (ninS ne48 nin0)
  have f96 := f78.keep K87 (ninS ne48 nin0)
  have f97 := f79.keep K87 (ninS ne49 nin0)
  have f98 := f80.keep K87
  have Z87 := Nat.le_trans Z67 K87.1
  have ks87 := Nat.le_trans ks67 K87.1
  show own_Go _ _ _ _ (T87.setTop (mkF m 100 #[.val (.int p1), .val (.int p2), .val (.int p3), .val (.int p4), .val (.int p5), .val (.int m2), .val (.int v6_3), .val (.int v7_4), .val (.int v8_5), .val (.int v9_6), .val (.ref b7), .val (.ref b20), .val (.ref bs36), .val (.ref b45), .unset, .unset, .unset] []))
  refine own_by (fun _ k => XS.aload X87.here hx rfl (hb hby at_100) rfl rfl k) ?_
  show own_Go _ _ _ _ (T87.setTop (mkF m 102 #[.val (.int p1), .val (.int p2), .val (.int p3), .val (.int p4), .val (.int p5), .val (.int m2), .val (.int v6_3), .val (.int v7_4), .val (.int v8_5), .val (.int v9_6), .val (.ref b7), .val (.ref b20), .val (.ref bs36), .val (.ref b45), .unset, .unset, .unset] [(.ref b45)]))
  refine own_callVH X87 hx hZ hown (hw _ (List.mem_of_getElem? (i := 70) rfl)) (hw _ (List.mem_of_getElem? (i := 71) rfl)) (notFace_of_selects (args := #[]) (mvT hZ (hw _ (List.mem_of_getElem? (i := 73) rfl)))) (hw _ (List.mem_of_getElem? (i := 73) rfl)) (hw _ (List.mem_of_getElem? (i := 72) rfl)) (hw _ (List.mem_of_getElem? (i := 47) rfl)) (hw _ (List.mem_of_getElem? (i := 74) rfl)) (by decide) (own_EW hw) CH87 hS67 ks87 (rm13 l Z a0 hw [] b45 bs36 bv36 1 1 fy36 cs wf m2 (0 : Int32) (0 : Int32) (0 : Int32) b45 (fun _ => 0) h87 n0 Z87 US87 own_ok0 f94 f95 f96 f97 (by decide) (by decide) f88 Pcs f89 Pwf ge45 ne48 ne49) e87 b45 f98 (by rw [hml]; rfl) [] [] rfl (lenOf own_pd13 rfl) rfl 0 (Nat.le_of_eq rfl) (by decide) (by decide) (Nat.le_of_ble_eq_true rfl) (Nat.le_of_ble_eq_true rfl) (hb hby at_102) ?_
  intro T99 Lc99 v99 X99 hS99 hZ hown CH99 hQ99
  obtain ⟨h99, e99⟩ : ∃ h, T99.heap = h := ⟨_, rfl⟩
  rw [e99] at hQ99 CH99
  obtain ⟨r99, ax99, gx99, lx99, ea99, fe99, rfl, N99q, K99, US99, NX99⟩ := hQ99
  have N99 := Fr.app N87 N99q
  have f100 := own_sta_keep f88 K99 (nsS f98.nostat (nsS f98.nostat ns0))
  have f101 := own_sta_keep f89 K99 (nsS f98.nostat (nsS f98.nostat ns0))
  have f102 := f90.keep K99
  have f103 := f91.keep K99 (ninS ne46 (ninS ne46 nin0))
  have f104 := f92.keep K99 (ninS ne46 (ninS ne46 nin0))
  have f105 := f93.keep K99 (ninS ne47 (ninS ne47 nin0))
  have f106 := f94.keep K99
  have f107 := f95.keep K99 (ninS ne48 (ninS ne48 nin0))
  have f108 := f96.keep K99 (ninS ne48 (ninS ne48 nin0))
  have f109 := f97.keep K99 (ninS ne49 (ninS ne49 nin0))
  have f110 := f98.keep K99
  have Z99 := Nat.le_trans Z87 K99.1
  have ks99 : T99.heap.size ≤ h99.size := Nat.le_of_eq (by rw [e99])
  show own_Go _ _ _ _ (T99.setTop (mkF m 105 #[.val (.int p1), .val (.int p2), .val (.int p3), .val (.int p4), .val (.int p5), .val (.int m2), .val (.int v6_3), .val (.int v7_4), .val (.int v8_5), .val (.int v9_6), .val (.ref b7), .val (.ref b20), .val (.ref bs36), .val (.ref b45), .unset, .unset, .unset] [(.int r99)]))
  refine own_by (fun _ k => XS.pop X99.here hx rfl (hb hby at_105) rfl rfl k) ?_
  refine own_by (fun _ k => XS.aload X99.here hx rfl (hb hby at_106) rfl rfl k) ?_
  refine own_by (fun _ k => XS.aload X99.here hx rfl (hb hby at_108) rfl rfl k) ?_
  show own_Go _ _ _ _ (T99.setTop (mkF m 110 #[.val (.int p1), .val (.int p2), .val (.int p3), .val (.int p4), .val (.int p5), .val (.int m2), .val (.int v6_3), .val (.int v7_4), .val (.int v8_5), .val (.int v9_6), .val (.ref b7), .val (.ref b20), .val (.ref bs36), .val (.ref b45), .unset, .unset, .unset] [(.ref b20), (.ref b45)]))
  refine own_by (fun _ k => XS.iload X99.here hx rfl (hb hby at_110) rfl k) ?_
  show own_Go _ _ _ _ (T99.setTop (mkF m 112 #[.val (.int p1), .val (.int p2), .val (.int p3), .val (.int p4), .val (.int p5), .val (.int m2), .val (.int v6_3), .val (.int v7_4), .val (.int v8_5), .val (.int v9_6), .val (.ref b7), .val (.ref b20), .val (.ref bs36), .val (.ref b45), .unset, .unset, .unset] [(.int v9_6), (.ref b20), (.ref b45)]))
  refine own_callV X99 hx hZ hown (hw _ (List.mem_of_getElem? (i := 59) rfl)) (hw _ (List.mem_of_getElem? (i := 60) rfl)) (notFace_of_selects (args := #[]) (mvT hZ (hw _ (List.mem_of_getElem? (i := 62) rfl)))) (hw _ (List.mem_of_getElem? (i := 62) rfl)) (hw _ (List.mem_of_getElem? (i := 61) rfl)) (hw _ (List.mem_of_getElem? (i := 47) rfl)) (hw _ (List.mem_of_getElem? (i := 63) rfl)) (by decide) (rm12 l Z a0 hw [] b45 b20 v9_6 bs36 m2 ax99 gx99 lx99 ea99 fe99 h99 n0 Z99 US99 ge45) e99 b45 f110 (by rw [hml]; rfl) [(.ref b20), (.int v9_6)] [] rfl (lenOf own_pd12 rfl) rfl 0 (Nat.le_of_eq rfl) (by decide) (by decide) (Nat.le_of_ble_eq_true rfl) (Nat.le_of_ble_eq_true rfl) (hb hby at_112) ?_
  intro T111 Lc111 v111 X111 hQ111
  obtain ⟨h111, e111⟩ : ∃ h, T111.heap = h := ⟨_, rfl⟩
  rw [e111] at hQ111
  obtain ⟨rfl, N111q, K111, US111⟩ := hQ111
  have N111 := Fr.app N99 N111q
  have CH111 := CH99.trans (CHr.keep K111 (allS (P := fun x => Safe Z own_EL _ _ x) (Safe.exa hZ.alike f110 (by decide) (by decide)) all0) CH99.1)
  have f112 := own_sta_keep f100 K111 (nsS f110.nostat ns0)
  have f113 := own_sta_keep f101 K111 (nsS f110.nostat ns0)
  have f114 := f102.keep K111
  have f115 := f103.keep K111 (ninS ne46 nin0)
  have f116 := f104.keep K111 (ninS ne46 nin0)
  have f117 := f105.keep K111 (ninS ne47 nin0)
  have f118 := f106.keep K111
  have f119 := f107.keep K111 (ninS ne48 nin0)
  have f120 := f108.keep K111 (ninS ne48 nin0)
  have f121 := f109.keep K111 (ninS ne49 nin0)
  have f122 := f110.keep K111
  have Z111 := Nat.le_trans Z99 K111.1
  have ks111 := Nat.le_trans ks99 K111.1
  show own_Go _ _ _ _ (T111.setTop (mkF m 115 #[.val (.int p1), .val (.int p2), .val (.int p3), .val (.int p4), .val (.int p5), .val (.int m2), .val (.int v6_3), .val (.int v7_4), .val (.int v8_5), .val (.int v9_6), .val (.ref b7), .val (.ref b20), .val (.ref bs36), .val (.ref b45), .unset, .unset, .unset] []))
  refine own_by (fun _ k => XS.aload X111.here hx rfl (hb hby at_115) rfl rfl k) ?_
  show own_Go _ _ _ _ (T111.setTop (mkF m 117 #[.val (.int p1), .val (.int p2), .val (.int p3), .val (.int p4), .val (.int p5), .val (.int m2), .val (.int v6_3), .val (.int v7_4), .val (.int v8_5), .val (.int v9_6), .val (.ref b7), .val (.ref b20), .val (.ref bs36), .val (.ref b45), .unset, .unset, .unset] [(.ref b45)]))
  have nea_b20_ea99 : b20 ≠ ea99 := Nat.ne_of_lt (Nat.lt_of_lt_of_le lu_b20 US111.le)
  have nea_bv28_ea99 : bv28 ≠ ea99 := Nat.ne_of_lt (Nat.lt_of_lt_of_le lu_bv28 US111.le)
  have nea_bs36_ea99 : bs36 ≠ ea99 := Nat.ne_of_lt (Nat.lt_of_lt_of_le lu_bs36 US111.le)
  have nea_bv36_ea99 : bv36 ≠ ea99 := Nat.ne_of_lt (Nat.lt_of_lt_of_le lu_bv36 US111.le)
  refine own_callVH X111 hx hZ hown (hw _ (List.mem_of_getElem? (i := 70) rfl)) (hw _ (List.mem_of_getElem? (i := 71) rfl)) (notFace_of_selects (args := #[]) (mvT hZ (hw _ (List.mem_of_getElem? (i := 73) rfl)))) (hw _ (List.mem_of_getElem? (i := 73) rfl)) (hw _ (List.mem_of_getElem? (i := 72) rfl)) (hw _ (List.mem_of_getElem? (i := 47) rfl)) (hw _ (List.mem_of_getElem? (i := 74) rfl)) (by decide) (own_EW hw) CH111 hS99 ks111 (rm13 l Z a0 hw [] b45 b20 bv28 2 2 fy28 cs wf m2 v9_6 (0 : Int32) (0 : Int32) ea99 fe99 h111 n0 Z111 US111 (own_okr (own_m3 _ _ hv9_6)) f114 f115 f116 f117 (by decide) (by decide) f112 Pcs f113 Pwf ge45 ne46 ne47) e111 b45 f122 (by rw [hml]; rfl) [] [] rfl (lenOf own_pd13 rfl) rfl 0 (Nat.le_of_eq rfl) (by decide) (by decide) (Nat.le_of_ble_eq_true rfl) (Nat.le_of_ble_eq_true rfl) (hb hby at_117) ?_
  intro T123 Lc123 v123 X123 hS123 hZ hown CH123 hQ123
  obtain ⟨h123, e123⟩ : ∃ h, T123.heap = h := ⟨_, rfl⟩
  rw [e123] at hQ123 CH123
  obtain ⟨r123, ax123, gx123, lx123, ea123, fe123, rfl, N123q, K123, US123, NX123⟩ := hQ123
  have N123 := Fr.app N111 N123q
  have f124 := own_sta_keep f112 K123 (nsS f122.nostat (nsS US111.ns ns0))
  have f125 := own_sta_keep f113 K123 (nsS f122.nostat (nsS US111.ns ns0))
  have f126 := f114.keep K123
  have f127 := f115.keep K123 (ninS ne46 (ninS nea_b20_ea99 nin0))
  have f128 := f116.keep K123 (ninS ne46 (ninS nea_b20_ea99 nin0))
  have f129 := f117.keep K123 (ninS ne47 (ninS nea_bv28_ea99 nin0))
  have f130 := f118.keep K123
  have f131 := f119.keep K123 (ninS ne48 (ninS nea_bs36_ea99 nin0))
  have f132 := f120.keep K123 (ninS ne48 (ninS nea_bs36_ea99 nin0))
  have f133 := f121.keep K123 (ninS ne49 (ninS nea_bv36_ea99 nin0))
  have f134 := f122.keep K123
  have Z123 := Nat.le_trans Z111 K123.1
  have ks123 : T123.heap.size ≤ h123.size := Nat.le_of_eq (by rw [e123])
  show own_Go _ _ _ _ (T123.setTop (mkF m 120 #[.val (.int p1), .val (.int p2), .val (.int p3), .val (.int p4), .val (.int p5), .val (.int m2), .val (.int v6_3), .val (.int v7_4), .val (.int v8_5), .val (.int v9_6), .val (.ref b7), .val (.ref b20), .val (.ref bs36), .val (.ref b45), .unset, .unset, .unset] [(.int r123)]))
  refine own_by (fun _ k => XS.istore X123.here hx rfl (hb hby at_120) rfl (l' := #[.val (.int p1), .val (.int p2), .val (.int p3), .val (.int p4), .val (.int p5), .val (.int m2), .val (.int v6_3), .val (.int v7_4), .val (.int v8_5), .val (.int v9_6), .val (.ref b7), .val (.ref b20), .val (.ref bs36), .val (.ref b45), .val (.int r123), .unset, .unset]) rfl k) ?_
  refine own_by (fun _ k => XS.aload X123.here hx rfl (hb hby at_122) rfl rfl k) ?_
  show own_Go _ _ _ _ (T123.setTop (mkF m 124 #[.val (.int p1), .val (.int p2), .val (.int p3), .val (.int p4), .val (.int p5), .val (.int m2), .val (.int v6_3), .val (.int v7_4), .val (.int v8_5), .val (.int v9_6), .val (.ref b7), .val (.ref b20), .val (.ref bs36), .val (.ref b45), .val (.int r123), .unset, .unset] [(.ref b45)]))
  have nea_b20_ea123 : b20 ≠ ea123 := Nat.ne_of_lt (Nat.lt_of_lt_of_le lu_b20 US123.le)
  have nea_bv28_ea123 : bv28 ≠ ea123 := Nat.ne_of_lt (Nat.lt_of_lt_of_le lu_bv28 US123.le)
  have nea_bs36_ea123 : bs36 ≠ ea123 := Nat.ne_of_lt (Nat.lt_of_lt_of_le lu_bs36 US123.le)
  have nea_bv36_ea123 : bv36 ≠ ea123 := Nat.ne_of_lt (Nat.lt_of_lt_of_le lu_bv36 US123.le)
  refine own_callVH X123 hx hZ hown (hw _ (List.mem_of_getElem? (i := 70) rfl)) (hw _ (List.mem_of_getElem? (i := 71) rfl)) (notFace_of_selects (args := #[]) (mvT hZ (hw _ (List.mem_of_getElem? (i := 73) rfl)))) (hw _ (List.mem_of_getElem? (i := 73) rfl)) (hw _ (List.mem_of_getElem? (i := 72) rfl)) (hw _ (List.mem_of_getElem? (i := 47) rfl)) (hw _ (List.mem_of_getElem? (i := 74) rfl)) (by decide) (own_EW hw) CH123 hS123 ks123 (rm13 l Z a0 hw [] b45 b20 bv28 2 2 fy28 cs wf m2 ax123 gx123 lx123 ea123 fe123 h123 n0 Z123 US123 (NX123.ok (by decide) (own_okr (own_m3 _ _ hv9_6))) f126 f127 f128 f129 (by decide) (by decide) f124 Pcs f125 Pwf ge45 ne46 ne47) e123 b45 f134 (by rw [hml]; rfl) [] [] rfl (lenOf own_pd13 rfl) rfl 0 (Nat.le_of_eq rfl) (by decide) (by decide) (Nat.le_of_ble_eq_true rfl) (Nat.le_of_ble_eq_true rfl) (hb hby at_124) ?_
  intro T135 Lc135 v135 X135 hS135 hZ hown CH135 hQ135
  obtain ⟨h135, e135⟩ : ∃ h, T135.heap = h := ⟨_, rfl⟩
  rw [e135] at hQ135 CH135
  obtain ⟨r135, ax135, gx135, lx135, ea135, fe135, rfl, N135q, K135, US135, NX135⟩ := hQ135
  have N135 := Fr.app N123 N135q
  have f136 := own_sta_keep f124 K135 (nsS f134.nostat (nsS US123.ns ns0))
  have f137 := own_sta_keep f125 K135 (nsS f134.nostat (nsS US123.ns ns0))
  have f138 := f126.keep K135
  have f139 := f127.keep K135 (ninS ne46 (ninS nea_b20_ea123 nin0))
  have f140 := f128.keep K135 (ninS ne46 (ninS nea_b20_ea123 nin0))
  have f141 := f129.keep K135 (ninS ne47 (ninS nea_bv28_ea123 nin0))
  have f142 := f130.keep K135
  have f143 := f131.keep K135 (ninS ne48 (ninS nea_bs36_ea123 nin0))
  have f144 := f132.keep K135 (ninS ne48 (ninS nea_bs36_ea123 nin0))
  have f145 := f133.keep K135 (ninS ne49 (ninS nea_bv36_ea123 nin0))
  have f146 := f134.keep K135
  have Z135 := Nat.le_trans Z123 K135.1
  have ks135 : T135.heap.size ≤ h135.size := Nat.le_of_eq (by rw [e135])
  show own_Go _ _ _ _ (T135.setTop (mkF m 127 #[.val (.int p1), .val (.int p2), .val (.int p3), .val (.int p4), .val (.int p5), .val (.int m2), .val (.int v6_3), .val (.int v7_4), .val (.int v8_5), .val (.int v9_6), .val (.ref b7), .val (.ref b20), .val (.ref bs36), .val (.ref b45), .val (.int r123), .unset, .unset] [(.int r135)]))
  refine own_by (fun _ k => XS.istore X135.here hx rfl (hb hby at_127) rfl (l' := #[.val (.int p1), .val (.int p2), .val (.int p3), .val (.int p4), .val (.int p5), .val (.int m2), .val (.int v6_3), .val (.int v7_4), .val (.int v8_5), .val (.int v9_6), .val (.ref b7), .val (.ref b20), .val (.ref bs36), .val (.ref b45), .val (.int r123), .val (.int r135), .unset]) rfl k) ?_
  refine own_by (fun _ k => XS.aload X135.here hx rfl (hb hby at_129) rfl rfl k) ?_
  show own_Go _ _ _ _ (T135.setTop (mkF m 131 #[.val (.int p1), .val (.int p2), .val (.int p3), .val (.int p4), .val (.int p5), .val (.int m2), .val (.int v6_3), .val (.int v7_4), .val (.int v8_5), .val (.int v9_6), .val (.ref b7), .val (.ref b20), .val (.ref bs36), .val (.ref b45), .val (.int r123), .val (.int r135), .unset] [(.ref b45)]))
  have nea_b20_ea135 : b20 ≠ ea135 := Nat.ne_of_lt (Nat.lt_of_lt_of_le lu_b20 US135.le)
  have nea_bv28_ea135 : bv28 ≠ ea135 := Nat.ne_of_lt (Nat.lt_of_lt_of_le lu_bv28 US135.le)
  have nea_bs36_ea135 : bs36 ≠ ea135 := Nat.ne_of_lt (Nat.lt_of_lt_of_le lu_bs36 US135.le)
  have nea_bv36_ea135 : bv36 ≠ ea135 := Nat.ne_of_lt (Nat.lt_of_lt_of_le lu_bv36 US135.le)
  refine own_callVH X135 hx hZ hown (hw _ (List.mem_of_getElem? (i := 70) rfl)) (hw _ (List.mem_of_getElem? (i := 71) rfl)) (notFace_of_selects (args := #[]) (mvT hZ (hw _ (List.mem_of_getElem? (i := 73) rfl)))) (hw _ (List.mem_of_getElem? (i := 73) rfl)) (hw _ (List.mem_of_getElem? (i := 72) rfl)) (hw _ (List.mem_of_getElem? (i := 47) rfl)) (hw _ (List.mem_of_getElem? (i := 74) rfl)) (by decide) (own_EW hw) CH135 hS135 ks135 (rm13 l Z a0 hw [] b45 b20 bv28 2 2 fy28 cs wf m2 ax135 gx135 lx135 ea135 fe135 h135 n0 Z135 US135 (NX135.ok (by decide) (NX123.ok (by decide) (own_okr (own_m3 _ _ hv9_6)))) f138 f139 f140 f141 (by decide) (by decide) f136 Pcs f137 Pwf ge45 ne46 ne47) e135 b45 f146 (by rw [hml]; rfl) [] [] rfl (lenOf own_pd13 rfl) rfl 0 (Nat.le_of_eq rfl) (by decide) (by decide) (Nat.le_of_ble_eq_true rfl) (Nat.le_of_ble_eq_true rfl) (hb hby at_131) ?_
  intro T147 Lc147 v147 X147 hS147 hZ hown CH147 hQ147
  obtain ⟨h147, e147⟩ : ∃ h, T147.heap = h := ⟨_, rfl⟩
  rw [e147] at hQ147 CH147
  obtain ⟨r147, ax147, gx147, lx147, ea147, fe147, rfl, N147q, K147, US147, NX147⟩ := hQ147
  have N147 := Fr.app N135 N147q
  have f148 := own_sta_keep f136 K147 (nsS f146.nostat (nsS US135.ns ns0))
  have f149 := own_sta_keep f137 K147 (nsS f146.nostat (nsS US135.ns ns0))
  have f150 := f138.keep K147
  have f151 := f139.keep K147 (ninS ne46 (ninS nea_b20_ea135 nin0))
  have f152 := f140.keep K147 (ninS ne46 (ninS nea_b20_ea135 nin0))
  have f153 := f141.keep K147 (ninS ne47 (ninS nea_bv28_ea135 nin0))
  have f154 := f142.keep K147
  have f155 := f143.keep K147 (ninS ne48 (ninS nea_bs36_ea135 nin0))
  have f156 := f144.keep K147 (ninS ne48 (ninS nea_bs36_ea135 nin0))
  have f157 := f145.keep K147 (ninS ne49 (ninS nea_bv36_ea135 nin0))
  have f158 := f146.keep K147
  have Z147 := Nat.le_trans Z135 K147.1
  have ks147 : T147.heap.size ≤ h147.size := Nat.le_of_eq (by rw [e147])
  show own_Go _ _ _ _ (T147.setTop (mkF m 134 #[.val (.int p1), .val (.int p2), .val (.int p3), .val (.int p4), .val (.int p5), .val (.int m2), .val (.int v6_3), .val (.int v7_4), .val (.int v8_5), .val (.int v9_6), .val (.ref b7), .val (.ref b20), .val (.ref bs36), .val (.ref b45), .val (.int r123), .val (.int r135), .unset] [(.int r147)]))
  refine own_by (fun _ k => XS.istore X147.here hx rfl (hb hby at_134) rfl (l' := #[.val (.int p1), .val (.int p2), .val (.int p3), .val (.int p4), .val (.int p5), .val (.int m2), .val (.int v6_3), .val (.int v7_4), .val (.int v8_5), .val (.int v9_6), .val (.ref b7), .val (.ref b20), .val (.ref bs36), .val (.ref b45), .val (.int r123), .val (.int r135), .val (.int r147)]) rfl k) ?_
  refine own_by (fun _ k => XS.iload X147.here hx rfl (hb hby at_136) rfl k) ?_
  refine own_by (fun _ k => XS.iload X147.here hx rfl (hb hby at_138) rfl k) ?_
  show own_Go _ _ _ _ (T147.setTop (mkF m 140 #[.val (.int p1), .val (.int p2), .val (.int p3), .val (.int p4), .val (.int p5), .val (.int m2), .val (.int v6_3), .val (.int v7_4), .val (.int v8_5), .val (.int v9_6), .val (.ref b7), .val (.ref b20), .val (.ref bs36), .val (.ref b45), .val (.int r123), .val (.int r135), .val (.int r147)] [(.int v6_3), (.int r123)]))
  refine own_by (fun _ k => XS.iload X147.here hx rfl (hb hby at_140) rfl k) ?_
  refine own_by (fun _ k => XS.iload X147.here hx rfl (hb hby at_142) rfl k) ?_
  refine own_by (fun _ k => XS.iload X147.here hx rfl (hb hby at_144) rfl k) ?_
  show own_Go _ _ _ _ (T147.setTop (mkF m 146 #[.val (.int p1), .val (.int p2), .val (.int p3), .val (.int p4), .val (.int p5), .val (.int m2), .val (.int v6_3), .val (.int v7_4), .val (.int v8_5), .val (.int v9_6), .val (.ref b7), .val (.ref b20), .val (.ref bs36), .val (.ref b45), .val (.int r123), .val (.int r135), .val (.int r147)] [(.int m2), (.int v9_6), (.int v7_4), (.int v6_3), (.int r123)]))
  refine own_by (fun _ k => XS.iconst X147.here hx rfl (hb hby at_146) k) ?_
  show own_Go _ _ _ _ (T147.setTop (mkF m 147 #[.val (.int p1), .val (.int p2), .val (.int p3), .val (.int p4), .val (.int p5), .val (.int m2), .val (.int v6_3), .val (.int v7_4), .val (.int v8_5), .val (.int v9_6), .val (.ref b7), .val (.ref b20), .val (.ref bs36), .val (.ref b45), .val (.int r123), .val (.int r135), .val (.int r147)] [(.int (0 : Int32)), (.int m2), (.int v9_6), (.int v7_4), (.int v6_3), (.int r123)]))
  refine own_callS X147 hx hZ hown (hw _ (List.mem_of_getElem? (i := 129) rfl)) (hw _ (List.mem_of_getElem? (i := 130) rfl)) (hw _ (List.mem_of_getElem? (i := 131) rfl)) (hw _ (List.mem_of_getElem? (i := 132) rfl)) (by decide) (rm26 l Z a0 hw [] v6_3 v7_4 v9_6 m2 (0 : Int32) h147 n0 Z147 (by unfold own_k3; decide) (own_m3 _ _ hv9_6)) e147 (by rw [hml]; rfl) [(.int v6_3), (.int v7_4), (.int v9_6), (.int m2), (.int (0 : Int32))] [(.int r123)] rfl (lenOf own_pd22 rfl) rfl 1 (Nat.le_of_eq rfl) (by decide) (by decide) (Nat.le_of_ble_eq_true rfl) (Nat.le_of_ble_eq_true rfl) (hb hby at_147) ?_
  intro T159 Lc159 v159 X159 hQ159
  obtain ⟨rfl, N159q, e159⟩ := hQ159
  have N159 := Fr.app N147 N159q
  show own_Go _ _ _ _ (T159.setTop (mkF m 150 #[.val (.int p1), .val (.int p2), .val (.int p3), .val (.int p4), .val (.int p5), .val (.int m2), .val (.int v6_3), .val (.int v7_4), .val (.int v8_5), .val (.int v9_6), .val (.ref b7), .val (.ref b20), .val (.ref bs36), .val (.ref b45), .val (.int r123), .val (.int r135), .val (.int r147)] [(.int (own_ex v6_3 v7_4 v9_6 m2 (0 : Int32))), (.int r123)]))
  refine own_by (fun _ k => XS.icmpNo X159.here hx rfl (hb hby at_150) rfl (teq (own_law3 cva28 cvb28 (own_m3 _ _ hv9_6) NX123 NX135 NX147).1).2 k) ?_
  refine own_by (fun _ k => XS.iload X159.here hx rfl (hb hby at_153) rfl k) ?_
  refine own_by (fun _ k => XS.iload X159.here hx rfl (hb hby at_155) rfl k) ?_
  show own_Go _ _ _ _ (T159.setTop (mkF m 157 #[.val (.int p1), .val (.int p2), .val (.int p3), .val (.int p4), .val (.int p5), .val (.int m2), .val (.int v6_3), .val (.int v7_4), .val (.int v8_5), .val (.int v9_6), .val (.ref b7), .val (.ref b20), .val (.ref bs36), .val (.ref b45), .val (.int r123), .val (.int r135), .val (.int r147)] [(.int v6_3), (.int r135)]))
  refine own_by (fun _ k => XS.iload X159.here hx rfl (hb hby at_157) rfl k) ?_
  refine own_by (fun _ k => XS.iload X159.here hx rfl (hb hby at_159) rfl k) ?_
  refine own_by (fun _ k => XS.iload X159.here hx rfl (hb hby at_161) rfl k) ?_
  show own_Go _ _ _ _ (T159.setTop (mkF m 163 #[.val (.int p1), .val (.int p2), .val (.int p3), .val (.int p4), .val (.int p5), .val (.int m2), .val (.int v6_3), .val (.int v7_4), .val (.int v8_5), .val (.int v9_6), .val (.ref b7), .val (.ref b20), .val (.ref bs36), .val (.ref b45), .val (.int r123), .val (.int r135), .val (.int r147)] [(.int m2), (.int v9_6), (.int v7_4), (.int v6_3), (.int r135)]))
  refine own_by (fun _ k => XS.iconst X159.here hx rfl (hb hby at_163) k) ?_
  show own_Go _ _ _ _ (T159.setTop (mkF m 164 #[.val (.int p1), .val (.int p2), .val (.int p3), .val (.int p4), .val (.int p5), .val (.int m2), .val (.int v6_3), .val (.int v7_4), .val (.int v8_5), .val (.int v9_6), .val (.ref b7), .val (.ref b20), .val (.ref bs36), .val (.ref b45), .val (.int r123), .val (.int r135), .val (.int r147)] [(.int (1 : Int32)), (.int m2), (.int v9_6), (.int v7_4), (.int v6_3), (.int r135)]))
  refine own_callS X159 hx hZ hown (hw _ (List.mem_of_getElem? (i := 129) rfl)) (hw _ (List.mem_of_getElem? (i := 130) rfl)) (hw _ (List.mem_of_getElem? (i := 131) rfl)) (hw _ (List.mem_of_getElem? (i := 132) rfl)) (by decide) (rm26 l Z a0 hw [] v6_3 v7_4 v9_6 m2 (1 : Int32) h147 n0 Z147 (by unfold own_k3; decide) (own_m3 _ _ hv9_6)) e159 (by rw [hml]; rfl) [(.int v6_3), (.int v7_4), (.int v9_6), (.int m2), (.int (1 : Int32))] [(.int r135)] rfl (lenOf own_pd22 rfl) rfl 1 (Nat.le_of_eq rfl) (by decide) (by decide) (Nat.le_of_ble_eq_true rfl) (Nat.le_of_ble_eq_true rfl) (hb hby at_164) ?_
  intro T160 Lc160 v160 X160 hQ160
  obtain ⟨rfl, N160q, e160⟩ := hQ160
  have N160 := Fr.app N159 N160q
  show own_Go _ _ _ _ (T160.setTop (mkF m 167 #[.val (.int p1), .val (.int p2), .val (.int p3), .val (.int p4), .val (.int p5), .val (.int m2), .val (.int v6_3), .val (.int v7_4), .val (.int v8_5), .val (.int v9_6), .val (.ref b7), .val (.ref b20), .val (.ref bs36), .val (.ref b45), .val (.int r123), .val (.int r135), .val (.int r147)] [(.int (own_ex v6_3 v7_4 v9_6 m2 (1 : Int32))), (.int r135)]))
  refine own_by (fun _ k => XS.icmpNo X160.here hx rfl (hb hby at_167) rfl (teq (own_law3 cva28 cvb28 (own_m3 _ _ hv9_6) NX123 NX135 NX147).2.1).2 k) ?_
  refine own_by (fun _ k => XS.iload X160.here hx rfl (hb hby at_170) rfl k) ?_
  refine own_by (fun _ k => XS.iload X160.here hx rfl (hb hby at_172) rfl k) ?_
  show own_Go _ _ _ _ (T160.setTop (mkF m 174 #[.val (.int p1), .val (.int p2), .val (.int p3), .val (.int p4), .val (.int p5), .val (.int m2), .val (.int v6_3), .val (.int v7_4), .val (.int v8_5), .val (.int v9_6), .val (.ref b7), .val (.ref b20), .val (.ref bs36), .val (.ref b45), .val (.int r123), .val (.int r135), .val (.int r147)] [(.int v6_3), (.int r147)]))
  refine own_by (fun _ k => XS.iload X160.here hx rfl (hb hby at_174) rfl k) ?_
  refine own_by (fun _ k => XS.iload X160.here hx rfl (hb hby at_176) rfl k) ?_
  refine own_by (fun _ k => XS.iload X160.here hx rfl (hb hby at_178) rfl k) ?_
  show own_Go _ _ _ _ (T160.setTop (mkF m 180 #[.val (.int p1), .val (.int p2), .val (.int p3), .val (.int p4), .val (.int p5), .val (.int m2), .val (.int v6_3), .val (.int v7_4), .val (.int v8_5), .val (.int v9_6), .val (.ref b7), .val (.ref b20), .val (.ref bs36), .val (.ref b45), .val (.int r123), .val (.int r135), .val (.int r147)] [(.int m2), (.int v9_6), (.int v7_4), (.int v6_3), (.int r147)]))
  refine own_by (fun _ k => XS.iconst X160.here hx rfl (hb hby at_180) k) ?_
  show own_Go _ _ _ _ (T160.setTop (mkF m 181 #[.val (.int p1), .val (.int p2), .val (.int p3), .val (.int p4), .val (.int p5), .val (.int m2), .val (.int v6_3), .val (.int v7_4), .val (.int v8_5), .val (.int v9_6), .val (.ref b7), .val (.ref b20), .val (.ref bs36), .val (.ref b45), .val (.int r123), .val (.int r135), .val (.int r147)] [(.int (2 : Int32)), (.int m2), (.int v9_6), (.int v7_4), (.int v6_3), (.int r147)]))
  refine own_callS X160 hx hZ hown (hw _ (List.mem_of_getElem? (i := 129) rfl)) (hw _ (List.mem_of_getElem? (i := 130) rfl)) (hw _ (List.mem_of_getElem? (i := 131) rfl)) (hw _ (List.mem_of_getElem? (i := 132) rfl)) (by decide) (rm26 l Z a0 hw [] v6_3 v7_4 v9_6 m2 (2 : Int32) h147 n0 Z147 (by unfold own_k3; decide) (own_m3 _ _ hv9_6)) e160 (by rw [hml]; rfl) [(.int v6_3), (.int v7_4), (.int v9_6), (.int m2), (.int (2 : Int32))] [(.int r147)] rfl (lenOf own_pd22 rfl) rfl 1 (Nat.le_of_eq rfl) (by decide) (by decide) (Nat.le_of_ble_eq_true rfl) (Nat.le_of_ble_eq_true rfl) (hb hby at_181) ?_
  intro T161 Lc161 v161 X161 hQ161
  obtain ⟨rfl, N161q, e161⟩ := hQ161
  have N161 := Fr.app N160 N161q
  show own_Go _ _ _ _ (T161.setTop (mkF m 184 #[.val (.int p1), .val (.int p2), .val (.int p3), .val (.int p4), .val (.int p5), .val (.int m2), .val (.int v6_3), .val (.int v7_4), .val (.int v8_5), .val (.int v9_6), .val (.ref b7), .val (.ref b20), .val (.ref bs36), .val (.ref b45), .val (.int r123), .val (.int r135), .val (.int r147)] [(.int (own_ex v6_3 v7_4 v9_6 m2 (2 : Int32))), (.int r147)]))
  refine own_by (fun _ k => XS.icmpNo X161.here hx rfl (hb hby at_184) rfl (teq (own_law3 cva28 cvb28 (own_m3 _ _ hv9_6) NX123 NX135 NX147).2.2).2 k) ?_
  refine own_by (fun _ k => XS.iconst X161.here hx rfl (hb hby at_187) k) ?_
  show own_Go _ _ _ _ (T161.setTop (mkF m 188 #[.val (.int p1), .val (.int p2), .val (.int p3), .val (.int p4), .val (.int p5), .val (.int m2), .val (.int v6_3), .val (.int v7_4), .val (.int v8_5), .val (.int v9_6), .val (.ref b7), .val (.ref b20), .val (.ref bs36), .val (.ref b45), .val (.int r123), .val (.int r135), .val (.int r147)] [(.int (1 : Int32))]))
  refine own_by (fun _ k => XS.goto X161.here hx rfl (pc0 := 188) (pc' := 192) rfl (hb hby at_188) (by decide) (by decide) k) ?_
  show own_Go _ _ _ _ (T161.setTop (mkF m 192 #[.val (.int p1), .val (.int p2), .val (.int p3), .val (.int p4), .val (.int p5), .val (.int m2), .val (.int v6_3), .val (.int v7_4), .val (.int v8_5), .val (.int v9_6), .val (.ref b7), .val (.ref b20), .val (.ref bs36), .val (.ref b45), .val (.int r123), .val (.int r135), .val (.int r147)] [(.int (1 : Int32))]))
  exact own_retHN X161 hx Bd.notSynchronized e161 Bd.returns hS147 ks147 hZ (own_EW hw) hh CH147 (by simp) (hb hby at_192) (⟨rfl, N161⟩) (by decide) (by decide)
theorem own_isref {args : Array Value} {s : State} {t : Term} (h : (Jvm.Cond.isRef t).value args s none s [] = some true) : ∃ v, t.eval args s none [] s = some v ∧ v.isRef = true := by
  cases e : t.eval args s none [] s with
  | none => simp [Cond.value, e] at h
  | some v => exact ⟨v, rfl, by cases v <;> first | rfl | simp [Cond.value, e] at h⟩
set_option maxRecDepth 65536 in
set_option maxHeartbeats 40000000 in
theorem comes_1 {Post : Tables → Env → Array Value → State → Outcome → State → Prop} (hpost : ∀ tb e args s v u, (limb_1_1.after args s (.returned v) u = true ∧ limb_1_2.after args s (.returned v) u = true ∧ True) → ReturnedEndW s (.returned v) u (Jvm.fieldLocs frame_1_writes args s ++ Jvm.arrayLocs frame_1_arrays args s ++ Jvm.staticLocs frame_1_statics s) 32 2176 → Post tb e args s (.returned v) u) :
    ArmFor flags0 classFile x code maxLocals ret World_1 tables_1 room_1 Calls_1 rest_1 Pre_1 Post := by
  intro l hfl _ _ p e ha hc hk s m args below hf hA hF happ hP
  obtain ⟨hcalls, hrest, hpre⟩ := hP
  obtain ⟨-, -, -, hnamed, -, -, -, hat⟩ := (Spec.applies_iff hf).mp happ
  obtain ⟨hg, hn⟩ := and_e (Cond.before_iff.mp (show (Jvm.Cond.and given_1 narrow_1).before args s = true from hpre))
  obtain ⟨g1, g2⟩ := and_e hg
  obtain ⟨g3, g4⟩ := and_e g2
  obtain ⟨g5, g6⟩ := and_e g4
  obtain ⟨g7, g8⟩ := and_e g6
  obtain ⟨g9, g10⟩ := and_e g8
  obtain ⟨w0, w1, w2, w3, w4, rfl⟩ : ∃ w0 w1 w2 w3 w4 : Value, args = #[w0, w1, w2, w3, w4] := by
    have hs : args.size = 5 := by simpa [Cond.value, given_1] using g1
    obtain ⟨L⟩ := args
    match L, hs with
    | [w0, w1, w2, w3, w4], _ => exact ⟨w0, w1, w2, w3, w4, rfl⟩
  have hw := fun d (hd : d ∈ tables_1) => atoms_spec (ws := Jvm.Cond.code x code maxLocals ret :: tables_1) hat d (List.mem_cons_of_mem _ hd)
  have hfit : Fit s := fun {y c} hc i hi => by
    obtain ⟨ha, rfl⟩ := Array.getElem?_eq_some_iff.mp hc
    have q := List.all_eq_true.mp ((Array.all_eq_true_iff_forall_mem.mp hF) _ (Array.getElem_mem ha)) i (List.mem_range.mpr hi)
    simpa [Array.getElem?_eq_getElem hi] using q
  obtain ⟨hsets, hown0⟩ := atoms_of _ (rest_1_c_eq ▸ (show rest_1_c.before _ s = true from hrest))
  have hr0 := Cond.before_iff.mp hown0
  obtain ⟨i0, ei0⟩ := is_v g3
  obtain rfl : w0 = (.int i0) := Option.some.inj ei0
  obtain ⟨i1, ei1⟩ := is_v g5
  obtain rfl : w1 = (.int i1) := Option.some.inj ei1
  obtain ⟨i2, ei2⟩ := is_v g7
  obtain rfl : w2 = (.int i2) := Option.some.inj ei2
  obtain ⟨i3, ei3⟩ := is_v g9
  obtain rfl : w3 = (.int i3) := Option.some.inj ei3
  obtain ⟨i4, ei4⟩ := is_v g10
  obtain rfl : w4 = (.int i4) := Option.some.inj ei4
  have j0 := hsets _ (List.mem_of_getElem? (i := 0) rfl)
  obtain ⟨cs, ecs⟩ := is_v (Cond.before_iff.mp (hsets _ (List.mem_of_getElem? (i := 1) rfl)))
  have j2 := hsets _ (List.mem_of_getElem? (i := 2) rfl)
  have Pcs : ¬ cs = 0 := fun q => by subst q; simp [Cond.before, Cond.holds, Cond.value, ecs, Term.int_eval] at j2
  have PS : Sta s s.heap "java/lang/String" "COMPACT_STRINGS" "Z" (.int cs) := Sta.start ecs (Or.inl j0)
  have j7 := hsets _ (List.mem_of_getElem? (i := 7) rfl)
  obtain ⟨wf, ewf, Pwf⟩ := own_isref (Cond.before_iff.mp (hsets _ (List.mem_of_getElem? (i := 8) rfl)))
  have PW : Sta s s.heap "jdk/internal/util/Preconditions" "SIOOBE_FORMATTER" "Ljava/util/function/BiFunction;" wf := Sta.start ewf (Or.inl j7)
  have Hc : CHv s own_EL s.vm s.heap := CHv.start (own_EW hw) (fun q hq => by simp only [own_EL, List.mem_cons, List.not_mem_nil, or_false] at hq; subst hq; exact hcalls.1 _ (by simp [consts_1])) j2 (own_wS hw _ (by simp [Bundle.stringAtoms])) (own_wS hw _ (by simp [Bundle.stringAtoms, Bundle.sN]))
  obtain ⟨n, o, h1, h2, h3, _, L, rfl, ⟨rfl, N⟩, hq⟩ := rm0 l s _ hw tables_1 i0 i1 i2 i3 i4 cs wf s.heap s.heap.size (Nat.le_refl _) PS Pcs PW Pwf p e ha hc hk s m _ below hf ((Spec.applies_iff_loose hf).mp happ).1 ⟨rfl, State.Warmed39.refl s, rfl, Hc⟩ trivial
  have hq := hq.2
  refine ⟨n, _, h1, h2, h3, hpost _ _ _ _ _ _ ⟨Cond.after_iff.mpr rfl, Cond.after_iff.mpr (eq_i res_at (Term.int_eval (1)) rfl), trivial⟩ ⟨hq.1, hq.2.1, hq.2.2.1, (hq.2.2.2.sift fun y hy => Or.inr (N y hy)).mono (by decide) (by decide)⟩⟩
theorem main_1_1 : Claimed_1_1 := comes_1 fun _ _ _ _ _ _ h hF => ⟨h.1, hF⟩
theorem main_1_2 : Claimed_1_2 := comes_1 fun _ _ _ _ _ _ h hF => ⟨h.2.1, hF⟩
end Jvm.Pilot.@@N@@
namespace Jvm.Pilot.@@N@@
open Jvm Jvm.ClassFile Sem Op Lib Jvm.Free Jvm.Stand Jvm.Pilot.@@N@@.Jvm.D
/-! MADE BY PROGRAM (witnessworld.py) out of the Statement's table words and the real class files: 22 classes; the members and pool entries that the words name. The judged class is class 1, her method 1. -/
namespace start1
open Jvm.ClassFile
def u (s : String) : CpInfo := .utf8 (stringToUtf16 s)
/-- a pool by its gaps: so many unusable entries, then the entry; so many at the end -/
def gap : Nat → List CpInfo → List CpInfo
  | 0, r => r
  | n + 1, r => .unusable :: gap n r
def poolList (es : List (Nat × CpInfo)) (last : Nat) : List CpInfo := es.foldr (fun e r => gap e.1 (e.2 :: r)) (gap last [])
def pool (es : List (Nat × CpInfo)) (last : Nat) : Array CpInfo := ⟨poolList es last⟩
def fileOf (pool : Array CpInfo) (this : Nat) (attrs : Array Attribute := #[]) (ms : Array MethodInfo := #[]) (fl : Nat := 33) (sup : Nat := 0) (ifs : Array Nat := #[]) (fds : Array FieldInfo := #[]) : ClassFile where
  minorVersion := 0
  majorVersion := 65
  constantPool := pool
  accessFlags := fl
  thisClass := this
  superClass := sup
  interfaces := ifs
  fields := fds
  methods := ms
  attributes := attrs
def plain (name : String) (sup : Option ClassId) : Class where
  name := name
  kind := .ordinary
  loader := none
  accessFlags := 33
  super := sup
  interfaces := #[]
  cf := none
  fields := #[]
  methods := #[]
  instanceTypes := #[]
  staticTypes := #[]
  resolved := #[]
  callSites := []
  init := .initialized
  statics := none
  mirror := none

def pool0 : Array CpInfo := pool [(5, u "<init>"), (0, u "()V"), (1, .class_ 10), (1, u "java/lang/Object")] 113

def k0c0 : Code := { maxStack := 0, maxLocals := 1, code := object_method_1_code, exceptionTable := #[], attributes := #[] }
def k0m0 : Method := { name := "<init>", desc := "()V", sig := { parameters := [], returnType := none }, accessFlags := 1, code := some k0c0 }
/-- java/lang/Object -/
def k0 : Class := { plain "java/lang/Object" none with
  accessFlags := 33
  interfaces := #[]
  cf := some (fileOf pool0 8 #[] #[{ accessFlags := 1, nameIndex := 5, descriptorIndex := 6, attributes := #[] }] 33 0 #[] #[])
  fields := #[]
  methods := #[k0m0]
  instanceTypes := #[]
  staticTypes := #[]
  resolved := Array.replicate 124 none
  statics := none }

def pool1 : Array CpInfo := pool [(2, .class_ 4), (1, u "java/lang/Object"), (0, u "<init>"), (0, u "()V"), (0, .integer 2147483647), (0, .class_ 9), (0, u "java/lang/String"), (0, .methodref 8 11), (0, .nameAndType 5 12), (0, u "([C)V"), (0, .methodref 8 14), (0, .nameAndType 15 16), (0, u "valueOf"), (0, u "(C)Ljava/lang/String;"), (0, .class_ 18), (0, u "com/example/libmakespan/libmakespan/OneLine$Units"), (0, .methodref 17 20), (0, .nameAndType 5 21), (0, u "(Z)V"), (0, .methodref 17 23), (0, .nameAndType 24 25), (0, u "reset"), (0, u "(Ljava/lang/String;I)V"), (0, .methodref 17 27), (0, .nameAndType 28 29), (0, u "next"), (0, u "()I"), (0, .methodref 31 32), (0, .class_ 33), (0, .nameAndType 34 35), (0, u "com/example/libmakespan/libmakespan/UnitsResetPinLaw"), (0, u "expected"), (0, u "(CCIZI)I"), (0, .methodref 31 37), (0, .nameAndType 38 39), (0, u "esc"), (0, u "(CZ)Z"), (4, .methodref 31 45), (0, .nameAndType 46 47), (0, u "len"), (0, u "(CZ)I"), (0, .methodref 31 49), (0, .nameAndType 50 51), (0, u "unit"), (0, u "(CZI)I"), (2, u "law"), (0, u "(IIIII)Z")] 9

def k1m0 : Method := { name := "<init>", desc := "()V", sig := { parameters := [], returnType := none }, accessFlags := 2, code := none }
def k1c1 : Code := { maxStack := 6, maxLocals := 17, code := code, exceptionTable := #[], attributes := #[] }
def k1m1 : Method := { name := "law", desc := "(IIIII)Z", sig := { parameters := [.int, .int, .int, .int, .int], returnType := some .boolean }, accessFlags := 9, code := some k1c1 }
def k1c2 : Code := { maxStack := 2, maxLocals := 2, code := method_3_code, exceptionTable := #[], attributes := #[] }
def k1m2 : Method := { name := "esc", desc := "(CZ)Z", sig := { parameters := [.char, .boolean], returnType := some .boolean }, accessFlags := 10, code := some k1c2 }
def k1c3 : Code := { maxStack := 2, maxLocals := 2, code := method_4_code, exceptionTable := #[], attributes := #[] }
def k1m3 : Method := { name := "len", desc := "(CZ)I", sig := { parameters := [.char, .boolean], returnType := some .int }, accessFlags := 10, code := some k1c3 }
def k1c4 : Code := { maxStack := 2, maxLocals := 3, code := method_6_code, exceptionTable := #[], attributes := #[] }
def k1m4 : Method := { name := "unit", desc := "(CZI)I", sig := { parameters := [.char, .boolean, .int], returnType := some .int }, accessFlags := 10, code := some k1c4 }
def k1c5 : Code := { maxStack := 3, maxLocals := 9, code := method_7_code, exceptionTable := #[], attributes := #[] }
def k1m5 : Method := { name := "expected", desc := "(CCIZI)I", sig := { parameters := [.char, .char, .int, .boolean, .int], returnType := some .int }, accessFlags := 10, code := some k1c5 }
/-- com/example/libmakespan/libmakespan/UnitsResetPinLaw -/
def k1 : Class := { plain "com/example/libmakespan/libmakespan/UnitsResetPinLaw" (some 0) with
  accessFlags := 49
  interfaces := #[]
  cf := some (fileOf pool1 31 #[] #[{ accessFlags := 2, nameIndex := 5, descriptorIndex := 6, attributes := #[] }, { accessFlags := 9, nameIndex := 54, descriptorIndex := 55, attributes := #[] }, { accessFlags := 10, nameIndex := 38, descriptorIndex := 39, attributes := #[] }, { accessFlags := 10, nameIndex := 46, descriptorIndex := 47, attributes := #[] }, { accessFlags := 10, nameIndex := 50, descriptorIndex := 51, attributes := #[] }, { accessFlags := 10, nameIndex := 34, descriptorIndex := 35, attributes := #[] }] 49 2 #[] #[])
  fields := #[]
  methods := #[k1m0, k1m1, k1m2, k1m3, k1m4, k1m5]
  instanceTypes := #[]
  staticTypes := #[]
  resolved := Array.replicate 65 none
  statics := none }

def pool2 : Array CpInfo := pool [(1, .class_ 2), (0, u "java/io/Serializable"), (0, .class_ 4), (0, u "java/lang/Object")] 2

/-- java/io/Serializable -/
def k2 : Class := { plain "java/io/Serializable" (some 0) with
  accessFlags := 1537
  interfaces := #[]
  cf := some (fileOf pool2 1 #[] #[] 1537 3 #[] #[])
  fields := #[]
  methods := #[]
  instanceTypes := #[]
  staticTypes := #[]
  resolved := Array.replicate 7 none
  statics := none }

def pool3 : Array CpInfo := pool [(1, .class_ 2), (0, u "java/lang/Comparable"), (0, .class_ 4), (0, u "java/lang/Object")] 7

/-- java/lang/Comparable -/
def k3 : Class := { plain "java/lang/Comparable" (some 0) with
  accessFlags := 1537
  interfaces := #[]
  cf := some (fileOf pool3 1 #[] #[] 1537 3 #[] #[])
  fields := #[]
  methods := #[]
  instanceTypes := #[]
  staticTypes := #[]
  resolved := Array.replicate 12 none
  statics := none }

def pool4 : Array CpInfo := pool [(2, .class_ 4), (1, u "java/lang/CharSequence"), (42, .class_ 48), (0, u "java/lang/CharSequence$1CodePointIterator"), (10, .class_ 60), (0, u "java/lang/CharSequence$1CharIterator"), (5, .class_ 67), (0, u "java/lang/Object")] 63

/-- java/lang/CharSequence -/
def k4 : Class := { plain "java/lang/CharSequence" (some 0) with
  accessFlags := 1537
  interfaces := #[]
  cf := some (fileOf pool4 2 #[.nestMembers #[47, 59]] #[] 1537 66 #[] #[])
  fields := #[]
  methods := #[]
  instanceTypes := #[]
  staticTypes := #[]
  resolved := Array.replicate 131 none
  statics := none }

def pool5 : Array CpInfo := pool [(1, .class_ 2), (0, u "java/lang/constant/Constable"), (0, .class_ 4), (0, u "java/lang/Object")] 6

/-- java/lang/constant/Constable -/
def k5 : Class := { plain "java/lang/constant/Constable" (some 0) with
  accessFlags := 1537
  interfaces := #[]
  cf := some (fileOf pool5 1 #[] #[] 1537 3 #[] #[])
  fields := #[]
  methods := #[]
  instanceTypes := #[]
  staticTypes := #[]
  resolved := Array.replicate 11 none
  statics := none }

def pool6 : Array CpInfo := pool [(1, .class_ 2), (0, u "java/lang/constant/ConstantDesc"), (0, .class_ 4), (0, u "java/lang/Object")] 32

/-- java/lang/constant/ConstantDesc -/
def k6 : Class := { plain "java/lang/constant/ConstantDesc" (some 0) with
  accessFlags := 1537
  interfaces := #[]
  cf := some (fileOf pool6 1 #[] #[] 1537 3 #[] #[])
  fields := #[]
  methods := #[]
  instanceTypes := #[]
  staticTypes := #[]
  resolved := Array.replicate 37 none
  statics := none }

def pool7 : Array CpInfo := pool [(1, .methodref 2 3), (0, .class_ 4), (0, .nameAndType 5 6), (0, u "java/lang/Object"), (0, u "<init>"), (0, u "()V"), (2, .fieldref 10 11), (0, .class_ 12), (0, .nameAndType 13 14), (0, u "java/lang/String"), (0, u "value"), (0, u "[B"), (0, .fieldref 10 16), (0, .nameAndType 17 18), (0, u "coder"), (0, u "B"), (2, u "hash"), (0, u "I"), (2, u "hashIsZero"), (0, u "Z"), (0, .methodref 10 28), (0, .nameAndType 5 29), (0, u "([CIILjava/lang/Void;)V"), (8, .fieldref 10 39), (0, .nameAndType 40 26), (0, u "COMPACT_STRINGS"), (1, .class_ 44), (1, u "java/lang/StringUTF16"), (0, u "compress"), (1, .methodref 42 48), (0, .nameAndType 49 50), (0, u "coderFromArrayLen"), (0, u "([BI)B"), (2, u "toBytes"), (53, .class_ 109), (1, u "java/lang/StringLatin1"), (32, u "()Z"), (34, .methodref 42 178), (0, .nameAndType 45 179), (0, u "([CII)[B"), (29, .methodref 10 210), (0, .nameAndType 5 211), (0, u "([BB)V"), (122, u "()I"), (0, .methodref 10 336), (0, .nameAndType 17 337), (0, u "()B"), (25, u "([BI)C"), (5, u "(C)Z"), (21, u "(II)V"), (35, u "(I)C"), (64, .methodref 10 493), (0, .nameAndType 494 142), (0, u "isLatin1"), (0, .methodref 107 496), (0, .nameAndType 497 363), (0, u "charAt"), (3, u "checkIndex"), (5, u "length"), (67, .class_ 576), (0, u "java/lang/CharSequence"), (22, u "CASE_INSENSITIVE_ORDER"), (0, u "Ljava/util/Comparator;"), (181, u "valueOf"), (0, u "(C)Ljava/lang/String;"), (226, u "([C)V"), (4, .methodref 107 1016), (0, .nameAndType 1017 369), (0, u "canEncode"), (0, .methodref 107 1019), (0, .nameAndType 53 1020), (0, u "(C)[B"), (32, .fieldref 1054 1055), (0, .class_ 1056), (0, .nameAndType 1057 1058), (0, u "jdk/internal/util/Preconditions"), (0, u "SIOOBE_FORMATTER"), (0, u "Ljava/util/function/BiFunction;"), (0, .methodref 1054 1060), (0, .nameAndType 501 1061), (0, u "(IILjava/util/function/BiFunction;)I"), (39, u "serialPersistentFields"), (0, u "[Ljava/io/ObjectStreamField;"), (0, .class_ 1104), (0, u "java/lang/String$CaseInsensitiveComparator"), (1, .class_ 1107), (0, u "java/io/Serializable"), (0, .class_ 1109), (0, u "java/lang/Comparable"), (0, .class_ 1111), (0, u "java/lang/constant/Constable"), (0, .class_ 1113), (0, u "java/lang/constant/ConstantDesc"), (2, u "serialVersionUID"), (0, u "J"), (3, u "REPL"), (0, u "C"), (2, u "LATIN1"), (1, u "UTF16")] 323

def k7m0 : Method := { name := "<init>", desc := "()V", sig := { parameters := [], returnType := none }, accessFlags := 1, code := none }
def k7c1 : Code := { maxStack := 5, maxLocals := 2, code := jdk_42_method_3_code, exceptionTable := #[], attributes := #[] }
def k7m1 : Method := { name := "<init>", desc := "([C)V", sig := { parameters := [(.array .char)], returnType := none }, accessFlags := 1, code := some k7c1 }
def k7c2 : Code := { maxStack := 2, maxLocals := 1, code := jdk_42_method_54_code, exceptionTable := #[], attributes := #[] }
def k7m2 : Method := { name := "length", desc := "()I", sig := { parameters := [], returnType := some .int }, accessFlags := 1, code := some k7c2 }
def k7c3 : Code := { maxStack := 2, maxLocals := 2, code := jdk_42_method_56_code, exceptionTable := #[], attributes := #[] }
def k7m3 : Method := { name := "charAt", desc := "(I)C", sig := { parameters := [.int], returnType := some .char }, accessFlags := 1, code := some k7c3 }
def k7c4 : Code := { maxStack := 4, maxLocals := 1, code := jdk_42_method_139_code, exceptionTable := #[], attributes := #[] }
def k7m4 : Method := { name := "valueOf", desc := "(C)Ljava/lang/String;", sig := { parameters := [.char], returnType := some (.object "java/lang/String") }, accessFlags := 9, code := some k7c4 }
def k7c5 : Code := { maxStack := 4, maxLocals := 6, code := jdk_42_method_149_code, exceptionTable := #[], attributes := #[] }
def k7m5 : Method := { name := "<init>", desc := "([CIILjava/lang/Void;)V", sig := { parameters := [(.array .char), .int, .int, (.object "java/lang/Void")], returnType := none }, accessFlags := 2, code := some k7c5 }
def k7c6 : Code := { maxStack := 2, maxLocals := 3, code := jdk_42_method_151_code, exceptionTable := #[], attributes := #[] }
def k7m6 : Method := { name := "<init>", desc := "([BB)V", sig := { parameters := [(.array .byte), .byte], returnType := none }, accessFlags := 0, code := some k7c6 }
def k7c7 : Code := { maxStack := 1, maxLocals := 1, code := jdk_42_method_152_code, exceptionTable := #[], attributes := #[] }
def k7m7 : Method := { name := "coder", desc := "()B", sig := { parameters := [], returnType := some .byte }, accessFlags := 0, code := some k7c7 }
def k7c8 : Code := { maxStack := 1, maxLocals := 1, code := jdk_42_method_154_code, exceptionTable := #[], attributes := #[] }
def k7m8 : Method := { name := "isLatin1", desc := "()Z", sig := { parameters := [], returnType := some .boolean }, accessFlags := 0, code := some k7c8 }
def k7c9 : Code := { maxStack := 3, maxLocals := 2, code := jdk_42_method_155_code, exceptionTable := #[], attributes := #[] }
def k7m9 : Method := { name := "checkIndex", desc := "(II)V", sig := { parameters := [.int, .int], returnType := none }, accessFlags := 8, code := some k7c9 }
/-- java/lang/String -/
def k7 : Class := { plain "java/lang/String" (some 0) with
  accessFlags := 49
  interfaces := #[2, 3, 4, 5, 6]
  cf := some (fileOf pool7 10 #[.nestMembers #[1103]] #[{ accessFlags := 1, nameIndex := 5, descriptorIndex := 6, attributes := #[] }, { accessFlags := 1, nameIndex := 5, descriptorIndex := 1010, attributes := #[] }, { accessFlags := 1, nameIndex := 507, descriptorIndex := 334, attributes := #[] }, { accessFlags := 1, nameIndex := 497, descriptorIndex := 427, attributes := #[] }, { accessFlags := 9, nameIndex := 782, descriptorIndex := 783, attributes := #[] }, { accessFlags := 2, nameIndex := 5, descriptorIndex := 29, attributes := #[] }, { accessFlags := 0, nameIndex := 5, descriptorIndex := 211, attributes := #[] }, { accessFlags := 0, nameIndex := 17, descriptorIndex := 337, attributes := #[] }, { accessFlags := 0, nameIndex := 494, descriptorIndex := 142, attributes := #[] }, { accessFlags := 8, nameIndex := 501, descriptorIndex := 391, attributes := #[] }] 49 2 #[1106, 1108, 575, 1110, 1112] #[{ accessFlags := 18, nameIndex := 13, descriptorIndex := 14, attributes := #[] }, { accessFlags := 18, nameIndex := 17, descriptorIndex := 18, attributes := #[] }, { accessFlags := 2, nameIndex := 21, descriptorIndex := 22, attributes := #[] }, { accessFlags := 2, nameIndex := 25, descriptorIndex := 26, attributes := #[] }, { accessFlags := 26, nameIndex := 1116, descriptorIndex := 1117, attributes := #[] }, { accessFlags := 24, nameIndex := 40, descriptorIndex := 26, attributes := #[] }, { accessFlags := 26, nameIndex := 1101, descriptorIndex := 1102, attributes := #[] }, { accessFlags := 26, nameIndex := 1121, descriptorIndex := 1122, attributes := #[] }, { accessFlags := 25, nameIndex := 599, descriptorIndex := 600, attributes := #[] }, { accessFlags := 24, nameIndex := 1125, descriptorIndex := 18, attributes := #[] }, { accessFlags := 24, nameIndex := 1127, descriptorIndex := 18, attributes := #[] }])
  fields := #[{ name := "value", type := (.array .byte), accessFlags := 18, slot := 0, constantValue := 0 }, { name := "coder", type := .byte, accessFlags := 18, slot := 1, constantValue := 0 }, { name := "hash", type := .int, accessFlags := 2, slot := 2, constantValue := 0 }, { name := "hashIsZero", type := .boolean, accessFlags := 2, slot := 3, constantValue := 0 }, { name := "serialVersionUID", type := .long, accessFlags := 26, slot := 0, constantValue := 0 }, { name := "COMPACT_STRINGS", type := .boolean, accessFlags := 24, slot := 1, constantValue := 0 }, { name := "serialPersistentFields", type := (.array (.object "java/io/ObjectStreamField")), accessFlags := 26, slot := 2, constantValue := 0 }, { name := "REPL", type := .char, accessFlags := 26, slot := 3, constantValue := 0 }, { name := "CASE_INSENSITIVE_ORDER", type := (.object "java/util/Comparator"), accessFlags := 25, slot := 4, constantValue := 0 }, { name := "LATIN1", type := .byte, accessFlags := 24, slot := 5, constantValue := 0 }, { name := "UTF16", type := .byte, accessFlags := 24, slot := 6, constantValue := 0 }]
  methods := #[k7m0, k7m1, k7m2, k7m3, k7m4, k7m5, k7m6, k7m7, k7m8, k7m9]
  instanceTypes := #[(.array .byte), .byte, .int, .boolean]
  staticTypes := #[.long, .boolean, (.array (.object "java/io/ObjectStreamField")), .char, (.object "java/util/Comparator"), .byte, .byte]
  resolved := Array.replicate 1451 none
  statics := some 0 }

def pool8 : Array CpInfo := pool [(6, .class_ 8), (1, u "java/lang/Object"), (0, u "<init>"), (0, u "()V"), (1, .class_ 14), (1, u "java/lang/StringUTF16"), (31, u "$assertionsDisabled"), (0, u "Z"), (13, u "HI_BYTE_SHIFT"), (0, u "I"), (2, u "LO_BYTE_SHIFT"), (49, .methodref 12 116), (0, .nameAndType 117 118), (0, u "compress"), (0, u "([CI[BII)I"), (3, u "([CII)[B"), (138, u "coderFromArrayLen"), (0, u "([BI)B"), (106, .class_ 371), (1, u "java/lang/StringUTF16$LinesSpliterator"), (58, u "MAX_LENGTH"), (196, .class_ 628), (0, u "java/lang/StringUTF16$CodePointsSpliterator"), (0, .class_ 630), (0, u "java/lang/StringUTF16$CharsSpliterator")] 4

def k8m0 : Method := { name := "<init>", desc := "()V", sig := { parameters := [], returnType := none }, accessFlags := 0, code := none }
def k8c1 : Code := { maxStack := 2, maxLocals := 2, code := jdk_52_method_15_code, exceptionTable := #[], attributes := #[] }
def k8m1 : Method := { name := "coderFromArrayLen", desc := "([BI)B", sig := { parameters := [(.array .byte), .int], returnType := some .byte }, accessFlags := 8, code := some k8c1 }
def k8c2 : Code := { maxStack := 5, maxLocals := 6, code := jdk_52_method_16_code, exceptionTable := #[], attributes := #[] }
def k8m2 : Method := { name := "compress", desc := "([CII)[B", sig := { parameters := [(.array .char), .int, .int], returnType := some (.array .byte) }, accessFlags := 9, code := some k8c2 }
def k8c3 : Code := { maxStack := 3, maxLocals := 7, code := jdk_52_method_21_code, exceptionTable := #[], attributes := #[] }
def k8m3 : Method := { name := "compress", desc := "([CI[BII)I", sig := { parameters := [(.array .char), .int, (.array .byte), .int, .int], returnType := some .int }, accessFlags := 9, code := some k8c3 }
/-- java/lang/StringUTF16 -/
def k8 : Class := { plain "java/lang/StringUTF16" (some 0) with
  accessFlags := 48
  interfaces := #[]
  cf := some (fileOf pool8 12 #[.nestMembers #[627, 629, 369]] #[{ accessFlags := 0, nameIndex := 9, descriptorIndex := 10, attributes := #[] }, { accessFlags := 8, nameIndex := 261, descriptorIndex := 262, attributes := #[] }, { accessFlags := 9, nameIndex := 117, descriptorIndex := 122, attributes := #[] }, { accessFlags := 9, nameIndex := 117, descriptorIndex := 118, attributes := #[] }] 48 6 #[] #[{ accessFlags := 26, nameIndex := 61, descriptorIndex := 62, attributes := #[] }, { accessFlags := 26, nameIndex := 65, descriptorIndex := 62, attributes := #[] }, { accessFlags := 24, nameIndex := 430, descriptorIndex := 62, attributes := #[] }, { accessFlags := 4120, nameIndex := 46, descriptorIndex := 47, attributes := #[] }])
  fields := #[{ name := "HI_BYTE_SHIFT", type := .int, accessFlags := 26, slot := 0, constantValue := 0 }, { name := "LO_BYTE_SHIFT", type := .int, accessFlags := 26, slot := 1, constantValue := 0 }, { name := "MAX_LENGTH", type := .int, accessFlags := 24, slot := 2, constantValue := 0 }, { name := "$assertionsDisabled", type := .boolean, accessFlags := 4120, slot := 3, constantValue := 0 }]
  methods := #[k8m0, k8m1, k8m2, k8m3]
  instanceTypes := #[]
  staticTypes := #[.int, .int, .int, .boolean]
  resolved := Array.replicate 635 none
  statics := none }

def pool9 : Array CpInfo := pool [(1, .class_ 2), (0, u "java/lang/String"), (1, .class_ 6), (1, u "java/lang/Object"), (0, u "<init>"), (0, u "()V"), (0, .methodref 1 10), (0, .nameAndType 11 12), (0, u "checkIndex"), (0, u "(II)V"), (1, .class_ 16), (1, u "java/lang/StringLatin1"), (36, u "([BI)C"), (36, u "canEncode"), (14, u "(C)Z"), (15, u "$assertionsDisabled"), (0, u "Z"), (98, .class_ 223), (1, u "java/lang/StringLatin1$LinesSpliterator"), (28, u "charAt"), (127, u "toBytes"), (1, u "(C)[B"), (7, .class_ 391), (0, u "java/lang/StringLatin1$CharsSpliterator")] 3

def k9m0 : Method := { name := "<init>", desc := "()V", sig := { parameters := [], returnType := none }, accessFlags := 0, code := none }
def k9c1 : Code := { maxStack := 2, maxLocals := 2, code := jdk_43_method_2_code, exceptionTable := #[], attributes := #[] }
def k9m1 : Method := { name := "charAt", desc := "([BI)C", sig := { parameters := [(.array .byte), .int], returnType := some .char }, accessFlags := 9, code := some k9c1 }
def k9c2 : Code := { maxStack := 2, maxLocals := 1, code := jdk_43_method_3_code, exceptionTable := #[], attributes := #[] }
def k9m2 : Method := { name := "canEncode", desc := "(C)Z", sig := { parameters := [.char], returnType := some .boolean }, accessFlags := 9, code := some k9c2 }
def k9c3 : Code := { maxStack := 4, maxLocals := 1, code := jdk_43_method_46_code, exceptionTable := #[], attributes := #[] }
def k9m3 : Method := { name := "toBytes", desc := "(C)[B", sig := { parameters := [.char], returnType := some (.array .byte) }, accessFlags := 9, code := some k9c3 }
/-- java/lang/StringLatin1 -/
def k9 : Class := { plain "java/lang/StringLatin1" (some 0) with
  accessFlags := 48
  interfaces := #[]
  cf := some (fileOf pool9 14 #[.nestMembers #[390, 221]] #[{ accessFlags := 0, nameIndex := 7, descriptorIndex := 8, attributes := #[] }, { accessFlags := 9, nameIndex := 252, descriptorIndex := 53, attributes := #[] }, { accessFlags := 9, nameIndex := 90, descriptorIndex := 105, attributes := #[] }, { accessFlags := 9, nameIndex := 380, descriptorIndex := 382, attributes := #[] }] 48 4 #[] #[{ accessFlags := 4120, nameIndex := 121, descriptorIndex := 122, attributes := #[] }])
  fields := #[{ name := "$assertionsDisabled", type := .boolean, accessFlags := 4120, slot := 0, constantValue := 0 }]
  methods := #[k9m0, k9m1, k9m2, k9m3]
  instanceTypes := #[]
  staticTypes := #[.boolean]
  resolved := Array.replicate 395 none
  statics := none }

def pool10 : Array CpInfo := pool [(1, .class_ 2), (0, u "com/example/libmakespan/libmakespan/OneLine"), (0, .methodref 4 5), (0, .class_ 6), (0, .nameAndType 7 8), (0, u "java/lang/Object"), (0, u "<init>"), (0, u "()V"), (0, .string 10), (0, u ""), (0, .fieldref 12 13), (0, .class_ 14), (0, .nameAndType 15 16), (0, u "com/example/libmakespan/libmakespan/OneLine$Units"), (0, u "text"), (0, u "Ljava/lang/String;"), (0, .fieldref 12 18), (0, .nameAndType 19 20), (0, u "word"), (0, u "Z"), (0, .fieldref 12 22), (0, .nameAndType 23 24), (0, u "at"), (0, u "I"), (0, .fieldref 12 26), (0, .nameAndType 27 24), (0, u "given"), (0, .fieldref 12 29), (0, .nameAndType 30 24), (0, u "length"), (0, .fieldref 12 32), (0, .nameAndType 33 34), (0, u "escape"), (0, u "[C"), (0, .methodref 36 37), (0, .class_ 38), (0, .nameAndType 30 39), (0, u "java/lang/String"), (0, u "()I"), (0, .methodref 36 41), (0, .nameAndType 42 43), (0, u "charAt"), (0, u "(I)C"), (0, .methodref 1 45), (0, .nameAndType 46 47), (0, u "escaped"), (0, u "(Ljava/lang/String;IZ)Z"), (0, .string 49), (0, u "0123456789abcdef"), (0, u "(Z)V"), (2, u "reset"), (0, u "(Ljava/lang/String;I)V"), (0, u "next")] 6

def k10c0 : Code := { maxStack := 2, maxLocals := 2, code := prog_21_method_1_code, exceptionTable := #[], attributes := #[] }
def k10m0 : Method := { name := "<init>", desc := "(Z)V", sig := { parameters := [.boolean], returnType := none }, accessFlags := 0, code := some k10c0 }
def k10c1 : Code := { maxStack := 2, maxLocals := 3, code := prog_21_method_2_code, exceptionTable := #[], attributes := #[] }
def k10m1 : Method := { name := "reset", desc := "(Ljava/lang/String;I)V", sig := { parameters := [(.object "java/lang/String"), .int], returnType := none }, accessFlags := 0, code := some k10c1 }
def k10c2 : Code := { maxStack := 7, maxLocals := 3, code := prog_21_method_3_code, exceptionTable := #[], attributes := #[] }
def k10m2 : Method := { name := "next", desc := "()I", sig := { parameters := [], returnType := some .int }, accessFlags := 0, code := some k10c2 }
/-- com/example/libmakespan/libmakespan/OneLine$Units -/
def k10 : Class := { plain "com/example/libmakespan/libmakespan/OneLine$Units" (some 0) with
  accessFlags := 48
  interfaces := #[]
  cf := some (fileOf pool10 12 #[.nestHost 1] #[{ accessFlags := 0, nameIndex := 7, descriptorIndex := 50, attributes := #[] }, { accessFlags := 0, nameIndex := 53, descriptorIndex := 54, attributes := #[] }, { accessFlags := 0, nameIndex := 55, descriptorIndex := 39, attributes := #[] }] 48 4 #[] #[{ accessFlags := 18, nameIndex := 19, descriptorIndex := 20, attributes := #[] }, { accessFlags := 2, nameIndex := 15, descriptorIndex := 16, attributes := #[] }, { accessFlags := 2, nameIndex := 23, descriptorIndex := 24, attributes := #[] }, { accessFlags := 2, nameIndex := 33, descriptorIndex := 34, attributes := #[] }, { accessFlags := 2, nameIndex := 27, descriptorIndex := 24, attributes := #[] }, { accessFlags := 2, nameIndex := 30, descriptorIndex := 24, attributes := #[] }])
  fields := #[{ name := "word", type := .boolean, accessFlags := 18, slot := 0, constantValue := 0 }, { name := "text", type := (.object "java/lang/String"), accessFlags := 2, slot := 1, constantValue := 0 }, { name := "at", type := .int, accessFlags := 2, slot := 2, constantValue := 0 }, { name := "escape", type := (.array .char), accessFlags := 2, slot := 3, constantValue := 0 }, { name := "given", type := .int, accessFlags := 2, slot := 4, constantValue := 0 }, { name := "length", type := .int, accessFlags := 2, slot := 5, constantValue := 0 }]
  methods := #[k10m0, k10m1, k10m2]
  instanceTypes := #[.boolean, (.object "java/lang/String"), .int, (.array .char), .int, .int]
  staticTypes := #[]
  resolved := Array.replicate 62 none
  statics := none }

def pool11 : Array CpInfo := pool [(2, .class_ 4), (1, u "java/lang/Object"), (0, u "<init>"), (0, u "()V"), (17, .class_ 26), (1, u "jdk/internal/util/Preconditions"), (6, u "checkIndex"), (21, .class_ 56), (0, u "jdk/internal/util/Preconditions$4"), (57, .class_ 115), (0, u "jdk/internal/util/Preconditions$1"), (7, u "SIOOBE_FORMATTER"), (0, u "Ljava/util/function/BiFunction;"), (0, .class_ 126), (0, u "jdk/internal/util/Preconditions$2"), (3, u "AIOOBE_FORMATTER"), (0, .class_ 132), (0, u "jdk/internal/util/Preconditions$3"), (3, u "IOOBE_FORMATTER"), (41, u "(IILjava/util/function/BiFunction;)I")] 15

def k11m0 : Method := { name := "<init>", desc := "()V", sig := { parameters := [], returnType := none }, accessFlags := 1, code := none }
def k11c1 : Code := { maxStack := 3, maxLocals := 3, code := jdk_41_method_11_code, exceptionTable := #[], attributes := #[] }
def k11m1 : Method := { name := "checkIndex", desc := "(IILjava/util/function/BiFunction;)I", sig := { parameters := [.int, .int, (.object "java/util/function/BiFunction")], returnType := some .int }, accessFlags := 9, code := some k11c1 }
/-- jdk/internal/util/Preconditions -/
def k11 : Class := { plain "jdk/internal/util/Preconditions" (some 0) with
  accessFlags := 33
  interfaces := #[]
  cf := some (fileOf pool11 24 #[.nestMembers #[55, 131, 125, 114]] #[{ accessFlags := 1, nameIndex := 5, descriptorIndex := 6, attributes := #[] }, { accessFlags := 9, nameIndex := 33, descriptorIndex := 178, attributes := #[] }] 33 2 #[] #[{ accessFlags := 25, nameIndex := 123, descriptorIndex := 124, attributes := #[] }, { accessFlags := 25, nameIndex := 130, descriptorIndex := 124, attributes := #[] }, { accessFlags := 25, nameIndex := 136, descriptorIndex := 124, attributes := #[] }])
  fields := #[{ name := "SIOOBE_FORMATTER", type := (.object "java/util/function/BiFunction"), accessFlags := 25, slot := 0, constantValue := 0 }, { name := "AIOOBE_FORMATTER", type := (.object "java/util/function/BiFunction"), accessFlags := 25, slot := 1, constantValue := 0 }, { name := "IOOBE_FORMATTER", type := (.object "java/util/function/BiFunction"), accessFlags := 25, slot := 2, constantValue := 0 }]
  methods := #[k11m0, k11m1]
  instanceTypes := #[]
  staticTypes := #[(.object "java/util/function/BiFunction"), (.object "java/util/function/BiFunction"), (.object "java/util/function/BiFunction")]
  resolved := Array.replicate 194 none
  statics := some 1 }

def pool12 : Array CpInfo := pool [(2, .class_ 4), (1, u "java/lang/Object"), (0, u "<init>"), (0, u "()V"), (1, .class_ 10), (1, u "com/example/libmakespan/libmakespan/OneLine"), (2, .methodref 14 15), (0, .class_ 16), (0, .nameAndType 17 18), (0, u "java/lang/String"), (0, u "length"), (0, u "()I"), (2, u "escaped"), (0, u "(Ljava/lang/String;IZ)Z"), (9, .class_ 33), (0, u "com/example/libmakespan/libmakespan/OneLine$Units"), (17, .methodref 14 52), (0, .nameAndType 53 54), (0, u "charAt"), (0, u "(I)C"), (0, .methodref 56 57), (0, .class_ 58), (0, .nameAndType 59 60), (0, u "java/lang/Character"), (0, u "isHighSurrogate"), (0, u "(C)Z"), (0, .methodref 56 62), (0, .nameAndType 63 60), (0, u "isLowSurrogate"), (0, .methodref 56 65), (0, .nameAndType 66 60), (0, u "isISOControl"), (0, u "LINE_SEPARATOR"), (0, u "C"), (2, u "PARAGRAPH_SEPARATOR"), (1, u "HEX_DIGITS"), (0, u "Ljava/lang/String;")] 13

def k12m0 : Method := { name := "<init>", desc := "()V", sig := { parameters := [], returnType := none }, accessFlags := 2, code := none }
def k12c1 : Code := { maxStack := 3, maxLocals := 4, code := prog_20_method_5_code, exceptionTable := #[], attributes := #[] }
def k12m1 : Method := { name := "escaped", desc := "(Ljava/lang/String;IZ)Z", sig := { parameters := [(.object "java/lang/String"), .int, .boolean], returnType := some .boolean }, accessFlags := 10, code := some k12c1 }
/-- com/example/libmakespan/libmakespan/OneLine -/
def k12 : Class := { plain "com/example/libmakespan/libmakespan/OneLine" (some 0) with
  accessFlags := 49
  interfaces := #[]
  cf := some (fileOf pool12 8 #[.nestMembers #[32]] #[{ accessFlags := 2, nameIndex := 5, descriptorIndex := 6, attributes := #[] }, { accessFlags := 10, nameIndex := 21, descriptorIndex := 22, attributes := #[] }] 49 2 #[] #[{ accessFlags := 26, nameIndex := 67, descriptorIndex := 68, attributes := #[] }, { accessFlags := 26, nameIndex := 71, descriptorIndex := 68, attributes := #[] }, { accessFlags := 26, nameIndex := 73, descriptorIndex := 74, attributes := #[] }])
  fields := #[{ name := "LINE_SEPARATOR", type := .char, accessFlags := 26, slot := 0, constantValue := 0 }, { name := "PARAGRAPH_SEPARATOR", type := .char, accessFlags := 26, slot := 1, constantValue := 0 }, { name := "HEX_DIGITS", type := (.object "java/lang/String"), accessFlags := 26, slot := 2, constantValue := 0 }]
  methods := #[k12m0, k12m1]
  instanceTypes := #[]
  staticTypes := #[.char, .char, (.object "java/lang/String")]
  resolved := Array.replicate 88 none
  statics := none }

def pool13 : Array CpInfo := pool [(1, .class_ 2), (0, u "java/lang/Character"), (18, u "value"), (0, u "C"), (19, .class_ 44), (1, u "java/lang/Object"), (3, .class_ 50), (1, u "java/lang/Character$CharacterCache"), (24, .integer 55296), (0, .integer 56320), (3, u "isHighSurrogate"), (0, u "(C)Z"), (2, u "isLowSurrogate"), (29, u "(I)Z"), (151, .methodref 1 267), (0, .nameAndType 268 114), (0, u "isISOControl"), (15, u "$assertionsDisabled"), (0, u "Z"), (21, .class_ 309), (1, u "java/lang/Character$UnicodeBlock"), (73, u "TYPE"), (0, u "Ljava/lang/Class;"), (0, .class_ 386), (0, u "java/io/Serializable"), (0, .class_ 388), (0, u "java/lang/Comparable"), (0, .class_ 390), (0, u "java/lang/constant/Constable"), (0, u "MIN_RADIX"), (0, u "I"), (2, u "MAX_RADIX"), (1, u "MIN_VALUE"), (1, u "MAX_VALUE"), (3, u "UNASSIGNED"), (0, u "B"), (0, u "UPPERCASE_LETTER"), (1, u "LOWERCASE_LETTER"), (0, u "TITLECASE_LETTER"), (1, u "MODIFIER_LETTER"), (1, u "OTHER_LETTER"), (1, u "NON_SPACING_MARK"), (1, u "ENCLOSING_MARK"), (1, u "COMBINING_SPACING_MARK"), (1, u "DECIMAL_DIGIT_NUMBER"), (1, u "LETTER_NUMBER"), (1, u "OTHER_NUMBER"), (1, u "SPACE_SEPARATOR"), (1, u "LINE_SEPARATOR"), (1, u "PARAGRAPH_SEPARATOR"), (1, u "CONTROL"), (1, u "FORMAT"), (1, u "PRIVATE_USE"), (1, u "SURROGATE"), (1, u "DASH_PUNCTUATION"), (1, u "START_PUNCTUATION"), (1, u "END_PUNCTUATION"), (1, u "CONNECTOR_PUNCTUATION"), (1, u "OTHER_PUNCTUATION"), (1, u "MATH_SYMBOL"), (1, u "CURRENCY_SYMBOL"), (1, u "MODIFIER_SYMBOL"), (1, u "OTHER_SYMBOL"), (1, u "INITIAL_QUOTE_PUNCTUATION"), (1, u "FINAL_QUOTE_PUNCTUATION"), (1, u "ERROR"), (1, u "DIRECTIONALITY_UNDEFINED"), (0, u "DIRECTIONALITY_LEFT_TO_RIGHT"), (0, u "DIRECTIONALITY_RIGHT_TO_LEFT"), (0, u "DIRECTIONALITY_RIGHT_TO_LEFT_ARABIC"), (0, u "DIRECTIONALITY_EUROPEAN_NUMBER"), (0, u "DIRECTIONALITY_EUROPEAN_NUMBER_SEPARATOR"), (0, u "DIRECTIONALITY_EUROPEAN_NUMBER_TERMINATOR"), (0, u "DIRECTIONALITY_ARABIC_NUMBER"), (0, u "DIRECTIONALITY_COMMON_NUMBER_SEPARATOR"), (0, u "DIRECTIONALITY_NONSPACING_MARK"), (0, u "DIRECTIONALITY_BOUNDARY_NEUTRAL"), (0, u "DIRECTIONALITY_PARAGRAPH_SEPARATOR"), (0, u "DIRECTIONALITY_SEGMENT_SEPARATOR"), (0, u "DIRECTIONALITY_WHITESPACE"), (0, u "DIRECTIONALITY_OTHER_NEUTRALS"), (0, u "DIRECTIONALITY_LEFT_TO_RIGHT_EMBEDDING"), (0, u "DIRECTIONALITY_LEFT_TO_RIGHT_OVERRIDE"), (0, u "DIRECTIONALITY_RIGHT_TO_LEFT_EMBEDDING"), (0, u "DIRECTIONALITY_RIGHT_TO_LEFT_OVERRIDE"), (1, u "DIRECTIONALITY_POP_DIRECTIONAL_FORMAT"), (0, u "DIRECTIONALITY_LEFT_TO_RIGHT_ISOLATE"), (0, u "DIRECTIONALITY_RIGHT_TO_LEFT_ISOLATE"), (0, u "DIRECTIONALITY_FIRST_STRONG_ISOLATE"), (0, u "DIRECTIONALITY_POP_DIRECTIONAL_ISOLATE"), (0, u "MIN_HIGH_SURROGATE"), (0, u "MAX_HIGH_SURROGATE"), (1, u "MIN_LOW_SURROGATE"), (0, u "MAX_LOW_SURROGATE"), (1, u "MIN_SURROGATE"), (0, u "MAX_SURROGATE"), (0, u "MIN_SUPPLEMENTARY_CODE_POINT"), (0, u "MIN_CODE_POINT"), (0, u "MAX_CODE_POINT"), (1, u "serialVersionUID"), (0, u "J"), (2, u "SIZE"), (0, u "BYTES"), (88, .class_ 596), (0, u "java/lang/Character$UnicodeScript"), (0, .class_ 598), (0, u "java/lang/Character$Subset")] 5

def k13c0 : Code := { maxStack := 2, maxLocals := 1, code := jdk_89_method_14_code, exceptionTable := #[], attributes := #[] }
def k13m0 : Method := { name := "isHighSurrogate", desc := "(C)Z", sig := { parameters := [.char], returnType := some .boolean }, accessFlags := 9, code := some k13c0 }
def k13c1 : Code := { maxStack := 2, maxLocals := 1, code := jdk_89_method_15_code, exceptionTable := #[], attributes := #[] }
def k13m1 : Method := { name := "isLowSurrogate", desc := "(C)Z", sig := { parameters := [.char], returnType := some .boolean }, accessFlags := 9, code := some k13c1 }
def k13c2 : Code := { maxStack := 1, maxLocals := 1, code := jdk_89_method_88_code, exceptionTable := #[], attributes := #[] }
def k13m2 : Method := { name := "isISOControl", desc := "(C)Z", sig := { parameters := [.char], returnType := some .boolean }, accessFlags := 9, code := some k13c2 }
def k13c3 : Code := { maxStack := 2, maxLocals := 1, code := jdk_89_method_89_code, exceptionTable := #[], attributes := #[] }
def k13m3 : Method := { name := "isISOControl", desc := "(I)Z", sig := { parameters := [.int], returnType := some .boolean }, accessFlags := 9, code := some k13c3 }
/-- java/lang/Character -/
def k13 : Class := { plain "java/lang/Character" (some 0) with
  accessFlags := 49
  interfaces := #[2, 3, 5]
  cf := some (fileOf pool13 1 #[.nestMembers #[48, 595, 307, 597]] #[{ accessFlags := 9, nameIndex := 80, descriptorIndex := 81, attributes := #[] }, { accessFlags := 9, nameIndex := 84, descriptorIndex := 81, attributes := #[] }, { accessFlags := 9, nameIndex := 268, descriptorIndex := 81, attributes := #[] }, { accessFlags := 9, nameIndex := 268, descriptorIndex := 114, attributes := #[] }] 49 42 #[385, 387, 389] #[{ accessFlags := 25, nameIndex := 391, descriptorIndex := 392, attributes := #[] }, { accessFlags := 25, nameIndex := 395, descriptorIndex := 392, attributes := #[] }, { accessFlags := 25, nameIndex := 397, descriptorIndex := 22, attributes := #[] }, { accessFlags := 25, nameIndex := 399, descriptorIndex := 22, attributes := #[] }, { accessFlags := 25, nameIndex := 383, descriptorIndex := 384, attributes := #[] }, { accessFlags := 25, nameIndex := 403, descriptorIndex := 404, attributes := #[] }, { accessFlags := 25, nameIndex := 405, descriptorIndex := 404, attributes := #[] }, { accessFlags := 25, nameIndex := 407, descriptorIndex := 404, attributes := #[] }, { accessFlags := 25, nameIndex := 408, descriptorIndex := 404, attributes := #[] }, { accessFlags := 25, nameIndex := 410, descriptorIndex := 404, attributes := #[] }, { accessFlags := 25, nameIndex := 412, descriptorIndex := 404, attributes := #[] }, { accessFlags := 25, nameIndex := 414, descriptorIndex := 404, attributes := #[] }, { accessFlags := 25, nameIndex := 416, descriptorIndex := 404, attributes := #[] }, { accessFlags := 25, nameIndex := 418, descriptorIndex := 404, attributes := #[] }, { accessFlags := 25, nameIndex := 420, descriptorIndex := 404, attributes := #[] }, { accessFlags := 25, nameIndex := 422, descriptorIndex := 404, attributes := #[] }, { accessFlags := 25, nameIndex := 424, descriptorIndex := 404, attributes := #[] }, { accessFlags := 25, nameIndex := 426, descriptorIndex := 404, attributes := #[] }, { accessFlags := 25, nameIndex := 428, descriptorIndex := 404, attributes := #[] }, { accessFlags := 25, nameIndex := 430, descriptorIndex := 404, attributes := #[] }, { accessFlags := 25, nameIndex := 432, descriptorIndex := 404, attributes := #[] }, { accessFlags := 25, nameIndex := 434, descriptorIndex := 404, attributes := #[] }, { accessFlags := 25, nameIndex := 436, descriptorIndex := 404, attributes := #[] }, { accessFlags := 25, nameIndex := 438, descriptorIndex := 404, attributes := #[] }, { accessFlags := 25, nameIndex := 440, descriptorIndex := 404, attributes := #[] }, { accessFlags := 25, nameIndex := 442, descriptorIndex := 404, attributes := #[] }, { accessFlags := 25, nameIndex := 444, descriptorIndex := 404, attributes := #[] }, { accessFlags := 25, nameIndex := 446, descriptorIndex := 404, attributes := #[] }, { accessFlags := 25, nameIndex := 448, descriptorIndex := 404, attributes := #[] }, { accessFlags := 25, nameIndex := 450, descriptorIndex := 404, attributes := #[] }, { accessFlags := 25, nameIndex := 452, descriptorIndex := 404, attributes := #[] }, { accessFlags := 25, nameIndex := 454, descriptorIndex := 404, attributes := #[] }, { accessFlags := 25, nameIndex := 456, descriptorIndex := 404, attributes := #[] }, { accessFlags := 25, nameIndex := 458, descriptorIndex := 404, attributes := #[] }, { accessFlags := 25, nameIndex := 460, descriptorIndex := 404, attributes := #[] }, { accessFlags := 24, nameIndex := 462, descriptorIndex := 392, attributes := #[] }, { accessFlags := 25, nameIndex := 464, descriptorIndex := 404, attributes := #[] }, { accessFlags := 25, nameIndex := 465, descriptorIndex := 404, attributes := #[] }, { accessFlags := 25, nameIndex := 466, descriptorIndex := 404, attributes := #[] }, { accessFlags := 25, nameIndex := 467, descriptorIndex := 404, attributes := #[] }, { accessFlags := 25, nameIndex := 468, descriptorIndex := 404, attributes := #[] }, { accessFlags := 25, nameIndex := 469, descriptorIndex := 404, attributes := #[] }, { accessFlags := 25, nameIndex := 470, descriptorIndex := 404, attributes := #[] }, { accessFlags := 25, nameIndex := 471, descriptorIndex := 404, attributes := #[] }, { accessFlags := 25, nameIndex := 472, descriptorIndex := 404, attributes := #[] }, { accessFlags := 25, nameIndex := 473, descriptorIndex := 404, attributes := #[] }, { accessFlags := 25, nameIndex := 474, descriptorIndex := 404, attributes := #[] }, { accessFlags := 25, nameIndex := 475, descriptorIndex := 404, attributes := #[] }, { accessFlags := 25, nameIndex := 476, descriptorIndex := 404, attributes := #[] }, { accessFlags := 25, nameIndex := 477, descriptorIndex := 404, attributes := #[] }, { accessFlags := 25, nameIndex := 478, descriptorIndex := 404, attributes := #[] }, { accessFlags := 25, nameIndex := 479, descriptorIndex := 404, attributes := #[] }, { accessFlags := 25, nameIndex := 480, descriptorIndex := 404, attributes := #[] }, { accessFlags := 25, nameIndex := 481, descriptorIndex := 404, attributes := #[] }, { accessFlags := 25, nameIndex := 482, descriptorIndex := 404, attributes := #[] }, { accessFlags := 25, nameIndex := 484, descriptorIndex := 404, attributes := #[] }, { accessFlags := 25, nameIndex := 485, descriptorIndex := 404, attributes := #[] }, { accessFlags := 25, nameIndex := 486, descriptorIndex := 404, attributes := #[] }, { accessFlags := 25, nameIndex := 487, descriptorIndex := 404, attributes := #[] }, { accessFlags := 25, nameIndex := 488, descriptorIndex := 404, attributes := #[] }, { accessFlags := 25, nameIndex := 489, descriptorIndex := 22, attributes := #[] }, { accessFlags := 25, nameIndex := 490, descriptorIndex := 22, attributes := #[] }, { accessFlags := 25, nameIndex := 492, descriptorIndex := 22, attributes := #[] }, { accessFlags := 25, nameIndex := 493, descriptorIndex := 22, attributes := #[] }, { accessFlags := 25, nameIndex := 495, descriptorIndex := 22, attributes := #[] }, { accessFlags := 25, nameIndex := 496, descriptorIndex := 22, attributes := #[] }, { accessFlags := 25, nameIndex := 497, descriptorIndex := 392, attributes := #[] }, { accessFlags := 25, nameIndex := 498, descriptorIndex := 392, attributes := #[] }, { accessFlags := 25, nameIndex := 499, descriptorIndex := 392, attributes := #[] }, { accessFlags := 18, nameIndex := 21, descriptorIndex := 22, attributes := #[] }, { accessFlags := 26, nameIndex := 501, descriptorIndex := 502, attributes := #[] }, { accessFlags := 25, nameIndex := 505, descriptorIndex := 392, attributes := #[] }, { accessFlags := 25, nameIndex := 506, descriptorIndex := 392, attributes := #[] }, { accessFlags := 4120, nameIndex := 284, descriptorIndex := 285, attributes := #[] }])
  fields := #[{ name := "MIN_RADIX", type := .int, accessFlags := 25, slot := 0, constantValue := 0 }, { name := "MAX_RADIX", type := .int, accessFlags := 25, slot := 1, constantValue := 0 }, { name := "MIN_VALUE", type := .char, accessFlags := 25, slot := 2, constantValue := 0 }, { name := "MAX_VALUE", type := .char, accessFlags := 25, slot := 3, constantValue := 0 }, { name := "TYPE", type := (.object "java/lang/Class"), accessFlags := 25, slot := 4, constantValue := 0 }, { name := "UNASSIGNED", type := .byte, accessFlags := 25, slot := 5, constantValue := 0 }, { name := "UPPERCASE_LETTER", type := .byte, accessFlags := 25, slot := 6, constantValue := 0 }, { name := "LOWERCASE_LETTER", type := .byte, accessFlags := 25, slot := 7, constantValue := 0 }, { name := "TITLECASE_LETTER", type := .byte, accessFlags := 25, slot := 8, constantValue := 0 }, { name := "MODIFIER_LETTER", type := .byte, accessFlags := 25, slot := 9, constantValue := 0 }, { name := "OTHER_LETTER", type := .byte, accessFlags := 25, slot := 10, constantValue := 0 }, { name := "NON_SPACING_MARK", type := .byte, accessFlags := 25, slot := 11, constantValue := 0 }, { name := "ENCLOSING_MARK", type := .byte, accessFlags := 25, slot := 12, constantValue := 0 }, { name := "COMBINING_SPACING_MARK", type := .byte, accessFlags := 25, slot := 13, constantValue := 0 }, { name := "DECIMAL_DIGIT_NUMBER", type := .byte, accessFlags := 25, slot := 14, constantValue := 0 }, { name := "LETTER_NUMBER", type := .byte, accessFlags := 25, slot := 15, constantValue := 0 }, { name := "OTHER_NUMBER", type := .byte, accessFlags := 25, slot := 16, constantValue := 0 }, { name := "SPACE_SEPARATOR", type := .byte, accessFlags := 25, slot := 17, constantValue := 0 }, { name := "LINE_SEPARATOR", type := .byte, accessFlags := 25, slot := 18, constantValue := 0 }, { name := "PARAGRAPH_SEPARATOR", type := .byte, accessFlags := 25, slot := 19, constantValue := 0 }, { name := "CONTROL", type := .byte, accessFlags := 25, slot := 20, constantValue := 0 }, { name := "FORMAT", type := .byte, accessFlags := 25, slot := 21, constantValue := 0 }, { name := "PRIVATE_USE", type := .byte, accessFlags := 25, slot := 22, constantValue := 0 }, { name := "SURROGATE", type := .byte, accessFlags := 25, slot := 23, constantValue := 0 }, { name := "DASH_PUNCTUATION", type := .byte, accessFlags := 25, slot := 24, constantValue := 0 }, { name := "START_PUNCTUATION", type := .byte, accessFlags := 25, slot := 25, constantValue := 0 }, { name := "END_PUNCTUATION", type := .byte, accessFlags := 25, slot := 26, constantValue := 0 }, { name := "CONNECTOR_PUNCTUATION", type := .byte, accessFlags := 25, slot := 27, constantValue := 0 }, { name := "OTHER_PUNCTUATION", type := .byte, accessFlags := 25, slot := 28, constantValue := 0 }, { name := "MATH_SYMBOL", type := .byte, accessFlags := 25, slot := 29, constantValue := 0 }, { name := "CURRENCY_SYMBOL", type := .byte, accessFlags := 25, slot := 30, constantValue := 0 }, { name := "MODIFIER_SYMBOL", type := .byte, accessFlags := 25, slot := 31, constantValue := 0 }, { name := "OTHER_SYMBOL", type := .byte, accessFlags := 25, slot := 32, constantValue := 0 }, { name := "INITIAL_QUOTE_PUNCTUATION", type := .byte, accessFlags := 25, slot := 33, constantValue := 0 }, { name := "FINAL_QUOTE_PUNCTUATION", type := .byte, accessFlags := 25, slot := 34, constantValue := 0 }, { name := "ERROR", type := .int, accessFlags := 24, slot := 35, constantValue := 0 }, { name := "DIRECTIONALITY_UNDEFINED", type := .byte, accessFlags := 25, slot := 36, constantValue := 0 }, { name := "DIRECTIONALITY_LEFT_TO_RIGHT", type := .byte, accessFlags := 25, slot := 37, constantValue := 0 }, { name := "DIRECTIONALITY_RIGHT_TO_LEFT", type := .byte, accessFlags := 25, slot := 38, constantValue := 0 }, { name := "DIRECTIONALITY_RIGHT_TO_LEFT_ARABIC", type := .byte, accessFlags := 25, slot := 39, constantValue := 0 }, { name := "DIRECTIONALITY_EUROPEAN_NUMBER", type := .byte, accessFlags := 25, slot := 40, constantValue := 0 }, { name := "DIRECTIONALITY_EUROPEAN_NUMBER_SEPARATOR", type := .byte, accessFlags := 25, slot := 41, constantValue := 0 }, { name := "DIRECTIONALITY_EUROPEAN_NUMBER_TERMINATOR", type := .byte, accessFlags := 25, slot := 42, constantValue := 0 }, { name := "DIRECTIONALITY_ARABIC_NUMBER", type := .byte, accessFlags := 25, slot := 43, constantValue := 0 }, { name := "DIRECTIONALITY_COMMON_NUMBER_SEPARATOR", type := .byte, accessFlags := 25, slot := 44, constantValue := 0 }, { name := "DIRECTIONALITY_NONSPACING_MARK", type := .byte, accessFlags := 25, slot := 45, constantValue := 0 }, { name := "DIRECTIONALITY_BOUNDARY_NEUTRAL", type := .byte, accessFlags := 25, slot := 46, constantValue := 0 }, { name := "DIRECTIONALITY_PARAGRAPH_SEPARATOR", type := .byte, accessFlags := 25, slot := 47, constantValue := 0 }, { name := "DIRECTIONALITY_SEGMENT_SEPARATOR", type := .byte, accessFlags := 25, slot := 48, constantValue := 0 }, { name := "DIRECTIONALITY_WHITESPACE", type := .byte, accessFlags := 25, slot := 49, constantValue := 0 }, { name := "DIRECTIONALITY_OTHER_NEUTRALS", type := .byte, accessFlags := 25, slot := 50, constantValue := 0 }, { name := "DIRECTIONALITY_LEFT_TO_RIGHT_EMBEDDING", type := .byte, accessFlags := 25, slot := 51, constantValue := 0 }, { name := "DIRECTIONALITY_LEFT_TO_RIGHT_OVERRIDE", type := .byte, accessFlags := 25, slot := 52, constantValue := 0 }, { name := "DIRECTIONALITY_RIGHT_TO_LEFT_EMBEDDING", type := .byte, accessFlags := 25, slot := 53, constantValue := 0 }, { name := "DIRECTIONALITY_RIGHT_TO_LEFT_OVERRIDE", type := .byte, accessFlags := 25, slot := 54, constantValue := 0 }, { name := "DIRECTIONALITY_POP_DIRECTIONAL_FORMAT", type := .byte, accessFlags := 25, slot := 55, constantValue := 0 }, { name := "DIRECTIONALITY_LEFT_TO_RIGHT_ISOLATE", type := .byte, accessFlags := 25, slot := 56, constantValue := 0 }, { name := "DIRECTIONALITY_RIGHT_TO_LEFT_ISOLATE", type := .byte, accessFlags := 25, slot := 57, constantValue := 0 }, { name := "DIRECTIONALITY_FIRST_STRONG_ISOLATE", type := .byte, accessFlags := 25, slot := 58, constantValue := 0 }, { name := "DIRECTIONALITY_POP_DIRECTIONAL_ISOLATE", type := .byte, accessFlags := 25, slot := 59, constantValue := 0 }, { name := "MIN_HIGH_SURROGATE", type := .char, accessFlags := 25, slot := 60, constantValue := 0 }, { name := "MAX_HIGH_SURROGATE", type := .char, accessFlags := 25, slot := 61, constantValue := 0 }, { name := "MIN_LOW_SURROGATE", type := .char, accessFlags := 25, slot := 62, constantValue := 0 }, { name := "MAX_LOW_SURROGATE", type := .char, accessFlags := 25, slot := 63, constantValue := 0 }, { name := "MIN_SURROGATE", type := .char, accessFlags := 25, slot := 64, constantValue := 0 }, { name := "MAX_SURROGATE", type := .char, accessFlags := 25, slot := 65, constantValue := 0 }, { name := "MIN_SUPPLEMENTARY_CODE_POINT", type := .int, accessFlags := 25, slot := 66, constantValue := 0 }, { name := "MIN_CODE_POINT", type := .int, accessFlags := 25, slot := 67, constantValue := 0 }, { name := "MAX_CODE_POINT", type := .int, accessFlags := 25, slot := 68, constantValue := 0 }, { name := "value", type := .char, accessFlags := 18, slot := 0, constantValue := 0 }, { name := "serialVersionUID", type := .long, accessFlags := 26, slot := 69, constantValue := 0 }, { name := "SIZE", type := .int, accessFlags := 25, slot := 70, constantValue := 0 }, { name := "BYTES", type := .int, accessFlags := 25, slot := 71, constantValue := 0 }, { name := "$assertionsDisabled", type := .boolean, accessFlags := 4120, slot := 72, constantValue := 0 }]
  methods := #[k13m0, k13m1, k13m2, k13m3]
  instanceTypes := #[.char]
  staticTypes := #[.int, .int, .char, .char, (.object "java/lang/Class"), .byte, .byte, .byte, .byte, .byte, .byte, .byte, .byte, .byte, .byte, .byte, .byte, .byte, .byte, .byte, .byte, .byte, .byte, .byte, .byte, .byte, .byte, .byte, .byte, .byte, .byte, .byte, .byte, .byte, .byte, .int, .byte, .byte, .byte, .byte, .byte, .byte, .byte, .byte, .byte, .byte, .byte, .byte, .byte, .byte, .byte, .byte, .byte, .byte, .byte, .byte, .byte, .byte, .byte, .byte, .char, .char, .char, .char, .char, .char, .int, .int, .int, .long, .int, .int, .boolean]
  resolved := Array.replicate 604 none
  statics := none }

def pool14 : Array CpInfo := pool [(9, u "<init>"), (6, .class_ 18), (1, u "java/lang/Object"), (0, u "()V"), (1, .class_ 23), (1, u "jdk/internal/util/ArraysSupport"), (0, u "LOG2_ARRAY_LONG_INDEX_SCALE"), (0, u "I"), (2, u "U"), (0, u "Ljdk/internal/misc/Unsafe;"), (8, u "BIG_ENDIAN"), (0, u "Z"), (8, u "LOG2_BYTE_BIT_SIZE"), (4, u "LOG2_ARRAY_INT_INDEX_SCALE"), (54, u "JLA"), (0, u "Ljdk/internal/access/JavaLangAccess;"), (11, u "LOG2_ARRAY_BOOLEAN_INDEX_SCALE"), (9, u "LOG2_ARRAY_BYTE_INDEX_SCALE"), (5, u "LOG2_ARRAY_CHAR_INDEX_SCALE"), (5, u "LOG2_ARRAY_SHORT_INDEX_SCALE"), (18, u "LOG2_ARRAY_FLOAT_INDEX_SCALE"), (24, u "LOG2_ARRAY_DOUBLE_INDEX_SCALE"), (89, u "T_BOOLEAN"), (2, u "T_CHAR"), (1, u "T_FLOAT"), (1, u "T_DOUBLE"), (1, u "T_BYTE"), (1, u "T_SHORT"), (1, u "T_INT"), (1, u "T_LONG"), (1, u "SOFT_MAX_ARRAY_LENGTH")] 83

def k14m0 : Method := { name := "<init>", desc := "()V", sig := { parameters := [], returnType := none }, accessFlags := 2, code := none }
/-- jdk/internal/util/ArraysSupport -/
def k14 : Class := { plain "jdk/internal/util/ArraysSupport" (some 0) with
  accessFlags := 33
  interfaces := #[]
  cf := some (fileOf pool14 21 #[] #[{ accessFlags := 2, nameIndex := 9, descriptorIndex := 19, attributes := #[] }] 33 16 #[] #[{ accessFlags := 24, nameIndex := 28, descriptorIndex := 29, attributes := #[] }, { accessFlags := 26, nameIndex := 38, descriptorIndex := 39, attributes := #[] }, { accessFlags := 25, nameIndex := 121, descriptorIndex := 25, attributes := #[] }, { accessFlags := 25, nameIndex := 131, descriptorIndex := 25, attributes := #[] }, { accessFlags := 25, nameIndex := 137, descriptorIndex := 25, attributes := #[] }, { accessFlags := 25, nameIndex := 143, descriptorIndex := 25, attributes := #[] }, { accessFlags := 25, nameIndex := 53, descriptorIndex := 25, attributes := #[] }, { accessFlags := 25, nameIndex := 24, descriptorIndex := 25, attributes := #[] }, { accessFlags := 25, nameIndex := 162, descriptorIndex := 25, attributes := #[] }, { accessFlags := 25, nameIndex := 187, descriptorIndex := 25, attributes := #[] }, { accessFlags := 26, nameIndex := 48, descriptorIndex := 25, attributes := #[] }, { accessFlags := 25, nameIndex := 277, descriptorIndex := 25, attributes := #[] }, { accessFlags := 25, nameIndex := 280, descriptorIndex := 25, attributes := #[] }, { accessFlags := 25, nameIndex := 282, descriptorIndex := 25, attributes := #[] }, { accessFlags := 25, nameIndex := 284, descriptorIndex := 25, attributes := #[] }, { accessFlags := 25, nameIndex := 286, descriptorIndex := 25, attributes := #[] }, { accessFlags := 25, nameIndex := 288, descriptorIndex := 25, attributes := #[] }, { accessFlags := 25, nameIndex := 290, descriptorIndex := 25, attributes := #[] }, { accessFlags := 25, nameIndex := 292, descriptorIndex := 25, attributes := #[] }, { accessFlags := 26, nameIndex := 108, descriptorIndex := 109, attributes := #[] }, { accessFlags := 25, nameIndex := 294, descriptorIndex := 25, attributes := #[] }])
  fields := #[{ name := "U", type := (.object "jdk/internal/misc/Unsafe"), accessFlags := 24, slot := 0, constantValue := 0 }, { name := "BIG_ENDIAN", type := .boolean, accessFlags := 26, slot := 1, constantValue := 0 }, { name := "LOG2_ARRAY_BOOLEAN_INDEX_SCALE", type := .int, accessFlags := 25, slot := 2, constantValue := 0 }, { name := "LOG2_ARRAY_BYTE_INDEX_SCALE", type := .int, accessFlags := 25, slot := 3, constantValue := 0 }, { name := "LOG2_ARRAY_CHAR_INDEX_SCALE", type := .int, accessFlags := 25, slot := 4, constantValue := 0 }, { name := "LOG2_ARRAY_SHORT_INDEX_SCALE", type := .int, accessFlags := 25, slot := 5, constantValue := 0 }, { name := "LOG2_ARRAY_INT_INDEX_SCALE", type := .int, accessFlags := 25, slot := 6, constantValue := 0 }, { name := "LOG2_ARRAY_LONG_INDEX_SCALE", type := .int, accessFlags := 25, slot := 7, constantValue := 0 }, { name := "LOG2_ARRAY_FLOAT_INDEX_SCALE", type := .int, accessFlags := 25, slot := 8, constantValue := 0 }, { name := "LOG2_ARRAY_DOUBLE_INDEX_SCALE", type := .int, accessFlags := 25, slot := 9, constantValue := 0 }, { name := "LOG2_BYTE_BIT_SIZE", type := .int, accessFlags := 26, slot := 10, constantValue := 0 }, { name := "T_BOOLEAN", type := .int, accessFlags := 25, slot := 11, constantValue := 0 }, { name := "T_CHAR", type := .int, accessFlags := 25, slot := 12, constantValue := 0 }, { name := "T_FLOAT", type := .int, accessFlags := 25, slot := 13, constantValue := 0 }, { name := "T_DOUBLE", type := .int, accessFlags := 25, slot := 14, constantValue := 0 }, { name := "T_BYTE", type := .int, accessFlags := 25, slot := 15, constantValue := 0 }, { name := "T_SHORT", type := .int, accessFlags := 25, slot := 16, constantValue := 0 }, { name := "T_INT", type := .int, accessFlags := 25, slot := 17, constantValue := 0 }, { name := "T_LONG", type := .int, accessFlags := 25, slot := 18, constantValue := 0 }, { name := "JLA", type := (.object "jdk/internal/access/JavaLangAccess"), accessFlags := 26, slot := 19, constantValue := 0 }, { name := "SOFT_MAX_ARRAY_LENGTH", type := .int, accessFlags := 25, slot := 20, constantValue := 0 }]
  methods := #[k14m0]
  instanceTypes := #[]
  staticTypes := #[(.object "jdk/internal/misc/Unsafe"), .boolean, .int, .int, .int, .int, .int, .int, .int, .int, .int, .int, .int, .int, .int, .int, .int, .int, .int, (.object "jdk/internal/access/JavaLangAccess"), .int]
  resolved := Array.replicate 378 none
  statics := none }

def pool15 : Array CpInfo := pool [(1, u "java/lang/Cloneable"), (0, .class_ 1), (0, u "java/lang/Object"), (0, .class_ 3)] 3

/-- java/lang/Cloneable -/
def k15 : Class := { plain "java/lang/Cloneable" (some 0) with
  accessFlags := 1537
  interfaces := #[]
  cf := some (fileOf pool15 2 #[] #[] 1537 4 #[] #[])
  fields := #[]
  methods := #[]
  instanceTypes := #[]
  staticTypes := #[]
  resolved := Array.replicate 8 none
  statics := none }

/-- the primitive byte -/
def k16 : Class := { plain "byte" none with kind := .primitive 'B', accessFlags := 0x411 }
/-- [B -/
def k17 : Class := { plain "[B" (some 0) with kind := .array 16 .byte, interfaces := #[15, 2], accessFlags := 1041 }

/-- the primitive char -/
def k18 : Class := { plain "char" none with kind := .primitive 'C', accessFlags := 0x411 }
/-- [C -/
def k19 : Class := { plain "[C" (some 0) with kind := .array 18 .char, interfaces := #[15, 2], accessFlags := 1041 }

/-- the primitive int -/
def k20 : Class := { plain "int" none with kind := .primitive 'I', accessFlags := 0x411 }
/-- [I -/
def k21 : Class := { plain "[I" (some 0) with kind := .array 20 .int, interfaces := #[15, 2], accessFlags := 1041 }

def heap : Heap := #[{ cls := 7, slots := #[.long 0, .int 1, .null, .int 0, .null, .int 0, .int 0], vm := .statics 7 },
  { cls := 11, slots := #[.null, .null, .null], vm := .statics 11 }]
def classes : Array Class := #[k0, k1, k2, k3, k4, k5, k6, k7, k8, k9, k10, k11, k12, k13, k14, k15, k16, k17, k18, k19, k20, k21]
def interned : List (Array UInt16 × Addr) := []
def slotsUsed : Nat := 10
def theMethod : MethodId := ⟨1, 1⟩
def args0 : Array Value := #[.int 1, .int 2, .int 3, .int 4, .int 5]
def aboutOver (below : List Frame) : State where
  vm := { classes := classes, interned := interned.toArray }
  heap := heap
  slotsUsed := slotsUsed
  threads := #[{ frames := .invoking theMethod args0 :: below }]
def below0 : List Frame := [.native { method := ⟨0, 0⟩, args := #[] }]
def about1 : State := aboutOver below0
def p0 : Program := .bare "" "" ""
def e0 : Env := launch0.env 0 0 0
theorem w_frames : about1.frames = Frame.invoking theMethod args0 :: below0 := rfl
set_option maxRecDepth 65536 in
theorem w_args : argsFit about1.vm theMethod args0 = true := by decide +kernel
set_option maxRecDepth 65536 in
theorem w_heap : heapFits about1 = true := by decide +kernel
set_option maxRecDepth 65536 in
theorem w_runnable : about1.curStatus? = some .runnable := by decide +kernel
set_option maxRecDepth 65536 in
theorem w_alone : about1.alone = true := by decide +kernel
set_option maxRecDepth 65536 in
theorem w_named : about1.methodNamed? x = some theMethod := by decide +kernel
set_option maxRecDepth 65536 in
theorem w_hears : about1.hears theMethod below0 = true := by decide +kernel
set_option maxRecDepth 65536 in
theorem w_ripe : about1.ripe theMethod args0 below0 = true := by decide +kernel
theorem w_running : about1.status = .running := rfl
set_option maxRecDepth 65536 in
theorem w_room : about1.hasRoom e0.platform room_1 = true :=
  launch0.hasRoom_least _ room_1 (by decide +kernel) (by decide +kernel) (by decide +kernel) (by decide +kernel) (by decide +kernel) (by decide +kernel)
theorem allAtoms_all (ts : List Jvm.Cond) (a : Array Jvm.Value) (st : Jvm.State) : (allAtoms ts).before a st = ts.all (fun c => c.before a st) := by
  induction ts with
  | nil => rfl
  | cons c t ih =>
    show (Jvm.Cond.and c (allAtoms t)).before a st = _
    rw [Jvm.Cond.before_and, ih, List.all_cons]
def words1 : List Jvm.Cond := Jvm.Cond.code x code maxLocals ret :: tables_1
/-- a 'code' word, met by the world's own term for the bytes: nothing is compared byte by byte -/
theorem code_word {y : MethodName} {bytes : ByteArray} {mx : Nat} {rt : Option FieldType} {a : Array Value} {s : State} {m : MethodId} {meth : Method} {c : Code} (h1 : s.methodNamed? y = some m) (h2 : s.vm.method? m = some meth) (h3 : meth.code = some c) (h4 : c.code = bytes)
    (h5 : (c.maxLocals == mx && c.exceptionTable.isEmpty && decide (c.maxStack ≤ mostOperands) && decide (meth.sig.returnType = rt) && !meth.locks && decide (parseMethodDescriptor y.desc = some meth.sig)) = true) : (Jvm.Cond.code y bytes mx rt).before a s = true := by
  simp only [Bool.and_eq_true, beq_iff_eq, Bool.not_eq_true', decide_eq_true_eq] at h5
  obtain ⟨⟨⟨⟨⟨g1, g2⟩, g3⟩, g4⟩, g5⟩, g6⟩ := h5
  simp [Cond.before, Cond.holds, Cond.value, h1, h2, h3, h4, g1, g2, g3, g4, g5, g6]
def isCode : Jvm.Cond → Bool
  | .code _ _ _ _ => true
  | _ => false
theorem all_split {L : List Jvm.Cond} {P : Jvm.Cond → Bool} (h1 : L.all (fun c => isCode c || P c) = true) (h2 : ∀ c ∈ L.filter isCode, P c = true) : L.all P = true := by
  refine List.all_eq_true.mpr fun c hc => ?_
  have h := List.all_eq_true.mp h1 c hc
  rcases Bool.eq_false_or_eq_true (isCode c) with hi | hi
  · exact h2 c (List.mem_filter.mpr ⟨hc, hi⟩)
  · simpa [hi] using h
set_option maxRecDepth 65536 in
theorem w_c0 : (Jvm.Cond.code x code maxLocals ret).before args0 about1 = true := code_word (m := ⟨1, 1⟩) (meth := k1m1) (c := k1c1) (by decide +kernel) rfl rfl rfl (by decide +kernel)
set_option maxRecDepth 65536 in
theorem w_c1 : (Jvm.Cond.code ({ cls := "java/lang/String", name := "<init>", desc := "([C)V" } : Jvm.MethodName) jdk_42_method_3_code (2 : Nat) (Option.none : Option Jvm.ClassFile.FieldType)).before args0 about1 = true := code_word (m := ⟨7, 1⟩) (meth := k7m1) (c := k7c1) (by decide +kernel) rfl rfl rfl (by decide +kernel)
set_option maxRecDepth 65536 in
theorem w_c2 : (Jvm.Cond.code ({ cls := "java/lang/String", name := "<init>", desc := "([CIILjava/lang/Void;)V" } : Jvm.MethodName) jdk_42_method_149_code (6 : Nat) (Option.none : Option Jvm.ClassFile.FieldType)).before args0 about1 = true := code_word (m := ⟨7, 5⟩) (meth := k7m5) (c := k7c5) (by decide +kernel) rfl rfl rfl (by decide +kernel)
set_option maxRecDepth 65536 in
theorem w_c3 : (Jvm.Cond.code ({ cls := "java/lang/Object", name := "<init>", desc := "()V" } : Jvm.MethodName) object_method_1_code (1 : Nat) (Option.none : Option Jvm.ClassFile.FieldType)).before args0 about1 = true := code_word (m := ⟨0, 0⟩) (meth := k0m0) (c := k0c0) (by decide +kernel) rfl rfl rfl (by decide +kernel)
set_option maxRecDepth 65536 in
theorem w_c4 : (Jvm.Cond.code ({ cls := "java/lang/StringUTF16", name := "compress", desc := "([CII)[B" } : Jvm.MethodName) jdk_52_method_16_code (6 : Nat) (Option.some (Jvm.ClassFile.FieldType.array Jvm.ClassFile.FieldType.byte))).before args0 about1 = true := code_word (m := ⟨8, 2⟩) (meth := k8m2) (c := k8c2) (by decide +kernel) rfl rfl rfl (by decide +kernel)
set_option maxRecDepth 65536 in
theorem w_c5 : (Jvm.Cond.code ({ cls := "java/lang/StringUTF16", name := "compress", desc := "([CI[BII)I" } : Jvm.MethodName) jdk_52_method_21_code (7 : Nat) (Option.some Jvm.ClassFile.FieldType.int)).before args0 about1 = true := code_word (m := ⟨8, 3⟩) (meth := k8m3) (c := k8c3) (by decide +kernel) rfl rfl rfl (by decide +kernel)
set_option maxRecDepth 65536 in
theorem w_c6 : (Jvm.Cond.code ({ cls := "java/lang/StringUTF16", name := "coderFromArrayLen", desc := "([BI)B" } : Jvm.MethodName) jdk_52_method_15_code (2 : Nat) (Option.some Jvm.ClassFile.FieldType.byte)).before args0 about1 = true := code_word (m := ⟨8, 1⟩) (meth := k8m1) (c := k8c1) (by decide +kernel) rfl rfl rfl (by decide +kernel)
set_option maxRecDepth 65536 in
theorem w_c7 : (Jvm.Cond.code ({ cls := "java/lang/String", name := "valueOf", desc := "(C)Ljava/lang/String;" } : Jvm.MethodName) jdk_42_method_139_code (1 : Nat) (Option.some (Jvm.ClassFile.FieldType.object "java/lang/String"))).before args0 about1 = true := code_word (m := ⟨7, 4⟩) (meth := k7m4) (c := k7c4) (by decide +kernel) rfl rfl rfl (by decide +kernel)
set_option maxRecDepth 65536 in
theorem w_c8 : (Jvm.Cond.code ({ cls := "java/lang/StringLatin1", name := "canEncode", desc := "(C)Z" } : Jvm.MethodName) jdk_43_method_3_code (1 : Nat) (Option.some Jvm.ClassFile.FieldType.boolean)).before args0 about1 = true := code_word (m := ⟨9, 2⟩) (meth := k9m2) (c := k9c2) (by decide +kernel) rfl rfl rfl (by decide +kernel)
set_option maxRecDepth 65536 in
theorem w_c9 : (Jvm.Cond.code ({ cls := "java/lang/StringLatin1", name := "toBytes", desc := "(C)[B" } : Jvm.MethodName) jdk_43_method_46_code (1 : Nat) (Option.some (Jvm.ClassFile.FieldType.array Jvm.ClassFile.FieldType.byte))).before args0 about1 = true := code_word (m := ⟨9, 3⟩) (meth := k9m3) (c := k9c3) (by decide +kernel) rfl rfl rfl (by decide +kernel)
set_option maxRecDepth 65536 in
theorem w_c10 : (Jvm.Cond.code ({ cls := "java/lang/String", name := "<init>", desc := "([BB)V" } : Jvm.MethodName) jdk_42_method_151_code (3 : Nat) (Option.none : Option Jvm.ClassFile.FieldType)).before args0 about1 = true := code_word (m := ⟨7, 6⟩) (meth := k7m6) (c := k7c6) (by decide +kernel) rfl rfl rfl (by decide +kernel)
set_option maxRecDepth 65536 in
theorem w_c11 : (Jvm.Cond.code ({ cls := "com/example/libmakespan/libmakespan/OneLine$Units", name := "<init>", desc := "(Z)V" } : Jvm.MethodName) prog_21_method_1_code (2 : Nat) (Option.none : Option Jvm.ClassFile.FieldType)).before args0 about1 = true := code_word (m := ⟨10, 0⟩) (meth := k10m0) (c := k10c0) (by decide +kernel) rfl rfl rfl (by decide +kernel)
set_option maxRecDepth 65536 in
theorem w_c12 : (Jvm.Cond.code ({ cls := "com/example/libmakespan/libmakespan/OneLine$Units", name := "reset", desc := "(Ljava/lang/String;I)V" } : Jvm.MethodName) prog_21_method_2_code (3 : Nat) (Option.none : Option Jvm.ClassFile.FieldType)).before args0 about1 = true := code_word (m := ⟨10, 1⟩) (meth := k10m1) (c := k10c1) (by decide +kernel) rfl rfl rfl (by decide +kernel)
set_option maxRecDepth 65536 in
theorem w_c13 : (Jvm.Cond.code ({ cls := "com/example/libmakespan/libmakespan/OneLine$Units", name := "next", desc := "()I" } : Jvm.MethodName) prog_21_method_3_code (3 : Nat) (Option.some Jvm.ClassFile.FieldType.int)).before args0 about1 = true := code_word (m := ⟨10, 2⟩) (meth := k10m2) (c := k10c2) (by decide +kernel) rfl rfl rfl (by decide +kernel)
set_option maxRecDepth 65536 in
theorem w_c14 : (Jvm.Cond.code ({ cls := "java/lang/String", name := "length", desc := "()I" } : Jvm.MethodName) jdk_42_method_54_code (1 : Nat) (Option.some Jvm.ClassFile.FieldType.int)).before args0 about1 = true := code_word (m := ⟨7, 2⟩) (meth := k7m2) (c := k7c2) (by decide +kernel) rfl rfl rfl (by decide +kernel)
set_option maxRecDepth 65536 in
theorem w_c15 : (Jvm.Cond.code ({ cls := "java/lang/String", name := "coder", desc := "()B" } : Jvm.MethodName) jdk_42_method_152_code (1 : Nat) (Option.some Jvm.ClassFile.FieldType.byte)).before args0 about1 = true := code_word (m := ⟨7, 7⟩) (meth := k7m7) (c := k7c7) (by decide +kernel) rfl rfl rfl (by decide +kernel)
set_option maxRecDepth 65536 in
theorem w_c16 : (Jvm.Cond.code ({ cls := "java/lang/String", name := "charAt", desc := "(I)C" } : Jvm.MethodName) jdk_42_method_56_code (2 : Nat) (Option.some Jvm.ClassFile.FieldType.char)).before args0 about1 = true := code_word (m := ⟨7, 3⟩) (meth := k7m3) (c := k7c3) (by decide +kernel) rfl rfl rfl (by decide +kernel)
set_option maxRecDepth 65536 in
theorem w_c17 : (Jvm.Cond.code ({ cls := "java/lang/String", name := "isLatin1", desc := "()Z" } : Jvm.MethodName) jdk_42_method_154_code (1 : Nat) (Option.some Jvm.ClassFile.FieldType.boolean)).before args0 about1 = true := code_word (m := ⟨7, 8⟩) (meth := k7m8) (c := k7c8) (by decide +kernel) rfl rfl rfl (by decide +kernel)
set_option maxRecDepth 65536 in
theorem w_c18 : (Jvm.Cond.code ({ cls := "java/lang/StringLatin1", name := "charAt", desc := "([BI)C" } : Jvm.MethodName) jdk_43_method_2_code (2 : Nat) (Option.some Jvm.ClassFile.FieldType.char)).before args0 about1 = true := code_word (m := ⟨9, 1⟩) (meth := k9m1) (c := k9c1) (by decide +kernel) rfl rfl rfl (by decide +kernel)
set_option maxRecDepth 65536 in
theorem w_c19 : (Jvm.Cond.code ({ cls := "java/lang/String", name := "checkIndex", desc := "(II)V" } : Jvm.MethodName) jdk_42_method_155_code (2 : Nat) (Option.none : Option Jvm.ClassFile.FieldType)).before args0 about1 = true := code_word (m := ⟨7, 9⟩) (meth := k7m9) (c := k7c9) (by decide +kernel) rfl rfl rfl (by decide +kernel)
set_option maxRecDepth 65536 in
theorem w_c20 : (Jvm.Cond.code ({ cls := "jdk/internal/util/Preconditions", name := "checkIndex", desc := "(IILjava/util/function/BiFunction;)I" } : Jvm.MethodName) jdk_41_method_11_code (3 : Nat) (Option.some Jvm.ClassFile.FieldType.int)).before args0 about1 = true := code_word (m := ⟨11, 1⟩) (meth := k11m1) (c := k11c1) (by decide +kernel) rfl rfl rfl (by decide +kernel)
set_option maxRecDepth 65536 in
theorem w_c21 : (Jvm.Cond.code ({ cls := "com/example/libmakespan/libmakespan/OneLine", name := "escaped", desc := "(Ljava/lang/String;IZ)Z" } : Jvm.MethodName) prog_20_method_5_code (4 : Nat) (Option.some Jvm.ClassFile.FieldType.boolean)).before args0 about1 = true := code_word (m := ⟨12, 1⟩) (meth := k12m1) (c := k12c1) (by decide +kernel) rfl rfl rfl (by decide +kernel)
set_option maxRecDepth 65536 in
theorem w_c22 : (Jvm.Cond.code ({ cls := "java/lang/Character", name := "isHighSurrogate", desc := "(C)Z" } : Jvm.MethodName) jdk_89_method_14_code (1 : Nat) (Option.some Jvm.ClassFile.FieldType.boolean)).before args0 about1 = true := code_word (m := ⟨13, 0⟩) (meth := k13m0) (c := k13c0) (by decide +kernel) rfl rfl rfl (by decide +kernel)
set_option maxRecDepth 65536 in
theorem w_c23 : (Jvm.Cond.code ({ cls := "java/lang/Character", name := "isLowSurrogate", desc := "(C)Z" } : Jvm.MethodName) jdk_89_method_15_code (1 : Nat) (Option.some Jvm.ClassFile.FieldType.boolean)).before args0 about1 = true := code_word (m := ⟨13, 1⟩) (meth := k13m1) (c := k13c1) (by decide +kernel) rfl rfl rfl (by decide +kernel)
set_option maxRecDepth 65536 in
theorem w_c24 : (Jvm.Cond.code ({ cls := "java/lang/Character", name := "isISOControl", desc := "(C)Z" } : Jvm.MethodName) jdk_89_method_88_code (1 : Nat) (Option.some Jvm.ClassFile.FieldType.boolean)).before args0 about1 = true := code_word (m := ⟨13, 2⟩) (meth := k13m2) (c := k13c2) (by decide +kernel) rfl rfl rfl (by decide +kernel)
set_option maxRecDepth 65536 in
theorem w_c25 : (Jvm.Cond.code ({ cls := "java/lang/Character", name := "isISOControl", desc := "(I)Z" } : Jvm.MethodName) jdk_89_method_89_code (1 : Nat) (Option.some Jvm.ClassFile.FieldType.boolean)).before args0 about1 = true := code_word (m := ⟨13, 3⟩) (meth := k13m3) (c := k13c3) (by decide +kernel) rfl rfl rfl (by decide +kernel)
set_option maxRecDepth 65536 in
theorem w_c26 : (Jvm.Cond.code ({ cls := "com/example/libmakespan/libmakespan/UnitsResetPinLaw", name := "expected", desc := "(CCIZI)I" } : Jvm.MethodName) method_7_code (9 : Nat) (Option.some Jvm.ClassFile.FieldType.int)).before args0 about1 = true := code_word (m := ⟨1, 5⟩) (meth := k1m5) (c := k1c5) (by decide +kernel) rfl rfl rfl (by decide +kernel)
set_option maxRecDepth 65536 in
theorem w_c27 : (Jvm.Cond.code ({ cls := "com/example/libmakespan/libmakespan/UnitsResetPinLaw", name := "len", desc := "(CZ)I" } : Jvm.MethodName) method_4_code (2 : Nat) (Option.some Jvm.ClassFile.FieldType.int)).before args0 about1 = true := code_word (m := ⟨1, 3⟩) (meth := k1m3) (c := k1c3) (by decide +kernel) rfl rfl rfl (by decide +kernel)
set_option maxRecDepth 65536 in
theorem w_c28 : (Jvm.Cond.code ({ cls := "com/example/libmakespan/libmakespan/UnitsResetPinLaw", name := "esc", desc := "(CZ)Z" } : Jvm.MethodName) method_3_code (2 : Nat) (Option.some Jvm.ClassFile.FieldType.boolean)).before args0 about1 = true := code_word (m := ⟨1, 2⟩) (meth := k1m2) (c := k1c2) (by decide +kernel) rfl rfl rfl (by decide +kernel)
set_option maxRecDepth 65536 in
theorem w_c29 : (Jvm.Cond.code ({ cls := "com/example/libmakespan/libmakespan/UnitsResetPinLaw", name := "unit", desc := "(CZI)I" } : Jvm.MethodName) method_6_code (3 : Nat) (Option.some Jvm.ClassFile.FieldType.int)).before args0 about1 = true := code_word (m := ⟨1, 4⟩) (meth := k1m4) (c := k1c4) (by decide +kernel) rfl rfl rfl (by decide +kernel)
def codes1 : List Jvm.Cond := [Jvm.Cond.code x code maxLocals ret, Jvm.Cond.code ({ cls := "java/lang/String", name := "<init>", desc := "([C)V" } : Jvm.MethodName) jdk_42_method_3_code (2 : Nat) (Option.none : Option Jvm.ClassFile.FieldType), Jvm.Cond.code ({ cls := "java/lang/String", name := "<init>", desc := "([CIILjava/lang/Void;)V" } : Jvm.MethodName) jdk_42_method_149_code (6 : Nat) (Option.none : Option Jvm.ClassFile.FieldType), Jvm.Cond.code ({ cls := "java/lang/Object", name := "<init>", desc := "()V" } : Jvm.MethodName) object_method_1_code (1 : Nat) (Option.none : Option Jvm.ClassFile.FieldType), Jvm.Cond.code ({ cls := "java/lang/StringUTF16", name := "compress", desc := "([CII)[B" } : Jvm.MethodName) jdk_52_method_16_code (6 : Nat) (Option.some (Jvm.ClassFile.FieldType.array Jvm.ClassFile.FieldType.byte)), Jvm.Cond.code ({ cls := "java/lang/StringUTF16", name := "compress", desc := "([CI[BII)I" } : Jvm.MethodName) jdk_52_method_21_code (7 : Nat) (Option.some Jvm.ClassFile.FieldType.int), Jvm.Cond.code ({ cls := "java/lang/StringUTF16", name := "coderFromArrayLen", desc := "([BI)B" } : Jvm.MethodName) jdk_52_method_15_code (2 : Nat) (Option.some Jvm.ClassFile.FieldType.byte), Jvm.Cond.code ({ cls := "java/lang/String", name := "valueOf", desc := "(C)Ljava/lang/String;" } : Jvm.MethodName) jdk_42_method_139_code (1 : Nat) (Option.some (Jvm.ClassFile.FieldType.object "java/lang/String")), Jvm.Cond.code ({ cls := "java/lang/StringLatin1", name := "canEncode", desc := "(C)Z" } : Jvm.MethodName) jdk_43_method_3_code (1 : Nat) (Option.some Jvm.ClassFile.FieldType.boolean), Jvm.Cond.code ({ cls := "java/lang/StringLatin1", name := "toBytes", desc := "(C)[B" } : Jvm.MethodName) jdk_43_method_46_code (1 : Nat) (Option.some (Jvm.ClassFile.FieldType.array Jvm.ClassFile.FieldType.byte)), Jvm.Cond.code ({ cls := "java/lang/String", name := "<init>", desc := "([BB)V" } : Jvm.MethodName) jdk_42_method_151_code (3 : Nat) (Option.none : Option Jvm.ClassFile.FieldType), Jvm.Cond.code ({ cls := "com/example/libmakespan/libmakespan/OneLine$Units", name := "<init>", desc := "(Z)V" } : Jvm.MethodName) prog_21_method_1_code (2 : Nat) (Option.none : Option Jvm.ClassFile.FieldType), Jvm.Cond.code ({ cls := "com/example/libmakespan/libmakespan/OneLine$Units", name := "reset", desc := "(Ljava/lang/String;I)V" } : Jvm.MethodName) prog_21_method_2_code (3 : Nat) (Option.none : Option Jvm.ClassFile.FieldType), Jvm.Cond.code ({ cls := "com/example/libmakespan/libmakespan/OneLine$Units", name := "next", desc := "()I" } : Jvm.MethodName) prog_21_method_3_code (3 : Nat) (Option.some Jvm.ClassFile.FieldType.int), Jvm.Cond.code ({ cls := "java/lang/String", name := "length", desc := "()I" } : Jvm.MethodName) jdk_42_method_54_code (1 : Nat) (Option.some Jvm.ClassFile.FieldType.int), Jvm.Cond.code ({ cls := "java/lang/String", name := "coder", desc := "()B" } : Jvm.MethodName) jdk_42_method_152_code (1 : Nat) (Option.some Jvm.ClassFile.FieldType.byte), Jvm.Cond.code ({ cls := "java/lang/String", name := "charAt", desc := "(I)C" } : Jvm.MethodName) jdk_42_method_56_code (2 : Nat) (Option.some Jvm.ClassFile.FieldType.char), Jvm.Cond.code ({ cls := "java/lang/String", name := "isLatin1", desc := "()Z" } : Jvm.MethodName) jdk_42_method_154_code (1 : Nat) (Option.some Jvm.ClassFile.FieldType.boolean), Jvm.Cond.code ({ cls := "java/lang/StringLatin1", name := "charAt", desc := "([BI)C" } : Jvm.MethodName) jdk_43_method_2_code (2 : Nat) (Option.some Jvm.ClassFile.FieldType.char), Jvm.Cond.code ({ cls := "java/lang/String", name := "checkIndex", desc := "(II)V" } : Jvm.MethodName) jdk_42_method_155_code (2 : Nat) (Option.none : Option Jvm.ClassFile.FieldType), Jvm.Cond.code ({ cls := "jdk/internal/util/Preconditions", name := "checkIndex", desc := "(IILjava/util/function/BiFunction;)I" } : Jvm.MethodName) jdk_41_method_11_code (3 : Nat) (Option.some Jvm.ClassFile.FieldType.int), Jvm.Cond.code ({ cls := "com/example/libmakespan/libmakespan/OneLine", name := "escaped", desc := "(Ljava/lang/String;IZ)Z" } : Jvm.MethodName) prog_20_method_5_code (4 : Nat) (Option.some Jvm.ClassFile.FieldType.boolean), Jvm.Cond.code ({ cls := "java/lang/Character", name := "isHighSurrogate", desc := "(C)Z" } : Jvm.MethodName) jdk_89_method_14_code (1 : Nat) (Option.some Jvm.ClassFile.FieldType.boolean), Jvm.Cond.code ({ cls := "java/lang/Character", name := "isLowSurrogate", desc := "(C)Z" } : Jvm.MethodName) jdk_89_method_15_code (1 : Nat) (Option.some Jvm.ClassFile.FieldType.boolean), Jvm.Cond.code ({ cls := "java/lang/Character", name := "isISOControl", desc := "(C)Z" } : Jvm.MethodName) jdk_89_method_88_code (1 : Nat) (Option.some Jvm.ClassFile.FieldType.boolean), Jvm.Cond.code ({ cls := "java/lang/Character", name := "isISOControl", desc := "(I)Z" } : Jvm.MethodName) jdk_89_method_89_code (1 : Nat) (Option.some Jvm.ClassFile.FieldType.boolean), Jvm.Cond.code ({ cls := "com/example/libmakespan/libmakespan/UnitsResetPinLaw", name := "expected", desc := "(CCIZI)I" } : Jvm.MethodName) method_7_code (9 : Nat) (Option.some Jvm.ClassFile.FieldType.int), Jvm.Cond.code ({ cls := "com/example/libmakespan/libmakespan/UnitsResetPinLaw", name := "len", desc := "(CZ)I" } : Jvm.MethodName) method_4_code (2 : Nat) (Option.some Jvm.ClassFile.FieldType.int), Jvm.Cond.code ({ cls := "com/example/libmakespan/libmakespan/UnitsResetPinLaw", name := "esc", desc := "(CZ)Z" } : Jvm.MethodName) method_3_code (2 : Nat) (Option.some Jvm.ClassFile.FieldType.boolean), Jvm.Cond.code ({ cls := "com/example/libmakespan/libmakespan/UnitsResetPinLaw", name := "unit", desc := "(CZI)I" } : Jvm.MethodName) method_6_code (3 : Nat) (Option.some Jvm.ClassFile.FieldType.int)]
set_option maxRecDepth 65536 in
theorem codes_eq : words1.filter isCode = codes1 := rfl
theorem w_codes : ∀ c ∈ words1.filter isCode, c.before args0 about1 = true := by
  rw [codes_eq]
  intro c hc
  simp only [codes1, List.mem_cons, List.not_mem_nil, or_false] at hc
  rcases hc with rfl | rfl | rfl | rfl | rfl | rfl | rfl | rfl | rfl | rfl | rfl | rfl | rfl | rfl | rfl | rfl | rfl | rfl | rfl | rfl | rfl | rfl | rfl | rfl | rfl | rfl | rfl | rfl | rfl | rfl
  · exact w_c0
  · exact w_c1
  · exact w_c2
  · exact w_c3
  · exact w_c4
  · exact w_c5
  · exact w_c6
  · exact w_c7
  · exact w_c8
  · exact w_c9
  · exact w_c10
  · exact w_c11
  · exact w_c12
  · exact w_c13
  · exact w_c14
  · exact w_c15
  · exact w_c16
  · exact w_c17
  · exact w_c18
  · exact w_c19
  · exact w_c20
  · exact w_c21
  · exact w_c22
  · exact w_c23
  · exact w_c24
  · exact w_c25
  · exact w_c26
  · exact w_c27
  · exact w_c28
  · exact w_c29
set_option maxRecDepth 65536 in
theorem w_t1 : (words1.take 24).all (fun c => isCode c || c.before args0 about1) = true := by decide +kernel
set_option maxRecDepth 65536 in
theorem w_t2 : ((words1.drop 24).take 24).all (fun c => isCode c || c.before args0 about1) = true := by decide +kernel
set_option maxRecDepth 65536 in
theorem w_t3 : (((words1.drop 24).drop 24).take 24).all (fun c => isCode c || c.before args0 about1) = true := by decide +kernel
set_option maxRecDepth 65536 in
theorem w_t4 : ((((words1.drop 24).drop 24).drop 24).take 24).all (fun c => isCode c || c.before args0 about1) = true := by decide +kernel
set_option maxRecDepth 65536 in
theorem w_t5 : (((((words1.drop 24).drop 24).drop 24).drop 24).take 24).all (fun c => isCode c || c.before args0 about1) = true := by decide +kernel
set_option maxRecDepth 65536 in
theorem w_t6 : (((((words1.drop 24).drop 24).drop 24).drop 24).drop 24).all (fun c => isCode c || c.before args0 about1) = true := by decide +kernel
theorem w_tables : (allAtoms (Jvm.Cond.code x code maxLocals ret :: tables_1)).before args0 about1 = true := by
  rw [allAtoms_all]
  show words1.all (fun c => c.before args0 about1) = true
  refine all_split ?_ w_codes
  rw [← List.take_append_drop 24 words1, List.all_append, w_t1, ← List.take_append_drop 24 (words1.drop 24), List.all_append, w_t2, ← List.take_append_drop 24 ((words1.drop 24).drop 24), List.all_append, w_t3, ← List.take_append_drop 24 (((words1.drop 24).drop 24).drop 24), List.all_append, w_t4, ← List.take_append_drop 24 ((((words1.drop 24).drop 24).drop 24).drop 24), List.all_append, w_t5, w_t6]
  rfl
set_option maxRecDepth 65536 in
theorem w_rest : rest_1_c.before args0 about1 = true := by decide +kernel
set_option maxRecDepth 65536 in
theorem w_case : (Jvm.Cond.and given_1 narrow_1).before args0 about1 = true := by decide +kernel
set_option maxRecDepth 65536 in
theorem w_consts : constsHeld consts_1 about1 := Jvm.Lit.constsHeldB_iff.mp (by decide +kernel)
theorem w_applies : (headSpec (Jvm.Cond.code x code maxLocals ret :: tables_1) room_1).applies x e0.platform about1 = true :=
  (Spec.applies_iff w_frames).mpr ⟨w_running, w_runnable, w_alone, w_named, w_hears, w_ripe, w_room, w_tables⟩
theorem atStart : AtStart classFile x code maxLocals ret World_1 tables_1 room_1 Calls_1 rest_1 Pre_1 launch0 p0 e0 about1 theMethod args0 below0 :=
  ⟨lists_1, trivial, launch0.admits_env _ _ _, launch0.least_env, fairChoices_fair.cas, fairChoices_fair.clock, w_frames, w_args, w_heap, w_applies, ⟨w_consts, trivial⟩, w_rest, w_case⟩
end start1
theorem witness_1 : WitnessClaimed_1 := ⟨start1.p0, start1.e0, start1.about1, start1.theMethod, start1.args0, start1.below0, start1.atStart⟩
end Jvm.Pilot.@@N@@
