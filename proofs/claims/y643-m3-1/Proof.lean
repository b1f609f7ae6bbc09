import JvmDerived
import JvmDerived.Pilot.@@N@@Statement
import JvmDerived.Pilot.@@N@@Code
set_option linter.unusedVariables false
set_option linter.unusedSimpArgs false
namespace Jvm.Pilot.@@N@@
open Jvm Jvm.ClassFile Sem Op Lib Jvm.Free Jvm.Stand Jvm.LawKit Jvm.RoadKit Bundle Jvm.Pilot.@@N@@.Jvm.D
section OwnGo
/-! a run that comes to its end: what a body's walk owes, of any state on the way -/
def own_Go (tb : Tables) (e : Env) (below : List Frame) (Q : Outcome → State → Prop) (U : State) : Prop := ∃ s₂ o, Steps tb e below U s₂ ∧ s₂.status = .running ∧ Ended s₂ below o ∧ Q o s₂
theorem own_by {tb : Tables} {e : Env} {below : List Frame} {Q : Outcome → State → Prop} {U V : State} (h : ∀ t, Steps tb e below V t → Steps tb e below U t) (k : own_Go tb e below Q V) : own_Go tb e below Q U := by
  obtain ⟨s2, o, h1, h2⟩ := k; exact ⟨s2, o, h _ h1, h2⟩
theorem own_tr {tb : Tables} {e : Env} {below : List Frame} {Q : Outcome → State → Prop} {U V : State} (h : Steps tb e below U V) (k : own_Go tb e below Q V) : own_Go tb e below Q U := own_by (fun _ q => h.trans q) k
theorem own_gen {α : Type} {x y : α} (h : x = y) {tb : Tables} {e : Env} {below : List Frame} {Q : Outcome → State → Prop} (F : α → State) (k : own_Go tb e below Q (F y)) : own_Go tb e below Q (F x) := h ▸ k
def own_ap (f : Option Value → Heap → List Loc → Prop) (v : Option Value) (h : Heap) (L : List Loc) : Prop := f v h L
/-- what a body's contract says of its end -/
def own_Q (s : State) (Qh : Option Value → Heap → List Loc → Prop) (C S : Nat) (o : Outcome) (U' : State) : Prop := ∃ v L, o = .returned v ∧ Qh v U'.heap L ∧ FrameEnd s o U' L C S
variable {p : Program} {l : Launch} {e : Env} {R : Room} {s : State} {m : MethodId} {args : Array Value} {below : List Frame} {meth : Method} {c : Code} {T : State} {locs : List Loc} {cells slots : Nat} {Z : State} {h : Heap} {a : Addr} {pc : Nat} {Ls : Array Slot} {rest : List Value} {Qh : Option Value → Heap → List Loc → Prop} {C S : Nat} {Q : Outcome → State → Prop}
theorem own_leave (X : Stand p l e R s m args below meth c T locs cells slots) (hlk : meth.locks = false) {v : Option Value} (hv : meth.sig.returnType = none → v = none) {f : JFrame}
    (hst : ∀ fs, (∀ (f : JFrame) (acts : List Action), f.method = m → f.locked = none → f.entered = [] → (doReturn e (T.setTop f) acts v).1 = T.setFrames fs) → Steps p.tables e below (T.setTop f) (T.setFrames fs))
    (hq : Qh v T.heap locs) (hC : cells ≤ C) (hS : slots ≤ S) : own_Go p.tables e below (own_Q s Qh C S) (T.setTop f) := by
  obtain ⟨fs, hr, hrun, hended, hW, hsame⟩ := X.leave (v := v) hv hlk
  exact ⟨_, _, hst fs hr, hrun, hended, _, _, rfl, hq, ⟨_, rfl⟩, hW, hsame.mono hC hS⟩
theorem own_retI (X : Stand p l e R s m args below meth c T locs cells slots) (hx : p.tables.exec = Jvm.exec) (hlk : meth.locks = false) (eT : T.heap = h) (hret : meth.sig.returnType = some .int) {z : Int32} (hd : decode c.code pc = .ok (.ireturn, 1))
    (hq : Qh (some (.int z)) h locs) (hC : cells ≤ C) (hS : slots ≤ S) : own_Go p.tables e below (own_Q s Qh C S) (T.setTop (mkF m pc Ls (.int z :: rest))) :=
  own_leave X hlk (v := some (.int z)) (fun q => by rw [hret] at q; cases q) (fun fs hr => retOut X hx hret rfl (Or.inl ⟨rfl, Or.inl rfl, z, rfl⟩) hd hr) (eT ▸ hq) hC hS
theorem own_retN (X : Stand p l e R s m args below meth c T locs cells slots) (hx : p.tables.exec = Jvm.exec) (hlk : meth.locks = false) (eT : T.heap = h) {t : FieldType} (hret : meth.sig.returnType = some t) (ht : t = .boolean ∨ t = .byte ∨ t = .char ∨ t = .short) {z : Int32} (hd : decode c.code pc = .ok (.ireturn, 1))
    (hq : Qh (some (.int (nar t z))) h locs) (hC : cells ≤ C) (hS : slots ≤ S) : own_Go p.tables e below (own_Q s Qh C S) (T.setTop (mkF m pc Ls (.int z :: rest))) :=
  own_leave X hlk (v := some (.int (nar t z))) (fun q => by rw [hret] at q; cases q) (fun fs hr => retN X hx hret ht hd hr) (eT ▸ hq) hC hS
theorem own_retJ (X : Stand p l e R s m args below meth c T locs cells slots) (hx : p.tables.exec = Jvm.exec) (hlk : meth.locks = false) (eT : T.heap = h) (hret : meth.sig.returnType = some .long) {z : Int64} (hd : decode c.code pc = .ok (.lreturn, 1))
    (hq : Qh (some (.long z)) h locs) (hC : cells ≤ C) (hS : slots ≤ S) : own_Go p.tables e below (own_Q s Qh C S) (T.setTop (mkF m pc Ls (.long z :: rest))) :=
  own_leave X hlk (v := some (.long z)) (fun q => by rw [hret] at q; cases q) (fun fs hr => retOut X hx hret rfl (Or.inr (Or.inl ⟨rfl, rfl, z, rfl⟩)) hd hr) (eT ▸ hq) hC hS
theorem own_retA (X : Stand p l e R s m args below meth c T locs cells slots) (hx : p.tables.exec = Jvm.exec) (hlk : meth.locks = false) (eT : T.heap = h) {t : FieldType} (hret : meth.sig.returnType = some t) (ht : t.isReference = true) {w : Value} (hn : narrow t w = w) (hw : w.isRef = true) (hd : decode c.code pc = .ok (.areturn, 1))
    (hq : Qh (some w) h locs) (hC : cells ≤ C) (hS : slots ≤ S) : own_Go p.tables e below (own_Q s Qh C S) (T.setTop (mkF m pc Ls (w :: rest))) :=
  own_leave X hlk (v := some w) (fun q => by rw [hret] at q; cases q) (fun fs hr => retOut X hx hret hn (Or.inr (Or.inr (Or.inr (Or.inr ⟨rfl, ht, hw⟩)))) hd hr) (eT ▸ hq) hC hS
theorem own_retV (X : Stand p l e R s m args below meth c T locs cells slots) (hx : p.tables.exec = Jvm.exec) (hlk : meth.locks = false) (eT : T.heap = h) (hret : meth.sig.returnType = none) (hd : decode c.code pc = .ok (.return_, 1))
    (hq : Qh none h locs) (hC : cells ≤ C) (hS : slots ≤ S) : own_Go p.tables e below (own_Q s Qh C S) (T.setTop (mkF m pc Ls [])) :=
  own_leave X hlk (v := none) (fun _ => rfl) (fun fs hr => X.returnOut hx hret hd hr) (eT ▸ hq) hC hS
/-! an array by its places -/
def own_upd {α : Type} (f : Nat → α) (k : Nat) (v : α) : Nat → α := fun j => if j = k then v else f j
theorem own_upd_eq {α : Type} (f : Nat → α) (k : Nat) (v : α) : own_upd f k v k = v := by simp [own_upd]
theorem own_upd_ne {α : Type} (f : Nat → α) {k j : Nat} (v : α) (q : j ≠ k) : own_upd f k v j = f j := by simp [own_upd, q]
def own_Ar (Z : State) (h : Heap) (a : Addr) (ty : FieldType) (n : Nat) (f : Nat → Value) : Prop := ∃ cl : Cell, Arr Z h a cl ty ∧ cl.slots.size = n ∧ ∀ j, j < n → cl.slots[j]? = some (f j)
/-- ints and what is kept as ints -/
abbrev own_AI (Z : State) (h : Heap) (a : Addr) (ty : FieldType) (n : Nat) (f : Nat → Int32) : Prop := own_Ar Z h a ty n (fun j => .int (f j))
abbrev own_AJ (Z : State) (h : Heap) (a : Addr) (n : Nat) (f : Nat → Int64) : Prop := own_Ar Z h a .long n (fun j => .long (f j))
section
variable {h' : Heap} {b : Addr} {ty : FieldType} {n : Nat} {f : Nat → Value} {v : Value} {sl : Nat} {ws : List Addr}
theorem own_Ar.lt (A : own_Ar Z h a ty n f) : a < h.size := by obtain ⟨cl, q, -⟩ := A; exact q.lt
theorem own_Ar.ext (A : own_Ar Z h a ty n f) (E : Ext h h') : own_Ar Z h' a ty n f := by obtain ⟨cl, q, r⟩ := A; exact ⟨cl, q.ext E, r⟩
theorem own_Ar.other (A : own_Ar Z h a ty n f) (W : Wr h h' b sl v) (q : a ≠ b) : own_Ar Z h' a ty n f := by obtain ⟨cl, r, r'⟩ := A; exact ⟨cl, r.other W q, r'⟩
theorem own_Ar.keep (A : own_Ar Z h a ty n f) (K : Keep h h' ws) (q : a ∉ ws) : own_Ar Z h' a ty n f := by obtain ⟨cl, r, r'⟩ := A; exact ⟨cl, ⟨K.2.1 _ _ r.1 q, r.2⟩, r'⟩
theorem own_Ar.congr (A : own_Ar Z h a ty n f) {g : Nat → Value} (q : ∀ j, j < n → f j = g j) : own_Ar Z h a ty n g := by obtain ⟨cl, r, r1, r2⟩ := A; exact ⟨cl, r, r1, fun j hj => by rw [r2 j hj, q j hj]⟩
theorem own_in {j : Int32} {k n : Nat} (hk : j.toInt = (k : Int)) (hn : k < n) {cl : Cell} (S : cl.slots.size = n) : ¬ (j < 0 ∨ cl.slots.size ≤ j.toNatClampNeg) ∧ j.toNatClampNeg = k := by
  have q : j.toNatClampNeg = k := by simp [Int32.toNatClampNeg, hk]
  refine ⟨fun r => ?_, q⟩
  rcases r with r | r
  · rw [Int32.lt_iff_toInt_lt] at r; simp only [Int32.reduceToInt] at r; omega
  · omega
theorem own_Ar.set (A : own_Ar Z h a ty n f) {k : Nat} (hk : k < n) (W : Wr h h' a k v) : own_Ar Z h' a ty n (own_upd f k v) := by
  obtain ⟨cl, r, r1, r2⟩ := A
  refine ⟨_, r.same W, by rw [sz_set]; exact r1, fun j hj => ?_⟩
  show (cl.slots.setIfInBounds k v)[j]? = _
  by_cases q : j = k
  · subst q; simp [own_upd, r1, hj]
  · rw [Array.getElem?_setIfInBounds_ne (fun y => q y.symm), r2 j hj, own_upd_ne _ _ q]
end
theorem own_bal (X : Stand p l e R s m args below meth c T locs cells slots) (hx : p.tables.exec = Jvm.exec) (hZ : Z.Warmed39 s.vm) (eT : T.heap = h) {n : Nat} {f : Nat → Value} (A : own_Ar Z h a .byte n f) {j : Int32} (k : Nat) (hk : j.toInt = (k : Int)) (hn : k < n) (hd : decode c.code pc = .ok (.baload, 1)) {t : State}
    (kt : Steps p.tables e below (T.setTop (mkF m (pc + 1) Ls (f k :: rest))) t) : Steps p.tables e below (T.setTop (mkF m pc Ls (.int j :: .ref a :: rest))) t := by
  obtain ⟨cl, r, r1, r2⟩ := A
  obtain ⟨q1, q2⟩ := own_in hk hn r1
  exact X.baloadBytes hx (j := j) (v := f k) (by rw [eT]; exact r.1) (State.isArrayOf_alike hZ.alike r.2.1) r.2.2 q1 (by rw [q2]; exact r2 k hn) (g := mkF m pc Ls (.int j :: .ref a :: rest)) rfl rfl hd _ kt
theorem own_ial (X : Stand p l e R s m args below meth c T locs cells slots) (hx : p.tables.exec = Jvm.exec) (hZ : Z.Warmed39 s.vm) (eT : T.heap = h) {n : Nat} {f : Nat → Value} (A : own_Ar Z h a .int n f) {j : Int32} (k : Nat) (hk : j.toInt = (k : Int)) (hn : k < n) (hd : decode c.code pc = .ok (.iaload, 1)) {t : State}
    (kt : Steps p.tables e below (T.setTop (mkF m (pc + 1) Ls (f k :: rest))) t) : Steps p.tables e below (T.setTop (mkF m pc Ls (.int j :: .ref a :: rest))) t := by
  obtain ⟨cl, r, r1, r2⟩ := A
  obtain ⟨q1, q2⟩ := own_in hk hn r1
  exact X.iaload hx (j := j) (v := f k) (by rw [eT]; exact r.1) (State.isArrayOf_alike hZ.alike r.2.1) r.2.2 q1 (by rw [q2]; exact r2 k hn) (g := mkF m pc Ls (.int j :: .ref a :: rest)) rfl rfl hd _ kt
theorem own_lal (X : Stand p l e R s m args below meth c T locs cells slots) (hx : p.tables.exec = Jvm.exec) (hZ : Z.Warmed39 s.vm) (eT : T.heap = h) {n : Nat} {f : Nat → Value} (A : own_Ar Z h a .long n f) {j : Int32} (k : Nat) (hk : j.toInt = (k : Int)) (hn : k < n) (hd : decode c.code pc = .ok (.laload, 1)) {t : State}
    (kt : Steps p.tables e below (T.setTop (mkF m (pc + 1) Ls (f k :: rest))) t) : Steps p.tables e below (T.setTop (mkF m pc Ls (.int j :: .ref a :: rest))) t := by
  obtain ⟨cl, r, r1, r2⟩ := A
  obtain ⟨q1, q2⟩ := own_in hk hn r1
  exact X.laload hx (j := j) (v := f k) (by rw [eT]; exact r.1) (State.isArrayOf_alike hZ.alike r.2.1) r.2.2 q1 (by rw [q2]; exact r2 k hn) (g := mkF m pc Ls (.int j :: .ref a :: rest)) rfl rfl hd _ kt
theorem own_len (X : Stand p l e R s m args below meth c T locs cells slots) (hx : p.tables.exec = Jvm.exec) (hZ : Z.Warmed39 s.vm) (eT : T.heap = h) {ty : FieldType} {n : Nat} {f : Nat → Value} (A : own_Ar Z h a ty n f) (z : Int32) (hz : z = n.toInt32) (hd : decode c.code pc = .ok (.arraylength, 1)) {t : State}
    (kt : Steps p.tables e below (T.setTop (mkF m (pc + 1) Ls (.int z :: rest))) t) : Steps p.tables e below (T.setTop (mkF m pc Ls (.ref a :: rest))) t := by
  obtain ⟨cl, r, r1, r2⟩ := A
  refine X.arraylength hx (by rw [eT]; exact r.1) (State.isArrayOf_alike hZ.alike r.2.1) (g := mkF m pc Ls (.ref a :: rest)) rfl rfl hd _ ?_
  rw [r1, ← hz]; exact kt
theorem own_bas (X : Stand p l e R s m args below meth c T locs cells slots) (hx : p.tables.exec = Jvm.exec) (hZ : Z.Warmed39 s.vm) (eT : T.heap = h) {n : Nat} {f : Nat → Int32} (A : own_AI Z h a .byte n f) {j x : Int32} (k : Nat) (hk : j.toInt = (k : Int)) (hn : k < n) (hd : decode c.code pc = .ok (.bastore, 1))
    (K : ∀ T' h', Stand p l e R s m args below meth c T' (locs ++ [⟨a, k⟩]) cells slots → T'.heap = h' → Wr h h' a k (.int (nar .byte x)) → own_AI Z h' a .byte n (own_upd f k (nar .byte x)) → own_Go p.tables e below Q (T'.setTop (mkF m (pc + 1) Ls rest))) :
    own_Go p.tables e below Q (T.setTop (mkF m pc Ls (.int x :: .int j :: .ref a :: rest))) := by
  obtain ⟨cl, r, r1, r2⟩ := id A
  obtain ⟨q1, q2⟩ := own_in hk hn r1
  obtain ⟨T', h', X', e', W, st⟩ := stB X hx hZ eT r (j := j) (x := x) q1 (g := mkF m pc Ls (.int x :: .int j :: .ref a :: rest)) rfl rfl hd
  rw [q2] at X' W
  exact own_by st (K T' h' X' e' W ((A.set hn W).congr fun i hi => by simp only [own_upd]; split <;> rfl))
theorem own_ias (X : Stand p l e R s m args below meth c T locs cells slots) (hx : p.tables.exec = Jvm.exec) (hZ : Z.Warmed39 s.vm) (eT : T.heap = h) {n : Nat} {f : Nat → Int32} (A : own_AI Z h a .int n f) {j x : Int32} (k : Nat) (hk : j.toInt = (k : Int)) (hn : k < n) (hd : decode c.code pc = .ok (.iastore, 1))
    (K : ∀ T' h', Stand p l e R s m args below meth c T' (locs ++ [⟨a, k⟩]) cells slots → T'.heap = h' → Wr h h' a k (.int x) → own_AI Z h' a .int n (own_upd f k x) → own_Go p.tables e below Q (T'.setTop (mkF m (pc + 1) Ls rest))) :
    own_Go p.tables e below Q (T.setTop (mkF m pc Ls (.int x :: .int j :: .ref a :: rest))) := by
  obtain ⟨cl, r, r1, r2⟩ := id A
  obtain ⟨q1, q2⟩ := own_in hk hn r1
  obtain ⟨T', h', X', e', W, st⟩ := stI X hx hZ eT r (j := j) (x := x) q1 (g := mkF m pc Ls (.int x :: .int j :: .ref a :: rest)) rfl rfl hd
  rw [q2] at X' W
  exact own_by st (K T' h' X' e' W ((A.set hn W).congr fun i hi => by simp only [own_upd]; split <;> rfl))
theorem own_las (X : Stand p l e R s m args below meth c T locs cells slots) (hx : p.tables.exec = Jvm.exec) (hZ : Z.Warmed39 s.vm) (eT : T.heap = h) {n : Nat} {f : Nat → Int64} (A : own_AJ Z h a n f) {j : Int32} {x : Int64} (k : Nat) (hk : j.toInt = (k : Int)) (hn : k < n) (hd : decode c.code pc = .ok (.lastore, 1))
    (K : ∀ T' h', Stand p l e R s m args below meth c T' (locs ++ [⟨a, k⟩]) cells slots → T'.heap = h' → Wr h h' a k (.long x) → own_AJ Z h' a n (own_upd f k x) → own_Go p.tables e below Q (T'.setTop (mkF m (pc + 1) Ls rest))) :
    own_Go p.tables e below Q (T.setTop (mkF m pc Ls (.long x :: .int j :: .ref a :: rest))) := by
  obtain ⟨cl, r, r1, r2⟩ := id A
  obtain ⟨q1, q2⟩ := own_in hk hn r1
  obtain ⟨T', h', X', e', W, st⟩ := stJ X hx hZ eT r (j := j) (x := x) q1 (g := mkF m pc Ls (.long x :: .int j :: .ref a :: rest)) rfl rfl hd
  rw [q2] at X' W
  exact own_by st (K T' h' X' e' W ((A.set hn W).congr fun i hi => by simp only [own_upd]; split <;> rfl))
theorem own_newP (X : Stand p l e R s m args below meth c T locs cells slots) (hx : p.tables.exec = Jvm.exec) (hZ : Z.Warmed39 s.vm) {a0 : Array Value} {aty : ArrayType} (w : (Cond.arrayClass (newarray.typeOf aty)).before a0 Z = true) (eT : T.heap = h) {n : Int32} (k : Nat) (hk : n.toInt = (k : Int)) (cap : Nat) (hcap : k ≤ cap) (hb : cap * 8 ≤ 536870912) (hc : cells + 1 ≤ R.cells) (hl : slots + cap ≤ R.slots)
    (hd : decode c.code pc = .ok (.newarray aty, 2))
    (K : ∀ T' h', Stand p l e R s m args below meth c T' locs (cells + 1) (slots + cap) → T'.heap = h' → Ext h h' → own_Ar Z h' h.size (newarray.typeOf aty) k (fun _ => defaultValue (newarray.typeOf aty)) → own_Go p.tables e below Q (T'.setTop (mkF m (pc + 2) Ls (.ref h.size :: rest)))) :
    own_Go p.tables e below Q (T.setTop (mkF m pc Ls (.int n :: rest))) := by
  have q : n.toNatClampNeg = k := by simp [Int32.toNatClampNeg, hk]
  have q0 : ¬ n < 0 := by rw [Int32.lt_iff_toInt_lt]; simp only [Int32.reduceToInt]; omega
  obtain ⟨T', h', kk, X', e', E, A, st⟩ := newP X hx hZ w eT (n := n) (g := mkF m pc Ls (.int n :: rest)) rfl hd rfl q0 (cap := cap) (by rw [q]; exact hcap) hb hc hl
  refine own_by st (K T' h' X' e' E ⟨_, A, by rw [sz_new, q], fun j hj => ?_⟩)
  simp [newA, q, hj]
theorem own_newPE (X : Stand p l e R s m args below meth c T locs cells slots) (hx : p.tables.exec = Jvm.exec) (hZ : Z.Warmed39 s.vm) {a0 : Array Value} {aty : ArrayType} (w : (Cond.arrayClass (newarray.typeOf aty)).before a0 Z = true) (eT : T.heap = h) {n : Int32} (k : Nat) (hk : n.toInt = (k : Int)) (cap : Nat) (hcap : k ≤ cap) (hb : cap * 8 ≤ 536870912) (hc : cells + 1 ≤ R.cells) (hl : slots + cap ≤ R.slots)
    (hd : decode c.code pc = .ok (.newarray aty, 2)) {ad : String} (had : "[" ++ (newarray.typeOf aty).toString = ad)
    (K : ∀ T' h', Stand p l e R s m args below meth c T' locs (cells + 1) (slots + cap) → T'.heap = h' → Ext h h' → own_Ar Z h' h.size (newarray.typeOf aty) k (fun _ => defaultValue (newarray.typeOf aty)) → Exa Z h' h.size ad → own_Go p.tables e below Q (T'.setTop (mkF m (pc + 2) Ls (.ref h.size :: rest)))) :
    own_Go p.tables e below Q (T.setTop (mkF m pc Ls (.int n :: rest))) := by
  have q : n.toNatClampNeg = k := by simp [Int32.toNatClampNeg, hk]
  have q0 : ¬ n < 0 := by rw [Int32.lt_iff_toInt_lt]; simp only [Int32.reduceToInt]; omega
  obtain ⟨T', h', kk, X', e', E, A, EX, st⟩ := newPE X hx hZ w eT (n := n) (g := mkF m pc Ls (.int n :: rest)) rfl hd rfl q0 (cap := cap) (by rw [q]; exact hcap) hb hc hl had
  refine own_by st (K T' h' X' e' E ⟨_, A, by rw [sz_new, q], fun j hj => ?_⟩ EX)
  simp [newA, q, hj]
section
variable {a0 : Array Value} {own : String} {index : Nat} {y : MethodName} {bytes : ByteArray} {maxL : Nat} {ret : Option FieldType} {rm : Room} {as' : Array Value} {Qc : Option Value → Heap → List Loc → Prop} {argsL : List Value} {St : List Value}
/-! calls by contract, with what comes behind -/
theorem own_callS (X : Stand p l e R s m args below meth c T locs cells slots) (hx : p.tables.exec = Jvm.exec) (hZ : Z.Warmed39 s.vm) (hown : s.vm.findClass own = some m.cls)
    (w1 : (Cond.methodLink own index y).before a0 Z = true) (w2 : (Cond.static y).before a0 Z = true) (w3 : (Cond.initialized y.cls).before a0 Z = true) (w4 : (Cond.code y bytes maxL ret).before a0 Z = true) (hy : y.cls ≠ "java/lang/invoke/MethodHandle" ∧ y.cls ≠ "java/lang/invoke/VarHandle")
    (hM : MetFree l y (head1 [Cond.code y bytes maxL ret] rm) (fun a U => a = as' ∧ Z.Warmed39 U.vm ∧ U.heap = h) (fun _ _ _ _ _ => True) (fun _ U o U' => ∃ v L, o = .returned v ∧ Qc v U'.heap L ∧ FrameEnd U o U' L rm.cells rm.slots))
    (eT : T.heap = h) (hsize : Ls.size = c.maxLocals) (argsL rest : List Value) (hst : St = argsL.reverse ++ rest) (hlen : ∀ sig, parseMethodDescriptor y.desc = some sig → argsL.length = sig.parameters.length) (ha : argsL.toArray = as') (W : Nat) (hW : 2 * 0 + (rest.map fun v => v.category).sum ≤ W)
    (hf : rm.frames + 1 ≤ R.frames) (hl : W + (maxL + 11) + rm.locals ≤ R.locals) (hc : cells + rm.cells ≤ R.cells) (hs : slots + rm.slots ≤ R.slots) (hd : decode c.code pc = .ok (.invokestatic index, 3))
    (K : ∀ T' Lc v, Stand p l e R s m args below meth c T' (locs ++ Lc) (cells + rm.cells) (slots + rm.slots) → Qc v T'.heap Lc → own_Go p.tables e below Q (T'.setTop (mkF m (pc + 3) Ls (v.toList ++ rest)))) :
    own_Go p.tables e below Q (T.setTop (mkF m pc Ls St)) := by
  obtain ⟨v, _, ⟨T1, L1, k1, n1⟩, -, X1, ⟨Lc, hQ, l1, y1, z1⟩, st1⟩ := Jvm.LawKit.callS X hx (y := y) hown (mvT hZ w1) (mvT hZ w2) (mvT hZ w3) (mvT hZ w4) hy (backOf (W := W) hM hZ w4 w3 hf hl) (g := mkF m pc Ls St) rfl hsize (argsL := argsL) (rest := rest) hlen hst hW hd (fun _ _ => ⟨ha, eT, hc, hs⟩)
  dsimp only [Pt.U, Pt.locs, Pt.cells, Pt.slots] at X1 l1 y1 z1 st1 hQ
  subst l1 y1 z1
  exact own_by st1 (K T1 Lc v X1 hQ)
theorem own_callI (X : Stand p l e R s m args below meth c T locs cells slots) (hx : p.tables.exec = Jvm.exec) (hZ : Z.Warmed39 s.vm) (hown : s.vm.findClass own = some m.cls) (hy1 : y.name = "<init>")
    (w1 : (Cond.methodLink own index y).before a0 Z = true) (w2 : (Cond.instanceMethod y).before a0 Z = true) (w3 : (Cond.initialized y.cls).before a0 Z = true) (w4 : (Cond.code y bytes maxL none).before a0 Z = true) (hy : y.cls ≠ "java/lang/invoke/MethodHandle" ∧ y.cls ≠ "java/lang/invoke/VarHandle")
    (hM : MetFree l y (head1 [Cond.code y bytes maxL none] rm) (fun a U => a = as' ∧ Z.Warmed39 U.vm ∧ U.heap = h) (fun _ _ _ _ _ => True) (fun _ U o U' => ∃ v L, o = .returned v ∧ Qc v U'.heap L ∧ FrameEnd U o U' L rm.cells rm.slots))
    (eT : T.heap = h) (hsize : Ls.size = c.maxLocals) (b : Addr) (argsL rest : List Value) (hst : St = argsL.reverse ++ .ref b :: rest) (hlen : ∀ sig, parseMethodDescriptor y.desc = some sig → argsL.length = sig.parameters.length) (ha : (Value.ref b :: argsL).toArray = as') (W : Nat) (hW : 2 * 0 + (rest.map fun v => v.category).sum ≤ W)
    (hf : rm.frames + 1 ≤ R.frames) (hl : W + (maxL + 11) + rm.locals ≤ R.locals) (hc : cells + rm.cells ≤ R.cells) (hs : slots + rm.slots ≤ R.slots) (hd : decode c.code pc = .ok (.invokespecial index, 3))
    (K : ∀ T' Lc v, Stand p l e R s m args below meth c T' (locs ++ Lc) (cells + rm.cells) (slots + rm.slots) → Qc v T'.heap Lc → own_Go p.tables e below Q (T'.setTop (mkF m (pc + 3) Ls (v.toList ++ rest)))) :
    own_Go p.tables e below Q (T.setTop (mkF m pc Ls St)) := by
  obtain ⟨v, _, ⟨T1, L1, k1, n1⟩, -, X1, ⟨Lc, hQ, l1, y1, z1⟩, st1⟩ := X.specialBack hx (y := y) hy1 hown (mvT hZ w1) (mvT hZ w2) (mvT hZ w4) hy (backOf (W := W) hM hZ w4 w3 hf hl) (g := mkF m pc Ls St) rfl hsize (Steps.refl _) (a := b) (argsL := argsL) (rest := rest) hlen hst hW hd (fun _ _ => ⟨ha, eT, hc, hs⟩)
  dsimp only [Pt.U, Pt.locs, Pt.cells, Pt.slots] at X1 l1 y1 z1 st1 hQ
  subst l1 y1 z1
  exact own_tr st1 (K T1 Lc v X1 hQ)
theorem own_callV {C : String} {z : MethodName} (X : Stand p l e R s m args below meth c T locs cells slots) (hx : p.tables.exec = Jvm.exec) (hZ : Z.Warmed39 s.vm) (hown : s.vm.findClass own = some m.cls)
    (w1 : (Cond.methodLink own index y).before a0 Z = true) (w2 : (Cond.declares y).before a0 Z = true) (hnf : NotFace s y) (w5 : (Cond.selects C y z).before a0 Z = true) (w6 : (Cond.instanceMethod z).before a0 Z = true) (w3 : (Cond.initialized z.cls).before a0 Z = true) (w4 : (Cond.code z bytes maxL ret).before a0 Z = true) (hy : y.cls ≠ "java/lang/invoke/MethodHandle" ∧ y.cls ≠ "java/lang/invoke/VarHandle")
    (hM : MetFree l z (head1 [Cond.code z bytes maxL ret] rm) (fun a U => a = as' ∧ Z.Warmed39 U.vm ∧ U.heap = h) (fun _ _ _ _ _ => True) (fun _ U o U' => ∃ v L, o = .returned v ∧ Qc v U'.heap L ∧ FrameEnd U o U' L rm.cells rm.slots))
    (eT : T.heap = h) (b : Addr) (E : Exa Z h b C) (hsize : Ls.size = c.maxLocals) (argsL rest : List Value) (hst : St = argsL.reverse ++ .ref b :: rest) (hlen : ∀ sig, parseMethodDescriptor y.desc = some sig → argsL.length = sig.parameters.length) (ha : (Value.ref b :: argsL).toArray = as') (W : Nat) (hW : 2 * 0 + (rest.map fun v => v.category).sum ≤ W)
    (hf : rm.frames + 1 ≤ R.frames) (hl : W + (maxL + 11) + rm.locals ≤ R.locals) (hc : cells + rm.cells ≤ R.cells) (hs : slots + rm.slots ≤ R.slots) (hd : decode c.code pc = .ok (.invokevirtual index, 3))
    (K : ∀ T' Lc v, Stand p l e R s m args below meth c T' (locs ++ Lc) (cells + rm.cells) (slots + rm.slots) → Qc v T'.heap Lc → own_Go p.tables e below Q (T'.setTop (mkF m (pc + 3) Ls (v.toList ++ rest)))) :
    own_Go p.tables e below Q (T.setTop (mkF m pc Ls St)) := by
  obtain ⟨cq, kq, qa, qb, qc⟩ := isOf hZ eT E
  obtain ⟨v, _, ⟨T1, L1, k1, n1⟩, -, X1, ⟨Lc, hQ, l1, y1, z1⟩, st1⟩ := X.virtualBack hx (y := y) (z := z) hown (mvT hZ w1) (mvT hZ w2) hnf (mvT hZ w5) (mvT hZ w6) hy (backOf (W := W) hM hZ w4 w3 hf hl) qa qc (g := mkF m pc Ls St) rfl hsize (Steps.refl _) (argsL := argsL) (rest := rest) hlen hst hW hd (fun _ _ => ⟨ha, eT, hc, hs⟩)
  dsimp only [Pt.U, Pt.locs, Pt.cells, Pt.slots] at X1 l1 y1 z1 st1 hQ
  subst l1 y1 z1
  exact own_tr st1 (K T1 Lc v X1 hQ)
theorem own_selp {s : State} {aa : Array Value} {y y' : MethodName} (hc : y.cls = y'.cls) (w1 : (Cond.selects y'.cls y' y').before aa s = true) (hpriv : s.PrivateAt y) (hinst : (Cond.instanceMethod y).before aa s = true) (hy : y.cls ≠ "java/lang/invoke/MethodHandle" ∧ y.cls ≠ "java/lang/invoke/VarHandle") : (Cond.selects y.cls y y).before aa s = true := by
  obtain ⟨c2, r2, m2, q0, -, q3, -, kP, hkP, hkPi⟩ := Cond.selects_spec w1
  have h1 : s.vm.findClass y'.cls = some m2.cls := findClass_of_methodNamed q3
  exact selects_self_of_private (by rw [hc]; exact h1) hkP hkPi hpriv hinst hy
theorem own_callP {y' : MethodName} (X : Stand p l e R s m args below meth c T locs cells slots) (hx : p.tables.exec = Jvm.exec) (hZ : Z.Warmed39 s.vm) (hown : s.vm.findClass own = some m.cls)
    (w1 : (Cond.methodLink own index y).before a0 Z = true) (w2 : (Cond.instanceMethod y).before a0 Z = true) (w5 : (Cond.privateMethod y).before a0 Z = true) (hcc : y.cls = y'.cls) (w6 : (Cond.selects y'.cls y' y').before a0 Z = true) (w3 : (Cond.initialized y.cls).before a0 Z = true) (w4 : (Cond.code y bytes maxL ret).before a0 Z = true) (hy : y.cls ≠ "java/lang/invoke/MethodHandle" ∧ y.cls ≠ "java/lang/invoke/VarHandle")
    (hM : MetFree l y (head1 [Cond.code y bytes maxL ret] rm) (fun a U => a = as' ∧ Z.Warmed39 U.vm ∧ U.heap = h) (fun _ _ _ _ _ => True) (fun _ U o U' => ∃ v L, o = .returned v ∧ Qc v U'.heap L ∧ FrameEnd U o U' L rm.cells rm.slots))
    (eT : T.heap = h) (b : Addr) {C : String} (E : Exa Z h b C) (hsize : Ls.size = c.maxLocals) (argsL rest : List Value) (hst : St = argsL.reverse ++ .ref b :: rest) (hlen : ∀ sig, parseMethodDescriptor y.desc = some sig → argsL.length = sig.parameters.length) (ha : (Value.ref b :: argsL).toArray = as') (W : Nat) (hW : 2 * 0 + (rest.map fun v => v.category).sum ≤ W)
    (hf : rm.frames + 1 ≤ R.frames) (hl : W + (maxL + 11) + rm.locals ≤ R.locals) (hc : cells + rm.cells ≤ R.cells) (hs : slots + rm.slots ≤ R.slots) (hd : decode c.code pc = .ok (.invokevirtual index, 3))
    (K : ∀ T' Lc v, Stand p l e R s m args below meth c T' (locs ++ Lc) (cells + rm.cells) (slots + rm.slots) → Qc v T'.heap Lc → own_Go p.tables e below Q (T'.setTop (mkF m (pc + 3) Ls (v.toList ++ rest)))) :
    own_Go p.tables e below Q (T.setTop (mkF m pc Ls St)) := by
  obtain ⟨cq, q1, q2⟩ := E.cell
  have hpr := Cond.privateMethod_at (mvP hZ w5 (args := #[]))
  obtain ⟨v, _, ⟨T1, L1, k1, n1⟩, -, X1, ⟨Lc, hQ, l1, y1, z1⟩, st1⟩ := X.privateBack hx (y := y) hown (mvT hZ w1) (mvT hZ w2) (own_selp hcc (mvT hZ w6) hpr (mvT hZ w2) hy) hpr (mvT hZ w4) hy (backOf (W := W) hM hZ w4 w3 hf hl) (g := mkF m pc Ls St) rfl hsize (Steps.refl _) (a := b) (by rw [eT]; exact q1) q2 (argsL := argsL) (rest := rest) hlen hst hW hd (fun _ _ => ⟨ha, eT, hc, hs⟩)
  dsimp only [Pt.U, Pt.locs, Pt.cells, Pt.slots] at X1 l1 y1 z1 st1 hQ
  subst l1 y1 z1
  exact own_tr st1 (K T1 Lc v X1 hQ)
end
theorem own_size_wr {h h' : Heap} {b : Addr} {sl : Nat} {v : Value} {n0 : Nat} (W : Wr h h' b sl v) (q : n0 ≤ h.size) : n0 ≤ h'.size := by rw [W.size]; exact q
end OwnGo
theorem own_pd0 : parseMethodDescriptor "()V" = some ⟨[], none⟩ := by decide +kernel
theorem own_pd1 : parseMethodDescriptor "(I)V" = some ⟨[.int], none⟩ := by decide +kernel
theorem own_pd2 : parseMethodDescriptor "(I)Z" = some ⟨[.int], some .boolean⟩ := by decide +kernel
theorem own_pd3 : parseMethodDescriptor "(IIZIZI)Z" = some ⟨[.int, .int, .boolean, .int, .boolean, .int], some .boolean⟩ := by decide +kernel
theorem own_pd4 : parseMethodDescriptor "(II)I" = some ⟨[.int, .int], some .int⟩ := by decide +kernel
theorem own_pd5 : parseMethodDescriptor "([JI)[J" = some ⟨[(.array .long), .int], some (.array .long)⟩ := by decide +kernel
theorem own_ofN {e : Nat} (h : e < 2147483648) : (Int32.ofNat e).toInt = (e : Int) := Int32.toInt_ofNat_small h
theorem own_clamp {z : Int32} {n : Nat} (h : z.toInt = (n : Int)) : z.toNatClampNeg = n ∧ ¬ z < 0 := by
  refine ⟨by simp [Int32.toNatClampNeg, h], ?_⟩
  rw [Int32.lt_iff_toInt_lt]; simp only [Int32.reduceToInt]; omega
theorem own_toArv {Z : State} {h : Heap} {a : Addr} {n : Nat} {f : Nat → Int64} (A : own_AJ Z h a n f) {z : Int32} (hz : z.toInt = (n : Int)) : ∃ k, Arv Z h a k .long z ((List.range n).map fun j => Value.long (f j)) (.long 0) := by
  obtain ⟨cl, r, r1, r2⟩ := A
  obtain ⟨q1, q2⟩ := own_clamp hz
  have g : ∀ i, i < n → ((List.range n).map fun j => Value.long (f j)).getD i (.long 0) = .long (f i) := fun i hi => by
    simp [List.getD_eq_getElem?_getD, hi]
  exact ⟨cl.cls, cl, r, rfl, by rw [r1, q1], q2, fun i hi => by rw [g i (by omega)]; exact r2 i (by omega), fun i hi => by rw [g i (by omega)]; rfl⟩
theorem own_ofArv {Z : State} {h : Heap} {a : Addr} {k : ClassId} {n : Nat} {f : Nat → Int64} {z : Int32} {vs : List Value} {d : Value} (A : Arv Z h a k .long z vs d) (hz : z.toInt = (n : Int)) (hf : ∀ j, j < n → vs.getD j d = .long (f j)) : own_AJ Z h a n f := by
  obtain ⟨cl, r, -, r2, -, r4, -⟩ := A
  obtain ⟨q1, q2⟩ := own_clamp hz
  exact ⟨cl, r, by rw [r2, q1], fun j hj => by rw [r4 j (by omega), hf j hj]⟩
theorem own_cpd (n N : Nat) (h : n ≤ N) (f g : Nat → Int64) (j : Nat) (hj : j < N) : (((List.range N).map fun j => Value.long (g j)).take 0 ++ ((List.range n).map fun i => ((List.range n).map fun j => Value.long (f j)).getD (0 + i) (.long 0)) ++ ((List.range N).map fun j => Value.long (g j)).drop (0 + n)).getD j (.long 0) = .long (if j < n then f j else g j) := by
  simp only [List.take_zero, List.nil_append, Nat.zero_add, List.getD_eq_getElem?_getD]
  by_cases q : j < n
  · rw [List.getElem?_append_left (by simpa using q)]
    simp [q]
  · rw [List.getElem?_append_right (by simpa using Nat.le_of_not_lt q)]
    have e : n + (j - n) = j := by omega
    simp [q, e, hj]
theorem d11_0 : decode jdk_29_method_69_code 0 = .ok (.iload_n 0, 1) := by decide +kernel
theorem d11_1 : decode jdk_29_method_69_code 1 = .ok (.iload_n 1, 1) := by decide +kernel
theorem d11_2 : decode jdk_29_method_69_code 2 = .ok (.if_icmp .gt 7, 3) := by decide +kernel
theorem d11_5 : decode jdk_29_method_69_code 5 = .ok (.iload_n 0, 1) := by decide +kernel
theorem d11_6 : decode jdk_29_method_69_code 6 = .ok (.goto 4, 3) := by decide +kernel
theorem d11_9 : decode jdk_29_method_69_code 9 = .ok (.iload_n 1, 1) := by decide +kernel
theorem d11_10 : decode jdk_29_method_69_code 10 = .ok (.ireturn, 1) := by decide +kernel
theorem d10_0 : decode jdk_65_method_124_code 0 = .ok (.iload_n 1, 1) := by decide +kernel
theorem d10_1 : decode jdk_65_method_124_code 1 = .ok (.aload_n 0, 1) := by decide +kernel
theorem d10_2 : decode jdk_65_method_124_code 2 = .ok (.arraylength, 1) := by decide +kernel
theorem d10_3 : decode jdk_65_method_124_code 3 = .ok (.if_icmp .ne 11, 3) := by decide +kernel
theorem d10_6 : decode jdk_65_method_124_code 6 = .ok (.aload_n 0, 1) := by decide +kernel
theorem d10_7 : decode jdk_65_method_124_code 7 = .ok (.invokevirtual 319, 3) := by decide +kernel
theorem d10_10 : decode jdk_65_method_124_code 10 = .ok (.checkcast 320, 3) := by decide +kernel
theorem d10_13 : decode jdk_65_method_124_code 13 = .ok (.areturn, 1) := by decide +kernel
theorem d10_14 : decode jdk_65_method_124_code 14 = .ok (.iload_n 1, 1) := by decide +kernel
theorem d10_15 : decode jdk_65_method_124_code 15 = .ok (.newarray .long, 2) := by decide +kernel
theorem d10_17 : decode jdk_65_method_124_code 17 = .ok (.astore_n 2, 1) := by decide +kernel
theorem d10_18 : decode jdk_65_method_124_code 18 = .ok (.aload_n 0, 1) := by decide +kernel
theorem d10_19 : decode jdk_65_method_124_code 19 = .ok (.iconst 0, 1) := by decide +kernel
theorem d10_20 : decode jdk_65_method_124_code 20 = .ok (.aload_n 2, 1) := by decide +kernel
theorem d10_21 : decode jdk_65_method_124_code 21 = .ok (.iconst 0, 1) := by decide +kernel
theorem d10_22 : decode jdk_65_method_124_code 22 = .ok (.aload_n 0, 1) := by decide +kernel
theorem d10_23 : decode jdk_65_method_124_code 23 = .ok (.arraylength, 1) := by decide +kernel
theorem d10_24 : decode jdk_65_method_124_code 24 = .ok (.iload_n 1, 1) := by decide +kernel
theorem d10_25 : decode jdk_65_method_124_code 25 = .ok (.invokestatic 304, 3) := by decide +kernel
theorem d10_28 : decode jdk_65_method_124_code 28 = .ok (.invokestatic 150, 3) := by decide +kernel
theorem d10_31 : decode jdk_65_method_124_code 31 = .ok (.aload_n 2, 1) := by decide +kernel
theorem d10_32 : decode jdk_65_method_124_code 32 = .ok (.areturn, 1) := by decide +kernel
theorem pn_10 : plainName "java/util/Arrays" = true := by first | (simp [plainName, overriddenIn]; done) | decide +kernel
set_option maxRecDepth 65536 in
set_option maxHeartbeats 40000000 in
theorem rm11 (l : Launch) (Z : State) (a0 : Array Value) (hw : ∀ d ∈ tables_1, d.before a0 Z = true) (ws : List Jvm.Cond) (p1 : Int32) (p2 : Int32)  (h0 : Heap) (n0 : Nat) (Z0 : n0 ≤ h0.size) :
    MetFree l (⟨"java/lang/Math", "min", "(II)I"⟩ : MethodName) (head1 (Jvm.Cond.code (⟨"java/lang/Math", "min", "(II)I"⟩ : MethodName) jdk_29_method_69_code 2 (some .int) :: ws) ({ frames := 0, cells := 0, slots := 0, locals := 0 } : Room)) (fun a U => a = #[(.int p1), (.int p2)] ∧ Z.Warmed39 U.vm ∧ U.heap = h0) (fun _ _ _ _ _ => True) (fun _ U o U' => ∃ vv LL, o = .returned vv ∧ own_ap (fun v h L => v = some (.int (if p2 < p1 then p2 else p1)) ∧ Fr n0 L ∧ h = h0) vv U'.heap LL ∧ FrameEnd U o U' LL 0 0) := by
  refine MetFree.of_bodySF (Jvm.Free.JP.mathPlain rfl (by decide +kernel)) hisR ?_
  intro p e s m args below meth c s₁ Bd hml0 hP hK
  obtain ⟨rfl, hZ, hh⟩ := hP
  have hx := Bd.exec
  have hby := Bd.bytes
  have hml : c.maxLocals = 2 := hml0
  have hown : s.vm.findClass "java/lang/Math" = some m.cls := findClass_of_methodNamed Bd.named
  have hnm := (name_of_methodNamed Bd.named Bd.method).1
  have X0 : Stand p l e ({ frames := 0, cells := 0, slots := 0, locals := 0 } : Room) s m #[(.int p1), (.int p2)] below meth c s₁ [] 0 0 := Stand.of_body Bd
  have e0 : s₁.heap = h0 := by rw [← hh, Bd.state]; rfl
  have N0 := Fr.nil n0
  show own_Go p.tables e below (own_Q s (fun v h L => v = some (.int (if p2 < p1 then p2 else p1)) ∧ Fr n0 L ∧ h = h0) 0 0) (s₁.setTop (entryFrame m #[(.int p1), (.int p2)] 2))
  rw [show entryFrame m #[(.int p1), (.int p2)] 2 = mkF m 0 #[.val (.int p1), .val (.int p2)] [] from by first | (simp [entryFrame, mkF, argsToLocals, Value.category]; done) | rfl]
  show own_Go _ _ _ _ (s₁.setTop (mkF m 0 #[.val (.int p1), .val (.int p2)] []))
  refine own_by (fun _ k => XS.iloadN X0.here hx rfl (hb hby d11_0) rfl k) ?_
  show own_Go _ _ _ _ (s₁.setTop (mkF m 1 #[.val (.int p1), .val (.int p2)] [(.int p1)]))
  refine own_by (fun _ k => XS.iloadN X0.here hx rfl (hb hby d11_1) rfl k) ?_
  show own_Go _ _ _ _ (s₁.setTop (mkF m 2 #[.val (.int p1), .val (.int p2)] [(.int p2), (.int p1)]))
  by_cases hc1 : p2 < p1
  · --
    refine own_by (fun _ k => XS.icmpYes X0.here hx rfl (pc0 := 2) (pc' := 9) rfl (hb hby d11_2) rfl (tlt hc1).2.2.1 (by decide) (by decide) k) ?_
    show own_Go _ _ _ _ (s₁.setTop (mkF m 9 #[.val (.int p1), .val (.int p2)] []))
    refine own_by (fun _ k => XS.iloadN X0.here hx rfl (hb hby d11_9) rfl k) ?_
    show own_Go _ _ _ _ (s₁.setTop (mkF m 10 #[.val (.int p1), .val (.int p2)] [(.int p2)]))
    exact own_retI X0 hx Bd.notSynchronized e0 Bd.returns (hb hby d11_10) (⟨by simp [hc1], N0, rfl⟩) (by decide) (by decide)
  · --
    refine own_by (fun _ k => XS.icmpNo X0.here hx rfl (hb hby d11_2) rfl (flt hc1).2.2.1 k) ?_
    show own_Go _ _ _ _ (s₁.setTop (mkF m 5 #[.val (.int p1), .val (.int p2)] []))
    refine own_by (fun _ k => XS.iloadN X0.here hx rfl (hb hby d11_5) rfl k) ?_
    show own_Go _ _ _ _ (s₁.setTop (mkF m 6 #[.val (.int p1), .val (.int p2)] [(.int p1)]))
    refine own_by (fun _ k => XS.goto X0.here hx rfl (pc0 := 6) (pc' := 10) rfl (hb hby d11_6) (by decide) (by decide) k) ?_
    show own_Go _ _ _ _ (s₁.setTop (mkF m 10 #[.val (.int p1), .val (.int p2)] [(.int p1)]))
    exact own_retI X0 hx Bd.notSynchronized e0 Bd.returns (hb hby d11_10) (⟨by simp [hc1], N0, rfl⟩) (by decide) (by decide)
set_option maxRecDepth 65536 in
set_option maxHeartbeats 40000000 in
theorem rm10 (l : Launch) (Z : State) (a0 : Array Value) (hw : ∀ d ∈ tables_1, d.before a0 Z = true) (ws : List Jvm.Cond) (a1 : Addr) (p1 : Int32) (n N : Nat) (f : Nat → Int64) (h0 : Heap) (n0 : Nat) (Z0 : n0 ≤ h0.size) (PA : own_AJ Z h0 a1 n f) (hN : p1.toInt = (N : Int)) (hnN : n ≤ N) (hne : n ≠ N) (hNc : N ≤ 510) :
    MetFree l (⟨"java/util/Arrays", "copyOf", "([JI)[J"⟩ : MethodName) (head1 (Jvm.Cond.code (⟨"java/util/Arrays", "copyOf", "([JI)[J"⟩ : MethodName) jdk_65_method_124_code 3 (some (.array .long)) :: ws) ({ frames := 1, cells := 1, slots := 510, locals := 60 } : Room)) (fun a U => a = #[(.ref a1), (.int p1)] ∧ Z.Warmed39 U.vm ∧ U.heap = h0) (fun _ _ _ _ _ => True) (fun _ U o U' => ∃ vv LL, o = .returned vv ∧ own_ap (fun v h L => v = some (.ref h0.size) ∧ Fr n0 L ∧ Keep h0 h [] ∧ own_AJ Z h h0.size N (fun j => if j < n then f j else 0)) vv U'.heap LL ∧ FrameEnd U o U' LL 1 510) := by
  refine MetFree.of_bodySF (plainFor_of_name pn_10) hisR ?_
  intro p e s m args below meth c s₁ Bd hml0 hP hK
  obtain ⟨rfl, hZ, hh⟩ := hP
  have hx := Bd.exec
  have hby := Bd.bytes
  have hml : c.maxLocals = 3 := hml0
  have hown : s.vm.findClass "java/util/Arrays" = some m.cls := findClass_of_methodNamed Bd.named
  have hnm := (name_of_methodNamed Bd.named Bd.method).1
  have X0 : Stand p l e ({ frames := 1, cells := 1, slots := 510, locals := 60 } : Room) s m #[(.ref a1), (.int p1)] below meth c s₁ [] 0 0 := Stand.of_body Bd
  have e0 : s₁.heap = h0 := by rw [← hh, Bd.state]; rfl
  have N0 := Fr.nil n0
  show own_Go p.tables e below (own_Q s (fun v h L => v = some (.ref h0.size) ∧ Fr n0 L ∧ Keep h0 h [] ∧ own_AJ Z h h0.size N (fun j => if j < n then f j else 0)) 1 510) (s₁.setTop (entryFrame m #[(.ref a1), (.int p1)] 3))
  rw [show entryFrame m #[(.ref a1), (.int p1)] 3 = mkF m 0 #[.val (.ref a1), .val (.int p1), .unset] [] from by first | (simp [entryFrame, mkF, argsToLocals, Value.category]; done) | rfl]
  obtain ⟨zn, hznE, hzn⟩ : ∃ z : Int32, z = n.toInt32 ∧ z.toInt = (n : Int) := ⟨n.toInt32, rfl, own_ofN (by omega)⟩
  show own_Go _ _ _ _ (s₁.setTop (mkF m 0 #[.val (.ref a1), .val (.int p1), .unset] []))
  refine own_by (fun _ k => XS.iloadN X0.here hx rfl (hb hby d10_0) rfl k) ?_
  show own_Go _ _ _ _ (s₁.setTop (mkF m 1 #[.val (.ref a1), .val (.int p1), .unset] [(.int p1)]))
  refine own_by (fun _ k => XS.aloadN X0.here hx rfl (hb hby d10_1) rfl rfl k) ?_
  show own_Go _ _ _ _ (s₁.setTop (mkF m 2 #[.val (.ref a1), .val (.int p1), .unset] [(.ref a1), (.int p1)]))
  refine own_by (fun _ k => own_len X0 hx hZ e0 PA zn hznE (hb hby d10_2) k) ?_
  show own_Go _ _ _ _ (s₁.setTop (mkF m 3 #[.val (.ref a1), .val (.int p1), .unset] [(.int zn), (.int p1)]))
  refine own_by (fun _ k => XS.icmpYes X0.here hx rfl (pc0 := 3) (pc' := 14) rfl (hb hby d10_3) rfl (feq (fun q => by have q' := congrArg Int32.toInt q; rw [hN, hzn] at q'; omega)).2 (by decide) (by decide) k) ?_
  show own_Go _ _ _ _ (s₁.setTop (mkF m 14 #[.val (.ref a1), .val (.int p1), .unset] []))
  refine own_by (fun _ k => XS.iloadN X0.here hx rfl (hb hby d10_14) rfl k) ?_
  show own_Go _ _ _ _ (s₁.setTop (mkF m 15 #[.val (.ref a1), .val (.int p1), .unset] [(.int p1)]))
  refine own_newP X0 hx hZ (hw _ (List.mem_of_getElem? (i := 10) rfl)) e0 N hN 510 hNc (by decide) (by decide) (by decide) (hb hby d10_15) ?_
  intro T1 h1 X1 e1 E1 A1
  show own_Go _ _ _ _ (T1.setTop (mkF m 17 #[.val (.ref a1), .val (.int p1), .unset] [.ref h0.size]))
  obtain ⟨b1, g1⟩ : ∃ z, z = h0.size := ⟨_, rfl⟩
  rw [← g1] at A1
  refine own_gen g1.symm (fun z_ => T1.setTop (mkF m 17 #[.val (.ref a1), .val (.int p1), .unset] [.ref z_])) ?_
  have ne2 : a1 ≠ b1 := Nat.ne_of_lt (Nat.lt_of_lt_of_le PA.lt (Nat.le_of_eq g1.symm))
  have ge1 : n0 ≤ b1 := Nat.le_trans Z0 (Nat.le_of_eq g1.symm)
  have nw1 : h0.size ≤ b1 := Nat.le_trans (Keep.refl h0 []).1 (Nat.le_of_eq g1.symm)
  have f3 := PA.ext E1
  have f4 := (Keep.refl h0 []).ext E1
  have Z1 := Nat.le_trans Z0 E1.1
  have f5 : own_AJ Z h1 b1 N (fun _ => 0) := A1
  show own_Go _ _ _ _ (T1.setTop (mkF m 17 #[.val (.ref a1), .val (.int p1), .unset] [(.ref b1)]))
  refine own_by (fun _ k => XS.astoreN X1.here hx rfl (hb hby d10_17) rfl rfl (l' := #[.val (.ref a1), .val (.int p1), .val (.ref b1)]) rfl k) ?_
  show own_Go _ _ _ _ (T1.setTop (mkF m 18 #[.val (.ref a1), .val (.int p1), .val (.ref b1)] []))
  refine own_by (fun _ k => XS.aloadN X1.here hx rfl (hb hby d10_18) rfl rfl k) ?_
  show own_Go _ _ _ _ (T1.setTop (mkF m 19 #[.val (.ref a1), .val (.int p1), .val (.ref b1)] [(.ref a1)]))
  refine own_by (fun _ k => XS.iconst X1.here hx rfl (hb hby d10_19) k) ?_
  show own_Go _ _ _ _ (T1.setTop (mkF m 20 #[.val (.ref a1), .val (.int p1), .val (.ref b1)] [(.int (0 : Int32)), (.ref a1)]))
  refine own_by (fun _ k => XS.aloadN X1.here hx rfl (hb hby d10_20) rfl rfl k) ?_
  show own_Go _ _ _ _ (T1.setTop (mkF m 21 #[.val (.ref a1), .val (.int p1), .val (.ref b1)] [(.ref b1), (.int (0 : Int32)), (.ref a1)]))
  refine own_by (fun _ k => XS.iconst X1.here hx rfl (hb hby d10_21) k) ?_
  show own_Go _ _ _ _ (T1.setTop (mkF m 22 #[.val (.ref a1), .val (.int p1), .val (.ref b1)] [(.int (0 : Int32)), (.ref b1), (.int (0 : Int32)), (.ref a1)]))
  refine own_by (fun _ k => XS.aloadN X1.here hx rfl (hb hby d10_22) rfl rfl k) ?_
  show own_Go _ _ _ _ (T1.setTop (mkF m 23 #[.val (.ref a1), .val (.int p1), .val (.ref b1)] [(.ref a1), (.int (0 : Int32)), (.ref b1), (.int (0 : Int32)), (.ref a1)]))
  refine own_by (fun _ k => own_len X1 hx hZ e1 f3 zn hznE (hb hby d10_23) k) ?_
  show own_Go _ _ _ _ (T1.setTop (mkF m 24 #[.val (.ref a1), .val (.int p1), .val (.ref b1)] [(.int zn), (.int (0 : Int32)), (.ref b1), (.int (0 : Int32)), (.ref a1)]))
  refine own_by (fun _ k => XS.iloadN X1.here hx rfl (hb hby d10_24) rfl k) ?_
  show own_Go _ _ _ _ (T1.setTop (mkF m 25 #[.val (.ref a1), .val (.int p1), .val (.ref b1)] [(.int p1), (.int zn), (.int (0 : Int32)), (.ref b1), (.int (0 : Int32)), (.ref a1)]))
  refine own_callS X1 hx hZ hown (hw _ (List.mem_of_getElem? (i := 51) rfl)) (hw _ (List.mem_of_getElem? (i := 52) rfl)) (hw _ (List.mem_of_getElem? (i := 45) rfl)) (hw _ (List.mem_of_getElem? (i := 53) rfl)) (by decide) (rm11 l Z a0 hw [] zn p1 h1 n0 Z1) e1 (by rw [hml]; rfl) [(.int zn), (.int p1)] [(.int (0 : Int32)), (.ref b1), (.int (0 : Int32)), (.ref a1)] rfl (lenOf own_pd4 rfl) rfl 4 (Nat.le_of_eq rfl) (by decide) (by decide) (Nat.le_of_ble_eq_true rfl) (Nat.le_of_ble_eq_true rfl) (hb hby d10_25) ?_
  intro T6 Lc6 v6 X6 hQ6
  obtain ⟨rfl, N6q, e6⟩ := hQ6
  have N6 := Fr.app N0 N6q
  show own_Go _ _ _ _ (T6.setTop (mkF m 28 #[.val (.ref a1), .val (.int p1), .val (.ref b1)] [(.int (if p1 < zn then p1 else zn)), (.int (0 : Int32)), (.ref b1), (.int (0 : Int32)), (.ref a1)]))
  rw [show (if p1 < zn then p1 else zn) = zn from if_neg (by rw [Int32.lt_iff_toInt_lt, hzn, hN]; omega)]
  obtain ⟨ka, Va⟩ := own_toArv f3 hzn
  obtain ⟨kb, Vb⟩ := own_toArv f5 hN
  obtain ⟨T7, h7, L7, X7, e7, N7, K7, V7, st7⟩ := cpA X6 hx hZ hown (hw _ (List.mem_of_getElem? (i := 54) rfl)) (hw _ (List.mem_of_getElem? (i := 57) rfl)) (hw _ (List.mem_of_getElem? (i := 55) rfl)) (hw _ (List.mem_of_getElem? (i := 56) rfl)) e6 Va Vb (Or.inl ⟨rfl, rfl⟩) (sp := (0 : Int32)) (dp := (0 : Int32)) (nn := zn) (by decide) (by decide) (own_clamp hzn).2 (by rw [(own_clamp hzn).1]; simp) (by rw [(own_clamp hzn).1, (own_clamp hN).1]; simpa using hnN) rfl (by rw [(own_clamp hzn).1]; simpa using hnN) N6 ge1 (g := (mkF m 28 #[.val (.ref a1), .val (.int p1), .val (.ref b1)] [(.int zn), (.int (0 : Int32)), (.ref b1), (.int (0 : Int32)), (.ref a1)])) rfl (by rw [hml]; rfl) rfl (hb hby d10_28) (by decide) (W := 0) (by show 2 * 0 + _ ≤ _; exact Nat.le_of_eq rfl) (by decide)
  refine own_by st7 ?_
  have A7 : own_AJ Z h7 b1 N (fun j => if j < n then f j else 0) := own_ofArv V7 hN (fun j hj => by have q := own_cpd n N hnN f (fun _ => 0) j hj; rw [(own_clamp hzn).1]; exact q)
  have f8 := f3.keep K7 (ninS ne2 nin0)
  have f9 := f4.trans K7 (allS (P := fun x => x ∈ [] ∨ h0.size ≤ x) (Or.inr nw1) all0)
  have Z7 := Nat.le_trans Z1 K7.1
  show own_Go _ _ _ _ (T7.setTop (mkF m 31 #[.val (.ref a1), .val (.int p1), .val (.ref b1)] []))
  refine own_by (fun _ k => XS.aloadN X7.here hx rfl (hb hby d10_31) rfl rfl k) ?_
  show own_Go _ _ _ _ (T7.setTop (mkF m 32 #[.val (.ref a1), .val (.int p1), .val (.ref b1)] [(.ref b1)]))
  exact own_retA X7 hx Bd.notSynchronized e7 Bd.returns rfl rfl rfl (hb hby d10_32) (⟨by rw [g1], N7, f9, by rw [← g1]; exact A7⟩) (by decide) (by decide)
theorem d1_0 : decode prog_100_method_1_code 0 = .ok (.aload_n 0, 1) := by decide +kernel
theorem d1_1 : decode prog_100_method_1_code 1 = .ok (.invokespecial 1, 3) := by decide +kernel
theorem d1_4 : decode prog_100_method_1_code 4 = .ok (.aload_n 0, 1) := by decide +kernel
theorem d1_5 : decode prog_100_method_1_code 5 = .ok (.iconst 1, 1) := by decide +kernel
theorem d1_6 : decode prog_100_method_1_code 6 = .ok (.newarray .long, 2) := by decide +kernel
theorem d1_8 : decode prog_100_method_1_code 8 = .ok (.putfield 7, 3) := by decide +kernel
theorem d1_11 : decode prog_100_method_1_code 11 = .ok (.aload_n 0, 1) := by decide +kernel
theorem d1_12 : decode prog_100_method_1_code 12 = .ok (.iconst 1, 1) := by decide +kernel
theorem d1_13 : decode prog_100_method_1_code 13 = .ok (.newarray .long, 2) := by decide +kernel
theorem d1_15 : decode prog_100_method_1_code 15 = .ok (.putfield 13, 3) := by decide +kernel
theorem d1_18 : decode prog_100_method_1_code 18 = .ok (.return_, 1) := by decide +kernel
theorem pn_1 : plainName "com/example/sonde/sonde/engine/Bits" = true := by first | (simp [plainName, overriddenIn]; done) | decide +kernel
theorem d3_0 : decode prog_100_method_3_code 0 = .ok (.iload_n 1, 1) := by decide +kernel
theorem d3_1 : decode prog_100_method_3_code 1 = .ok (.bipush 6, 2) := by decide +kernel
theorem d3_3 : decode prog_100_method_3_code 3 = .ok (.iushr, 1) := by decide +kernel
theorem d3_4 : decode prog_100_method_3_code 4 = .ok (.istore_n 2, 1) := by decide +kernel
theorem d3_5 : decode prog_100_method_3_code 5 = .ok (.aload_n 0, 1) := by decide +kernel
theorem d3_6 : decode prog_100_method_3_code 6 = .ok (.iload_n 2, 1) := by decide +kernel
theorem d3_7 : decode prog_100_method_3_code 7 = .ok (.invokevirtual 16, 3) := by decide +kernel
theorem d3_10 : decode prog_100_method_3_code 10 = .ok (.aload_n 0, 1) := by decide +kernel
theorem d3_11 : decode prog_100_method_3_code 11 = .ok (.getfield 7, 3) := by decide +kernel
theorem d3_14 : decode prog_100_method_3_code 14 = .ok (.iload_n 2, 1) := by decide +kernel
theorem d3_15 : decode prog_100_method_3_code 15 = .ok (.dup2, 1) := by decide +kernel
theorem d3_16 : decode prog_100_method_3_code 16 = .ok (.laload, 1) := by decide +kernel
theorem d3_17 : decode prog_100_method_3_code 17 = .ok (.lconst 1, 1) := by decide +kernel
theorem d3_18 : decode prog_100_method_3_code 18 = .ok (.iload_n 1, 1) := by decide +kernel
theorem d3_19 : decode prog_100_method_3_code 19 = .ok (.lshl, 1) := by decide +kernel
theorem d3_20 : decode prog_100_method_3_code 20 = .ok (.lor, 1) := by decide +kernel
theorem d3_21 : decode prog_100_method_3_code 21 = .ok (.lastore, 1) := by decide +kernel
theorem d3_22 : decode prog_100_method_3_code 22 = .ok (.aload_n 0, 1) := by decide +kernel
theorem d3_23 : decode prog_100_method_3_code 23 = .ok (.getfield 13, 3) := by decide +kernel
theorem d3_26 : decode prog_100_method_3_code 26 = .ok (.iload_n 2, 1) := by decide +kernel
theorem d3_27 : decode prog_100_method_3_code 27 = .ok (.bipush 6, 2) := by decide +kernel
theorem d3_29 : decode prog_100_method_3_code 29 = .ok (.iushr, 1) := by decide +kernel
theorem d3_30 : decode prog_100_method_3_code 30 = .ok (.dup2, 1) := by decide +kernel
theorem d3_31 : decode prog_100_method_3_code 31 = .ok (.laload, 1) := by decide +kernel
theorem d3_32 : decode prog_100_method_3_code 32 = .ok (.lconst 1, 1) := by decide +kernel
theorem d3_33 : decode prog_100_method_3_code 33 = .ok (.iload_n 2, 1) := by decide +kernel
theorem d3_34 : decode prog_100_method_3_code 34 = .ok (.lshl, 1) := by decide +kernel
theorem d3_35 : decode prog_100_method_3_code 35 = .ok (.lor, 1) := by decide +kernel
theorem d3_36 : decode prog_100_method_3_code 36 = .ok (.lastore, 1) := by decide +kernel
theorem d3_37 : decode prog_100_method_3_code 37 = .ok (.return_, 1) := by decide +kernel
theorem pn_3 : plainName "com/example/sonde/sonde/engine/Bits" = true := by first | (simp [plainName, overriddenIn]; done) | decide +kernel
theorem d4_0 : decode prog_100_method_15_code 0 = .ok (.iload_n 1, 1) := by decide +kernel
theorem d4_1 : decode prog_100_method_15_code 1 = .ok (.aload_n 0, 1) := by decide +kernel
theorem d4_2 : decode prog_100_method_15_code 2 = .ok (.getfield 7, 3) := by decide +kernel
theorem d4_5 : decode prog_100_method_15_code 5 = .ok (.arraylength, 1) := by decide +kernel
theorem d4_6 : decode prog_100_method_15_code 6 = .ok (.if_icmp .lt 49, 3) := by decide +kernel
theorem d4_9 : decode prog_100_method_15_code 9 = .ok (.aload_n 0, 1) := by decide +kernel
theorem d4_10 : decode prog_100_method_15_code 10 = .ok (.aload_n 0, 1) := by decide +kernel
theorem d4_11 : decode prog_100_method_15_code 11 = .ok (.getfield 7, 3) := by decide +kernel
theorem d4_14 : decode prog_100_method_15_code 14 = .ok (.iconst 2, 1) := by decide +kernel
theorem d4_15 : decode prog_100_method_15_code 15 = .ok (.aload_n 0, 1) := by decide +kernel
theorem d4_16 : decode prog_100_method_15_code 16 = .ok (.getfield 7, 3) := by decide +kernel
theorem d4_19 : decode prog_100_method_15_code 19 = .ok (.arraylength, 1) := by decide +kernel
theorem d4_20 : decode prog_100_method_15_code 20 = .ok (.imul, 1) := by decide +kernel
theorem d4_21 : decode prog_100_method_15_code 21 = .ok (.iload_n 1, 1) := by decide +kernel
theorem d4_22 : decode prog_100_method_15_code 22 = .ok (.iconst 1, 1) := by decide +kernel
theorem d4_23 : decode prog_100_method_15_code 23 = .ok (.iadd, 1) := by decide +kernel
theorem d4_24 : decode prog_100_method_15_code 24 = .ok (.invokestatic 54, 3) := by decide +kernel
theorem d4_27 : decode prog_100_method_15_code 27 = .ok (.invokestatic 57, 3) := by decide +kernel
theorem d4_30 : decode prog_100_method_15_code 30 = .ok (.putfield 7, 3) := by decide +kernel
theorem d4_33 : decode prog_100_method_15_code 33 = .ok (.aload_n 0, 1) := by decide +kernel
theorem d4_34 : decode prog_100_method_15_code 34 = .ok (.aload_n 0, 1) := by decide +kernel
theorem d4_35 : decode prog_100_method_15_code 35 = .ok (.getfield 13, 3) := by decide +kernel
theorem d4_38 : decode prog_100_method_15_code 38 = .ok (.aload_n 0, 1) := by decide +kernel
theorem d4_39 : decode prog_100_method_15_code 39 = .ok (.getfield 7, 3) := by decide +kernel
theorem d4_42 : decode prog_100_method_15_code 42 = .ok (.arraylength, 1) := by decide +kernel
theorem d4_43 : decode prog_100_method_15_code 43 = .ok (.bipush 63, 2) := by decide +kernel
theorem d4_45 : decode prog_100_method_15_code 45 = .ok (.iadd, 1) := by decide +kernel
theorem d4_46 : decode prog_100_method_15_code 46 = .ok (.bipush 6, 2) := by decide +kernel
theorem d4_48 : decode prog_100_method_15_code 48 = .ok (.iushr, 1) := by decide +kernel
theorem d4_49 : decode prog_100_method_15_code 49 = .ok (.invokestatic 57, 3) := by decide +kernel
theorem d4_52 : decode prog_100_method_15_code 52 = .ok (.putfield 13, 3) := by decide +kernel
theorem d4_55 : decode prog_100_method_15_code 55 = .ok (.return_, 1) := by decide +kernel
theorem pn_4 : plainName "com/example/sonde/sonde/engine/Bits" = true := by first | (simp [plainName, overriddenIn]; done) | decide +kernel
theorem d5_0 : decode prog_100_method_2_code 0 = .ok (.iload_n 1, 1) := by decide +kernel
theorem d5_1 : decode prog_100_method_2_code 1 = .ok (.bipush 6, 2) := by decide +kernel
theorem d5_3 : decode prog_100_method_2_code 3 = .ok (.iushr, 1) := by decide +kernel
theorem d5_4 : decode prog_100_method_2_code 4 = .ok (.istore_n 2, 1) := by decide +kernel
theorem d5_5 : decode prog_100_method_2_code 5 = .ok (.iload_n 2, 1) := by decide +kernel
theorem d5_6 : decode prog_100_method_2_code 6 = .ok (.aload_n 0, 1) := by decide +kernel
theorem d5_7 : decode prog_100_method_2_code 7 = .ok (.getfield 7, 3) := by decide +kernel
theorem d5_10 : decode prog_100_method_2_code 10 = .ok (.arraylength, 1) := by decide +kernel
theorem d5_11 : decode prog_100_method_2_code 11 = .ok (.if_icmp .ge 22, 3) := by decide +kernel
theorem d5_14 : decode prog_100_method_2_code 14 = .ok (.aload_n 0, 1) := by decide +kernel
theorem d5_15 : decode prog_100_method_2_code 15 = .ok (.getfield 7, 3) := by decide +kernel
theorem d5_18 : decode prog_100_method_2_code 18 = .ok (.iload_n 2, 1) := by decide +kernel
theorem d5_19 : decode prog_100_method_2_code 19 = .ok (.laload, 1) := by decide +kernel
theorem d5_20 : decode prog_100_method_2_code 20 = .ok (.lconst 1, 1) := by decide +kernel
theorem d5_21 : decode prog_100_method_2_code 21 = .ok (.iload_n 1, 1) := by decide +kernel
theorem d5_22 : decode prog_100_method_2_code 22 = .ok (.lshl, 1) := by decide +kernel
theorem d5_23 : decode prog_100_method_2_code 23 = .ok (.land, 1) := by decide +kernel
theorem d5_24 : decode prog_100_method_2_code 24 = .ok (.lconst 0, 1) := by decide +kernel
theorem d5_25 : decode prog_100_method_2_code 25 = .ok (.lcmp, 1) := by decide +kernel
theorem d5_26 : decode prog_100_method_2_code 26 = .ok (.ifCond .eq 7, 3) := by decide +kernel
theorem d5_29 : decode prog_100_method_2_code 29 = .ok (.iconst 1, 1) := by decide +kernel
theorem d5_30 : decode prog_100_method_2_code 30 = .ok (.goto 4, 3) := by decide +kernel
theorem d5_33 : decode prog_100_method_2_code 33 = .ok (.iconst 0, 1) := by decide +kernel
theorem d5_34 : decode prog_100_method_2_code 34 = .ok (.ireturn, 1) := by decide +kernel
theorem pn_5 : plainName "com/example/sonde/sonde/engine/Bits" = true := by first | (simp [plainName, overriddenIn]; done) | decide +kernel
theorem d6_0 : decode method_2_code 0 = .ok (.iload_n 0, 1) := by decide +kernel
theorem d6_1 : decode method_2_code 1 = .ok (.iload_n 1, 1) := by decide +kernel
theorem d6_2 : decode method_2_code 2 = .ok (.if_icmp .eq 12, 3) := by decide +kernel
theorem d6_5 : decode method_2_code 5 = .ok (.iload_n 2, 1) := by decide +kernel
theorem d6_6 : decode method_2_code 6 = .ok (.ifCond .eq 12, 3) := by decide +kernel
theorem d6_9 : decode method_2_code 9 = .ok (.iload_n 0, 1) := by decide +kernel
theorem d6_10 : decode method_2_code 10 = .ok (.iload_n 3, 1) := by decide +kernel
theorem d6_11 : decode method_2_code 11 = .ok (.if_icmp .ne 7, 3) := by decide +kernel
theorem d6_14 : decode method_2_code 14 = .ok (.iconst 1, 1) := by decide +kernel
theorem d6_15 : decode method_2_code 15 = .ok (.goto 4, 3) := by decide +kernel
theorem d6_18 : decode method_2_code 18 = .ok (.iconst 0, 1) := by decide +kernel
theorem d6_19 : decode method_2_code 19 = .ok (.istore 6, 2) := by decide +kernel
theorem d6_21 : decode method_2_code 21 = .ok (.iload 4, 2) := by decide +kernel
theorem d6_23 : decode method_2_code 23 = .ok (.ifCond .eq 12, 3) := by decide +kernel
theorem d6_26 : decode method_2_code 26 = .ok (.iload_n 0, 1) := by decide +kernel
theorem d6_27 : decode method_2_code 27 = .ok (.iload 5, 2) := by decide +kernel
theorem d6_29 : decode method_2_code 29 = .ok (.if_icmp .ne 6, 3) := by decide +kernel
theorem d6_32 : decode method_2_code 32 = .ok (.iconst 0, 1) := by decide +kernel
theorem d6_33 : decode method_2_code 33 = .ok (.istore 6, 2) := by decide +kernel
theorem d6_35 : decode method_2_code 35 = .ok (.iload 6, 2) := by decide +kernel
theorem d6_37 : decode method_2_code 37 = .ok (.ireturn, 1) := by decide +kernel
theorem pn_6 : plainName "com/example/sonde/sonde/engine/BitsGetPinLaw" = true := by first | (simp [plainName, overriddenIn]; done) | decide +kernel
theorem d7_0 : decode prog_100_method_4_code 0 = .ok (.iload_n 1, 1) := by decide +kernel
theorem d7_1 : decode prog_100_method_4_code 1 = .ok (.bipush 6, 2) := by decide +kernel
theorem d7_3 : decode prog_100_method_4_code 3 = .ok (.iushr, 1) := by decide +kernel
theorem d7_4 : decode prog_100_method_4_code 4 = .ok (.istore_n 2, 1) := by decide +kernel
theorem d7_5 : decode prog_100_method_4_code 5 = .ok (.iload_n 2, 1) := by decide +kernel
theorem d7_6 : decode prog_100_method_4_code 6 = .ok (.aload_n 0, 1) := by decide +kernel
theorem d7_7 : decode prog_100_method_4_code 7 = .ok (.getfield 7, 3) := by decide +kernel
theorem d7_10 : decode prog_100_method_4_code 10 = .ok (.arraylength, 1) := by decide +kernel
theorem d7_11 : decode prog_100_method_4_code 11 = .ok (.if_icmp .ge 24, 3) := by decide +kernel
theorem d7_14 : decode prog_100_method_4_code 14 = .ok (.aload_n 0, 1) := by decide +kernel
theorem d7_15 : decode prog_100_method_4_code 15 = .ok (.getfield 7, 3) := by decide +kernel
theorem d7_18 : decode prog_100_method_4_code 18 = .ok (.iload_n 2, 1) := by decide +kernel
theorem d7_19 : decode prog_100_method_4_code 19 = .ok (.dup2, 1) := by decide +kernel
theorem d7_20 : decode prog_100_method_4_code 20 = .ok (.laload, 1) := by decide +kernel
theorem d7_21 : decode prog_100_method_4_code 21 = .ok (.lconst 1, 1) := by decide +kernel
theorem d7_22 : decode prog_100_method_4_code 22 = .ok (.iload_n 1, 1) := by decide +kernel
theorem d7_23 : decode prog_100_method_4_code 23 = .ok (.lshl, 1) := by decide +kernel
theorem d7_24 : decode prog_100_method_4_code 24 = .ok (.ldc2_w 20, 3) := by decide +kernel
theorem d7_27 : decode prog_100_method_4_code 27 = .ok (.lxor, 1) := by decide +kernel
theorem d7_28 : decode prog_100_method_4_code 28 = .ok (.land, 1) := by decide +kernel
theorem d7_29 : decode prog_100_method_4_code 29 = .ok (.lastore, 1) := by decide +kernel
theorem d7_30 : decode prog_100_method_4_code 30 = .ok (.aload_n 0, 1) := by decide +kernel
theorem d7_31 : decode prog_100_method_4_code 31 = .ok (.iload_n 2, 1) := by decide +kernel
theorem d7_32 : decode prog_100_method_4_code 32 = .ok (.invokevirtual 22, 3) := by decide +kernel
theorem d7_35 : decode prog_100_method_4_code 35 = .ok (.return_, 1) := by decide +kernel
theorem pn_7 : plainName "com/example/sonde/sonde/engine/Bits" = true := by first | (simp [plainName, overriddenIn]; done) | decide +kernel
theorem d8_0 : decode prog_100_method_14_code 0 = .ok (.aload_n 0, 1) := by decide +kernel
theorem d8_1 : decode prog_100_method_14_code 1 = .ok (.getfield 7, 3) := by decide +kernel
theorem d8_4 : decode prog_100_method_14_code 4 = .ok (.iload_n 1, 1) := by decide +kernel
theorem d8_5 : decode prog_100_method_14_code 5 = .ok (.laload, 1) := by decide +kernel
theorem d8_6 : decode prog_100_method_14_code 6 = .ok (.lconst 0, 1) := by decide +kernel
theorem d8_7 : decode prog_100_method_14_code 7 = .ok (.lcmp, 1) := by decide +kernel
theorem d8_8 : decode prog_100_method_14_code 8 = .ok (.ifCond .ne 25, 3) := by decide +kernel
theorem d8_11 : decode prog_100_method_14_code 11 = .ok (.aload_n 0, 1) := by decide +kernel
theorem d8_12 : decode prog_100_method_14_code 12 = .ok (.getfield 13, 3) := by decide +kernel
theorem d8_15 : decode prog_100_method_14_code 15 = .ok (.iload_n 1, 1) := by decide +kernel
theorem d8_16 : decode prog_100_method_14_code 16 = .ok (.bipush 6, 2) := by decide +kernel
theorem d8_18 : decode prog_100_method_14_code 18 = .ok (.iushr, 1) := by decide +kernel
theorem d8_19 : decode prog_100_method_14_code 19 = .ok (.dup2, 1) := by decide +kernel
theorem d8_20 : decode prog_100_method_14_code 20 = .ok (.laload, 1) := by decide +kernel
theorem d8_21 : decode prog_100_method_14_code 21 = .ok (.lconst 1, 1) := by decide +kernel
theorem d8_22 : decode prog_100_method_14_code 22 = .ok (.iload_n 1, 1) := by decide +kernel
theorem d8_23 : decode prog_100_method_14_code 23 = .ok (.lshl, 1) := by decide +kernel
theorem d8_24 : decode prog_100_method_14_code 24 = .ok (.ldc2_w 20, 3) := by decide +kernel
theorem d8_27 : decode prog_100_method_14_code 27 = .ok (.lxor, 1) := by decide +kernel
theorem d8_28 : decode prog_100_method_14_code 28 = .ok (.land, 1) := by decide +kernel
theorem d8_29 : decode prog_100_method_14_code 29 = .ok (.lastore, 1) := by decide +kernel
theorem d8_30 : decode prog_100_method_14_code 30 = .ok (.goto 18, 3) := by decide +kernel
theorem d8_33 : decode prog_100_method_14_code 33 = .ok (.aload_n 0, 1) := by decide +kernel
theorem d8_34 : decode prog_100_method_14_code 34 = .ok (.getfield 13, 3) := by decide +kernel
theorem d8_37 : decode prog_100_method_14_code 37 = .ok (.iload_n 1, 1) := by decide +kernel
theorem d8_38 : decode prog_100_method_14_code 38 = .ok (.bipush 6, 2) := by decide +kernel
theorem d8_40 : decode prog_100_method_14_code 40 = .ok (.iushr, 1) := by decide +kernel
theorem d8_41 : decode prog_100_method_14_code 41 = .ok (.dup2, 1) := by decide +kernel
theorem d8_42 : decode prog_100_method_14_code 42 = .ok (.laload, 1) := by decide +kernel
theorem d8_43 : decode prog_100_method_14_code 43 = .ok (.lconst 1, 1) := by decide +kernel
theorem d8_44 : decode prog_100_method_14_code 44 = .ok (.iload_n 1, 1) := by decide +kernel
theorem d8_45 : decode prog_100_method_14_code 45 = .ok (.lshl, 1) := by decide +kernel
theorem d8_46 : decode prog_100_method_14_code 46 = .ok (.lor, 1) := by decide +kernel
theorem d8_47 : decode prog_100_method_14_code 47 = .ok (.lastore, 1) := by decide +kernel
theorem d8_48 : decode prog_100_method_14_code 48 = .ok (.return_, 1) := by decide +kernel
theorem pn_8 : plainName "com/example/sonde/sonde/engine/Bits" = true := by first | (simp [plainName, overriddenIn]; done) | decide +kernel
theorem d9_0 : decode jdk_29_method_65_code 0 = .ok (.iload_n 0, 1) := by decide +kernel
theorem d9_1 : decode jdk_29_method_65_code 1 = .ok (.iload_n 1, 1) := by decide +kernel
theorem d9_2 : decode jdk_29_method_65_code 2 = .ok (.if_icmp .lt 7, 3) := by decide +kernel
theorem d9_5 : decode jdk_29_method_65_code 5 = .ok (.iload_n 0, 1) := by decide +kernel
theorem d9_6 : decode jdk_29_method_65_code 6 = .ok (.goto 4, 3) := by decide +kernel
theorem d9_9 : decode jdk_29_method_65_code 9 = .ok (.iload_n 1, 1) := by decide +kernel
theorem d9_10 : decode jdk_29_method_65_code 10 = .ok (.ireturn, 1) := by decide +kernel
theorem pn_0 : plainName "com/example/sonde/sonde/engine/BitsGetPinLaw" = true := by first | (simp [plainName, overriddenIn]; done) | decide +kernel
theorem own_lshl_bv (x : Int64) (q : Int32) (k : Nat) (hk : q.toBitVec.toNat % 64 = k) : (x <<< (q &&& 0x3f).toInt64).toBitVec = x.toBitVec <<< k := by
  obtain ⟨e, h⟩ := sm64 q k hk
  rw [Int64.toBitVec_shiftLeft, e, BitVec.shiftLeft_eq', smod64 k h]
theorem own_ofNat {i : Int32} {e : Nat} (h : i.toInt = (e : Int)) : i = e.toInt32 := by
  have r := rng32 i
  exact Int32.toInt_inj.mp (by rw [h]; exact (own_ofN (by omega)).symm)
theorem own_mod64 {i : Int32} {x : Nat} (h : i.toInt = (x : Int)) : i.toBitVec.toNat % 64 = x % 64 := by
  have e : i.toBitVec.toNat = x := by
    have q : i.toBitVec.toInt = (x : Int) := h
    rw [BitVec.toInt_eq_toNat_cond] at q
    split at q <;> have := i.toBitVec.isLt <;> omega
  rw [e]
theorem own_ush6 {i j : Int32} {x : Nat} (h : i.toInt = (x : Int)) (hj : ((i.toUInt32 >>> ((6 : Int32) &&& 31).toUInt32).toInt32) = j) : j.toInt = ((x / 64 : Nat) : Int) := by
  have c := c_iushr i 6 6 (by decide) (by decide)
  rw [hj] at c
  have r := rng32 i
  omega
/-- the set's bits: the number y is in it -/
def own_has (f : Nat → Int64) (n y : Nat) : Bool := decide (y / 64 < n) && (f (y / 64)).toBitVec.getLsbD (y % 64)
theorem own_bit (i : Int32) (x : Nat) (h : i.toInt = (x : Int)) : ((1 : Int64) <<< (i &&& 0x3f).toInt64).toBitVec = 1#64 <<< (x % 64) := own_lshl_bv 1 i (x % 64) (own_mod64 h)
theorem own_1j (x j : Nat) (hx : x < 64) (hj : j < 64) : ((1#64 : BitVec 64) <<< x).getLsbD j = decide (j = x) := by
  rw [BitVec.getLsbD_shiftLeft]
  by_cases h : j < x
  · simp [h, hj]; omega
  · by_cases e : j = x
    · subst e; simp [hj]
    · have e2 : ¬ j - x = 0 := by omega
      simp [h, hj, e, BitVec.getLsbD_one, e2]
theorem own_set (f : Nat → Int64) (n : Nat) (i : Int32) (x : Nat) (h : i.toInt = (x : Int)) (hn : x / 64 < n) (y : Nat) : own_has (own_upd f (x / 64) ((f (x / 64)) ||| ((1 : Int64) <<< (i &&& 0x3f).toInt64))) n y = (own_has f n y || decide (y = x)) := by
  rw [own_has, own_has]
  by_cases q : y / 64 = x / 64
  · rw [q, own_upd_eq, Int64.toBitVec_or, own_bit i x h, BitVec.getLsbD_or, own_1j (x % 64) (y % 64) (by omega) (by omega)]
    have e : decide (y % 64 = x % 64) = decide (y = x) := by
      apply decide_eq_decide.mpr; omega
    rw [e]; simp [hn]
  · rw [own_upd_ne _ _ q]
    have e : decide (y = x) = false := decide_eq_false (fun e => q (by rw [e]))
    rw [e, Bool.or_false]
theorem own_clr (f : Nat → Int64) (n : Nat) (i : Int32) (x : Nat) (h : i.toInt = (x : Int)) (y : Nat) : own_has (own_upd f (x / 64) ((f (x / 64)) &&& (((1 : Int64) <<< (i &&& 0x3f).toInt64) ^^^ (-1 : Int64)))) n y = (own_has f n y && !decide (y = x)) := by
  rw [own_has, own_has]
  by_cases q : y / 64 = x / 64
  · rw [q, own_upd_eq, Int64.toBitVec_and, Int64.toBitVec_xor, own_bit i x h, BitVec.getLsbD_and, BitVec.getLsbD_xor, own_1j (x % 64) (y % 64) (by omega) (by omega)]
    have e : decide (y % 64 = x % 64) = decide (y = x) := by
      apply decide_eq_decide.mpr; omega
    have e2 : ((-1 : Int64).toBitVec).getLsbD (y % 64) = true := by
      rw [show (-1 : Int64).toBitVec = BitVec.allOnes 64 by decide, BitVec.getLsbD_allOnes]; simp; omega
    rw [e, e2, Bool.and_assoc]; simp
  · rw [own_upd_ne _ _ q]
    have e : decide (y = x) = false := decide_eq_false (fun e => q (by rw [e]))
    rw [e]; simp
theorem own_get (v : Int64) (i : Int32) (x : Nat) (h : i.toInt = (x : Int)) : v &&& ((1 : Int64) <<< (i &&& 0x3f).toInt64) = 0 ↔ v.toBitVec.getLsbD (x % 64) = false := by
  rw [← Int64.toBitVec_inj, Int64.toBitVec_and, own_bit i x h]
  constructor
  · intro q
    have q2 := congrArg (fun b => BitVec.getLsbD b (x % 64)) q
    simp only [BitVec.getLsbD_and, own_1j (x % 64) (x % 64) (by omega) (by omega)] at q2
    simpa using q2
  · intro q
    apply BitVec.eq_of_getLsbD_eq
    intro j hj
    rw [BitVec.getLsbD_and, own_1j (x % 64) j (by omega) hj]
    by_cases e : j = x % 64
    · subst e; rw [q]; simp
    · simp [e]
theorem own_grow (f : Nat → Int64) (n N : Nat) (hN : n ≤ N) (y : Nat) : own_has (fun j => if j < n then f j else 0) N y = own_has f n y := by
  rw [own_has, own_has]
  by_cases q : y / 64 < n
  · simp [q, show y / 64 < N by omega]
  · simp [q]
set_option maxRecDepth 65536 in
set_option maxHeartbeats 40000000 in
theorem rm9 (l : Launch) (Z : State) (a0 : Array Value) (hw : ∀ d ∈ tables_1, d.before a0 Z = true) (ws : List Jvm.Cond) (p1 : Int32) (p2 : Int32)  (h0 : Heap) (n0 : Nat) (Z0 : n0 ≤ h0.size) :
    MetFree l (⟨"java/lang/Math", "max", "(II)I"⟩ : MethodName) (head1 (Jvm.Cond.code (⟨"java/lang/Math", "max", "(II)I"⟩ : MethodName) jdk_29_method_65_code 2 (some .int) :: ws) ({ frames := 0, cells := 0, slots := 0, locals := 0 } : Room)) (fun a U => a = #[(.int p1), (.int p2)] ∧ Z.Warmed39 U.vm ∧ U.heap = h0) (fun _ _ _ _ _ => True) (fun _ U o U' => ∃ vv LL, o = .returned vv ∧ own_ap (fun v h L => v = some (.int (if p1 < p2 then p2 else p1)) ∧ Fr n0 L ∧ h = h0) vv U'.heap LL ∧ FrameEnd U o U' LL 0 0) := by
  refine MetFree.of_bodySF (Jvm.Free.JP.mathPlain rfl (by decide +kernel)) hisR ?_
  intro p e s m args below meth c s₁ Bd hml0 hP hK
  obtain ⟨rfl, hZ, hh⟩ := hP
  have hx := Bd.exec
  have hby := Bd.bytes
  have hml : c.maxLocals = 2 := hml0
  have hown : s.vm.findClass "java/lang/Math" = some m.cls := findClass_of_methodNamed Bd.named
  have hnm := (name_of_methodNamed Bd.named Bd.method).1
  have X0 : Stand p l e ({ frames := 0, cells := 0, slots := 0, locals := 0 } : Room) s m #[(.int p1), (.int p2)] below meth c s₁ [] 0 0 := Stand.of_body Bd
  have e0 : s₁.heap = h0 := by rw [← hh, Bd.state]; rfl
  have N0 := Fr.nil n0
  show own_Go p.tables e below (own_Q s (fun v h L => v = some (.int (if p1 < p2 then p2 else p1)) ∧ Fr n0 L ∧ h = h0) 0 0) (s₁.setTop (entryFrame m #[(.int p1), (.int p2)] 2))
  rw [show entryFrame m #[(.int p1), (.int p2)] 2 = mkF m 0 #[.val (.int p1), .val (.int p2)] [] from by first | (simp [entryFrame, mkF, argsToLocals, Value.category]; done) | rfl]
  show own_Go _ _ _ _ (s₁.setTop (mkF m 0 #[.val (.int p1), .val (.int p2)] []))
  refine own_by (fun _ k => XS.iloadN X0.here hx rfl (hb hby d9_0) rfl k) ?_
  show own_Go _ _ _ _ (s₁.setTop (mkF m 1 #[.val (.int p1), .val (.int p2)] [(.int p1)]))
  refine own_by (fun _ k => XS.iloadN X0.here hx rfl (hb hby d9_1) rfl k) ?_
  show own_Go _ _ _ _ (s₁.setTop (mkF m 2 #[.val (.int p1), .val (.int p2)] [(.int p2), (.int p1)]))
  by_cases hc1 : p1 < p2
  · --
    refine own_by (fun _ k => XS.icmpYes X0.here hx rfl (pc0 := 2) (pc' := 9) rfl (hb hby d9_2) rfl (tlt hc1).1 (by decide) (by decide) k) ?_
    show own_Go _ _ _ _ (s₁.setTop (mkF m 9 #[.val (.int p1), .val (.int p2)] []))
    refine own_by (fun _ k => XS.iloadN X0.here hx rfl (hb hby d9_9) rfl k) ?_
    show own_Go _ _ _ _ (s₁.setTop (mkF m 10 #[.val (.int p1), .val (.int p2)] [(.int p2)]))
    exact own_retI X0 hx Bd.notSynchronized e0 Bd.returns (hb hby d9_10) (⟨by simp [hc1], N0, rfl⟩) (by decide) (by decide)
  · --
    refine own_by (fun _ k => XS.icmpNo X0.here hx rfl (hb hby d9_2) rfl (flt hc1).1 k) ?_
    show own_Go _ _ _ _ (s₁.setTop (mkF m 5 #[.val (.int p1), .val (.int p2)] []))
    refine own_by (fun _ k => XS.iloadN X0.here hx rfl (hb hby d9_5) rfl k) ?_
    show own_Go _ _ _ _ (s₁.setTop (mkF m 6 #[.val (.int p1), .val (.int p2)] [(.int p1)]))
    refine own_by (fun _ k => XS.goto X0.here hx rfl (pc0 := 6) (pc' := 10) rfl (hb hby d9_6) (by decide) (by decide) k) ?_
    show own_Go _ _ _ _ (s₁.setTop (mkF m 10 #[.val (.int p1), .val (.int p2)] [(.int p1)]))
    exact own_retI X0 hx Bd.notSynchronized e0 Bd.returns (hb hby d9_10) (⟨by simp [hc1], N0, rfl⟩) (by decide) (by decide)
set_option maxRecDepth 65536 in
set_option maxHeartbeats 40000000 in
theorem rm10h (l : Launch) (Z : State) (a0 : Array Value) (hw : ∀ d ∈ tables_1, d.before a0 Z = true) (ws : List Jvm.Cond) (a1 : Addr) (p1 : Int32) (n N : Nat) (f : Nat → Int64) (h0 : Heap) (n0 : Nat) (Z0 : n0 ≤ h0.size) (PA : own_AJ Z h0 a1 n f) (PX : Exa Z h0 a1 "[J") (hN : p1.toInt = (N : Int)) (hnN : n ≤ N) (hNc : N ≤ 8) :
    MetFree l (⟨"java/util/Arrays", "copyOf", "([JI)[J"⟩ : MethodName) (head1 (Jvm.Cond.code (⟨"java/util/Arrays", "copyOf", "([JI)[J"⟩ : MethodName) jdk_65_method_124_code 3 (some (.array .long)) :: ws) ({ frames := 1, cells := 1, slots := 8, locals := 60 } : Room)) (fun a U => a = #[(.ref a1), (.int p1)] ∧ Z.Warmed39 U.vm ∧ U.heap = h0) (fun _ _ _ _ _ => True) (fun _ U o U' => ∃ vv LL, o = .returned vv ∧ own_ap (fun v h L => v = some (.ref h0.size) ∧ Fr n0 L ∧ Keep h0 h [] ∧ own_AJ Z h h0.size N (fun j => if j < n then f j else 0) ∧ Exa Z h h0.size "[J") vv U'.heap LL ∧ FrameEnd U o U' LL 1 8) := by
  refine MetFree.of_bodySF (plainFor_of_name pn_10) hisR ?_
  intro p e s m args below meth c s₁ Bd hml0 hP hK
  obtain ⟨rfl, hZ, hh⟩ := hP
  have hx := Bd.exec
  have hby := Bd.bytes
  have hml : c.maxLocals = 3 := hml0
  have hown : s.vm.findClass "java/util/Arrays" = some m.cls := findClass_of_methodNamed Bd.named
  have hnm := (name_of_methodNamed Bd.named Bd.method).1
  have X0 : Stand p l e ({ frames := 1, cells := 1, slots := 8, locals := 60 } : Room) s m #[(.ref a1), (.int p1)] below meth c s₁ [] 0 0 := Stand.of_body Bd
  have e0 : s₁.heap = h0 := by rw [← hh, Bd.state]; rfl
  have N0 := Fr.nil n0
  show own_Go p.tables e below (own_Q s (fun v h L => v = some (.ref h0.size) ∧ Fr n0 L ∧ Keep h0 h [] ∧ own_AJ Z h h0.size N (fun j => if j < n then f j else 0) ∧ Exa Z h h0.size "[J") 1 8) (s₁.setTop (entryFrame m #[(.ref a1), (.int p1)] 3))
  rw [show entryFrame m #[(.ref a1), (.int p1)] 3 = mkF m 0 #[.val (.ref a1), .val (.int p1), .unset] [] from by first | (simp [entryFrame, mkF, argsToLocals, Value.category]; done) | rfl]
  obtain ⟨zn, hznE, hzn⟩ : ∃ z : Int32, z = n.toInt32 ∧ z.toInt = (n : Int) := ⟨n.toInt32, rfl, own_ofN (by omega)⟩
  show own_Go _ _ _ _ (s₁.setTop (mkF m 0 #[.val (.ref a1), .val (.int p1), .unset] []))
  refine own_by (fun _ k => XS.iloadN X0.here hx rfl (hb hby d10_0) rfl k) ?_
  show own_Go _ _ _ _ (s₁.setTop (mkF m 1 #[.val (.ref a1), .val (.int p1), .unset] [(.int p1)]))
  refine own_by (fun _ k => XS.aloadN X0.here hx rfl (hb hby d10_1) rfl rfl k) ?_
  show own_Go _ _ _ _ (s₁.setTop (mkF m 2 #[.val (.ref a1), .val (.int p1), .unset] [(.ref a1), (.int p1)]))
  refine own_by (fun _ k => own_len X0 hx hZ e0 PA zn hznE (hb hby d10_2) k) ?_
  show own_Go _ _ _ _ (s₁.setTop (mkF m 3 #[.val (.ref a1), .val (.int p1), .unset] [(.int zn), (.int p1)]))
  by_cases hc1 : p1 = zn
  · --
    have hNe : n = N := by have q' := congrArg Int32.toInt hc1; rw [hN, hzn] at q'; omega
    refine own_by (fun _ k => XS.icmpNo X0.here hx rfl (hb hby d10_3) rfl (teq hc1).2 k) ?_
    show own_Go _ _ _ _ (s₁.setTop (mkF m 6 #[.val (.ref a1), .val (.int p1), .unset] []))
    refine own_by (fun _ k => XS.aloadN X0.here hx rfl (hb hby d10_6) rfl rfl k) ?_
    show own_Go _ _ _ _ (s₁.setTop (mkF m 7 #[.val (.ref a1), .val (.int p1), .unset] [(.ref a1)]))
    obtain ⟨ka, Va⟩ := own_toArv PA hzn
    obtain ⟨T2, h2, X2, e2, E2, V2, EX2, st2⟩ := cloneH X0 hx hZ hown (ad := "[J") (hw _ (List.mem_of_getElem? (i := 58) rfl)) (hw _ (List.mem_of_getElem? (i := 59) rfl)) (hw _ (List.mem_of_getElem? (i := 63) rfl)) (hw _ (List.mem_of_getElem? (i := 61) rfl)) (hw _ (List.mem_of_getElem? (i := 62) rfl)) (hw _ (List.mem_of_getElem? (i := 64) rfl)) e0 (Arv.arh Va) PX (g := (mkF m 7 #[.val (.ref a1), .val (.int p1), .unset] [(.ref a1)])) rfl (by rw [hml]; rfl) rfl (hb hby d10_7) (by decide) (W := 0) (cap := 8) (by show 2 * 0 + _ ≤ _; exact Nat.le_of_eq rfl) (by decide) (by rw [(own_clamp hzn).1]; omega) (by decide) (by decide)
    refine own_by st2 ?_
    have A2 : own_AJ Z h2 h0.size N (fun j => if j < n then f j else 0) := own_ofArv (n := N) V2 (by rw [hzn, hNe]) (fun j hj => by simp [List.getD_eq_getElem?_getD, show j < n by omega])
    have f3 := PA.ext E2
    have f4 := PX.ext E2
    have f5 := (Keep.refl h0 []).ext E2
    show own_Go _ _ _ _ (T2.setTop (mkF m 10 #[.val (.ref a1), .val (.int p1), .unset] [(.ref h0.size)]))
    obtain ⟨T6, X6, e6, st6⟩ := castY X2 hx hZ hown (hw _ (List.mem_of_getElem? (i := 65) rfl)) e2 (Ins.self EX2) (g := (mkF m 10 #[.val (.ref a1), .val (.int p1), .unset] [(.ref h0.size)])) rfl rfl (hb hby d10_10)
    refine own_by st6 ?_
    show own_Go _ _ _ _ (T6.setTop (mkF m 13 #[.val (.ref a1), .val (.int p1), .unset] [(.ref h0.size)]))
    exact own_retA X6 hx Bd.notSynchronized e6 Bd.returns rfl rfl rfl (hb hby d10_13) (⟨rfl, N0, f5, A2, EX2⟩) (by decide) (by decide)
  · --
    refine own_by (fun _ k => XS.icmpYes X0.here hx rfl (pc0 := 3) (pc' := 14) rfl (hb hby d10_3) rfl (feq hc1).2 (by decide) (by decide) k) ?_
    show own_Go _ _ _ _ (s₁.setTop (mkF m 14 #[.val (.ref a1), .val (.int p1), .unset] []))
    refine own_by (fun _ k => XS.iloadN X0.here hx rfl (hb hby d10_14) rfl k) ?_
    show own_Go _ _ _ _ (s₁.setTop (mkF m 15 #[.val (.ref a1), .val (.int p1), .unset] [(.int p1)]))
    refine own_newPE X0 hx hZ (hw _ (List.mem_of_getElem? (i := 10) rfl)) e0 N hN 8 hNc (by decide) (by decide) (by decide) (hb hby d10_15) (ad := "[J") (by decide) ?_
    intro T7 h7 X7 e7 E7 A7 EX7
    show own_Go _ _ _ _ (T7.setTop (mkF m 17 #[.val (.ref a1), .val (.int p1), .unset] [.ref h0.size]))
    obtain ⟨b7, g7⟩ : ∃ z, z = h0.size := ⟨_, rfl⟩
    rw [← g7] at A7 EX7
    refine own_gen g7.symm (fun z_ => T7.setTop (mkF m 17 #[.val (.ref a1), .val (.int p1), .unset] [.ref z_])) ?_
    have ne8 : a1 ≠ b7 := Nat.ne_of_lt (Nat.lt_of_lt_of_le PA.lt (Nat.le_of_eq g7.symm))
    have ge7 : n0 ≤ b7 := Nat.le_trans Z0 (Nat.le_of_eq g7.symm)
    have nw7 : h0.size ≤ b7 := Nat.le_trans (Keep.refl h0 []).1 (Nat.le_of_eq g7.symm)
    have f9 := PA.ext E7
    have f10 := PX.ext E7
    have f11 := (Keep.refl h0 []).ext E7
    have Z7 := Nat.le_trans Z0 E7.1
    have f12 : own_AJ Z h7 b7 N (fun _ => 0) := A7
    show own_Go _ _ _ _ (T7.setTop (mkF m 17 #[.val (.ref a1), .val (.int p1), .unset] [(.ref b7)]))
    refine own_by (fun _ k => XS.astoreN X7.here hx rfl (hb hby d10_17) rfl rfl (l' := #[.val (.ref a1), .val (.int p1), .val (.ref b7)]) rfl k) ?_
    show own_Go _ _ _ _ (T7.setTop (mkF m 18 #[.val (.ref a1), .val (.int p1), .val (.ref b7)] []))
    refine own_by (fun _ k => XS.aloadN X7.here hx rfl (hb hby d10_18) rfl rfl k) ?_
    show own_Go _ _ _ _ (T7.setTop (mkF m 19 #[.val (.ref a1), .val (.int p1), .val (.ref b7)] [(.ref a1)]))
    refine own_by (fun _ k => XS.iconst X7.here hx rfl (hb hby d10_19) k) ?_
    show own_Go _ _ _ _ (T7.setTop (mkF m 20 #[.val (.ref a1), .val (.int p1), .val (.ref b7)] [(.int (0 : Int32)), (.ref a1)]))
    refine own_by (fun _ k => XS.aloadN X7.here hx rfl (hb hby d10_20) rfl rfl k) ?_
    show own_Go _ _ _ _ (T7.setTop (mkF m 21 #[.val (.ref a1), .val (.int p1), .val (.ref b7)] [(.ref b7), (.int (0 : Int32)), (.ref a1)]))
    refine own_by (fun _ k => XS.iconst X7.here hx rfl (hb hby d10_21) k) ?_
    show own_Go _ _ _ _ (T7.setTop (mkF m 22 #[.val (.ref a1), .val (.int p1), .val (.ref b7)] [(.int (0 : Int32)), (.ref b7), (.int (0 : Int32)), (.ref a1)]))
    refine own_by (fun _ k => XS.aloadN X7.here hx rfl (hb hby d10_22) rfl rfl k) ?_
    show own_Go _ _ _ _ (T7.setTop (mkF m 23 #[.val (.ref a1), .val (.int p1), .val (.ref b7)] [(.ref a1), (.int (0 : Int32)), (.ref b7), (.int (0 : Int32)), (.ref a1)]))
    refine own_by (fun _ k => own_len X7 hx hZ e7 f9 zn hznE (hb hby d10_23) k) ?_
    show own_Go _ _ _ _ (T7.setTop (mkF m 24 #[.val (.ref a1), .val (.int p1), .val (.ref b7)] [(.int zn), (.int (0 : Int32)), (.ref b7), (.int (0 : Int32)), (.ref a1)]))
    refine own_by (fun _ k => XS.iloadN X7.here hx rfl (hb hby d10_24) rfl k) ?_
    show own_Go _ _ _ _ (T7.setTop (mkF m 25 #[.val (.ref a1), .val (.int p1), .val (.ref b7)] [(.int p1), (.int zn), (.int (0 : Int32)), (.ref b7), (.int (0 : Int32)), (.ref a1)]))
    refine own_callS X7 hx hZ hown (hw _ (List.mem_of_getElem? (i := 51) rfl)) (hw _ (List.mem_of_getElem? (i := 52) rfl)) (hw _ (List.mem_of_getElem? (i := 45) rfl)) (hw _ (List.mem_of_getElem? (i := 53) rfl)) (by decide) (rm11 l Z a0 hw [] zn p1 h7 n0 Z7) e7 (by rw [hml]; rfl) [(.int zn), (.int p1)] [(.int (0 : Int32)), (.ref b7), (.int (0 : Int32)), (.ref a1)] rfl (lenOf own_pd4 rfl) rfl 4 (Nat.le_of_eq rfl) (by decide) (by decide) (Nat.le_of_ble_eq_true rfl) (Nat.le_of_ble_eq_true rfl) (hb hby d10_25) ?_
    intro T13 Lc13 v13 X13 hQ13
    obtain ⟨rfl, N13q, e13⟩ := hQ13
    have N13 := Fr.app N0 N13q
    show own_Go _ _ _ _ (T13.setTop (mkF m 28 #[.val (.ref a1), .val (.int p1), .val (.ref b7)] [(.int (if p1 < zn then p1 else zn)), (.int (0 : Int32)), (.ref b7), (.int (0 : Int32)), (.ref a1)]))
    rw [show (if p1 < zn then p1 else zn) = zn from if_neg (by rw [Int32.lt_iff_toInt_lt, hzn, hN]; omega)]
    obtain ⟨ka, Va⟩ := own_toArv f9 hzn
    obtain ⟨kb, Vb⟩ := own_toArv f12 hN
    obtain ⟨T14, h14, L14, X14, e14, N14, K14, V14, st14⟩ := cpA X13 hx hZ hown (hw _ (List.mem_of_getElem? (i := 54) rfl)) (hw _ (List.mem_of_getElem? (i := 57) rfl)) (hw _ (List.mem_of_getElem? (i := 55) rfl)) (hw _ (List.mem_of_getElem? (i := 56) rfl)) e13 Va Vb (Or.inl ⟨rfl, rfl⟩) (sp := (0 : Int32)) (dp := (0 : Int32)) (nn := zn) (by decide) (by decide) (own_clamp hzn).2 (by rw [(own_clamp hzn).1]; simp) (by rw [(own_clamp hzn).1, (own_clamp hN).1]; simpa using hnN) rfl (by rw [(own_clamp hzn).1]; simpa using hnN) N13 ge7 (g := (mkF m 28 #[.val (.ref a1), .val (.int p1), .val (.ref b7)] [(.int zn), (.int (0 : Int32)), (.ref b7), (.int (0 : Int32)), (.ref a1)])) rfl (by rw [hml]; rfl) rfl (hb hby d10_28) (by decide) (W := 0) (by show 2 * 0 + _ ≤ _; exact Nat.le_of_eq rfl) (by decide)
    refine own_by st14 ?_
    have A14 : own_AJ Z h14 b7 N (fun j => if j < n then f j else 0) := own_ofArv V14 hN (fun j hj => by have q := own_cpd n N hnN f (fun _ => 0) j hj; rw [(own_clamp hzn).1]; exact q)
    have f15 := f9.keep K14 (ninS ne8 nin0)
    have f16 := f10.keep K14
    have f17 := f11.trans K14 (allS (P := fun x => x ∈ [] ∨ h0.size ≤ x) (Or.inr nw7) all0)
    have f18 := EX7.keep K14
    have Z14 := Nat.le_trans Z7 K14.1
    show own_Go _ _ _ _ (T14.setTop (mkF m 31 #[.val (.ref a1), .val (.int p1), .val (.ref b7)] []))
    refine own_by (fun _ k => XS.aloadN X14.here hx rfl (hb hby d10_31) rfl rfl k) ?_
    show own_Go _ _ _ _ (T14.setTop (mkF m 32 #[.val (.ref a1), .val (.int p1), .val (.ref b7)] [(.ref b7)]))
    exact own_retA X14 hx Bd.notSynchronized e14 Bd.returns rfl rfl rfl (hb hby d10_32) (⟨by rw [g7], N14, f17, by rw [← g7]; exact A14, by rw [← g7]; exact f18⟩) (by decide) (by decide)
set_option maxRecDepth 65536 in
set_option maxHeartbeats 40000000 in
theorem rm1 (l : Launch) (Z : State) (a0 : Array Value) (hw : ∀ d ∈ tables_1, d.before a0 Z = true) (ws : List Jvm.Cond) (a1 : Addr)  (h0 : Heap) (n0 : Nat) (Z0 : n0 ≤ h0.size) (PE : Exa Z h0 a1 "com/example/sonde/sonde/engine/Bits") (PF : Fld Z h0 a1 "com/example/sonde/sonde/engine/Bits" "words" "[J" .null) (PH : Fld Z h0 a1 "com/example/sonde/sonde/engine/Bits" "held" "[J" .null) (Pa : n0 ≤ a1) :
    MetFree l (⟨"com/example/sonde/sonde/engine/Bits", "<init>", "()V"⟩ : MethodName) (head1 (Jvm.Cond.code (⟨"com/example/sonde/sonde/engine/Bits", "<init>", "()V"⟩ : MethodName) prog_100_method_1_code 1 none :: ws) ({ frames := 1, cells := 2, slots := 2, locals := 12 } : Room)) (fun a U => a = #[(.ref a1)] ∧ Z.Warmed39 U.vm ∧ U.heap = h0) (fun _ _ _ _ _ => True) (fun _ U o U' => ∃ vv LL, o = .returned vv ∧ own_ap (fun v h L => v = none ∧ Fr n0 L ∧ Keep h0 h [a1] ∧ ∃ (w2 d2 : Addr), Fld Z h a1 "com/example/sonde/sonde/engine/Bits" "words" "[J" (.ref w2) ∧ Fld Z h a1 "com/example/sonde/sonde/engine/Bits" "held" "[J" (.ref d2) ∧ own_AJ Z h w2 1 (fun _ => 0) ∧ own_AJ Z h d2 1 (fun _ => 0) ∧ Exa Z h d2 "[J" ∧ n0 ≤ w2 ∧ n0 ≤ d2 ∧ a1 ≠ w2 ∧ a1 ≠ d2 ∧ w2 ≠ d2 ∧ h0.size ≤ w2 ∧ h0.size ≤ d2) vv U'.heap LL ∧ FrameEnd U o U' LL 2 2) := by
  refine MetFree.of_bodySF (plainFor_of_name pn_1) hisR ?_
  intro p e s m args below meth c s₁ Bd hml0 hP hK
  obtain ⟨rfl, hZ, hh⟩ := hP
  have hx := Bd.exec
  have hby := Bd.bytes
  have hml : c.maxLocals = 1 := hml0
  have hown : s.vm.findClass "com/example/sonde/sonde/engine/Bits" = some m.cls := findClass_of_methodNamed Bd.named
  have hnm := (name_of_methodNamed Bd.named Bd.method).1
  have X0 : Stand p l e ({ frames := 1, cells := 2, slots := 2, locals := 12 } : Room) s m #[(.ref a1)] below meth c s₁ [] 0 0 := Stand.of_body Bd
  have e0 : s₁.heap = h0 := by rw [← hh, Bd.state]; rfl
  have N0 := Fr.nil n0
  show own_Go p.tables e below (own_Q s (fun v h L => v = none ∧ Fr n0 L ∧ Keep h0 h [a1] ∧ ∃ (w2 d2 : Addr), Fld Z h a1 "com/example/sonde/sonde/engine/Bits" "words" "[J" (.ref w2) ∧ Fld Z h a1 "com/example/sonde/sonde/engine/Bits" "held" "[J" (.ref d2) ∧ own_AJ Z h w2 1 (fun _ => 0) ∧ own_AJ Z h d2 1 (fun _ => 0) ∧ Exa Z h d2 "[J" ∧ n0 ≤ w2 ∧ n0 ≤ d2 ∧ a1 ≠ w2 ∧ a1 ≠ d2 ∧ w2 ≠ d2 ∧ h0.size ≤ w2 ∧ h0.size ≤ d2) 2 2) (s₁.setTop (entryFrame m #[(.ref a1)] 1))
  rw [show entryFrame m #[(.ref a1)] 1 = mkF m 0 #[.val (.ref a1)] [] from by first | (simp [entryFrame, mkF, argsToLocals, Value.category]; done) | rfl]
  show own_Go _ _ _ _ (s₁.setTop (mkF m 0 #[.val (.ref a1)] []))
  refine own_by (fun _ k => XS.aloadN X0.here hx rfl (hb hby d1_0) rfl rfl k) ?_
  show own_Go _ _ _ _ (s₁.setTop (mkF m 1 #[.val (.ref a1)] [(.ref a1)]))
  obtain ⟨T1, X1, e1, st1⟩ := initO X0 hx hZ hown (hw _ (List.mem_of_getElem? (i := 7) rfl)) (hw _ (List.mem_of_getElem? (i := 8) rfl)) (hw _ (List.mem_of_getElem? (i := 9) rfl)) e0 (g := (mkF m 1 #[.val (.ref a1)] [(.ref a1)])) rfl (by rw [hml]; rfl) rfl (hb hby d1_1) (by decide) (W := 0) (by show 2 * 0 + _ ≤ _; exact Nat.le_of_eq rfl) (by decide)
  refine own_by st1 ?_
  show own_Go _ _ _ _ (T1.setTop (mkF m 4 #[.val (.ref a1)] []))
  refine own_by (fun _ k => XS.aloadN X1.here hx rfl (hb hby d1_4) rfl rfl k) ?_
  show own_Go _ _ _ _ (T1.setTop (mkF m 5 #[.val (.ref a1)] [(.ref a1)]))
  refine own_by (fun _ k => XS.iconst X1.here hx rfl (hb hby d1_5) k) ?_
  show own_Go _ _ _ _ (T1.setTop (mkF m 6 #[.val (.ref a1)] [(.int (1 : Int32)), (.ref a1)]))
  refine own_newPE X1 hx hZ (hw _ (List.mem_of_getElem? (i := 10) rfl)) e1 1 (by decide) 1 (by decide) (by decide) (by decide) (by decide) (hb hby d1_6) (ad := "[J") (by decide) ?_
  intro T2 h2 X2 e2 E2 A2 EX2
  show own_Go _ _ _ _ (T2.setTop (mkF m 8 #[.val (.ref a1)] [.ref h0.size, (.ref a1)]))
  obtain ⟨b2, g2⟩ : ∃ z, z = h0.size := ⟨_, rfl⟩
  rw [← g2] at A2 EX2
  refine own_gen g2.symm (fun z_ => T2.setTop (mkF m 8 #[.val (.ref a1)] [.ref z_, (.ref a1)])) ?_
  have ne3 : a1 ≠ b2 := Nat.ne_of_lt (Nat.lt_of_lt_of_le PE.lt (Nat.le_of_eq g2.symm))
  have ge2 : n0 ≤ b2 := Nat.le_trans Z0 (Nat.le_of_eq g2.symm)
  have nw2 : h0.size ≤ b2 := Nat.le_trans (Keep.refl h0 [a1]).1 (Nat.le_of_eq g2.symm)
  have f4 := PE.ext E2
  have f5 := PF.ext E2
  have f6 := PH.ext E2
  have f7 := (Keep.refl h0 [a1]).ext E2
  have Z2 := Nat.le_trans Z0 E2.1
  have f8 : own_AJ Z h2 b2 1 (fun _ => 0) := A2
  show own_Go _ _ _ _ (T2.setTop (mkF m 8 #[.val (.ref a1)] [(.ref b2), (.ref a1)]))
  obtain ⟨T9, h9, X9, e9, W9, st9⟩ := putF X2 hx hZ hown (host := "") (Or.inl (hw _ (List.mem_of_getElem? (i := 11) rfl))) Via.refl e2 f5 f4 (Or.inl (hw _ (List.mem_of_getElem? (i := 12) rfl))) (hw _ (List.mem_of_getElem? (i := 2) rfl)) (ty := (.array .long)) (by decide) rfl rfl (g := (mkF m 8 #[.val (.ref a1)] [(.ref b2), (.ref a1)])) rfl rfl (hb hby d1_8)
  refine own_by st9 ?_
  have f10 := f5.same W9
  have f11 := f4.wr W9
  have f12 := f6.other W9 (Or.inr (slot_ne (Or.inl (hw _ (List.mem_of_getElem? (i := 14) rfl))) (Or.inl (hw _ (List.mem_of_getElem? (i := 12) rfl))) (by decide) (t := (.array .long)) (t' := (.array .long)) (by decide) (by decide)))
  have f13 := f7.wr W9 (Or.inl (List.mem_of_getElem? (i := 0) rfl))
  have f14 := EX2.wr W9
  have f15 := f8.other W9 (Ne.symm ne3)
  have N9 := Fr.snoc X9 N0 Pa
  have Z9 := own_size_wr W9 Z2
  show own_Go _ _ _ _ (T9.setTop (mkF m 11 #[.val (.ref a1)] []))
  refine own_by (fun _ k => XS.aloadN X9.here hx rfl (hb hby d1_11) rfl rfl k) ?_
  show own_Go _ _ _ _ (T9.setTop (mkF m 12 #[.val (.ref a1)] [(.ref a1)]))
  refine own_by (fun _ k => XS.iconst X9.here hx rfl (hb hby d1_12) k) ?_
  show own_Go _ _ _ _ (T9.setTop (mkF m 13 #[.val (.ref a1)] [(.int (1 : Int32)), (.ref a1)]))
  refine own_newPE X9 hx hZ (hw _ (List.mem_of_getElem? (i := 10) rfl)) e9 1 (by decide) 1 (by decide) (by decide) (by decide) (by decide) (hb hby d1_13) (ad := "[J") (by decide) ?_
  intro T16 h16 X16 e16 E16 A16 EX16
  show own_Go _ _ _ _ (T16.setTop (mkF m 15 #[.val (.ref a1)] [.ref h9.size, (.ref a1)]))
  obtain ⟨b16, g16⟩ : ∃ z, z = h9.size := ⟨_, rfl⟩
  rw [← g16] at A16 EX16
  refine own_gen g16.symm (fun z_ => T16.setTop (mkF m 15 #[.val (.ref a1)] [.ref z_, (.ref a1)])) ?_
  have ne17 : b2 ≠ b16 := Nat.ne_of_lt (Nat.lt_of_lt_of_le f14.lt (Nat.le_of_eq g16.symm))
  have ne18 : a1 ≠ b16 := Nat.ne_of_lt (Nat.lt_of_lt_of_le f11.lt (Nat.le_of_eq g16.symm))
  have ge16 : n0 ≤ b16 := Nat.le_trans Z9 (Nat.le_of_eq g16.symm)
  have nw16 : h0.size ≤ b16 := Nat.le_trans f13.1 (Nat.le_of_eq g16.symm)
  have f19 := f11.ext E16
  have f20 := f10.ext E16
  have f21 := f12.ext E16
  have f22 := f13.ext E16
  have f23 := f14.ext E16
  have f24 := f15.ext E16
  have Z16 := Nat.le_trans Z9 E16.1
  have f25 : own_AJ Z h16 b16 1 (fun _ => 0) := A16
  show own_Go _ _ _ _ (T16.setTop (mkF m 15 #[.val (.ref a1)] [(.ref b16), (.ref a1)]))
  obtain ⟨T26, h26, X26, e26, W26, st26⟩ := putF X16 hx hZ hown (host := "") (Or.inl (hw _ (List.mem_of_getElem? (i := 13) rfl))) Via.refl e16 f21 f19 (Or.inl (hw _ (List.mem_of_getElem? (i := 14) rfl))) (hw _ (List.mem_of_getElem? (i := 2) rfl)) (ty := (.array .long)) (by decide) rfl rfl (g := (mkF m 15 #[.val (.ref a1)] [(.ref b16), (.ref a1)])) rfl rfl (hb hby d1_15)
  refine own_by st26 ?_
  have f27 := f21.same W26
  have f28 := f19.wr W26
  have f29 := f20.other W26 (Or.inr (slot_ne (Or.inl (hw _ (List.mem_of_getElem? (i := 12) rfl))) (Or.inl (hw _ (List.mem_of_getElem? (i := 14) rfl))) (by decide) (t := (.array .long)) (t' := (.array .long)) (by decide) (by decide)))
  have f30 := f22.wr W26 (Or.inl (List.mem_of_getElem? (i := 0) rfl))
  have f31 := f23.wr W26
  have f32 := f24.other W26 (Ne.symm ne3)
  have f33 := EX16.wr W26
  have f34 := f25.other W26 (Ne.symm ne18)
  have N26 := Fr.snoc X26 N9 Pa
  have Z26 := own_size_wr W26 Z16
  show own_Go _ _ _ _ (T26.setTop (mkF m 18 #[.val (.ref a1)] []))
  exact own_retV X26 hx Bd.notSynchronized e26 Bd.returns (hb hby d1_18) (⟨rfl, N26, f30, b2, b16, f29, f27, f32, f34, f33, ge2, ge16, ne3, ne18, ne17, ⟨nw2, nw16⟩⟩) (by decide) (by decide)
theorem own_max (z zn p : Int32) (n k : Nat) (a b : Int32) (hzn : zn.toInt = (n : Int)) (hk : p.toInt = (k : Int)) (hn : n ≤ 255) (hk5 : k ≤ 255) (h1 : 1 ≤ n) (ha : (2 : Int32) * zn = a) (hb : p + (1 : Int32) = b) (h : (if a < b then b else a) = z) : ∃ N1 : Nat, z.toInt = (N1 : Int) ∧ 2 * n ≤ N1 ∧ k + 1 ≤ N1 ∧ N1 ≤ 510 := by
  have l2 : (2 : Int32).toInt = 2 := by decide
  have l1 : (1 : Int32).toInt = 1 := by decide
  have c1 := c_imul 2 zn
  have c2 := c_iadd p 1
  have r1 := rng32 a
  have r2 := rng32 b
  rw [ha, l2] at c1
  rw [hb, l1] at c2
  subst h
  by_cases q : a < b
  · rw [if_pos q]; rw [Int32.lt_iff_toInt_lt] at q; exact ⟨b.toInt.toNat, by omega, by omega, by omega, by omega⟩
  · rw [if_neg q]; rw [Int32.lt_iff_toInt_lt] at q; exact ⟨a.toInt.toNat, by omega, by omega, by omega, by omega⟩
theorem own_p63 {z : Int32} {N : Nat} (h : z.toInt = (N : Int)) (hN : N ≤ 510) : (z + (63 : Int32)).toInt = ((N + 63 : Nat) : Int) := by
  have l : (63 : Int32).toInt = 63 := by decide
  have c := c_iadd z 63
  have r := rng32 (z + 63)
  rw [l] at c; omega
set_option maxRecDepth 65536 in
set_option maxHeartbeats 40000000 in
theorem rm4 (l : Launch) (Z : State) (a0 : Array Value) (hw : ∀ d ∈ tables_1, d.before a0 Z = true) (ws : List Jvm.Cond) (a1 : Addr) (p1 : Int32) (w1 d1 : Addr) (n mm : Nat) (f g : Nat → Int64) (k1 : Nat) (h0 : Heap) (n0 : Nat) (Z0 : n0 ≤ h0.size) (PE : Exa Z h0 a1 "com/example/sonde/sonde/engine/Bits") (PF : Fld Z h0 a1 "com/example/sonde/sonde/engine/Bits" "words" "[J" (.ref w1)) (PH : Fld Z h0 a1 "com/example/sonde/sonde/engine/Bits" "held" "[J" (.ref d1)) (PA : own_AJ Z h0 w1 n f) (PB : own_AJ Z h0 d1 mm g) (PX : Exa Z h0 d1 "[J") (Pa : n0 ≤ a1) (Pw : n0 ≤ w1) (Pd : n0 ≤ d1) (Paw : a1 ≠ w1) (Pad : a1 ≠ d1) (Pwd : w1 ≠ d1) (Pn1 : 1 ≤ n) (Pn5 : n ≤ 510) (Pm : mm = (n + 63) / 64) (hk : p1.toInt = (k1 : Int)) (hk5 : k1 ≤ 255) :
    MetFree l (⟨"com/example/sonde/sonde/engine/Bits", "roomFor", "(I)V"⟩ : MethodName) (head1 (Jvm.Cond.code (⟨"com/example/sonde/sonde/engine/Bits", "roomFor", "(I)V"⟩ : MethodName) prog_100_method_15_code 2 none :: ws) ({ frames := 2, cells := 2, slots := 518, locals := 80 } : Room)) (fun a U => a = #[(.ref a1), (.int p1)] ∧ Z.Warmed39 U.vm ∧ U.heap = h0) (fun _ _ _ _ _ => True) (fun _ U o U' => ∃ vv LL, o = .returned vv ∧ own_ap (fun v h L => v = none ∧ Fr n0 L ∧ Keep h0 h [a1, w1, d1] ∧ ∃ (w2 d2 : Addr) (n2 m2 : Nat) (f2 g2 : Nat → Int64), Fld Z h a1 "com/example/sonde/sonde/engine/Bits" "words" "[J" (.ref w2) ∧ Fld Z h a1 "com/example/sonde/sonde/engine/Bits" "held" "[J" (.ref d2) ∧ own_AJ Z h w2 n2 f2 ∧ own_AJ Z h d2 m2 g2 ∧ Exa Z h d2 "[J" ∧ n0 ≤ w2 ∧ n0 ≤ d2 ∧ a1 ≠ w2 ∧ a1 ≠ d2 ∧ w2 ≠ d2 ∧ 1 ≤ n2 ∧ n2 ≤ 510 ∧ m2 = (n2 + 63) / 64 ∧ (w2 = w1 ∨ h0.size ≤ w2) ∧ (d2 = d1 ∨ h0.size ≤ d2) ∧ k1 < n2 ∧ ∀ y, own_has f2 n2 y = own_has f n y) vv U'.heap LL ∧ FrameEnd U o U' LL 2 518) := by
  refine MetFree.of_bodySF (plainFor_of_name pn_4) hisR ?_
  intro p e s m args below meth c s₁ Bd hml0 hP hK
  obtain ⟨rfl, hZ, hh⟩ := hP
  have hx := Bd.exec
  have hby := Bd.bytes
  have hml : c.maxLocals = 2 := hml0
  have hown : s.vm.findClass "com/example/sonde/sonde/engine/Bits" = some m.cls := findClass_of_methodNamed Bd.named
  have hnm := (name_of_methodNamed Bd.named Bd.method).1
  have X0 : Stand p l e ({ frames := 2, cells := 2, slots := 518, locals := 80 } : Room) s m #[(.ref a1), (.int p1)] below meth c s₁ [] 0 0 := Stand.of_body Bd
  have e0 : s₁.heap = h0 := by rw [← hh, Bd.state]; rfl
  have N0 := Fr.nil n0
  show own_Go p.tables e below (own_Q s (fun v h L => v = none ∧ Fr n0 L ∧ Keep h0 h [a1, w1, d1] ∧ ∃ (w2 d2 : Addr) (n2 m2 : Nat) (f2 g2 : Nat → Int64), Fld Z h a1 "com/example/sonde/sonde/engine/Bits" "words" "[J" (.ref w2) ∧ Fld Z h a1 "com/example/sonde/sonde/engine/Bits" "held" "[J" (.ref d2) ∧ own_AJ Z h w2 n2 f2 ∧ own_AJ Z h d2 m2 g2 ∧ Exa Z h d2 "[J" ∧ n0 ≤ w2 ∧ n0 ≤ d2 ∧ a1 ≠ w2 ∧ a1 ≠ d2 ∧ w2 ≠ d2 ∧ 1 ≤ n2 ∧ n2 ≤ 510 ∧ m2 = (n2 + 63) / 64 ∧ (w2 = w1 ∨ h0.size ≤ w2) ∧ (d2 = d1 ∨ h0.size ≤ d2) ∧ k1 < n2 ∧ ∀ y, own_has f2 n2 y = own_has f n y) 2 518) (s₁.setTop (entryFrame m #[(.ref a1), (.int p1)] 2))
  rw [show entryFrame m #[(.ref a1), (.int p1)] 2 = mkF m 0 #[.val (.ref a1), .val (.int p1)] [] from by first | (simp [entryFrame, mkF, argsToLocals, Value.category]; done) | rfl]
  obtain ⟨zn, hznE, hzn⟩ : ∃ z : Int32, z = n.toInt32 ∧ z.toInt = (n : Int) := ⟨n.toInt32, rfl, own_ofN (by omega)⟩
  show own_Go _ _ _ _ (s₁.setTop (mkF m 0 #[.val (.ref a1), .val (.int p1)] []))
  refine own_by (fun _ k => XS.iloadN X0.here hx rfl (hb hby d4_0) rfl k) ?_
  show own_Go _ _ _ _ (s₁.setTop (mkF m 1 #[.val (.ref a1), .val (.int p1)] [(.int p1)]))
  refine own_by (fun _ k => XS.aloadN X0.here hx rfl (hb hby d4_1) rfl rfl k) ?_
  show own_Go _ _ _ _ (s₁.setTop (mkF m 2 #[.val (.ref a1), .val (.int p1)] [(.ref a1), (.int p1)]))
  obtain ⟨T1, X1, e1, st1⟩ := getF X0 hx hZ hown (host := "") (Or.inl (hw _ (List.mem_of_getElem? (i := 11) rfl))) Via.refl e0 PF (g := (mkF m 2 #[.val (.ref a1), .val (.int p1)] [(.ref a1), (.int p1)])) rfl rfl (hb hby d4_2)
  refine own_by st1 ?_
  show own_Go _ _ _ _ (T1.setTop (mkF m 5 #[.val (.ref a1), .val (.int p1)] [(.ref w1), (.int p1)]))
  refine own_by (fun _ k => own_len X1 hx hZ e1 PA zn hznE (hb hby d4_5) k) ?_
  show own_Go _ _ _ _ (T1.setTop (mkF m 6 #[.val (.ref a1), .val (.int p1)] [(.int zn), (.int p1)]))
  by_cases hc2 : p1 < zn
  · --
    refine own_by (fun _ k => XS.icmpYes X1.here hx rfl (pc0 := 6) (pc' := 55) rfl (hb hby d4_6) rfl (tlt hc2).1 (by decide) (by decide) k) ?_
    show own_Go _ _ _ _ (T1.setTop (mkF m 55 #[.val (.ref a1), .val (.int p1)] []))
    exact own_retV X1 hx Bd.notSynchronized e1 Bd.returns (hb hby d4_55) (⟨rfl, N0, (Keep.refl h0 [a1, w1, d1]), w1, d1, n, mm, _, _, PF, PH, PA, PB, PX, Pw, Pd, Paw, Pad, Pwd, by omega, by omega, Pm, Or.inl rfl, Or.inl rfl, by have q := hc2; rw [Int32.lt_iff_toInt_lt, hk, hzn] at q; omega, fun y => rfl⟩) (by decide) (by decide)
  · --
    have hkn : n ≤ k1 := by have q := hc2; rw [Int32.lt_iff_toInt_lt, hk, hzn] at q; omega
    refine own_by (fun _ k => XS.icmpNo X1.here hx rfl (hb hby d4_6) rfl (flt hc2).1 k) ?_
    show own_Go _ _ _ _ (T1.setTop (mkF m 9 #[.val (.ref a1), .val (.int p1)] []))
    refine own_by (fun _ k => XS.aloadN X1.here hx rfl (hb hby d4_9) rfl rfl k) ?_
    show own_Go _ _ _ _ (T1.setTop (mkF m 10 #[.val (.ref a1), .val (.int p1)] [(.ref a1)]))
    refine own_by (fun _ k => XS.aloadN X1.here hx rfl (hb hby d4_10) rfl rfl k) ?_
    show own_Go _ _ _ _ (T1.setTop (mkF m 11 #[.val (.ref a1), .val (.int p1)] [(.ref a1), (.ref a1)]))
    obtain ⟨T3, X3, e3, st3⟩ := getF X1 hx hZ hown (host := "") (Or.inl (hw _ (List.mem_of_getElem? (i := 11) rfl))) Via.refl e1 PF (g := (mkF m 11 #[.val (.ref a1), .val (.int p1)] [(.ref a1), (.ref a1)])) rfl rfl (hb hby d4_11)
    refine own_by st3 ?_
    show own_Go _ _ _ _ (T3.setTop (mkF m 14 #[.val (.ref a1), .val (.int p1)] [(.ref w1), (.ref a1)]))
    refine own_by (fun _ k => XS.iconst X3.here hx rfl (hb hby d4_14) k) ?_
    show own_Go _ _ _ _ (T3.setTop (mkF m 15 #[.val (.ref a1), .val (.int p1)] [(.int (2 : Int32)), (.ref w1), (.ref a1)]))
    refine own_by (fun _ k => XS.aloadN X3.here hx rfl (hb hby d4_15) rfl rfl k) ?_
    show own_Go _ _ _ _ (T3.setTop (mkF m 16 #[.val (.ref a1), .val (.int p1)] [(.ref a1), (.int (2 : Int32)), (.ref w1), (.ref a1)]))
    obtain ⟨T4, X4, e4, st4⟩ := getF X3 hx hZ hown (host := "") (Or.inl (hw _ (List.mem_of_getElem? (i := 11) rfl))) Via.refl e3 PF (g := (mkF m 16 #[.val (.ref a1), .val (.int p1)] [(.ref a1), (.int (2 : Int32)), (.ref w1), (.ref a1)])) rfl rfl (hb hby d4_16)
    refine own_by st4 ?_
    show own_Go _ _ _ _ (T4.setTop (mkF m 19 #[.val (.ref a1), .val (.int p1)] [(.ref w1), (.int (2 : Int32)), (.ref w1), (.ref a1)]))
    refine own_by (fun _ k => own_len X4 hx hZ e4 PA zn hznE (hb hby d4_19) k) ?_
    show own_Go _ _ _ _ (T4.setTop (mkF m 20 #[.val (.ref a1), .val (.int p1)] [(.int zn), (.int (2 : Int32)), (.ref w1), (.ref a1)]))
    refine own_by (fun _ k => XS.imul X4.here hx rfl (hb hby d4_20) rfl k) ?_
    show own_Go _ _ _ _ (T4.setTop (mkF m 21 #[.val (.ref a1), .val (.int p1)] [(.int ((2 : Int32) * zn)), (.ref w1), (.ref a1)]))
    refine own_by (fun _ k => XS.iloadN X4.here hx rfl (hb hby d4_21) rfl k) ?_
    show own_Go _ _ _ _ (T4.setTop (mkF m 22 #[.val (.ref a1), .val (.int p1)] [(.int p1), (.int ((2 : Int32) * zn)), (.ref w1), (.ref a1)]))
    refine own_by (fun _ k => XS.iconst X4.here hx rfl (hb hby d4_22) k) ?_
    show own_Go _ _ _ _ (T4.setTop (mkF m 23 #[.val (.ref a1), .val (.int p1)] [(.int (1 : Int32)), (.int p1), (.int ((2 : Int32) * zn)), (.ref w1), (.ref a1)]))
    refine own_by (fun _ k => XS.iadd X4.here hx rfl (hb hby d4_23) rfl k) ?_
    show own_Go _ _ _ _ (T4.setTop (mkF m 24 #[.val (.ref a1), .val (.int p1)] [(.int (p1 + (1 : Int32))), (.int ((2 : Int32) * zn)), (.ref w1), (.ref a1)]))
    obtain ⟨g5, hg5⟩ : ∃ z_ : Int32, (p1 + (1 : Int32)) = z_ := ⟨_, rfl⟩
    refine own_gen hg5 (fun z_ => T4.setTop (mkF m 24 #[.val (.ref a1), .val (.int p1)] [(.int z_), (.int ((2 : Int32) * zn)), (.ref w1), (.ref a1)])) ?_
    obtain ⟨g6, hg6⟩ : ∃ z_ : Int32, ((2 : Int32) * zn) = z_ := ⟨_, rfl⟩
    refine own_gen hg6 (fun z_ => T4.setTop (mkF m 24 #[.val (.ref a1), .val (.int p1)] [(.int g5), (.int z_), (.ref w1), (.ref a1)])) ?_
    refine own_callS X4 hx hZ hown (hw _ (List.mem_of_getElem? (i := 43) rfl)) (hw _ (List.mem_of_getElem? (i := 44) rfl)) (hw _ (List.mem_of_getElem? (i := 45) rfl)) (hw _ (List.mem_of_getElem? (i := 46) rfl)) (by decide) (rm9 l Z a0 hw [] g6 g5 h0 n0 Z0) e4 (by rw [hml]; rfl) [(.int g6), (.int g5)] [(.ref w1), (.ref a1)] rfl (lenOf own_pd4 rfl) rfl 2 (Nat.le_of_eq rfl) (by decide) (by decide) (Nat.le_of_ble_eq_true rfl) (Nat.le_of_ble_eq_true rfl) (hb hby d4_24) ?_
    intro T7 Lc7 v7 X7 hQ7
    obtain ⟨rfl, N7q, e7⟩ := hQ7
    have N7 := Fr.app N0 N7q
    obtain ⟨g8, hg8⟩ : ∃ z_ : Int32, (if g6 < g5 then g5 else g6) = z_ := ⟨_, rfl⟩
    refine own_gen hg8 (fun z_ => T7.setTop (mkF m 27 #[.val (.ref a1), .val (.int p1)] [(.int z_), (.ref w1), (.ref a1)])) ?_
    obtain ⟨N1, hN1, hN1n, hN1k, hN1c⟩ : ∃ N1 : Nat, (g8).toInt = (N1 : Int) ∧ 2 * n ≤ N1 ∧ k1 + 1 ≤ N1 ∧ N1 ≤ 510 := own_max g8 zn p1 n k1 _ _ hzn hk (by omega) hk5 (by omega) rfl rfl (by first | exact hg8 | (simp only [hg5, hg6]; exact hg8))
    show own_Go _ _ _ _ (T7.setTop (mkF m 27 #[.val (.ref a1), .val (.int p1)] [(.int g8), (.ref w1), (.ref a1)]))
    obtain ⟨bw, hbw⟩ : ∃ z, z = h0.size := ⟨_, rfl⟩
    have ne_d1_bw : d1 ≠ bw := Nat.ne_of_lt (Nat.lt_of_lt_of_le PB.lt (Nat.le_of_eq hbw.symm))
    have ne_a1_bw : a1 ≠ bw := Nat.ne_of_lt (Nat.lt_of_lt_of_le PE.lt (Nat.le_of_eq hbw.symm))
    have ne_w1_bw : w1 ≠ bw := Nat.ne_of_lt (Nat.lt_of_lt_of_le PA.lt (Nat.le_of_eq hbw.symm))
    have ge_bw : n0 ≤ bw := Nat.le_trans Z0 (Nat.le_of_eq hbw.symm)
    have nw_bw : h0.size ≤ bw := Nat.le_trans (Keep.refl h0 [a1, w1, d1]).1 (Nat.le_of_eq hbw.symm)
    refine own_callS X7 hx hZ hown (hw _ (List.mem_of_getElem? (i := 47) rfl)) (hw _ (List.mem_of_getElem? (i := 48) rfl)) (hw _ (List.mem_of_getElem? (i := 49) rfl)) (hw _ (List.mem_of_getElem? (i := 50) rfl)) (by decide) (rm10 l Z a0 hw [] w1 g8 n N1 f h0 n0 Z0 PA hN1 (by omega) (by omega) hN1c) e7 (by rw [hml]; rfl) [(.ref w1), (.int g8)] [(.ref a1)] rfl (lenOf own_pd5 rfl) rfl 1 (Nat.le_of_eq rfl) (by decide) (by decide) (Nat.le_of_ble_eq_true rfl) (Nat.le_of_ble_eq_true rfl) (hb hby d4_27) ?_
    intro T9 Lc9 v9 X9 hQ9
    obtain ⟨h9, e9⟩ : ∃ h, T9.heap = h := ⟨_, rfl⟩
    rw [e9] at hQ9
    obtain ⟨rfl, N9q, K9, A9⟩ := hQ9
    have N9 := Fr.app N7 N9q
    have f10 := PE.keep K9
    have f11 := PF.keep K9 nin0
    have f12 := PH.keep K9 nin0
    have f13 := PA.keep K9 nin0
    have f14 := PB.keep K9 nin0
    have f15 := PX.keep K9
    have f16 := (Keep.refl h0 [a1, w1, d1]).trans K9 all0
    have Z9 := Nat.le_trans Z0 K9.1
    rw [← hbw] at A9
    show own_Go _ _ _ _ (T9.setTop (mkF m 30 #[.val (.ref a1), .val (.int p1)] [(.ref h0.size), (.ref a1)]))
    refine own_gen hbw.symm (fun z_ => T9.setTop (mkF m 30 #[.val (.ref a1), .val (.int p1)] [(.ref z_), (.ref a1)])) ?_
    show own_Go _ _ _ _ (T9.setTop (mkF m 30 #[.val (.ref a1), .val (.int p1)] [(.ref bw), (.ref a1)]))
    obtain ⟨T17, h17, X17, e17, W17, st17⟩ := putF X9 hx hZ hown (host := "") (Or.inl (hw _ (List.mem_of_getElem? (i := 11) rfl))) Via.refl e9 f11 f10 (Or.inl (hw _ (List.mem_of_getElem? (i := 12) rfl))) (hw _ (List.mem_of_getElem? (i := 2) rfl)) (ty := (.array .long)) (by decide) rfl rfl (g := (mkF m 30 #[.val (.ref a1), .val (.int p1)] [(.ref bw), (.ref a1)])) rfl rfl (hb hby d4_30)
    refine own_by st17 ?_
    have f18 := f11.same W17
    have f19 := f10.wr W17
    have f20 := f12.other W17 (Or.inr (slot_ne (Or.inl (hw _ (List.mem_of_getElem? (i := 14) rfl))) (Or.inl (hw _ (List.mem_of_getElem? (i := 12) rfl))) (by decide) (t := (.array .long)) (t' := (.array .long)) (by decide) (by decide)))
    have f21 := f13.other W17 (Ne.symm Paw)
    have f22 := f14.other W17 (Ne.symm Pad)
    have f23 := f15.wr W17
    have f24 := f16.wr W17 (Or.inl (List.mem_of_getElem? (i := 0) rfl))
    have f25 := A9.other W17 (Ne.symm ne_a1_bw)
    have N17 := Fr.snoc X17 N9 Pa
    have Z17 := own_size_wr W17 Z9
    show own_Go _ _ _ _ (T17.setTop (mkF m 33 #[.val (.ref a1), .val (.int p1)] []))
    refine own_by (fun _ k => XS.aloadN X17.here hx rfl (hb hby d4_33) rfl rfl k) ?_
    show own_Go _ _ _ _ (T17.setTop (mkF m 34 #[.val (.ref a1), .val (.int p1)] [(.ref a1)]))
    refine own_by (fun _ k => XS.aloadN X17.here hx rfl (hb hby d4_34) rfl rfl k) ?_
    show own_Go _ _ _ _ (T17.setTop (mkF m 35 #[.val (.ref a1), .val (.int p1)] [(.ref a1), (.ref a1)]))
    obtain ⟨T26, X26, e26, st26⟩ := getF X17 hx hZ hown (host := "") (Or.inl (hw _ (List.mem_of_getElem? (i := 13) rfl))) Via.refl e17 f20 (g := (mkF m 35 #[.val (.ref a1), .val (.int p1)] [(.ref a1), (.ref a1)])) rfl rfl (hb hby d4_35)
    refine own_by st26 ?_
    show own_Go _ _ _ _ (T26.setTop (mkF m 38 #[.val (.ref a1), .val (.int p1)] [(.ref d1), (.ref a1)]))
    refine own_by (fun _ k => XS.aloadN X26.here hx rfl (hb hby d4_38) rfl rfl k) ?_
    show own_Go _ _ _ _ (T26.setTop (mkF m 39 #[.val (.ref a1), .val (.int p1)] [(.ref a1), (.ref d1), (.ref a1)]))
    obtain ⟨T27, X27, e27, st27⟩ := getF X26 hx hZ hown (host := "") (Or.inl (hw _ (List.mem_of_getElem? (i := 11) rfl))) Via.refl e26 f18 (g := (mkF m 39 #[.val (.ref a1), .val (.int p1)] [(.ref a1), (.ref d1), (.ref a1)])) rfl rfl (hb hby d4_39)
    refine own_by st27 ?_
    show own_Go _ _ _ _ (T27.setTop (mkF m 42 #[.val (.ref a1), .val (.int p1)] [(.ref bw), (.ref d1), (.ref a1)]))
    refine own_by (fun _ k => own_len X27 hx hZ e27 f25 g8 (own_ofNat hN1) (hb hby d4_42) k) ?_
    show own_Go _ _ _ _ (T27.setTop (mkF m 43 #[.val (.ref a1), .val (.int p1)] [(.int g8), (.ref d1), (.ref a1)]))
    refine own_by (fun _ k => XS.bipush X27.here hx rfl (hb hby d4_43) k) ?_
    show own_Go _ _ _ _ (T27.setTop (mkF m 45 #[.val (.ref a1), .val (.int p1)] [(.int (63 : Int32)), (.int g8), (.ref d1), (.ref a1)]))
    refine own_by (fun _ k => XS.iadd X27.here hx rfl (hb hby d4_45) rfl k) ?_
    show own_Go _ _ _ _ (T27.setTop (mkF m 46 #[.val (.ref a1), .val (.int p1)] [(.int (g8 + (63 : Int32))), (.ref d1), (.ref a1)]))
    refine own_by (fun _ k => XS.bipush X27.here hx rfl (hb hby d4_46) k) ?_
    show own_Go _ _ _ _ (T27.setTop (mkF m 48 #[.val (.ref a1), .val (.int p1)] [(.int (6 : Int32)), (.int (g8 + (63 : Int32))), (.ref d1), (.ref a1)]))
    refine own_by (fun _ k => XS.iushr X27.here hx rfl (hb hby d4_48) rfl k) ?_
    obtain ⟨g28, hg28⟩ : ∃ z_ : Int32, (((g8 + (63 : Int32)).toUInt32 >>> ((6 : Int32) &&& 31).toUInt32).toInt32) = z_ := ⟨_, rfl⟩
    refine own_gen hg28 (fun z_ => T27.setTop (mkF m 49 #[.val (.ref a1), .val (.int p1)] [(.int z_), (.ref d1), (.ref a1)])) ?_
    obtain ⟨M1, hM1, hM1e⟩ : ∃ M1 : Nat, (g28).toInt = (M1 : Int) ∧ M1 = (N1 + 63) / 64 := ⟨_, own_ush6 (own_p63 hN1 (by omega)) hg28, rfl⟩
    show own_Go _ _ _ _ (T27.setTop (mkF m 49 #[.val (.ref a1), .val (.int p1)] [(.int g28), (.ref d1), (.ref a1)]))
    obtain ⟨bh, hbh⟩ : ∃ z, z = h17.size := ⟨_, rfl⟩
    have ne_d1_bh : d1 ≠ bh := Nat.ne_of_lt (Nat.lt_of_lt_of_le f22.lt (Nat.le_of_eq hbh.symm))
    have ne_a1_bh : a1 ≠ bh := Nat.ne_of_lt (Nat.lt_of_lt_of_le f19.lt (Nat.le_of_eq hbh.symm))
    have ne_w1_bh : w1 ≠ bh := Nat.ne_of_lt (Nat.lt_of_lt_of_le f21.lt (Nat.le_of_eq hbh.symm))
    have ne_bw_bh : bw ≠ bh := Nat.ne_of_lt (Nat.lt_of_lt_of_le f25.lt (Nat.le_of_eq hbh.symm))
    have ge_bh : n0 ≤ bh := Nat.le_trans Z17 (Nat.le_of_eq hbh.symm)
    have nw_bh : h0.size ≤ bh := Nat.le_trans f24.1 (Nat.le_of_eq hbh.symm)
    refine own_callS X27 hx hZ hown (hw _ (List.mem_of_getElem? (i := 47) rfl)) (hw _ (List.mem_of_getElem? (i := 48) rfl)) (hw _ (List.mem_of_getElem? (i := 49) rfl)) (hw _ (List.mem_of_getElem? (i := 50) rfl)) (by decide) (rm10h l Z a0 hw [] d1 g28 mm M1 g h17 n0 Z17 f22 f23 hM1 (by omega) (by omega)) e27 (by rw [hml]; rfl) [(.ref d1), (.int g28)] [(.ref a1)] rfl (lenOf own_pd5 rfl) rfl 1 (Nat.le_of_eq rfl) (by decide) (by decide) (Nat.le_of_ble_eq_true rfl) (Nat.le_of_ble_eq_true rfl) (hb hby d4_49) ?_
    intro T29 Lc29 v29 X29 hQ29
    obtain ⟨h29, e29⟩ : ∃ h, T29.heap = h := ⟨_, rfl⟩
    rw [e29] at hQ29
    obtain ⟨rfl, N29q, K29, A29, B29⟩ := hQ29
    have N29 := Fr.app N17 N29q
    have f30 := f19.keep K29
    have f31 := f18.keep K29 nin0
    have f32 := f20.keep K29 nin0
    have f33 := f21.keep K29 nin0
    have f34 := f22.keep K29 nin0
    have f35 := f23.keep K29
    have f36 := f24.trans K29 all0
    have f37 := f25.keep K29 nin0
    have Z29 := Nat.le_trans Z17 K29.1
    rw [← hbh] at A29 B29
    show own_Go _ _ _ _ (T29.setTop (mkF m 52 #[.val (.ref a1), .val (.int p1)] [(.ref h17.size), (.ref a1)]))
    refine own_gen hbh.symm (fun z_ => T29.setTop (mkF m 52 #[.val (.ref a1), .val (.int p1)] [(.ref z_), (.ref a1)])) ?_
    show own_Go _ _ _ _ (T29.setTop (mkF m 52 #[.val (.ref a1), .val (.int p1)] [(.ref bh), (.ref a1)]))
    obtain ⟨T38, h38, X38, e38, W38, st38⟩ := putF X29 hx hZ hown (host := "") (Or.inl (hw _ (List.mem_of_getElem? (i := 13) rfl))) Via.refl e29 f32 f30 (Or.inl (hw _ (List.mem_of_getElem? (i := 14) rfl))) (hw _ (List.mem_of_getElem? (i := 2) rfl)) (ty := (.array .long)) (by decide) rfl rfl (g := (mkF m 52 #[.val (.ref a1), .val (.int p1)] [(.ref bh), (.ref a1)])) rfl rfl (hb hby d4_52)
    refine own_by st38 ?_
    have f39 := f32.same W38
    have f40 := f30.wr W38
    have f41 := f31.other W38 (Or.inr (slot_ne (Or.inl (hw _ (List.mem_of_getElem? (i := 12) rfl))) (Or.inl (hw _ (List.mem_of_getElem? (i := 14) rfl))) (by decide) (t := (.array .long)) (t' := (.array .long)) (by decide) (by decide)))
    have f42 := f33.other W38 (Ne.symm Paw)
    have f43 := f34.other W38 (Ne.symm Pad)
    have f44 := f35.wr W38
    have f45 := f36.wr W38 (Or.inl (List.mem_of_getElem? (i := 0) rfl))
    have f46 := f37.other W38 (Ne.symm ne_a1_bw)
    have f47 := A29.other W38 (Ne.symm ne_a1_bh)
    have f48 := B29.wr W38
    have N38 := Fr.snoc X38 N29 Pa
    have Z38 := own_size_wr W38 Z29
    show own_Go _ _ _ _ (T38.setTop (mkF m 55 #[.val (.ref a1), .val (.int p1)] []))
    exact own_retV X38 hx Bd.notSynchronized e38 Bd.returns (hb hby d4_55) (⟨rfl, N38, f45, bw, bh, N1, M1, _, _, f41, f39, f46, f47, f48, ge_bw, ge_bh, ne_a1_bw, ne_a1_bh, ne_bw_bh, by omega, by omega, hM1e, Or.inr nw_bw, Or.inr nw_bh, by omega, fun y => own_grow f n N1 (by omega) y⟩) (by decide) (by decide)
set_option maxRecDepth 65536 in
set_option maxHeartbeats 40000000 in
theorem rm3 (l : Launch) (Z : State) (a0 : Array Value) (hw : ∀ d ∈ tables_1, d.before a0 Z = true) (ws : List Jvm.Cond) (a1 : Addr) (p1 : Int32) (w1 d1 : Addr) (n mm : Nat) (f g : Nat → Int64) (x1 : Nat) (h0 : Heap) (n0 : Nat) (Z0 : n0 ≤ h0.size) (PE : Exa Z h0 a1 "com/example/sonde/sonde/engine/Bits") (PF : Fld Z h0 a1 "com/example/sonde/sonde/engine/Bits" "words" "[J" (.ref w1)) (PH : Fld Z h0 a1 "com/example/sonde/sonde/engine/Bits" "held" "[J" (.ref d1)) (PA : own_AJ Z h0 w1 n f) (PB : own_AJ Z h0 d1 mm g) (PX : Exa Z h0 d1 "[J") (Pa : n0 ≤ a1) (Pw : n0 ≤ w1) (Pd : n0 ≤ d1) (Paw : a1 ≠ w1) (Pad : a1 ≠ d1) (Pwd : w1 ≠ d1) (Pn1 : 1 ≤ n) (Pn5 : n ≤ 510) (Pm : mm = (n + 63) / 64) (hx1 : p1.toInt = (x1 : Int)) (hx5 : x1 ≤ 16383) :
    MetFree l (⟨"com/example/sonde/sonde/engine/Bits", "set", "(I)V"⟩ : MethodName) (head1 (Jvm.Cond.code (⟨"com/example/sonde/sonde/engine/Bits", "set", "(I)V"⟩ : MethodName) prog_100_method_3_code 3 none :: ws) ({ frames := 3, cells := 2, slots := 518, locals := 94 } : Room)) (fun a U => a = #[(.ref a1), (.int p1)] ∧ Z.Warmed39 U.vm ∧ U.heap = h0) (fun _ _ _ _ _ => True) (fun _ U o U' => ∃ vv LL, o = .returned vv ∧ own_ap (fun v h L => v = none ∧ Fr n0 L ∧ Keep h0 h [a1, w1, d1] ∧ ∃ (w2 d2 : Addr) (n2 m2 : Nat) (f2 g2 : Nat → Int64), Fld Z h a1 "com/example/sonde/sonde/engine/Bits" "words" "[J" (.ref w2) ∧ Fld Z h a1 "com/example/sonde/sonde/engine/Bits" "held" "[J" (.ref d2) ∧ own_AJ Z h w2 n2 f2 ∧ own_AJ Z h d2 m2 g2 ∧ Exa Z h d2 "[J" ∧ n0 ≤ w2 ∧ n0 ≤ d2 ∧ a1 ≠ w2 ∧ a1 ≠ d2 ∧ w2 ≠ d2 ∧ 1 ≤ n2 ∧ n2 ≤ 510 ∧ m2 = (n2 + 63) / 64 ∧ (w2 = w1 ∨ h0.size ≤ w2) ∧ (d2 = d1 ∨ h0.size ≤ d2) ∧ ∀ y, own_has f2 n2 y = (own_has f n y || decide (y = x1))) vv U'.heap LL ∧ FrameEnd U o U' LL 2 518) := by
  refine MetFree.of_bodySF (plainFor_of_name pn_3) hisR ?_
  intro p e s m args below meth c s₁ Bd hml0 hP hK
  obtain ⟨rfl, hZ, hh⟩ := hP
  have hx := Bd.exec
  have hby := Bd.bytes
  have hml : c.maxLocals = 3 := hml0
  have hown : s.vm.findClass "com/example/sonde/sonde/engine/Bits" = some m.cls := findClass_of_methodNamed Bd.named
  have hnm := (name_of_methodNamed Bd.named Bd.method).1
  have X0 : Stand p l e ({ frames := 3, cells := 2, slots := 518, locals := 94 } : Room) s m #[(.ref a1), (.int p1)] below meth c s₁ [] 0 0 := Stand.of_body Bd
  have e0 : s₁.heap = h0 := by rw [← hh, Bd.state]; rfl
  have N0 := Fr.nil n0
  show own_Go p.tables e below (own_Q s (fun v h L => v = none ∧ Fr n0 L ∧ Keep h0 h [a1, w1, d1] ∧ ∃ (w2 d2 : Addr) (n2 m2 : Nat) (f2 g2 : Nat → Int64), Fld Z h a1 "com/example/sonde/sonde/engine/Bits" "words" "[J" (.ref w2) ∧ Fld Z h a1 "com/example/sonde/sonde/engine/Bits" "held" "[J" (.ref d2) ∧ own_AJ Z h w2 n2 f2 ∧ own_AJ Z h d2 m2 g2 ∧ Exa Z h d2 "[J" ∧ n0 ≤ w2 ∧ n0 ≤ d2 ∧ a1 ≠ w2 ∧ a1 ≠ d2 ∧ w2 ≠ d2 ∧ 1 ≤ n2 ∧ n2 ≤ 510 ∧ m2 = (n2 + 63) / 64 ∧ (w2 = w1 ∨ h0.size ≤ w2) ∧ (d2 = d1 ∨ h0.size ≤ d2) ∧ ∀ y, own_has f2 n2 y = (own_has f n y || decide (y = x1))) 2 518) (s₁.setTop (entryFrame m #[(.ref a1), (.int p1)] 3))
  rw [show entryFrame m #[(.ref a1), (.int p1)] 3 = mkF m 0 #[.val (.ref a1), .val (.int p1), .unset] [] from by first | (simp [entryFrame, mkF, argsToLocals, Value.category]; done) | rfl]
  show own_Go _ _ _ _ (s₁.setTop (mkF m 0 #[.val (.ref a1), .val (.int p1), .unset] []))
  refine own_by (fun _ k => XS.iloadN X0.here hx rfl (hb hby d3_0) rfl k) ?_
  show own_Go _ _ _ _ (s₁.setTop (mkF m 1 #[.val (.ref a1), .val (.int p1), .unset] [(.int p1)]))
  refine own_by (fun _ k => XS.bipush X0.here hx rfl (hb hby d3_1) k) ?_
  show own_Go _ _ _ _ (s₁.setTop (mkF m 3 #[.val (.ref a1), .val (.int p1), .unset] [(.int (6 : Int32)), (.int p1)]))
  refine own_by (fun _ k => XS.iushr X0.here hx rfl (hb hby d3_3) rfl k) ?_
  show own_Go _ _ _ _ (s₁.setTop (mkF m 4 #[.val (.ref a1), .val (.int p1), .unset] [(.int ((p1.toUInt32 >>> ((6 : Int32) &&& 31).toUInt32).toInt32))]))
  obtain ⟨v2_1, hv2_1⟩ : ∃ z_ : Int32, ((p1.toUInt32 >>> ((6 : Int32) &&& 31).toUInt32).toInt32) = z_ := ⟨_, rfl⟩
  refine own_gen hv2_1 (fun z_ => s₁.setTop (mkF m 4 #[.val (.ref a1), .val (.int p1), .unset] [(.int z_)])) ?_
  refine own_by (fun _ k => XS.istoreN X0.here hx rfl (hb hby d3_4) rfl (l' := #[.val (.ref a1), .val (.int p1), .val (.int v2_1)]) rfl k) ?_
  have hk2 := own_ush6 hx1 hv2_1
  show own_Go _ _ _ _ (s₁.setTop (mkF m 5 #[.val (.ref a1), .val (.int p1), .val (.int v2_1)] []))
  refine own_by (fun _ k => XS.aloadN X0.here hx rfl (hb hby d3_5) rfl rfl k) ?_
  show own_Go _ _ _ _ (s₁.setTop (mkF m 6 #[.val (.ref a1), .val (.int p1), .val (.int v2_1)] [(.ref a1)]))
  refine own_by (fun _ k => XS.iloadN X0.here hx rfl (hb hby d3_6) rfl k) ?_
  show own_Go _ _ _ _ (s₁.setTop (mkF m 7 #[.val (.ref a1), .val (.int p1), .val (.int v2_1)] [(.int v2_1), (.ref a1)]))
  refine own_callP (y' := (⟨"com/example/sonde/sonde/engine/Bits", "set", "(I)V"⟩ : MethodName)) X0 hx hZ hown (hw _ (List.mem_of_getElem? (i := 20) rfl)) (hw _ (List.mem_of_getElem? (i := 21) rfl)) (hw _ (List.mem_of_getElem? (i := 22) rfl)) rfl (hw _ (List.mem_of_getElem? (i := 18) rfl)) (hw _ (List.mem_of_getElem? (i := 3) rfl)) (hw _ (List.mem_of_getElem? (i := 23) rfl)) (by decide) (rm4 l Z a0 hw [] a1 v2_1 w1 d1 n mm f g (x1 / 64) h0 n0 Z0 PE PF PH PA PB PX Pa Pw Pd Paw Pad Pwd Pn1 Pn5 Pm hk2 (by omega)) e0 a1 PE (by rw [hml]; rfl) [(.int v2_1)] [] rfl (lenOf own_pd1 rfl) rfl 0 (Nat.le_of_eq rfl) (by decide) (by decide) (Nat.le_of_ble_eq_true rfl) (Nat.le_of_ble_eq_true rfl) (hb hby d3_7) ?_
  intro T2 Lc2 v2 X2 hQ2
  obtain ⟨h2, e2⟩ : ∃ h, T2.heap = h := ⟨_, rfl⟩
  rw [e2] at hQ2
  obtain ⟨rfl, N2q, K2, wz2, dz2, nz2, mz2, fz2, gz2, FW2, FH2, AW2, AH2, EH2, gw2, gh2, naw2, nad2, nwd2, hn12, hn52, hm2, ow2, od2, hkn2, hbt2⟩ := hQ2
  have N2 := Fr.app N0 N2q
  have f3 := PE.keep K2
  have f8 := PX.keep K2
  have f9 := (Keep.refl h0 [a1, w1, d1]).trans K2 (allS (P := fun x => x ∈ [a1, w1, d1] ∨ h0.size ≤ x) (Or.inl (List.mem_of_getElem? (i := 0) rfl)) (allS (P := fun x => x ∈ [a1, w1, d1] ∨ h0.size ≤ x) (Or.inl (List.mem_of_getElem? (i := 1) rfl)) (allS (P := fun x => x ∈ [a1, w1, d1] ∨ h0.size ≤ x) (Or.inl (List.mem_of_getElem? (i := 2) rfl)) all0)))
  have Z2 := Nat.le_trans Z0 K2.1
  show own_Go _ _ _ _ (T2.setTop (mkF m 10 #[.val (.ref a1), .val (.int p1), .val (.int v2_1)] []))
  refine own_by (fun _ k => XS.aloadN X2.here hx rfl (hb hby d3_10) rfl rfl k) ?_
  show own_Go _ _ _ _ (T2.setTop (mkF m 11 #[.val (.ref a1), .val (.int p1), .val (.int v2_1)] [(.ref a1)]))
  obtain ⟨T10, X10, e10, st10⟩ := getF X2 hx hZ hown (host := "") (Or.inl (hw _ (List.mem_of_getElem? (i := 11) rfl))) Via.refl e2 FW2 (g := (mkF m 11 #[.val (.ref a1), .val (.int p1), .val (.int v2_1)] [(.ref a1)])) rfl rfl (hb hby d3_11)
  refine own_by st10 ?_
  show own_Go _ _ _ _ (T10.setTop (mkF m 14 #[.val (.ref a1), .val (.int p1), .val (.int v2_1)] [(.ref wz2)]))
  refine own_by (fun _ k => XS.iloadN X10.here hx rfl (hb hby d3_14) rfl k) ?_
  show own_Go _ _ _ _ (T10.setTop (mkF m 15 #[.val (.ref a1), .val (.int p1), .val (.int v2_1)] [(.int v2_1), (.ref wz2)]))
  refine own_by (fun _ k => Jvm.Free.XT.dup2 X10.here hx rfl (hb hby d3_15) rfl rfl rfl k) ?_
  show own_Go _ _ _ _ (T10.setTop (mkF m 16 #[.val (.ref a1), .val (.int p1), .val (.int v2_1)] [(.int v2_1), (.ref wz2), (.int v2_1), (.ref wz2)]))
  refine own_by (fun _ k => own_lal X10 hx hZ e10 AW2 (x1 / 64) hk2 hkn2 (hb hby d3_16) k) ?_
  show own_Go _ _ _ _ (T10.setTop (mkF m 17 #[.val (.ref a1), .val (.int p1), .val (.int v2_1)] [(.long (fz2 (x1 / 64))), (.int v2_1), (.ref wz2)]))
  refine own_by (fun _ k => XS.lconst X10.here hx rfl (hb hby d3_17) k) ?_
  show own_Go _ _ _ _ (T10.setTop (mkF m 18 #[.val (.ref a1), .val (.int p1), .val (.int v2_1)] [(.long (1 : Int64)), (.long (fz2 (x1 / 64))), (.int v2_1), (.ref wz2)]))
  refine own_by (fun _ k => XS.iloadN X10.here hx rfl (hb hby d3_18) rfl k) ?_
  show own_Go _ _ _ _ (T10.setTop (mkF m 19 #[.val (.ref a1), .val (.int p1), .val (.int v2_1)] [(.int p1), (.long (1 : Int64)), (.long (fz2 (x1 / 64))), (.int v2_1), (.ref wz2)]))
  refine own_by (fun _ k => XS.lshl X10.here hx rfl (hb hby d3_19) rfl k) ?_
  show own_Go _ _ _ _ (T10.setTop (mkF m 20 #[.val (.ref a1), .val (.int p1), .val (.int v2_1)] [(.long ((1 : Int64) <<< (p1 &&& 0x3f).toInt64)), (.long (fz2 (x1 / 64))), (.int v2_1), (.ref wz2)]))
  refine own_by (fun _ k => XS.lor X10.here hx rfl (hb hby d3_20) rfl k) ?_
  show own_Go _ _ _ _ (T10.setTop (mkF m 21 #[.val (.ref a1), .val (.int p1), .val (.int v2_1)] [(.long ((fz2 (x1 / 64)) ||| ((1 : Int64) <<< (p1 &&& 0x3f).toInt64))), (.int v2_1), (.ref wz2)]))
  refine own_las X10 hx hZ e10 AW2 (x1 / 64) hk2 hkn2 (hb hby d3_21) ?_
  intro T11 h11 X11 e11 W11 A11
  have f12 := f3.wr W11
  have f13 := f8.wr W11
  have f14 := f9.wr W11 (ow2.elim (fun q => Or.inl (by rw [q]; exact List.mem_of_getElem? (i := 1) rfl)) Or.inr)
  have f15 := FW2.other W11 (Or.inl naw2)
  have f16 := FH2.other W11 (Or.inl naw2)
  have f17 := AH2.other W11 (Ne.symm nwd2)
  have f18 := EH2.wr W11
  have N11 := Fr.snoc X11 N2 gw2
  have Z11 := own_size_wr W11 Z2
  obtain ⟨fn11, hfn11⟩ : ∃ gf_ : Nat → Int64, gf_ = own_upd fz2 (x1 / 64) ((fz2 (x1 / 64)) ||| ((1 : Int64) <<< (p1 &&& 0x3f).toInt64)) := ⟨_, rfl⟩
  rw [← hfn11] at A11
  show own_Go _ _ _ _ (T11.setTop (mkF m 22 #[.val (.ref a1), .val (.int p1), .val (.int v2_1)] []))
  refine own_by (fun _ k => XS.aloadN X11.here hx rfl (hb hby d3_22) rfl rfl k) ?_
  show own_Go _ _ _ _ (T11.setTop (mkF m 23 #[.val (.ref a1), .val (.int p1), .val (.int v2_1)] [(.ref a1)]))
  obtain ⟨T19, X19, e19, st19⟩ := getF X11 hx hZ hown (host := "") (Or.inl (hw _ (List.mem_of_getElem? (i := 13) rfl))) Via.refl e11 f16 (g := (mkF m 23 #[.val (.ref a1), .val (.int p1), .val (.int v2_1)] [(.ref a1)])) rfl rfl (hb hby d3_23)
  refine own_by st19 ?_
  show own_Go _ _ _ _ (T19.setTop (mkF m 26 #[.val (.ref a1), .val (.int p1), .val (.int v2_1)] [(.ref dz2)]))
  refine own_by (fun _ k => XS.iloadN X19.here hx rfl (hb hby d3_26) rfl k) ?_
  show own_Go _ _ _ _ (T19.setTop (mkF m 27 #[.val (.ref a1), .val (.int p1), .val (.int v2_1)] [(.int v2_1), (.ref dz2)]))
  refine own_by (fun _ k => XS.bipush X19.here hx rfl (hb hby d3_27) k) ?_
  show own_Go _ _ _ _ (T19.setTop (mkF m 29 #[.val (.ref a1), .val (.int p1), .val (.int v2_1)] [(.int (6 : Int32)), (.int v2_1), (.ref dz2)]))
  refine own_by (fun _ k => XS.iushr X19.here hx rfl (hb hby d3_29) rfl k) ?_
  show own_Go _ _ _ _ (T19.setTop (mkF m 30 #[.val (.ref a1), .val (.int p1), .val (.int v2_1)] [(.int ((v2_1.toUInt32 >>> ((6 : Int32) &&& 31).toUInt32).toInt32)), (.ref dz2)]))
  refine own_by (fun _ k => Jvm.Free.XT.dup2 X19.here hx rfl (hb hby d3_30) rfl rfl rfl k) ?_
  show own_Go _ _ _ _ (T19.setTop (mkF m 31 #[.val (.ref a1), .val (.int p1), .val (.int v2_1)] [(.int ((v2_1.toUInt32 >>> ((6 : Int32) &&& 31).toUInt32).toInt32)), (.ref dz2), (.int ((v2_1.toUInt32 >>> ((6 : Int32) &&& 31).toUInt32).toInt32)), (.ref dz2)]))
  refine own_by (fun _ k => own_lal X19 hx hZ e19 f17 (x1 / 64 / 64) (own_ush6 hk2 rfl) (by rw [hm2]; have := hkn2; omega) (hb hby d3_31) k) ?_
  show own_Go _ _ _ _ (T19.setTop (mkF m 32 #[.val (.ref a1), .val (.int p1), .val (.int v2_1)] [(.long (gz2 (x1 / 64 / 64))), (.int ((v2_1.toUInt32 >>> ((6 : Int32) &&& 31).toUInt32).toInt32)), (.ref dz2)]))
  refine own_by (fun _ k => XS.lconst X19.here hx rfl (hb hby d3_32) k) ?_
  show own_Go _ _ _ _ (T19.setTop (mkF m 33 #[.val (.ref a1), .val (.int p1), .val (.int v2_1)] [(.long (1 : Int64)), (.long (gz2 (x1 / 64 / 64))), (.int ((v2_1.toUInt32 >>> ((6 : Int32) &&& 31).toUInt32).toInt32)), (.ref dz2)]))
  refine own_by (fun _ k => XS.iloadN X19.here hx rfl (hb hby d3_33) rfl k) ?_
  show own_Go _ _ _ _ (T19.setTop (mkF m 34 #[.val (.ref a1), .val (.int p1), .val (.int v2_1)] [(.int v2_1), (.long (1 : Int64)), (.long (gz2 (x1 / 64 / 64))), (.int ((v2_1.toUInt32 >>> ((6 : Int32) &&& 31).toUInt32).toInt32)), (.ref dz2)]))
  refine own_by (fun _ k => XS.lshl X19.here hx rfl (hb hby d3_34) rfl k) ?_
  show own_Go _ _ _ _ (T19.setTop (mkF m 35 #[.val (.ref a1), .val (.int p1), .val (.int v2_1)] [(.long ((1 : Int64) <<< (v2_1 &&& 0x3f).toInt64)), (.long (gz2 (x1 / 64 / 64))), (.int ((v2_1.toUInt32 >>> ((6 : Int32) &&& 31).toUInt32).toInt32)), (.ref dz2)]))
  refine own_by (fun _ k => XS.lor X19.here hx rfl (hb hby d3_35) rfl k) ?_
  show own_Go _ _ _ _ (T19.setTop (mkF m 36 #[.val (.ref a1), .val (.int p1), .val (.int v2_1)] [(.long ((gz2 (x1 / 64 / 64)) ||| ((1 : Int64) <<< (v2_1 &&& 0x3f).toInt64))), (.int ((v2_1.toUInt32 >>> ((6 : Int32) &&& 31).toUInt32).toInt32)), (.ref dz2)]))
  refine own_las X19 hx hZ e19 f17 (x1 / 64 / 64) (own_ush6 hk2 rfl) (by rw [hm2]; have := hkn2; omega) (hb hby d3_36) ?_
  intro T20 h20 X20 e20 W20 A20
  have f21 := f12.wr W20
  have f22 := f13.wr W20
  have f23 := f14.wr W20 (od2.elim (fun q => Or.inl (by rw [q]; exact List.mem_of_getElem? (i := 2) rfl)) Or.inr)
  have f24 := f15.other W20 (Or.inl nad2)
  have f25 := f16.other W20 (Or.inl nad2)
  have f26 := A11.other W20 nwd2
  have f27 := f18.wr W20
  have N20 := Fr.snoc X20 N11 gh2
  have Z20 := own_size_wr W20 Z11
  obtain ⟨fn20, hfn20⟩ : ∃ gf_ : Nat → Int64, gf_ = own_upd gz2 (x1 / 64 / 64) ((gz2 (x1 / 64 / 64)) ||| ((1 : Int64) <<< (v2_1 &&& 0x3f).toInt64)) := ⟨_, rfl⟩
  rw [← hfn20] at A20
  show own_Go _ _ _ _ (T20.setTop (mkF m 37 #[.val (.ref a1), .val (.int p1), .val (.int v2_1)] []))
  exact own_retV X20 hx Bd.notSynchronized e20 Bd.returns (hb hby d3_37) (⟨rfl, N20, f23, wz2, dz2, nz2, mz2, _, _, f24, f25, f26, A20, f27, gw2, gh2, naw2, nad2, nwd2, hn12, hn52, hm2, ow2, od2, fun y => by rw [hfn11, own_set fz2 nz2 p1 x1 hx1 hkn2, hbt2]⟩) (by decide) (by decide)
set_option maxRecDepth 65536 in
set_option maxHeartbeats 40000000 in
theorem rm8 (l : Launch) (Z : State) (a0 : Array Value) (hw : ∀ d ∈ tables_1, d.before a0 Z = true) (ws : List Jvm.Cond) (a1 : Addr) (p1 : Int32) (w1 d1 : Addr) (n mm : Nat) (f g : Nat → Int64) (k1 : Nat) (h0 : Heap) (n0 : Nat) (Z0 : n0 ≤ h0.size) (PE : Exa Z h0 a1 "com/example/sonde/sonde/engine/Bits") (PF : Fld Z h0 a1 "com/example/sonde/sonde/engine/Bits" "words" "[J" (.ref w1)) (PH : Fld Z h0 a1 "com/example/sonde/sonde/engine/Bits" "held" "[J" (.ref d1)) (PA : own_AJ Z h0 w1 n f) (PB : own_AJ Z h0 d1 mm g) (PX : Exa Z h0 d1 "[J") (Pa : n0 ≤ a1) (Pw : n0 ≤ w1) (Pd : n0 ≤ d1) (Paw : a1 ≠ w1) (Pad : a1 ≠ d1) (Pwd : w1 ≠ d1) (Pn1 : 1 ≤ n) (Pn5 : n ≤ 510) (Pm : mm = (n + 63) / 64) (hk : p1.toInt = (k1 : Int)) (hkn : k1 < n) :
    MetFree l (⟨"com/example/sonde/sonde/engine/Bits", "note", "(I)V"⟩ : MethodName) (head1 (Jvm.Cond.code (⟨"com/example/sonde/sonde/engine/Bits", "note", "(I)V"⟩ : MethodName) prog_100_method_14_code 2 none :: ws) ({ frames := 0, cells := 0, slots := 0, locals := 0 } : Room)) (fun a U => a = #[(.ref a1), (.int p1)] ∧ Z.Warmed39 U.vm ∧ U.heap = h0) (fun _ _ _ _ _ => True) (fun _ U o U' => ∃ vv LL, o = .returned vv ∧ own_ap (fun v h L => v = none ∧ Fr n0 L ∧ Keep h0 h [d1] ∧ ∃ g2 : Nat → Int64, own_AJ Z h d1 mm g2) vv U'.heap LL ∧ FrameEnd U o U' LL 0 0) := by
  refine MetFree.of_bodySF (plainFor_of_name pn_8) hisR ?_
  intro p e s m args below meth c s₁ Bd hml0 hP hK
  obtain ⟨rfl, hZ, hh⟩ := hP
  have hx := Bd.exec
  have hby := Bd.bytes
  have hml : c.maxLocals = 2 := hml0
  have hown : s.vm.findClass "com/example/sonde/sonde/engine/Bits" = some m.cls := findClass_of_methodNamed Bd.named
  have hnm := (name_of_methodNamed Bd.named Bd.method).1
  have X0 : Stand p l e ({ frames := 0, cells := 0, slots := 0, locals := 0 } : Room) s m #[(.ref a1), (.int p1)] below meth c s₁ [] 0 0 := Stand.of_body Bd
  have e0 : s₁.heap = h0 := by rw [← hh, Bd.state]; rfl
  have N0 := Fr.nil n0
  show own_Go p.tables e below (own_Q s (fun v h L => v = none ∧ Fr n0 L ∧ Keep h0 h [d1] ∧ ∃ g2 : Nat → Int64, own_AJ Z h d1 mm g2) 0 0) (s₁.setTop (entryFrame m #[(.ref a1), (.int p1)] 2))
  rw [show entryFrame m #[(.ref a1), (.int p1)] 2 = mkF m 0 #[.val (.ref a1), .val (.int p1)] [] from by first | (simp [entryFrame, mkF, argsToLocals, Value.category]; done) | rfl]
  show own_Go _ _ _ _ (s₁.setTop (mkF m 0 #[.val (.ref a1), .val (.int p1)] []))
  refine own_by (fun _ k => XS.aloadN X0.here hx rfl (hb hby d8_0) rfl rfl k) ?_
  show own_Go _ _ _ _ (s₁.setTop (mkF m 1 #[.val (.ref a1), .val (.int p1)] [(.ref a1)]))
  obtain ⟨T1, X1, e1, st1⟩ := getF X0 hx hZ hown (host := "") (Or.inl (hw _ (List.mem_of_getElem? (i := 11) rfl))) Via.refl e0 PF (g := (mkF m 1 #[.val (.ref a1), .val (.int p1)] [(.ref a1)])) rfl rfl (hb hby d8_1)
  refine own_by st1 ?_
  show own_Go _ _ _ _ (T1.setTop (mkF m 4 #[.val (.ref a1), .val (.int p1)] [(.ref w1)]))
  refine own_by (fun _ k => XS.iloadN X1.here hx rfl (hb hby d8_4) rfl k) ?_
  show own_Go _ _ _ _ (T1.setTop (mkF m 5 #[.val (.ref a1), .val (.int p1)] [(.int p1), (.ref w1)]))
  refine own_by (fun _ k => own_lal X1 hx hZ e1 PA k1 hk hkn (hb hby d8_5) k) ?_
  show own_Go _ _ _ _ (T1.setTop (mkF m 6 #[.val (.ref a1), .val (.int p1)] [(.long (f k1))]))
  refine own_by (fun _ k => XS.lconst X1.here hx rfl (hb hby d8_6) k) ?_
  show own_Go _ _ _ _ (T1.setTop (mkF m 7 #[.val (.ref a1), .val (.int p1)] [(.long (0 : Int64)), (.long (f k1))]))
  refine own_by (fun _ k => XS.lcmp X1.here hx rfl (hb hby d8_7) rfl k) ?_
  show own_Go _ _ _ _ (T1.setTop (mkF m 8 #[.val (.ref a1), .val (.int p1)] [(.int (lcmpW (f k1) (0 : Int64)))]))
  by_cases hc2 : (f k1) = (0 : Int64)
  · --
    refine own_by (fun _ k => XS.ifNo X1.here hx rfl (hb hby d8_8) rfl ((if0 _ _).trans (teq ((lw_eq _ _).mpr hc2)).2) k) ?_
    show own_Go _ _ _ _ (T1.setTop (mkF m 11 #[.val (.ref a1), .val (.int p1)] []))
    refine own_by (fun _ k => XS.aloadN X1.here hx rfl (hb hby d8_11) rfl rfl k) ?_
    show own_Go _ _ _ _ (T1.setTop (mkF m 12 #[.val (.ref a1), .val (.int p1)] [(.ref a1)]))
    obtain ⟨T3, X3, e3, st3⟩ := getF X1 hx hZ hown (host := "") (Or.inl (hw _ (List.mem_of_getElem? (i := 13) rfl))) Via.refl e1 PH (g := (mkF m 12 #[.val (.ref a1), .val (.int p1)] [(.ref a1)])) rfl rfl (hb hby d8_12)
    refine own_by st3 ?_
    show own_Go _ _ _ _ (T3.setTop (mkF m 15 #[.val (.ref a1), .val (.int p1)] [(.ref d1)]))
    refine own_by (fun _ k => XS.iloadN X3.here hx rfl (hb hby d8_15) rfl k) ?_
    show own_Go _ _ _ _ (T3.setTop (mkF m 16 #[.val (.ref a1), .val (.int p1)] [(.int p1), (.ref d1)]))
    refine own_by (fun _ k => XS.bipush X3.here hx rfl (hb hby d8_16) k) ?_
    show own_Go _ _ _ _ (T3.setTop (mkF m 18 #[.val (.ref a1), .val (.int p1)] [(.int (6 : Int32)), (.int p1), (.ref d1)]))
    refine own_by (fun _ k => XS.iushr X3.here hx rfl (hb hby d8_18) rfl k) ?_
    show own_Go _ _ _ _ (T3.setTop (mkF m 19 #[.val (.ref a1), .val (.int p1)] [(.int ((p1.toUInt32 >>> ((6 : Int32) &&& 31).toUInt32).toInt32)), (.ref d1)]))
    refine own_by (fun _ k => Jvm.Free.XT.dup2 X3.here hx rfl (hb hby d8_19) rfl rfl rfl k) ?_
    show own_Go _ _ _ _ (T3.setTop (mkF m 20 #[.val (.ref a1), .val (.int p1)] [(.int ((p1.toUInt32 >>> ((6 : Int32) &&& 31).toUInt32).toInt32)), (.ref d1), (.int ((p1.toUInt32 >>> ((6 : Int32) &&& 31).toUInt32).toInt32)), (.ref d1)]))
    refine own_by (fun _ k => own_lal X3 hx hZ e3 PB (k1 / 64) (own_ush6 hk rfl) (by rw [Pm]; omega) (hb hby d8_20) k) ?_
    show own_Go _ _ _ _ (T3.setTop (mkF m 21 #[.val (.ref a1), .val (.int p1)] [(.long (g (k1 / 64))), (.int ((p1.toUInt32 >>> ((6 : Int32) &&& 31).toUInt32).toInt32)), (.ref d1)]))
    refine own_by (fun _ k => XS.lconst X3.here hx rfl (hb hby d8_21) k) ?_
    show own_Go _ _ _ _ (T3.setTop (mkF m 22 #[.val (.ref a1), .val (.int p1)] [(.long (1 : Int64)), (.long (g (k1 / 64))), (.int ((p1.toUInt32 >>> ((6 : Int32) &&& 31).toUInt32).toInt32)), (.ref d1)]))
    refine own_by (fun _ k => XS.iloadN X3.here hx rfl (hb hby d8_22) rfl k) ?_
    show own_Go _ _ _ _ (T3.setTop (mkF m 23 #[.val (.ref a1), .val (.int p1)] [(.int p1), (.long (1 : Int64)), (.long (g (k1 / 64))), (.int ((p1.toUInt32 >>> ((6 : Int32) &&& 31).toUInt32).toInt32)), (.ref d1)]))
    refine own_by (fun _ k => XS.lshl X3.here hx rfl (hb hby d8_23) rfl k) ?_
    show own_Go _ _ _ _ (T3.setTop (mkF m 24 #[.val (.ref a1), .val (.int p1)] [(.long ((1 : Int64) <<< (p1 &&& 0x3f).toInt64)), (.long (g (k1 / 64))), (.int ((p1.toUInt32 >>> ((6 : Int32) &&& 31).toUInt32).toInt32)), (.ref d1)]))
    refine own_by (fun _ k => X3.ldc2Long hx hown (mvT hZ (hw _ (List.mem_of_getElem? (i := 38) rfl))) (g := (mkF m 24 #[.val (.ref a1), .val (.int p1)] [(.long ((1 : Int64) <<< (p1 &&& 0x3f).toInt64)), (.long (g (k1 / 64))), (.int ((p1.toUInt32 >>> ((6 : Int32) &&& 31).toUInt32).toInt32)), (.ref d1)])) rfl (hb hby d8_24) _ k) ?_
    show own_Go _ _ _ _ (T3.setTop (mkF m 27 #[.val (.ref a1), .val (.int p1)] [(.long (-1 : Int64)), (.long ((1 : Int64) <<< (p1 &&& 0x3f).toInt64)), (.long (g (k1 / 64))), (.int ((p1.toUInt32 >>> ((6 : Int32) &&& 31).toUInt32).toInt32)), (.ref d1)]))
    refine own_by (fun _ k => XS.lxor X3.here hx rfl (hb hby d8_27) rfl k) ?_
    show own_Go _ _ _ _ (T3.setTop (mkF m 28 #[.val (.ref a1), .val (.int p1)] [(.long (((1 : Int64) <<< (p1 &&& 0x3f).toInt64) ^^^ (-1 : Int64))), (.long (g (k1 / 64))), (.int ((p1.toUInt32 >>> ((6 : Int32) &&& 31).toUInt32).toInt32)), (.ref d1)]))
    refine own_by (fun _ k => XS.land X3.here hx rfl (hb hby d8_28) rfl k) ?_
    show own_Go _ _ _ _ (T3.setTop (mkF m 29 #[.val (.ref a1), .val (.int p1)] [(.long ((g (k1 / 64)) &&& (((1 : Int64) <<< (p1 &&& 0x3f).toInt64) ^^^ (-1 : Int64)))), (.int ((p1.toUInt32 >>> ((6 : Int32) &&& 31).toUInt32).toInt32)), (.ref d1)]))
    refine own_las X3 hx hZ e3 PB (k1 / 64) (own_ush6 hk rfl) (by rw [Pm]; omega) (hb hby d8_29) ?_
    intro T4 h4 X4 e4 W4 A4
    have f5 := PE.wr W4
    have f6 := PF.other W4 (Or.inl Pad)
    have f7 := PH.other W4 (Or.inl Pad)
    have f8 := PA.other W4 Pwd
    have f9 := PX.wr W4
    have f10 := (Keep.refl h0 [d1]).wr W4 (Or.inl (List.mem_of_getElem? (i := 0) rfl))
    have N4 := Fr.snoc X4 N0 Pd
    have Z4 := own_size_wr W4 Z0
    obtain ⟨fn4, hfn4⟩ : ∃ gf_ : Nat → Int64, gf_ = own_upd g (k1 / 64) ((g (k1 / 64)) &&& (((1 : Int64) <<< (p1 &&& 0x3f).toInt64) ^^^ (-1 : Int64))) := ⟨_, rfl⟩
    rw [← hfn4] at A4
    show own_Go _ _ _ _ (T4.setTop (mkF m 30 #[.val (.ref a1), .val (.int p1)] []))
    refine own_by (fun _ k => XS.goto X4.here hx rfl (pc0 := 30) (pc' := 48) rfl (hb hby d8_30) (by decide) (by decide) k) ?_
    show own_Go _ _ _ _ (T4.setTop (mkF m 48 #[.val (.ref a1), .val (.int p1)] []))
    exact own_retV X4 hx Bd.notSynchronized e4 Bd.returns (hb hby d8_48) (⟨rfl, N4, f10, _, A4⟩) (by decide) (by decide)
  · --
    refine own_by (fun _ k => XS.ifYes X1.here hx rfl (pc0 := 8) (pc' := 33) rfl (hb hby d8_8) rfl ((if0 _ _).trans (feq (mt (lw_eq _ _).mp hc2)).2) (by decide) (by decide) k) ?_
    show own_Go _ _ _ _ (T1.setTop (mkF m 33 #[.val (.ref a1), .val (.int p1)] []))
    refine own_by (fun _ k => XS.aloadN X1.here hx rfl (hb hby d8_33) rfl rfl k) ?_
    show own_Go _ _ _ _ (T1.setTop (mkF m 34 #[.val (.ref a1), .val (.int p1)] [(.ref a1)]))
    obtain ⟨T11, X11, e11, st11⟩ := getF X1 hx hZ hown (host := "") (Or.inl (hw _ (List.mem_of_getElem? (i := 13) rfl))) Via.refl e1 PH (g := (mkF m 34 #[.val (.ref a1), .val (.int p1)] [(.ref a1)])) rfl rfl (hb hby d8_34)
    refine own_by st11 ?_
    show own_Go _ _ _ _ (T11.setTop (mkF m 37 #[.val (.ref a1), .val (.int p1)] [(.ref d1)]))
    refine own_by (fun _ k => XS.iloadN X11.here hx rfl (hb hby d8_37) rfl k) ?_
    show own_Go _ _ _ _ (T11.setTop (mkF m 38 #[.val (.ref a1), .val (.int p1)] [(.int p1), (.ref d1)]))
    refine own_by (fun _ k => XS.bipush X11.here hx rfl (hb hby d8_38) k) ?_
    show own_Go _ _ _ _ (T11.setTop (mkF m 40 #[.val (.ref a1), .val (.int p1)] [(.int (6 : Int32)), (.int p1), (.ref d1)]))
    refine own_by (fun _ k => XS.iushr X11.here hx rfl (hb hby d8_40) rfl k) ?_
    show own_Go _ _ _ _ (T11.setTop (mkF m 41 #[.val (.ref a1), .val (.int p1)] [(.int ((p1.toUInt32 >>> ((6 : Int32) &&& 31).toUInt32).toInt32)), (.ref d1)]))
    refine own_by (fun _ k => Jvm.Free.XT.dup2 X11.here hx rfl (hb hby d8_41) rfl rfl rfl k) ?_
    show own_Go _ _ _ _ (T11.setTop (mkF m 42 #[.val (.ref a1), .val (.int p1)] [(.int ((p1.toUInt32 >>> ((6 : Int32) &&& 31).toUInt32).toInt32)), (.ref d1), (.int ((p1.toUInt32 >>> ((6 : Int32) &&& 31).toUInt32).toInt32)), (.ref d1)]))
    refine own_by (fun _ k => own_lal X11 hx hZ e11 PB (k1 / 64) (own_ush6 hk rfl) (by rw [Pm]; omega) (hb hby d8_42) k) ?_
    show own_Go _ _ _ _ (T11.setTop (mkF m 43 #[.val (.ref a1), .val (.int p1)] [(.long (g (k1 / 64))), (.int ((p1.toUInt32 >>> ((6 : Int32) &&& 31).toUInt32).toInt32)), (.ref d1)]))
    refine own_by (fun _ k => XS.lconst X11.here hx rfl (hb hby d8_43) k) ?_
    show own_Go _ _ _ _ (T11.setTop (mkF m 44 #[.val (.ref a1), .val (.int p1)] [(.long (1 : Int64)), (.long (g (k1 / 64))), (.int ((p1.toUInt32 >>> ((6 : Int32) &&& 31).toUInt32).toInt32)), (.ref d1)]))
    refine own_by (fun _ k => XS.iloadN X11.here hx rfl (hb hby d8_44) rfl k) ?_
    show own_Go _ _ _ _ (T11.setTop (mkF m 45 #[.val (.ref a1), .val (.int p1)] [(.int p1), (.long (1 : Int64)), (.long (g (k1 / 64))), (.int ((p1.toUInt32 >>> ((6 : Int32) &&& 31).toUInt32).toInt32)), (.ref d1)]))
    refine own_by (fun _ k => XS.lshl X11.here hx rfl (hb hby d8_45) rfl k) ?_
    show own_Go _ _ _ _ (T11.setTop (mkF m 46 #[.val (.ref a1), .val (.int p1)] [(.long ((1 : Int64) <<< (p1 &&& 0x3f).toInt64)), (.long (g (k1 / 64))), (.int ((p1.toUInt32 >>> ((6 : Int32) &&& 31).toUInt32).toInt32)), (.ref d1)]))
    refine own_by (fun _ k => XS.lor X11.here hx rfl (hb hby d8_46) rfl k) ?_
    show own_Go _ _ _ _ (T11.setTop (mkF m 47 #[.val (.ref a1), .val (.int p1)] [(.long ((g (k1 / 64)) ||| ((1 : Int64) <<< (p1 &&& 0x3f).toInt64))), (.int ((p1.toUInt32 >>> ((6 : Int32) &&& 31).toUInt32).toInt32)), (.ref d1)]))
    refine own_las X11 hx hZ e11 PB (k1 / 64) (own_ush6 hk rfl) (by rw [Pm]; omega) (hb hby d8_47) ?_
    intro T12 h12 X12 e12 W12 A12
    have f13 := PE.wr W12
    have f14 := PF.other W12 (Or.inl Pad)
    have f15 := PH.other W12 (Or.inl Pad)
    have f16 := PA.other W12 Pwd
    have f17 := PX.wr W12
    have f18 := (Keep.refl h0 [d1]).wr W12 (Or.inl (List.mem_of_getElem? (i := 0) rfl))
    have N12 := Fr.snoc X12 N0 Pd
    have Z12 := own_size_wr W12 Z0
    obtain ⟨fn12, hfn12⟩ : ∃ gf_ : Nat → Int64, gf_ = own_upd g (k1 / 64) ((g (k1 / 64)) ||| ((1 : Int64) <<< (p1 &&& 0x3f).toInt64)) := ⟨_, rfl⟩
    rw [← hfn12] at A12
    show own_Go _ _ _ _ (T12.setTop (mkF m 48 #[.val (.ref a1), .val (.int p1)] []))
    exact own_retV X12 hx Bd.notSynchronized e12 Bd.returns (hb hby d8_48) (⟨rfl, N12, f18, _, A12⟩) (by decide) (by decide)
set_option maxRecDepth 65536 in
set_option maxHeartbeats 40000000 in
theorem rm7 (l : Launch) (Z : State) (a0 : Array Value) (hw : ∀ d ∈ tables_1, d.before a0 Z = true) (ws : List Jvm.Cond) (a1 : Addr) (p1 : Int32) (w1 d1 : Addr) (n mm : Nat) (f g : Nat → Int64) (x1 : Nat) (h0 : Heap) (n0 : Nat) (Z0 : n0 ≤ h0.size) (PE : Exa Z h0 a1 "com/example/sonde/sonde/engine/Bits") (PF : Fld Z h0 a1 "com/example/sonde/sonde/engine/Bits" "words" "[J" (.ref w1)) (PH : Fld Z h0 a1 "com/example/sonde/sonde/engine/Bits" "held" "[J" (.ref d1)) (PA : own_AJ Z h0 w1 n f) (PB : own_AJ Z h0 d1 mm g) (PX : Exa Z h0 d1 "[J") (Pa : n0 ≤ a1) (Pw : n0 ≤ w1) (Pd : n0 ≤ d1) (Paw : a1 ≠ w1) (Pad : a1 ≠ d1) (Pwd : w1 ≠ d1) (Pn1 : 1 ≤ n) (Pn5 : n ≤ 510) (Pm : mm = (n + 63) / 64) (hx1 : p1.toInt = (x1 : Int)) :
    MetFree l (⟨"com/example/sonde/sonde/engine/Bits", "clear", "(I)V"⟩ : MethodName) (head1 (Jvm.Cond.code (⟨"com/example/sonde/sonde/engine/Bits", "clear", "(I)V"⟩ : MethodName) prog_100_method_4_code 3 none :: ws) ({ frames := 1, cells := 0, slots := 0, locals := 13 } : Room)) (fun a U => a = #[(.ref a1), (.int p1)] ∧ Z.Warmed39 U.vm ∧ U.heap = h0) (fun _ _ _ _ _ => True) (fun _ U o U' => ∃ vv LL, o = .returned vv ∧ own_ap (fun v h L => v = none ∧ Fr n0 L ∧ Keep h0 h [w1, d1] ∧ ∃ f2 g2 : Nat → Int64, own_AJ Z h w1 n f2 ∧ own_AJ Z h d1 mm g2 ∧ ∀ y, own_has f2 n y = (own_has f n y && !decide (y = x1))) vv U'.heap LL ∧ FrameEnd U o U' LL 0 0) := by
  refine MetFree.of_bodySF (plainFor_of_name pn_7) hisR ?_
  intro p e s m args below meth c s₁ Bd hml0 hP hK
  obtain ⟨rfl, hZ, hh⟩ := hP
  have hx := Bd.exec
  have hby := Bd.bytes
  have hml : c.maxLocals = 3 := hml0
  have hown : s.vm.findClass "com/example/sonde/sonde/engine/Bits" = some m.cls := findClass_of_methodNamed Bd.named
  have hnm := (name_of_methodNamed Bd.named Bd.method).1
  have X0 : Stand p l e ({ frames := 1, cells := 0, slots := 0, locals := 13 } : Room) s m #[(.ref a1), (.int p1)] below meth c s₁ [] 0 0 := Stand.of_body Bd
  have e0 : s₁.heap = h0 := by rw [← hh, Bd.state]; rfl
  have N0 := Fr.nil n0
  show own_Go p.tables e below (own_Q s (fun v h L => v = none ∧ Fr n0 L ∧ Keep h0 h [w1, d1] ∧ ∃ f2 g2 : Nat → Int64, own_AJ Z h w1 n f2 ∧ own_AJ Z h d1 mm g2 ∧ ∀ y, own_has f2 n y = (own_has f n y && !decide (y = x1))) 0 0) (s₁.setTop (entryFrame m #[(.ref a1), (.int p1)] 3))
  rw [show entryFrame m #[(.ref a1), (.int p1)] 3 = mkF m 0 #[.val (.ref a1), .val (.int p1), .unset] [] from by first | (simp [entryFrame, mkF, argsToLocals, Value.category]; done) | rfl]
  obtain ⟨zn, hznE, hzn⟩ : ∃ z : Int32, z = n.toInt32 ∧ z.toInt = (n : Int) := ⟨n.toInt32, rfl, own_ofN (by omega)⟩
  show own_Go _ _ _ _ (s₁.setTop (mkF m 0 #[.val (.ref a1), .val (.int p1), .unset] []))
  refine own_by (fun _ k => XS.iloadN X0.here hx rfl (hb hby d7_0) rfl k) ?_
  show own_Go _ _ _ _ (s₁.setTop (mkF m 1 #[.val (.ref a1), .val (.int p1), .unset] [(.int p1)]))
  refine own_by (fun _ k => XS.bipush X0.here hx rfl (hb hby d7_1) k) ?_
  show own_Go _ _ _ _ (s₁.setTop (mkF m 3 #[.val (.ref a1), .val (.int p1), .unset] [(.int (6 : Int32)), (.int p1)]))
  refine own_by (fun _ k => XS.iushr X0.here hx rfl (hb hby d7_3) rfl k) ?_
  show own_Go _ _ _ _ (s₁.setTop (mkF m 4 #[.val (.ref a1), .val (.int p1), .unset] [(.int ((p1.toUInt32 >>> ((6 : Int32) &&& 31).toUInt32).toInt32))]))
  obtain ⟨v2_1, hv2_1⟩ : ∃ z_ : Int32, ((p1.toUInt32 >>> ((6 : Int32) &&& 31).toUInt32).toInt32) = z_ := ⟨_, rfl⟩
  refine own_gen hv2_1 (fun z_ => s₁.setTop (mkF m 4 #[.val (.ref a1), .val (.int p1), .unset] [(.int z_)])) ?_
  refine own_by (fun _ k => XS.istoreN X0.here hx rfl (hb hby d7_4) rfl (l' := #[.val (.ref a1), .val (.int p1), .val (.int v2_1)]) rfl k) ?_
  have hk2 := own_ush6 hx1 hv2_1
  show own_Go _ _ _ _ (s₁.setTop (mkF m 5 #[.val (.ref a1), .val (.int p1), .val (.int v2_1)] []))
  refine own_by (fun _ k => XS.iloadN X0.here hx rfl (hb hby d7_5) rfl k) ?_
  show own_Go _ _ _ _ (s₁.setTop (mkF m 6 #[.val (.ref a1), .val (.int p1), .val (.int v2_1)] [(.int v2_1)]))
  refine own_by (fun _ k => XS.aloadN X0.here hx rfl (hb hby d7_6) rfl rfl k) ?_
  show own_Go _ _ _ _ (s₁.setTop (mkF m 7 #[.val (.ref a1), .val (.int p1), .val (.int v2_1)] [(.ref a1), (.int v2_1)]))
  obtain ⟨T2, X2, e2, st2⟩ := getF X0 hx hZ hown (host := "") (Or.inl (hw _ (List.mem_of_getElem? (i := 11) rfl))) Via.refl e0 PF (g := (mkF m 7 #[.val (.ref a1), .val (.int p1), .val (.int v2_1)] [(.ref a1), (.int v2_1)])) rfl rfl (hb hby d7_7)
  refine own_by st2 ?_
  show own_Go _ _ _ _ (T2.setTop (mkF m 10 #[.val (.ref a1), .val (.int p1), .val (.int v2_1)] [(.ref w1), (.int v2_1)]))
  refine own_by (fun _ k => own_len X2 hx hZ e2 PA zn hznE (hb hby d7_10) k) ?_
  show own_Go _ _ _ _ (T2.setTop (mkF m 11 #[.val (.ref a1), .val (.int p1), .val (.int v2_1)] [(.int zn), (.int v2_1)]))
  by_cases hc3 : v2_1 < zn
  · --
    have hkn : x1 / 64 < n := by have q := hc3; rw [Int32.lt_iff_toInt_lt, hk2, hzn] at q; omega
    refine own_by (fun _ k => XS.icmpNo X2.here hx rfl (hb hby d7_11) rfl (tlt hc3).2.1 k) ?_
    show own_Go _ _ _ _ (T2.setTop (mkF m 14 #[.val (.ref a1), .val (.int p1), .val (.int v2_1)] []))
    refine own_by (fun _ k => XS.aloadN X2.here hx rfl (hb hby d7_14) rfl rfl k) ?_
    show own_Go _ _ _ _ (T2.setTop (mkF m 15 #[.val (.ref a1), .val (.int p1), .val (.int v2_1)] [(.ref a1)]))
    obtain ⟨T4, X4, e4, st4⟩ := getF X2 hx hZ hown (host := "") (Or.inl (hw _ (List.mem_of_getElem? (i := 11) rfl))) Via.refl e2 PF (g := (mkF m 15 #[.val (.ref a1), .val (.int p1), .val (.int v2_1)] [(.ref a1)])) rfl rfl (hb hby d7_15)
    refine own_by st4 ?_
    show own_Go _ _ _ _ (T4.setTop (mkF m 18 #[.val (.ref a1), .val (.int p1), .val (.int v2_1)] [(.ref w1)]))
    refine own_by (fun _ k => XS.iloadN X4.here hx rfl (hb hby d7_18) rfl k) ?_
    show own_Go _ _ _ _ (T4.setTop (mkF m 19 #[.val (.ref a1), .val (.int p1), .val (.int v2_1)] [(.int v2_1), (.ref w1)]))
    refine own_by (fun _ k => Jvm.Free.XT.dup2 X4.here hx rfl (hb hby d7_19) rfl rfl rfl k) ?_
    show own_Go _ _ _ _ (T4.setTop (mkF m 20 #[.val (.ref a1), .val (.int p1), .val (.int v2_1)] [(.int v2_1), (.ref w1), (.int v2_1), (.ref w1)]))
    refine own_by (fun _ k => own_lal X4 hx hZ e4 PA (x1 / 64) hk2 hkn (hb hby d7_20) k) ?_
    show own_Go _ _ _ _ (T4.setTop (mkF m 21 #[.val (.ref a1), .val (.int p1), .val (.int v2_1)] [(.long (f (x1 / 64))), (.int v2_1), (.ref w1)]))
    refine own_by (fun _ k => XS.lconst X4.here hx rfl (hb hby d7_21) k) ?_
    show own_Go _ _ _ _ (T4.setTop (mkF m 22 #[.val (.ref a1), .val (.int p1), .val (.int v2_1)] [(.long (1 : Int64)), (.long (f (x1 / 64))), (.int v2_1), (.ref w1)]))
    refine own_by (fun _ k => XS.iloadN X4.here hx rfl (hb hby d7_22) rfl k) ?_
    show own_Go _ _ _ _ (T4.setTop (mkF m 23 #[.val (.ref a1), .val (.int p1), .val (.int v2_1)] [(.int p1), (.long (1 : Int64)), (.long (f (x1 / 64))), (.int v2_1), (.ref w1)]))
    refine own_by (fun _ k => XS.lshl X4.here hx rfl (hb hby d7_23) rfl k) ?_
    show own_Go _ _ _ _ (T4.setTop (mkF m 24 #[.val (.ref a1), .val (.int p1), .val (.int v2_1)] [(.long ((1 : Int64) <<< (p1 &&& 0x3f).toInt64)), (.long (f (x1 / 64))), (.int v2_1), (.ref w1)]))
    refine own_by (fun _ k => X4.ldc2Long hx hown (mvT hZ (hw _ (List.mem_of_getElem? (i := 38) rfl))) (g := (mkF m 24 #[.val (.ref a1), .val (.int p1), .val (.int v2_1)] [(.long ((1 : Int64) <<< (p1 &&& 0x3f).toInt64)), (.long (f (x1 / 64))), (.int v2_1), (.ref w1)])) rfl (hb hby d7_24) _ k) ?_
    show own_Go _ _ _ _ (T4.setTop (mkF m 27 #[.val (.ref a1), .val (.int p1), .val (.int v2_1)] [(.long (-1 : Int64)), (.long ((1 : Int64) <<< (p1 &&& 0x3f).toInt64)), (.long (f (x1 / 64))), (.int v2_1), (.ref w1)]))
    refine own_by (fun _ k => XS.lxor X4.here hx rfl (hb hby d7_27) rfl k) ?_
    show own_Go _ _ _ _ (T4.setTop (mkF m 28 #[.val (.ref a1), .val (.int p1), .val (.int v2_1)] [(.long (((1 : Int64) <<< (p1 &&& 0x3f).toInt64) ^^^ (-1 : Int64))), (.long (f (x1 / 64))), (.int v2_1), (.ref w1)]))
    refine own_by (fun _ k => XS.land X4.here hx rfl (hb hby d7_28) rfl k) ?_
    show own_Go _ _ _ _ (T4.setTop (mkF m 29 #[.val (.ref a1), .val (.int p1), .val (.int v2_1)] [(.long ((f (x1 / 64)) &&& (((1 : Int64) <<< (p1 &&& 0x3f).toInt64) ^^^ (-1 : Int64)))), (.int v2_1), (.ref w1)]))
    refine own_las X4 hx hZ e4 PA (x1 / 64) hk2 hkn (hb hby d7_29) ?_
    intro T5 h5 X5 e5 W5 A5
    have f6 := PE.wr W5
    have f7 := PF.other W5 (Or.inl Paw)
    have f8 := PH.other W5 (Or.inl Paw)
    have f9 := PB.other W5 (Ne.symm Pwd)
    have f10 := PX.wr W5
    have f11 := (Keep.refl h0 [w1, d1]).wr W5 (Or.inl (List.mem_of_getElem? (i := 0) rfl))
    have N5 := Fr.snoc X5 N0 Pw
    have Z5 := own_size_wr W5 Z0
    obtain ⟨fn5, hfn5⟩ : ∃ gf_ : Nat → Int64, gf_ = own_upd f (x1 / 64) ((f (x1 / 64)) &&& (((1 : Int64) <<< (p1 &&& 0x3f).toInt64) ^^^ (-1 : Int64))) := ⟨_, rfl⟩
    rw [← hfn5] at A5
    show own_Go _ _ _ _ (T5.setTop (mkF m 30 #[.val (.ref a1), .val (.int p1), .val (.int v2_1)] []))
    refine own_by (fun _ k => XS.aloadN X5.here hx rfl (hb hby d7_30) rfl rfl k) ?_
    show own_Go _ _ _ _ (T5.setTop (mkF m 31 #[.val (.ref a1), .val (.int p1), .val (.int v2_1)] [(.ref a1)]))
    refine own_by (fun _ k => XS.iloadN X5.here hx rfl (hb hby d7_31) rfl k) ?_
    show own_Go _ _ _ _ (T5.setTop (mkF m 32 #[.val (.ref a1), .val (.int p1), .val (.int v2_1)] [(.int v2_1), (.ref a1)]))
    refine own_callP (y' := (⟨"com/example/sonde/sonde/engine/Bits", "set", "(I)V"⟩ : MethodName)) X5 hx hZ hown (hw _ (List.mem_of_getElem? (i := 39) rfl)) (hw _ (List.mem_of_getElem? (i := 40) rfl)) (hw _ (List.mem_of_getElem? (i := 41) rfl)) rfl (hw _ (List.mem_of_getElem? (i := 18) rfl)) (hw _ (List.mem_of_getElem? (i := 3) rfl)) (hw _ (List.mem_of_getElem? (i := 42) rfl)) (by decide) (rm8 l Z a0 hw [] a1 v2_1 w1 d1 n mm fn5 g (x1 / 64) h5 n0 Z5 f6 f7 f8 A5 f9 f10 Pa Pw Pd Paw Pad Pwd Pn1 Pn5 Pm hk2 hkn) e5 a1 f6 (by rw [hml]; rfl) [(.int v2_1)] [] rfl (lenOf own_pd1 rfl) rfl 0 (Nat.le_of_eq rfl) (by decide) (by decide) (Nat.le_of_ble_eq_true rfl) (Nat.le_of_ble_eq_true rfl) (hb hby d7_32) ?_
    intro T12 Lc12 v12 X12 hQ12
    obtain ⟨h12, e12⟩ : ∃ h, T12.heap = h := ⟨_, rfl⟩
    rw [e12] at hQ12
    obtain ⟨rfl, N12q, K12, gz12, AH12⟩ := hQ12
    have N12 := Fr.app N5 N12q
    have f13 := f6.keep K12
    have f14 := f7.keep K12 (ninS Pad nin0)
    have f15 := f8.keep K12 (ninS Pad nin0)
    have f16 := A5.keep K12 (ninS Pwd nin0)
    have f18 := f10.keep K12
    have f19 := f11.trans K12 (allS (P := fun x => x ∈ [w1, d1] ∨ h0.size ≤ x) (Or.inl (List.mem_of_getElem? (i := 1) rfl)) all0)
    have Z12 := Nat.le_trans Z5 K12.1
    show own_Go _ _ _ _ (T12.setTop (mkF m 35 #[.val (.ref a1), .val (.int p1), .val (.int v2_1)] []))
    exact own_retV X12 hx Bd.notSynchronized e12 Bd.returns (hb hby d7_35) (⟨rfl, N12, f19, fn5, _, f16, AH12, fun y => by rw [hfn5, own_clr f n p1 x1 hx1]⟩) (by decide) (by decide)
  · --
    have hkn : ¬ x1 / 64 < n := by have q := hc3; rw [Int32.lt_iff_toInt_lt, hk2, hzn] at q; omega
    refine own_by (fun _ k => XS.icmpYes X2.here hx rfl (pc0 := 11) (pc' := 35) rfl (hb hby d7_11) rfl (flt hc3).2.1 (by decide) (by decide) k) ?_
    show own_Go _ _ _ _ (T2.setTop (mkF m 35 #[.val (.ref a1), .val (.int p1), .val (.int v2_1)] []))
    exact own_retV X2 hx Bd.notSynchronized e2 Bd.returns (hb hby d7_35) (⟨rfl, N0, (Keep.refl h0 [w1, d1]), f, _, PA, PB, fun y => by
            by_cases q : y = x1
            · subst q; simp [own_has, hkn]
            · simp [q]⟩) (by decide) (by decide)
set_option maxRecDepth 65536 in
set_option maxHeartbeats 40000000 in
theorem rm5 (l : Launch) (Z : State) (a0 : Array Value) (hw : ∀ d ∈ tables_1, d.before a0 Z = true) (ws : List Jvm.Cond) (a1 : Addr) (p1 : Int32) (w1 : Addr) (n : Nat) (f : Nat → Int64) (x1 : Nat) (h0 : Heap) (n0 : Nat) (Z0 : n0 ≤ h0.size) (PF : Fld Z h0 a1 "com/example/sonde/sonde/engine/Bits" "words" "[J" (.ref w1)) (PA : own_AJ Z h0 w1 n f) (Pn5 : n ≤ 510) (hx1 : p1.toInt = (x1 : Int)) :
    MetFree l (⟨"com/example/sonde/sonde/engine/Bits", "get", "(I)Z"⟩ : MethodName) (head1 (Jvm.Cond.code (⟨"com/example/sonde/sonde/engine/Bits", "get", "(I)Z"⟩ : MethodName) prog_100_method_2_code 3 (some .boolean) :: ws) ({ frames := 0, cells := 0, slots := 0, locals := 0 } : Room)) (fun a U => a = #[(.ref a1), (.int p1)] ∧ Z.Warmed39 U.vm ∧ U.heap = h0) (fun _ _ _ _ _ => True) (fun _ U o U' => ∃ vv LL, o = .returned vv ∧ own_ap (fun v h L => v = some (.int (if own_has f n x1 then 1 else 0)) ∧ Fr n0 L ∧ h = h0) vv U'.heap LL ∧ FrameEnd U o U' LL 0 0) := by
  refine MetFree.of_bodySF (plainFor_of_name pn_5) hisR ?_
  intro p e s m args below meth c s₁ Bd hml0 hP hK
  obtain ⟨rfl, hZ, hh⟩ := hP
  have hx := Bd.exec
  have hby := Bd.bytes
  have hml : c.maxLocals = 3 := hml0
  have hown : s.vm.findClass "com/example/sonde/sonde/engine/Bits" = some m.cls := findClass_of_methodNamed Bd.named
  have hnm := (name_of_methodNamed Bd.named Bd.method).1
  have X0 : Stand p l e ({ frames := 0, cells := 0, slots := 0, locals := 0 } : Room) s m #[(.ref a1), (.int p1)] below meth c s₁ [] 0 0 := Stand.of_body Bd
  have e0 : s₁.heap = h0 := by rw [← hh, Bd.state]; rfl
  have N0 := Fr.nil n0
  show own_Go p.tables e below (own_Q s (fun v h L => v = some (.int (if own_has f n x1 then 1 else 0)) ∧ Fr n0 L ∧ h = h0) 0 0) (s₁.setTop (entryFrame m #[(.ref a1), (.int p1)] 3))
  rw [show entryFrame m #[(.ref a1), (.int p1)] 3 = mkF m 0 #[.val (.ref a1), .val (.int p1), .unset] [] from by first | (simp [entryFrame, mkF, argsToLocals, Value.category]; done) | rfl]
  obtain ⟨zn, hznE, hzn⟩ : ∃ z : Int32, z = n.toInt32 ∧ z.toInt = (n : Int) := ⟨n.toInt32, rfl, own_ofN (by omega)⟩
  show own_Go _ _ _ _ (s₁.setTop (mkF m 0 #[.val (.ref a1), .val (.int p1), .unset] []))
  refine own_by (fun _ k => XS.iloadN X0.here hx rfl (hb hby d5_0) rfl k) ?_
  show own_Go _ _ _ _ (s₁.setTop (mkF m 1 #[.val (.ref a1), .val (.int p1), .unset] [(.int p1)]))
  refine own_by (fun _ k => XS.bipush X0.here hx rfl (hb hby d5_1) k) ?_
  show own_Go _ _ _ _ (s₁.setTop (mkF m 3 #[.val (.ref a1), .val (.int p1), .unset] [(.int (6 : Int32)), (.int p1)]))
  refine own_by (fun _ k => XS.iushr X0.here hx rfl (hb hby d5_3) rfl k) ?_
  show own_Go _ _ _ _ (s₁.setTop (mkF m 4 #[.val (.ref a1), .val (.int p1), .unset] [(.int ((p1.toUInt32 >>> ((6 : Int32) &&& 31).toUInt32).toInt32))]))
  obtain ⟨v2_1, hv2_1⟩ : ∃ z_ : Int32, ((p1.toUInt32 >>> ((6 : Int32) &&& 31).toUInt32).toInt32) = z_ := ⟨_, rfl⟩
  refine own_gen hv2_1 (fun z_ => s₁.setTop (mkF m 4 #[.val (.ref a1), .val (.int p1), .unset] [(.int z_)])) ?_
  refine own_by (fun _ k => XS.istoreN X0.here hx rfl (hb hby d5_4) rfl (l' := #[.val (.ref a1), .val (.int p1), .val (.int v2_1)]) rfl k) ?_
  have hk2 := own_ush6 hx1 hv2_1
  show own_Go _ _ _ _ (s₁.setTop (mkF m 5 #[.val (.ref a1), .val (.int p1), .val (.int v2_1)] []))
  refine own_by (fun _ k => XS.iloadN X0.here hx rfl (hb hby d5_5) rfl k) ?_
  show own_Go _ _ _ _ (s₁.setTop (mkF m 6 #[.val (.ref a1), .val (.int p1), .val (.int v2_1)] [(.int v2_1)]))
  refine own_by (fun _ k => XS.aloadN X0.here hx rfl (hb hby d5_6) rfl rfl k) ?_
  show own_Go _ _ _ _ (s₁.setTop (mkF m 7 #[.val (.ref a1), .val (.int p1), .val (.int v2_1)] [(.ref a1), (.int v2_1)]))
  obtain ⟨T2, X2, e2, st2⟩ := getF X0 hx hZ hown (host := "") (Or.inl (hw _ (List.mem_of_getElem? (i := 11) rfl))) Via.refl e0 PF (g := (mkF m 7 #[.val (.ref a1), .val (.int p1), .val (.int v2_1)] [(.ref a1), (.int v2_1)])) rfl rfl (hb hby d5_7)
  refine own_by st2 ?_
  show own_Go _ _ _ _ (T2.setTop (mkF m 10 #[.val (.ref a1), .val (.int p1), .val (.int v2_1)] [(.ref w1), (.int v2_1)]))
  refine own_by (fun _ k => own_len X2 hx hZ e2 PA zn hznE (hb hby d5_10) k) ?_
  show own_Go _ _ _ _ (T2.setTop (mkF m 11 #[.val (.ref a1), .val (.int p1), .val (.int v2_1)] [(.int zn), (.int v2_1)]))
  by_cases hc3 : v2_1 < zn
  · --
    have hkn : x1 / 64 < n := by have q := hc3; rw [Int32.lt_iff_toInt_lt, hk2, hzn] at q; omega
    refine own_by (fun _ k => XS.icmpNo X2.here hx rfl (hb hby d5_11) rfl (tlt hc3).2.1 k) ?_
    show own_Go _ _ _ _ (T2.setTop (mkF m 14 #[.val (.ref a1), .val (.int p1), .val (.int v2_1)] []))
    refine own_by (fun _ k => XS.aloadN X2.here hx rfl (hb hby d5_14) rfl rfl k) ?_
    show own_Go _ _ _ _ (T2.setTop (mkF m 15 #[.val (.ref a1), .val (.int p1), .val (.int v2_1)] [(.ref a1)]))
    obtain ⟨T4, X4, e4, st4⟩ := getF X2 hx hZ hown (host := "") (Or.inl (hw _ (List.mem_of_getElem? (i := 11) rfl))) Via.refl e2 PF (g := (mkF m 15 #[.val (.ref a1), .val (.int p1), .val (.int v2_1)] [(.ref a1)])) rfl rfl (hb hby d5_15)
    refine own_by st4 ?_
    show own_Go _ _ _ _ (T4.setTop (mkF m 18 #[.val (.ref a1), .val (.int p1), .val (.int v2_1)] [(.ref w1)]))
    refine own_by (fun _ k => XS.iloadN X4.here hx rfl (hb hby d5_18) rfl k) ?_
    show own_Go _ _ _ _ (T4.setTop (mkF m 19 #[.val (.ref a1), .val (.int p1), .val (.int v2_1)] [(.int v2_1), (.ref w1)]))
    refine own_by (fun _ k => own_lal X4 hx hZ e4 PA (x1 / 64) hk2 hkn (hb hby d5_19) k) ?_
    show own_Go _ _ _ _ (T4.setTop (mkF m 20 #[.val (.ref a1), .val (.int p1), .val (.int v2_1)] [(.long (f (x1 / 64)))]))
    refine own_by (fun _ k => XS.lconst X4.here hx rfl (hb hby d5_20) k) ?_
    show own_Go _ _ _ _ (T4.setTop (mkF m 21 #[.val (.ref a1), .val (.int p1), .val (.int v2_1)] [(.long (1 : Int64)), (.long (f (x1 / 64)))]))
    refine own_by (fun _ k => XS.iloadN X4.here hx rfl (hb hby d5_21) rfl k) ?_
    show own_Go _ _ _ _ (T4.setTop (mkF m 22 #[.val (.ref a1), .val (.int p1), .val (.int v2_1)] [(.int p1), (.long (1 : Int64)), (.long (f (x1 / 64)))]))
    refine own_by (fun _ k => XS.lshl X4.here hx rfl (hb hby d5_22) rfl k) ?_
    show own_Go _ _ _ _ (T4.setTop (mkF m 23 #[.val (.ref a1), .val (.int p1), .val (.int v2_1)] [(.long ((1 : Int64) <<< (p1 &&& 0x3f).toInt64)), (.long (f (x1 / 64)))]))
    refine own_by (fun _ k => XS.land X4.here hx rfl (hb hby d5_23) rfl k) ?_
    show own_Go _ _ _ _ (T4.setTop (mkF m 24 #[.val (.ref a1), .val (.int p1), .val (.int v2_1)] [(.long ((f (x1 / 64)) &&& ((1 : Int64) <<< (p1 &&& 0x3f).toInt64)))]))
    refine own_by (fun _ k => XS.lconst X4.here hx rfl (hb hby d5_24) k) ?_
    show own_Go _ _ _ _ (T4.setTop (mkF m 25 #[.val (.ref a1), .val (.int p1), .val (.int v2_1)] [(.long (0 : Int64)), (.long ((f (x1 / 64)) &&& ((1 : Int64) <<< (p1 &&& 0x3f).toInt64)))]))
    refine own_by (fun _ k => XS.lcmp X4.here hx rfl (hb hby d5_25) rfl k) ?_
    show own_Go _ _ _ _ (T4.setTop (mkF m 26 #[.val (.ref a1), .val (.int p1), .val (.int v2_1)] [(.int (lcmpW ((f (x1 / 64)) &&& ((1 : Int64) <<< (p1 &&& 0x3f).toInt64)) (0 : Int64)))]))
    by_cases hc5 : ((f (x1 / 64)) &&& ((1 : Int64) <<< (p1 &&& 0x3f).toInt64)) = (0 : Int64)
    · --
      refine own_by (fun _ k => XS.ifYes X4.here hx rfl (pc0 := 26) (pc' := 33) rfl (hb hby d5_26) rfl ((if0 _ _).trans (teq ((lw_eq _ _).mpr hc5)).1) (by decide) (by decide) k) ?_
      show own_Go _ _ _ _ (T4.setTop (mkF m 33 #[.val (.ref a1), .val (.int p1), .val (.int v2_1)] []))
      refine own_by (fun _ k => XS.iconst X4.here hx rfl (hb hby d5_33) k) ?_
      show own_Go _ _ _ _ (T4.setTop (mkF m 34 #[.val (.ref a1), .val (.int p1), .val (.int v2_1)] [(.int (0 : Int32))]))
      exact own_retN X4 hx Bd.notSynchronized e4 Bd.returns (by simp) (hb hby d5_34) (⟨by have q := (own_get _ p1 x1 hx1).mp hc5; simp [own_has, hkn, q, nar], N0, rfl⟩) (by decide) (by decide)
    · --
      refine own_by (fun _ k => XS.ifNo X4.here hx rfl (hb hby d5_26) rfl ((if0 _ _).trans (feq (mt (lw_eq _ _).mp hc5)).1) k) ?_
      show own_Go _ _ _ _ (T4.setTop (mkF m 29 #[.val (.ref a1), .val (.int p1), .val (.int v2_1)] []))
      refine own_by (fun _ k => XS.iconst X4.here hx rfl (hb hby d5_29) k) ?_
      show own_Go _ _ _ _ (T4.setTop (mkF m 30 #[.val (.ref a1), .val (.int p1), .val (.int v2_1)] [(.int (1 : Int32))]))
      refine own_by (fun _ k => XS.goto X4.here hx rfl (pc0 := 30) (pc' := 34) rfl (hb hby d5_30) (by decide) (by decide) k) ?_
      show own_Go _ _ _ _ (T4.setTop (mkF m 34 #[.val (.ref a1), .val (.int p1), .val (.int v2_1)] [(.int (1 : Int32))]))
      exact own_retN X4 hx Bd.notSynchronized e4 Bd.returns (by simp) (hb hby d5_34) (⟨by have q := mt (own_get _ p1 x1 hx1).mpr hc5; simp [own_has, hkn, q, nar], N0, rfl⟩) (by decide) (by decide)
  · --
    have hkn : ¬ x1 / 64 < n := by have q := hc3; rw [Int32.lt_iff_toInt_lt, hk2, hzn] at q; omega
    refine own_by (fun _ k => XS.icmpYes X2.here hx rfl (pc0 := 11) (pc' := 33) rfl (hb hby d5_11) rfl (flt hc3).2.1 (by decide) (by decide) k) ?_
    show own_Go _ _ _ _ (T2.setTop (mkF m 33 #[.val (.ref a1), .val (.int p1), .val (.int v2_1)] []))
    refine own_by (fun _ k => XS.iconst X2.here hx rfl (hb hby d5_33) k) ?_
    show own_Go _ _ _ _ (T2.setTop (mkF m 34 #[.val (.ref a1), .val (.int p1), .val (.int v2_1)] [(.int (0 : Int32))]))
    exact own_retN X2 hx Bd.notSynchronized e2 Bd.returns (by simp) (hb hby d5_34) (⟨by simp [own_has, hkn, nar], N0, rfl⟩) (by decide) (by decide)
def own_exp (x na ub nb uc nc : Int32) : Int32 := if ¬ uc = 0 ∧ x = nc then 0 else if x = na then 1 else if ¬ ub = 0 ∧ x = nb then 1 else 0
theorem own_i32 {i j : Int32} {x y : Nat} (hi : i.toInt = (x : Int)) (hj : j.toInt = (y : Int)) : i = j ↔ x = y := by rw [← Int32.toInt_inj, hi, hj]; omega
theorem own_fin (f : Nat → Int64) (n : Nat) (p na nb nc ub uc : Int32) (x a b c : Nat) (hx : p.toInt = (x : Int)) (ha : na.toInt = (a : Int)) (hb : nb.toInt = (b : Int)) (hc : nc.toInt = (c : Int))
    (h : own_has f n x = ((decide (x = a) || (!decide (ub = 0) && decide (x = b))) && !(!decide (uc = 0) && decide (x = c)))) : (if own_has f n x then (1 : Int32) else 0) = own_exp p na ub nb uc nc := by
  rw [h, own_exp]
  have e1 := own_i32 hx ha
  have e2 := own_i32 hx hb
  have e3 := own_i32 hx hc
  by_cases q1 : uc = 0 <;> by_cases q2 : ub = 0 <;> by_cases q3 : x = a <;> by_cases q4 : x = b <;> by_cases q5 : x = c <;> simp_all
set_option maxRecDepth 65536 in
set_option maxHeartbeats 40000000 in
theorem rm6 (l : Launch) (Z : State) (a0 : Array Value) (hw : ∀ d ∈ tables_1, d.before a0 Z = true) (ws : List Jvm.Cond) (p1 : Int32) (p2 : Int32) (p3 : Int32) (p4 : Int32) (p5 : Int32) (p6 : Int32)  (h0 : Heap) (n0 : Nat) (Z0 : n0 ≤ h0.size) :
    MetFree l (⟨"com/example/sonde/sonde/engine/BitsGetPinLaw", "expected", "(IIZIZI)Z"⟩ : MethodName) (head1 (Jvm.Cond.code (⟨"com/example/sonde/sonde/engine/BitsGetPinLaw", "expected", "(IIZIZI)Z"⟩ : MethodName) method_2_code 7 (some .boolean) :: ws) ({ frames := 0, cells := 0, slots := 0, locals := 0 } : Room)) (fun a U => a = #[(.int p1), (.int p2), (.int p3), (.int p4), (.int p5), (.int p6)] ∧ Z.Warmed39 U.vm ∧ U.heap = h0) (fun _ _ _ _ _ => True) (fun _ U o U' => ∃ vv LL, o = .returned vv ∧ own_ap (fun v h L => v = some (.int (own_exp p1 p2 p3 p4 p5 p6)) ∧ Fr n0 L ∧ h = h0) vv U'.heap LL ∧ FrameEnd U o U' LL 0 0) := by
  refine MetFree.of_bodySF (plainFor_of_name pn_6) hisR ?_
  intro p e s m args below meth c s₁ Bd hml0 hP hK
  obtain ⟨rfl, hZ, hh⟩ := hP
  have hx := Bd.exec
  have hby := Bd.bytes
  have hml : c.maxLocals = 7 := hml0
  have hown : s.vm.findClass "com/example/sonde/sonde/engine/BitsGetPinLaw" = some m.cls := findClass_of_methodNamed Bd.named
  have hnm := (name_of_methodNamed Bd.named Bd.method).1
  have X0 : Stand p l e ({ frames := 0, cells := 0, slots := 0, locals := 0 } : Room) s m #[(.int p1), (.int p2), (.int p3), (.int p4), (.int p5), (.int p6)] below meth c s₁ [] 0 0 := Stand.of_body Bd
  have e0 : s₁.heap = h0 := by rw [← hh, Bd.state]; rfl
  have N0 := Fr.nil n0
  show own_Go p.tables e below (own_Q s (fun v h L => v = some (.int (own_exp p1 p2 p3 p4 p5 p6)) ∧ Fr n0 L ∧ h = h0) 0 0) (s₁.setTop (entryFrame m #[(.int p1), (.int p2), (.int p3), (.int p4), (.int p5), (.int p6)] 7))
  rw [show entryFrame m #[(.int p1), (.int p2), (.int p3), (.int p4), (.int p5), (.int p6)] 7 = mkF m 0 #[.val (.int p1), .val (.int p2), .val (.int p3), .val (.int p4), .val (.int p5), .val (.int p6), .unset] [] from by first | (simp [entryFrame, mkF, argsToLocals, Value.category]; done) | rfl]
  show own_Go _ _ _ _ (s₁.setTop (mkF m 0 #[.val (.int p1), .val (.int p2), .val (.int p3), .val (.int p4), .val (.int p5), .val (.int p6), .unset] []))
  refine own_by (fun _ k => XS.iloadN X0.here hx rfl (hb hby d6_0) rfl k) ?_
  show own_Go _ _ _ _ (s₁.setTop (mkF m 1 #[.val (.int p1), .val (.int p2), .val (.int p3), .val (.int p4), .val (.int p5), .val (.int p6), .unset] [(.int p1)]))
  refine own_by (fun _ k => XS.iloadN X0.here hx rfl (hb hby d6_1) rfl k) ?_
  show own_Go _ _ _ _ (s₁.setTop (mkF m 2 #[.val (.int p1), .val (.int p2), .val (.int p3), .val (.int p4), .val (.int p5), .val (.int p6), .unset] [(.int p2), (.int p1)]))
  by_cases hc1 : p1 = p2
  · --
    refine own_by (fun _ k => XS.icmpYes X0.here hx rfl (pc0 := 2) (pc' := 14) rfl (hb hby d6_2) rfl (teq hc1).1 (by decide) (by decide) k) ?_
    show own_Go _ _ _ _ (s₁.setTop (mkF m 14 #[.val (.int p1), .val (.int p2), .val (.int p3), .val (.int p4), .val (.int p5), .val (.int p6), .unset] []))
    refine own_by (fun _ k => XS.iconst X0.here hx rfl (hb hby d6_14) k) ?_
    show own_Go _ _ _ _ (s₁.setTop (mkF m 15 #[.val (.int p1), .val (.int p2), .val (.int p3), .val (.int p4), .val (.int p5), .val (.int p6), .unset] [(.int (1 : Int32))]))
    refine own_by (fun _ k => XS.goto X0.here hx rfl (pc0 := 15) (pc' := 19) rfl (hb hby d6_15) (by decide) (by decide) k) ?_
    show own_Go _ _ _ _ (s₁.setTop (mkF m 19 #[.val (.int p1), .val (.int p2), .val (.int p3), .val (.int p4), .val (.int p5), .val (.int p6), .unset] [(.int (1 : Int32))]))
    refine own_by (fun _ k => XS.istore X0.here hx rfl (hb hby d6_19) rfl (l' := #[.val (.int p1), .val (.int p2), .val (.int p3), .val (.int p4), .val (.int p5), .val (.int p6), .val (.int (1 : Int32))]) rfl k) ?_
    show own_Go _ _ _ _ (s₁.setTop (mkF m 21 #[.val (.int p1), .val (.int p2), .val (.int p3), .val (.int p4), .val (.int p5), .val (.int p6), .val (.int (1 : Int32))] []))
    refine own_by (fun _ k => XS.iload X0.here hx rfl (hb hby d6_21) rfl k) ?_
    show own_Go _ _ _ _ (s₁.setTop (mkF m 23 #[.val (.int p1), .val (.int p2), .val (.int p3), .val (.int p4), .val (.int p5), .val (.int p6), .val (.int (1 : Int32))] [(.int p5)]))
    by_cases hc2 : p5 = (0 : Int32)
    · --
      refine own_by (fun _ k => XS.ifYes X0.here hx rfl (pc0 := 23) (pc' := 35) rfl (hb hby d6_23) rfl ((if0 _ _).trans (teq hc2).1) (by decide) (by decide) k) ?_
      show own_Go _ _ _ _ (s₁.setTop (mkF m 35 #[.val (.int p1), .val (.int p2), .val (.int p3), .val (.int p4), .val (.int p5), .val (.int p6), .val (.int (1 : Int32))] []))
      refine own_by (fun _ k => XS.iload X0.here hx rfl (hb hby d6_35) rfl k) ?_
      show own_Go _ _ _ _ (s₁.setTop (mkF m 37 #[.val (.int p1), .val (.int p2), .val (.int p3), .val (.int p4), .val (.int p5), .val (.int p6), .val (.int (1 : Int32))] [(.int (1 : Int32))]))
      exact own_retN X0 hx Bd.notSynchronized e0 Bd.returns (by simp) (hb hby d6_37) (⟨by rw [own_exp, if_neg (fun q => q.1 hc2), if_pos hc1]; rfl, N0, rfl⟩) (by decide) (by decide)
    · --
      refine own_by (fun _ k => XS.ifNo X0.here hx rfl (hb hby d6_23) rfl ((if0 _ _).trans (feq hc2).1) k) ?_
      show own_Go _ _ _ _ (s₁.setTop (mkF m 26 #[.val (.int p1), .val (.int p2), .val (.int p3), .val (.int p4), .val (.int p5), .val (.int p6), .val (.int (1 : Int32))] []))
      refine own_by (fun _ k => XS.iloadN X0.here hx rfl (hb hby d6_26) rfl k) ?_
      show own_Go _ _ _ _ (s₁.setTop (mkF m 27 #[.val (.int p1), .val (.int p2), .val (.int p3), .val (.int p4), .val (.int p5), .val (.int p6), .val (.int (1 : Int32))] [(.int p1)]))
      refine own_by (fun _ k => XS.iload X0.here hx rfl (hb hby d6_27) rfl k) ?_
      show own_Go _ _ _ _ (s₁.setTop (mkF m 29 #[.val (.int p1), .val (.int p2), .val (.int p3), .val (.int p4), .val (.int p5), .val (.int p6), .val (.int (1 : Int32))] [(.int p6), (.int p1)]))
      by_cases hc3 : p1 = p6
      · --
        refine own_by (fun _ k => XS.icmpNo X0.here hx rfl (hb hby d6_29) rfl (teq hc3).2 k) ?_
        show own_Go _ _ _ _ (s₁.setTop (mkF m 32 #[.val (.int p1), .val (.int p2), .val (.int p3), .val (.int p4), .val (.int p5), .val (.int p6), .val (.int (1 : Int32))] []))
        refine own_by (fun _ k => XS.iconst X0.here hx rfl (hb hby d6_32) k) ?_
        show own_Go _ _ _ _ (s₁.setTop (mkF m 33 #[.val (.int p1), .val (.int p2), .val (.int p3), .val (.int p4), .val (.int p5), .val (.int p6), .val (.int (1 : Int32))] [(.int (0 : Int32))]))
        refine own_by (fun _ k => XS.istore X0.here hx rfl (hb hby d6_33) rfl (l' := #[.val (.int p1), .val (.int p2), .val (.int p3), .val (.int p4), .val (.int p5), .val (.int p6), .val (.int (0 : Int32))]) rfl k) ?_
        show own_Go _ _ _ _ (s₁.setTop (mkF m 35 #[.val (.int p1), .val (.int p2), .val (.int p3), .val (.int p4), .val (.int p5), .val (.int p6), .val (.int (0 : Int32))] []))
        refine own_by (fun _ k => XS.iload X0.here hx rfl (hb hby d6_35) rfl k) ?_
        show own_Go _ _ _ _ (s₁.setTop (mkF m 37 #[.val (.int p1), .val (.int p2), .val (.int p3), .val (.int p4), .val (.int p5), .val (.int p6), .val (.int (0 : Int32))] [(.int (0 : Int32))]))
        exact own_retN X0 hx Bd.notSynchronized e0 Bd.returns (by simp) (hb hby d6_37) (⟨by rw [own_exp, if_pos ⟨hc2, hc3⟩]; rfl, N0, rfl⟩) (by decide) (by decide)
      · --
        refine own_by (fun _ k => XS.icmpYes X0.here hx rfl (pc0 := 29) (pc' := 35) rfl (hb hby d6_29) rfl (feq hc3).2 (by decide) (by decide) k) ?_
        show own_Go _ _ _ _ (s₁.setTop (mkF m 35 #[.val (.int p1), .val (.int p2), .val (.int p3), .val (.int p4), .val (.int p5), .val (.int p6), .val (.int (1 : Int32))] []))
        refine own_by (fun _ k => XS.iload X0.here hx rfl (hb hby d6_35) rfl k) ?_
        show own_Go _ _ _ _ (s₁.setTop (mkF m 37 #[.val (.int p1), .val (.int p2), .val (.int p3), .val (.int p4), .val (.int p5), .val (.int p6), .val (.int (1 : Int32))] [(.int (1 : Int32))]))
        exact own_retN X0 hx Bd.notSynchronized e0 Bd.returns (by simp) (hb hby d6_37) (⟨by rw [own_exp, if_neg (fun q => hc3 q.2), if_pos hc1]; rfl, N0, rfl⟩) (by decide) (by decide)
  · --
    refine own_by (fun _ k => XS.icmpNo X0.here hx rfl (hb hby d6_2) rfl (feq hc1).1 k) ?_
    show own_Go _ _ _ _ (s₁.setTop (mkF m 5 #[.val (.int p1), .val (.int p2), .val (.int p3), .val (.int p4), .val (.int p5), .val (.int p6), .unset] []))
    refine own_by (fun _ k => XS.iloadN X0.here hx rfl (hb hby d6_5) rfl k) ?_
    show own_Go _ _ _ _ (s₁.setTop (mkF m 6 #[.val (.int p1), .val (.int p2), .val (.int p3), .val (.int p4), .val (.int p5), .val (.int p6), .unset] [(.int p3)]))
    by_cases hc4 : p3 = (0 : Int32)
    · --
      refine own_by (fun _ k => XS.ifYes X0.here hx rfl (pc0 := 6) (pc' := 18) rfl (hb hby d6_6) rfl ((if0 _ _).trans (teq hc4).1) (by decide) (by decide) k) ?_
      show own_Go _ _ _ _ (s₁.setTop (mkF m 18 #[.val (.int p1), .val (.int p2), .val (.int p3), .val (.int p4), .val (.int p5), .val (.int p6), .unset] []))
      refine own_by (fun _ k => XS.iconst X0.here hx rfl (hb hby d6_18) k) ?_
      show own_Go _ _ _ _ (s₁.setTop (mkF m 19 #[.val (.int p1), .val (.int p2), .val (.int p3), .val (.int p4), .val (.int p5), .val (.int p6), .unset] [(.int (0 : Int32))]))
      refine own_by (fun _ k => XS.istore X0.here hx rfl (hb hby d6_19) rfl (l' := #[.val (.int p1), .val (.int p2), .val (.int p3), .val (.int p4), .val (.int p5), .val (.int p6), .val (.int (0 : Int32))]) rfl k) ?_
      show own_Go _ _ _ _ (s₁.setTop (mkF m 21 #[.val (.int p1), .val (.int p2), .val (.int p3), .val (.int p4), .val (.int p5), .val (.int p6), .val (.int (0 : Int32))] []))
      refine own_by (fun _ k => XS.iload X0.here hx rfl (hb hby d6_21) rfl k) ?_
      show own_Go _ _ _ _ (s₁.setTop (mkF m 23 #[.val (.int p1), .val (.int p2), .val (.int p3), .val (.int p4), .val (.int p5), .val (.int p6), .val (.int (0 : Int32))] [(.int p5)]))
      by_cases hc5 : p5 = (0 : Int32)
      · --
        refine own_by (fun _ k => XS.ifYes X0.here hx rfl (pc0 := 23) (pc' := 35) rfl (hb hby d6_23) rfl ((if0 _ _).trans (teq hc5).1) (by decide) (by decide) k) ?_
        show own_Go _ _ _ _ (s₁.setTop (mkF m 35 #[.val (.int p1), .val (.int p2), .val (.int p3), .val (.int p4), .val (.int p5), .val (.int p6), .val (.int (0 : Int32))] []))
        refine own_by (fun _ k => XS.iload X0.here hx rfl (hb hby d6_35) rfl k) ?_
        show own_Go _ _ _ _ (s₁.setTop (mkF m 37 #[.val (.int p1), .val (.int p2), .val (.int p3), .val (.int p4), .val (.int p5), .val (.int p6), .val (.int (0 : Int32))] [(.int (0 : Int32))]))
        exact own_retN X0 hx Bd.notSynchronized e0 Bd.returns (by simp) (hb hby d6_37) (⟨by rw [own_exp, if_neg (fun q => q.1 hc5), if_neg hc1, if_neg (fun q => q.1 hc4)]; rfl, N0, rfl⟩) (by decide) (by decide)
      · --
        refine own_by (fun _ k => XS.ifNo X0.here hx rfl (hb hby d6_23) rfl ((if0 _ _).trans (feq hc5).1) k) ?_
        show own_Go _ _ _ _ (s₁.setTop (mkF m 26 #[.val (.int p1), .val (.int p2), .val (.int p3), .val (.int p4), .val (.int p5), .val (.int p6), .val (.int (0 : Int32))] []))
        refine own_by (fun _ k => XS.iloadN X0.here hx rfl (hb hby d6_26) rfl k) ?_
        show own_Go _ _ _ _ (s₁.setTop (mkF m 27 #[.val (.int p1), .val (.int p2), .val (.int p3), .val (.int p4), .val (.int p5), .val (.int p6), .val (.int (0 : Int32))] [(.int p1)]))
        refine own_by (fun _ k => XS.iload X0.here hx rfl (hb hby d6_27) rfl k) ?_
        show own_Go _ _ _ _ (s₁.setTop (mkF m 29 #[.val (.int p1), .val (.int p2), .val (.int p3), .val (.int p4), .val (.int p5), .val (.int p6), .val (.int (0 : Int32))] [(.int p6), (.int p1)]))
        by_cases hc6 : p1 = p6
        · --
          refine own_by (fun _ k => XS.icmpNo X0.here hx rfl (hb hby d6_29) rfl (teq hc6).2 k) ?_
          show own_Go _ _ _ _ (s₁.setTop (mkF m 32 #[.val (.int p1), .val (.int p2), .val (.int p3), .val (.int p4), .val (.int p5), .val (.int p6), .val (.int (0 : Int32))] []))
          refine own_by (fun _ k => XS.iconst X0.here hx rfl (hb hby d6_32) k) ?_
          show own_Go _ _ _ _ (s₁.setTop (mkF m 33 #[.val (.int p1), .val (.int p2), .val (.int p3), .val (.int p4), .val (.int p5), .val (.int p6), .val (.int (0 : Int32))] [(.int (0 : Int32))]))
          refine own_by (fun _ k => XS.istore X0.here hx rfl (hb hby d6_33) rfl (l' := #[.val (.int p1), .val (.int p2), .val (.int p3), .val (.int p4), .val (.int p5), .val (.int p6), .val (.int (0 : Int32))]) rfl k) ?_
          show own_Go _ _ _ _ (s₁.setTop (mkF m 35 #[.val (.int p1), .val (.int p2), .val (.int p3), .val (.int p4), .val (.int p5), .val (.int p6), .val (.int (0 : Int32))] []))
          refine own_by (fun _ k => XS.iload X0.here hx rfl (hb hby d6_35) rfl k) ?_
          show own_Go _ _ _ _ (s₁.setTop (mkF m 37 #[.val (.int p1), .val (.int p2), .val (.int p3), .val (.int p4), .val (.int p5), .val (.int p6), .val (.int (0 : Int32))] [(.int (0 : Int32))]))
          exact own_retN X0 hx Bd.notSynchronized e0 Bd.returns (by simp) (hb hby d6_37) (⟨by rw [own_exp, if_pos ⟨hc5, hc6⟩]; rfl, N0, rfl⟩) (by decide) (by decide)
        · --
          refine own_by (fun _ k => XS.icmpYes X0.here hx rfl (pc0 := 29) (pc' := 35) rfl (hb hby d6_29) rfl (feq hc6).2 (by decide) (by decide) k) ?_
          show own_Go _ _ _ _ (s₁.setTop (mkF m 35 #[.val (.int p1), .val (.int p2), .val (.int p3), .val (.int p4), .val (.int p5), .val (.int p6), .val (.int (0 : Int32))] []))
          refine own_by (fun _ k => XS.iload X0.here hx rfl (hb hby d6_35) rfl k) ?_
          show own_Go _ _ _ _ (s₁.setTop (mkF m 37 #[.val (.int p1), .val (.int p2), .val (.int p3), .val (.int p4), .val (.int p5), .val (.int p6), .val (.int (0 : Int32))] [(.int (0 : Int32))]))
          exact own_retN X0 hx Bd.notSynchronized e0 Bd.returns (by simp) (hb hby d6_37) (⟨by rw [own_exp, if_neg (fun q => hc6 q.2), if_neg hc1, if_neg (fun q => q.1 hc4)]; rfl, N0, rfl⟩) (by decide) (by decide)
    · --
      refine own_by (fun _ k => XS.ifNo X0.here hx rfl (hb hby d6_6) rfl ((if0 _ _).trans (feq hc4).1) k) ?_
      show own_Go _ _ _ _ (s₁.setTop (mkF m 9 #[.val (.int p1), .val (.int p2), .val (.int p3), .val (.int p4), .val (.int p5), .val (.int p6), .unset] []))
      refine own_by (fun _ k => XS.iloadN X0.here hx rfl (hb hby d6_9) rfl k) ?_
      show own_Go _ _ _ _ (s₁.setTop (mkF m 10 #[.val (.int p1), .val (.int p2), .val (.int p3), .val (.int p4), .val (.int p5), .val (.int p6), .unset] [(.int p1)]))
      refine own_by (fun _ k => XS.iloadN X0.here hx rfl (hb hby d6_10) rfl k) ?_
      show own_Go _ _ _ _ (s₁.setTop (mkF m 11 #[.val (.int p1), .val (.int p2), .val (.int p3), .val (.int p4), .val (.int p5), .val (.int p6), .unset] [(.int p4), (.int p1)]))
      by_cases hc7 : p1 = p4
      · --
        refine own_by (fun _ k => XS.icmpNo X0.here hx rfl (hb hby d6_11) rfl (teq hc7).2 k) ?_
        show own_Go _ _ _ _ (s₁.setTop (mkF m 14 #[.val (.int p1), .val (.int p2), .val (.int p3), .val (.int p4), .val (.int p5), .val (.int p6), .unset] []))
        refine own_by (fun _ k => XS.iconst X0.here hx rfl (hb hby d6_14) k) ?_
        show own_Go _ _ _ _ (s₁.setTop (mkF m 15 #[.val (.int p1), .val (.int p2), .val (.int p3), .val (.int p4), .val (.int p5), .val (.int p6), .unset] [(.int (1 : Int32))]))
        refine own_by (fun _ k => XS.goto X0.here hx rfl (pc0 := 15) (pc' := 19) rfl (hb hby d6_15) (by decide) (by decide) k) ?_
        show own_Go _ _ _ _ (s₁.setTop (mkF m 19 #[.val (.int p1), .val (.int p2), .val (.int p3), .val (.int p4), .val (.int p5), .val (.int p6), .unset] [(.int (1 : Int32))]))
        refine own_by (fun _ k => XS.istore X0.here hx rfl (hb hby d6_19) rfl (l' := #[.val (.int p1), .val (.int p2), .val (.int p3), .val (.int p4), .val (.int p5), .val (.int p6), .val (.int (1 : Int32))]) rfl k) ?_
        show own_Go _ _ _ _ (s₁.setTop (mkF m 21 #[.val (.int p1), .val (.int p2), .val (.int p3), .val (.int p4), .val (.int p5), .val (.int p6), .val (.int (1 : Int32))] []))
        refine own_by (fun _ k => XS.iload X0.here hx rfl (hb hby d6_21) rfl k) ?_
        show own_Go _ _ _ _ (s₁.setTop (mkF m 23 #[.val (.int p1), .val (.int p2), .val (.int p3), .val (.int p4), .val (.int p5), .val (.int p6), .val (.int (1 : Int32))] [(.int p5)]))
        by_cases hc8 : p5 = (0 : Int32)
        · --
          refine own_by (fun _ k => XS.ifYes X0.here hx rfl (pc0 := 23) (pc' := 35) rfl (hb hby d6_23) rfl ((if0 _ _).trans (teq hc8).1) (by decide) (by decide) k) ?_
          show own_Go _ _ _ _ (s₁.setTop (mkF m 35 #[.val (.int p1), .val (.int p2), .val (.int p3), .val (.int p4), .val (.int p5), .val (.int p6), .val (.int (1 : Int32))] []))
          refine own_by (fun _ k => XS.iload X0.here hx rfl (hb hby d6_35) rfl k) ?_
          show own_Go _ _ _ _ (s₁.setTop (mkF m 37 #[.val (.int p1), .val (.int p2), .val (.int p3), .val (.int p4), .val (.int p5), .val (.int p6), .val (.int (1 : Int32))] [(.int (1 : Int32))]))
          exact own_retN X0 hx Bd.notSynchronized e0 Bd.returns (by simp) (hb hby d6_37) (⟨by rw [own_exp, if_neg (fun q => q.1 hc8), if_neg hc1, if_pos ⟨hc4, hc7⟩]; rfl, N0, rfl⟩) (by decide) (by decide)
        · --
          refine own_by (fun _ k => XS.ifNo X0.here hx rfl (hb hby d6_23) rfl ((if0 _ _).trans (feq hc8).1) k) ?_
          show own_Go _ _ _ _ (s₁.setTop (mkF m 26 #[.val (.int p1), .val (.int p2), .val (.int p3), .val (.int p4), .val (.int p5), .val (.int p6), .val (.int (1 : Int32))] []))
          refine own_by (fun _ k => XS.iloadN X0.here hx rfl (hb hby d6_26) rfl k) ?_
          show own_Go _ _ _ _ (s₁.setTop (mkF m 27 #[.val (.int p1), .val (.int p2), .val (.int p3), .val (.int p4), .val (.int p5), .val (.int p6), .val (.int (1 : Int32))] [(.int p1)]))
          refine own_by (fun _ k => XS.iload X0.here hx rfl (hb hby d6_27) rfl k) ?_
          show own_Go _ _ _ _ (s₁.setTop (mkF m 29 #[.val (.int p1), .val (.int p2), .val (.int p3), .val (.int p4), .val (.int p5), .val (.int p6), .val (.int (1 : Int32))] [(.int p6), (.int p1)]))
          by_cases hc9 : p1 = p6
          · --
            refine own_by (fun _ k => XS.icmpNo X0.here hx rfl (hb hby d6_29) rfl (teq hc9).2 k) ?_
            show own_Go _ _ _ _ (s₁.setTop (mkF m 32 #[.val (.int p1), .val (.int p2), .val (.int p3), .val (.int p4), .val (.int p5), .val (.int p6), .val (.int (1 : Int32))] []))
            refine own_by (fun _ k => XS.iconst X0.here hx rfl (hb hby d6_32) k) ?_
            show own_Go _ _ _ _ (s₁.setTop (mkF m 33 #[.val (.int p1), .val (.int p2), .val (.int p3), .val (.int p4), .val (.int p5), .val (.int p6), .val (.int (1 : Int32))] [(.int (0 : Int32))]))
            refine own_by (fun _ k => XS.istore X0.here hx rfl (hb hby d6_33) rfl (l' := #[.val (.int p1), .val (.int p2), .val (.int p3), .val (.int p4), .val (.int p5), .val (.int p6), .val (.int (0 : Int32))]) rfl k) ?_
            show own_Go _ _ _ _ (s₁.setTop (mkF m 35 #[.val (.int p1), .val (.int p2), .val (.int p3), .val (.int p4), .val (.int p5), .val (.int p6), .val (.int (0 : Int32))] []))
            refine own_by (fun _ k => XS.iload X0.here hx rfl (hb hby d6_35) rfl k) ?_
            show own_Go _ _ _ _ (s₁.setTop (mkF m 37 #[.val (.int p1), .val (.int p2), .val (.int p3), .val (.int p4), .val (.int p5), .val (.int p6), .val (.int (0 : Int32))] [(.int (0 : Int32))]))
            exact own_retN X0 hx Bd.notSynchronized e0 Bd.returns (by simp) (hb hby d6_37) (⟨by rw [own_exp, if_pos ⟨hc8, hc9⟩]; rfl, N0, rfl⟩) (by decide) (by decide)
          · --
            refine own_by (fun _ k => XS.icmpYes X0.here hx rfl (pc0 := 29) (pc' := 35) rfl (hb hby d6_29) rfl (feq hc9).2 (by decide) (by decide) k) ?_
            show own_Go _ _ _ _ (s₁.setTop (mkF m 35 #[.val (.int p1), .val (.int p2), .val (.int p3), .val (.int p4), .val (.int p5), .val (.int p6), .val (.int (1 : Int32))] []))
            refine own_by (fun _ k => XS.iload X0.here hx rfl (hb hby d6_35) rfl k) ?_
            show own_Go _ _ _ _ (s₁.setTop (mkF m 37 #[.val (.int p1), .val (.int p2), .val (.int p3), .val (.int p4), .val (.int p5), .val (.int p6), .val (.int (1 : Int32))] [(.int (1 : Int32))]))
            exact own_retN X0 hx Bd.notSynchronized e0 Bd.returns (by simp) (hb hby d6_37) (⟨by rw [own_exp, if_neg (fun q => hc9 q.2), if_neg hc1, if_pos ⟨hc4, hc7⟩]; rfl, N0, rfl⟩) (by decide) (by decide)
      · --
        refine own_by (fun _ k => XS.icmpYes X0.here hx rfl (pc0 := 11) (pc' := 18) rfl (hb hby d6_11) rfl (feq hc7).2 (by decide) (by decide) k) ?_
        show own_Go _ _ _ _ (s₁.setTop (mkF m 18 #[.val (.int p1), .val (.int p2), .val (.int p3), .val (.int p4), .val (.int p5), .val (.int p6), .unset] []))
        refine own_by (fun _ k => XS.iconst X0.here hx rfl (hb hby d6_18) k) ?_
        show own_Go _ _ _ _ (s₁.setTop (mkF m 19 #[.val (.int p1), .val (.int p2), .val (.int p3), .val (.int p4), .val (.int p5), .val (.int p6), .unset] [(.int (0 : Int32))]))
        refine own_by (fun _ k => XS.istore X0.here hx rfl (hb hby d6_19) rfl (l' := #[.val (.int p1), .val (.int p2), .val (.int p3), .val (.int p4), .val (.int p5), .val (.int p6), .val (.int (0 : Int32))]) rfl k) ?_
        show own_Go _ _ _ _ (s₁.setTop (mkF m 21 #[.val (.int p1), .val (.int p2), .val (.int p3), .val (.int p4), .val (.int p5), .val (.int p6), .val (.int (0 : Int32))] []))
        refine own_by (fun _ k => XS.iload X0.here hx rfl (hb hby d6_21) rfl k) ?_
        show own_Go _ _ _ _ (s₁.setTop (mkF m 23 #[.val (.int p1), .val (.int p2), .val (.int p3), .val (.int p4), .val (.int p5), .val (.int p6), .val (.int (0 : Int32))] [(.int p5)]))
        by_cases hc10 : p5 = (0 : Int32)
        · --
          refine own_by (fun _ k => XS.ifYes X0.here hx rfl (pc0 := 23) (pc' := 35) rfl (hb hby d6_23) rfl ((if0 _ _).trans (teq hc10).1) (by decide) (by decide) k) ?_
          show own_Go _ _ _ _ (s₁.setTop (mkF m 35 #[.val (.int p1), .val (.int p2), .val (.int p3), .val (.int p4), .val (.int p5), .val (.int p6), .val (.int (0 : Int32))] []))
          refine own_by (fun _ k => XS.iload X0.here hx rfl (hb hby d6_35) rfl k) ?_
          show own_Go _ _ _ _ (s₁.setTop (mkF m 37 #[.val (.int p1), .val (.int p2), .val (.int p3), .val (.int p4), .val (.int p5), .val (.int p6), .val (.int (0 : Int32))] [(.int (0 : Int32))]))
          exact own_retN X0 hx Bd.notSynchronized e0 Bd.returns (by simp) (hb hby d6_37) (⟨by rw [own_exp, if_neg (fun q => q.1 hc10), if_neg hc1, if_neg (fun q => hc7 q.2)]; rfl, N0, rfl⟩) (by decide) (by decide)
        · --
          refine own_by (fun _ k => XS.ifNo X0.here hx rfl (hb hby d6_23) rfl ((if0 _ _).trans (feq hc10).1) k) ?_
          show own_Go _ _ _ _ (s₁.setTop (mkF m 26 #[.val (.int p1), .val (.int p2), .val (.int p3), .val (.int p4), .val (.int p5), .val (.int p6), .val (.int (0 : Int32))] []))
          refine own_by (fun _ k => XS.iloadN X0.here hx rfl (hb hby d6_26) rfl k) ?_
          show own_Go _ _ _ _ (s₁.setTop (mkF m 27 #[.val (.int p1), .val (.int p2), .val (.int p3), .val (.int p4), .val (.int p5), .val (.int p6), .val (.int (0 : Int32))] [(.int p1)]))
          refine own_by (fun _ k => XS.iload X0.here hx rfl (hb hby d6_27) rfl k) ?_
          show own_Go _ _ _ _ (s₁.setTop (mkF m 29 #[.val (.int p1), .val (.int p2), .val (.int p3), .val (.int p4), .val (.int p5), .val (.int p6), .val (.int (0 : Int32))] [(.int p6), (.int p1)]))
          by_cases hc11 : p1 = p6
          · --
            refine own_by (fun _ k => XS.icmpNo X0.here hx rfl (hb hby d6_29) rfl (teq hc11).2 k) ?_
            show own_Go _ _ _ _ (s₁.setTop (mkF m 32 #[.val (.int p1), .val (.int p2), .val (.int p3), .val (.int p4), .val (.int p5), .val (.int p6), .val (.int (0 : Int32))] []))
            refine own_by (fun _ k => XS.iconst X0.here hx rfl (hb hby d6_32) k) ?_
            show own_Go _ _ _ _ (s₁.setTop (mkF m 33 #[.val (.int p1), .val (.int p2), .val (.int p3), .val (.int p4), .val (.int p5), .val (.int p6), .val (.int (0 : Int32))] [(.int (0 : Int32))]))
            refine own_by (fun _ k => XS.istore X0.here hx rfl (hb hby d6_33) rfl (l' := #[.val (.int p1), .val (.int p2), .val (.int p3), .val (.int p4), .val (.int p5), .val (.int p6), .val (.int (0 : Int32))]) rfl k) ?_
            show own_Go _ _ _ _ (s₁.setTop (mkF m 35 #[.val (.int p1), .val (.int p2), .val (.int p3), .val (.int p4), .val (.int p5), .val (.int p6), .val (.int (0 : Int32))] []))
            refine own_by (fun _ k => XS.iload X0.here hx rfl (hb hby d6_35) rfl k) ?_
            show own_Go _ _ _ _ (s₁.setTop (mkF m 37 #[.val (.int p1), .val (.int p2), .val (.int p3), .val (.int p4), .val (.int p5), .val (.int p6), .val (.int (0 : Int32))] [(.int (0 : Int32))]))
            exact own_retN X0 hx Bd.notSynchronized e0 Bd.returns (by simp) (hb hby d6_37) (⟨by rw [own_exp, if_pos ⟨hc10, hc11⟩]; rfl, N0, rfl⟩) (by decide) (by decide)
          · --
            refine own_by (fun _ k => XS.icmpYes X0.here hx rfl (pc0 := 29) (pc' := 35) rfl (hb hby d6_29) rfl (feq hc11).2 (by decide) (by decide) k) ?_
            show own_Go _ _ _ _ (s₁.setTop (mkF m 35 #[.val (.int p1), .val (.int p2), .val (.int p3), .val (.int p4), .val (.int p5), .val (.int p6), .val (.int (0 : Int32))] []))
            refine own_by (fun _ k => XS.iload X0.here hx rfl (hb hby d6_35) rfl k) ?_
            show own_Go _ _ _ _ (s₁.setTop (mkF m 37 #[.val (.int p1), .val (.int p2), .val (.int p3), .val (.int p4), .val (.int p5), .val (.int p6), .val (.int (0 : Int32))] [(.int (0 : Int32))]))
            exact own_retN X0 hx Bd.notSynchronized e0 Bd.returns (by simp) (hb hby d6_37) (⟨by rw [own_exp, if_neg (fun q => hc11 q.2), if_neg hc1, if_neg (fun q => hc7 q.2)]; rfl, N0, rfl⟩) (by decide) (by decide)
theorem own_m14 (x v : Int32) (h : x &&& (16383 : Int32) = v) : ∃ n : Nat, n ≤ 16383 ∧ v.toInt = (n : Int) := by
  have c1 := c_and x 16383 (by decide)
  have l : (16383 : Int32).toInt = 16383 := by decide
  rw [h, l] at c1
  exact ⟨v.toInt.toNat, by omega, by omega⟩
theorem own_m31 (x v : Int32) (h : x &&& (2147483647 : Int32) = v) : ∃ n : Nat, v.toInt = (n : Int) := by
  have c1 := c_and x 2147483647 (by decide)
  rw [h] at c1
  exact ⟨v.toInt.toNat, by omega⟩
set_option maxRecDepth 65536 in
set_option maxHeartbeats 40000000 in
theorem rm0 (l : Launch) (Z : State) (a0 : Array Value) (hw : ∀ d ∈ tables_1, d.before a0 Z = true) (ws : List Jvm.Cond) (p1 : Int32) (p2 : Int32) (p3 : Int32) (p4 : Int32) (p5 : Int32)  (h0 : Heap) (n0 : Nat) (Z0 : n0 ≤ h0.size) :
    MetFree l x (head1 (Jvm.Cond.code x code maxLocals ret :: ws) room_1) (fun a U => a = #[(.int p1), (.int p2), (.int p3), (.int p4), (.int p5)] ∧ Z.Warmed39 U.vm ∧ U.heap = h0) (fun _ _ _ _ _ => True) (fun _ U o U' => ∃ vv LL, o = .returned vv ∧ own_ap (fun v h L => v = some (.int 1) ∧ Fr n0 L) vv U'.heap LL ∧ FrameEnd U o U' LL 24 1664) := by
  refine MetFree.of_bodySF (plainFor_of_name pn_0) hisR ?_
  intro p e s m args below meth c s₁ Bd hml0 hP hK
  obtain ⟨rfl, hZ, hh⟩ := hP
  have hx := Bd.exec
  have hby := Bd.bytes
  have hml : c.maxLocals = 16 := hml0
  have hown : s.vm.findClass "com/example/sonde/sonde/engine/BitsGetPinLaw" = some m.cls := findClass_of_methodNamed Bd.named
  have hnm := (name_of_methodNamed Bd.named Bd.method).1
  have X0 : Stand p l e room_1 s m #[(.int p1), (.int p2), (.int p3), (.int p4), (.int p5)] below meth c s₁ [] 0 0 := Stand.of_body Bd
  have e0 : s₁.heap = h0 := by rw [← hh, Bd.state]; rfl
  have N0 := Fr.nil n0
  show own_Go p.tables e below (own_Q s (fun v h L => v = some (.int 1) ∧ Fr n0 L) 24 1664) (s₁.setTop (entryFrame m #[(.int p1), (.int p2), (.int p3), (.int p4), (.int p5)] maxLocals))
  rw [show entryFrame m #[(.int p1), (.int p2), (.int p3), (.int p4), (.int p5)] maxLocals = mkF m 0 #[.val (.int p1), .val (.int p2), .val (.int p3), .val (.int p4), .val (.int p5), .unset, .unset, .unset, .unset, .unset, .unset, .unset, .unset, .unset, .unset, .unset] [] from by first | (simp [entryFrame, mkF, argsToLocals, Value.category, maxLocals]; done) | rfl]
  show own_Go _ _ _ _ (s₁.setTop (mkF m 0 #[.val (.int p1), .val (.int p2), .val (.int p3), .val (.int p4), .val (.int p5), .unset, .unset, .unset, .unset, .unset, .unset, .unset, .unset, .unset, .unset, .unset] []))
  refine own_by (fun _ k => XS.iloadN X0.here hx rfl (hb hby at_0) rfl k) ?_
  show own_Go _ _ _ _ (s₁.setTop (mkF m 1 #[.val (.int p1), .val (.int p2), .val (.int p3), .val (.int p4), .val (.int p5), .unset, .unset, .unset, .unset, .unset, .unset, .unset, .unset, .unset, .unset, .unset] [(.int p1)]))
  refine own_by (fun _ k => XS.sipush X0.here hx rfl (hb hby at_1) k) ?_
  show own_Go _ _ _ _ (s₁.setTop (mkF m 4 #[.val (.int p1), .val (.int p2), .val (.int p3), .val (.int p4), .val (.int p5), .unset, .unset, .unset, .unset, .unset, .unset, .unset, .unset, .unset, .unset, .unset] [(.int (16383 : Int32)), (.int p1)]))
  refine own_by (fun _ k => XS.iand X0.here hx rfl (hb hby at_4) rfl k) ?_
  show own_Go _ _ _ _ (s₁.setTop (mkF m 5 #[.val (.int p1), .val (.int p2), .val (.int p3), .val (.int p4), .val (.int p5), .unset, .unset, .unset, .unset, .unset, .unset, .unset, .unset, .unset, .unset, .unset] [(.int (p1 &&& (16383 : Int32)))]))
  obtain ⟨v5_1, hv5_1⟩ : ∃ z_ : Int32, (p1 &&& (16383 : Int32)) = z_ := ⟨_, rfl⟩
  refine own_gen hv5_1 (fun z_ => s₁.setTop (mkF m 5 #[.val (.int p1), .val (.int p2), .val (.int p3), .val (.int p4), .val (.int p5), .unset, .unset, .unset, .unset, .unset, .unset, .unset, .unset, .unset, .unset, .unset] [(.int z_)])) ?_
  refine own_by (fun _ k => XS.istore X0.here hx rfl (hb hby at_5) rfl (l' := #[.val (.int p1), .val (.int p2), .val (.int p3), .val (.int p4), .val (.int p5), .val (.int v5_1), .unset, .unset, .unset, .unset, .unset, .unset, .unset, .unset, .unset, .unset]) rfl k) ?_
  show own_Go _ _ _ _ (s₁.setTop (mkF m 7 #[.val (.int p1), .val (.int p2), .val (.int p3), .val (.int p4), .val (.int p5), .val (.int v5_1), .unset, .unset, .unset, .unset, .unset, .unset, .unset, .unset, .unset, .unset] []))
  refine own_by (fun _ k => XS.iloadN X0.here hx rfl (hb hby at_7) rfl k) ?_
  show own_Go _ _ _ _ (s₁.setTop (mkF m 8 #[.val (.int p1), .val (.int p2), .val (.int p3), .val (.int p4), .val (.int p5), .val (.int v5_1), .unset, .unset, .unset, .unset, .unset, .unset, .unset, .unset, .unset, .unset] [(.int p2)]))
  refine own_by (fun _ k => XS.sipush X0.here hx rfl (hb hby at_8) k) ?_
  show own_Go _ _ _ _ (s₁.setTop (mkF m 11 #[.val (.int p1), .val (.int p2), .val (.int p3), .val (.int p4), .val (.int p5), .val (.int v5_1), .unset, .unset, .unset, .unset, .unset, .unset, .unset, .unset, .unset, .unset] [(.int (16383 : Int32)), (.int p2)]))
  refine own_by (fun _ k => XS.iand X0.here hx rfl (hb hby at_11) rfl k) ?_
  show own_Go _ _ _ _ (s₁.setTop (mkF m 12 #[.val (.int p1), .val (.int p2), .val (.int p3), .val (.int p4), .val (.int p5), .val (.int v5_1), .unset, .unset, .unset, .unset, .unset, .unset, .unset, .unset, .unset, .unset] [(.int (p2 &&& (16383 : Int32)))]))
  obtain ⟨v6_2, hv6_2⟩ : ∃ z_ : Int32, (p2 &&& (16383 : Int32)) = z_ := ⟨_, rfl⟩
  refine own_gen hv6_2 (fun z_ => s₁.setTop (mkF m 12 #[.val (.int p1), .val (.int p2), .val (.int p3), .val (.int p4), .val (.int p5), .val (.int v5_1), .unset, .unset, .unset, .unset, .unset, .unset, .unset, .unset, .unset, .unset] [(.int z_)])) ?_
  refine own_by (fun _ k => XS.istore X0.here hx rfl (hb hby at_12) rfl (l' := #[.val (.int p1), .val (.int p2), .val (.int p3), .val (.int p4), .val (.int p5), .val (.int v5_1), .val (.int v6_2), .unset, .unset, .unset, .unset, .unset, .unset, .unset, .unset, .unset]) rfl k) ?_
  show own_Go _ _ _ _ (s₁.setTop (mkF m 14 #[.val (.int p1), .val (.int p2), .val (.int p3), .val (.int p4), .val (.int p5), .val (.int v5_1), .val (.int v6_2), .unset, .unset, .unset, .unset, .unset, .unset, .unset, .unset, .unset] []))
  refine own_by (fun _ k => XS.iloadN X0.here hx rfl (hb hby at_14) rfl k) ?_
  show own_Go _ _ _ _ (s₁.setTop (mkF m 15 #[.val (.int p1), .val (.int p2), .val (.int p3), .val (.int p4), .val (.int p5), .val (.int v5_1), .val (.int v6_2), .unset, .unset, .unset, .unset, .unset, .unset, .unset, .unset, .unset] [(.int p3)]))
  refine own_by (fun _ k => XS.sipush X0.here hx rfl (hb hby at_15) k) ?_
  show own_Go _ _ _ _ (s₁.setTop (mkF m 18 #[.val (.int p1), .val (.int p2), .val (.int p3), .val (.int p4), .val (.int p5), .val (.int v5_1), .val (.int v6_2), .unset, .unset, .unset, .unset, .unset, .unset, .unset, .unset, .unset] [(.int (16383 : Int32)), (.int p3)]))
  refine own_by (fun _ k => XS.iand X0.here hx rfl (hb hby at_18) rfl k) ?_
  show own_Go _ _ _ _ (s₁.setTop (mkF m 19 #[.val (.int p1), .val (.int p2), .val (.int p3), .val (.int p4), .val (.int p5), .val (.int v5_1), .val (.int v6_2), .unset, .unset, .unset, .unset, .unset, .unset, .unset, .unset, .unset] [(.int (p3 &&& (16383 : Int32)))]))
  obtain ⟨v7_3, hv7_3⟩ : ∃ z_ : Int32, (p3 &&& (16383 : Int32)) = z_ := ⟨_, rfl⟩
  refine own_gen hv7_3 (fun z_ => s₁.setTop (mkF m 19 #[.val (.int p1), .val (.int p2), .val (.int p3), .val (.int p4), .val (.int p5), .val (.int v5_1), .val (.int v6_2), .unset, .unset, .unset, .unset, .unset, .unset, .unset, .unset, .unset] [(.int z_)])) ?_
  refine own_by (fun _ k => XS.istore X0.here hx rfl (hb hby at_19) rfl (l' := #[.val (.int p1), .val (.int p2), .val (.int p3), .val (.int p4), .val (.int p5), .val (.int v5_1), .val (.int v6_2), .val (.int v7_3), .unset, .unset, .unset, .unset, .unset, .unset, .unset, .unset]) rfl k) ?_
  show own_Go _ _ _ _ (s₁.setTop (mkF m 21 #[.val (.int p1), .val (.int p2), .val (.int p3), .val (.int p4), .val (.int p5), .val (.int v5_1), .val (.int v6_2), .val (.int v7_3), .unset, .unset, .unset, .unset, .unset, .unset, .unset, .unset] []))
  refine own_by (fun _ k => XS.iloadN X0.here hx rfl (hb hby at_21) rfl k) ?_
  show own_Go _ _ _ _ (s₁.setTop (mkF m 22 #[.val (.int p1), .val (.int p2), .val (.int p3), .val (.int p4), .val (.int p5), .val (.int v5_1), .val (.int v6_2), .val (.int v7_3), .unset, .unset, .unset, .unset, .unset, .unset, .unset, .unset] [(.int p4)]))
  refine own_by (fun _ k => X0.ldcInt hx hown (mvT hZ (hw _ (List.mem_of_getElem? (i := 0) rfl))) (g := (mkF m 22 #[.val (.int p1), .val (.int p2), .val (.int p3), .val (.int p4), .val (.int p5), .val (.int v5_1), .val (.int v6_2), .val (.int v7_3), .unset, .unset, .unset, .unset, .unset, .unset, .unset, .unset] [(.int p4)])) rfl (hb hby at_22) _ k) ?_
  show own_Go _ _ _ _ (s₁.setTop (mkF m 24 #[.val (.int p1), .val (.int p2), .val (.int p3), .val (.int p4), .val (.int p5), .val (.int v5_1), .val (.int v6_2), .val (.int v7_3), .unset, .unset, .unset, .unset, .unset, .unset, .unset, .unset] [(.int (2147483647 : Int32)), (.int p4)]))
  refine own_by (fun _ k => XS.iand X0.here hx rfl (hb hby at_24) rfl k) ?_
  show own_Go _ _ _ _ (s₁.setTop (mkF m 25 #[.val (.int p1), .val (.int p2), .val (.int p3), .val (.int p4), .val (.int p5), .val (.int v5_1), .val (.int v6_2), .val (.int v7_3), .unset, .unset, .unset, .unset, .unset, .unset, .unset, .unset] [(.int (p4 &&& (2147483647 : Int32)))]))
  obtain ⟨v8_4, hv8_4⟩ : ∃ z_ : Int32, (p4 &&& (2147483647 : Int32)) = z_ := ⟨_, rfl⟩
  refine own_gen hv8_4 (fun z_ => s₁.setTop (mkF m 25 #[.val (.int p1), .val (.int p2), .val (.int p3), .val (.int p4), .val (.int p5), .val (.int v5_1), .val (.int v6_2), .val (.int v7_3), .unset, .unset, .unset, .unset, .unset, .unset, .unset, .unset] [(.int z_)])) ?_
  refine own_by (fun _ k => XS.istore X0.here hx rfl (hb hby at_25) rfl (l' := #[.val (.int p1), .val (.int p2), .val (.int p3), .val (.int p4), .val (.int p5), .val (.int v5_1), .val (.int v6_2), .val (.int v7_3), .val (.int v8_4), .unset, .unset, .unset, .unset, .unset, .unset, .unset]) rfl k) ?_
  obtain ⟨xa, hbxa, hxa⟩ := own_m14 _ _ hv5_1
  obtain ⟨xb, hbxb, hxb⟩ := own_m14 _ _ hv6_2
  obtain ⟨xc, hbxc, hxc⟩ := own_m14 _ _ hv7_3
  obtain ⟨xq, hxq⟩ := own_m31 _ _ hv8_4
  show own_Go _ _ _ _ (s₁.setTop (mkF m 27 #[.val (.int p1), .val (.int p2), .val (.int p3), .val (.int p4), .val (.int p5), .val (.int v5_1), .val (.int v6_2), .val (.int v7_3), .val (.int v8_4), .unset, .unset, .unset, .unset, .unset, .unset, .unset] []))
  refine own_by (fun _ k => XS.iload X0.here hx rfl (hb hby at_27) rfl k) ?_
  show own_Go _ _ _ _ (s₁.setTop (mkF m 29 #[.val (.int p1), .val (.int p2), .val (.int p3), .val (.int p4), .val (.int p5), .val (.int v5_1), .val (.int v6_2), .val (.int v7_3), .val (.int v8_4), .unset, .unset, .unset, .unset, .unset, .unset, .unset] [(.int p5)]))
  refine own_by (fun _ k => XS.iconst X0.here hx rfl (hb hby at_29) k) ?_
  show own_Go _ _ _ _ (s₁.setTop (mkF m 30 #[.val (.int p1), .val (.int p2), .val (.int p3), .val (.int p4), .val (.int p5), .val (.int v5_1), .val (.int v6_2), .val (.int v7_3), .val (.int v8_4), .unset, .unset, .unset, .unset, .unset, .unset, .unset] [(.int (1 : Int32)), (.int p5)]))
  refine own_by (fun _ k => XS.iand X0.here hx rfl (hb hby at_30) rfl k) ?_
  show own_Go _ _ _ _ (s₁.setTop (mkF m 31 #[.val (.int p1), .val (.int p2), .val (.int p3), .val (.int p4), .val (.int p5), .val (.int v5_1), .val (.int v6_2), .val (.int v7_3), .val (.int v8_4), .unset, .unset, .unset, .unset, .unset, .unset, .unset] [(.int (p5 &&& (1 : Int32)))]))
  by_cases hc5 : (p5 &&& (1 : Int32)) = (0 : Int32)
  · --
    refine own_by (fun _ k => XS.ifYes X0.here hx rfl (pc0 := 31) (pc' := 38) rfl (hb hby at_31) rfl ((if0 _ _).trans (teq hc5).1) (by decide) (by decide) k) ?_
    show own_Go _ _ _ _ (s₁.setTop (mkF m 38 #[.val (.int p1), .val (.int p2), .val (.int p3), .val (.int p4), .val (.int p5), .val (.int v5_1), .val (.int v6_2), .val (.int v7_3), .val (.int v8_4), .unset, .unset, .unset, .unset, .unset, .unset, .unset] []))
    refine own_by (fun _ k => XS.iconst X0.here hx rfl (hb hby at_38) k) ?_
    show own_Go _ _ _ _ (s₁.setTop (mkF m 39 #[.val (.int p1), .val (.int p2), .val (.int p3), .val (.int p4), .val (.int p5), .val (.int v5_1), .val (.int v6_2), .val (.int v7_3), .val (.int v8_4), .unset, .unset, .unset, .unset, .unset, .unset, .unset] [(.int (0 : Int32))]))
    refine own_by (fun _ k => XS.istore X0.here hx rfl (hb hby at_39) rfl (l' := #[.val (.int p1), .val (.int p2), .val (.int p3), .val (.int p4), .val (.int p5), .val (.int v5_1), .val (.int v6_2), .val (.int v7_3), .val (.int v8_4), .val (.int (0 : Int32)), .unset, .unset, .unset, .unset, .unset, .unset]) rfl k) ?_
    show own_Go _ _ _ _ (s₁.setTop (mkF m 41 #[.val (.int p1), .val (.int p2), .val (.int p3), .val (.int p4), .val (.int p5), .val (.int v5_1), .val (.int v6_2), .val (.int v7_3), .val (.int v8_4), .val (.int (0 : Int32)), .unset, .unset, .unset, .unset, .unset, .unset] []))
    refine own_by (fun _ k => XS.iload X0.here hx rfl (hb hby at_41) rfl k) ?_
    show own_Go _ _ _ _ (s₁.setTop (mkF m 43 #[.val (.int p1), .val (.int p2), .val (.int p3), .val (.int p4), .val (.int p5), .val (.int v5_1), .val (.int v6_2), .val (.int v7_3), .val (.int v8_4), .val (.int (0 : Int32)), .unset, .unset, .unset, .unset, .unset, .unset] [(.int p5)]))
    refine own_by (fun _ k => XS.iconst X0.here hx rfl (hb hby at_43) k) ?_
    show own_Go _ _ _ _ (s₁.setTop (mkF m 44 #[.val (.int p1), .val (.int p2), .val (.int p3), .val (.int p4), .val (.int p5), .val (.int v5_1), .val (.int v6_2), .val (.int v7_3), .val (.int v8_4), .val (.int (0 : Int32)), .unset, .unset, .unset, .unset, .unset, .unset] [(.int (2 : Int32)), (.int p5)]))
    refine own_by (fun _ k => XS.iand X0.here hx rfl (hb hby at_44) rfl k) ?_
    show own_Go _ _ _ _ (s₁.setTop (mkF m 45 #[.val (.int p1), .val (.int p2), .val (.int p3), .val (.int p4), .val (.int p5), .val (.int v5_1), .val (.int v6_2), .val (.int v7_3), .val (.int v8_4), .val (.int (0 : Int32)), .unset, .unset, .unset, .unset, .unset, .unset] [(.int (p5 &&& (2 : Int32)))]))
    by_cases hc6 : (p5 &&& (2 : Int32)) = (0 : Int32)
    · --
      refine own_by (fun _ k => XS.ifYes X0.here hx rfl (pc0 := 45) (pc' := 52) rfl (hb hby at_45) rfl ((if0 _ _).trans (teq hc6).1) (by decide) (by decide) k) ?_
      show own_Go _ _ _ _ (s₁.setTop (mkF m 52 #[.val (.int p1), .val (.int p2), .val (.int p3), .val (.int p4), .val (.int p5), .val (.int v5_1), .val (.int v6_2), .val (.int v7_3), .val (.int v8_4), .val (.int (0 : Int32)), .unset, .unset, .unset, .unset, .unset, .unset] []))
      refine own_by (fun _ k => XS.iconst X0.here hx rfl (hb hby at_52) k) ?_
      show own_Go _ _ _ _ (s₁.setTop (mkF m 53 #[.val (.int p1), .val (.int p2), .val (.int p3), .val (.int p4), .val (.int p5), .val (.int v5_1), .val (.int v6_2), .val (.int v7_3), .val (.int v8_4), .val (.int (0 : Int32)), .unset, .unset, .unset, .unset, .unset, .unset] [(.int (0 : Int32))]))
      refine own_by (fun _ k => XS.istore X0.here hx rfl (hb hby at_53) rfl (l' := #[.val (.int p1), .val (.int p2), .val (.int p3), .val (.int p4), .val (.int p5), .val (.int v5_1), .val (.int v6_2), .val (.int v7_3), .val (.int v8_4), .val (.int (0 : Int32)), .val (.int (0 : Int32)), .unset, .unset, .unset, .unset, .unset]) rfl k) ?_
      show own_Go _ _ _ _ (s₁.setTop (mkF m 55 #[.val (.int p1), .val (.int p2), .val (.int p3), .val (.int p4), .val (.int p5), .val (.int v5_1), .val (.int v6_2), .val (.int v7_3), .val (.int v8_4), .val (.int (0 : Int32)), .val (.int (0 : Int32)), .unset, .unset, .unset, .unset, .unset] []))
      obtain ⟨T7, h7, X7, e7, E7, A7, D7, -, st7⟩ := newO X0 hx hZ hown (hw _ (List.mem_of_getElem? (i := 1) rfl)) (hw _ (List.mem_of_getElem? (i := 2) rfl)) (hw _ (List.mem_of_getElem? (i := 3) rfl)) e0 (g := (mkF m 55 #[.val (.int p1), .val (.int p2), .val (.int p3), .val (.int p4), .val (.int p5), .val (.int v5_1), .val (.int v6_2), .val (.int v7_3), .val (.int v8_4), .val (.int (0 : Int32)), .val (.int (0 : Int32)), .unset, .unset, .unset, .unset, .unset] [])) rfl (hb hby at_55) (by decide) (by decide)
      refine own_by st7 ?_
      show own_Go _ _ _ _ (T7.setTop (mkF m 58 #[.val (.int p1), .val (.int p2), .val (.int p3), .val (.int p4), .val (.int p5), .val (.int v5_1), .val (.int v6_2), .val (.int v7_3), .val (.int v8_4), .val (.int (0 : Int32)), .val (.int (0 : Int32)), .unset, .unset, .unset, .unset, .unset] [.ref h0.size]))
      obtain ⟨b7, g7⟩ : ∃ z, z = h0.size := ⟨_, rfl⟩
      rw [← g7] at A7 D7
      refine own_gen g7.symm (fun z_ => T7.setTop (mkF m 58 #[.val (.int p1), .val (.int p2), .val (.int p3), .val (.int p4), .val (.int p5), .val (.int v5_1), .val (.int v6_2), .val (.int v7_3), .val (.int v8_4), .val (.int (0 : Int32)), .val (.int (0 : Int32)), .unset, .unset, .unset, .unset, .unset] [.ref z_])) ?_
      have ge7 : n0 ≤ b7 := Nat.le_trans Z0 (Nat.le_of_eq g7.symm)
      have Z7 := Nat.le_trans Z0 E7.1
      have f8 : Fld Z h7 b7 "com/example/sonde/sonde/engine/Bits" "words" "[J" .null := D7 (Or.inl (hw _ (List.mem_of_getElem? (i := 12) rfl))) (ty := (.array .long)) (by decide)
      have f9 : Fld Z h7 b7 "com/example/sonde/sonde/engine/Bits" "held" "[J" .null := D7 (Or.inl (hw _ (List.mem_of_getElem? (i := 14) rfl))) (ty := (.array .long)) (by decide)
      show own_Go _ _ _ _ (T7.setTop (mkF m 58 #[.val (.int p1), .val (.int p2), .val (.int p3), .val (.int p4), .val (.int p5), .val (.int v5_1), .val (.int v6_2), .val (.int v7_3), .val (.int v8_4), .val (.int (0 : Int32)), .val (.int (0 : Int32)), .unset, .unset, .unset, .unset, .unset] [(.ref b7)]))
      refine own_by (fun _ k => XS.dup X7.here hx rfl (hb hby at_58) rfl rfl k) ?_
      show own_Go _ _ _ _ (T7.setTop (mkF m 59 #[.val (.int p1), .val (.int p2), .val (.int p3), .val (.int p4), .val (.int p5), .val (.int v5_1), .val (.int v6_2), .val (.int v7_3), .val (.int v8_4), .val (.int (0 : Int32)), .val (.int (0 : Int32)), .unset, .unset, .unset, .unset, .unset] [(.ref b7), (.ref b7)]))
      refine own_callI X7 hx hZ hown rfl (hw _ (List.mem_of_getElem? (i := 4) rfl)) (hw _ (List.mem_of_getElem? (i := 5) rfl)) (hw _ (List.mem_of_getElem? (i := 3) rfl)) (hw _ (List.mem_of_getElem? (i := 6) rfl)) (by decide) (rm1 l Z a0 hw [] b7 h7 n0 Z7 A7 f8 f9 ge7) e7 (by rw [hml]; rfl) b7 [] [(.ref b7)] rfl (lenOf own_pd0 rfl) rfl 1 (Nat.le_of_eq rfl) (by decide) (by decide) (Nat.le_of_ble_eq_true rfl) (Nat.le_of_ble_eq_true rfl) (hb hby at_59) ?_
      intro T10 Lc10 v10 X10 hQ10
      obtain ⟨h10, e10⟩ : ∃ h, T10.heap = h := ⟨_, rfl⟩
      rw [e10] at hQ10
      obtain ⟨rfl, N10q, K10, wz10, dz10, FW10, FH10, AW10, AH10, EH10, gw10, gh10, naw10, nad10, nwd10, nww10, nwh10⟩ := hQ10
      have N10 := Fr.app N0 N10q
      have f11 := A7.keep K10
      have Z10 := Nat.le_trans Z7 K10.1
      have hb0 : ∀ y, own_has (fun _ => 0) 1 y = false := fun y => by simp [own_has]
      show own_Go _ _ _ _ (T10.setTop (mkF m 62 #[.val (.int p1), .val (.int p2), .val (.int p3), .val (.int p4), .val (.int p5), .val (.int v5_1), .val (.int v6_2), .val (.int v7_3), .val (.int v8_4), .val (.int (0 : Int32)), .val (.int (0 : Int32)), .unset, .unset, .unset, .unset, .unset] [(.ref b7)]))
      refine own_by (fun _ k => XS.astore X10.here hx rfl (hb hby at_62) rfl rfl (l' := #[.val (.int p1), .val (.int p2), .val (.int p3), .val (.int p4), .val (.int p5), .val (.int v5_1), .val (.int v6_2), .val (.int v7_3), .val (.int v8_4), .val (.int (0 : Int32)), .val (.int (0 : Int32)), .val (.ref b7), .unset, .unset, .unset, .unset]) rfl k) ?_
      show own_Go _ _ _ _ (T10.setTop (mkF m 64 #[.val (.int p1), .val (.int p2), .val (.int p3), .val (.int p4), .val (.int p5), .val (.int v5_1), .val (.int v6_2), .val (.int v7_3), .val (.int v8_4), .val (.int (0 : Int32)), .val (.int (0 : Int32)), .val (.ref b7), .unset, .unset, .unset, .unset] []))
      refine own_by (fun _ k => XS.aload X10.here hx rfl (hb hby at_64) rfl rfl k) ?_
      show own_Go _ _ _ _ (T10.setTop (mkF m 66 #[.val (.int p1), .val (.int p2), .val (.int p3), .val (.int p4), .val (.int p5), .val (.int v5_1), .val (.int v6_2), .val (.int v7_3), .val (.int v8_4), .val (.int (0 : Int32)), .val (.int (0 : Int32)), .val (.ref b7), .unset, .unset, .unset, .unset] [(.ref b7)]))
      refine own_by (fun _ k => XS.iload X10.here hx rfl (hb hby at_66) rfl k) ?_
      show own_Go _ _ _ _ (T10.setTop (mkF m 68 #[.val (.int p1), .val (.int p2), .val (.int p3), .val (.int p4), .val (.int p5), .val (.int v5_1), .val (.int v6_2), .val (.int v7_3), .val (.int v8_4), .val (.int (0 : Int32)), .val (.int (0 : Int32)), .val (.ref b7), .unset, .unset, .unset, .unset] [(.int v5_1), (.ref b7)]))
      refine own_callV X10 hx hZ hown (hw _ (List.mem_of_getElem? (i := 15) rfl)) (hw _ (List.mem_of_getElem? (i := 16) rfl)) (notFace_of_selects (args := #[]) (mvT hZ (hw _ (List.mem_of_getElem? (i := 18) rfl)))) (hw _ (List.mem_of_getElem? (i := 18) rfl)) (hw _ (List.mem_of_getElem? (i := 17) rfl)) (hw _ (List.mem_of_getElem? (i := 3) rfl)) (hw _ (List.mem_of_getElem? (i := 19) rfl)) (by decide) (rm3 l Z a0 hw [] b7 v5_1 wz10 dz10 1 1 (fun _ => 0) (fun _ => 0) xa h10 n0 Z10 f11 FW10 FH10 AW10 AH10 EH10 ge7 gw10 gh10 naw10 nad10 nwd10 (by decide) (by decide) rfl hxa hbxa) e10 b7 f11 (by rw [hml]; rfl) [(.int v5_1)] [] rfl (lenOf own_pd1 rfl) rfl 0 (Nat.le_of_eq rfl) (by decide) (by decide) (Nat.le_of_ble_eq_true rfl) (Nat.le_of_ble_eq_true rfl) (hb hby at_68) ?_
      intro T14 Lc14 v14 X14 hQ14
      obtain ⟨h14, e14⟩ : ∃ h, T14.heap = h := ⟨_, rfl⟩
      rw [e14] at hQ14
      obtain ⟨rfl, N14q, K14, wz14, dz14, nz14, mz14, fz14, gz14, FW14, FH14, AW14, AH14, EH14, gw14, gh14, naw14, nad14, nwd14, hn114, hn514, hm14, ow14, od14, hbt14⟩ := hQ14
      have N14 := Fr.app N10 N14q
      have f15 := f11.keep K14
      have f20 := EH10.keep K14
      have Z14 := Nat.le_trans Z10 K14.1
      have hbb14 : ∀ y, own_has fz14 nz14 y = (own_has (fun _ => 0) 1 y || decide (y = xa)) := hbt14
      show own_Go _ _ _ _ (T14.setTop (mkF m 71 #[.val (.int p1), .val (.int p2), .val (.int p3), .val (.int p4), .val (.int p5), .val (.int v5_1), .val (.int v6_2), .val (.int v7_3), .val (.int v8_4), .val (.int (0 : Int32)), .val (.int (0 : Int32)), .val (.ref b7), .unset, .unset, .unset, .unset] []))
      refine own_by (fun _ k => XS.iload X14.here hx rfl (hb hby at_71) rfl k) ?_
      show own_Go _ _ _ _ (T14.setTop (mkF m 73 #[.val (.int p1), .val (.int p2), .val (.int p3), .val (.int p4), .val (.int p5), .val (.int v5_1), .val (.int v6_2), .val (.int v7_3), .val (.int v8_4), .val (.int (0 : Int32)), .val (.int (0 : Int32)), .val (.ref b7), .unset, .unset, .unset, .unset] [(.int (0 : Int32))]))
      refine own_by (fun _ k => XS.ifYes X14.here hx rfl (pc0 := 73) (pc' := 83) rfl (hb hby at_73) rfl ((if0 _ _).trans (teq (by decide)).1) (by decide) (by decide) k) ?_
      show own_Go _ _ _ _ (T14.setTop (mkF m 83 #[.val (.int p1), .val (.int p2), .val (.int p3), .val (.int p4), .val (.int p5), .val (.int v5_1), .val (.int v6_2), .val (.int v7_3), .val (.int v8_4), .val (.int (0 : Int32)), .val (.int (0 : Int32)), .val (.ref b7), .unset, .unset, .unset, .unset] []))
      refine own_by (fun _ k => XS.iload X14.here hx rfl (hb hby at_83) rfl k) ?_
      show own_Go _ _ _ _ (T14.setTop (mkF m 85 #[.val (.int p1), .val (.int p2), .val (.int p3), .val (.int p4), .val (.int p5), .val (.int v5_1), .val (.int v6_2), .val (.int v7_3), .val (.int v8_4), .val (.int (0 : Int32)), .val (.int (0 : Int32)), .val (.ref b7), .unset, .unset, .unset, .unset] [(.int (0 : Int32))]))
      refine own_by (fun _ k => XS.ifYes X14.here hx rfl (pc0 := 85) (pc' := 95) rfl (hb hby at_85) rfl ((if0 _ _).trans (teq (by decide)).1) (by decide) (by decide) k) ?_
      show own_Go _ _ _ _ (T14.setTop (mkF m 95 #[.val (.int p1), .val (.int p2), .val (.int p3), .val (.int p4), .val (.int p5), .val (.int v5_1), .val (.int v6_2), .val (.int v7_3), .val (.int v8_4), .val (.int (0 : Int32)), .val (.int (0 : Int32)), .val (.ref b7), .unset, .unset, .unset, .unset] []))
      refine own_by (fun _ k => XS.aload X14.here hx rfl (hb hby at_95) rfl rfl k) ?_
      show own_Go _ _ _ _ (T14.setTop (mkF m 97 #[.val (.int p1), .val (.int p2), .val (.int p3), .val (.int p4), .val (.int p5), .val (.int v5_1), .val (.int v6_2), .val (.int v7_3), .val (.int v8_4), .val (.int (0 : Int32)), .val (.int (0 : Int32)), .val (.ref b7), .unset, .unset, .unset, .unset] [(.ref b7)]))
      refine own_by (fun _ k => XS.iload X14.here hx rfl (hb hby at_97) rfl k) ?_
      show own_Go _ _ _ _ (T14.setTop (mkF m 99 #[.val (.int p1), .val (.int p2), .val (.int p3), .val (.int p4), .val (.int p5), .val (.int v5_1), .val (.int v6_2), .val (.int v7_3), .val (.int v8_4), .val (.int (0 : Int32)), .val (.int (0 : Int32)), .val (.ref b7), .unset, .unset, .unset, .unset] [(.int v8_4), (.ref b7)]))
      refine own_callV X14 hx hZ hown (hw _ (List.mem_of_getElem? (i := 24) rfl)) (hw _ (List.mem_of_getElem? (i := 25) rfl)) (notFace_of_selects (args := #[]) (mvT hZ (hw _ (List.mem_of_getElem? (i := 27) rfl)))) (hw _ (List.mem_of_getElem? (i := 27) rfl)) (hw _ (List.mem_of_getElem? (i := 26) rfl)) (hw _ (List.mem_of_getElem? (i := 3) rfl)) (hw _ (List.mem_of_getElem? (i := 28) rfl)) (by decide) (rm5 l Z a0 hw [] b7 v8_4 wz14 nz14 fz14 xq h14 n0 Z14 FW14 AW14 hn514 hxq) e14 b7 f15 (by rw [hml]; rfl) [(.int v8_4)] [] rfl (lenOf own_pd2 rfl) rfl 0 (Nat.le_of_eq rfl) (by decide) (by decide) (Nat.le_of_ble_eq_true rfl) (Nat.le_of_ble_eq_true rfl) (hb hby at_99) ?_
      intro T21 Lc21 v21 X21 hQ21
      obtain ⟨rfl, N21q, e21⟩ := hQ21
      have N21 := Fr.app N14 N21q
      show own_Go _ _ _ _ (T21.setTop (mkF m 102 #[.val (.int p1), .val (.int p2), .val (.int p3), .val (.int p4), .val (.int p5), .val (.int v5_1), .val (.int v6_2), .val (.int v7_3), .val (.int v8_4), .val (.int (0 : Int32)), .val (.int (0 : Int32)), .val (.ref b7), .unset, .unset, .unset, .unset] [(.int (if own_has fz14 nz14 xq then (1 : Int32) else 0))]))
      refine own_by (fun _ k => XS.iload X21.here hx rfl (hb hby at_102) rfl k) ?_
      show own_Go _ _ _ _ (T21.setTop (mkF m 104 #[.val (.int p1), .val (.int p2), .val (.int p3), .val (.int p4), .val (.int p5), .val (.int v5_1), .val (.int v6_2), .val (.int v7_3), .val (.int v8_4), .val (.int (0 : Int32)), .val (.int (0 : Int32)), .val (.ref b7), .unset, .unset, .unset, .unset] [(.int v8_4), (.int (if own_has fz14 nz14 xq then (1 : Int32) else 0))]))
      refine own_by (fun _ k => XS.iload X21.here hx rfl (hb hby at_104) rfl k) ?_
      show own_Go _ _ _ _ (T21.setTop (mkF m 106 #[.val (.int p1), .val (.int p2), .val (.int p3), .val (.int p4), .val (.int p5), .val (.int v5_1), .val (.int v6_2), .val (.int v7_3), .val (.int v8_4), .val (.int (0 : Int32)), .val (.int (0 : Int32)), .val (.ref b7), .unset, .unset, .unset, .unset] [(.int v5_1), (.int v8_4), (.int (if own_has fz14 nz14 xq then (1 : Int32) else 0))]))
      refine own_by (fun _ k => XS.iload X21.here hx rfl (hb hby at_106) rfl k) ?_
      show own_Go _ _ _ _ (T21.setTop (mkF m 108 #[.val (.int p1), .val (.int p2), .val (.int p3), .val (.int p4), .val (.int p5), .val (.int v5_1), .val (.int v6_2), .val (.int v7_3), .val (.int v8_4), .val (.int (0 : Int32)), .val (.int (0 : Int32)), .val (.ref b7), .unset, .unset, .unset, .unset] [(.int (0 : Int32)), (.int v5_1), (.int v8_4), (.int (if own_has fz14 nz14 xq then (1 : Int32) else 0))]))
      refine own_by (fun _ k => XS.iload X21.here hx rfl (hb hby at_108) rfl k) ?_
      show own_Go _ _ _ _ (T21.setTop (mkF m 110 #[.val (.int p1), .val (.int p2), .val (.int p3), .val (.int p4), .val (.int p5), .val (.int v5_1), .val (.int v6_2), .val (.int v7_3), .val (.int v8_4), .val (.int (0 : Int32)), .val (.int (0 : Int32)), .val (.ref b7), .unset, .unset, .unset, .unset] [(.int v6_2), (.int (0 : Int32)), (.int v5_1), (.int v8_4), (.int (if own_has fz14 nz14 xq then (1 : Int32) else 0))]))
      refine own_by (fun _ k => XS.iload X21.here hx rfl (hb hby at_110) rfl k) ?_
      show own_Go _ _ _ _ (T21.setTop (mkF m 112 #[.val (.int p1), .val (.int p2), .val (.int p3), .val (.int p4), .val (.int p5), .val (.int v5_1), .val (.int v6_2), .val (.int v7_3), .val (.int v8_4), .val (.int (0 : Int32)), .val (.int (0 : Int32)), .val (.ref b7), .unset, .unset, .unset, .unset] [(.int (0 : Int32)), (.int v6_2), (.int (0 : Int32)), (.int v5_1), (.int v8_4), (.int (if own_has fz14 nz14 xq then (1 : Int32) else 0))]))
      refine own_by (fun _ k => XS.iload X21.here hx rfl (hb hby at_112) rfl k) ?_
      show own_Go _ _ _ _ (T21.setTop (mkF m 114 #[.val (.int p1), .val (.int p2), .val (.int p3), .val (.int p4), .val (.int p5), .val (.int v5_1), .val (.int v6_2), .val (.int v7_3), .val (.int v8_4), .val (.int (0 : Int32)), .val (.int (0 : Int32)), .val (.ref b7), .unset, .unset, .unset, .unset] [(.int v7_3), (.int (0 : Int32)), (.int v6_2), (.int (0 : Int32)), (.int v5_1), (.int v8_4), (.int (if own_has fz14 nz14 xq then (1 : Int32) else 0))]))
      refine own_callS X21 hx hZ hown (hw _ (List.mem_of_getElem? (i := 29) rfl)) (hw _ (List.mem_of_getElem? (i := 30) rfl)) (hw _ (List.mem_of_getElem? (i := 31) rfl)) (hw _ (List.mem_of_getElem? (i := 32) rfl)) (by decide) (rm6 l Z a0 hw [] v8_4 v5_1 (0 : Int32) v6_2 (0 : Int32) v7_3 h14 n0 Z14) e21 (by rw [hml]; rfl) [(.int v8_4), (.int v5_1), (.int (0 : Int32)), (.int v6_2), (.int (0 : Int32)), (.int v7_3)] [(.int (if own_has fz14 nz14 xq then (1 : Int32) else 0))] rfl (lenOf own_pd3 rfl) rfl 1 (Nat.le_of_eq rfl) (by decide) (by decide) (Nat.le_of_ble_eq_true rfl) (Nat.le_of_ble_eq_true rfl) (hb hby at_114) ?_
      intro T22 Lc22 v22 X22 hQ22
      obtain ⟨rfl, N22q, e22⟩ := hQ22
      have N22 := Fr.app N21 N22q
      show own_Go _ _ _ _ (T22.setTop (mkF m 117 #[.val (.int p1), .val (.int p2), .val (.int p3), .val (.int p4), .val (.int p5), .val (.int v5_1), .val (.int v6_2), .val (.int v7_3), .val (.int v8_4), .val (.int (0 : Int32)), .val (.int (0 : Int32)), .val (.ref b7), .unset, .unset, .unset, .unset] [(.int (own_exp v8_4 v5_1 (0 : Int32) v6_2 (0 : Int32) v7_3)), (.int (if own_has fz14 nz14 xq then (1 : Int32) else 0))]))
      refine own_by (fun _ k => XS.icmpNo X22.here hx rfl (hb hby at_117) rfl (teq (own_fin fz14 nz14 v8_4 v5_1 v6_2 v7_3 (0 : Int32) (0 : Int32) xq xa xb xc hxq hxa hxb hxc (by rw [hbb14]; rw [hb0]; simp))).2 k) ?_
      show own_Go _ _ _ _ (T22.setTop (mkF m 120 #[.val (.int p1), .val (.int p2), .val (.int p3), .val (.int p4), .val (.int p5), .val (.int v5_1), .val (.int v6_2), .val (.int v7_3), .val (.int v8_4), .val (.int (0 : Int32)), .val (.int (0 : Int32)), .val (.ref b7), .unset, .unset, .unset, .unset] []))
      refine own_by (fun _ k => XS.iconst X22.here hx rfl (hb hby at_120) k) ?_
      show own_Go _ _ _ _ (T22.setTop (mkF m 121 #[.val (.int p1), .val (.int p2), .val (.int p3), .val (.int p4), .val (.int p5), .val (.int v5_1), .val (.int v6_2), .val (.int v7_3), .val (.int v8_4), .val (.int (0 : Int32)), .val (.int (0 : Int32)), .val (.ref b7), .unset, .unset, .unset, .unset] [(.int (1 : Int32))]))
      refine own_by (fun _ k => XS.goto X22.here hx rfl (pc0 := 121) (pc' := 125) rfl (hb hby at_121) (by decide) (by decide) k) ?_
      show own_Go _ _ _ _ (T22.setTop (mkF m 125 #[.val (.int p1), .val (.int p2), .val (.int p3), .val (.int p4), .val (.int p5), .val (.int v5_1), .val (.int v6_2), .val (.int v7_3), .val (.int v8_4), .val (.int (0 : Int32)), .val (.int (0 : Int32)), .val (.ref b7), .unset, .unset, .unset, .unset] [(.int (1 : Int32))]))
      refine own_by (fun _ k => XS.istore X22.here hx rfl (hb hby at_125) rfl (l' := #[.val (.int p1), .val (.int p2), .val (.int p3), .val (.int p4), .val (.int p5), .val (.int v5_1), .val (.int v6_2), .val (.int v7_3), .val (.int v8_4), .val (.int (0 : Int32)), .val (.int (0 : Int32)), .val (.ref b7), .val (.int (1 : Int32)), .unset, .unset, .unset]) rfl k) ?_
      show own_Go _ _ _ _ (T22.setTop (mkF m 127 #[.val (.int p1), .val (.int p2), .val (.int p3), .val (.int p4), .val (.int p5), .val (.int v5_1), .val (.int v6_2), .val (.int v7_3), .val (.int v8_4), .val (.int (0 : Int32)), .val (.int (0 : Int32)), .val (.ref b7), .val (.int (1 : Int32)), .unset, .unset, .unset] []))
      refine own_by (fun _ k => XS.aload X22.here hx rfl (hb hby at_127) rfl rfl k) ?_
      show own_Go _ _ _ _ (T22.setTop (mkF m 129 #[.val (.int p1), .val (.int p2), .val (.int p3), .val (.int p4), .val (.int p5), .val (.int v5_1), .val (.int v6_2), .val (.int v7_3), .val (.int v8_4), .val (.int (0 : Int32)), .val (.int (0 : Int32)), .val (.ref b7), .val (.int (1 : Int32)), .unset, .unset, .unset] [(.ref b7)]))
      refine own_by (fun _ k => XS.iload X22.here hx rfl (hb hby at_129) rfl k) ?_
      show own_Go _ _ _ _ (T22.setTop (mkF m 131 #[.val (.int p1), .val (.int p2), .val (.int p3), .val (.int p4), .val (.int p5), .val (.int v5_1), .val (.int v6_2), .val (.int v7_3), .val (.int v8_4), .val (.int (0 : Int32)), .val (.int (0 : Int32)), .val (.ref b7), .val (.int (1 : Int32)), .unset, .unset, .unset] [(.int v5_1), (.ref b7)]))
      refine own_callV X22 hx hZ hown (hw _ (List.mem_of_getElem? (i := 24) rfl)) (hw _ (List.mem_of_getElem? (i := 25) rfl)) (notFace_of_selects (args := #[]) (mvT hZ (hw _ (List.mem_of_getElem? (i := 27) rfl)))) (hw _ (List.mem_of_getElem? (i := 27) rfl)) (hw _ (List.mem_of_getElem? (i := 26) rfl)) (hw _ (List.mem_of_getElem? (i := 3) rfl)) (hw _ (List.mem_of_getElem? (i := 28) rfl)) (by decide) (rm5 l Z a0 hw [] b7 v5_1 wz14 nz14 fz14 xa h14 n0 Z14 FW14 AW14 hn514 hxa) e22 b7 f15 (by rw [hml]; rfl) [(.int v5_1)] [] rfl (lenOf own_pd2 rfl) rfl 0 (Nat.le_of_eq rfl) (by decide) (by decide) (Nat.le_of_ble_eq_true rfl) (Nat.le_of_ble_eq_true rfl) (hb hby at_131) ?_
      intro T23 Lc23 v23 X23 hQ23
      obtain ⟨rfl, N23q, e23⟩ := hQ23
      have N23 := Fr.app N22 N23q
      show own_Go _ _ _ _ (T23.setTop (mkF m 134 #[.val (.int p1), .val (.int p2), .val (.int p3), .val (.int p4), .val (.int p5), .val (.int v5_1), .val (.int v6_2), .val (.int v7_3), .val (.int v8_4), .val (.int (0 : Int32)), .val (.int (0 : Int32)), .val (.ref b7), .val (.int (1 : Int32)), .unset, .unset, .unset] [(.int (if own_has fz14 nz14 xa then (1 : Int32) else 0))]))
      refine own_by (fun _ k => XS.iload X23.here hx rfl (hb hby at_134) rfl k) ?_
      show own_Go _ _ _ _ (T23.setTop (mkF m 136 #[.val (.int p1), .val (.int p2), .val (.int p3), .val (.int p4), .val (.int p5), .val (.int v5_1), .val (.int v6_2), .val (.int v7_3), .val (.int v8_4), .val (.int (0 : Int32)), .val (.int (0 : Int32)), .val (.ref b7), .val (.int (1 : Int32)), .unset, .unset, .unset] [(.int v5_1), (.int (if own_has fz14 nz14 xa then (1 : Int32) else 0))]))
      refine own_by (fun _ k => XS.iload X23.here hx rfl (hb hby at_136) rfl k) ?_
      show own_Go _ _ _ _ (T23.setTop (mkF m 138 #[.val (.int p1), .val (.int p2), .val (.int p3), .val (.int p4), .val (.int p5), .val (.int v5_1), .val (.int v6_2), .val (.int v7_3), .val (.int v8_4), .val (.int (0 : Int32)), .val (.int (0 : Int32)), .val (.ref b7), .val (.int (1 : Int32)), .unset, .unset, .unset] [(.int v5_1), (.int v5_1), (.int (if own_has fz14 nz14 xa then (1 : Int32) else 0))]))
      refine own_by (fun _ k => XS.iload X23.here hx rfl (hb hby at_138) rfl k) ?_
      show own_Go _ _ _ _ (T23.setTop (mkF m 140 #[.val (.int p1), .val (.int p2), .val (.int p3), .val (.int p4), .val (.int p5), .val (.int v5_1), .val (.int v6_2), .val (.int v7_3), .val (.int v8_4), .val (.int (0 : Int32)), .val (.int (0 : Int32)), .val (.ref b7), .val (.int (1 : Int32)), .unset, .unset, .unset] [(.int (0 : Int32)), (.int v5_1), (.int v5_1), (.int (if own_has fz14 nz14 xa then (1 : Int32) else 0))]))
      refine own_by (fun _ k => XS.iload X23.here hx rfl (hb hby at_140) rfl k) ?_
      show own_Go _ _ _ _ (T23.setTop (mkF m 142 #[.val (.int p1), .val (.int p2), .val (.int p3), .val (.int p4), .val (.int p5), .val (.int v5_1), .val (.int v6_2), .val (.int v7_3), .val (.int v8_4), .val (.int (0 : Int32)), .val (.int (0 : Int32)), .val (.ref b7), .val (.int (1 : Int32)), .unset, .unset, .unset] [(.int v6_2), (.int (0 : Int32)), (.int v5_1), (.int v5_1), (.int (if own_has fz14 nz14 xa then (1 : Int32) else 0))]))
      refine own_by (fun _ k => XS.iload X23.here hx rfl (hb hby at_142) rfl k) ?_
      show own_Go _ _ _ _ (T23.setTop (mkF m 144 #[.val (.int p1), .val (.int p2), .val (.int p3), .val (.int p4), .val (.int p5), .val (.int v5_1), .val (.int v6_2), .val (.int v7_3), .val (.int v8_4), .val (.int (0 : Int32)), .val (.int (0 : Int32)), .val (.ref b7), .val (.int (1 : Int32)), .unset, .unset, .unset] [(.int (0 : Int32)), (.int v6_2), (.int (0 : Int32)), (.int v5_1), (.int v5_1), (.int (if own_has fz14 nz14 xa then (1 : Int32) else 0))]))
      refine own_by (fun _ k => XS.iload X23.here hx rfl (hb hby at_144) rfl k) ?_
      show own_Go _ _ _ _ (T23.setTop (mkF m 146 #[.val (.int p1), .val (.int p2), .val (.int p3), .val (.int p4), .val (.int p5), .val (.int v5_1), .val (.int v6_2), .val (.int v7_3), .val (.int v8_4), .val (.int (0 : Int32)), .val (.int (0 : Int32)), .val (.ref b7), .val (.int (1 : Int32)), .unset, .unset, .unset] [(.int v7_3), (.int (0 : Int32)), (.int v6_2), (.int (0 : Int32)), (.int v5_1), (.int v5_1), (.int (if own_has fz14 nz14 xa then (1 : Int32) else 0))]))
      refine own_callS X23 hx hZ hown (hw _ (List.mem_of_getElem? (i := 29) rfl)) (hw _ (List.mem_of_getElem? (i := 30) rfl)) (hw _ (List.mem_of_getElem? (i := 31) rfl)) (hw _ (List.mem_of_getElem? (i := 32) rfl)) (by decide) (rm6 l Z a0 hw [] v5_1 v5_1 (0 : Int32) v6_2 (0 : Int32) v7_3 h14 n0 Z14) e23 (by rw [hml]; rfl) [(.int v5_1), (.int v5_1), (.int (0 : Int32)), (.int v6_2), (.int (0 : Int32)), (.int v7_3)] [(.int (if own_has fz14 nz14 xa then (1 : Int32) else 0))] rfl (lenOf own_pd3 rfl) rfl 1 (Nat.le_of_eq rfl) (by decide) (by decide) (Nat.le_of_ble_eq_true rfl) (Nat.le_of_ble_eq_true rfl) (hb hby at_146) ?_
      intro T24 Lc24 v24 X24 hQ24
      obtain ⟨rfl, N24q, e24⟩ := hQ24
      have N24 := Fr.app N23 N24q
      show own_Go _ _ _ _ (T24.setTop (mkF m 149 #[.val (.int p1), .val (.int p2), .val (.int p3), .val (.int p4), .val (.int p5), .val (.int v5_1), .val (.int v6_2), .val (.int v7_3), .val (.int v8_4), .val (.int (0 : Int32)), .val (.int (0 : Int32)), .val (.ref b7), .val (.int (1 : Int32)), .unset, .unset, .unset] [(.int (own_exp v5_1 v5_1 (0 : Int32) v6_2 (0 : Int32) v7_3)), (.int (if own_has fz14 nz14 xa then (1 : Int32) else 0))]))
      refine own_by (fun _ k => XS.icmpNo X24.here hx rfl (hb hby at_149) rfl (teq (own_fin fz14 nz14 v5_1 v5_1 v6_2 v7_3 (0 : Int32) (0 : Int32) xa xa xb xc hxa hxa hxb hxc (by rw [hbb14]; rw [hb0]; simp))).2 k) ?_
      show own_Go _ _ _ _ (T24.setTop (mkF m 152 #[.val (.int p1), .val (.int p2), .val (.int p3), .val (.int p4), .val (.int p5), .val (.int v5_1), .val (.int v6_2), .val (.int v7_3), .val (.int v8_4), .val (.int (0 : Int32)), .val (.int (0 : Int32)), .val (.ref b7), .val (.int (1 : Int32)), .unset, .unset, .unset] []))
      refine own_by (fun _ k => XS.iconst X24.here hx rfl (hb hby at_152) k) ?_
      show own_Go _ _ _ _ (T24.setTop (mkF m 153 #[.val (.int p1), .val (.int p2), .val (.int p3), .val (.int p4), .val (.int p5), .val (.int v5_1), .val (.int v6_2), .val (.int v7_3), .val (.int v8_4), .val (.int (0 : Int32)), .val (.int (0 : Int32)), .val (.ref b7), .val (.int (1 : Int32)), .unset, .unset, .unset] [(.int (1 : Int32))]))
      refine own_by (fun _ k => XS.goto X24.here hx rfl (pc0 := 153) (pc' := 157) rfl (hb hby at_153) (by decide) (by decide) k) ?_
      show own_Go _ _ _ _ (T24.setTop (mkF m 157 #[.val (.int p1), .val (.int p2), .val (.int p3), .val (.int p4), .val (.int p5), .val (.int v5_1), .val (.int v6_2), .val (.int v7_3), .val (.int v8_4), .val (.int (0 : Int32)), .val (.int (0 : Int32)), .val (.ref b7), .val (.int (1 : Int32)), .unset, .unset, .unset] [(.int (1 : Int32))]))
      refine own_by (fun _ k => XS.istore X24.here hx rfl (hb hby at_157) rfl (l' := #[.val (.int p1), .val (.int p2), .val (.int p3), .val (.int p4), .val (.int p5), .val (.int v5_1), .val (.int v6_2), .val (.int v7_3), .val (.int v8_4), .val (.int (0 : Int32)), .val (.int (0 : Int32)), .val (.ref b7), .val (.int (1 : Int32)), .val (.int (1 : Int32)), .unset, .unset]) rfl k) ?_
      show own_Go _ _ _ _ (T24.setTop (mkF m 159 #[.val (.int p1), .val (.int p2), .val (.int p3), .val (.int p4), .val (.int p5), .val (.int v5_1), .val (.int v6_2), .val (.int v7_3), .val (.int v8_4), .val (.int (0 : Int32)), .val (.int (0 : Int32)), .val (.ref b7), .val (.int (1 : Int32)), .val (.int (1 : Int32)), .unset, .unset] []))
      refine own_by (fun _ k => XS.aload X24.here hx rfl (hb hby at_159) rfl rfl k) ?_
      show own_Go _ _ _ _ (T24.setTop (mkF m 161 #[.val (.int p1), .val (.int p2), .val (.int p3), .val (.int p4), .val (.int p5), .val (.int v5_1), .val (.int v6_2), .val (.int v7_3), .val (.int v8_4), .val (.int (0 : Int32)), .val (.int (0 : Int32)), .val (.ref b7), .val (.int (1 : Int32)), .val (.int (1 : Int32)), .unset, .unset] [(.ref b7)]))
      refine own_by (fun _ k => XS.iload X24.here hx rfl (hb hby at_161) rfl k) ?_
      show own_Go _ _ _ _ (T24.setTop (mkF m 163 #[.val (.int p1), .val (.int p2), .val (.int p3), .val (.int p4), .val (.int p5), .val (.int v5_1), .val (.int v6_2), .val (.int v7_3), .val (.int v8_4), .val (.int (0 : Int32)), .val (.int (0 : Int32)), .val (.ref b7), .val (.int (1 : Int32)), .val (.int (1 : Int32)), .unset, .unset] [(.int v6_2), (.ref b7)]))
      refine own_callV X24 hx hZ hown (hw _ (List.mem_of_getElem? (i := 24) rfl)) (hw _ (List.mem_of_getElem? (i := 25) rfl)) (notFace_of_selects (args := #[]) (mvT hZ (hw _ (List.mem_of_getElem? (i := 27) rfl)))) (hw _ (List.mem_of_getElem? (i := 27) rfl)) (hw _ (List.mem_of_getElem? (i := 26) rfl)) (hw _ (List.mem_of_getElem? (i := 3) rfl)) (hw _ (List.mem_of_getElem? (i := 28) rfl)) (by decide) (rm5 l Z a0 hw [] b7 v6_2 wz14 nz14 fz14 xb h14 n0 Z14 FW14 AW14 hn514 hxb) e24 b7 f15 (by rw [hml]; rfl) [(.int v6_2)] [] rfl (lenOf own_pd2 rfl) rfl 0 (Nat.le_of_eq rfl) (by decide) (by decide) (Nat.le_of_ble_eq_true rfl) (Nat.le_of_ble_eq_true rfl) (hb hby at_163) ?_
      intro T25 Lc25 v25 X25 hQ25
      obtain ⟨rfl, N25q, e25⟩ := hQ25
      have N25 := Fr.app N24 N25q
      show own_Go _ _ _ _ (T25.setTop (mkF m 166 #[.val (.int p1), .val (.int p2), .val (.int p3), .val (.int p4), .val (.int p5), .val (.int v5_1), .val (.int v6_2), .val (.int v7_3), .val (.int v8_4), .val (.int (0 : Int32)), .val (.int (0 : Int32)), .val (.ref b7), .val (.int (1 : Int32)), .val (.int (1 : Int32)), .unset, .unset] [(.int (if own_has fz14 nz14 xb then (1 : Int32) else 0))]))
      refine own_by (fun _ k => XS.iload X25.here hx rfl (hb hby at_166) rfl k) ?_
      show own_Go _ _ _ _ (T25.setTop (mkF m 168 #[.val (.int p1), .val (.int p2), .val (.int p3), .val (.int p4), .val (.int p5), .val (.int v5_1), .val (.int v6_2), .val (.int v7_3), .val (.int v8_4), .val (.int (0 : Int32)), .val (.int (0 : Int32)), .val (.ref b7), .val (.int (1 : Int32)), .val (.int (1 : Int32)), .unset, .unset] [(.int v6_2), (.int (if own_has fz14 nz14 xb then (1 : Int32) else 0))]))
      refine own_by (fun _ k => XS.iload X25.here hx rfl (hb hby at_168) rfl k) ?_
      show own_Go _ _ _ _ (T25.setTop (mkF m 170 #[.val (.int p1), .val (.int p2), .val (.int p3), .val (.int p4), .val (.int p5), .val (.int v5_1), .val (.int v6_2), .val (.int v7_3), .val (.int v8_4), .val (.int (0 : Int32)), .val (.int (0 : Int32)), .val (.ref b7), .val (.int (1 : Int32)), .val (.int (1 : Int32)), .unset, .unset] [(.int v5_1), (.int v6_2), (.int (if own_has fz14 nz14 xb then (1 : Int32) else 0))]))
      refine own_by (fun _ k => XS.iload X25.here hx rfl (hb hby at_170) rfl k) ?_
      show own_Go _ _ _ _ (T25.setTop (mkF m 172 #[.val (.int p1), .val (.int p2), .val (.int p3), .val (.int p4), .val (.int p5), .val (.int v5_1), .val (.int v6_2), .val (.int v7_3), .val (.int v8_4), .val (.int (0 : Int32)), .val (.int (0 : Int32)), .val (.ref b7), .val (.int (1 : Int32)), .val (.int (1 : Int32)), .unset, .unset] [(.int (0 : Int32)), (.int v5_1), (.int v6_2), (.int (if own_has fz14 nz14 xb then (1 : Int32) else 0))]))
      refine own_by (fun _ k => XS.iload X25.here hx rfl (hb hby at_172) rfl k) ?_
      show own_Go _ _ _ _ (T25.setTop (mkF m 174 #[.val (.int p1), .val (.int p2), .val (.int p3), .val (.int p4), .val (.int p5), .val (.int v5_1), .val (.int v6_2), .val (.int v7_3), .val (.int v8_4), .val (.int (0 : Int32)), .val (.int (0 : Int32)), .val (.ref b7), .val (.int (1 : Int32)), .val (.int (1 : Int32)), .unset, .unset] [(.int v6_2), (.int (0 : Int32)), (.int v5_1), (.int v6_2), (.int (if own_has fz14 nz14 xb then (1 : Int32) else 0))]))
      refine own_by (fun _ k => XS.iload X25.here hx rfl (hb hby at_174) rfl k) ?_
      show own_Go _ _ _ _ (T25.setTop (mkF m 176 #[.val (.int p1), .val (.int p2), .val (.int p3), .val (.int p4), .val (.int p5), .val (.int v5_1), .val (.int v6_2), .val (.int v7_3), .val (.int v8_4), .val (.int (0 : Int32)), .val (.int (0 : Int32)), .val (.ref b7), .val (.int (1 : Int32)), .val (.int (1 : Int32)), .unset, .unset] [(.int (0 : Int32)), (.int v6_2), (.int (0 : Int32)), (.int v5_1), (.int v6_2), (.int (if own_has fz14 nz14 xb then (1 : Int32) else 0))]))
      refine own_by (fun _ k => XS.iload X25.here hx rfl (hb hby at_176) rfl k) ?_
      show own_Go _ _ _ _ (T25.setTop (mkF m 178 #[.val (.int p1), .val (.int p2), .val (.int p3), .val (.int p4), .val (.int p5), .val (.int v5_1), .val (.int v6_2), .val (.int v7_3), .val (.int v8_4), .val (.int (0 : Int32)), .val (.int (0 : Int32)), .val (.ref b7), .val (.int (1 : Int32)), .val (.int (1 : Int32)), .unset, .unset] [(.int v7_3), (.int (0 : Int32)), (.int v6_2), (.int (0 : Int32)), (.int v5_1), (.int v6_2), (.int (if own_has fz14 nz14 xb then (1 : Int32) else 0))]))
      refine own_callS X25 hx hZ hown (hw _ (List.mem_of_getElem? (i := 29) rfl)) (hw _ (List.mem_of_getElem? (i := 30) rfl)) (hw _ (List.mem_of_getElem? (i := 31) rfl)) (hw _ (List.mem_of_getElem? (i := 32) rfl)) (by decide) (rm6 l Z a0 hw [] v6_2 v5_1 (0 : Int32) v6_2 (0 : Int32) v7_3 h14 n0 Z14) e25 (by rw [hml]; rfl) [(.int v6_2), (.int v5_1), (.int (0 : Int32)), (.int v6_2), (.int (0 : Int32)), (.int v7_3)] [(.int (if own_has fz14 nz14 xb then (1 : Int32) else 0))] rfl (lenOf own_pd3 rfl) rfl 1 (Nat.le_of_eq rfl) (by decide) (by decide) (Nat.le_of_ble_eq_true rfl) (Nat.le_of_ble_eq_true rfl) (hb hby at_178) ?_
      intro T26 Lc26 v26 X26 hQ26
      obtain ⟨rfl, N26q, e26⟩ := hQ26
      have N26 := Fr.app N25 N26q
      show own_Go _ _ _ _ (T26.setTop (mkF m 181 #[.val (.int p1), .val (.int p2), .val (.int p3), .val (.int p4), .val (.int p5), .val (.int v5_1), .val (.int v6_2), .val (.int v7_3), .val (.int v8_4), .val (.int (0 : Int32)), .val (.int (0 : Int32)), .val (.ref b7), .val (.int (1 : Int32)), .val (.int (1 : Int32)), .unset, .unset] [(.int (own_exp v6_2 v5_1 (0 : Int32) v6_2 (0 : Int32) v7_3)), (.int (if own_has fz14 nz14 xb then (1 : Int32) else 0))]))
      refine own_by (fun _ k => XS.icmpNo X26.here hx rfl (hb hby at_181) rfl (teq (own_fin fz14 nz14 v6_2 v5_1 v6_2 v7_3 (0 : Int32) (0 : Int32) xb xa xb xc hxb hxa hxb hxc (by rw [hbb14]; rw [hb0]; simp))).2 k) ?_
      show own_Go _ _ _ _ (T26.setTop (mkF m 184 #[.val (.int p1), .val (.int p2), .val (.int p3), .val (.int p4), .val (.int p5), .val (.int v5_1), .val (.int v6_2), .val (.int v7_3), .val (.int v8_4), .val (.int (0 : Int32)), .val (.int (0 : Int32)), .val (.ref b7), .val (.int (1 : Int32)), .val (.int (1 : Int32)), .unset, .unset] []))
      refine own_by (fun _ k => XS.iconst X26.here hx rfl (hb hby at_184) k) ?_
      show own_Go _ _ _ _ (T26.setTop (mkF m 185 #[.val (.int p1), .val (.int p2), .val (.int p3), .val (.int p4), .val (.int p5), .val (.int v5_1), .val (.int v6_2), .val (.int v7_3), .val (.int v8_4), .val (.int (0 : Int32)), .val (.int (0 : Int32)), .val (.ref b7), .val (.int (1 : Int32)), .val (.int (1 : Int32)), .unset, .unset] [(.int (1 : Int32))]))
      refine own_by (fun _ k => XS.goto X26.here hx rfl (pc0 := 185) (pc' := 189) rfl (hb hby at_185) (by decide) (by decide) k) ?_
      show own_Go _ _ _ _ (T26.setTop (mkF m 189 #[.val (.int p1), .val (.int p2), .val (.int p3), .val (.int p4), .val (.int p5), .val (.int v5_1), .val (.int v6_2), .val (.int v7_3), .val (.int v8_4), .val (.int (0 : Int32)), .val (.int (0 : Int32)), .val (.ref b7), .val (.int (1 : Int32)), .val (.int (1 : Int32)), .unset, .unset] [(.int (1 : Int32))]))
      refine own_by (fun _ k => XS.istore X26.here hx rfl (hb hby at_189) rfl (l' := #[.val (.int p1), .val (.int p2), .val (.int p3), .val (.int p4), .val (.int p5), .val (.int v5_1), .val (.int v6_2), .val (.int v7_3), .val (.int v8_4), .val (.int (0 : Int32)), .val (.int (0 : Int32)), .val (.ref b7), .val (.int (1 : Int32)), .val (.int (1 : Int32)), .val (.int (1 : Int32)), .unset]) rfl k) ?_
      show own_Go _ _ _ _ (T26.setTop (mkF m 191 #[.val (.int p1), .val (.int p2), .val (.int p3), .val (.int p4), .val (.int p5), .val (.int v5_1), .val (.int v6_2), .val (.int v7_3), .val (.int v8_4), .val (.int (0 : Int32)), .val (.int (0 : Int32)), .val (.ref b7), .val (.int (1 : Int32)), .val (.int (1 : Int32)), .val (.int (1 : Int32)), .unset] []))
      refine own_by (fun _ k => XS.aload X26.here hx rfl (hb hby at_191) rfl rfl k) ?_
      show own_Go _ _ _ _ (T26.setTop (mkF m 193 #[.val (.int p1), .val (.int p2), .val (.int p3), .val (.int p4), .val (.int p5), .val (.int v5_1), .val (.int v6_2), .val (.int v7_3), .val (.int v8_4), .val (.int (0 : Int32)), .val (.int (0 : Int32)), .val (.ref b7), .val (.int (1 : Int32)), .val (.int (1 : Int32)), .val (.int (1 : Int32)), .unset] [(.ref b7)]))
      refine own_by (fun _ k => XS.iload X26.here hx rfl (hb hby at_193) rfl k) ?_
      show own_Go _ _ _ _ (T26.setTop (mkF m 195 #[.val (.int p1), .val (.int p2), .val (.int p3), .val (.int p4), .val (.int p5), .val (.int v5_1), .val (.int v6_2), .val (.int v7_3), .val (.int v8_4), .val (.int (0 : Int32)), .val (.int (0 : Int32)), .val (.ref b7), .val (.int (1 : Int32)), .val (.int (1 : Int32)), .val (.int (1 : Int32)), .unset] [(.int v7_3), (.ref b7)]))
      refine own_callV X26 hx hZ hown (hw _ (List.mem_of_getElem? (i := 24) rfl)) (hw _ (List.mem_of_getElem? (i := 25) rfl)) (notFace_of_selects (args := #[]) (mvT hZ (hw _ (List.mem_of_getElem? (i := 27) rfl)))) (hw _ (List.mem_of_getElem? (i := 27) rfl)) (hw _ (List.mem_of_getElem? (i := 26) rfl)) (hw _ (List.mem_of_getElem? (i := 3) rfl)) (hw _ (List.mem_of_getElem? (i := 28) rfl)) (by decide) (rm5 l Z a0 hw [] b7 v7_3 wz14 nz14 fz14 xc h14 n0 Z14 FW14 AW14 hn514 hxc) e26 b7 f15 (by rw [hml]; rfl) [(.int v7_3)] [] rfl (lenOf own_pd2 rfl) rfl 0 (Nat.le_of_eq rfl) (by decide) (by decide) (Nat.le_of_ble_eq_true rfl) (Nat.le_of_ble_eq_true rfl) (hb hby at_195) ?_
      intro T27 Lc27 v27 X27 hQ27
      obtain ⟨rfl, N27q, e27⟩ := hQ27
      have N27 := Fr.app N26 N27q
      show own_Go _ _ _ _ (T27.setTop (mkF m 198 #[.val (.int p1), .val (.int p2), .val (.int p3), .val (.int p4), .val (.int p5), .val (.int v5_1), .val (.int v6_2), .val (.int v7_3), .val (.int v8_4), .val (.int (0 : Int32)), .val (.int (0 : Int32)), .val (.ref b7), .val (.int (1 : Int32)), .val (.int (1 : Int32)), .val (.int (1 : Int32)), .unset] [(.int (if own_has fz14 nz14 xc then (1 : Int32) else 0))]))
      refine own_by (fun _ k => XS.iload X27.here hx rfl (hb hby at_198) rfl k) ?_
      show own_Go _ _ _ _ (T27.setTop (mkF m 200 #[.val (.int p1), .val (.int p2), .val (.int p3), .val (.int p4), .val (.int p5), .val (.int v5_1), .val (.int v6_2), .val (.int v7_3), .val (.int v8_4), .val (.int (0 : Int32)), .val (.int (0 : Int32)), .val (.ref b7), .val (.int (1 : Int32)), .val (.int (1 : Int32)), .val (.int (1 : Int32)), .unset] [(.int v7_3), (.int (if own_has fz14 nz14 xc then (1 : Int32) else 0))]))
      refine own_by (fun _ k => XS.iload X27.here hx rfl (hb hby at_200) rfl k) ?_
      show own_Go _ _ _ _ (T27.setTop (mkF m 202 #[.val (.int p1), .val (.int p2), .val (.int p3), .val (.int p4), .val (.int p5), .val (.int v5_1), .val (.int v6_2), .val (.int v7_3), .val (.int v8_4), .val (.int (0 : Int32)), .val (.int (0 : Int32)), .val (.ref b7), .val (.int (1 : Int32)), .val (.int (1 : Int32)), .val (.int (1 : Int32)), .unset] [(.int v5_1), (.int v7_3), (.int (if own_has fz14 nz14 xc then (1 : Int32) else 0))]))
      refine own_by (fun _ k => XS.iload X27.here hx rfl (hb hby at_202) rfl k) ?_
      show own_Go _ _ _ _ (T27.setTop (mkF m 204 #[.val (.int p1), .val (.int p2), .val (.int p3), .val (.int p4), .val (.int p5), .val (.int v5_1), .val (.int v6_2), .val (.int v7_3), .val (.int v8_4), .val (.int (0 : Int32)), .val (.int (0 : Int32)), .val (.ref b7), .val (.int (1 : Int32)), .val (.int (1 : Int32)), .val (.int (1 : Int32)), .unset] [(.int (0 : Int32)), (.int v5_1), (.int v7_3), (.int (if own_has fz14 nz14 xc then (1 : Int32) else 0))]))
      refine own_by (fun _ k => XS.iload X27.here hx rfl (hb hby at_204) rfl k) ?_
      show own_Go _ _ _ _ (T27.setTop (mkF m 206 #[.val (.int p1), .val (.int p2), .val (.int p3), .val (.int p4), .val (.int p5), .val (.int v5_1), .val (.int v6_2), .val (.int v7_3), .val (.int v8_4), .val (.int (0 : Int32)), .val (.int (0 : Int32)), .val (.ref b7), .val (.int (1 : Int32)), .val (.int (1 : Int32)), .val (.int (1 : Int32)), .unset] [(.int v6_2), (.int (0 : Int32)), (.int v5_1), (.int v7_3), (.int (if own_has fz14 nz14 xc then (1 : Int32) else 0))]))
      refine own_by (fun _ k => XS.iload X27.here hx rfl (hb hby at_206) rfl k) ?_
      show own_Go _ _ _ _ (T27.setTop (mkF m 208 #[.val (.int p1), .val (.int p2), .val (.int p3), .val (.int p4), .val (.int p5), .val (.int v5_1), .val (.int v6_2), .val (.int v7_3), .val (.int v8_4), .val (.int (0 : Int32)), .val (.int (0 : Int32)), .val (.ref b7), .val (.int (1 : Int32)), .val (.int (1 : Int32)), .val (.int (1 : Int32)), .unset] [(.int (0 : Int32)), (.int v6_2), (.int (0 : Int32)), (.int v5_1), (.int v7_3), (.int (if own_has fz14 nz14 xc then (1 : Int32) else 0))]))
      refine own_by (fun _ k => XS.iload X27.here hx rfl (hb hby at_208) rfl k) ?_
      show own_Go _ _ _ _ (T27.setTop (mkF m 210 #[.val (.int p1), .val (.int p2), .val (.int p3), .val (.int p4), .val (.int p5), .val (.int v5_1), .val (.int v6_2), .val (.int v7_3), .val (.int v8_4), .val (.int (0 : Int32)), .val (.int (0 : Int32)), .val (.ref b7), .val (.int (1 : Int32)), .val (.int (1 : Int32)), .val (.int (1 : Int32)), .unset] [(.int v7_3), (.int (0 : Int32)), (.int v6_2), (.int (0 : Int32)), (.int v5_1), (.int v7_3), (.int (if own_has fz14 nz14 xc then (1 : Int32) else 0))]))
      refine own_callS X27 hx hZ hown (hw _ (List.mem_of_getElem? (i := 29) rfl)) (hw _ (List.mem_of_getElem? (i := 30) rfl)) (hw _ (List.mem_of_getElem? (i := 31) rfl)) (hw _ (List.mem_of_getElem? (i := 32) rfl)) (by decide) (rm6 l Z a0 hw [] v7_3 v5_1 (0 : Int32) v6_2 (0 : Int32) v7_3 h14 n0 Z14) e27 (by rw [hml]; rfl) [(.int v7_3), (.int v5_1), (.int (0 : Int32)), (.int v6_2), (.int (0 : Int32)), (.int v7_3)] [(.int (if own_has fz14 nz14 xc then (1 : Int32) else 0))] rfl (lenOf own_pd3 rfl) rfl 1 (Nat.le_of_eq rfl) (by decide) (by decide) (Nat.le_of_ble_eq_true rfl) (Nat.le_of_ble_eq_true rfl) (hb hby at_210) ?_
      intro T28 Lc28 v28 X28 hQ28
      obtain ⟨rfl, N28q, e28⟩ := hQ28
      have N28 := Fr.app N27 N28q
      show own_Go _ _ _ _ (T28.setTop (mkF m 213 #[.val (.int p1), .val (.int p2), .val (.int p3), .val (.int p4), .val (.int p5), .val (.int v5_1), .val (.int v6_2), .val (.int v7_3), .val (.int v8_4), .val (.int (0 : Int32)), .val (.int (0 : Int32)), .val (.ref b7), .val (.int (1 : Int32)), .val (.int (1 : Int32)), .val (.int (1 : Int32)), .unset] [(.int (own_exp v7_3 v5_1 (0 : Int32) v6_2 (0 : Int32) v7_3)), (.int (if own_has fz14 nz14 xc then (1 : Int32) else 0))]))
      refine own_by (fun _ k => XS.icmpNo X28.here hx rfl (hb hby at_213) rfl (teq (own_fin fz14 nz14 v7_3 v5_1 v6_2 v7_3 (0 : Int32) (0 : Int32) xc xa xb xc hxc hxa hxb hxc (by rw [hbb14]; rw [hb0]; simp))).2 k) ?_
      show own_Go _ _ _ _ (T28.setTop (mkF m 216 #[.val (.int p1), .val (.int p2), .val (.int p3), .val (.int p4), .val (.int p5), .val (.int v5_1), .val (.int v6_2), .val (.int v7_3), .val (.int v8_4), .val (.int (0 : Int32)), .val (.int (0 : Int32)), .val (.ref b7), .val (.int (1 : Int32)), .val (.int (1 : Int32)), .val (.int (1 : Int32)), .unset] []))
      refine own_by (fun _ k => XS.iconst X28.here hx rfl (hb hby at_216) k) ?_
      show own_Go _ _ _ _ (T28.setTop (mkF m 217 #[.val (.int p1), .val (.int p2), .val (.int p3), .val (.int p4), .val (.int p5), .val (.int v5_1), .val (.int v6_2), .val (.int v7_3), .val (.int v8_4), .val (.int (0 : Int32)), .val (.int (0 : Int32)), .val (.ref b7), .val (.int (1 : Int32)), .val (.int (1 : Int32)), .val (.int (1 : Int32)), .unset] [(.int (1 : Int32))]))
      refine own_by (fun _ k => XS.goto X28.here hx rfl (pc0 := 217) (pc' := 221) rfl (hb hby at_217) (by decide) (by decide) k) ?_
      show own_Go _ _ _ _ (T28.setTop (mkF m 221 #[.val (.int p1), .val (.int p2), .val (.int p3), .val (.int p4), .val (.int p5), .val (.int v5_1), .val (.int v6_2), .val (.int v7_3), .val (.int v8_4), .val (.int (0 : Int32)), .val (.int (0 : Int32)), .val (.ref b7), .val (.int (1 : Int32)), .val (.int (1 : Int32)), .val (.int (1 : Int32)), .unset] [(.int (1 : Int32))]))
      refine own_by (fun _ k => XS.istore X28.here hx rfl (hb hby at_221) rfl (l' := #[.val (.int p1), .val (.int p2), .val (.int p3), .val (.int p4), .val (.int p5), .val (.int v5_1), .val (.int v6_2), .val (.int v7_3), .val (.int v8_4), .val (.int (0 : Int32)), .val (.int (0 : Int32)), .val (.ref b7), .val (.int (1 : Int32)), .val (.int (1 : Int32)), .val (.int (1 : Int32)), .val (.int (1 : Int32))]) rfl k) ?_
      show own_Go _ _ _ _ (T28.setTop (mkF m 223 #[.val (.int p1), .val (.int p2), .val (.int p3), .val (.int p4), .val (.int p5), .val (.int v5_1), .val (.int v6_2), .val (.int v7_3), .val (.int v8_4), .val (.int (0 : Int32)), .val (.int (0 : Int32)), .val (.ref b7), .val (.int (1 : Int32)), .val (.int (1 : Int32)), .val (.int (1 : Int32)), .val (.int (1 : Int32))] []))
      refine own_by (fun _ k => XS.iload X28.here hx rfl (hb hby at_223) rfl k) ?_
      show own_Go _ _ _ _ (T28.setTop (mkF m 225 #[.val (.int p1), .val (.int p2), .val (.int p3), .val (.int p4), .val (.int p5), .val (.int v5_1), .val (.int v6_2), .val (.int v7_3), .val (.int v8_4), .val (.int (0 : Int32)), .val (.int (0 : Int32)), .val (.ref b7), .val (.int (1 : Int32)), .val (.int (1 : Int32)), .val (.int (1 : Int32)), .val (.int (1 : Int32))] [(.int (1 : Int32))]))
      refine own_by (fun _ k => XS.ifNo X28.here hx rfl (hb hby at_225) rfl ((if0 _ _).trans (feq (by decide)).1) k) ?_
      show own_Go _ _ _ _ (T28.setTop (mkF m 228 #[.val (.int p1), .val (.int p2), .val (.int p3), .val (.int p4), .val (.int p5), .val (.int v5_1), .val (.int v6_2), .val (.int v7_3), .val (.int v8_4), .val (.int (0 : Int32)), .val (.int (0 : Int32)), .val (.ref b7), .val (.int (1 : Int32)), .val (.int (1 : Int32)), .val (.int (1 : Int32)), .val (.int (1 : Int32))] []))
      refine own_by (fun _ k => XS.iload X28.here hx rfl (hb hby at_228) rfl k) ?_
      show own_Go _ _ _ _ (T28.setTop (mkF m 230 #[.val (.int p1), .val (.int p2), .val (.int p3), .val (.int p4), .val (.int p5), .val (.int v5_1), .val (.int v6_2), .val (.int v7_3), .val (.int v8_4), .val (.int (0 : Int32)), .val (.int (0 : Int32)), .val (.ref b7), .val (.int (1 : Int32)), .val (.int (1 : Int32)), .val (.int (1 : Int32)), .val (.int (1 : Int32))] [(.int (1 : Int32))]))
      refine own_by (fun _ k => XS.ifNo X28.here hx rfl (hb hby at_230) rfl ((if0 _ _).trans (feq (by decide)).1) k) ?_
      show own_Go _ _ _ _ (T28.setTop (mkF m 233 #[.val (.int p1), .val (.int p2), .val (.int p3), .val (.int p4), .val (.int p5), .val (.int v5_1), .val (.int v6_2), .val (.int v7_3), .val (.int v8_4), .val (.int (0 : Int32)), .val (.int (0 : Int32)), .val (.ref b7), .val (.int (1 : Int32)), .val (.int (1 : Int32)), .val (.int (1 : Int32)), .val (.int (1 : Int32))] []))
      refine own_by (fun _ k => XS.iload X28.here hx rfl (hb hby at_233) rfl k) ?_
      show own_Go _ _ _ _ (T28.setTop (mkF m 235 #[.val (.int p1), .val (.int p2), .val (.int p3), .val (.int p4), .val (.int p5), .val (.int v5_1), .val (.int v6_2), .val (.int v7_3), .val (.int v8_4), .val (.int (0 : Int32)), .val (.int (0 : Int32)), .val (.ref b7), .val (.int (1 : Int32)), .val (.int (1 : Int32)), .val (.int (1 : Int32)), .val (.int (1 : Int32))] [(.int (1 : Int32))]))
      refine own_by (fun _ k => XS.ifNo X28.here hx rfl (hb hby at_235) rfl ((if0 _ _).trans (feq (by decide)).1) k) ?_
      show own_Go _ _ _ _ (T28.setTop (mkF m 238 #[.val (.int p1), .val (.int p2), .val (.int p3), .val (.int p4), .val (.int p5), .val (.int v5_1), .val (.int v6_2), .val (.int v7_3), .val (.int v8_4), .val (.int (0 : Int32)), .val (.int (0 : Int32)), .val (.ref b7), .val (.int (1 : Int32)), .val (.int (1 : Int32)), .val (.int (1 : Int32)), .val (.int (1 : Int32))] []))
      refine own_by (fun _ k => XS.iload X28.here hx rfl (hb hby at_238) rfl k) ?_
      show own_Go _ _ _ _ (T28.setTop (mkF m 240 #[.val (.int p1), .val (.int p2), .val (.int p3), .val (.int p4), .val (.int p5), .val (.int v5_1), .val (.int v6_2), .val (.int v7_3), .val (.int v8_4), .val (.int (0 : Int32)), .val (.int (0 : Int32)), .val (.ref b7), .val (.int (1 : Int32)), .val (.int (1 : Int32)), .val (.int (1 : Int32)), .val (.int (1 : Int32))] [(.int (1 : Int32))]))
      refine own_by (fun _ k => XS.ifNo X28.here hx rfl (hb hby at_240) rfl ((if0 _ _).trans (feq (by decide)).1) k) ?_
      show own_Go _ _ _ _ (T28.setTop (mkF m 243 #[.val (.int p1), .val (.int p2), .val (.int p3), .val (.int p4), .val (.int p5), .val (.int v5_1), .val (.int v6_2), .val (.int v7_3), .val (.int v8_4), .val (.int (0 : Int32)), .val (.int (0 : Int32)), .val (.ref b7), .val (.int (1 : Int32)), .val (.int (1 : Int32)), .val (.int (1 : Int32)), .val (.int (1 : Int32))] []))
      refine own_by (fun _ k => XS.iconst X28.here hx rfl (hb hby at_243) k) ?_
      show own_Go _ _ _ _ (T28.setTop (mkF m 244 #[.val (.int p1), .val (.int p2), .val (.int p3), .val (.int p4), .val (.int p5), .val (.int v5_1), .val (.int v6_2), .val (.int v7_3), .val (.int v8_4), .val (.int (0 : Int32)), .val (.int (0 : Int32)), .val (.ref b7), .val (.int (1 : Int32)), .val (.int (1 : Int32)), .val (.int (1 : Int32)), .val (.int (1 : Int32))] [(.int (1 : Int32))]))
      refine own_by (fun _ k => XS.goto X28.here hx rfl (pc0 := 244) (pc' := 248) rfl (hb hby at_244) (by decide) (by decide) k) ?_
      show own_Go _ _ _ _ (T28.setTop (mkF m 248 #[.val (.int p1), .val (.int p2), .val (.int p3), .val (.int p4), .val (.int p5), .val (.int v5_1), .val (.int v6_2), .val (.int v7_3), .val (.int v8_4), .val (.int (0 : Int32)), .val (.int (0 : Int32)), .val (.ref b7), .val (.int (1 : Int32)), .val (.int (1 : Int32)), .val (.int (1 : Int32)), .val (.int (1 : Int32))] [(.int (1 : Int32))]))
      exact own_retN X28 hx Bd.notSynchronized e28 Bd.returns (by simp) (hb hby at_248) (⟨rfl, N28⟩) (by decide) (by decide)
    · --
      refine own_by (fun _ k => XS.ifNo X0.here hx rfl (hb hby at_45) rfl ((if0 _ _).trans (feq hc6).1) k) ?_
      show own_Go _ _ _ _ (s₁.setTop (mkF m 48 #[.val (.int p1), .val (.int p2), .val (.int p3), .val (.int p4), .val (.int p5), .val (.int v5_1), .val (.int v6_2), .val (.int v7_3), .val (.int v8_4), .val (.int (0 : Int32)), .unset, .unset, .unset, .unset, .unset, .unset] []))
      refine own_by (fun _ k => XS.iconst X0.here hx rfl (hb hby at_48) k) ?_
      show own_Go _ _ _ _ (s₁.setTop (mkF m 49 #[.val (.int p1), .val (.int p2), .val (.int p3), .val (.int p4), .val (.int p5), .val (.int v5_1), .val (.int v6_2), .val (.int v7_3), .val (.int v8_4), .val (.int (0 : Int32)), .unset, .unset, .unset, .unset, .unset, .unset] [(.int (1 : Int32))]))
      refine own_by (fun _ k => XS.goto X0.here hx rfl (pc0 := 49) (pc' := 53) rfl (hb hby at_49) (by decide) (by decide) k) ?_
      show own_Go _ _ _ _ (s₁.setTop (mkF m 53 #[.val (.int p1), .val (.int p2), .val (.int p3), .val (.int p4), .val (.int p5), .val (.int v5_1), .val (.int v6_2), .val (.int v7_3), .val (.int v8_4), .val (.int (0 : Int32)), .unset, .unset, .unset, .unset, .unset, .unset] [(.int (1 : Int32))]))
      refine own_by (fun _ k => XS.istore X0.here hx rfl (hb hby at_53) rfl (l' := #[.val (.int p1), .val (.int p2), .val (.int p3), .val (.int p4), .val (.int p5), .val (.int v5_1), .val (.int v6_2), .val (.int v7_3), .val (.int v8_4), .val (.int (0 : Int32)), .val (.int (1 : Int32)), .unset, .unset, .unset, .unset, .unset]) rfl k) ?_
      show own_Go _ _ _ _ (s₁.setTop (mkF m 55 #[.val (.int p1), .val (.int p2), .val (.int p3), .val (.int p4), .val (.int p5), .val (.int v5_1), .val (.int v6_2), .val (.int v7_3), .val (.int v8_4), .val (.int (0 : Int32)), .val (.int (1 : Int32)), .unset, .unset, .unset, .unset, .unset] []))
      obtain ⟨T29, h29, X29, e29, E29, A29, D29, -, st29⟩ := newO X0 hx hZ hown (hw _ (List.mem_of_getElem? (i := 1) rfl)) (hw _ (List.mem_of_getElem? (i := 2) rfl)) (hw _ (List.mem_of_getElem? (i := 3) rfl)) e0 (g := (mkF m 55 #[.val (.int p1), .val (.int p2), .val (.int p3), .val (.int p4), .val (.int p5), .val (.int v5_1), .val (.int v6_2), .val (.int v7_3), .val (.int v8_4), .val (.int (0 : Int32)), .val (.int (1 : Int32)), .unset, .unset, .unset, .unset, .unset] [])) rfl (hb hby at_55) (by decide) (by decide)
      refine own_by st29 ?_
      show own_Go _ _ _ _ (T29.setTop (mkF m 58 #[.val (.int p1), .val (.int p2), .val (.int p3), .val (.int p4), .val (.int p5), .val (.int v5_1), .val (.int v6_2), .val (.int v7_3), .val (.int v8_4), .val (.int (0 : Int32)), .val (.int (1 : Int32)), .unset, .unset, .unset, .unset, .unset] [.ref h0.size]))
      obtain ⟨b29, g29⟩ : ∃ z, z = h0.size := ⟨_, rfl⟩
      rw [← g29] at A29 D29
      refine own_gen g29.symm (fun z_ => T29.setTop (mkF m 58 #[.val (.int p1), .val (.int p2), .val (.int p3), .val (.int p4), .val (.int p5), .val (.int v5_1), .val (.int v6_2), .val (.int v7_3), .val (.int v8_4), .val (.int (0 : Int32)), .val (.int (1 : Int32)), .unset, .unset, .unset, .unset, .unset] [.ref z_])) ?_
      have ge29 : n0 ≤ b29 := Nat.le_trans Z0 (Nat.le_of_eq g29.symm)
      have Z29 := Nat.le_trans Z0 E29.1
      have f30 : Fld Z h29 b29 "com/example/sonde/sonde/engine/Bits" "words" "[J" .null := D29 (Or.inl (hw _ (List.mem_of_getElem? (i := 12) rfl))) (ty := (.array .long)) (by decide)
      have f31 : Fld Z h29 b29 "com/example/sonde/sonde/engine/Bits" "held" "[J" .null := D29 (Or.inl (hw _ (List.mem_of_getElem? (i := 14) rfl))) (ty := (.array .long)) (by decide)
      show own_Go _ _ _ _ (T29.setTop (mkF m 58 #[.val (.int p1), .val (.int p2), .val (.int p3), .val (.int p4), .val (.int p5), .val (.int v5_1), .val (.int v6_2), .val (.int v7_3), .val (.int v8_4), .val (.int (0 : Int32)), .val (.int (1 : Int32)), .unset, .unset, .unset, .unset, .unset] [(.ref b29)]))
      refine own_by (fun _ k => XS.dup X29.here hx rfl (hb hby at_58) rfl rfl k) ?_
      show own_Go _ _ _ _ (T29.setTop (mkF m 59 #[.val (.int p1), .val (.int p2), .val (.int p3), .val (.int p4), .val (.int p5), .val (.int v5_1), .val (.int v6_2), .val (.int v7_3), .val (.int v8_4), .val (.int (0 : Int32)), .val (.int (1 : Int32)), .unset, .unset, .unset, .unset, .unset] [(.ref b29), (.ref b29)]))
      refine own_callI X29 hx hZ hown rfl (hw _ (List.mem_of_getElem? (i := 4) rfl)) (hw _ (List.mem_of_getElem? (i := 5) rfl)) (hw _ (List.mem_of_getElem? (i := 3) rfl)) (hw _ (List.mem_of_getElem? (i := 6) rfl)) (by decide) (rm1 l Z a0 hw [] b29 h29 n0 Z29 A29 f30 f31 ge29) e29 (by rw [hml]; rfl) b29 [] [(.ref b29)] rfl (lenOf own_pd0 rfl) rfl 1 (Nat.le_of_eq rfl) (by decide) (by decide) (Nat.le_of_ble_eq_true rfl) (Nat.le_of_ble_eq_true rfl) (hb hby at_59) ?_
      intro T32 Lc32 v32 X32 hQ32
      obtain ⟨h32, e32⟩ : ∃ h, T32.heap = h := ⟨_, rfl⟩
      rw [e32] at hQ32
      obtain ⟨rfl, N32q, K32, wz32, dz32, FW32, FH32, AW32, AH32, EH32, gw32, gh32, naw32, nad32, nwd32, nww32, nwh32⟩ := hQ32
      have N32 := Fr.app N0 N32q
      have f33 := A29.keep K32
      have Z32 := Nat.le_trans Z29 K32.1
      have hb0 : ∀ y, own_has (fun _ => 0) 1 y = false := fun y => by simp [own_has]
      show own_Go _ _ _ _ (T32.setTop (mkF m 62 #[.val (.int p1), .val (.int p2), .val (.int p3), .val (.int p4), .val (.int p5), .val (.int v5_1), .val (.int v6_2), .val (.int v7_3), .val (.int v8_4), .val (.int (0 : Int32)), .val (.int (1 : Int32)), .unset, .unset, .unset, .unset, .unset] [(.ref b29)]))
      refine own_by (fun _ k => XS.astore X32.here hx rfl (hb hby at_62) rfl rfl (l' := #[.val (.int p1), .val (.int p2), .val (.int p3), .val (.int p4), .val (.int p5), .val (.int v5_1), .val (.int v6_2), .val (.int v7_3), .val (.int v8_4), .val (.int (0 : Int32)), .val (.int (1 : Int32)), .val (.ref b29), .unset, .unset, .unset, .unset]) rfl k) ?_
      show own_Go _ _ _ _ (T32.setTop (mkF m 64 #[.val (.int p1), .val (.int p2), .val (.int p3), .val (.int p4), .val (.int p5), .val (.int v5_1), .val (.int v6_2), .val (.int v7_3), .val (.int v8_4), .val (.int (0 : Int32)), .val (.int (1 : Int32)), .val (.ref b29), .unset, .unset, .unset, .unset] []))
      refine own_by (fun _ k => XS.aload X32.here hx rfl (hb hby at_64) rfl rfl k) ?_
      show own_Go _ _ _ _ (T32.setTop (mkF m 66 #[.val (.int p1), .val (.int p2), .val (.int p3), .val (.int p4), .val (.int p5), .val (.int v5_1), .val (.int v6_2), .val (.int v7_3), .val (.int v8_4), .val (.int (0 : Int32)), .val (.int (1 : Int32)), .val (.ref b29), .unset, .unset, .unset, .unset] [(.ref b29)]))
      refine own_by (fun _ k => XS.iload X32.here hx rfl (hb hby at_66) rfl k) ?_
      show own_Go _ _ _ _ (T32.setTop (mkF m 68 #[.val (.int p1), .val (.int p2), .val (.int p3), .val (.int p4), .val (.int p5), .val (.int v5_1), .val (.int v6_2), .val (.int v7_3), .val (.int v8_4), .val (.int (0 : Int32)), .val (.int (1 : Int32)), .val (.ref b29), .unset, .unset, .unset, .unset] [(.int v5_1), (.ref b29)]))
      refine own_callV X32 hx hZ hown (hw _ (List.mem_of_getElem? (i := 15) rfl)) (hw _ (List.mem_of_getElem? (i := 16) rfl)) (notFace_of_selects (args := #[]) (mvT hZ (hw _ (List.mem_of_getElem? (i := 18) rfl)))) (hw _ (List.mem_of_getElem? (i := 18) rfl)) (hw _ (List.mem_of_getElem? (i := 17) rfl)) (hw _ (List.mem_of_getElem? (i := 3) rfl)) (hw _ (List.mem_of_getElem? (i := 19) rfl)) (by decide) (rm3 l Z a0 hw [] b29 v5_1 wz32 dz32 1 1 (fun _ => 0) (fun _ => 0) xa h32 n0 Z32 f33 FW32 FH32 AW32 AH32 EH32 ge29 gw32 gh32 naw32 nad32 nwd32 (by decide) (by decide) rfl hxa hbxa) e32 b29 f33 (by rw [hml]; rfl) [(.int v5_1)] [] rfl (lenOf own_pd1 rfl) rfl 0 (Nat.le_of_eq rfl) (by decide) (by decide) (Nat.le_of_ble_eq_true rfl) (Nat.le_of_ble_eq_true rfl) (hb hby at_68) ?_
      intro T36 Lc36 v36 X36 hQ36
      obtain ⟨h36, e36⟩ : ∃ h, T36.heap = h := ⟨_, rfl⟩
      rw [e36] at hQ36
      obtain ⟨rfl, N36q, K36, wz36, dz36, nz36, mz36, fz36, gz36, FW36, FH36, AW36, AH36, EH36, gw36, gh36, naw36, nad36, nwd36, hn136, hn536, hm36, ow36, od36, hbt36⟩ := hQ36
      have N36 := Fr.app N32 N36q
      have f37 := f33.keep K36
      have f42 := EH32.keep K36
      have Z36 := Nat.le_trans Z32 K36.1
      have hbb36 : ∀ y, own_has fz36 nz36 y = (own_has (fun _ => 0) 1 y || decide (y = xa)) := hbt36
      show own_Go _ _ _ _ (T36.setTop (mkF m 71 #[.val (.int p1), .val (.int p2), .val (.int p3), .val (.int p4), .val (.int p5), .val (.int v5_1), .val (.int v6_2), .val (.int v7_3), .val (.int v8_4), .val (.int (0 : Int32)), .val (.int (1 : Int32)), .val (.ref b29), .unset, .unset, .unset, .unset] []))
      refine own_by (fun _ k => XS.iload X36.here hx rfl (hb hby at_71) rfl k) ?_
      show own_Go _ _ _ _ (T36.setTop (mkF m 73 #[.val (.int p1), .val (.int p2), .val (.int p3), .val (.int p4), .val (.int p5), .val (.int v5_1), .val (.int v6_2), .val (.int v7_3), .val (.int v8_4), .val (.int (0 : Int32)), .val (.int (1 : Int32)), .val (.ref b29), .unset, .unset, .unset, .unset] [(.int (0 : Int32))]))
      refine own_by (fun _ k => XS.ifYes X36.here hx rfl (pc0 := 73) (pc' := 83) rfl (hb hby at_73) rfl ((if0 _ _).trans (teq (by decide)).1) (by decide) (by decide) k) ?_
      show own_Go _ _ _ _ (T36.setTop (mkF m 83 #[.val (.int p1), .val (.int p2), .val (.int p3), .val (.int p4), .val (.int p5), .val (.int v5_1), .val (.int v6_2), .val (.int v7_3), .val (.int v8_4), .val (.int (0 : Int32)), .val (.int (1 : Int32)), .val (.ref b29), .unset, .unset, .unset, .unset] []))
      refine own_by (fun _ k => XS.iload X36.here hx rfl (hb hby at_83) rfl k) ?_
      show own_Go _ _ _ _ (T36.setTop (mkF m 85 #[.val (.int p1), .val (.int p2), .val (.int p3), .val (.int p4), .val (.int p5), .val (.int v5_1), .val (.int v6_2), .val (.int v7_3), .val (.int v8_4), .val (.int (0 : Int32)), .val (.int (1 : Int32)), .val (.ref b29), .unset, .unset, .unset, .unset] [(.int (1 : Int32))]))
      refine own_by (fun _ k => XS.ifNo X36.here hx rfl (hb hby at_85) rfl ((if0 _ _).trans (feq (by decide)).1) k) ?_
      show own_Go _ _ _ _ (T36.setTop (mkF m 88 #[.val (.int p1), .val (.int p2), .val (.int p3), .val (.int p4), .val (.int p5), .val (.int v5_1), .val (.int v6_2), .val (.int v7_3), .val (.int v8_4), .val (.int (0 : Int32)), .val (.int (1 : Int32)), .val (.ref b29), .unset, .unset, .unset, .unset] []))
      refine own_by (fun _ k => XS.aload X36.here hx rfl (hb hby at_88) rfl rfl k) ?_
      show own_Go _ _ _ _ (T36.setTop (mkF m 90 #[.val (.int p1), .val (.int p2), .val (.int p3), .val (.int p4), .val (.int p5), .val (.int v5_1), .val (.int v6_2), .val (.int v7_3), .val (.int v8_4), .val (.int (0 : Int32)), .val (.int (1 : Int32)), .val (.ref b29), .unset, .unset, .unset, .unset] [(.ref b29)]))
      refine own_by (fun _ k => XS.iload X36.here hx rfl (hb hby at_90) rfl k) ?_
      show own_Go _ _ _ _ (T36.setTop (mkF m 92 #[.val (.int p1), .val (.int p2), .val (.int p3), .val (.int p4), .val (.int p5), .val (.int v5_1), .val (.int v6_2), .val (.int v7_3), .val (.int v8_4), .val (.int (0 : Int32)), .val (.int (1 : Int32)), .val (.ref b29), .unset, .unset, .unset, .unset] [(.int v7_3), (.ref b29)]))
      refine own_callV X36 hx hZ hown (hw _ (List.mem_of_getElem? (i := 33) rfl)) (hw _ (List.mem_of_getElem? (i := 34) rfl)) (notFace_of_selects (args := #[]) (mvT hZ (hw _ (List.mem_of_getElem? (i := 36) rfl)))) (hw _ (List.mem_of_getElem? (i := 36) rfl)) (hw _ (List.mem_of_getElem? (i := 35) rfl)) (hw _ (List.mem_of_getElem? (i := 3) rfl)) (hw _ (List.mem_of_getElem? (i := 37) rfl)) (by decide) (rm7 l Z a0 hw [] b29 v7_3 wz36 dz36 nz36 mz36 fz36 gz36 xc h36 n0 Z36 f37 FW36 FH36 AW36 AH36 EH36 ge29 gw36 gh36 naw36 nad36 nwd36 hn136 hn536 hm36 hxc) e36 b29 f37 (by rw [hml]; rfl) [(.int v7_3)] [] rfl (lenOf own_pd1 rfl) rfl 0 (Nat.le_of_eq rfl) (by decide) (by decide) (Nat.le_of_ble_eq_true rfl) (Nat.le_of_ble_eq_true rfl) (hb hby at_92) ?_
      intro T43 Lc43 v43 X43 hQ43
      obtain ⟨h43, e43⟩ : ∃ h, T43.heap = h := ⟨_, rfl⟩
      rw [e43] at hQ43
      obtain ⟨rfl, N43q, K43, fz43, gz43, AW43, AH43, hbt43⟩ := hQ43
      have N43 := Fr.app N36 N43q
      have f44 := f37.keep K43
      have f45 := f42.keep K43
      have f46 := FW36.keep K43 (ninS naw36 (ninS nad36 nin0))
      have f47 := FH36.keep K43 (ninS naw36 (ninS nad36 nin0))
      have f50 := EH36.keep K43
      have Z43 := Nat.le_trans Z36 K43.1
      show own_Go _ _ _ _ (T43.setTop (mkF m 95 #[.val (.int p1), .val (.int p2), .val (.int p3), .val (.int p4), .val (.int p5), .val (.int v5_1), .val (.int v6_2), .val (.int v7_3), .val (.int v8_4), .val (.int (0 : Int32)), .val (.int (1 : Int32)), .val (.ref b29), .unset, .unset, .unset, .unset] []))
      refine own_by (fun _ k => XS.aload X43.here hx rfl (hb hby at_95) rfl rfl k) ?_
      show own_Go _ _ _ _ (T43.setTop (mkF m 97 #[.val (.int p1), .val (.int p2), .val (.int p3), .val (.int p4), .val (.int p5), .val (.int v5_1), .val (.int v6_2), .val (.int v7_3), .val (.int v8_4), .val (.int (0 : Int32)), .val (.int (1 : Int32)), .val (.ref b29), .unset, .unset, .unset, .unset] [(.ref b29)]))
      refine own_by (fun _ k => XS.iload X43.here hx rfl (hb hby at_97) rfl k) ?_
      show own_Go _ _ _ _ (T43.setTop (mkF m 99 #[.val (.int p1), .val (.int p2), .val (.int p3), .val (.int p4), .val (.int p5), .val (.int v5_1), .val (.int v6_2), .val (.int v7_3), .val (.int v8_4), .val (.int (0 : Int32)), .val (.int (1 : Int32)), .val (.ref b29), .unset, .unset, .unset, .unset] [(.int v8_4), (.ref b29)]))
      refine own_callV X43 hx hZ hown (hw _ (List.mem_of_getElem? (i := 24) rfl)) (hw _ (List.mem_of_getElem? (i := 25) rfl)) (notFace_of_selects (args := #[]) (mvT hZ (hw _ (List.mem_of_getElem? (i := 27) rfl)))) (hw _ (List.mem_of_getElem? (i := 27) rfl)) (hw _ (List.mem_of_getElem? (i := 26) rfl)) (hw _ (List.mem_of_getElem? (i := 3) rfl)) (hw _ (List.mem_of_getElem? (i := 28) rfl)) (by decide) (rm5 l Z a0 hw [] b29 v8_4 wz36 nz36 fz43 xq h43 n0 Z43 f46 AW43 hn536 hxq) e43 b29 f44 (by rw [hml]; rfl) [(.int v8_4)] [] rfl (lenOf own_pd2 rfl) rfl 0 (Nat.le_of_eq rfl) (by decide) (by decide) (Nat.le_of_ble_eq_true rfl) (Nat.le_of_ble_eq_true rfl) (hb hby at_99) ?_
      intro T51 Lc51 v51 X51 hQ51
      obtain ⟨rfl, N51q, e51⟩ := hQ51
      have N51 := Fr.app N43 N51q
      show own_Go _ _ _ _ (T51.setTop (mkF m 102 #[.val (.int p1), .val (.int p2), .val (.int p3), .val (.int p4), .val (.int p5), .val (.int v5_1), .val (.int v6_2), .val (.int v7_3), .val (.int v8_4), .val (.int (0 : Int32)), .val (.int (1 : Int32)), .val (.ref b29), .unset, .unset, .unset, .unset] [(.int (if own_has fz43 nz36 xq then (1 : Int32) else 0))]))
      refine own_by (fun _ k => XS.iload X51.here hx rfl (hb hby at_102) rfl k) ?_
      show own_Go _ _ _ _ (T51.setTop (mkF m 104 #[.val (.int p1), .val (.int p2), .val (.int p3), .val (.int p4), .val (.int p5), .val (.int v5_1), .val (.int v6_2), .val (.int v7_3), .val (.int v8_4), .val (.int (0 : Int32)), .val (.int (1 : Int32)), .val (.ref b29), .unset, .unset, .unset, .unset] [(.int v8_4), (.int (if own_has fz43 nz36 xq then (1 : Int32) else 0))]))
      refine own_by (fun _ k => XS.iload X51.here hx rfl (hb hby at_104) rfl k) ?_
      show own_Go _ _ _ _ (T51.setTop (mkF m 106 #[.val (.int p1), .val (.int p2), .val (.int p3), .val (.int p4), .val (.int p5), .val (.int v5_1), .val (.int v6_2), .val (.int v7_3), .val (.int v8_4), .val (.int (0 : Int32)), .val (.int (1 : Int32)), .val (.ref b29), .unset, .unset, .unset, .unset] [(.int v5_1), (.int v8_4), (.int (if own_has fz43 nz36 xq then (1 : Int32) else 0))]))
      refine own_by (fun _ k => XS.iload X51.here hx rfl (hb hby at_106) rfl k) ?_
      show own_Go _ _ _ _ (T51.setTop (mkF m 108 #[.val (.int p1), .val (.int p2), .val (.int p3), .val (.int p4), .val (.int p5), .val (.int v5_1), .val (.int v6_2), .val (.int v7_3), .val (.int v8_4), .val (.int (0 : Int32)), .val (.int (1 : Int32)), .val (.ref b29), .unset, .unset, .unset, .unset] [(.int (0 : Int32)), (.int v5_1), (.int v8_4), (.int (if own_has fz43 nz36 xq then (1 : Int32) else 0))]))
      refine own_by (fun _ k => XS.iload X51.here hx rfl (hb hby at_108) rfl k) ?_
      show own_Go _ _ _ _ (T51.setTop (mkF m 110 #[.val (.int p1), .val (.int p2), .val (.int p3), .val (.int p4), .val (.int p5), .val (.int v5_1), .val (.int v6_2), .val (.int v7_3), .val (.int v8_4), .val (.int (0 : Int32)), .val (.int (1 : Int32)), .val (.ref b29), .unset, .unset, .unset, .unset] [(.int v6_2), (.int (0 : Int32)), (.int v5_1), (.int v8_4), (.int (if own_has fz43 nz36 xq then (1 : Int32) else 0))]))
      refine own_by (fun _ k => XS.iload X51.here hx rfl (hb hby at_110) rfl k) ?_
      show own_Go _ _ _ _ (T51.setTop (mkF m 112 #[.val (.int p1), .val (.int p2), .val (.int p3), .val (.int p4), .val (.int p5), .val (.int v5_1), .val (.int v6_2), .val (.int v7_3), .val (.int v8_4), .val (.int (0 : Int32)), .val (.int (1 : Int32)), .val (.ref b29), .unset, .unset, .unset, .unset] [(.int (1 : Int32)), (.int v6_2), (.int (0 : Int32)), (.int v5_1), (.int v8_4), (.int (if own_has fz43 nz36 xq then (1 : Int32) else 0))]))
      refine own_by (fun _ k => XS.iload X51.here hx rfl (hb hby at_112) rfl k) ?_
      show own_Go _ _ _ _ (T51.setTop (mkF m 114 #[.val (.int p1), .val (.int p2), .val (.int p3), .val (.int p4), .val (.int p5), .val (.int v5_1), .val (.int v6_2), .val (.int v7_3), .val (.int v8_4), .val (.int (0 : Int32)), .val (.int (1 : Int32)), .val (.ref b29), .unset, .unset, .unset, .unset] [(.int v7_3), (.int (1 : Int32)), (.int v6_2), (.int (0 : Int32)), (.int v5_1), (.int v8_4), (.int (if own_has fz43 nz36 xq then (1 : Int32) else 0))]))
      refine own_callS X51 hx hZ hown (hw _ (List.mem_of_getElem? (i := 29) rfl)) (hw _ (List.mem_of_getElem? (i := 30) rfl)) (hw _ (List.mem_of_getElem? (i := 31) rfl)) (hw _ (List.mem_of_getElem? (i := 32) rfl)) (by decide) (rm6 l Z a0 hw [] v8_4 v5_1 (0 : Int32) v6_2 (1 : Int32) v7_3 h43 n0 Z43) e51 (by rw [hml]; rfl) [(.int v8_4), (.int v5_1), (.int (0 : Int32)), (.int v6_2), (.int (1 : Int32)), (.int v7_3)] [(.int (if own_has fz43 nz36 xq then (1 : Int32) else 0))] rfl (lenOf own_pd3 rfl) rfl 1 (Nat.le_of_eq rfl) (by decide) (by decide) (Nat.le_of_ble_eq_true rfl) (Nat.le_of_ble_eq_true rfl) (hb hby at_114) ?_
      intro T52 Lc52 v52 X52 hQ52
      obtain ⟨rfl, N52q, e52⟩ := hQ52
      have N52 := Fr.app N51 N52q
      show own_Go _ _ _ _ (T52.setTop (mkF m 117 #[.val (.int p1), .val (.int p2), .val (.int p3), .val (.int p4), .val (.int p5), .val (.int v5_1), .val (.int v6_2), .val (.int v7_3), .val (.int v8_4), .val (.int (0 : Int32)), .val (.int (1 : Int32)), .val (.ref b29), .unset, .unset, .unset, .unset] [(.int (own_exp v8_4 v5_1 (0 : Int32) v6_2 (1 : Int32) v7_3)), (.int (if own_has fz43 nz36 xq then (1 : Int32) else 0))]))
      refine own_by (fun _ k => XS.icmpNo X52.here hx rfl (hb hby at_117) rfl (teq (own_fin fz43 nz36 v8_4 v5_1 v6_2 v7_3 (0 : Int32) (1 : Int32) xq xa xb xc hxq hxa hxb hxc (by rw [hbt43]; rw [hbb36]; rw [hb0]; simp))).2 k) ?_
      show own_Go _ _ _ _ (T52.setTop (mkF m 120 #[.val (.int p1), .val (.int p2), .val (.int p3), .val (.int p4), .val (.int p5), .val (.int v5_1), .val (.int v6_2), .val (.int v7_3), .val (.int v8_4), .val (.int (0 : Int32)), .val (.int (1 : Int32)), .val (.ref b29), .unset, .unset, .unset, .unset] []))
      refine own_by (fun _ k => XS.iconst X52.here hx rfl (hb hby at_120) k) ?_
      show own_Go _ _ _ _ (T52.setTop (mkF m 121 #[.val (.int p1), .val (.int p2), .val (.int p3), .val (.int p4), .val (.int p5), .val (.int v5_1), .val (.int v6_2), .val (.int v7_3), .val (.int v8_4), .val (.int (0 : Int32)), .val (.int (1 : Int32)), .val (.ref b29), .unset, .unset, .unset, .unset] [(.int (1 : Int32))]))
      refine own_by (fun _ k => XS.goto X52.here hx rfl (pc0 := 121) (pc' := 125) rfl (hb hby at_121) (by decide) (by decide) k) ?_
      show own_Go _ _ _ _ (T52.setTop (mkF m 125 #[.val (.int p1), .val (.int p2), .val (.int p3), .val (.int p4), .val (.int p5), .val (.int v5_1), .val (.int v6_2), .val (.int v7_3), .val (.int v8_4), .val (.int (0 : Int32)), .val (.int (1 : Int32)), .val (.ref b29), .unset, .unset, .unset, .unset] [(.int (1 : Int32))]))
      refine own_by (fun _ k => XS.istore X52.here hx rfl (hb hby at_125) rfl (l' := #[.val (.int p1), .val (.int p2), .val (.int p3), .val (.int p4), .val (.int p5), .val (.int v5_1), .val (.int v6_2), .val (.int v7_3), .val (.int v8_4), .val (.int (0 : Int32)), .val (.int (1 : Int32)), .val (.ref b29), .val (.int (1 : Int32)), .unset, .unset, .unset]) rfl k) ?_
      show own_Go _ _ _ _ (T52.setTop (mkF m 127 #[.val (.int p1), .val (.int p2), .val (.int p3), .val (.int p4), .val (.int p5), .val (.int v5_1), .val (.int v6_2), .val (.int v7_3), .val (.int v8_4), .val (.int (0 : Int32)), .val (.int (1 : Int32)), .val (.ref b29), .val (.int (1 : Int32)), .unset, .unset, .unset] []))
      refine own_by (fun _ k => XS.aload X52.here hx rfl (hb hby at_127) rfl rfl k) ?_
      show own_Go _ _ _ _ (T52.setTop (mkF m 129 #[.val (.int p1), .val (.int p2), .val (.int p3), .val (.int p4), .val (.int p5), .val (.int v5_1), .val (.int v6_2), .val (.int v7_3), .val (.int v8_4), .val (.int (0 : Int32)), .val (.int (1 : Int32)), .val (.ref b29), .val (.int (1 : Int32)), .unset, .unset, .unset] [(.ref b29)]))
      refine own_by (fun _ k => XS.iload X52.here hx rfl (hb hby at_129) rfl k) ?_
      show own_Go _ _ _ _ (T52.setTop (mkF m 131 #[.val (.int p1), .val (.int p2), .val (.int p3), .val (.int p4), .val (.int p5), .val (.int v5_1), .val (.int v6_2), .val (.int v7_3), .val (.int v8_4), .val (.int (0 : Int32)), .val (.int (1 : Int32)), .val (.ref b29), .val (.int (1 : Int32)), .unset, .unset, .unset] [(.int v5_1), (.ref b29)]))
      refine own_callV X52 hx hZ hown (hw _ (List.mem_of_getElem? (i := 24) rfl)) (hw _ (List.mem_of_getElem? (i := 25) rfl)) (notFace_of_selects (args := #[]) (mvT hZ (hw _ (List.mem_of_getElem? (i := 27) rfl)))) (hw _ (List.mem_of_getElem? (i := 27) rfl)) (hw _ (List.mem_of_getElem? (i := 26) rfl)) (hw _ (List.mem_of_getElem? (i := 3) rfl)) (hw _ (List.mem_of_getElem? (i := 28) rfl)) (by decide) (rm5 l Z a0 hw [] b29 v5_1 wz36 nz36 fz43 xa h43 n0 Z43 f46 AW43 hn536 hxa) e52 b29 f44 (by rw [hml]; rfl) [(.int v5_1)] [] rfl (lenOf own_pd2 rfl) rfl 0 (Nat.le_of_eq rfl) (by decide) (by decide) (Nat.le_of_ble_eq_true rfl) (Nat.le_of_ble_eq_true rfl) (hb hby at_131) ?_
      intro T53 Lc53 v53 X53 hQ53
      obtain ⟨rfl, N53q, e53⟩ := hQ53
      have N53 := Fr.app N52 N53q
      show own_Go _ _ _ _ (T53.setTop (mkF m 134 #[.val (.int p1), .val (.int p2), .val (.int p3), .val (.int p4), .val (.int p5), .val (.int v5_1), .val (.int v6_2), .val (.int v7_3), .val (.int v8_4), .val (.int (0 : Int32)), .val (.int (1 : Int32)), .val (.ref b29), .val (.int (1 : Int32)), .unset, .unset, .unset] [(.int (if own_has fz43 nz36 xa then (1 : Int32) else 0))]))
      refine own_by (fun _ k => XS.iload X53.here hx rfl (hb hby at_134) rfl k) ?_
      show own_Go _ _ _ _ (T53.setTop (mkF m 136 #[.val (.int p1), .val (.int p2), .val (.int p3), .val (.int p4), .val (.int p5), .val (.int v5_1), .val (.int v6_2), .val (.int v7_3), .val (.int v8_4), .val (.int (0 : Int32)), .val (.int (1 : Int32)), .val (.ref b29), .val (.int (1 : Int32)), .unset, .unset, .unset] [(.int v5_1), (.int (if own_has fz43 nz36 xa then (1 : Int32) else 0))]))
      refine own_by (fun _ k => XS.iload X53.here hx rfl (hb hby at_136) rfl k) ?_
      show own_Go _ _ _ _ (T53.setTop (mkF m 138 #[.val (.int p1), .val (.int p2), .val (.int p3), .val (.int p4), .val (.int p5), .val (.int v5_1), .val (.int v6_2), .val (.int v7_3), .val (.int v8_4), .val (.int (0 : Int32)), .val (.int (1 : Int32)), .val (.ref b29), .val (.int (1 : Int32)), .unset, .unset, .unset] [(.int v5_1), (.int v5_1), (.int (if own_has fz43 nz36 xa then (1 : Int32) else 0))]))
      refine own_by (fun _ k => XS.iload X53.here hx rfl (hb hby at_138) rfl k) ?_
      show own_Go _ _ _ _ (T53.setTop (mkF m 140 #[.val (.int p1), .val (.int p2), .val (.int p3), .val (.int p4), .val (.int p5), .val (.int v5_1), .val (.int v6_2), .val (.int v7_3), .val (.int v8_4), .val (.int (0 : Int32)), .val (.int (1 : Int32)), .val (.ref b29), .val (.int (1 : Int32)), .unset, .unset, .unset] [(.int (0 : Int32)), (.int v5_1), (.int v5_1), (.int (if own_has fz43 nz36 xa then (1 : Int32) else 0))]))
      refine own_by (fun _ k => XS.iload X53.here hx rfl (hb hby at_140) rfl k) ?_
      show own_Go _ _ _ _ (T53.setTop (mkF m 142 #[.val (.int p1), .val (.int p2), .val (.int p3), .val (.int p4), .val (.int p5), .val (.int v5_1), .val (.int v6_2), .val (.int v7_3), .val (.int v8_4), .val (.int (0 : Int32)), .val (.int (1 : Int32)), .val (.ref b29), .val (.int (1 : Int32)), .unset, .unset, .unset] [(.int v6_2), (.int (0 : Int32)), (.int v5_1), (.int v5_1), (.int (if own_has fz43 nz36 xa then (1 : Int32) else 0))]))
      refine own_by (fun _ k => XS.iload X53.here hx rfl (hb hby at_142) rfl k) ?_
      show own_Go _ _ _ _ (T53.setTop (mkF m 144 #[.val (.int p1), .val (.int p2), .val (.int p3), .val (.int p4), .val (.int p5), .val (.int v5_1), .val (.int v6_2), .val (.int v7_3), .val (.int v8_4), .val (.int (0 : Int32)), .val (.int (1 : Int32)), .val (.ref b29), .val (.int (1 : Int32)), .unset, .unset, .unset] [(.int (1 : Int32)), (.int v6_2), (.int (0 : Int32)), (.int v5_1), (.int v5_1), (.int (if own_has fz43 nz36 xa then (1 : Int32) else 0))]))
      refine own_by (fun _ k => XS.iload X53.here hx rfl (hb hby at_144) rfl k) ?_
      show own_Go _ _ _ _ (T53.setTop (mkF m 146 #[.val (.int p1), .val (.int p2), .val (.int p3), .val (.int p4), .val (.int p5), .val (.int v5_1), .val (.int v6_2), .val (.int v7_3), .val (.int v8_4), .val (.int (0 : Int32)), .val (.int (1 : Int32)), .val (.ref b29), .val (.int (1 : Int32)), .unset, .unset, .unset] [(.int v7_3), (.int (1 : Int32)), (.int v6_2), (.int (0 : Int32)), (.int v5_1), (.int v5_1), (.int (if own_has fz43 nz36 xa then (1 : Int32) else 0))]))
      refine own_callS X53 hx hZ hown (hw _ (List.mem_of_getElem? (i := 29) rfl)) (hw _ (List.mem_of_getElem? (i := 30) rfl)) (hw _ (List.mem_of_getElem? (i := 31) rfl)) (hw _ (List.mem_of_getElem? (i := 32) rfl)) (by decide) (rm6 l Z a0 hw [] v5_1 v5_1 (0 : Int32) v6_2 (1 : Int32) v7_3 h43 n0 Z43) e53 (by rw [hml]; rfl) [(.int v5_1), (.int v5_1), (.int (0 : Int32)), (.int v6_2), (.int (1 : Int32)), (.int v7_3)] [(.int (if own_has fz43 nz36 xa then (1 : Int32) else 0))] rfl (lenOf own_pd3 rfl) rfl 1 (Nat.le_of_eq rfl) (by decide) (by decide) (Nat.le_of_ble_eq_true rfl) (Nat.le_of_ble_eq_true rfl) (hb hby at_146) ?_
      intro T54 Lc54 v54 X54 hQ54
      obtain ⟨rfl, N54q, e54⟩ := hQ54
      have N54 := Fr.app N53 N54q
      show own_Go _ _ _ _ (T54.setTop (mkF m 149 #[.val (.int p1), .val (.int p2), .val (.int p3), .val (.int p4), .val (.int p5), .val (.int v5_1), .val (.int v6_2), .val (.int v7_3), .val (.int v8_4), .val (.int (0 : Int32)), .val (.int (1 : Int32)), .val (.ref b29), .val (.int (1 : Int32)), .unset, .unset, .unset] [(.int (own_exp v5_1 v5_1 (0 : Int32) v6_2 (1 : Int32) v7_3)), (.int (if own_has fz43 nz36 xa then (1 : Int32) else 0))]))
      refine own_by (fun _ k => XS.icmpNo X54.here hx rfl (hb hby at_149) rfl (teq (own_fin fz43 nz36 v5_1 v5_1 v6_2 v7_3 (0 : Int32) (1 : Int32) xa xa xb xc hxa hxa hxb hxc (by rw [hbt43]; rw [hbb36]; rw [hb0]; simp))).2 k) ?_
      show own_Go _ _ _ _ (T54.setTop (mkF m 152 #[.val (.int p1), .val (.int p2), .val (.int p3), .val (.int p4), .val (.int p5), .val (.int v5_1), .val (.int v6_2), .val (.int v7_3), .val (.int v8_4), .val (.int (0 : Int32)), .val (.int (1 : Int32)), .val (.ref b29), .val (.int (1 : Int32)), .unset, .unset, .unset] []))
      refine own_by (fun _ k => XS.iconst X54.here hx rfl (hb hby at_152) k) ?_
      show own_Go _ _ _ _ (T54.setTop (mkF m 153 #[.val (.int p1), .val (.int p2), .val (.int p3), .val (.int p4), .val (.int p5), .val (.int v5_1), .val (.int v6_2), .val (.int v7_3), .val (.int v8_4), .val (.int (0 : Int32)), .val (.int (1 : Int32)), .val (.ref b29), .val (.int (1 : Int32)), .unset, .unset, .unset] [(.int (1 : Int32))]))
      refine own_by (fun _ k => XS.goto X54.here hx rfl (pc0 := 153) (pc' := 157) rfl (hb hby at_153) (by decide) (by decide) k) ?_
      show own_Go _ _ _ _ (T54.setTop (mkF m 157 #[.val (.int p1), .val (.int p2), .val (.int p3), .val (.int p4), .val (.int p5), .val (.int v5_1), .val (.int v6_2), .val (.int v7_3), .val (.int v8_4), .val (.int (0 : Int32)), .val (.int (1 : Int32)), .val (.ref b29), .val (.int (1 : Int32)), .unset, .unset, .unset] [(.int (1 : Int32))]))
      refine own_by (fun _ k => XS.istore X54.here hx rfl (hb hby at_157) rfl (l' := #[.val (.int p1), .val (.int p2), .val (.int p3), .val (.int p4), .val (.int p5), .val (.int v5_1), .val (.int v6_2), .val (.int v7_3), .val (.int v8_4), .val (.int (0 : Int32)), .val (.int (1 : Int32)), .val (.ref b29), .val (.int (1 : Int32)), .val (.int (1 : Int32)), .unset, .unset]) rfl k) ?_
      show own_Go _ _ _ _ (T54.setTop (mkF m 159 #[.val (.int p1), .val (.int p2), .val (.int p3), .val (.int p4), .val (.int p5), .val (.int v5_1), .val (.int v6_2), .val (.int v7_3), .val (.int v8_4), .val (.int (0 : Int32)), .val (.int (1 : Int32)), .val (.ref b29), .val (.int (1 : Int32)), .val (.int (1 : Int32)), .unset, .unset] []))
      refine own_by (fun _ k => XS.aload X54.here hx rfl (hb hby at_159) rfl rfl k) ?_
      show own_Go _ _ _ _ (T54.setTop (mkF m 161 #[.val (.int p1), .val (.int p2), .val (.int p3), .val (.int p4), .val (.int p5), .val (.int v5_1), .val (.int v6_2), .val (.int v7_3), .val (.int v8_4), .val (.int (0 : Int32)), .val (.int (1 : Int32)), .val (.ref b29), .val (.int (1 : Int32)), .val (.int (1 : Int32)), .unset, .unset] [(.ref b29)]))
      refine own_by (fun _ k => XS.iload X54.here hx rfl (hb hby at_161) rfl k) ?_
      show own_Go _ _ _ _ (T54.setTop (mkF m 163 #[.val (.int p1), .val (.int p2), .val (.int p3), .val (.int p4), .val (.int p5), .val (.int v5_1), .val (.int v6_2), .val (.int v7_3), .val (.int v8_4), .val (.int (0 : Int32)), .val (.int (1 : Int32)), .val (.ref b29), .val (.int (1 : Int32)), .val (.int (1 : Int32)), .unset, .unset] [(.int v6_2), (.ref b29)]))
      refine own_callV X54 hx hZ hown (hw _ (List.mem_of_getElem? (i := 24) rfl)) (hw _ (List.mem_of_getElem? (i := 25) rfl)) (notFace_of_selects (args := #[]) (mvT hZ (hw _ (List.mem_of_getElem? (i := 27) rfl)))) (hw _ (List.mem_of_getElem? (i := 27) rfl)) (hw _ (List.mem_of_getElem? (i := 26) rfl)) (hw _ (List.mem_of_getElem? (i := 3) rfl)) (hw _ (List.mem_of_getElem? (i := 28) rfl)) (by decide) (rm5 l Z a0 hw [] b29 v6_2 wz36 nz36 fz43 xb h43 n0 Z43 f46 AW43 hn536 hxb) e54 b29 f44 (by rw [hml]; rfl) [(.int v6_2)] [] rfl (lenOf own_pd2 rfl) rfl 0 (Nat.le_of_eq rfl) (by decide) (by decide) (Nat.le_of_ble_eq_true rfl) (Nat.le_of_ble_eq_true rfl) (hb hby at_163) ?_
      intro T55 Lc55 v55 X55 hQ55
      obtain ⟨rfl, N55q, e55⟩ := hQ55
      have N55 := Fr.app N54 N55q
      show own_Go _ _ _ _ (T55.setTop (mkF m 166 #[.val (.int p1), .val (.int p2), .val (.int p3), .val (.int p4), .val (.int p5), .val (.int v5_1), .val (.int v6_2), .val (.int v7_3), .val (.int v8_4), .val (.int (0 : Int32)), .val (.int (1 : Int32)), .val (.ref b29), .val (.int (1 : Int32)), .val (.int (1 : Int32)), .unset, .unset] [(.int (if own_has fz43 nz36 xb then (1 : Int32) else 0))]))
      refine own_by (fun _ k => XS.iload X55.here hx rfl (hb hby at_166) rfl k) ?_
      show own_Go _ _ _ _ (T55.setTop (mkF m 168 #[.val (.int p1), .val (.int p2), .val (.int p3), .val (.int p4), .val (.int p5), .val (.int v5_1), .val (.int v6_2), .val (.int v7_3), .val (.int v8_4), .val (.int (0 : Int32)), .val (.int (1 : Int32)), .val (.ref b29), .val (.int (1 : Int32)), .val (.int (1 : Int32)), .unset, .unset] [(.int v6_2), (.int (if own_has fz43 nz36 xb then (1 : Int32) else 0))]))
      refine own_by (fun _ k => XS.iload X55.here hx rfl (hb hby at_168) rfl k) ?_
      show own_Go _ _ _ _ (T55.setTop (mkF m 170 #[.val (.int p1), .val (.int p2), .val (.int p3), .val (.int p4), .val (.int p5), .val (.int v5_1), .val (.int v6_2), .val (.int v7_3), .val (.int v8_4), .val (.int (0 : Int32)), .val (.int (1 : Int32)), .val (.ref b29), .val (.int (1 : Int32)), .val (.int (1 : Int32)), .unset, .unset] [(.int v5_1), (.int v6_2), (.int (if own_has fz43 nz36 xb then (1 : Int32) else 0))]))
      refine own_by (fun _ k => XS.iload X55.here hx rfl (hb hby at_170) rfl k) ?_
      show own_Go _ _ _ _ (T55.setTop (mkF m 172 #[.val (.int p1), .val (.int p2), .val (.int p3), .val (.int p4), .val (.int p5), .val (.int v5_1), .val (.int v6_2), .val (.int v7_3), .val (.int v8_4), .val (.int (0 : Int32)), .val (.int (1 : Int32)), .val (.ref b29), .val (.int (1 : Int32)), .val (.int (1 : Int32)), .unset, .unset] [(.int (0 : Int32)), (.int v5_1), (.int v6_2), (.int (if own_has fz43 nz36 xb then (1 : Int32) else 0))]))
      refine own_by (fun _ k => XS.iload X55.here hx rfl (hb hby at_172) rfl k) ?_
      show own_Go _ _ _ _ (T55.setTop (mkF m 174 #[.val (.int p1), .val (.int p2), .val (.int p3), .val (.int p4), .val (.int p5), .val (.int v5_1), .val (.int v6_2), .val (.int v7_3), .val (.int v8_4), .val (.int (0 : Int32)), .val (.int (1 : Int32)), .val (.ref b29), .val (.int (1 : Int32)), .val (.int (1 : Int32)), .unset, .unset] [(.int v6_2), (.int (0 : Int32)), (.int v5_1), (.int v6_2), (.int (if own_has fz43 nz36 xb then (1 : Int32) else 0))]))
      refine own_by (fun _ k => XS.iload X55.here hx rfl (hb hby at_174) rfl k) ?_
      show own_Go _ _ _ _ (T55.setTop (mkF m 176 #[.val (.int p1), .val (.int p2), .val (.int p3), .val (.int p4), .val (.int p5), .val (.int v5_1), .val (.int v6_2), .val (.int v7_3), .val (.int v8_4), .val (.int (0 : Int32)), .val (.int (1 : Int32)), .val (.ref b29), .val (.int (1 : Int32)), .val (.int (1 : Int32)), .unset, .unset] [(.int (1 : Int32)), (.int v6_2), (.int (0 : Int32)), (.int v5_1), (.int v6_2), (.int (if own_has fz43 nz36 xb then (1 : Int32) else 0))]))
      refine own_by (fun _ k => XS.iload X55.here hx rfl (hb hby at_176) rfl k) ?_
      show own_Go _ _ _ _ (T55.setTop (mkF m 178 #[.val (.int p1), .val (.int p2), .val (.int p3), .val (.int p4), .val (.int p5), .val (.int v5_1), .val (.int v6_2), .val (.int v7_3), .val (.int v8_4), .val (.int (0 : Int32)), .val (.int (1 : Int32)), .val (.ref b29), .val (.int (1 : Int32)), .val (.int (1 : Int32)), .unset, .unset] [(.int v7_3), (.int (1 : Int32)), (.int v6_2), (.int (0 : Int32)), (.int v5_1), (.int v6_2), (.int (if own_has fz43 nz36 xb then (1 : Int32) else 0))]))
      refine own_callS X55 hx hZ hown (hw _ (List.mem_of_getElem? (i := 29) rfl)) (hw _ (List.mem_of_getElem? (i := 30) rfl)) (hw _ (List.mem_of_getElem? (i := 31) rfl)) (hw _ (List.mem_of_getElem? (i := 32) rfl)) (by decide) (rm6 l Z a0 hw [] v6_2 v5_1 (0 : Int32) v6_2 (1 : Int32) v7_3 h43 n0 Z43) e55 (by rw [hml]; rfl) [(.int v6_2), (.int v5_1), (.int (0 : Int32)), (.int v6_2), (.int (1 : Int32)), (.int v7_3)] [(.int (if own_has fz43 nz36 xb then (1 : Int32) else 0))] rfl (lenOf own_pd3 rfl) rfl 1 (Nat.le_of_eq rfl) (by decide) (by decide) (Nat.le_of_ble_eq_true rfl) (Nat.le_of_ble_eq_true rfl) (hb hby at_178) ?_
      intro T56 Lc56 v56 X56 hQ56
      obtain ⟨rfl, N56q, e56⟩ := hQ56
      have N56 := Fr.app N55 N56q
      show own_Go _ _ _ _ (T56.setTop (mkF m 181 #[.val (.int p1), .val (.int p2), .val (.int p3), .val (.int p4), .val (.int p5), .val (.int v5_1), .val (.int v6_2), .val (.int v7_3), .val (.int v8_4), .val (.int (0 : Int32)), .val (.int (1 : Int32)), .val (.ref b29), .val (.int (1 : Int32)), .val (.int (1 : Int32)), .unset, .unset] [(.int (own_exp v6_2 v5_1 (0 : Int32) v6_2 (1 : Int32) v7_3)), (.int (if own_has fz43 nz36 xb then (1 : Int32) else 0))]))
      refine own_by (fun _ k => XS.icmpNo X56.here hx rfl (hb hby at_181) rfl (teq (own_fin fz43 nz36 v6_2 v5_1 v6_2 v7_3 (0 : Int32) (1 : Int32) xb xa xb xc hxb hxa hxb hxc (by rw [hbt43]; rw [hbb36]; rw [hb0]; simp))).2 k) ?_
      show own_Go _ _ _ _ (T56.setTop (mkF m 184 #[.val (.int p1), .val (.int p2), .val (.int p3), .val (.int p4), .val (.int p5), .val (.int v5_1), .val (.int v6_2), .val (.int v7_3), .val (.int v8_4), .val (.int (0 : Int32)), .val (.int (1 : Int32)), .val (.ref b29), .val (.int (1 : Int32)), .val (.int (1 : Int32)), .unset, .unset] []))
      refine own_by (fun _ k => XS.iconst X56.here hx rfl (hb hby at_184) k) ?_
      show own_Go _ _ _ _ (T56.setTop (mkF m 185 #[.val (.int p1), .val (.int p2), .val (.int p3), .val (.int p4), .val (.int p5), .val (.int v5_1), .val (.int v6_2), .val (.int v7_3), .val (.int v8_4), .val (.int (0 : Int32)), .val (.int (1 : Int32)), .val (.ref b29), .val (.int (1 : Int32)), .val (.int (1 : Int32)), .unset, .unset] [(.int (1 : Int32))]))
      refine own_by (fun _ k => XS.goto X56.here hx rfl (pc0 := 185) (pc' := 189) rfl (hb hby at_185) (by decide) (by decide) k) ?_
      show own_Go _ _ _ _ (T56.setTop (mkF m 189 #[.val (.int p1), .val (.int p2), .val (.int p3), .val (.int p4), .val (.int p5), .val (.int v5_1), .val (.int v6_2), .val (.int v7_3), .val (.int v8_4), .val (.int (0 : Int32)), .val (.int (1 : Int32)), .val (.ref b29), .val (.int (1 : Int32)), .val (.int (1 : Int32)), .unset, .unset] [(.int (1 : Int32))]))
      refine own_by (fun _ k => XS.istore X56.here hx rfl (hb hby at_189) rfl (l' := #[.val (.int p1), .val (.int p2), .val (.int p3), .val (.int p4), .val (.int p5), .val (.int v5_1), .val (.int v6_2), .val (.int v7_3), .val (.int v8_4), .val (.int (0 : Int32)), .val (.int (1 : Int32)), .val (.ref b29), .val (.int (1 : Int32)), .val (.int (1 : Int32)), .val (.int (1 : Int32)), .unset]) rfl k) ?_
      show own_Go _ _ _ _ (T56.setTop (mkF m 191 #[.val (.int p1), .val (.int p2), .val (.int p3), .val (.int p4), .val (.int p5), .val (.int v5_1), .val (.int v6_2), .val (.int v7_3), .val (.int v8_4), .val (.int (0 : Int32)), .val (.int (1 : Int32)), .val (.ref b29), .val (.int (1 : Int32)), .val (.int (1 : Int32)), .val (.int (1 : Int32)), .unset] []))
      refine own_by (fun _ k => XS.aload X56.here hx rfl (hb hby at_191) rfl rfl k) ?_
      show own_Go _ _ _ _ (T56.setTop (mkF m 193 #[.val (.int p1), .val (.int p2), .val (.int p3), .val (.int p4), .val (.int p5), .val (.int v5_1), .val (.int v6_2), .val (.int v7_3), .val (.int v8_4), .val (.int (0 : Int32)), .val (.int (1 : Int32)), .val (.ref b29), .val (.int (1 : Int32)), .val (.int (1 : Int32)), .val (.int (1 : Int32)), .unset] [(.ref b29)]))
      refine own_by (fun _ k => XS.iload X56.here hx rfl (hb hby at_193) rfl k) ?_
      show own_Go _ _ _ _ (T56.setTop (mkF m 195 #[.val (.int p1), .val (.int p2), .val (.int p3), .val (.int p4), .val (.int p5), .val (.int v5_1), .val (.int v6_2), .val (.int v7_3), .val (.int v8_4), .val (.int (0 : Int32)), .val (.int (1 : Int32)), .val (.ref b29), .val (.int (1 : Int32)), .val (.int (1 : Int32)), .val (.int (1 : Int32)), .unset] [(.int v7_3), (.ref b29)]))
      refine own_callV X56 hx hZ hown (hw _ (List.mem_of_getElem? (i := 24) rfl)) (hw _ (List.mem_of_getElem? (i := 25) rfl)) (notFace_of_selects (args := #[]) (mvT hZ (hw _ (List.mem_of_getElem? (i := 27) rfl)))) (hw _ (List.mem_of_getElem? (i := 27) rfl)) (hw _ (List.mem_of_getElem? (i := 26) rfl)) (hw _ (List.mem_of_getElem? (i := 3) rfl)) (hw _ (List.mem_of_getElem? (i := 28) rfl)) (by decide) (rm5 l Z a0 hw [] b29 v7_3 wz36 nz36 fz43 xc h43 n0 Z43 f46 AW43 hn536 hxc) e56 b29 f44 (by rw [hml]; rfl) [(.int v7_3)] [] rfl (lenOf own_pd2 rfl) rfl 0 (Nat.le_of_eq rfl) (by decide) (by decide) (Nat.le_of_ble_eq_true rfl) (Nat.le_of_ble_eq_true rfl) (hb hby at_195) ?_
      intro T57 Lc57 v57 X57 hQ57
      obtain ⟨rfl, N57q, e57⟩ := hQ57
      have N57 := Fr.app N56 N57q
      show own_Go _ _ _ _ (T57.setTop (mkF m 198 #[.val (.int p1), .val (.int p2), .val (.int p3), .val (.int p4), .val (.int p5), .val (.int v5_1), .val (.int v6_2), .val (.int v7_3), .val (.int v8_4), .val (.int (0 : Int32)), .val (.int (1 : Int32)), .val (.ref b29), .val (.int (1 : Int32)), .val (.int (1 : Int32)), .val (.int (1 : Int32)), .unset] [(.int (if own_has fz43 nz36 xc then (1 : Int32) else 0))]))
      refine own_by (fun _ k => XS.iload X57.here hx rfl (hb hby at_198) rfl k) ?_
      show own_Go _ _ _ _ (T57.setTop (mkF m 200 #[.val (.int p1), .val (.int p2), .val (.int p3), .val (.int p4), .val (.int p5), .val (.int v5_1), .val (.int v6_2), .val (.int v7_3), .val (.int v8_4), .val (.int (0 : Int32)), .val (.int (1 : Int32)), .val (.ref b29), .val (.int (1 : Int32)), .val (.int (1 : Int32)), .val (.int (1 : Int32)), .unset] [(.int v7_3), (.int (if own_has fz43 nz36 xc then (1 : Int32) else 0))]))
      refine own_by (fun _ k => XS.iload X57.here hx rfl (hb hby at_200) rfl k) ?_
      show own_Go _ _ _ _ (T57.setTop (mkF m 202 #[.val (.int p1), .val (.int p2), .val (.int p3), .val (.int p4), .val (.int p5), .val (.int v5_1), .val (.int v6_2), .val (.int v7_3), .val (.int v8_4), .val (.int (0 : Int32)), .val (.int (1 : Int32)), .val (.ref b29), .val (.int (1 : Int32)), .val (.int (1 : Int32)), .val (.int (1 : Int32)), .unset] [(.int v5_1), (.int v7_3), (.int (if own_has fz43 nz36 xc then (1 : Int32) else 0))]))
      refine own_by (fun _ k => XS.iload X57.here hx rfl (hb hby at_202) rfl k) ?_
      show own_Go _ _ _ _ (T57.setTop (mkF m 204 #[.val (.int p1), .val (.int p2), .val (.int p3), .val (.int p4), .val (.int p5), .val (.int v5_1), .val (.int v6_2), .val (.int v7_3), .val (.int v8_4), .val (.int (0 : Int32)), .val (.int (1 : Int32)), .val (.ref b29), .val (.int (1 : Int32)), .val (.int (1 : Int32)), .val (.int (1 : Int32)), .unset] [(.int (0 : Int32)), (.int v5_1), (.int v7_3), (.int (if own_has fz43 nz36 xc then (1 : Int32) else 0))]))
      refine own_by (fun _ k => XS.iload X57.here hx rfl (hb hby at_204) rfl k) ?_
      show own_Go _ _ _ _ (T57.setTop (mkF m 206 #[.val (.int p1), .val (.int p2), .val (.int p3), .val (.int p4), .val (.int p5), .val (.int v5_1), .val (.int v6_2), .val (.int v7_3), .val (.int v8_4), .val (.int (0 : Int32)), .val (.int (1 : Int32)), .val (.ref b29), .val (.int (1 : Int32)), .val (.int (1 : Int32)), .val (.int (1 : Int32)), .unset] [(.int v6_2), (.int (0 : Int32)), (.int v5_1), (.int v7_3), (.int (if own_has fz43 nz36 xc then (1 : Int32) else 0))]))
      refine own_by (fun _ k => XS.iload X57.here hx rfl (hb hby at_206) rfl k) ?_
      show own_Go _ _ _ _ (T57.setTop (mkF m 208 #[.val (.int p1), .val (.int p2), .val (.int p3), .val (.int p4), .val (.int p5), .val (.int v5_1), .val (.int v6_2), .val (.int v7_3), .val (.int v8_4), .val (.int (0 : Int32)), .val (.int (1 : Int32)), .val (.ref b29), .val (.int (1 : Int32)), .val (.int (1 : Int32)), .val (.int (1 : Int32)), .unset] [(.int (1 : Int32)), (.int v6_2), (.int (0 : Int32)), (.int v5_1), (.int v7_3), (.int (if own_has fz43 nz36 xc then (1 : Int32) else 0))]))
      refine own_by (fun _ k => XS.iload X57.here hx rfl (hb hby at_208) rfl k) ?_
      show own_Go _ _ _ _ (T57.setTop (mkF m 210 #[.val (.int p1), .val (.int p2), .val (.int p3), .val (.int p4), .val (.int p5), .val (.int v5_1), .val (.int v6_2), .val (.int v7_3), .val (.int v8_4), .val (.int (0 : Int32)), .val (.int (1 : Int32)), .val (.ref b29), .val (.int (1 : Int32)), .val (.int (1 : Int32)), .val (.int (1 : Int32)), .unset] [(.int v7_3), (.int (1 : Int32)), (.int v6_2), (.int (0 : Int32)), (.int v5_1), (.int v7_3), (.int (if own_has fz43 nz36 xc then (1 : Int32) else 0))]))
      refine own_callS X57 hx hZ hown (hw _ (List.mem_of_getElem? (i := 29) rfl)) (hw _ (List.mem_of_getElem? (i := 30) rfl)) (hw _ (List.mem_of_getElem? (i := 31) rfl)) (hw _ (List.mem_of_getElem? (i := 32) rfl)) (by decide) (rm6 l Z a0 hw [] v7_3 v5_1 (0 : Int32) v6_2 (1 : Int32) v7_3 h43 n0 Z43) e57 (by rw [hml]; rfl) [(.int v7_3), (.int v5_1), (.int (0 : Int32)), (.int v6_2), (.int (1 : Int32)), (.int v7_3)] [(.int (if own_has fz43 nz36 xc then (1 : Int32) else 0))] rfl (lenOf own_pd3 rfl) rfl 1 (Nat.le_of_eq rfl) (by decide) (by decide) (Nat.le_of_ble_eq_true rfl) (Nat.le_of_ble_eq_true rfl) (hb hby at_210) ?_
      intro T58 Lc58 v58 X58 hQ58
      obtain ⟨rfl, N58q, e58⟩ := hQ58
      have N58 := Fr.app N57 N58q
      show own_Go _ _ _ _ (T58.setTop (mkF m 213 #[.val (.int p1), .val (.int p2), .val (.int p3), .val (.int p4), .val (.int p5), .val (.int v5_1), .val (.int v6_2), .val (.int v7_3), .val (.int v8_4), .val (.int (0 : Int32)), .val (.int (1 : Int32)), .val (.ref b29), .val (.int (1 : Int32)), .val (.int (1 : Int32)), .val (.int (1 : Int32)), .unset] [(.int (own_exp v7_3 v5_1 (0 : Int32) v6_2 (1 : Int32) v7_3)), (.int (if own_has fz43 nz36 xc then (1 : Int32) else 0))]))
      refine own_by (fun _ k => XS.icmpNo X58.here hx rfl (hb hby at_213) rfl (teq (own_fin fz43 nz36 v7_3 v5_1 v6_2 v7_3 (0 : Int32) (1 : Int32) xc xa xb xc hxc hxa hxb hxc (by rw [hbt43]; rw [hbb36]; rw [hb0]; simp))).2 k) ?_
      show own_Go _ _ _ _ (T58.setTop (mkF m 216 #[.val (.int p1), .val (.int p2), .val (.int p3), .val (.int p4), .val (.int p5), .val (.int v5_1), .val (.int v6_2), .val (.int v7_3), .val (.int v8_4), .val (.int (0 : Int32)), .val (.int (1 : Int32)), .val (.ref b29), .val (.int (1 : Int32)), .val (.int (1 : Int32)), .val (.int (1 : Int32)), .unset] []))
      refine own_by (fun _ k => XS.iconst X58.here hx rfl (hb hby at_216) k) ?_
      show own_Go _ _ _ _ (T58.setTop (mkF m 217 #[.val (.int p1), .val (.int p2), .val (.int p3), .val (.int p4), .val (.int p5), .val (.int v5_1), .val (.int v6_2), .val (.int v7_3), .val (.int v8_4), .val (.int (0 : Int32)), .val (.int (1 : Int32)), .val (.ref b29), .val (.int (1 : Int32)), .val (.int (1 : Int32)), .val (.int (1 : Int32)), .unset] [(.int (1 : Int32))]))
      refine own_by (fun _ k => XS.goto X58.here hx rfl (pc0 := 217) (pc' := 221) rfl (hb hby at_217) (by decide) (by decide) k) ?_
      show own_Go _ _ _ _ (T58.setTop (mkF m 221 #[.val (.int p1), .val (.int p2), .val (.int p3), .val (.int p4), .val (.int p5), .val (.int v5_1), .val (.int v6_2), .val (.int v7_3), .val (.int v8_4), .val (.int (0 : Int32)), .val (.int (1 : Int32)), .val (.ref b29), .val (.int (1 : Int32)), .val (.int (1 : Int32)), .val (.int (1 : Int32)), .unset] [(.int (1 : Int32))]))
      refine own_by (fun _ k => XS.istore X58.here hx rfl (hb hby at_221) rfl (l' := #[.val (.int p1), .val (.int p2), .val (.int p3), .val (.int p4), .val (.int p5), .val (.int v5_1), .val (.int v6_2), .val (.int v7_3), .val (.int v8_4), .val (.int (0 : Int32)), .val (.int (1 : Int32)), .val (.ref b29), .val (.int (1 : Int32)), .val (.int (1 : Int32)), .val (.int (1 : Int32)), .val (.int (1 : Int32))]) rfl k) ?_
      show own_Go _ _ _ _ (T58.setTop (mkF m 223 #[.val (.int p1), .val (.int p2), .val (.int p3), .val (.int p4), .val (.int p5), .val (.int v5_1), .val (.int v6_2), .val (.int v7_3), .val (.int v8_4), .val (.int (0 : Int32)), .val (.int (1 : Int32)), .val (.ref b29), .val (.int (1 : Int32)), .val (.int (1 : Int32)), .val (.int (1 : Int32)), .val (.int (1 : Int32))] []))
      refine own_by (fun _ k => XS.iload X58.here hx rfl (hb hby at_223) rfl k) ?_
      show own_Go _ _ _ _ (T58.setTop (mkF m 225 #[.val (.int p1), .val (.int p2), .val (.int p3), .val (.int p4), .val (.int p5), .val (.int v5_1), .val (.int v6_2), .val (.int v7_3), .val (.int v8_4), .val (.int (0 : Int32)), .val (.int (1 : Int32)), .val (.ref b29), .val (.int (1 : Int32)), .val (.int (1 : Int32)), .val (.int (1 : Int32)), .val (.int (1 : Int32))] [(.int (1 : Int32))]))
      refine own_by (fun _ k => XS.ifNo X58.here hx rfl (hb hby at_225) rfl ((if0 _ _).trans (feq (by decide)).1) k) ?_
      show own_Go _ _ _ _ (T58.setTop (mkF m 228 #[.val (.int p1), .val (.int p2), .val (.int p3), .val (.int p4), .val (.int p5), .val (.int v5_1), .val (.int v6_2), .val (.int v7_3), .val (.int v8_4), .val (.int (0 : Int32)), .val (.int (1 : Int32)), .val (.ref b29), .val (.int (1 : Int32)), .val (.int (1 : Int32)), .val (.int (1 : Int32)), .val (.int (1 : Int32))] []))
      refine own_by (fun _ k => XS.iload X58.here hx rfl (hb hby at_228) rfl k) ?_
      show own_Go _ _ _ _ (T58.setTop (mkF m 230 #[.val (.int p1), .val (.int p2), .val (.int p3), .val (.int p4), .val (.int p5), .val (.int v5_1), .val (.int v6_2), .val (.int v7_3), .val (.int v8_4), .val (.int (0 : Int32)), .val (.int (1 : Int32)), .val (.ref b29), .val (.int (1 : Int32)), .val (.int (1 : Int32)), .val (.int (1 : Int32)), .val (.int (1 : Int32))] [(.int (1 : Int32))]))
      refine own_by (fun _ k => XS.ifNo X58.here hx rfl (hb hby at_230) rfl ((if0 _ _).trans (feq (by decide)).1) k) ?_
      show own_Go _ _ _ _ (T58.setTop (mkF m 233 #[.val (.int p1), .val (.int p2), .val (.int p3), .val (.int p4), .val (.int p5), .val (.int v5_1), .val (.int v6_2), .val (.int v7_3), .val (.int v8_4), .val (.int (0 : Int32)), .val (.int (1 : Int32)), .val (.ref b29), .val (.int (1 : Int32)), .val (.int (1 : Int32)), .val (.int (1 : Int32)), .val (.int (1 : Int32))] []))
      refine own_by (fun _ k => XS.iload X58.here hx rfl (hb hby at_233) rfl k) ?_
      show own_Go _ _ _ _ (T58.setTop (mkF m 235 #[.val (.int p1), .val (.int p2), .val (.int p3), .val (.int p4), .val (.int p5), .val (.int v5_1), .val (.int v6_2), .val (.int v7_3), .val (.int v8_4), .val (.int (0 : Int32)), .val (.int (1 : Int32)), .val (.ref b29), .val (.int (1 : Int32)), .val (.int (1 : Int32)), .val (.int (1 : Int32)), .val (.int (1 : Int32))] [(.int (1 : Int32))]))
      refine own_by (fun _ k => XS.ifNo X58.here hx rfl (hb hby at_235) rfl ((if0 _ _).trans (feq (by decide)).1) k) ?_
      show own_Go _ _ _ _ (T58.setTop (mkF m 238 #[.val (.int p1), .val (.int p2), .val (.int p3), .val (.int p4), .val (.int p5), .val (.int v5_1), .val (.int v6_2), .val (.int v7_3), .val (.int v8_4), .val (.int (0 : Int32)), .val (.int (1 : Int32)), .val (.ref b29), .val (.int (1 : Int32)), .val (.int (1 : Int32)), .val (.int (1 : Int32)), .val (.int (1 : Int32))] []))
      refine own_by (fun _ k => XS.iload X58.here hx rfl (hb hby at_238) rfl k) ?_
      show own_Go _ _ _ _ (T58.setTop (mkF m 240 #[.val (.int p1), .val (.int p2), .val (.int p3), .val (.int p4), .val (.int p5), .val (.int v5_1), .val (.int v6_2), .val (.int v7_3), .val (.int v8_4), .val (.int (0 : Int32)), .val (.int (1 : Int32)), .val (.ref b29), .val (.int (1 : Int32)), .val (.int (1 : Int32)), .val (.int (1 : Int32)), .val (.int (1 : Int32))] [(.int (1 : Int32))]))
      refine own_by (fun _ k => XS.ifNo X58.here hx rfl (hb hby at_240) rfl ((if0 _ _).trans (feq (by decide)).1) k) ?_
      show own_Go _ _ _ _ (T58.setTop (mkF m 243 #[.val (.int p1), .val (.int p2), .val (.int p3), .val (.int p4), .val (.int p5), .val (.int v5_1), .val (.int v6_2), .val (.int v7_3), .val (.int v8_4), .val (.int (0 : Int32)), .val (.int (1 : Int32)), .val (.ref b29), .val (.int (1 : Int32)), .val (.int (1 : Int32)), .val (.int (1 : Int32)), .val (.int (1 : Int32))] []))
      refine own_by (fun _ k => XS.iconst X58.here hx rfl (hb hby at_243) k) ?_
      show own_Go _ _ _ _ (T58.setTop (mkF m 244 #[.val (.int p1), .val (.int p2), .val (.int p3), .val (.int p4), .val (.int p5), .val (.int v5_1), .val (.int v6_2), .val (.int v7_3), .val (.int v8_4), .val (.int (0 : Int32)), .val (.int (1 : Int32)), .val (.ref b29), .val (.int (1 : Int32)), .val (.int (1 : Int32)), .val (.int (1 : Int32)), .val (.int (1 : Int32))] [(.int (1 : Int32))]))
      refine own_by (fun _ k => XS.goto X58.here hx rfl (pc0 := 244) (pc' := 248) rfl (hb hby at_244) (by decide) (by decide) k) ?_
      show own_Go _ _ _ _ (T58.setTop (mkF m 248 #[.val (.int p1), .val (.int p2), .val (.int p3), .val (.int p4), .val (.int p5), .val (.int v5_1), .val (.int v6_2), .val (.int v7_3), .val (.int v8_4), .val (.int (0 : Int32)), .val (.int (1 : Int32)), .val (.ref b29), .val (.int (1 : Int32)), .val (.int (1 : Int32)), .val (.int (1 : Int32)), .val (.int (1 : Int32))] [(.int (1 : Int32))]))
      exact own_retN X58 hx Bd.notSynchronized e58 Bd.returns (by simp) (hb hby at_248) (⟨rfl, N58⟩) (by decide) (by decide)
  · --
    refine own_by (fun _ k => XS.ifNo X0.here hx rfl (hb hby at_31) rfl ((if0 _ _).trans (feq hc5).1) k) ?_
    show own_Go _ _ _ _ (s₁.setTop (mkF m 34 #[.val (.int p1), .val (.int p2), .val (.int p3), .val (.int p4), .val (.int p5), .val (.int v5_1), .val (.int v6_2), .val (.int v7_3), .val (.int v8_4), .unset, .unset, .unset, .unset, .unset, .unset, .unset] []))
    refine own_by (fun _ k => XS.iconst X0.here hx rfl (hb hby at_34) k) ?_
    show own_Go _ _ _ _ (s₁.setTop (mkF m 35 #[.val (.int p1), .val (.int p2), .val (.int p3), .val (.int p4), .val (.int p5), .val (.int v5_1), .val (.int v6_2), .val (.int v7_3), .val (.int v8_4), .unset, .unset, .unset, .unset, .unset, .unset, .unset] [(.int (1 : Int32))]))
    refine own_by (fun _ k => XS.goto X0.here hx rfl (pc0 := 35) (pc' := 39) rfl (hb hby at_35) (by decide) (by decide) k) ?_
    show own_Go _ _ _ _ (s₁.setTop (mkF m 39 #[.val (.int p1), .val (.int p2), .val (.int p3), .val (.int p4), .val (.int p5), .val (.int v5_1), .val (.int v6_2), .val (.int v7_3), .val (.int v8_4), .unset, .unset, .unset, .unset, .unset, .unset, .unset] [(.int (1 : Int32))]))
    refine own_by (fun _ k => XS.istore X0.here hx rfl (hb hby at_39) rfl (l' := #[.val (.int p1), .val (.int p2), .val (.int p3), .val (.int p4), .val (.int p5), .val (.int v5_1), .val (.int v6_2), .val (.int v7_3), .val (.int v8_4), .val (.int (1 : Int32)), .unset, .unset, .unset, .unset, .unset, .unset]) rfl k) ?_
    show own_Go _ _ _ _ (s₁.setTop (mkF m 41 #[.val (.int p1), .val (.int p2), .val (.int p3), .val (.int p4), .val (.int p5), .val (.int v5_1), .val (.int v6_2), .val (.int v7_3), .val (.int v8_4), .val (.int (1 : Int32)), .unset, .unset, .unset, .unset, .unset, .unset] []))
    refine own_by (fun _ k => XS.iload X0.here hx rfl (hb hby at_41) rfl k) ?_
    show own_Go _ _ _ _ (s₁.setTop (mkF m 43 #[.val (.int p1), .val (.int p2), .val (.int p3), .val (.int p4), .val (.int p5), .val (.int v5_1), .val (.int v6_2), .val (.int v7_3), .val (.int v8_4), .val (.int (1 : Int32)), .unset, .unset, .unset, .unset, .unset, .unset] [(.int p5)]))
    refine own_by (fun _ k => XS.iconst X0.here hx rfl (hb hby at_43) k) ?_
    show own_Go _ _ _ _ (s₁.setTop (mkF m 44 #[.val (.int p1), .val (.int p2), .val (.int p3), .val (.int p4), .val (.int p5), .val (.int v5_1), .val (.int v6_2), .val (.int v7_3), .val (.int v8_4), .val (.int (1 : Int32)), .unset, .unset, .unset, .unset, .unset, .unset] [(.int (2 : Int32)), (.int p5)]))
    refine own_by (fun _ k => XS.iand X0.here hx rfl (hb hby at_44) rfl k) ?_
    show own_Go _ _ _ _ (s₁.setTop (mkF m 45 #[.val (.int p1), .val (.int p2), .val (.int p3), .val (.int p4), .val (.int p5), .val (.int v5_1), .val (.int v6_2), .val (.int v7_3), .val (.int v8_4), .val (.int (1 : Int32)), .unset, .unset, .unset, .unset, .unset, .unset] [(.int (p5 &&& (2 : Int32)))]))
    by_cases hc59 : (p5 &&& (2 : Int32)) = (0 : Int32)
    · --
      refine own_by (fun _ k => XS.ifYes X0.here hx rfl (pc0 := 45) (pc' := 52) rfl (hb hby at_45) rfl ((if0 _ _).trans (teq hc59).1) (by decide) (by decide) k) ?_
      show own_Go _ _ _ _ (s₁.setTop (mkF m 52 #[.val (.int p1), .val (.int p2), .val (.int p3), .val (.int p4), .val (.int p5), .val (.int v5_1), .val (.int v6_2), .val (.int v7_3), .val (.int v8_4), .val (.int (1 : Int32)), .unset, .unset, .unset, .unset, .unset, .unset] []))
      refine own_by (fun _ k => XS.iconst X0.here hx rfl (hb hby at_52) k) ?_
      show own_Go _ _ _ _ (s₁.setTop (mkF m 53 #[.val (.int p1), .val (.int p2), .val (.int p3), .val (.int p4), .val (.int p5), .val (.int v5_1), .val (.int v6_2), .val (.int v7_3), .val (.int v8_4), .val (.int (1 : Int32)), .unset, .unset, .unset, .unset, .unset, .unset] [(.int (0 : Int32))]))
      refine own_by (fun _ k => XS.istore X0.here hx rfl (hb hby at_53) rfl (l' := #[.val (.int p1), .val (.int p2), .val (.int p3), .val (.int p4), .val (.int p5), .val (.int v5_1), .val (.int v6_2), .val (.int v7_3), .val (.int v8_4), .val (.int (1 : Int32)), .val (.int (0 : Int32)), .unset, .unset, .unset, .unset, .unset]) rfl k) ?_
      show own_Go _ _ _ _ (s₁.setTop (mkF m 55 #[.val (.int p1), .val (.int p2), .val (.int p3), .val (.int p4), .val (.int p5), .val (.int v5_1), .val (.int v6_2), .val (.int v7_3), .val (.int v8_4), .val (.int (1 : Int32)), .val (.int (0 : Int32)), .unset, .unset, .unset, .unset, .unset] []))
      obtain ⟨T60, h60, X60, e60, E60, A60, D60, -, st60⟩ := newO X0 hx hZ hown (hw _ (List.mem_of_getElem? (i := 1) rfl)) (hw _ (List.mem_of_getElem? (i := 2) rfl)) (hw _ (List.mem_of_getElem? (i := 3) rfl)) e0 (g := (mkF m 55 #[.val (.int p1), .val (.int p2), .val (.int p3), .val (.int p4), .val (.int p5), .val (.int v5_1), .val (.int v6_2), .val (.int v7_3), .val (.int v8_4), .val (.int (1 : Int32)), .val (.int (0 : Int32)), .unset, .unset, .unset, .unset, .unset] [])) rfl (hb hby at_55) (by decide) (by decide)
      refine own_by st60 ?_
      show own_Go _ _ _ _ (T60.setTop (mkF m 58 #[.val (.int p1), .val (.int p2), .val (.int p3), .val (.int p4), .val (.int p5), .val (.int v5_1), .val (.int v6_2), .val (.int v7_3), .val (.int v8_4), .val (.int (1 : Int32)), .val (.int (0 : Int32)), .unset, .unset, .unset, .unset, .unset] [.ref h0.size]))
      obtain ⟨b60, g60⟩ : ∃ z, z = h0.size := ⟨_, rfl⟩
      rw [← g60] at A60 D60
      refine own_gen g60.symm (fun z_ => T60.setTop (mkF m 58 #[.val (.int p1), .val (.int p2), .val (.int p3), .val (.int p4), .val (.int p5), .val (.int v5_1), .val (.int v6_2), .val (.int v7_3), .val (.int v8_4), .val (.int (1 : Int32)), .val (.int (0 : Int32)), .unset, .unset, .unset, .unset, .unset] [.ref z_])) ?_
      have ge60 : n0 ≤ b60 := Nat.le_trans Z0 (Nat.le_of_eq g60.symm)
      have Z60 := Nat.le_trans Z0 E60.1
      have f61 : Fld Z h60 b60 "com/example/sonde/sonde/engine/Bits" "words" "[J" .null := D60 (Or.inl (hw _ (List.mem_of_getElem? (i := 12) rfl))) (ty := (.array .long)) (by decide)
      have f62 : Fld Z h60 b60 "com/example/sonde/sonde/engine/Bits" "held" "[J" .null := D60 (Or.inl (hw _ (List.mem_of_getElem? (i := 14) rfl))) (ty := (.array .long)) (by decide)
      show own_Go _ _ _ _ (T60.setTop (mkF m 58 #[.val (.int p1), .val (.int p2), .val (.int p3), .val (.int p4), .val (.int p5), .val (.int v5_1), .val (.int v6_2), .val (.int v7_3), .val (.int v8_4), .val (.int (1 : Int32)), .val (.int (0 : Int32)), .unset, .unset, .unset, .unset, .unset] [(.ref b60)]))
      refine own_by (fun _ k => XS.dup X60.here hx rfl (hb hby at_58) rfl rfl k) ?_
      show own_Go _ _ _ _ (T60.setTop (mkF m 59 #[.val (.int p1), .val (.int p2), .val (.int p3), .val (.int p4), .val (.int p5), .val (.int v5_1), .val (.int v6_2), .val (.int v7_3), .val (.int v8_4), .val (.int (1 : Int32)), .val (.int (0 : Int32)), .unset, .unset, .unset, .unset, .unset] [(.ref b60), (.ref b60)]))
      refine own_callI X60 hx hZ hown rfl (hw _ (List.mem_of_getElem? (i := 4) rfl)) (hw _ (List.mem_of_getElem? (i := 5) rfl)) (hw _ (List.mem_of_getElem? (i := 3) rfl)) (hw _ (List.mem_of_getElem? (i := 6) rfl)) (by decide) (rm1 l Z a0 hw [] b60 h60 n0 Z60 A60 f61 f62 ge60) e60 (by rw [hml]; rfl) b60 [] [(.ref b60)] rfl (lenOf own_pd0 rfl) rfl 1 (Nat.le_of_eq rfl) (by decide) (by decide) (Nat.le_of_ble_eq_true rfl) (Nat.le_of_ble_eq_true rfl) (hb hby at_59) ?_
      intro T63 Lc63 v63 X63 hQ63
      obtain ⟨h63, e63⟩ : ∃ h, T63.heap = h := ⟨_, rfl⟩
      rw [e63] at hQ63
      obtain ⟨rfl, N63q, K63, wz63, dz63, FW63, FH63, AW63, AH63, EH63, gw63, gh63, naw63, nad63, nwd63, nww63, nwh63⟩ := hQ63
      have N63 := Fr.app N0 N63q
      have f64 := A60.keep K63
      have Z63 := Nat.le_trans Z60 K63.1
      have hb0 : ∀ y, own_has (fun _ => 0) 1 y = false := fun y => by simp [own_has]
      show own_Go _ _ _ _ (T63.setTop (mkF m 62 #[.val (.int p1), .val (.int p2), .val (.int p3), .val (.int p4), .val (.int p5), .val (.int v5_1), .val (.int v6_2), .val (.int v7_3), .val (.int v8_4), .val (.int (1 : Int32)), .val (.int (0 : Int32)), .unset, .unset, .unset, .unset, .unset] [(.ref b60)]))
      refine own_by (fun _ k => XS.astore X63.here hx rfl (hb hby at_62) rfl rfl (l' := #[.val (.int p1), .val (.int p2), .val (.int p3), .val (.int p4), .val (.int p5), .val (.int v5_1), .val (.int v6_2), .val (.int v7_3), .val (.int v8_4), .val (.int (1 : Int32)), .val (.int (0 : Int32)), .val (.ref b60), .unset, .unset, .unset, .unset]) rfl k) ?_
      show own_Go _ _ _ _ (T63.setTop (mkF m 64 #[.val (.int p1), .val (.int p2), .val (.int p3), .val (.int p4), .val (.int p5), .val (.int v5_1), .val (.int v6_2), .val (.int v7_3), .val (.int v8_4), .val (.int (1 : Int32)), .val (.int (0 : Int32)), .val (.ref b60), .unset, .unset, .unset, .unset] []))
      refine own_by (fun _ k => XS.aload X63.here hx rfl (hb hby at_64) rfl rfl k) ?_
      show own_Go _ _ _ _ (T63.setTop (mkF m 66 #[.val (.int p1), .val (.int p2), .val (.int p3), .val (.int p4), .val (.int p5), .val (.int v5_1), .val (.int v6_2), .val (.int v7_3), .val (.int v8_4), .val (.int (1 : Int32)), .val (.int (0 : Int32)), .val (.ref b60), .unset, .unset, .unset, .unset] [(.ref b60)]))
      refine own_by (fun _ k => XS.iload X63.here hx rfl (hb hby at_66) rfl k) ?_
      show own_Go _ _ _ _ (T63.setTop (mkF m 68 #[.val (.int p1), .val (.int p2), .val (.int p3), .val (.int p4), .val (.int p5), .val (.int v5_1), .val (.int v6_2), .val (.int v7_3), .val (.int v8_4), .val (.int (1 : Int32)), .val (.int (0 : Int32)), .val (.ref b60), .unset, .unset, .unset, .unset] [(.int v5_1), (.ref b60)]))
      refine own_callV X63 hx hZ hown (hw _ (List.mem_of_getElem? (i := 15) rfl)) (hw _ (List.mem_of_getElem? (i := 16) rfl)) (notFace_of_selects (args := #[]) (mvT hZ (hw _ (List.mem_of_getElem? (i := 18) rfl)))) (hw _ (List.mem_of_getElem? (i := 18) rfl)) (hw _ (List.mem_of_getElem? (i := 17) rfl)) (hw _ (List.mem_of_getElem? (i := 3) rfl)) (hw _ (List.mem_of_getElem? (i := 19) rfl)) (by decide) (rm3 l Z a0 hw [] b60 v5_1 wz63 dz63 1 1 (fun _ => 0) (fun _ => 0) xa h63 n0 Z63 f64 FW63 FH63 AW63 AH63 EH63 ge60 gw63 gh63 naw63 nad63 nwd63 (by decide) (by decide) rfl hxa hbxa) e63 b60 f64 (by rw [hml]; rfl) [(.int v5_1)] [] rfl (lenOf own_pd1 rfl) rfl 0 (Nat.le_of_eq rfl) (by decide) (by decide) (Nat.le_of_ble_eq_true rfl) (Nat.le_of_ble_eq_true rfl) (hb hby at_68) ?_
      intro T67 Lc67 v67 X67 hQ67
      obtain ⟨h67, e67⟩ : ∃ h, T67.heap = h := ⟨_, rfl⟩
      rw [e67] at hQ67
      obtain ⟨rfl, N67q, K67, wz67, dz67, nz67, mz67, fz67, gz67, FW67, FH67, AW67, AH67, EH67, gw67, gh67, naw67, nad67, nwd67, hn167, hn567, hm67, ow67, od67, hbt67⟩ := hQ67
      have N67 := Fr.app N63 N67q
      have f68 := f64.keep K67
      have f73 := EH63.keep K67
      have Z67 := Nat.le_trans Z63 K67.1
      have hbb67 : ∀ y, own_has fz67 nz67 y = (own_has (fun _ => 0) 1 y || decide (y = xa)) := hbt67
      show own_Go _ _ _ _ (T67.setTop (mkF m 71 #[.val (.int p1), .val (.int p2), .val (.int p3), .val (.int p4), .val (.int p5), .val (.int v5_1), .val (.int v6_2), .val (.int v7_3), .val (.int v8_4), .val (.int (1 : Int32)), .val (.int (0 : Int32)), .val (.ref b60), .unset, .unset, .unset, .unset] []))
      refine own_by (fun _ k => XS.iload X67.here hx rfl (hb hby at_71) rfl k) ?_
      show own_Go _ _ _ _ (T67.setTop (mkF m 73 #[.val (.int p1), .val (.int p2), .val (.int p3), .val (.int p4), .val (.int p5), .val (.int v5_1), .val (.int v6_2), .val (.int v7_3), .val (.int v8_4), .val (.int (1 : Int32)), .val (.int (0 : Int32)), .val (.ref b60), .unset, .unset, .unset, .unset] [(.int (1 : Int32))]))
      refine own_by (fun _ k => XS.ifNo X67.here hx rfl (hb hby at_73) rfl ((if0 _ _).trans (feq (by decide)).1) k) ?_
      show own_Go _ _ _ _ (T67.setTop (mkF m 76 #[.val (.int p1), .val (.int p2), .val (.int p3), .val (.int p4), .val (.int p5), .val (.int v5_1), .val (.int v6_2), .val (.int v7_3), .val (.int v8_4), .val (.int (1 : Int32)), .val (.int (0 : Int32)), .val (.ref b60), .unset, .unset, .unset, .unset] []))
      refine own_by (fun _ k => XS.aload X67.here hx rfl (hb hby at_76) rfl rfl k) ?_
      show own_Go _ _ _ _ (T67.setTop (mkF m 78 #[.val (.int p1), .val (.int p2), .val (.int p3), .val (.int p4), .val (.int p5), .val (.int v5_1), .val (.int v6_2), .val (.int v7_3), .val (.int v8_4), .val (.int (1 : Int32)), .val (.int (0 : Int32)), .val (.ref b60), .unset, .unset, .unset, .unset] [(.ref b60)]))
      refine own_by (fun _ k => XS.iload X67.here hx rfl (hb hby at_78) rfl k) ?_
      show own_Go _ _ _ _ (T67.setTop (mkF m 80 #[.val (.int p1), .val (.int p2), .val (.int p3), .val (.int p4), .val (.int p5), .val (.int v5_1), .val (.int v6_2), .val (.int v7_3), .val (.int v8_4), .val (.int (1 : Int32)), .val (.int (0 : Int32)), .val (.ref b60), .unset, .unset, .unset, .unset] [(.int v6_2), (.ref b60)]))
      refine own_callV X67 hx hZ hown (hw _ (List.mem_of_getElem? (i := 15) rfl)) (hw _ (List.mem_of_getElem? (i := 16) rfl)) (notFace_of_selects (args := #[]) (mvT hZ (hw _ (List.mem_of_getElem? (i := 18) rfl)))) (hw _ (List.mem_of_getElem? (i := 18) rfl)) (hw _ (List.mem_of_getElem? (i := 17) rfl)) (hw _ (List.mem_of_getElem? (i := 3) rfl)) (hw _ (List.mem_of_getElem? (i := 19) rfl)) (by decide) (rm3 l Z a0 hw [] b60 v6_2 wz67 dz67 nz67 mz67 fz67 gz67 xb h67 n0 Z67 f68 FW67 FH67 AW67 AH67 EH67 ge60 gw67 gh67 naw67 nad67 nwd67 hn167 hn567 hm67 hxb hbxb) e67 b60 f68 (by rw [hml]; rfl) [(.int v6_2)] [] rfl (lenOf own_pd1 rfl) rfl 0 (Nat.le_of_eq rfl) (by decide) (by decide) (Nat.le_of_ble_eq_true rfl) (Nat.le_of_ble_eq_true rfl) (hb hby at_80) ?_
      intro T74 Lc74 v74 X74 hQ74
      obtain ⟨h74, e74⟩ : ∃ h, T74.heap = h := ⟨_, rfl⟩
      rw [e74] at hQ74
      obtain ⟨rfl, N74q, K74, wz74, dz74, nz74, mz74, fz74, gz74, FW74, FH74, AW74, AH74, EH74, gw74, gh74, naw74, nad74, nwd74, hn174, hn574, hm74, ow74, od74, hbt74⟩ := hQ74
      have N74 := Fr.app N67 N74q
      have f75 := f68.keep K74
      have f76 := f73.keep K74
      have f81 := EH67.keep K74
      have Z74 := Nat.le_trans Z67 K74.1
      have hbb74 : ∀ y, own_has fz74 nz74 y = (own_has fz67 nz67 y || decide (y = xb)) := hbt74
      show own_Go _ _ _ _ (T74.setTop (mkF m 83 #[.val (.int p1), .val (.int p2), .val (.int p3), .val (.int p4), .val (.int p5), .val (.int v5_1), .val (.int v6_2), .val (.int v7_3), .val (.int v8_4), .val (.int (1 : Int32)), .val (.int (0 : Int32)), .val (.ref b60), .unset, .unset, .unset, .unset] []))
      refine own_by (fun _ k => XS.iload X74.here hx rfl (hb hby at_83) rfl k) ?_
      show own_Go _ _ _ _ (T74.setTop (mkF m 85 #[.val (.int p1), .val (.int p2), .val (.int p3), .val (.int p4), .val (.int p5), .val (.int v5_1), .val (.int v6_2), .val (.int v7_3), .val (.int v8_4), .val (.int (1 : Int32)), .val (.int (0 : Int32)), .val (.ref b60), .unset, .unset, .unset, .unset] [(.int (0 : Int32))]))
      refine own_by (fun _ k => XS.ifYes X74.here hx rfl (pc0 := 85) (pc' := 95) rfl (hb hby at_85) rfl ((if0 _ _).trans (teq (by decide)).1) (by decide) (by decide) k) ?_
      show own_Go _ _ _ _ (T74.setTop (mkF m 95 #[.val (.int p1), .val (.int p2), .val (.int p3), .val (.int p4), .val (.int p5), .val (.int v5_1), .val (.int v6_2), .val (.int v7_3), .val (.int v8_4), .val (.int (1 : Int32)), .val (.int (0 : Int32)), .val (.ref b60), .unset, .unset, .unset, .unset] []))
      refine own_by (fun _ k => XS.aload X74.here hx rfl (hb hby at_95) rfl rfl k) ?_
      show own_Go _ _ _ _ (T74.setTop (mkF m 97 #[.val (.int p1), .val (.int p2), .val (.int p3), .val (.int p4), .val (.int p5), .val (.int v5_1), .val (.int v6_2), .val (.int v7_3), .val (.int v8_4), .val (.int (1 : Int32)), .val (.int (0 : Int32)), .val (.ref b60), .unset, .unset, .unset, .unset] [(.ref b60)]))
      refine own_by (fun _ k => XS.iload X74.here hx rfl (hb hby at_97) rfl k) ?_
      show own_Go _ _ _ _ (T74.setTop (mkF m 99 #[.val (.int p1), .val (.int p2), .val (.int p3), .val (.int p4), .val (.int p5), .val (.int v5_1), .val (.int v6_2), .val (.int v7_3), .val (.int v8_4), .val (.int (1 : Int32)), .val (.int (0 : Int32)), .val (.ref b60), .unset, .unset, .unset, .unset] [(.int v8_4), (.ref b60)]))
      refine own_callV X74 hx hZ hown (hw _ (List.mem_of_getElem? (i := 24) rfl)) (hw _ (List.mem_of_getElem? (i := 25) rfl)) (notFace_of_selects (args := #[]) (mvT hZ (hw _ (List.mem_of_getElem? (i := 27) rfl)))) (hw _ (List.mem_of_getElem? (i := 27) rfl)) (hw _ (List.mem_of_getElem? (i := 26) rfl)) (hw _ (List.mem_of_getElem? (i := 3) rfl)) (hw _ (List.mem_of_getElem? (i := 28) rfl)) (by decide) (rm5 l Z a0 hw [] b60 v8_4 wz74 nz74 fz74 xq h74 n0 Z74 FW74 AW74 hn574 hxq) e74 b60 f75 (by rw [hml]; rfl) [(.int v8_4)] [] rfl (lenOf own_pd2 rfl) rfl 0 (Nat.le_of_eq rfl) (by decide) (by decide) (Nat.le_of_ble_eq_true rfl) (Nat.le_of_ble_eq_true rfl) (hb hby at_99) ?_
      intro T82 Lc82 v82 X82 hQ82
      obtain ⟨rfl, N82q, e82⟩ := hQ82
      have N82 := Fr.app N74 N82q
      show own_Go _ _ _ _ (T82.setTop (mkF m 102 #[.val (.int p1), .val (.int p2), .val (.int p3), .val (.int p4), .val (.int p5), .val (.int v5_1), .val (.int v6_2), .val (.int v7_3), .val (.int v8_4), .val (.int (1 : Int32)), .val (.int (0 : Int32)), .val (.ref b60), .unset, .unset, .unset, .unset] [(.int (if own_has fz74 nz74 xq then (1 : Int32) else 0))]))
      refine own_by (fun _ k => XS.iload X82.here hx rfl (hb hby at_102) rfl k) ?_
      show own_Go _ _ _ _ (T82.setTop (mkF m 104 #[.val (.int p1), .val (.int p2), .val (.int p3), .val (.int p4), .val (.int p5), .val (.int v5_1), .val (.int v6_2), .val (.int v7_3), .val (.int v8_4), .val (.int (1 : Int32)), .val (.int (0 : Int32)), .val (.ref b60), .unset, .unset, .unset, .unset] [(.int v8_4), (.int (if own_has fz74 nz74 xq then (1 : Int32) else 0))]))
      refine own_by (fun _ k => XS.iload X82.here hx rfl (hb hby at_104) rfl k) ?_
      show own_Go _ _ _ _ (T82.setTop (mkF m 106 #[.val (.int p1), .val (.int p2), .val (.int p3), .val (.int p4), .val (.int p5), .val (.int v5_1), .val (.int v6_2), .val (.int v7_3), .val (.int v8_4), .val (.int (1 : Int32)), .val (.int (0 : Int32)), .val (.ref b60), .unset, .unset, .unset, .unset] [(.int v5_1), (.int v8_4), (.int (if own_has fz74 nz74 xq then (1 : Int32) else 0))]))
      refine own_by (fun _ k => XS.iload X82.here hx rfl (hb hby at_106) rfl k) ?_
      show own_Go _ _ _ _ (T82.setTop (mkF m 108 #[.val (.int p1), .val (.int p2), .val (.int p3), .val (.int p4), .val (.int p5), .val (.int v5_1), .val (.int v6_2), .val (.int v7_3), .val (.int v8_4), .val (.int (1 : Int32)), .val (.int (0 : Int32)), .val (.ref b60), .unset, .unset, .unset, .unset] [(.int (1 : Int32)), (.int v5_1), (.int v8_4), (.int (if own_has fz74 nz74 xq then (1 : Int32) else 0))]))
      refine own_by (fun _ k => XS.iload X82.here hx rfl (hb hby at_108) rfl k) ?_
      show own_Go _ _ _ _ (T82.setTop (mkF m 110 #[.val (.int p1), .val (.int p2), .val (.int p3), .val (.int p4), .val (.int p5), .val (.int v5_1), .val (.int v6_2), .val (.int v7_3), .val (.int v8_4), .val (.int (1 : Int32)), .val (.int (0 : Int32)), .val (.ref b60), .unset, .unset, .unset, .unset] [(.int v6_2), (.int (1 : Int32)), (.int v5_1), (.int v8_4), (.int (if own_has fz74 nz74 xq then (1 : Int32) else 0))]))
      refine own_by (fun _ k => XS.iload X82.here hx rfl (hb hby at_110) rfl k) ?_
      show own_Go _ _ _ _ (T82.setTop (mkF m 112 #[.val (.int p1), .val (.int p2), .val (.int p3), .val (.int p4), .val (.int p5), .val (.int v5_1), .val (.int v6_2), .val (.int v7_3), .val (.int v8_4), .val (.int (1 : Int32)), .val (.int (0 : Int32)), .val (.ref b60), .unset, .unset, .unset, .unset] [(.int (0 : Int32)), (.int v6_2), (.int (1 : Int32)), (.int v5_1), (.int v8_4), (.int (if own_has fz74 nz74 xq then (1 : Int32) else 0))]))
      refine own_by (fun _ k => XS.iload X82.here hx rfl (hb hby at_112) rfl k) ?_
      show own_Go _ _ _ _ (T82.setTop (mkF m 114 #[.val (.int p1), .val (.int p2), .val (.int p3), .val (.int p4), .val (.int p5), .val (.int v5_1), .val (.int v6_2), .val (.int v7_3), .val (.int v8_4), .val (.int (1 : Int32)), .val (.int (0 : Int32)), .val (.ref b60), .unset, .unset, .unset, .unset] [(.int v7_3), (.int (0 : Int32)), (.int v6_2), (.int (1 : Int32)), (.int v5_1), (.int v8_4), (.int (if own_has fz74 nz74 xq then (1 : Int32) else 0))]))
      refine own_callS X82 hx hZ hown (hw _ (List.mem_of_getElem? (i := 29) rfl)) (hw _ (List.mem_of_getElem? (i := 30) rfl)) (hw _ (List.mem_of_getElem? (i := 31) rfl)) (hw _ (List.mem_of_getElem? (i := 32) rfl)) (by decide) (rm6 l Z a0 hw [] v8_4 v5_1 (1 : Int32) v6_2 (0 : Int32) v7_3 h74 n0 Z74) e82 (by rw [hml]; rfl) [(.int v8_4), (.int v5_1), (.int (1 : Int32)), (.int v6_2), (.int (0 : Int32)), (.int v7_3)] [(.int (if own_has fz74 nz74 xq then (1 : Int32) else 0))] rfl (lenOf own_pd3 rfl) rfl 1 (Nat.le_of_eq rfl) (by decide) (by decide) (Nat.le_of_ble_eq_true rfl) (Nat.le_of_ble_eq_true rfl) (hb hby at_114) ?_
      intro T83 Lc83 v83 X83 hQ83
      obtain ⟨rfl, N83q, e83⟩ := hQ83
      have N83 := Fr.app N82 N83q
      show own_Go _ _ _ _ (T83.setTop (mkF m 117 #[.val (.int p1), .val (.int p2), .val (.int p3), .val (.int p4), .val (.int p5), .val (.int v5_1), .val (.int v6_2), .val (.int v7_3), .val (.int v8_4), .val (.int (1 : Int32)), .val (.int (0 : Int32)), .val (.ref b60), .unset, .unset, .unset, .unset] [(.int (own_exp v8_4 v5_1 (1 : Int32) v6_2 (0 : Int32) v7_3)), (.int (if own_has fz74 nz74 xq then (1 : Int32) else 0))]))
      refine own_by (fun _ k => XS.icmpNo X83.here hx rfl (hb hby at_117) rfl (teq (own_fin fz74 nz74 v8_4 v5_1 v6_2 v7_3 (1 : Int32) (0 : Int32) xq xa xb xc hxq hxa hxb hxc (by rw [hbb74]; rw [hbb67]; rw [hb0]; simp))).2 k) ?_
      show own_Go _ _ _ _ (T83.setTop (mkF m 120 #[.val (.int p1), .val (.int p2), .val (.int p3), .val (.int p4), .val (.int p5), .val (.int v5_1), .val (.int v6_2), .val (.int v7_3), .val (.int v8_4), .val (.int (1 : Int32)), .val (.int (0 : Int32)), .val (.ref b60), .unset, .unset, .unset, .unset] []))
      refine own_by (fun _ k => XS.iconst X83.here hx rfl (hb hby at_120) k) ?_
      show own_Go _ _ _ _ (T83.setTop (mkF m 121 #[.val (.int p1), .val (.int p2), .val (.int p3), .val (.int p4), .val (.int p5), .val (.int v5_1), .val (.int v6_2), .val (.int v7_3), .val (.int v8_4), .val (.int (1 : Int32)), .val (.int (0 : Int32)), .val (.ref b60), .unset, .unset, .unset, .unset] [(.int (1 : Int32))]))
      refine own_by (fun _ k => XS.goto X83.here hx rfl (pc0 := 121) (pc' := 125) rfl (hb hby at_121) (by decide) (by decide) k) ?_
      show own_Go _ _ _ _ (T83.setTop (mkF m 125 #[.val (.int p1), .val (.int p2), .val (.int p3), .val (.int p4), .val (.int p5), .val (.int v5_1), .val (.int v6_2), .val (.int v7_3), .val (.int v8_4), .val (.int (1 : Int32)), .val (.int (0 : Int32)), .val (.ref b60), .unset, .unset, .unset, .unset] [(.int (1 : Int32))]))
      refine own_by (fun _ k => XS.istore X83.here hx rfl (hb hby at_125) rfl (l' := #[.val (.int p1), .val (.int p2), .val (.int p3), .val (.int p4), .val (.int p5), .val (.int v5_1), .val (.int v6_2), .val (.int v7_3), .val (.int v8_4), .val (.int (1 : Int32)), .val (.int (0 : Int32)), .val (.ref b60), .val (.int (1 : Int32)), .unset, .unset, .unset]) rfl k) ?_
      show own_Go _ _ _ _ (T83.setTop (mkF m 127 #[.val (.int p1), .val (.int p2), .val (.int p3), .val (.int p4), .val (.int p5), .val (.int v5_1), .val (.int v6_2), .val (.int v7_3), .val (.int v8_4), .val (.int (1 : Int32)), .val (.int (0 : Int32)), .val (.ref b60), .val (.int (1 : Int32)), .unset, .unset, .unset] []))
      refine own_by (fun _ k => XS.aload X83.here hx rfl (hb hby at_127) rfl rfl k) ?_
      show own_Go _ _ _ _ (T83.setTop (mkF m 129 #[.val (.int p1), .val (.int p2), .val (.int p3), .val (.int p4), .val (.int p5), .val (.int v5_1), .val (.int v6_2), .val (.int v7_3), .val (.int v8_4), .val (.int (1 : Int32)), .val (.int (0 : Int32)), .val (.ref b60), .val (.int (1 : Int32)), .unset, .unset, .unset] [(.ref b60)]))
      refine own_by (fun _ k => XS.iload X83.here hx rfl (hb hby at_129) rfl k) ?_
      show own_Go _ _ _ _ (T83.setTop (mkF m 131 #[.val (.int p1), .val (.int p2), .val (.int p3), .val (.int p4), .val (.int p5), .val (.int v5_1), .val (.int v6_2), .val (.int v7_3), .val (.int v8_4), .val (.int (1 : Int32)), .val (.int (0 : Int32)), .val (.ref b60), .val (.int (1 : Int32)), .unset, .unset, .unset] [(.int v5_1), (.ref b60)]))
      refine own_callV X83 hx hZ hown (hw _ (List.mem_of_getElem? (i := 24) rfl)) (hw _ (List.mem_of_getElem? (i := 25) rfl)) (notFace_of_selects (args := #[]) (mvT hZ (hw _ (List.mem_of_getElem? (i := 27) rfl)))) (hw _ (List.mem_of_getElem? (i := 27) rfl)) (hw _ (List.mem_of_getElem? (i := 26) rfl)) (hw _ (List.mem_of_getElem? (i := 3) rfl)) (hw _ (List.mem_of_getElem? (i := 28) rfl)) (by decide) (rm5 l Z a0 hw [] b60 v5_1 wz74 nz74 fz74 xa h74 n0 Z74 FW74 AW74 hn574 hxa) e83 b60 f75 (by rw [hml]; rfl) [(.int v5_1)] [] rfl (lenOf own_pd2 rfl) rfl 0 (Nat.le_of_eq rfl) (by decide) (by decide) (Nat.le_of_ble_eq_true rfl) (Nat.le_of_ble_eq_true rfl) (hb hby at_131) ?_
      intro T84 Lc84 v84 X84 hQ84
      obtain ⟨rfl, N84q, e84⟩ := hQ84
      have N84 := Fr.app N83 N84q
      show own_Go _ _ _ _ (T84.setTop (mkF m 134 #[.val (.int p1), .val (.int p2), .val (.int p3), .val (.int p4), .val (.int p5), .val (.int v5_1), .val (.int v6_2), .val (.int v7_3), .val (.int v8_4), .val (.int (1 : Int32)), .val (.int (0 : Int32)), .val (.ref b60), .val (.int (1 : Int32)), .unset, .unset, .unset] [(.int (if own_has fz74 nz74 xa then (1 : Int32) else 0))]))
      refine own_by (fun _ k => XS.iload X84.here hx rfl (hb hby at_134) rfl k) ?_
      show own_Go _ _ _ _ (T84.setTop (mkF m 136 #[.val (.int p1), .val (.int p2), .val (.int p3), .val (.int p4), .val (.int p5), .val (.int v5_1), .val (.int v6_2), .val (.int v7_3), .val (.int v8_4), .val (.int (1 : Int32)), .val (.int (0 : Int32)), .val (.ref b60), .val (.int (1 : Int32)), .unset, .unset, .unset] [(.int v5_1), (.int (if own_has fz74 nz74 xa then (1 : Int32) else 0))]))
      refine own_by (fun _ k => XS.iload X84.here hx rfl (hb hby at_136) rfl k) ?_
      show own_Go _ _ _ _ (T84.setTop (mkF m 138 #[.val (.int p1), .val (.int p2), .val (.int p3), .val (.int p4), .val (.int p5), .val (.int v5_1), .val (.int v6_2), .val (.int v7_3), .val (.int v8_4), .val (.int (1 : Int32)), .val (.int (0 : Int32)), .val (.ref b60), .val (.int (1 : Int32)), .unset, .unset, .unset] [(.int v5_1), (.int v5_1), (.int (if own_has fz74 nz74 xa then (1 : Int32) else 0))]))
      refine own_by (fun _ k => XS.iload X84.here hx rfl (hb hby at_138) rfl k) ?_
      show own_Go _ _ _ _ (T84.setTop (mkF m 140 #[.val (.int p1), .val (.int p2), .val (.int p3), .val (.int p4), .val (.int p5), .val (.int v5_1), .val (.int v6_2), .val (.int v7_3), .val (.int v8_4), .val (.int (1 : Int32)), .val (.int (0 : Int32)), .val (.ref b60), .val (.int (1 : Int32)), .unset, .unset, .unset] [(.int (1 : Int32)), (.int v5_1), (.int v5_1), (.int (if own_has fz74 nz74 xa then (1 : Int32) else 0))]))
      refine own_by (fun _ k => XS.iload X84.here hx rfl (hb hby at_140) rfl k) ?_
      show own_Go _ _ _ _ (T84.setTop (mkF m 142 #[.val (.int p1), .val (.int p2), .val (.int p3), .val (.int p4), .val (.int p5), .val (.int v5_1), .val (.int v6_2), .val (.int v7_3), .val (.int v8_4), .val (.int (1 : Int32)), .val (.int (0 : Int32)), .val (.ref b60), .val (.int (1 : Int32)), .unset, .unset, .unset] [(.int v6_2), (.int (1 : Int32)), (.int v5_1), (.int v5_1), (.int (if own_has fz74 nz74 xa then (1 : Int32) else 0))]))
      refine own_by (fun _ k => XS.iload X84.here hx rfl (hb hby at_142) rfl k) ?_
      show own_Go _ _ _ _ (T84.setTop (mkF m 144 #[.val (.int p1), .val (.int p2), .val (.int p3), .val (.int p4), .val (.int p5), .val (.int v5_1), .val (.int v6_2), .val (.int v7_3), .val (.int v8_4), .val (.int (1 : Int32)), .val (.int (0 : Int32)), .val (.ref b60), .val (.int (1 : Int32)), .unset, .unset, .unset] [(.int (0 : Int32)), (.int v6_2), (.int (1 : Int32)), (.int v5_1), (.int v5_1), (.int (if own_has fz74 nz74 xa then (1 : Int32) else 0))]))
      refine own_by (fun _ k => XS.iload X84.here hx rfl (hb hby at_144) rfl k) ?_
      show own_Go _ _ _ _ (T84.setTop (mkF m 146 #[.val (.int p1), .val (.int p2), .val (.int p3), .val (.int p4), .val (.int p5), .val (.int v5_1), .val (.int v6_2), .val (.int v7_3), .val (.int v8_4), .val (.int (1 : Int32)), .val (.int (0 : Int32)), .val (.ref b60), .val (.int (1 : Int32)), .unset, .unset, .unset] [(.int v7_3), (.int (0 : Int32)), (.int v6_2), (.int (1 : Int32)), (.int v5_1), (.int v5_1), (.int (if own_has fz74 nz74 xa then (1 : Int32) else 0))]))
      refine own_callS X84 hx hZ hown (hw _ (List.mem_of_getElem? (i := 29) rfl)) (hw _ (List.mem_of_getElem? (i := 30) rfl)) (hw _ (List.mem_of_getElem? (i := 31) rfl)) (hw _ (List.mem_of_getElem? (i := 32) rfl)) (by decide) (rm6 l Z a0 hw [] v5_1 v5_1 (1 : Int32) v6_2 (0 : Int32) v7_3 h74 n0 Z74) e84 (by rw [hml]; rfl) [(.int v5_1), (.int v5_1), (.int (1 : Int32)), (.int v6_2), (.int (0 : Int32)), (.int v7_3)] [(.int (if own_has fz74 nz74 xa then (1 : Int32) else 0))] rfl (lenOf own_pd3 rfl) rfl 1 (Nat.le_of_eq rfl) (by decide) (by decide) (Nat.le_of_ble_eq_true rfl) (Nat.le_of_ble_eq_true rfl) (hb hby at_146) ?_
      intro T85 Lc85 v85 X85 hQ85
      obtain ⟨rfl, N85q, e85⟩ := hQ85
      have N85 := Fr.app N84 N85q
      show own_Go _ _ _ _ (T85.setTop (mkF m 149 #[.val (.int p1), .val (.int p2), .val (.int p3), .val (.int p4), .val (.int p5), .val (.int v5_1), .val (.int v6_2), .val (.int v7_3), .val (.int v8_4), .val (.int (1 : Int32)), .val (.int (0 : Int32)), .val (.ref b60), .val (.int (1 : Int32)), .unset, .unset, .unset] [(.int (own_exp v5_1 v5_1 (1 : Int32) v6_2 (0 : Int32) v7_3)), (.int (if own_has fz74 nz74 xa then (1 : Int32) else 0))]))
      refine own_by (fun _ k => XS.icmpNo X85.here hx rfl (hb hby at_149) rfl (teq (own_fin fz74 nz74 v5_1 v5_1 v6_2 v7_3 (1 : Int32) (0 : Int32) xa xa xb xc hxa hxa hxb hxc (by rw [hbb74]; rw [hbb67]; rw [hb0]; simp))).2 k) ?_
      show own_Go _ _ _ _ (T85.setTop (mkF m 152 #[.val (.int p1), .val (.int p2), .val (.int p3), .val (.int p4), .val (.int p5), .val (.int v5_1), .val (.int v6_2), .val (.int v7_3), .val (.int v8_4), .val (.int (1 : Int32)), .val (.int (0 : Int32)), .val (.ref b60), .val (.int (1 : Int32)), .unset, .unset, .unset] []))
      refine own_by (fun _ k => XS.iconst X85.here hx rfl (hb hby at_152) k) ?_
      show own_Go _ _ _ _ (T85.setTop (mkF m 153 #[.val (.int p1), .val (.int p2), .val (.int p3), .val (.int p4), .val (.int p5), .val (.int v5_1), .val (.int v6_2), .val (.int v7_3), .val (.int v8_4), .val (.int (1 : Int32)), .val (.int (0 : Int32)), .val (.ref b60), .val (.int (1 : Int32)), .unset, .unset, .unset] [(.int (1 : Int32))]))
      refine own_by (fun _ k => XS.goto X85.here hx rfl (pc0 := 153) (pc' := 157) rfl (hb hby at_153) (by decide) (by decide) k) ?_
      show own_Go _ _ _ _ (T85.setTop (mkF m 157 #[.val (.int p1), .val (.int p2), .val (.int p3), .val (.int p4), .val (.int p5), .val (.int v5_1), .val (.int v6_2), .val (.int v7_3), .val (.int v8_4), .val (.int (1 : Int32)), .val (.int (0 : Int32)), .val (.ref b60), .val (.int (1 : Int32)), .unset, .unset, .unset] [(.int (1 : Int32))]))
      refine own_by (fun _ k => XS.istore X85.here hx rfl (hb hby at_157) rfl (l' := #[.val (.int p1), .val (.int p2), .val (.int p3), .val (.int p4), .val (.int p5), .val (.int v5_1), .val (.int v6_2), .val (.int v7_3), .val (.int v8_4), .val (.int (1 : Int32)), .val (.int (0 : Int32)), .val (.ref b60), .val (.int (1 : Int32)), .val (.int (1 : Int32)), .unset, .unset]) rfl k) ?_
      show own_Go _ _ _ _ (T85.setTop (mkF m 159 #[.val (.int p1), .val (.int p2), .val (.int p3), .val (.int p4), .val (.int p5), .val (.int v5_1), .val (.int v6_2), .val (.int v7_3), .val (.int v8_4), .val (.int (1 : Int32)), .val (.int (0 : Int32)), .val (.ref b60), .val (.int (1 : Int32)), .val (.int (1 : Int32)), .unset, .unset] []))
      refine own_by (fun _ k => XS.aload X85.here hx rfl (hb hby at_159) rfl rfl k) ?_
      show own_Go _ _ _ _ (T85.setTop (mkF m 161 #[.val (.int p1), .val (.int p2), .val (.int p3), .val (.int p4), .val (.int p5), .val (.int v5_1), .val (.int v6_2), .val (.int v7_3), .val (.int v8_4), .val (.int (1 : Int32)), .val (.int (0 : Int32)), .val (.ref b60), .val (.int (1 : Int32)), .val (.int (1 : Int32)), .unset, .unset] [(.ref b60)]))
      refine own_by (fun _ k => XS.iload X85.here hx rfl (hb hby at_161) rfl k) ?_
      show own_Go _ _ _ _ (T85.setTop (mkF m 163 #[.val (.int p1), .val (.int p2), .val (.int p3), .val (.int p4), .val (.int p5), .val (.int v5_1), .val (.int v6_2), .val (.int v7_3), .val (.int v8_4), .val (.int (1 : Int32)), .val (.int (0 : Int32)), .val (.ref b60), .val (.int (1 : Int32)), .val (.int (1 : Int32)), .unset, .unset] [(.int v6_2), (.ref b60)]))
      refine own_callV X85 hx hZ hown (hw _ (List.mem_of_getElem? (i := 24) rfl)) (hw _ (List.mem_of_getElem? (i := 25) rfl)) (notFace_of_selects (args := #[]) (mvT hZ (hw _ (List.mem_of_getElem? (i := 27) rfl)))) (hw _ (List.mem_of_getElem? (i := 27) rfl)) (hw _ (List.mem_of_getElem? (i := 26) rfl)) (hw _ (List.mem_of_getElem? (i := 3) rfl)) (hw _ (List.mem_of_getElem? (i := 28) rfl)) (by decide) (rm5 l Z a0 hw [] b60 v6_2 wz74 nz74 fz74 xb h74 n0 Z74 FW74 AW74 hn574 hxb) e85 b60 f75 (by rw [hml]; rfl) [(.int v6_2)] [] rfl (lenOf own_pd2 rfl) rfl 0 (Nat.le_of_eq rfl) (by decide) (by decide) (Nat.le_of_ble_eq_true rfl) (Nat.le_of_ble_eq_true rfl) (hb hby at_163) ?_
      intro T86 Lc86 v86 X86 hQ86
      obtain ⟨rfl, N86q, e86⟩ := hQ86
      have N86 := Fr.app N85 N86q
      show own_Go _ _ _ _ (T86.setTop (mkF m 166 #[.val (.int p1), .val (.int p2), .val (.int p3), .val (.int p4), .val (.int p5), .val (.int v5_1), .val (.int v6_2), .val (.int v7_3), .val (.int v8_4), .val (.int (1 : Int32)), .val (.int (0 : Int32)), .val (.ref b60), .val (.int (1 : Int32)), .val (.int (1 : Int32)), .unset, .unset] [(.int (if own_has fz74 nz74 xb then (1 : Int32) else 0))]))
      refine own_by (fun _ k => XS.iload X86.here hx rfl (hb hby at_166) rfl k) ?_
      show own_Go _ _ _ _ (T86.setTop (mkF m 168 #[.val (.int p1), .val (.int p2), .val (.int p3), .val (.int p4), .val (.int p5), .val (.int v5_1), .val (.int v6_2), .val (.int v7_3), .val (.int v8_4), .val (.int (1 : Int32)), .val (.int (0 : Int32)), .val (.ref b60), .val (.int (1 : Int32)), .val (.int (1 : Int32)), .unset, .unset] [(.int v6_2), (.int (if own_has fz74 nz74 xb then (1 : Int32) else 0))]))
      refine own_by (fun _ k => XS.iload X86.here hx rfl (hb hby at_168) rfl k) ?_
      show own_Go _ _ _ _ (T86.setTop (mkF m 170 #[.val (.int p1), .val (.int p2), .val (.int p3), .val (.int p4), .val (.int p5), .val (.int v5_1), .val (.int v6_2), .val (.int v7_3), .val (.int v8_4), .val (.int (1 : Int32)), .val (.int (0 : Int32)), .val (.ref b60), .val (.int (1 : Int32)), .val (.int (1 : Int32)), .unset, .unset] [(.int v5_1), (.int v6_2), (.int (if own_has fz74 nz74 xb then (1 : Int32) else 0))]))
      refine own_by (fun _ k => XS.iload X86.here hx rfl (hb hby at_170) rfl k) ?_
      show own_Go _ _ _ _ (T86.setTop (mkF m 172 #[.val (.int p1), .val (.int p2), .val (.int p3), .val (.int p4), .val (.int p5), .val (.int v5_1), .val (.int v6_2), .val (.int v7_3), .val (.int v8_4), .val (.int (1 : Int32)), .val (.int (0 : Int32)), .val (.ref b60), .val (.int (1 : Int32)), .val (.int (1 : Int32)), .unset, .unset] [(.int (1 : Int32)), (.int v5_1), (.int v6_2), (.int (if own_has fz74 nz74 xb then (1 : Int32) else 0))]))
      refine own_by (fun _ k => XS.iload X86.here hx rfl (hb hby at_172) rfl k) ?_
      show own_Go _ _ _ _ (T86.setTop (mkF m 174 #[.val (.int p1), .val (.int p2), .val (.int p3), .val (.int p4), .val (.int p5), .val (.int v5_1), .val (.int v6_2), .val (.int v7_3), .val (.int v8_4), .val (.int (1 : Int32)), .val (.int (0 : Int32)), .val (.ref b60), .val (.int (1 : Int32)), .val (.int (1 : Int32)), .unset, .unset] [(.int v6_2), (.int (1 : Int32)), (.int v5_1), (.int v6_2), (.int (if own_has fz74 nz74 xb then (1 : Int32) else 0))]))
      refine own_by (fun _ k => XS.iload X86.here hx rfl (hb hby at_174) rfl k) ?_
      show own_Go _ _ _ _ (T86.setTop (mkF m 176 #[.val (.int p1), .val (.int p2), .val (.int p3), .val (.int p4), .val (.int p5), .val (.int v5_1), .val (.int v6_2), .val (.int v7_3), .val (.int v8_4), .val (.int (1 : Int32)), .val (.int (0 : Int32)), .val (.ref b60), .val (.int (1 : Int32)), .val (.int (1 : Int32)), .unset, .unset] [(.int (0 : Int32)), (.int v6_2), (.int (1 : Int32)), (.int v5_1), (.int v6_2), (.int (if own_has fz74 nz74 xb then (1 : Int32) else 0))]))
      refine own_by (fun _ k => XS.iload X86.here hx rfl (hb hby at_176) rfl k) ?_
      show own_Go _ _ _ _ (T86.setTop (mkF m 178 #[.val (.int p1), .val (.int p2), .val (.int p3), .val (.int p4), .val (.int p5), .val (.int v5_1), .val (.int v6_2), .val (.int v7_3), .val (.int v8_4), .val (.int (1 : Int32)), .val (.int (0 : Int32)), .val (.ref b60), .val (.int (1 : Int32)), .val (.int (1 : Int32)), .unset, .unset] [(.int v7_3), (.int (0 : Int32)), (.int v6_2), (.int (1 : Int32)), (.int v5_1), (.int v6_2), (.int (if own_has fz74 nz74 xb then (1 : Int32) else 0))]))
      refine own_callS X86 hx hZ hown (hw _ (List.mem_of_getElem? (i := 29) rfl)) (hw _ (List.mem_of_getElem? (i := 30) rfl)) (hw _ (List.mem_of_getElem? (i := 31) rfl)) (hw _ (List.mem_of_getElem? (i := 32) rfl)) (by decide) (rm6 l Z a0 hw [] v6_2 v5_1 (1 : Int32) v6_2 (0 : Int32) v7_3 h74 n0 Z74) e86 (by rw [hml]; rfl) [(.int v6_2), (.int v5_1), (.int (1 : Int32)), (.int v6_2), (.int (0 : Int32)), (.int v7_3)] [(.int (if own_has fz74 nz74 xb then (1 : Int32) else 0))] rfl (lenOf own_pd3 rfl) rfl 1 (Nat.le_of_eq rfl) (by decide) (by decide) (Nat.le_of_ble_eq_true rfl) (Nat.le_of_ble_eq_true rfl) (hb hby at_178) ?_
      intro T87 Lc87 v87 X87 hQ87
      obtain ⟨rfl, N87q, e87⟩ := hQ87
      have N87 := Fr.app N86 N87q
      show own_Go _ _ _ _ (T87.setTop (mkF m 181 #[.val (.int p1), .val (.int p2), .val (.int p3), .val (.int p4), .val (.int p5), .val (.int v5_1), .val (.int v6_2), .val (.int v7_3), .val (.int v8_4), .val (.int (1 : Int32)), .val (.int (0 : Int32)), .val (.ref b60), .val (.int (1 : Int32)), .val (.int (1 : Int32)), .unset, .unset] [(.int (own_exp v6_2 v5_1 (1 : Int32) v6_2 (0 : Int32) v7_3)), (.int (if own_has fz74 nz74 xb then (1 : Int32) else 0))]))
      refine own_by (fun _ k => XS.icmpNo X87.here hx rfl (hb hby at_181) rfl (teq (own_fin fz74 nz74 v6_2 v5_1 v6_2 v7_3 (1 : Int32) (0 : Int32) xb xa xb xc hxb hxa hxb hxc (by rw [hbb74]; rw [hbb67]; rw [hb0]; simp))).2 k) ?_
      show own_Go _ _ _ _ (T87.setTop (mkF m 184 #[.val (.int p1), .val (.int p2), .val (.int p3), .val (.int p4), .val (.int p5), .val (.int v5_1), .val (.int v6_2), .val (.int v7_3), .val (.int v8_4), .val (.int (1 : Int32)), .val (.int (0 : Int32)), .val (.ref b60), .val (.int (1 : Int32)), .val (.int (1 : Int32)), .unset, .unset] []))
      refine own_by (fun _ k => XS.iconst X87.here hx rfl (hb hby at_184) k) ?_
      show own_Go _ _ _ _ (T87.setTop (mkF m 185 #[.val (.int p1), .val (.int p2), .val (.int p3), .val (.int p4), .val (.int p5), .val (.int v5_1), .val (.int v6_2), .val (.int v7_3), .val (.int v8_4), .val (.int (1 : Int32)), .val (.int (0 : Int32)), .val (.ref b60), .val (.int (1 : Int32)), .val (.int (1 : Int32)), .unset, .unset] [(.int (1 : Int32))]))
      refine own_by (fun _ k => XS.goto X87.here hx rfl (pc0 := 185) (pc' := 189) rfl (hb hby at_185) (by decide) (by decide) k) ?_
      show own_Go _ _ _ _ (T87.setTop (mkF m 189 #[.val (.int p1), .val (.int p2), .val (.int p3), .val (.int p4), .val (.int p5), .val (.int v5_1), .val (.int v6_2), .val (.int v7_3), .val (.int v8_4), .val (.int (1 : Int32)), .val (.int (0 : Int32)), .val (.ref b60), .val (.int (1 : Int32)), .val (.int (1 : Int32)), .unset, .unset] [(.int (1 : Int32))]))
      refine own_by (fun _ k => XS.istore X87.here hx rfl (hb hby at_189) rfl (l' := #[.val (.int p1), .val (.int p2), .val (.int p3), .val (.int p4), .val (.int p5), .val (.int v5_1), .val (.int v6_2), .val (.int v7_3), .val (.int v8_4), .val (.int (1 : Int32)), .val (.int (0 : Int32)), .val (.ref b60), .val (.int (1 : Int32)), .val (.int (1 : Int32)), .val (.int (1 : Int32)), .unset]) rfl k) ?_
      show own_Go _ _ _ _ (T87.setTop (mkF m 191 #[.val (.int p1), .val (.int p2), .val (.int p3), .val (.int p4), .val (.int p5), .val (.int v5_1), .val (.int v6_2), .val (.int v7_3), .val (.int v8_4), .val (.int (1 : Int32)), .val (.int (0 : Int32)), .val (.ref b60), .val (.int (1 : Int32)), .val (.int (1 : Int32)), .val (.int (1 : Int32)), .unset] []))
      refine own_by (fun _ k => XS.aload X87.here hx rfl (hb hby at_191) rfl rfl k) ?_
      show own_Go _ _ _ _ (T87.setTop (mkF m 193 #[.val (.int p1), .val (.int p2), .val (.int p3), .val (.int p4), .val (.int p5), .val (.int v5_1), .val (.int v6_2), .val (.int v7_3), .val (.int v8_4), .val (.int (1 : Int32)), .val (.int (0 : Int32)), .val (.ref b60), .val (.int (1 : Int32)), .val (.int (1 : Int32)), .val (.int (1 : Int32)), .unset] [(.ref b60)]))
      refine own_by (fun _ k => XS.iload X87.here hx rfl (hb hby at_193) rfl k) ?_
      show own_Go _ _ _ _ (T87.setTop (mkF m 195 #[.val (.int p1), .val (.int p2), .val (.int p3), .val (.int p4), .val (.int p5), .val (.int v5_1), .val (.int v6_2), .val (.int v7_3), .val (.int v8_4), .val (.int (1 : Int32)), .val (.int (0 : Int32)), .val (.ref b60), .val (.int (1 : Int32)), .val (.int (1 : Int32)), .val (.int (1 : Int32)), .unset] [(.int v7_3), (.ref b60)]))
      refine own_callV X87 hx hZ hown (hw _ (List.mem_of_getElem? (i := 24) rfl)) (hw _ (List.mem_of_getElem? (i := 25) rfl)) (notFace_of_selects (args := #[]) (mvT hZ (hw _ (List.mem_of_getElem? (i := 27) rfl)))) (hw _ (List.mem_of_getElem? (i := 27) rfl)) (hw _ (List.mem_of_getElem? (i := 26) rfl)) (hw _ (List.mem_of_getElem? (i := 3) rfl)) (hw _ (List.mem_of_getElem? (i := 28) rfl)) (by decide) (rm5 l Z a0 hw [] b60 v7_3 wz74 nz74 fz74 xc h74 n0 Z74 FW74 AW74 hn574 hxc) e87 b60 f75 (by rw [hml]; rfl) [(.int v7_3)] [] rfl (lenOf own_pd2 rfl) rfl 0 (Nat.le_of_eq rfl) (by decide) (by decide) (Nat.le_of_ble_eq_true rfl) (Nat.le_of_ble_eq_true rfl) (hb hby at_195) ?_
      intro T88 Lc88 v88 X88 hQ88
      obtain ⟨rfl, N88q, e88⟩ := hQ88
      have N88 := Fr.app N87 N88q
      show own_Go _ _ _ _ (T88.setTop (mkF m 198 #[.val (.int p1), .val (.int p2), .val (.int p3), .val (.int p4), .val (.int p5), .val (.int v5_1), .val (.int v6_2), .val (.int v7_3), .val (.int v8_4), .val (.int (1 : Int32)), .val (.int (0 : Int32)), .val (.ref b60), .val (.int (1 : Int32)), .val (.int (1 : Int32)), .val (.int (1 : Int32)), .unset] [(.int (if own_has fz74 nz74 xc then (1 : Int32) else 0))]))
      refine own_by (fun _ k => XS.iload X88.here hx rfl (hb hby at_198) rfl k) ?_
      show own_Go _ _ _ _ (T88.setTop (mkF m 200 #[.val (.int p1), .val (.int p2), .val (.int p3), .val (.int p4), .val (.int p5), .val (.int v5_1), .val (.int v6_2), .val (.int v7_3), .val (.int v8_4), .val (.int (1 : Int32)), .val (.int (0 : Int32)), .val (.ref b60), .val (.int (1 : Int32)), .val (.int (1 : Int32)), .val (.int (1 : Int32)), .unset] [(.int v7_3), (.int (if own_has fz74 nz74 xc then (1 : Int32) else 0))]))
      refine own_by (fun _ k => XS.iload X88.here hx rfl (hb hby at_200) rfl k) ?_
      show own_Go _ _ _ _ (T88.setTop (mkF m 202 #[.val (.int p1), .val (.int p2), .val (.int p3), .val (.int p4), .val (.int p5), .val (.int v5_1), .val (.int v6_2), .val (.int v7_3), .val (.int v8_4), .val (.int (1 : Int32)), .val (.int (0 : Int32)), .val (.ref b60), .val (.int (1 : Int32)), .val (.int (1 : Int32)), .val (.int (1 : Int32)), .unset] [(.int v5_1), (.int v7_3), (.int (if own_has fz74 nz74 xc then (1 : Int32) else 0))]))
      refine own_by (fun _ k => XS.iload X88.here hx rfl (hb hby at_202) rfl k) ?_
      show own_Go _ _ _ _ (T88.setTop (mkF m 204 #[.val (.int p1), .val (.int p2), .val (.int p3), .val (.int p4), .val (.int p5), .val (.int v5_1), .val (.int v6_2), .val (.int v7_3), .val (.int v8_4), .val (.int (1 : Int32)), .val (.int (0 : Int32)), .val (.ref b60), .val (.int (1 : Int32)), .val (.int (1 : Int32)), .val (.int (1 : Int32)), .unset] [(.int (1 : Int32)), (.int v5_1), (.int v7_3), (.int (if own_has fz74 nz74 xc then (1 : Int32) else 0))]))
      refine own_by (fun _ k => XS.iload X88.here hx rfl (hb hby at_204) rfl k) ?_
      show own_Go _ _ _ _ (T88.setTop (mkF m 206 #[.val (.int p1), .val (.int p2), .val (.int p3), .val (.int p4), .val (.int p5), .val (.int v5_1), .val (.int v6_2), .val (.int v7_3), .val (.int v8_4), .val (.int (1 : Int32)), .val (.int (0 : Int32)), .val (.ref b60), .val (.int (1 : Int32)), .val (.int (1 : Int32)), .val (.int (1 : Int32)), .unset] [(.int v6_2), (.int (1 : Int32)), (.int v5_1), (.int v7_3), (.int (if own_has fz74 nz74 xc then (1 : Int32) else 0))]))
      refine own_by (fun _ k => XS.iload X88.here hx rfl (hb hby at_206) rfl k) ?_
      show own_Go _ _ _ _ (T88.setTop (mkF m 208 #[.val (.int p1), .val (.int p2), .val (.int p3), .val (.int p4), .val (.int p5), .val (.int v5_1), .val (.int v6_2), .val (.int v7_3), .val (.int v8_4), .val (.int (1 : Int32)), .val (.int (0 : Int32)), .val (.ref b60), .val (.int (1 : Int32)), .val (.int (1 : Int32)), .val (.int (1 : Int32)), .unset] [(.int (0 : Int32)), (.int v6_2), (.int (1 : Int32)), (.int v5_1), (.int v7_3), (.int (if own_has fz74 nz74 xc then (1 : Int32) else 0))]))
      refine own_by (fun _ k => XS.iload X88.here hx rfl (hb hby at_208) rfl k) ?_
      show own_Go _ _ _ _ (T88.setTop (mkF m 210 #[.val (.int p1), .val (.int p2), .val (.int p3), .val (.int p4), .val (.int p5), .val (.int v5_1), .val (.int v6_2), .val (.int v7_3), .val (.int v8_4), .val (.int (1 : Int32)), .val (.int (0 : Int32)), .val (.ref b60), .val (.int (1 : Int32)), .val (.int (1 : Int32)), .val (.int (1 : Int32)), .unset] [(.int v7_3), (.int (0 : Int32)), (.int v6_2), (.int (1 : Int32)), (.int v5_1), (.int v7_3), (.int (if own_has fz74 nz74 xc then (1 : Int32) else 0))]))
      refine own_callS X88 hx hZ hown (hw _ (List.mem_of_getElem? (i := 29) rfl)) (hw _ (List.mem_of_getElem? (i := 30) rfl)) (hw _ (List.mem_of_getElem? (i := 31) rfl)) (hw _ (List.mem_of_getElem? (i := 32) rfl)) (by decide) (rm6 l Z a0 hw [] v7_3 v5_1 (1 : Int32) v6_2 (0 : Int32) v7_3 h74 n0 Z74) e88 (by rw [hml]; rfl) [(.int v7_3), (.int v5_1), (.int (1 : Int32)), (.int v6_2), (.int (0 : Int32)), (.int v7_3)] [(.int (if own_has fz74 nz74 xc then (1 : Int32) else 0))] rfl (lenOf own_pd3 rfl) rfl 1 (Nat.le_of_eq rfl) (by decide) (by decide) (Nat.le_of_ble_eq_true rfl) (Nat.le_of_ble_eq_true rfl) (hb hby at_210) ?_
      intro T89 Lc89 v89 X89 hQ89
      obtain ⟨rfl, N89q, e89⟩ := hQ89
      have N89 := Fr.app N88 N89q
      show own_Go _ _ _ _ (T89.setTop (mkF m 213 #[.val (.int p1), .val (.int p2), .val (.int p3), .val (.int p4), .val (.int p5), .val (.int v5_1), .val (.int v6_2), .val (.int v7_3), .val (.int v8_4), .val (.int (1 : Int32)), .val (.int (0 : Int32)), .val (.ref b60), .val (.int (1 : Int32)), .val (.int (1 : Int32)), .val (.int (1 : Int32)), .unset] [(.int (own_exp v7_3 v5_1 (1 : Int32) v6_2 (0 : Int32) v7_3)), (.int (if own_has fz74 nz74 xc then (1 : Int32) else 0))]))
      refine own_by (fun _ k => XS.icmpNo X89.here hx rfl (hb hby at_213) rfl (teq (own_fin fz74 nz74 v7_3 v5_1 v6_2 v7_3 (1 : Int32) (0 : Int32) xc xa xb xc hxc hxa hxb hxc (by rw [hbb74]; rw [hbb67]; rw [hb0]; simp))).2 k) ?_
      show own_Go _ _ _ _ (T89.setTop (mkF m 216 #[.val (.int p1), .val (.int p2), .val (.int p3), .val (.int p4), .val (.int p5), .val (.int v5_1), .val (.int v6_2), .val (.int v7_3), .val (.int v8_4), .val (.int (1 : Int32)), .val (.int (0 : Int32)), .val (.ref b60), .val (.int (1 : Int32)), .val (.int (1 : Int32)), .val (.int (1 : Int32)), .unset] []))
      refine own_by (fun _ k => XS.iconst X89.here hx rfl (hb hby at_216) k) ?_
      show own_Go _ _ _ _ (T89.setTop (mkF m 217 #[.val (.int p1), .val (.int p2), .val (.int p3), .val (.int p4), .val (.int p5), .val (.int v5_1), .val (.int v6_2), .val (.int v7_3), .val (.int v8_4), .val (.int (1 : Int32)), .val (.int (0 : Int32)), .val (.ref b60), .val (.int (1 : Int32)), .val (.int (1 : Int32)), .val (.int (1 : Int32)), .unset] [(.int (1 : Int32))]))
      refine own_by (fun _ k => XS.goto X89.here hx rfl (pc0 := 217) (pc' := 221) rfl (hb hby at_217) (by decide) (by decide) k) ?_
      show own_Go _ _ _ _ (T89.setTop (mkF m 221 #[.val (.int p1), .val (.int p2), .val (.int p3), .val (.int p4), .val (.int p5), .val (.int v5_1), .val (.int v6_2), .val (.int v7_3), .val (.int v8_4), .val (.int (1 : Int32)), .val (.int (0 : Int32)), .val (.ref b60), .val (.int (1 : Int32)), .val (.int (1 : Int32)), .val (.int (1 : Int32)), .unset] [(.int (1 : Int32))]))
      refine own_by (fun _ k => XS.istore X89.here hx rfl (hb hby at_221) rfl (l' := #[.val (.int p1), .val (.int p2), .val (.int p3), .val (.int p4), .val (.int p5), .val (.int v5_1), .val (.int v6_2), .val (.int v7_3), .val (.int v8_4), .val (.int (1 : Int32)), .val (.int (0 : Int32)), .val (.ref b60), .val (.int (1 : Int32)), .val (.int (1 : Int32)), .val (.int (1 : Int32)), .val (.int (1 : Int32))]) rfl k) ?_
      show own_Go _ _ _ _ (T89.setTop (mkF m 223 #[.val (.int p1), .val (.int p2), .val (.int p3), .val (.int p4), .val (.int p5), .val (.int v5_1), .val (.int v6_2), .val (.int v7_3), .val (.int v8_4), .val (.int (1 : Int32)), .val (.int (0 : Int32)), .val (.ref b60), .val (.int (1 : Int32)), .val (.int (1 : Int32)), .val (.int (1 : Int32)), .val (.int (1 : Int32))] []))
      refine own_by (fun _ k => XS.iload X89.here hx rfl (hb hby at_223) rfl k) ?_
      show own_Go _ _ _ _ (T89.setTop (mkF m 225 #[.val (.int p1), .val (.int p2), .val (.int p3), .val (.int p4), .val (.int p5), .val (.int v5_1), .val (.int v6_2), .val (.int v7_3), .val (.int v8_4), .val (.int (1 : Int32)), .val (.int (0 : Int32)), .val (.ref b60), .val (.int (1 : Int32)), .val (.int (1 : Int32)), .val (.int (1 : Int32)), .val (.int (1 : Int32))] [(.int (1 : Int32))]))
      refine own_by (fun _ k => XS.ifNo X89.here hx rfl (hb hby at_225) rfl ((if0 _ _).trans (feq (by decide)).1) k) ?_
      show own_Go _ _ _ _ (T89.setTop (mkF m 228 #[.val (.int p1), .val (.int p2), .val (.int p3), .val (.int p4), .val (.int p5), .val (.int v5_1), .val (.int v6_2), .val (.int v7_3), .val (.int v8_4), .val (.int (1 : Int32)), .val (.int (0 : Int32)), .val (.ref b60), .val (.int (1 : Int32)), .val (.int (1 : Int32)), .val (.int (1 : Int32)), .val (.int (1 : Int32))] []))
      refine own_by (fun _ k => XS.iload X89.here hx rfl (hb hby at_228) rfl k) ?_
      show own_Go _ _ _ _ (T89.setTop (mkF m 230 #[.val (.int p1), .val (.int p2), .val (.int p3), .val (.int p4), .val (.int p5), .val (.int v5_1), .val (.int v6_2), .val (.int v7_3), .val (.int v8_4), .val (.int (1 : Int32)), .val (.int (0 : Int32)), .val (.ref b60), .val (.int (1 : Int32)), .val (.int (1 : Int32)), .val (.int (1 : Int32)), .val (.int (1 : Int32))] [(.int (1 : Int32))]))
      refine own_by (fun _ k => XS.ifNo X89.here hx rfl (hb hby at_230) rfl ((if0 _ _).trans (feq (by decide)).1) k) ?_
      show own_Go _ _ _ _ (T89.setTop (mkF m 233 #[.val (.int p1), .val (.int p2), .val (.int p3), .val (.int p4), .val (.int p5), .val (.int v5_1), .val (.int v6_2), .val (.int v7_3), .val (.int v8_4), .val (.int (1 : Int32)), .val (.int (0 : Int32)), .val (.ref b60), .val (.int (1 : Int32)), .val (.int (1 : Int32)), .val (.int (1 : Int32)), .val (.int (1 : Int32))] []))
      refine own_by (fun _ k => XS.iload X89.here hx rfl (hb hby at_233) rfl k) ?_
      show own_Go _ _ _ _ (T89.setTop (mkF m 235 #[.val (.int p1), .val (.int p2), .val (.int p3), .val (.int p4), .val (.int p5), .val (.int v5_1), .val (.int v6_2), .val (.int v7_3), .val (.int v8_4), .val (.int (1 : Int32)), .val (.int (0 : Int32)), .val (.ref b60), .val (.int (1 : Int32)), .val (.int (1 : Int32)), .val (.int (1 : Int32)), .val (.int (1 : Int32))] [(.int (1 : Int32))]))
      refine own_by (fun _ k => XS.ifNo X89.here hx rfl (hb hby at_235) rfl ((if0 _ _).trans (feq (by decide)).1) k) ?_
      show own_Go _ _ _ _ (T89.setTop (mkF m 238 #[.val (.int p1), .val (.int p2), .val (.int p3), .val (.int p4), .val (.int p5), .val (.int v5_1), .val (.int v6_2), .val (.int v7_3), .val (.int v8_4), .val (.int (1 : Int32)), .val (.int (0 : Int32)), .val (.ref b60), .val (.int (1 : Int32)), .val (.int (1 : Int32)), .val (.int (1 : Int32)), .val (.int (1 : Int32))] []))
      refine own_by (fun _ k => XS.iload X89.here hx rfl (hb hby at_238) rfl k) ?_
      show own_Go _ _ _ _ (T89.setTop (mkF m 240 #[.val (.int p1), .val (.int p2), .val (.int p3), .val (.int p4), .val (.int p5), .val (.int v5_1), .val (.int v6_2), .val (.int v7_3), .val (.int v8_4), .val (.int (1 : Int32)), .val (.int (0 : Int32)), .val (.ref b60), .val (.int (1 : Int32)), .val (.int (1 : Int32)), .val (.int (1 : Int32)), .val (.int (1 : Int32))] [(.int (1 : Int32))]))
      refine own_by (fun _ k => XS.ifNo X89.here hx rfl (hb hby at_240) rfl ((if0 _ _).trans (feq (by decide)).1) k) ?_
      show own_Go _ _ _ _ (T89.setTop (mkF m 243 #[.val (.int p1), .val (.int p2), .val (.int p3), .val (.int p4), .val (.int p5), .val (.int v5_1), .val (.int v6_2), .val (.int v7_3), .val (.int v8_4), .val (.int (1 : Int32)), .val (.int (0 : Int32)), .val (.ref b60), .val (.int (1 : Int32)), .val (.int (1 : Int32)), .val (.int (1 : Int32)), .val (.int (1 : Int32))] []))
      refine own_by (fun _ k => XS.iconst X89.here hx rfl (hb hby at_243) k) ?_
      show own_Go _ _ _ _ (T89.setTop (mkF m 244 #[.val (.int p1), .val (.int p2), .val (.int p3), .val (.int p4), .val (.int p5), .val (.int v5_1), .val (.int v6_2), .val (.int v7_3), .val (.int v8_4), .val (.int (1 : Int32)), .val (.int (0 : Int32)), .val (.ref b60), .val (.int (1 : Int32)), .val (.int (1 : Int32)), .val (.int (1 : Int32)), .val (.int (1 : Int32))] [(.int (1 : Int32))]))
      refine own_by (fun _ k => XS.goto X89.here hx rfl (pc0 := 244) (pc' := 248) rfl (hb hby at_244) (by decide) (by decide) k) ?_
      show own_Go _ _ _ _ (T89.setTop (mkF m 248 #[.val (.int p1), .val (.int p2), .val (.int p3), .val (.int p4), .val (.int p5), .val (.int v5_1), .val (.int v6_2), .val (.int v7_3), .val (.int v8_4), .val (.int (1 : Int32)), .val (.int (0 : Int32)), .val (.ref b60), .val (.int (1 : Int32)), .val (.int (1 : Int32)), .val (.int (1 : Int32)), .val (.int (1 : Int32))] [(.int (1 : Int32))]))
      exact own_retN X89 hx Bd.notSynchronized e89 Bd.returns (by simp) (hb hby at_248) (⟨rfl, N89⟩) (by decide) (by decide)
    · --
      refine own_by (fun _ k => XS.ifNo X0.here hx rfl (hb hby at_45) rfl ((if0 _ _).trans (feq hc59).1) k) ?_
      show own_Go _ _ _ _ (s₁.setTop (mkF m 48 #[.val (.int p1), .val (.int p2), .val (.int p3), .val (.int p4), .val (.int p5), .val (.int v5_1), .val (.int v6_2), .val (.int v7_3), .val (.int v8_4), .val (.int (1 : Int32)), .unset, .unset, .unset, .unset, .unset, .unset] []))
      refine own_by (fun _ k => XS.iconst X0.here hx rfl (hb hby at_48) k) ?_
      show own_Go _ _ _ _ (s₁.setTop (mkF m 49 #[.val (.int p1), .val (.int p2), .val (.int p3), .val (.int p4), .val (.int p5), .val (.int v5_1), .val (.int v6_2), .val (.int v7_3), .val (.int v8_4), .val (.int (1 : Int32)), .unset, .unset, .unset, .unset, .unset, .unset] [(.int (1 : Int32))]))
      refine own_by (fun _ k => XS.goto X0.here hx rfl (pc0 := 49) (pc' := 53) rfl (hb hby at_49) (by decide) (by decide) k) ?_
      show own_Go _ _ _ _ (s₁.setTop (mkF m 53 #[.val (.int p1), .val (.int p2), .val (.int p3), .val (.int p4), .val (.int p5), .val (.int v5_1), .val (.int v6_2), .val (.int v7_3), .val (.int v8_4), .val (.int (1 : Int32)), .unset, .unset, .unset, .unset, .unset, .unset] [(.int (1 : Int32))]))
      refine own_by (fun _ k => XS.istore X0.here hx rfl (hb hby at_53) rfl (l' := #[.val (.int p1), .val (.int p2), .val (.int p3), .val (.int p4), .val (.int p5), .val (.int v5_1), .val (.int v6_2), .val (.int v7_3), .val (.int v8_4), .val (.int (1 : Int32)), .val (.int (1 : Int32)), .unset, .unset, .unset, .unset, .unset]) rfl k) ?_
      show own_Go _ _ _ _ (s₁.setTop (mkF m 55 #[.val (.int p1), .val (.int p2), .val (.int p3), .val (.int p4), .val (.int p5), .val (.int v5_1), .val (.int v6_2), .val (.int v7_3), .val (.int v8_4), .val (.int (1 : Int32)), .val (.int (1 : Int32)), .unset, .unset, .unset, .unset, .unset] []))
      obtain ⟨T90, h90, X90, e90, E90, A90, D90, -, st90⟩ := newO X0 hx hZ hown (hw _ (List.mem_of_getElem? (i := 1) rfl)) (hw _ (List.mem_of_getElem? (i := 2) rfl)) (hw _ (List.mem_of_getElem? (i := 3) rfl)) e0 (g := (mkF m 55 #[.val (.int p1), .val (.int p2), .val (.int p3), .val (.int p4), .val (.int p5), .val (.int v5_1), .val (.int v6_2), .val (.int v7_3), .val (.int v8_4), .val (.int (1 : Int32)), .val (.int (1 : Int32)), .unset, .unset, .unset, .unset, .unset] [])) rfl (hb hby at_55) (by decide) (by decide)
      refine own_by st90 ?_
      show own_Go _ _ _ _ (T90.setTop (mkF m 58 #[.val (.int p1), .val (.int p2), .val (.int p3), .val (.int p4), .val (.int p5), .val (.int v5_1), .val (.int v6_2), .val (.int v7_3), .val (.int v8_4), .val (.int (1 : Int32)), .val (.int (1 : Int32)), .unset, .unset, .unset, .unset, .unset] [.ref h0.size]))
      obtain ⟨b90, g90⟩ : ∃ z, z = h0.size := ⟨_, rfl⟩
      rw [← g90] at A90 D90
      refine own_gen g90.symm (fun z_ => T90.setTop (mkF m 58 #[.val (.int p1), .val (.int p2), .val (.int p3), .val (.int p4), .val (.int p5), .val (.int v5_1), .val (.int v6_2), .val (.int v7_3), .val (.int v8_4), .val (.int (1 : Int32)), .val (.int (1 : Int32)), .unset, .unset, .unset, .unset, .unset] [.ref z_])) ?_
      have ge90 : n0 ≤ b90 := Nat.le_trans Z0 (Nat.le_of_eq g90.symm)
      have Z90 := Nat.le_trans Z0 E90.1
      have f91 : Fld Z h90 b90 "com/example/sonde/sonde/engine/Bits" "words" "[J" .null := D90 (Or.inl (hw _ (List.mem_of_getElem? (i := 12) rfl))) (ty := (.array .long)) (by decide)
      have f92 : Fld Z h90 b90 "com/example/sonde/sonde/engine/Bits" "held" "[J" .null := D90 (Or.inl (hw _ (List.mem_of_getElem? (i := 14) rfl))) (ty := (.array .long)) (by decide)
      show own_Go _ _ _ _ (T90.setTop (mkF m 58 #[.val (.int p1), .val (.int p2), .val (.int p3), .val (.int p4), .val (.int p5), .val (.int v5_1), .val (.int v6_2), .val (.int v7_3), .val (.int v8_4), .val (.int (1 : Int32)), .val (.int (1 : Int32)), .unset, .unset, .unset, .unset, .unset] [(.ref b90)]))
      refine own_by (fun _ k => XS.dup X90.here hx rfl (hb hby at_58) rfl rfl k) ?_
      show own_Go _ _ _ _ (T90.setTop (mkF m 59 #[.val (.int p1), .val (.int p2), .val (.int p3), .val (.int p4), .val (.int p5), .val (.int v5_1), .val (.int v6_2), .val (.int v7_3), .val (.int v8_4), .val (.int (1 : Int32)), .val (.int (1 : Int32)), .unset, .unset, .unset, .unset, .unset] [(.ref b90), (.ref b90)]))
      refine own_callI X90 hx hZ hown rfl (hw _ (List.mem_of_getElem? (i := 4) rfl)) (hw _ (List.mem_of_getElem? (i := 5) rfl)) (hw _ (List.mem_of_getElem? (i := 3) rfl)) (hw _ (List.mem_of_getElem? (i := 6) rfl)) (by decide) (rm1 l Z a0 hw [] b90 h90 n0 Z90 A90 f91 f92 ge90) e90 (by rw [hml]; rfl) b90 [] [(.ref b90)] rfl (lenOf own_pd0 rfl) rfl 1 (Nat.le_of_eq rfl) (by decide) (by decide) (Nat.le_of_ble_eq_true rfl) (Nat.le_of_ble_eq_true rfl) (hb hby at_59) ?_
      intro T93 Lc93 v93 X93 hQ93
      obtain ⟨h93, e93⟩ : ∃ h, T93.heap = h := ⟨_, rfl⟩
      rw [e93] at hQ93
      obtain ⟨rfl, N93q, K93, wz93, dz93, FW93, FH93, AW93, AH93, EH93, gw93, gh93, naw93, nad93, nwd93, nww93, nwh93⟩ := hQ93
      have N93 := Fr.app N0 N93q
      have f94 := A90.keep K93
      have Z93 := Nat.le_trans Z90 K93.1
      have hb0 : ∀ y, own_has (fun _ => 0) 1 y = false := fun y => by simp [own_has]
      show own_Go _ _ _ _ (T93.setTop (mkF m 62 #[.val (.int p1), .val (.int p2), .val (.int p3), .val (.int p4), .val (.int p5), .val (.int v5_1), .val (.int v6_2), .val (.int v7_3), .val (.int v8_4), .val (.int (1 : Int32)), .val (.int (1 : Int32)), .unset, .unset, .unset, .unset, .unset] [(.ref b90)]))
      refine own_by (fun _ k => XS.astore X93.here hx rfl (hb hby at_62) rfl rfl (l' := #[.val (.int p1), .val (.int p2), .val (.int p3), .val (.int p4), .val (.int p5), .val (.int v5_1), .val (.int v6_2), .val (.int v7_3), .val (.int v8_4), .val (.int (1 : Int32)), .val (.int (1 : Int32)), .val (.ref b90), .unset, .unset, .unset, .unset]) rfl k) ?_
      show own_Go _ _ _ _ (T93.setTop (mkF m 64 #[.val (.int p1), .val (.int p2), .val (.int p3), .val (.int p4), .val (.int p5), .val (.int v5_1), .val (.int v6_2), .val (.int v7_3), .val (.int v8_4), .val (.int (1 : Int32)), .val (.int (1 : Int32)), .val (.ref b90), .unset, .unset, .unset, .unset] []))
      refine own_by (fun _ k => XS.aload X93.here hx rfl (hb hby at_64) rfl rfl k) ?_
      show own_Go _ _ _ _ (T93.setTop (mkF m 66 #[.val (.int p1), .val (.int p2), .val (.int p3), .val (.int p4), .val (.int p5), .val (.int v5_1), .val (.int v6_2), .val (.int v7_3), .val (.int v8_4), .val (.int (1 : Int32)), .val (.int (1 : Int32)), .val (.ref b90), .unset, .unset, .unset, .unset] [(.ref b90)]))
      refine own_by (fun _ k => XS.iload X93.here hx rfl (hb hby at_66) rfl k) ?_
      show own_Go _ _ _ _ (T93.setTop (mkF m 68 #[.val (.int p1), .val (.int p2), .val (.int p3), .val (.int p4), .val (.int p5), .val (.int v5_1), .val (.int v6_2), .val (.int v7_3), .val (.int v8_4), .val (.int (1 : Int32)), .val (.int (1 : Int32)), .val (.ref b90), .unset, .unset, .unset, .unset] [(.int v5_1), (.ref b90)]))
      refine own_callV X93 hx hZ hown (hw _ (List.mem_of_getElem? (i := 15) rfl)) (hw _ (List.mem_of_getElem? (i := 16) rfl)) (notFace_of_selects (args := #[]) (mvT hZ (hw _ (List.mem_of_getElem? (i := 18) rfl)))) (hw _ (List.mem_of_getElem? (i := 18) rfl)) (hw _ (List.mem_of_getElem? (i := 17) rfl)) (hw _ (List.mem_of_getElem? (i := 3) rfl)) (hw _ (List.mem_of_getElem? (i := 19) rfl)) (by decide) (rm3 l Z a0 hw [] b90 v5_1 wz93 dz93 1 1 (fun _ => 0) (fun _ => 0) xa h93 n0 Z93 f94 FW93 FH93 AW93 AH93 EH93 ge90 gw93 gh93 naw93 nad93 nwd93 (by decide) (by decide) rfl hxa hbxa) e93 b90 f94 (by rw [hml]; rfl) [(.int v5_1)] [] rfl (lenOf own_pd1 rfl) rfl 0 (Nat.le_of_eq rfl) (by decide) (by decide) (Nat.le_of_ble_eq_true rfl) (Nat.le_of_ble_eq_true rfl) (hb hby at_68) ?_
      intro T97 Lc97 v97 X97 hQ97
      obtain ⟨h97, e97⟩ : ∃ h, T97.heap = h := ⟨_, rfl⟩
      rw [e97] at hQ97
      obtain ⟨rfl, N97q, K97, wz97, dz97, nz97, mz97, fz97, gz97, FW97, FH97, AW97, AH97, EH97, gw97, gh97, naw97, nad97, nwd97, hn197, hn597, hm97, ow97, od97, hbt97⟩ := hQ97
      have N97 := Fr.app N93 N97q
      have f98 := f94.keep K97
      have f103 := EH93.keep K97
      have Z97 := Nat.le_trans Z93 K97.1
      have hbb97 : ∀ y, own_has fz97 nz97 y = (own_has (fun _ => 0) 1 y || decide (y = xa)) := hbt97
      show own_Go _ _ _ _ (T97.setTop (mkF m 71 #[.val (.int p1), .val (.int p2), .val (.int p3), .val (.int p4), .val (.int p5), .val (.int v5_1), .val (.int v6_2), .val (.int v7_3), .val (.int v8_4), .val (.int (1 : Int32)), .val (.int (1 : Int32)), .val (.ref b90), .unset, .unset, .unset, .unset] []))
      refine own_by (fun _ k => XS.iload X97.here hx rfl (hb hby at_71) rfl k) ?_
      show own_Go _ _ _ _ (T97.setTop (mkF m 73 #[.val (.int p1), .val (.int p2), .val (.int p3), .val (.int p4), .val (.int p5), .val (.int v5_1), .val (.int v6_2), .val (.int v7_3), .val (.int v8_4), .val (.int (1 : Int32)), .val (.int (1 : Int32)), .val (.ref b90), .unset, .unset, .unset, .unset] [(.int (1 : Int32))]))
      refine own_by (fun _ k => XS.ifNo X97.here hx rfl (hb hby at_73) rfl ((if0 _ _).trans (feq (by decide)).1) k) ?_
      show own_Go _ _ _ _ (T97.setTop (mkF m 76 #[.val (.int p1), .val (.int p2), .val (.int p3), .val (.int p4), .val (.int p5), .val (.int v5_1), .val (.int v6_2), .val (.int v7_3), .val (.int v8_4), .val (.int (1 : Int32)), .val (.int (1 : Int32)), .val (.ref b90), .unset, .unset, .unset, .unset] []))
      refine own_by (fun _ k => XS.aload X97.here hx rfl (hb hby at_76) rfl rfl k) ?_
      show own_Go _ _ _ _ (T97.setTop (mkF m 78 #[.val (.int p1), .val (.int p2), .val (.int p3), .val (.int p4), .val (.int p5), .val (.int v5_1), .val (.int v6_2), .val (.int v7_3), .val (.int v8_4), .val (.int (1 : Int32)), .val (.int (1 : Int32)), .val (.ref b90), .unset, .unset, .unset, .unset] [(.ref b90)]))
      refine own_by (fun _ k => XS.iload X97.here hx rfl (hb hby at_78) rfl k) ?_
      show own_Go _ _ _ _ (T97.setTop (mkF m 80 #[.val (.int p1), .val (.int p2), .val (.int p3), .val (.int p4), .val (.int p5), .val (.int v5_1), .val (.int v6_2), .val (.int v7_3), .val (.int v8_4), .val (.int (1 : Int32)), .val (.int (1 : Int32)), .val (.ref b90), .unset, .unset, .unset, .unset] [(.int v6_2), (.ref b90)]))
      refine own_callV X97 hx hZ hown (hw _ (List.mem_of_getElem? (i := 15) rfl)) (hw _ (List.mem_of_getElem? (i := 16) rfl)) (notFace_of_selects (args := #[]) (mvT hZ (hw _ (List.mem_of_getElem? (i := 18) rfl)))) (hw _ (List.mem_of_getElem? (i := 18) rfl)) (hw _ (List.mem_of_getElem? (i := 17) rfl)) (hw _ (List.mem_of_getElem? (i := 3) rfl)) (hw _ (List.mem_of_getElem? (i := 19) rfl)) (by decide) (rm3 l Z a0 hw [] b90 v6_2 wz97 dz97 nz97 mz97 fz97 gz97 xb h97 n0 Z97 f98 FW97 FH97 AW97 AH97 EH97 ge90 gw97 gh97 naw97 nad97 nwd97 hn197 hn597 hm97 hxb hbxb) e97 b90 f98 (by rw [hml]; rfl) [(.int v6_2)] [] rfl (lenOf own_pd1 rfl) rfl 0 (Nat.le_of_eq rfl) (by decide) (by decide) (Nat.le_of_ble_eq_true rfl) (Nat.le_of_ble_eq_true rfl) (hb hby at_80) ?_
      intro T104 Lc104 v104 X104 hQ104
      obtain ⟨h104, e104⟩ : ∃ h, T104.heap = h := ⟨_, rfl⟩
      rw [e104] at hQ104
      obtain ⟨rfl, N104q, K104, wz104, dz104, nz104, mz104, fz104, gz104, FW104, FH104, AW104, AH104, EH104, gw104, gh104, naw104, nad104, nwd104, hn1104, hn5104, hm104, ow104, od104, hbt104⟩ := hQ104
      have N104 := Fr.app N97 N104q
      have f105 := f98.keep K104
      have f106 := f103.keep K104
      have f111 := EH97.keep K104
      have Z104 := Nat.le_trans Z97 K104.1
      have hbb104 : ∀ y, own_has fz104 nz104 y = (own_has fz97 nz97 y || decide (y = xb)) := hbt104
      show own_Go _ _ _ _ (T104.setTop (mkF m 83 #[.val (.int p1), .val (.int p2), .val (.int p3), .val (.int p4), .val (.int p5), .val (.int v5_1), .val (.int v6_2), .val (.int v7_3), .val (.int v8_4), .val (.int (1 : Int32)), .val (.int (1 : Int32)), .val (.ref b90), .unset, .unset, .unset, .unset] []))
      refine own_by (fun _ k => XS.iload X104.here hx rfl (hb hby at_83) rfl k) ?_
      show own_Go _ _ _ _ (T104.setTop (mkF m 85 #[.val (.int p1), .val (.int p2), .val (.int p3), .val (.int p4), .val (.int p5), .val (.int v5_1), .val (.int v6_2), .val (.int v7_3), .val (.int v8_4), .val (.int (1 : Int32)), .val (.int (1 : Int32)), .val (.ref b90), .unset, .unset, .unset, .unset] [(.int (1 : Int32))]))
      refine own_by (fun _ k => XS.ifNo X104.here hx rfl (hb hby at_85) rfl ((if0 _ _).trans (feq (by decide)).1) k) ?_
      show own_Go _ _ _ _ (T104.setTop (mkF m 88 #[.val (.int p1), .val (.int p2), .val (.int p3), .val (.int p4), .val (.int p5), .val (.int v5_1), .val (.int v6_2), .val (.int v7_3), .val (.int v8_4), .val (.int (1 : Int32)), .val (.int (1 : Int32)), .val (.ref b90), .unset, .unset, .unset, .unset] []))
      refine own_by (fun _ k => XS.aload X104.here hx rfl (hb hby at_88) rfl rfl k) ?_
      show own_Go _ _ _ _ (T104.setTop (mkF m 90 #[.val (.int p1), .val (.int p2), .val (.int p3), .val (.int p4), .val (.int p5), .val (.int v5_1), .val (.int v6_2), .val (.int v7_3), .val (.int v8_4), .val (.int (1 : Int32)), .val (.int (1 : Int32)), .val (.ref b90), .unset, .unset, .unset, .unset] [(.ref b90)]))
      refine own_by (fun _ k => XS.iload X104.here hx rfl (hb hby at_90) rfl k) ?_
      show own_Go _ _ _ _ (T104.setTop (mkF m 92 #[.val (.int p1), .val (.int p2), .val (.int p3), .val (.int p4), .val (.int p5), .val (.int v5_1), .val (.int v6_2), .val (.int v7_3), .val (.int v8_4), .val (.int (1 : Int32)), .val (.int (1 : Int32)), .val (.ref b90), .unset, .unset, .unset, .unset] [(.int v7_3), (.ref b90)]))
      refine own_callV X104 hx hZ hown (hw _ (List.mem_of_getElem? (i := 33) rfl)) (hw _ (List.mem_of_getElem? (i := 34) rfl)) (notFace_of_selects (args := #[]) (mvT hZ (hw _ (List.mem_of_getElem? (i := 36) rfl)))) (hw _ (List.mem_of_getElem? (i := 36) rfl)) (hw _ (List.mem_of_getElem? (i := 35) rfl)) (hw _ (List.mem_of_getElem? (i := 3) rfl)) (hw _ (List.mem_of_getElem? (i := 37) rfl)) (by decide) (rm7 l Z a0 hw [] b90 v7_3 wz104 dz104 nz104 mz104 fz104 gz104 xc h104 n0 Z104 f105 FW104 FH104 AW104 AH104 EH104 ge90 gw104 gh104 naw104 nad104 nwd104 hn1104 hn5104 hm104 hxc) e104 b90 f105 (by rw [hml]; rfl) [(.int v7_3)] [] rfl (lenOf own_pd1 rfl) rfl 0 (Nat.le_of_eq rfl) (by decide) (by decide) (Nat.le_of_ble_eq_true rfl) (Nat.le_of_ble_eq_true rfl) (hb hby at_92) ?_
      intro T112 Lc112 v112 X112 hQ112
      obtain ⟨h112, e112⟩ : ∃ h, T112.heap = h := ⟨_, rfl⟩
      rw [e112] at hQ112
      obtain ⟨rfl, N112q, K112, fz112, gz112, AW112, AH112, hbt112⟩ := hQ112
      have N112 := Fr.app N104 N112q
      have f113 := f105.keep K112
      have f114 := f106.keep K112
      have f115 := f111.keep K112
      have f116 := FW104.keep K112 (ninS naw104 (ninS nad104 nin0))
      have f117 := FH104.keep K112 (ninS naw104 (ninS nad104 nin0))
      have f120 := EH104.keep K112
      have Z112 := Nat.le_trans Z104 K112.1
      show own_Go _ _ _ _ (T112.setTop (mkF m 95 #[.val (.int p1), .val (.int p2), .val (.int p3), .val (.int p4), .val (.int p5), .val (.int v5_1), .val (.int v6_2), .val (.int v7_3), .val (.int v8_4), .val (.int (1 : Int32)), .val (.int (1 : Int32)), .val (.ref b90), .unset, .unset, .unset, .unset] []))
      refine own_by (fun _ k => XS.aload X112.here hx rfl (hb hby at_95) rfl rfl k) ?_
      show own_Go _ _ _ _ (T112.setTop (mkF m 97 #[.val (.int p1), .val (.int p2), .val (.int p3), .val (.int p4), .val (.int p5), .val (.int v5_1), .val (.int v6_2), .val (.int v7_3), .val (.int v8_4), .val (.int (1 : Int32)), .val (.int (1 : Int32)), .val (.ref b90), .unset, .unset, .unset, .unset] [(.ref b90)]))
      refine own_by (fun _ k => XS.iload X112.here hx rfl (hb hby at_97) rfl k) ?_
      show own_Go _ _ _ _ (T112.setTop (mkF m 99 #[.val (.int p1), .val (.int p2), .val (.int p3), .val (.int p4), .val (.int p5), .val (.int v5_1), .val (.int v6_2), .val (.int v7_3), .val (.int v8_4), .val (.int (1 : Int32)), .val (.int (1 : Int32)), .val (.ref b90), .unset, .unset, .unset, .unset] [(.int v8_4), (.ref b90)]))
      refine own_callV X112 hx hZ hown (hw _ (List.mem_of_getElem? (i := 24) rfl)) (hw _ (List.mem_of_getElem? (i := 25) rfl)) (notFace_of_selects (args := #[]) (mvT hZ (hw _ (List.mem_of_getElem? (i := 27) rfl)))) (hw _ (List.mem_of_getElem? (i := 27) rfl)) (hw _ (List.mem_of_getElem? (i := 26) rfl)) (hw _ (List.mem_of_getElem? (i := 3) rfl)) (hw _ (List.mem_of_getElem? (i := 28) rfl)) (by decide) (rm5 l Z a0 hw [] b90 v8_4 wz104 nz104 fz112 xq h112 n0 Z112 f116 AW112 hn5104 hxq) e112 b90 f113 (by rw [hml]; rfl) [(.int v8_4)] [] rfl (lenOf own_pd2 rfl) rfl 0 (Nat.le_of_eq rfl) (by decide) (by decide) (Nat.le_of_ble_eq_true rfl) (Nat.le_of_ble_eq_true rfl) (hb hby at_99) ?_
      intro T121 Lc121 v121 X121 hQ121
      obtain ⟨rfl, N121q, e121⟩ := hQ121
      have N121 := Fr.app N112 N121q
      show own_Go _ _ _ _ (T121.setTop (mkF m 102 #[.val (.int p1), .val (.int p2), .val (.int p3), .val (.int p4), .val (.int p5), .val (.int v5_1), .val (.int v6_2), .val (.int v7_3), .val (.int v8_4), .val (.int (1 : Int32)), .val (.int (1 : Int32)), .val (.ref b90), .unset, .unset, .unset, .unset] [(.int (if own_has fz112 nz104 xq then (1 : Int32) else 0))]))
      refine own_by (fun _ k => XS.iload X121.here hx rfl (hb hby at_102) rfl k) ?_
      show own_Go _ _ _ _ (T121.setTop (mkF m 104 #[.val (.int p1), .val (.int p2), .val (.int p3), .val (.int p4), .val (.int p5), .val (.int v5_1), .val (.int v6_2), .val (.int v7_3), .val (.int v8_4), .val (.int (1 : Int32)), .val (.int (1 : Int32)), .val (.ref b90), .unset, .unset, .unset, .unset] [(.int v8_4), (.int (if own_has fz112 nz104 xq then (1 : Int32) else 0))]))
      refine own_by (fun _ k => XS.iload X121.here hx rfl (hb hby at_104) rfl k) ?_
      show own_Go _ _ _ _ (T121.setTop (mkF m 106 #[.val (.int p1), .val (.int p2), .val (.int p3), .val (.int p4), .val (.int p5), .val (.int v5_1), .val (.int v6_2), .val (.int v7_3), .val (.int v8_4), .val (.int (1 : Int32)), .val (.int (1 : Int32)), .val (.ref b90), .unset, .unset, .unset, .unset] [(.int v5_1), (.int v8_4), (.int (if own_has fz112 nz104 xq then (1 : Int32) else 0))]))
      refine own_by (fun _ k => XS.iload X121.here hx rfl (hb hby at_106) rfl k) ?_
      show own_Go _ _ _ _ (T121.setTop (mkF m 108 #[.val (.int p1), .val (.int p2), .val (.int p3), .val (.int p4), .val (.int p5), .val (.int v5_1), .val (.int v6_2), .val (.int v7_3), .val (.int v8_4), .val (.int (1 : Int32)), .val (.int (1 : Int32)), .val (.ref b90), .unset, .unset, .unset, .unset] [(.int (1 : Int32)), (.int v5_1), (.int v8_4), (.int (if own_has fz112 nz104 xq then (1 : Int32) else 0))]))
      refine own_by (fun _ k => XS.iload X121.here hx rfl (hb hby at_108) rfl k) ?_
      show own_Go _ _ _ _ (T121.setTop (mkF m 110 #[.val (.int p1), .val (.int p2), .val (.int p3), .val (.int p4), .val (.int p5), .val (.int v5_1), .val (.int v6_2), .val (.int v7_3), .val (.int v8_4), .val (.int (1 : Int32)), .val (.int (1 : Int32)), .val (.ref b90), .unset, .unset, .unset, .unset] [(.int v6_2), (.int (1 : Int32)), (.int v5_1), (.int v8_4), (.int (if own_has fz112 nz104 xq then (1 : Int32) else 0))]))
      refine own_by (fun _ k => XS.iload X121.here hx rfl (hb hby at_110) rfl k) ?_
      show own_Go _ _ _ _ (T121.setTop (mkF m 112 #[.val (.int p1), .val (.int p2), .val (.int p3), .val (.int p4), .val (.int p5), .val (.int v5_1), .val (.int v6_2), .val (.int v7_3), .val (.int v8_4), .val (.int (1 : Int32)), .val (.int (1 : Int32)), .val (.ref b90), .unset, .unset, .unset, .unset] [(.int (1 : Int32)), (.int v6_2), (.int (1 : Int32)), (.int v5_1), (.int v8_4), (.int (if own_has fz112 nz104 xq then (1 : Int32) else 0))]))
      refine own_by (fun _ k => XS.iload X121.here hx rfl (hb hby at_112) rfl k) ?_
      show own_Go _ _ _ _ (T121.setTop (mkF m 114 #[.val (.int p1), .val (.int p2), .val (.int p3), .val (.int p4), .val (.int p5), .val (.int v5_1), .val (.int v6_2), .val (.int v7_3), .val (.int v8_4), .val (.int (1 : Int32)), .val (.int (1 : Int32)), .val (.ref b90), .unset, .unset, .unset, .unset] [(.int v7_3), (.int (1 : Int32)), (.int v6_2), (.int (1 : Int32)), (.int v5_1), (.int v8_4), (.int (if own_has fz112 nz104 xq then (1 : Int32) else 0))]))
      refine own_callS X121 hx hZ hown (hw _ (List.mem_of_getElem? (i := 29) rfl)) (hw _ (List.mem_of_getElem? (i := 30) rfl)) (hw _ (List.mem_of_getElem? (i := 31) rfl)) (hw _ (List.mem_of_getElem? (i := 32) rfl)) (by decide) (rm6 l Z a0 hw [] v8_4 v5_1 (1 : Int32) v6_2 (1 : Int32) v7_3 h112 n0 Z112) e121 (by rw [hml]; rfl) [(.int v8_4), (.int v5_1), (.int (1 : Int32)), (.int v6_2), (.int (1 : Int32)), (.int v7_3)] [(.int (if own_has fz112 nz104 xq then (1 : Int32) else 0))] rfl (lenOf own_pd3 rfl) rfl 1 (Nat.le_of_eq rfl) (by decide) (by decide) (Nat.le_of_ble_eq_true rfl) (Nat.le_of_ble_eq_true rfl) (hb hby at_114) ?_
      intro T122 Lc122 v122 X122 hQ122
      obtain ⟨rfl, N122q, e122⟩ := hQ122
      have N122 := Fr.app N121 N122q
      show own_Go _ _ _ _ (T122.setTop (mkF m 117 #[.val (.int p1), .val (.int p2), .val (.int p3), .val (.int p4), .val (.int p5), .val (.int v5_1), .val (.int v6_2), .val (.int v7_3), .val (.int v8_4), .val (.int (1 : Int32)), .val (.int (1 : Int32)), .val (.ref b90), .unset, .unset, .unset, .unset] [(.int (own_exp v8_4 v5_1 (1 : Int32) v6_2 (1 : Int32) v7_3)), (.int (if own_has fz112 nz104 xq then (1 : Int32) else 0))]))
      refine own_by (fun _ k => XS.icmpNo X122.here hx rfl (hb hby at_117) rfl (teq (own_fin fz112 nz104 v8_4 v5_1 v6_2 v7_3 (1 : Int32) (1 : Int32) xq xa xb xc hxq hxa hxb hxc (by rw [hbt112]; rw [hbb104]; rw [hbb97]; rw [hb0]; simp))).2 k) ?_
      show own_Go _ _ _ _ (T122.setTop (mkF m 120 #[.val (.int p1), .val (.int p2), .val (.int p3), .val (.int p4), .val (.int p5), .val (.int v5_1), .val (.int v6_2), .val (.int v7_3), .val (.int v8_4), .val (.int (1 : Int32)), .val (.int (1 : Int32)), .val (.ref b90), .unset, .unset, .unset, .unset] []))
      refine own_by (fun _ k => XS.iconst X122.here hx rfl (hb hby at_120) k) ?_
      show own_Go _ _ _ _ (T122.setTop (mkF m 121 #[.val (.int p1), .val (.int p2), .val (.int p3), .val (.int p4), .val (.int p5), .val (.int v5_1), .val (.int v6_2), .val (.int v7_3), .val (.int v8_4), .val (.int (1 : Int32)), .val (.int (1 : Int32)), .val (.ref b90), .unset, .unset, .unset, .unset] [(.int (1 : Int32))]))
      refine own_by (fun _ k => XS.goto X122.here hx rfl (pc0 := 121) (pc' := 125) rfl (hb hby at_121) (by decide) (by decide) k) ?_
      show own_Go _ _ _ _ (T122.setTop (mkF m 125 #[.val (.int p1), .val (.int p2), .val (.int p3), .val (.int p4), .val (.int p5), .val (.int v5_1), .val (.int v6_2), .val (.int v7_3), .val (.int v8_4), .val (.int (1 : Int32)), .val (.int (1 : Int32)), .val (.ref b90), .unset, .unset, .unset, .unset] [(.int (1 : Int32))]))
      refine own_by (fun _ k => XS.istore X122.here hx rfl (hb hby at_125) rfl (l' := #[.val (.int p1), .val (.int p2), .val (.int p3), .val (.int p4), .val (.int p5), .val (.int v5_1), .val (.int v6_2), .val (.int v7_3), .val (.int v8_4), .val (.int (1 : Int32)), .val (.int (1 : Int32)), .val (.ref b90), .val (.int (1 : Int32)), .unset, .unset, .unset]) rfl k) ?_
      show own_Go _ _ _ _ (T122.setTop (mkF m 127 #[.val (.int p1), .val (.int p2), .val (.int p3), .val (.int p4), .val (.int p5), .val (.int v5_1), .val (.int v6_2), .val (.int v7_3), .val (.int v8_4), .val (.int (1 : Int32)), .val (.int (1 : Int32)), .val (.ref b90), .val (.int (1 : Int32)), .unset, .unset, .unset] []))
      refine own_by (fun _ k => XS.aload X122.here hx rfl (hb hby at_127) rfl rfl k) ?_
      show own_Go _ _ _ _ (T122.setTop (mkF m 129 #[.val (.int p1), .val (.int p2), .val (.int p3), .val (.int p4), .val (.int p5), .val (.int v5_1), .val (.int v6_2), .val (.int v7_3), .val (.int v8_4), .val (.int (1 : Int32)), .val (.int (1 : Int32)), .val (.ref b90), .val (.int (1 : Int32)), .unset, .unset, .unset] [(.ref b90)]))
      refine own_by (fun _ k => XS.iload X122.here hx rfl (hb hby at_129) rfl k) ?_
      show own_Go _ _ _ _ (T122.setTop (mkF m 131 #[.val (.int p1), .val (.int p2), .val (.int p3), .val (.int p4), .val (.int p5), .val (.int v5_1), .val (.int v6_2), .val (.int v7_3), .val (.int v8_4), .val (.int (1 : Int32)), .val (.int (1 : Int32)), .val (.ref b90), .val (.int (1 : Int32)), .unset, .unset, .unset] [(.int v5_1), (.ref b90)]))
      refine own_callV X122 hx hZ hown (hw _ (List.mem_of_getElem? (i := 24) rfl)) (hw _ (List.mem_of_getElem? (i := 25) rfl)) (notFace_of_selects (args := #[]) (mvT hZ (hw _ (List.mem_of_getElem? (i := 27) rfl)))) (hw _ (List.mem_of_getElem? (i := 27) rfl)) (hw _ (List.mem_of_getElem? (i := 26) rfl)) (hw _ (List.mem_of_getElem? (i := 3) rfl)) (hw _ (List.mem_of_getElem? (i := 28) rfl)) (by decide) (rm5 l Z a0 hw [] b90 v5_1 wz104 nz104 fz112 xa h112 n0 Z112 f116 AW112 hn5104 hxa) e122 b90 f113 (by rw [hml]; rfl) [(.int v5_1)] [] rfl (lenOf own_pd2 rfl) rfl 0 (Nat.le_of_eq rfl) (by decide) (by decide) (Nat.le_of_ble_eq_true rfl) (Nat.le_of_ble_eq_true rfl) (hb hby at_131) ?_
      intro T123 Lc123 v123 X123 hQ123
      obtain ⟨rfl, N123q, e123⟩ := hQ123
      have N123 := Fr.app N122 N123q
      show own_Go _ _ _ _ (T123.setTop (mkF m 134 #[.val (.int p1), .val (.int p2), .val (.int p3), .val (.int p4), .val (.int p5), .val (.int v5_1), .val (.int v6_2), .val (.int v7_3), .val (.int v8_4), .val (.int (1 : Int32)), .val (.int (1 : Int32)), .val (.ref b90), .val (.int (1 : Int32)), .unset, .unset, .unset] [(.int (if own_has fz112 nz104 xa then (1 : Int32) else 0))]))
      refine own_by (fun _ k => XS.iload X123.here hx rfl (hb hby at_134) rfl k) ?_
      show own_Go _ _ _ _ (T123.setTop (mkF m 136 #[.val (.int p1), .val (.int p2), .val (.int p3), .val (.int p4), .val (.int p5), .val (.int v5_1), .val (.int v6_2), .val (.int v7_3), .val (.int v8_4), .val (.int (1 : Int32)), .val (.int (1 : Int32)), .val (.ref b90), .val (.int (1 : Int32)), .unset, .unset, .unset] [(.int v5_1), (.int (if own_has fz112 nz104 xa then (1 : Int32) else 0))]))
      refine own_by (fun _ k => XS.iload X123.here hx rfl (hb hby at_136) rfl k) ?_
      show own_Go _ _ _ _ (T123.setTop (mkF m 138 #[.val (.int p1), .val (.int p2), .val (.int p3), .val (.int p4), .val (.int p5), .val (.int v5_1), .val (.int v6_2), .val (.int v7_3), .val (.int v8_4), .val (.int (1 : Int32)), .val (.int (1 : Int32)), .val (.ref b90), .val (.int (1 : Int32)), .unset, .unset, .unset] [(.int v5_1), (.int v5_1), (.int (if own_has fz112 nz104 xa then (1 : Int32) else 0))]))
      refine own_by (fun _ k => XS.iload X123.here hx rfl (hb hby at_138) rfl k) ?_
      show own_Go _ _ _ _ (T123.setTop (mkF m 140 #[.val (.int p1), .val (.int p2), .val (.int p3), .val (.int p4), .val (.int p5), .val (.int v5_1), .val (.int v6_2), .val (.int v7_3), .val (.int v8_4), .val (.int (1 : Int32)), .val (.int (1 : Int32)), .val (.ref b90), .val (.int (1 : Int32)), .unset, .unset, .unset] [(.int (1 : Int32)), (.int v5_1), (.int v5_1), (.int (if own_has fz112 nz104 xa then (1 : Int32) else 0))]))
      refine own_by (fun _ k => XS.iload X123.here hx rfl (hb hby at_140) rfl k) ?_
      show own_Go _ _ _ _ (T123.setTop (mkF m 142 #[.val (.int p1), .val (.int p2), .val (.int p3), .val (.int p4), .val (.int p5), .val (.int v5_1), .val (.int v6_2), .val (.int v7_3), .val (.int v8_4), .val (.int (1 : Int32)), .val (.int (1 : Int32)), .val (.ref b90), .val (.int (1 : Int32)), .unset, .unset, .unset] [(.int v6_2), (.int (1 : Int32)), (.int v5_1), (.int v5_1), (.int (if own_has fz112 nz104 xa then (1 : Int32) else 0))]))
      refine own_by (fun _ k => XS.iload X123.here hx rfl (hb hby at_142) rfl k) ?_
      show own_Go _ _ _ _ (T123.setTop (mkF m 144 #[.val (.int p1), .val (.int p2), .val (.int p3), .val (.int p4), .val (.int p5), .val (.int v5_1), .val (.int v6_2), .val (.int v7_3), .val (.int v8_4), .val (.int (1 : Int32)), .val (.int (1 : Int32)), .val (.ref b90), .val (.int (1 : Int32)), .unset, .unset, .unset] [(.int (1 : Int32)), (.int v6_2), (.int (1 : Int32)), (.int v5_1), (.int v5_1), (.int (if own_has fz112 nz104 xa then (1 : Int32) else 0))]))
      refine own_by (fun _ k => XS.iload X123.here hx rfl (hb hby at_144) rfl k) ?_
      show own_Go _ _ _ _ (T123.setTop (mkF m 146 #[.val (.int p1), .val (.int p2), .val (.int p3), .val (.int p4), .val (.int p5), .val (.int v5_1), .val (.int v6_2), .val (.int v7_3), .val (.int v8_4), .val (.int (1 : Int32)), .val (.int (1 : Int32)), .val (.ref b90), .val (.int (1 : Int32)), .unset, .unset, .unset] [(.int v7_3), (.int (1 : Int32)), (.int v6_2), (.int (1 : Int32)), (.int v5_1), (.int v5_1), (.int (if own_has fz112 nz104 xa then (1 : Int32) else 0))]))
      refine own_callS X123 hx hZ hown (hw _ (List.mem_of_getElem? (i := 29) rfl)) (hw _ (List.mem_of_getElem? (i := 30) rfl)) (hw _ (List.mem_of_getElem? (i := 31) rfl)) (hw _ (List.mem_of_getElem? (i := 32) rfl)) (by decide) (rm6 l Z a0 hw [] v5_1 v5_1 (1 : Int32) v6_2 (1 : Int32) v7_3 h112 n0 Z112) e123 (by rw [hml]; rfl) [(.int v5_1), (.int v5_1), (.int (1 : Int32)), (.int v6_2), (.int (1 : Int32)), (.int v7_3)] [(.int (if own_has fz112 nz104 xa then (1 : Int32) else 0))] rfl (lenOf own_pd3 rfl) rfl 1 (Nat.le_of_eq rfl) (by decide) (by decide) (Nat.le_of_ble_eq_true rfl) (Nat.le_of_ble_eq_true rfl) (hb hby at_146) ?_
      intro T124 Lc124 v124 X124 hQ124
      obtain ⟨rfl, N124q, e124⟩ := hQ124
      have N124 := Fr.app N123 N124q
      show own_Go _ _ _ _ (T124.setTop (mkF m 149 #[.val (.int p1), .val (.int p2), .val (.int p3), .val (.int p4), .val (.int p5), .val (.int v5_1), .val (.int v6_2), .val (.int v7_3), .val (.int v8_4), .val (.int (1 : Int32)), .val (.int (1 : Int32)), .val (.ref b90), .val (.int (1 : Int32)), .unset, .unset, .unset] [(.int (own_exp v5_1 v5_1 (1 : Int32) v6_2 (1 : Int32) v7_3)), (.int (if own_has fz112 nz104 xa then (1 : Int32) else 0))]))
      refine own_by (fun _ k => XS.icmpNo X124.here hx rfl (hb hby at_149) rfl (teq (own_fin fz112 nz104 v5_1 v5_1 v6_2 v7_3 (1 : Int32) (1 : Int32) xa xa xb xc hxa hxa hxb hxc (by rw [hbt112]; rw [hbb104]; rw [hbb97]; rw [hb0]; simp))).2 k) ?_
      show own_Go _ _ _ _ (T124.setTop (mkF m 152 #[.val (.int p1), .val (.int p2), .val (.int p3), .val (.int p4), .val (.int p5), .val (.int v5_1), .val (.int v6_2), .val (.int v7_3), .val (.int v8_4), .val (.int (1 : Int32)), .val (.int (1 : Int32)), .val (.ref b90), .val (.int (1 : Int32)), .unset, .unset, .unset] []))
      refine own_by (fun _ k => XS.iconst X124.here hx rfl (hb hby at_152) k) ?_
      show own_Go _ _ _ _ (T124.setTop (mkF m 153 #[.val (.int p1), .val (.int p2), .val (.int p3), .val (.int p4), .val (.int p5), .val (.int v5_1), .val (.int v6_2), .val (.int v7_3), .val (.int v8_4), .val (.int (1 : Int32)), .val (.int (1 : Int32)), .val (.ref b90), .val (.int (1 : Int32)), .unset, .unset, .unset] [(.int (1 : Int32))]))
      refine own_by (fun _ k => XS.goto X124.here hx rfl (pc0 := 153) (pc' := 157) rfl (hb hby at_153) (by decide) (by decide) k) ?_
      show own_Go _ _ _ _ (T124.setTop (mkF m 157 #[.val (.int p1), .val (.int p2), .val (.int p3), .val (.int p4), .val (.int p5), .val (.int v5_1), .val (.int v6_2), .val (.int v7_3), .val (.int v8_4), .val (.int (1 : Int32)), .val (.int (1 : Int32)), .val (.ref b90), .val (.int (1 : Int32)), .unset, .unset, .unset] [(.int (1 : Int32))]))
      refine own_by (fun _ k => XS.istore X124.here hx rfl (hb hby at_157) rfl (l' := #[.val (.int p1), .val (.int p2), .val (.int p3), .val (.int p4), .val (.int p5), .val (.int v5_1), .val (.int v6_2), .val (.int v7_3), .val (.int v8_4), .val (.int (1 : Int32)), .val (.int (1 : Int32)), .val (.ref b90), .val (.int (1 : Int32)), .val (.int (1 : Int32)), .unset, .unset]) rfl k) ?_
      show own_Go _ _ _ _ (T124.setTop (mkF m 159 #[.val (.int p1), .val (.int p2), .val (.int p3), .val (.int p4), .val (.int p5), .val (.int v5_1), .val (.int v6_2), .val (.int v7_3), .val (.int v8_4), .val (.int (1 : Int32)), .val (.int (1 : Int32)), .val (.ref b90), .val (.int (1 : Int32)), .val (.int (1 : Int32)), .unset, .unset] []))
      refine own_by (fun _ k => XS.aload X124.here hx rfl (hb hby at_159) rfl rfl k) ?_
      show own_Go _ _ _ _ (T124.setTop (mkF m 161 #[.val (.int p1), .val (.int p2), .val (.int p3), .val (.int p4), .val (.int p5), .val (.int v5_1), .val (.int v6_2), .val (.int v7_3), .val (.int v8_4), .val (.int (1 : Int32)), .val (.int (1 : Int32)), .val (.ref b90), .val (.int (1 : Int32)), .val (.int (1 : Int32)), .unset, .unset] [(.ref b90)]))
      refine own_by (fun _ k => XS.iload X124.here hx rfl (hb hby at_161) rfl k) ?_
      show own_Go _ _ _ _ (T124.setTop (mkF m 163 #[.val (.int p1), .val (.int p2), .val (.int p3), .val (.int p4), .val (.int p5), .val (.int v5_1), .val (.int v6_2), .val (.int v7_3), .val (.int v8_4), .val (.int (1 : Int32)), .val (.int (1 : Int32)), .val (.ref b90), .val (.int (1 : Int32)), .val (.int (1 : Int32)), .unset, .unset] [(.int v6_2), (.ref b90)]))
      refine own_callV X124 hx hZ hown (hw _ (List.mem_of_getElem? (i := 24) rfl)) (hw _ (List.mem_of_getElem? (i := 25) rfl)) (notFace_of_selects (args := #[]) (mvT hZ (hw _ (List.mem_of_getElem? (i := 27) rfl)))) (hw _ (List.mem_of_getElem? (i := 27) rfl)) (hw _ (List.mem_of_getElem? (i := 26) rfl)) (hw _ (List.mem_of_getElem? (i := 3) rfl)) (hw _ (List.mem_of_getElem? (i := 28) rfl)) (by decide) (rm5 l Z a0 hw [] b90 v6_2 wz104 nz104 fz112 xb h112 n0 Z112 f116 AW112 hn5104 hxb) e124 b90 f113 (by rw [hml]; rfl) [(.int v6_2)] [] rfl (lenOf own_pd2 rfl) rfl 0 (Nat.le_of_eq rfl) (by decide) (by decide) (Nat.le_of_ble_eq_true rfl) (Nat.le_of_ble_eq_true rfl) (hb hby at_163) ?_
      intro T125 Lc125 v125 X125 hQ125
      obtain ⟨rfl, N125q, e125⟩ := hQ125
      have N125 := Fr.app N124 N125q
      show own_Go _ _ _ _ (T125.setTop (mkF m 166 #[.val (.int p1), .val (.int p2), .val (.int p3), .val (.int p4), .val (.int p5), .val (.int v5_1), .val (.int v6_2), .val (.int v7_3), .val (.int v8_4), .val (.int (1 : Int32)), .val (.int (1 : Int32)), .val (.ref b90), .val (.int (1 : Int32)), .val (.int (1 : Int32)), .unset, .unset] [(.int (if own_has fz112 nz104 xb then (1 : Int32) else 0))]))
      refine own_by (fun _ k => XS.iload X125.here hx rfl (hb hby at_166) rfl k) ?_
      show own_Go _ _ _ _ (T125.setTop (mkF m 168 #[.val (.int p1), .val (.int p2), .val (.int p3), .val (.int p4), .val (.int p5), .val (.int v5_1), .val (.int v6_2), .val (.int v7_3), .val (.int v8_4), .val (.int (1 : Int32)), .val (.int (1 : Int32)), .val (.ref b90), .val (.int (1 : Int32)), .val (.int (1 : Int32)), .unset, .unset] [(.int v6_2), (.int (if own_has fz112 nz104 xb then (1 : Int32) else 0))]))
      refine own_by (fun _ k => XS.iload X125.here hx rfl (hb hby at_168) rfl k) ?_
      show own_Go _ _ _ _ (T125.setTop (mkF m 170 #[.val (.int p1), .val (.int p2), .val (.int p3), .val (.int p4), .val (.int p5), .val (.int v5_1), .val (.int v6_2), .val (.int v7_3), .val (.int v8_4), .val (.int (1 : Int32)), .val (.int (1 : Int32)), .val (.ref b90), .val (.int (1 : Int32)), .val (.int (1 : Int32)), .unset, .unset] [(.int v5_1), (.int v6_2), (.int (if own_has fz112 nz104 xb then (1 : Int32) else 0))]))
      refine own_by (fun _ k => XS.iload X125.here hx rfl (hb hby at_170) rfl k) ?_
      show own_Go _ _ _ _ (T125.setTop (mkF m 172 #[.val (.int p1), .val (.int p2), .val (.int p3), .val (.int p4), .val (.int p5), .val (.int v5_1), .val (.int v6_2), .val (.int v7_3), .val (.int v8_4), .val (.int (1 : Int32)), .val (.int (1 : Int32)), .val (.ref b90), .val (.int (1 : Int32)), .val (.int (1 : Int32)), .unset, .unset] [(.int (1 : Int32)), (.int v5_1), (.int v6_2), (.int (if own_has fz112 nz104 xb then (1 : Int32) else 0))]))
      refine own_by (fun _ k => XS.iload X125.here hx rfl (hb hby at_172) rfl k) ?_
      show own_Go _ _ _ _ (T125.setTop (mkF m 174 #[.val (.int p1), .val (.int p2), .val (.int p3), .val (.int p4), .val (.int p5), .val (.int v5_1), .val (.int v6_2), .val (.int v7_3), .val (.int v8_4), .val (.int (1 : Int32)), .val (.int (1 : Int32)), .val (.ref b90), .val (.int (1 : Int32)), .val (.int (1 : Int32)), .unset, .unset] [(.int v6_2), (.int (1 : Int32)), (.int v5_1), (.int v6_2), (.int (if own_has fz112 nz104 xb then (1 : Int32) else 0))]))
      refine own_by (fun _ k => XS.iload X125.here hx rfl (hb hby at_174) rfl k) ?_
      show own_Go _ _ _ _ (T125.setTop (mkF m 176 #[.val (.int p1), .val (.int p2), .val (.int p3), .val (.int p4), .val (.int p5), .val (.int v5_1), .val (.int v6_2), .val (.int v7_3), .val (.int v8_4), .val (.int (1 : Int32)), .val (.int (1 : Int32)), .val (.ref b90), .val (.int (1 : Int32)), .val (.int (1 : Int32)), .unset, .unset] [(.int (1 : Int32)), (.int v6_2), (.int (1 : Int32)), (.int v5_1), (.int v6_2), (.int (if own_has fz112 nz104 xb then (1 : Int32) else 0))]))
      refine own_by (fun _ k => XS.iload X125.here hx rfl (hb hby at_176) rfl k) ?_
      show own_Go _ _ _ _ (T125.setTop (mkF m 178 #[.val (.int p1), .val (.int p2), .val (.int p3), .val (.int p4), .val (.int p5), .val (.int v5_1), .val (.int v6_2), .val (.int v7_3), .val (.int v8_4), .val (.int (1 : Int32)), .val (.int (1 : Int32)), .val (.ref b90), .val (.int (1 : Int32)), .val (.int (1 : Int32)), .unset, .unset] [(.int v7_3), (.int (1 : Int32)), (.int v6_2), (.int (1 : Int32)), (.int v5_1), (.int v6_2), (.int (if own_has fz112 nz104 xb then (1 : Int32) else 0))]))
      refine own_callS X125 hx hZ hown (hw _ (List.mem_of_getElem? (i := 29) rfl)) (hw _ (List.mem_of_getElem? (i := 30) rfl)) (hw _ (List.mem_of_getElem? (i := 31) rfl)) (hw _ (List.mem_of_getElem? (i := 32) rfl)) (by decide) (rm6 l Z a0 hw [] v6_2 v5_1 (1 : Int32) v6_2 (1 : Int32) v7_3 h112 n0 Z112) e125 (by rw [hml]; rfl) [(.int v6_2), (.int v5_1), (.int (1 : Int32)), (.int v6_2), (.int (1 : Int32)), (.int v7_3)] [(.int (if own_has fz112 nz104 xb then (1 : Int32) else 0))] rfl (lenOf own_pd3 rfl) rfl 1 (Nat.le_of_eq rfl) (by decide) (by decide) (Nat.le_of_ble_eq_true rfl) (Nat.le_of_ble_eq_true rfl) (hb hby at_178) ?_
      intro T126 Lc126 v126 X126 hQ126
      obtain ⟨rfl, N126q, e126⟩ := hQ126
      have N126 := Fr.app N125 N126q
      show own_Go _ _ _ _ (T126.setTop (mkF m 181 #[.val (.int p1), .val (.int p2), .val (.int p3), .val (.int p4), .val (.int p5), .val (.int v5_1), .val (.int v6_2), .val (.int v7_3), .val (.int v8_4), .val (.int (1 : Int32)), .val (.int (1 : Int32)), .val (.ref b90), .val (.int (1 : Int32)), .val (.int (1 : Int32)), .unset, .unset] [(.int (own_exp v6_2 v5_1 (1 : Int32) v6_2 (1 : Int32) v7_3)), (.int (if own_has fz112 nz104 xb then (1 : Int32) else 0))]))
      refine own_by (fun _ k => XS.icmpNo X126.here hx rfl (hb hby at_181) rfl (teq (own_fin fz112 nz104 v6_2 v5_1 v6_2 v7_3 (1 : Int32) (1 : Int32) xb xa xb xc hxb hxa hxb hxc (by rw [hbt112]; rw [hbb104]; rw [hbb97]; rw [hb0]; simp))).2 k) ?_
      show own_Go _ _ _ _ (T126.setTop (mkF m 184 #[.val (.int p1), .val (.int p2), .val (.int p3), .val (.int p4), .val (.int p5), .val (.int v5_1), .val (.int v6_2), .val (.int v7_3), .val (.int v8_4), .val (.int (1 : Int32)), .val (.int (1 : Int32)), .val (.ref b90), .val (.int (1 : Int32)), .val (.int (1 : Int32)), .unset, .unset] []))
      refine own_by (fun _ k => XS.iconst X126.here hx rfl (hb hby at_184) k) ?_
      show own_Go _ _ _ _ (T126.setTop (mkF m 185 #[.val (.int p1), .val (.int p2), .val (.int p3), .val (.int p4), .val (.int p5), .val (.int v5_1), .val (.int v6_2), .val (.int v7_3), .val (.int v8_4), .val (.int (1 : Int32)), .val (.int (1 : Int32)), .val (.ref b90), .val (.int (1 : Int32)), .val (.int (1 : Int32)), .unset, .unset] [(.int (1 : Int32))]))
      refine own_by (fun _ k => XS.goto X126.here hx rfl (pc0 := 185) (pc' := 189) rfl (hb hby at_185) (by decide) (by decide) k) ?_
      show own_Go _ _ _ _ (T126.setTop (mkF m 189 #[.val (.int p1), .val (.int p2), .val (.int p3), .val (.int p4), .val (.int p5), .val (.int v5_1), .val (.int v6_2), .val (.int v7_3), .val (.int v8_4), .val (.int (1 : Int32)), .val (.int (1 : Int32)), .val (.ref b90), .val (.int (1 : Int32)), .val (.int (1 : Int32)), .unset, .unset] [(.int (1 : Int32))]))
      refine own_by (fun _ k => XS.istore X126.here hx rfl (hb hby at_189) rfl (l' := #[.val (.int p1), .val (.int p2), .val (.int p3), .val (.int p4), .val (.int p5), .val (.int v5_1), .val (.int v6_2), .val (.int v7_3), .val (.int v8_4), .val (.int (1 : Int32)), .val (.int (1 : Int32)), .val (.ref b90), .val (.int (1 : Int32)), .val (.int (1 : Int32)), .val (.int (1 : Int32)), .unset]) rfl k) ?_
      show own_Go _ _ _ _ (T126.setTop (mkF m 191 #[.val (.int p1), .val (.int p2), .val (.int p3), .val (.int p4), .val (.int p5), .val (.int v5_1), .val (.int v6_2), .val (.int v7_3), .val (.int v8_4), .val (.int (1 : Int32)), .val (.int (1 : Int32)), .val (.ref b90), .val (.int (1 : Int32)), .val (.int (1 : Int32)), .val (.int (1 : Int32)), .unset] []))
      refine own_by (fun _ k => XS.aload X126.here hx rfl (hb hby at_191) rfl rfl k) ?_
      show own_Go _ _ _ _ (T126.setTop (mkF m 193 #[.val (.int p1), .val (.int p2), .val (.int p3), .val (.int p4), .val (.int p5), .val (.int v5_1), .val (.int v6_2), .val (.int v7_3), .val (.int v8_4), .val (.int (1 : Int32)), .val (.int (1 : Int32)), .val (.ref b90), .val (.int (1 : Int32)), .val (.int (1 : Int32)), .val (.int (1 : Int32)), .unset] [(.ref b90)]))
      refine own_by (fun _ k => XS.iload X126.here hx rfl (hb hby at_193) rfl k) ?_
      show own_Go _ _ _ _ (T126.setTop (mkF m 195 #[.val (.int p1), .val (.int p2), .val (.int p3), .val (.int p4), .val (.int p5), .val (.int v5_1), .val (.int v6_2), .val (.int v7_3), .val (.int v8_4), .val (.int (1 : Int32)), .val (.int (1 : Int32)), .val (.ref b90), .val (.int (1 : Int32)), .val (.int (1 : Int32)), .val (.int (1 : Int32)), .unset] [(.int v7_3), (.ref b90)]))
      refine own_callV X126 hx hZ hown (hw _ (List.mem_of_getElem? (i := 24) rfl)) (hw _ (List.mem_of_getElem? (i := 25) rfl)) (notFace_of_selects (args := #[]) (mvT hZ (hw _ (List.mem_of_getElem? (i := 27) rfl)))) (hw _ (List.mem_of_getElem? (i := 27) rfl)) (hw _ (List.mem_of_getElem? (i := 26) rfl)) (hw _ (List.mem_of_getElem? (i := 3) rfl)) (hw _ (List.mem_of_getElem? (i := 28) rfl)) (by decide) (rm5 l Z a0 hw [] b90 v7_3 wz104 nz104 fz112 xc h112 n0 Z112 f116 AW112 hn5104 hxc) e126 b90 f113 (by rw [hml]; rfl) [(.int v7_3)] [] rfl (lenOf own_pd2 rfl) rfl 0 (Nat.le_of_eq rfl) (by decide) (by decide) (Nat.le_of_ble_eq_true rfl) (Nat.le_of_ble_eq_true rfl) (hb hby at_195) ?_
      intro T127 Lc127 v127 X127 hQ127
      obtain ⟨rfl, N127q, e127⟩ := hQ127
      have N127 := Fr.app N126 N127q
      show own_Go _ _ _ _ (T127.setTop (mkF m 198 #[.val (.int p1), .val (.int p2), .val (.int p3), .val (.int p4), .val (.int p5), .val (.int v5_1), .val (.int v6_2), .val (.int v7_3), .val (.int v8_4), .val (.int (1 : Int32)), .val (.int (1 : Int32)), .val (.ref b90), .val (.int (1 : Int32)), .val (.int (1 : Int32)), .val (.int (1 : Int32)), .unset] [(.int (if own_has fz112 nz104 xc then (1 : Int32) else 0))]))
      refine own_by (fun _ k => XS.iload X127.here hx rfl (hb hby at_198) rfl k) ?_
      show own_Go _ _ _ _ (T127.setTop (mkF m 200 #[.val (.int p1), .val (.int p2), .val (.int p3), .val (.int p4), .val (.int p5), .val (.int v5_1), .val (.int v6_2), .val (.int v7_3), .val (.int v8_4), .val (.int (1 : Int32)), .val (.int (1 : Int32)), .val (.ref b90), .val (.int (1 : Int32)), .val (.int (1 : Int32)), .val (.int (1 : Int32)), .unset] [(.int v7_3), (.int (if own_has fz112 nz104 xc then (1 : Int32) else 0))]))
      refine own_by (fun _ k => XS.iload X127.here hx rfl (hb hby at_200) rfl k) ?_
      show own_Go _ _ _ _ (T127.setTop (mkF m 202 #[.val (.int p1), .val (.int p2), .val (.int p3), .val (.int p4), .val (.int p5), .val (.int v5_1), .val (.int v6_2), .val (.int v7_3), .val (.int v8_4), .val (.int (1 : Int32)), .val (.int (1 : Int32)), .val (.ref b90), .val (.int (1 : Int32)), .val (.int (1 : Int32)), .val (.int (1 : Int32)), .unset] [(.int v5_1), (.int v7_3), (.int (if own_has fz112 nz104 xc then (1 : Int32) else 0))]))
      refine own_by (fun _ k => XS.iload X127.here hx rfl (hb hby at_202) rfl k) ?_
      show own_Go _ _ _ _ (T127.setTop (mkF m 204 #[.val (.int p1), .val (.int p2), .val (.int p3), .val (.int p4), .val (.int p5), .val (.int v5_1), .val (.int v6_2), .val (.int v7_3), .val (.int v8_4), .val (.int (1 : Int32)), .val (.int (1 : Int32)), .val (.ref b90), .val (.int (1 : Int32)), .val (.int (1 : Int32)), .val (.int (1 : Int32)), .unset] [(.int (1 : Int32)), (.int v5_1), (.int v7_3), (.int (if own_has fz112 nz104 xc then (1 : Int32) else 0))]))
      refine own_by (fun _ k => XS.iload X127.here hx rfl (hb hby at_204) rfl k) ?_
      show own_Go _ _ _ _ (T127.setTop (mkF m 206 #[.val (.int p1), .val (.int p2), .val (.int p3), .val (.int p4), .val (.int p5), .val (.int v5_1), .val (.int v6_2), .val (.int v7_3), .val (.int v8_4), .val (.int (1 : Int32)), .val (.int (1 : Int32)), .val (.ref b90), .val (.int (1 : Int32)), .val (.int (1 : Int32)), .val (.int (1 : Int32)), .unset] [(.int v6_2), (.int (1 : Int32)), (.int v5_1), (.int v7_3), (.int (if own_has fz112 nz104 xc then (1 : Int32) else 0))]))
      refine own_by (fun _ k => XS.iload X127.here hx rfl (hb hby at_206) rfl k) ?_
      show own_Go _ _ _ _ (T127.setTop (mkF m 208 #[.val (.int p1), .val (.int p2), .val (.int p3), .val (.int p4), .val (.int p5), .val (.int v5_1), .val (.int v6_2), .val (.int v7_3), .val (.int v8_4), .val (.int (1 : Int32)), .val (.int (1 : Int32)), .val (.ref b90), .val (.int (1 : Int32)), .val (.int (1 : Int32)), .val (.int (1 : Int32)), .unset] [(.int (1 : Int32)), (.int v6_2), (.int (1 : Int32)), (.int v5_1), (.int v7_3), (.int (if own_has fz112 nz104 xc then (1 : Int32) else 0))]))
      refine own_by (fun _ k => XS.iload X127.here hx rfl (hb hby at_208) rfl k) ?_
      show own_Go _ _ _ _ (T127.setTop (mkF m 210 #[.val (.int p1), .val (.int p2), .val (.int p3), .val (.int p4), .val (.int p5), .val (.int v5_1), .val (.int v6_2), .val (.int v7_3), .val (.int v8_4), .val (.int (1 : Int32)), .val (.int (1 : Int32)), .val (.ref b90), .val (.int (1 : Int32)), .val (.int (1 : Int32)), .val (.int (1 : Int32)), .unset] [(.int v7_3), (.int (1 : Int32)), (.int v6_2), (.int (1 : Int32)), (.int v5_1), (.int v7_3), (.int (if own_has fz112 nz104 xc then (1 : Int32) else 0))]))
      refine own_callS X127 hx hZ hown (hw _ (List.mem_of_getElem? (i := 29) rfl)) (hw _ (List.mem_of_getElem? (i := 30) rfl)) (hw _ (List.mem_of_getElem? (i := 31) rfl)) (hw _ (List.mem_of_getElem? (i := 32) rfl)) (by decide) (rm6 l Z a0 hw [] v7_3 v5_1 (1 : Int32) v6_2 (1 : Int32) v7_3 h112 n0 Z112) e127 (by rw [hml]; rfl) [(.int v7_3), (.int v5_1), (.int (1 : Int32)), (.int v6_2), (.int (1 : Int32)), (.int v7_3)] [(.int (if own_has fz112 nz104 xc then (1 : Int32) else 0))] rfl (lenOf own_pd3 rfl) rfl 1 (Nat.le_of_eq rfl) (by decide) (by decide) (Nat.le_of_ble_eq_true rfl) (Nat.le_of_ble_eq_true rfl) (hb hby at_210) ?_
      intro T128 Lc128 v128 X128 hQ128
      obtain ⟨rfl, N128q, e128⟩ := hQ128
      have N128 := Fr.app N127 N128q
      show own_Go _ _ _ _ (T128.setTop (mkF m 213 #[.val (.int p1), .val (.int p2), .val (.int p3), .val (.int p4), .val (.int p5), .val (.int v5_1), .val (.int v6_2), .val (.int v7_3), .val (.int v8_4), .val (.int (1 : Int32)), .val (.int (1 : Int32)), .val (.ref b90), .val (.int (1 : Int32)), .val (.int (1 : Int32)), .val (.int (1 : Int32)), .unset] [(.int (own_exp v7_3 v5_1 (1 : Int32) v6_2 (1 : Int32) v7_3)), (.int (if own_has fz112 nz104 xc then (1 : Int32) else 0))]))
      refine own_by (fun _ k => XS.icmpNo X128.here hx rfl (hb hby at_213) rfl (teq (own_fin fz112 nz104 v7_3 v5_1 v6_2 v7_3 (1 : Int32) (1 : Int32) xc xa xb xc hxc hxa hxb hxc (by rw [hbt112]; rw [hbb104]; rw [hbb97]; rw [hb0]; simp))).2 k) ?_
      show own_Go _ _ _ _ (T128.setTop (mkF m 216 #[.val (.int p1), .val (.int p2), .val (.int p3), .val (.int p4), .val (.int p5), .val (.int v5_1), .val (.int v6_2), .val (.int v7_3), .val (.int v8_4), .val (.int (1 : Int32)), .val (.int (1 : Int32)), .val (.ref b90), .val (.int (1 : Int32)), .val (.int (1 : Int32)), .val (.int (1 : Int32)), .unset] []))
      refine own_by (fun _ k => XS.iconst X128.here hx rfl (hb hby at_216) k) ?_
      show own_Go _ _ _ _ (T128.setTop (mkF m 217 #[.val (.int p1), .val (.int p2), .val (.int p3), .val (.int p4), .val (.int p5), .val (.int v5_1), .val (.int v6_2), .val (.int v7_3), .val (.int v8_4), .val (.int (1 : Int32)), .val (.int (1 : Int32)), .val (.ref b90), .val (.int (1 : Int32)), .val (.int (1 : Int32)), .val (.int (1 : Int32)), .unset] [(.int (1 : Int32))]))
      refine own_by (fun _ k => XS.goto X128.here hx rfl (pc0 := 217) (pc' := 221) rfl (hb hby at_217) (by decide) (by decide) k) ?_
      show own_Go _ _ _ _ (T128.setTop (mkF m 221 #[.val (.int p1), .val (.int p2), .val (.int p3), .val (.int p4), .val (.int p5), .val (.int v5_1), .val (.int v6_2), .val (.int v7_3), .val (.int v8_4), .val (.int (1 : Int32)), .val (.int (1 : Int32)), .val (.ref b90), .val (.int (1 : Int32)), .val (.int (1 : Int32)), .val (.int (1 : Int32)), .unset] [(.int (1 : Int32))]))
      refine own_by (fun _ k => XS.istore X128.here hx rfl (hb hby at_221) rfl (l' := #[.val (.int p1), .val (.int p2), .val (.int p3), .val (.int p4), .val (.int p5), .val (.int v5_1), .val (.int v6_2), .val (.int v7_3), .val (.int v8_4), .val (.int (1 : Int32)), .val (.int (1 : Int32)), .val (.ref b90), .val (.int (1 : Int32)), .val (.int (1 : Int32)), .val (.int (1 : Int32)), .val (.int (1 : Int32))]) rfl k) ?_
      show own_Go _ _ _ _ (T128.setTop (mkF m 223 #[.val (.int p1), .val (.int p2), .val (.int p3), .val (.int p4), .val (.int p5), .val (.int v5_1), .val (.int v6_2), .val (.int v7_3), .val (.int v8_4), .val (.int (1 : Int32)), .val (.int (1 : Int32)), .val (.ref b90), .val (.int (1 : Int32)), .val (.int (1 : Int32)), .val (.int (1 : Int32)), .val (.int (1 : Int32))] []))
      refine own_by (fun _ k => XS.iload X128.here hx rfl (hb hby at_223) rfl k) ?_
      show own_Go _ _ _ _ (T128.setTop (mkF m 225 #[.val (.int p1), .val (.int p2), .val (.int p3), .val (.int p4), .val (.int p5), .val (.int v5_1), .val (.int v6_2), .val (.int v7_3), .val (.int v8_4), .val (.int (1 : Int32)), .val (.int (1 : Int32)), .val (.ref b90), .val (.int (1 : Int32)), .val (.int (1 : Int32)), .val (.int (1 : Int32)), .val (.int (1 : Int32))] [(.int (1 : Int32))]))
      refine own_by (fun _ k => XS.ifNo X128.here hx rfl (hb hby at_225) rfl ((if0 _ _).trans (feq (by decide)).1) k) ?_
      show own_Go _ _ _ _ (T128.setTop (mkF m 228 #[.val (.int p1), .val (.int p2), .val (.int p3), .val (.int p4), .val (.int p5), .val (.int v5_1), .val (.int v6_2), .val (.int v7_3), .val (.int v8_4), .val (.int (1 : Int32)), .val (.int (1 : Int32)), .val (.ref b90), .val (.int (1 : Int32)), .val (.int (1 : Int32)), .val (.int (1 : Int32)), .val (.int (1 : Int32))] []))
      refine own_by (fun _ k => XS.iload X128.here hx rfl (hb hby at_228) rfl k) ?_
      show own_Go _ _ _ _ (T128.setTop (mkF m 230 #[.val (.int p1), .val (.int p2), .val (.int p3), .val (.int p4), .val (.int p5), .val (.int v5_1), .val (.int v6_2), .val (.int v7_3), .val (.int v8_4), .val (.int (1 : Int32)), .val (.int (1 : Int32)), .val (.ref b90), .val (.int (1 : Int32)), .val (.int (1 : Int32)), .val (.int (1 : Int32)), .val (.int (1 : Int32))] [(.int (1 : Int32))]))
      refine own_by (fun _ k => XS.ifNo X128.here hx rfl (hb hby at_230) rfl ((if0 _ _).trans (feq (by decide)).1) k) ?_
      show own_Go _ _ _ _ (T128.setTop (mkF m 233 #[.val (.int p1), .val (.int p2), .val (.int p3), .val (.int p4), .val (.int p5), .val (.int v5_1), .val (.int v6_2), .val (.int v7_3), .val (.int v8_4), .val (.int (1 : Int32)), .val (.int (1 : Int32)), .val (.ref b90), .val (.int (1 : Int32)), .val (.int (1 : Int32)), .val (.int (1 : Int32)), .val (.int (1 : Int32))] []))
      refine own_by (fun _ k => XS.iload X128.here hx rfl (hb hby at_233) rfl k) ?_
      show own_Go _ _ _ _ (T128.setTop (mkF m 235 #[.val (.int p1), .val (.int p2), .val (.int p3), .val (.int p4), .val (.int p5), .val (.int v5_1), .val (.int v6_2), .val (.int v7_3), .val (.int v8_4), .val (.int (1 : Int32)), .val (.int (1 : Int32)), .val (.ref b90), .val (.int (1 : Int32)), .val (.int (1 : Int32)), .val (.int (1 : Int32)), .val (.int (1 : Int32))] [(.int (1 : Int32))]))
      refine own_by (fun _ k => XS.ifNo X128.here hx rfl (hb hby at_235) rfl ((if0 _ _).trans (feq (by decide)).1) k) ?_
      show own_Go _ _ _ _ (T128.setTop (mkF m 238 #[.val (.int p1), .val (.int p2), .val (.int p3), .val (.int p4), .val (.int p5), .val (.int v5_1), .val (.int v6_2), .val (.int v7_3), .val (.int v8_4), .val (.int (1 : Int32)), .val (.int (1 : Int32)), .val (.ref b90), .val (.int (1 : Int32)), .val (.int (1 : Int32)), .val (.int (1 : Int32)), .val (.int (1 : Int32))] []))
      refine own_by (fun _ k => XS.iload X128.here hx rfl (hb hby at_238) rfl k) ?_
      show own_Go _ _ _ _ (T128.setTop (mkF m 240 #[.val (.int p1), .val (.int p2), .val (.int p3), .val (.int p4), .val (.int p5), .val (.int v5_1), .val (.int v6_2), .val (.int v7_3), .val (.int v8_4), .val (.int (1 : Int32)), .val (.int (1 : Int32)), .val (.ref b90), .val (.int (1 : Int32)), .val (.int (1 : Int32)), .val (.int (1 : Int32)), .val (.int (1 : Int32))] [(.int (1 : Int32))]))
      refine own_by (fun _ k => XS.ifNo X128.here hx rfl (hb hby at_240) rfl ((if0 _ _).trans (feq (by decide)).1) k) ?_
      show own_Go _ _ _ _ (T128.setTop (mkF m 243 #[.val (.int p1), .val (.int p2), .val (.int p3), .val (.int p4), .val (.int p5), .val (.int v5_1), .val (.int v6_2), .val (.int v7_3), .val (.int v8_4), .val (.int (1 : Int32)), .val (.int (1 : Int32)), .val (.ref b90), .val (.int (1 : Int32)), .val (.int (1 : Int32)), .val (.int (1 : Int32)), .val (.int (1 : Int32))] []))
      refine own_by (fun _ k => XS.iconst X128.here hx rfl (hb hby at_243) k) ?_
      show own_Go _ _ _ _ (T128.setTop (mkF m 244 #[.val (.int p1), .val (.int p2), .val (.int p3), .val (.int p4), .val (.int p5), .val (.int v5_1), .val (.int v6_2), .val (.int v7_3), .val (.int v8_4), .val (.int (1 : Int32)), .val (.int (1 : Int32)), .val (.ref b90), .val (.int (1 : Int32)), .val (.int (1 : Int32)), .val (.int (1 : Int32)), .val (.int (1 : Int32))] [(.int (1 : Int32))]))
      refine own_by (fun _ k => XS.goto X128.here hx rfl (pc0 := 244) (pc' := 248) rfl (hb hby at_244) (by decide) (by decide) k) ?_
      show own_Go _ _ _ _ (T128.setTop (mkF m 248 #[.val (.int p1), .val (.int p2), .val (.int p3), .val (.int p4), .val (.int p5), .val (.int v5_1), .val (.int v6_2), .val (.int v7_3), .val (.int v8_4), .val (.int (1 : Int32)), .val (.int (1 : Int32)), .val (.ref b90), .val (.int (1 : Int32)), .val (.int (1 : Int32)), .val (.int (1 : Int32)), .val (.int (1 : Int32))] [(.int (1 : Int32))]))
      exact own_retN X128 hx Bd.notSynchronized e128 Bd.returns (by simp) (hb hby at_248) (⟨rfl, N128⟩) (by decide) (by decide)
set_option maxRecDepth 65536 in
set_option maxHeartbeats 40000000 in
theorem comes_1 {Post : Tables → Env → Array Value → State → Outcome → State → Prop} (hpost : ∀ tb e args s v u, (limb_1_1.after args s (.returned v) u = true ∧ limb_1_2.after args s (.returned v) u = true ∧ True) → FrameEnd s (.returned v) u (Jvm.fieldLocs frame_1_writes args s ++ Jvm.arrayLocs frame_1_arrays args s ++ Jvm.staticLocs frame_1_statics s) 24 1664 → Post tb e args s (.returned v) u) :
    ArmFor flags0 classFile x code maxLocals ret World_1 tables_1 room_1 Calls_1 rest_1 Pre_1 Post := by
  intro l hfl _ _ p e ha hc hk s m args below hf hA hF happ hP
  obtain ⟨hcalls, hrest, hpre⟩ := hP
  obtain ⟨-, -, -, hnamed, -, -, -, hat⟩ := (Spec.applies_iff hf).mp happ
  obtain ⟨hg, hn⟩ := and_e (Cond.before_iff.mp (show (Jvm.Cond.and given_1 narrow_1).before args s = true from hpre))
  obtain ⟨g1, g2⟩ := and_e hg
  obtain ⟨g3, g4⟩ := and_e g2
  obtain ⟨g5, g6⟩ := and_e g4
  obtain ⟨g7, g8⟩ := and_e g6
  obtain ⟨g9, g10⟩ := and_e g8
  obtain ⟨w0, w1, w2, w3, w4, rfl⟩ : ∃ w0 w1 w2 w3 w4 : Value, args = #[w0, w1, w2, w3, w4] := by
    have hs : args.size = 5 := by simpa [Cond.value, given_1] using g1
    obtain ⟨L⟩ := args
    match L, hs with
    | [w0, w1, w2, w3, w4], _ => exact ⟨w0, w1, w2, w3, w4, rfl⟩
  have hw := fun d (hd : d ∈ tables_1) => atoms_spec (ws := Jvm.Cond.code x code maxLocals ret :: tables_1) hat d (List.mem_cons_of_mem _ hd)
  have hfit : Fit s := fun {y c} hc i hi => by
    obtain ⟨ha, rfl⟩ := Array.getElem?_eq_some_iff.mp hc
    have q := List.all_eq_true.mp ((Array.all_eq_true_iff_forall_mem.mp hF) _ (Array.getElem_mem ha)) i (List.mem_range.mpr hi)
    simpa [Array.getElem?_eq_getElem hi] using q
  obtain ⟨i0, ei0⟩ := is_v g3
  obtain rfl : w0 = (.int i0) := Option.some.inj ei0
  obtain ⟨i1, ei1⟩ := is_v g5
  obtain rfl : w1 = (.int i1) := Option.some.inj ei1
  obtain ⟨i2, ei2⟩ := is_v g7
  obtain rfl : w2 = (.int i2) := Option.some.inj ei2
  obtain ⟨i3, ei3⟩ := is_v g9
  obtain rfl : w3 = (.int i3) := Option.some.inj ei3
  obtain ⟨i4, ei4⟩ := is_v g10
  obtain rfl : w4 = (.int i4) := Option.some.inj ei4
  obtain ⟨n, o, h1, h2, h3, _, L, rfl, ⟨rfl, N⟩, hq⟩ := rm0 l s _ hw tables_1 i0 i1 i2 i3 i4 s.heap s.heap.size (Nat.le_refl _) p e ha hc hk s m _ below hf ((Spec.applies_iff_loose hf).mp happ).1 ⟨rfl, State.Warmed39.refl s, rfl⟩ trivial
  refine ⟨n, _, h1, h2, h3, hpost _ _ _ _ _ _ ⟨Cond.after_iff.mpr rfl, Cond.after_iff.mpr (eq_i res_at (Term.int_eval (1)) rfl), trivial⟩ ⟨hq.1, hq.2.1, (hq.2.2.sift fun y hy => Or.inr (N y hy)).mono (by decide) (by decide)⟩⟩
theorem main_1_1 : Claimed_1_1 := comes_1 fun _ _ _ _ _ _ h hF => ⟨h.1, hF⟩
theorem main_1_2 : Claimed_1_2 := comes_1 fun _ _ _ _ _ _ h hF => ⟨h.2.1, hF⟩
end Jvm.Pilot.@@N@@
namespace Jvm.Pilot.@@N@@
open Jvm Jvm.ClassFile Sem Op Lib Jvm.Free Jvm.Stand Jvm.Pilot.@@N@@.Jvm.D
/-! MADE BY PROGRAM (witnessworld.py) out of the Statement's table words and the real class files: 14 classes; the members and pool entries that the words name. The judged class is class 1, her method 2. -/
namespace start1
open Jvm.ClassFile
def u (s : String) : CpInfo := .utf8 (stringToUtf16 s)
/-- a pool by its gaps: so many unusable entries, then the entry; so many at the end -/
def gap : Nat → List CpInfo → List CpInfo
  | 0, r => r
  | n + 1, r => .unusable :: gap n r
def poolList (es : List (Nat × CpInfo)) (last : Nat) : List CpInfo := es.foldr (fun e r => gap e.1 (e.2 :: r)) (gap last [])
def pool (es : List (Nat × CpInfo)) (last : Nat) : Array CpInfo := ⟨poolList es last⟩
def fileOf (pool : Array CpInfo) (this : Nat) (attrs : Array Attribute := #[]) (ms : Array MethodInfo := #[]) (fl : Nat := 33) (sup : Nat := 0) (ifs : Array Nat := #[]) (fds : Array FieldInfo := #[]) : ClassFile where
  minorVersion := 0
  majorVersion := 65
  constantPool := pool
  accessFlags := fl
  thisClass := this
  superClass := sup
  interfaces := ifs
  fields := fds
  methods := ms
  attributes := attrs
def plain (name : String) (sup : Option ClassId) : Class where
  name := name
  kind := .ordinary
  loader := none
  accessFlags := 33
  super := sup
  interfaces := #[]
  cf := none
  fields := #[]
  methods := #[]
  instanceTypes := #[]
  staticTypes := #[]
  resolved := #[]
  callSites := []
  init := .initialized
  statics := none
  mirror := none

def pool0 : Array CpInfo := pool [(5, u "<init>"), (0, u "()V"), (1, .class_ 10), (1, u "java/lang/Object"), (85, u "clone"), (0, u "()Ljava/lang/Object;")] 26

def k0c0 : Code := { maxStack := 0, maxLocals := 1, code := object_method_1_code, exceptionTable := #[], attributes := #[] }
def k0m0 : Method := { name := "<init>", desc := "()V", sig := { parameters := [], returnType := none }, accessFlags := 1, code := some k0c0 }
def k0m1 : Method := { name := "clone", desc := "()Ljava/lang/Object;", sig := { parameters := [], returnType := some (.object "java/lang/Object") }, accessFlags := 260, code := none }
/-- java/lang/Object -/
def k0 : Class := { plain "java/lang/Object" none with
  accessFlags := 33
  interfaces := #[]
  cf := some (fileOf pool0 8 #[] #[{ accessFlags := 1, nameIndex := 5, descriptorIndex := 6, attributes := #[] }, { accessFlags := 260, nameIndex := 96, descriptorIndex := 97, attributes := #[] }] 33 0 #[] #[])
  fields := #[]
  methods := #[k0m0, k0m1]
  instanceTypes := #[]
  staticTypes := #[]
  resolved := Array.replicate 124 none
  statics := none }

def pool1 : Array CpInfo := pool [(2, .class_ 4), (0, .nameAndType 5 6), (0, u "java/lang/Object"), (0, u "<init>"), (0, u "()V"), (0, .integer 2147483647), (0, .class_ 9), (0, u "com/example/sonde/sonde/engine/Bits"), (0, .methodref 8 3), (0, .methodref 8 12), (0, .nameAndType 13 14), (0, u "set"), (0, u "(I)V"), (0, .methodref 8 16), (0, .nameAndType 17 14), (0, u "clear"), (0, .methodref 8 19), (0, .nameAndType 20 21), (0, u "get"), (0, u "(I)Z"), (0, .methodref 23 24), (0, .class_ 25), (0, .nameAndType 26 27), (0, u "com/example/sonde/sonde/engine/BitsGetPinLaw"), (0, u "expected"), (0, u "(IIZIZI)Z"), (3, u "law"), (0, u "(IIIII)Z")] 2

def k1m0 : Method := { name := "<init>", desc := "()V", sig := { parameters := [], returnType := none }, accessFlags := 1, code := none }
def k1c1 : Code := { maxStack := 2, maxLocals := 7, code := method_2_code, exceptionTable := #[], attributes := #[] }
def k1m1 : Method := { name := "expected", desc := "(IIZIZI)Z", sig := { parameters := [.int, .int, .boolean, .int, .boolean, .int], returnType := some .boolean }, accessFlags := 10, code := some k1c1 }
def k1c2 : Code := { maxStack := 7, maxLocals := 16, code := code, exceptionTable := #[], attributes := #[] }
def k1m2 : Method := { name := "law", desc := "(IIIII)Z", sig := { parameters := [.int, .int, .int, .int, .int], returnType := some .boolean }, accessFlags := 9, code := some k1c2 }
/-- com/example/sonde/sonde/engine/BitsGetPinLaw -/
def k1 : Class := { plain "com/example/sonde/sonde/engine/BitsGetPinLaw" (some 0) with
  accessFlags := 49
  interfaces := #[]
  cf := some (fileOf pool1 23 #[] #[{ accessFlags := 1, nameIndex := 5, descriptorIndex := 6, attributes := #[] }, { accessFlags := 10, nameIndex := 26, descriptorIndex := 27, attributes := #[] }, { accessFlags := 9, nameIndex := 31, descriptorIndex := 32, attributes := #[] }] 49 2 #[] #[])
  fields := #[]
  methods := #[k1m0, k1m1, k1m2]
  instanceTypes := #[]
  staticTypes := #[]
  resolved := Array.replicate 35 none
  statics := none }

def pool2 : Array CpInfo := pool [(1, .methodref 2 3), (0, .class_ 4), (0, .nameAndType 5 6), (0, u "java/lang/Object"), (0, u "<init>"), (0, u "()V"), (0, .fieldref 8 9), (0, .class_ 10), (0, .nameAndType 11 12), (0, u "com/example/sonde/sonde/engine/Bits"), (0, u "words"), (0, u "[J"), (0, .fieldref 8 14), (0, .nameAndType 15 12), (0, u "held"), (0, .methodref 8 17), (0, .nameAndType 18 19), (0, u "roomFor"), (0, u "(I)V"), (0, .long 18446744073709551615), (1, .methodref 8 23), (0, .nameAndType 24 19), (0, u "note"), (1, .class_ 28), (1, u "java/util/Arrays"), (20, .class_ 51), (1, u "java/lang/Math"), (1, u "(II)I"), (0, .methodref 49 55), (0, .nameAndType 56 53), (0, u "max"), (0, .methodref 26 58), (0, .nameAndType 59 60), (0, u "copyOf"), (0, u "([JI)[J"), (2, u "get"), (0, u "(I)Z"), (1, u "set"), (0, u "clear")] 15

def k2c0 : Code := { maxStack := 2, maxLocals := 1, code := prog_100_method_1_code, exceptionTable := #[], attributes := #[] }
def k2m0 : Method := { name := "<init>", desc := "()V", sig := { parameters := [], returnType := none }, accessFlags := 0, code := some k2c0 }
def k2c1 : Code := { maxStack := 5, maxLocals := 3, code := prog_100_method_2_code, exceptionTable := #[], attributes := #[] }
def k2m1 : Method := { name := "get", desc := "(I)Z", sig := { parameters := [.int], returnType := some .boolean }, accessFlags := 0, code := some k2c1 }
def k2c2 : Code := { maxStack := 7, maxLocals := 3, code := prog_100_method_3_code, exceptionTable := #[], attributes := #[] }
def k2m2 : Method := { name := "set", desc := "(I)V", sig := { parameters := [.int], returnType := none }, accessFlags := 0, code := some k2c2 }
def k2c3 : Code := { maxStack := 8, maxLocals := 3, code := prog_100_method_4_code, exceptionTable := #[], attributes := #[] }
def k2m3 : Method := { name := "clear", desc := "(I)V", sig := { parameters := [.int], returnType := none }, accessFlags := 0, code := some k2c3 }
def k2c4 : Code := { maxStack := 8, maxLocals := 2, code := prog_100_method_14_code, exceptionTable := #[], attributes := #[] }
def k2m4 : Method := { name := "note", desc := "(I)V", sig := { parameters := [.int], returnType := none }, accessFlags := 2, code := some k2c4 }
def k2c5 : Code := { maxStack := 5, maxLocals := 2, code := prog_100_method_15_code, exceptionTable := #[], attributes := #[] }
def k2m5 : Method := { name := "roomFor", desc := "(I)V", sig := { parameters := [.int], returnType := none }, accessFlags := 2, code := some k2c5 }
/-- com/example/sonde/sonde/engine/Bits -/
def k2 : Class := { plain "com/example/sonde/sonde/engine/Bits" (some 0) with
  accessFlags := 48
  interfaces := #[]
  cf := some (fileOf pool2 8 #[] #[{ accessFlags := 0, nameIndex := 5, descriptorIndex := 6, attributes := #[] }, { accessFlags := 0, nameIndex := 63, descriptorIndex := 64, attributes := #[] }, { accessFlags := 0, nameIndex := 66, descriptorIndex := 19, attributes := #[] }, { accessFlags := 0, nameIndex := 67, descriptorIndex := 19, attributes := #[] }, { accessFlags := 2, nameIndex := 24, descriptorIndex := 19, attributes := #[] }, { accessFlags := 2, nameIndex := 18, descriptorIndex := 19, attributes := #[] }] 48 2 #[] #[{ accessFlags := 2, nameIndex := 11, descriptorIndex := 12, attributes := #[] }, { accessFlags := 2, nameIndex := 15, descriptorIndex := 12, attributes := #[] }])
  fields := #[{ name := "words", type := (.array .long), accessFlags := 2, slot := 0, constantValue := 0 }, { name := "held", type := (.array .long), accessFlags := 2, slot := 1, constantValue := 0 }]
  methods := #[k2m0, k2m1, k2m2, k2m3, k2m4, k2m5]
  instanceTypes := #[(.array .long), (.array .long)]
  staticTypes := #[]
  resolved := Array.replicate 83 none
  statics := none }

def pool3 : Array CpInfo := pool [(1, .class_ 2), (0, u "java/lang/Math"), (1, .class_ 6), (1, u "java/lang/Object"), (0, u "<init>"), (0, u "()V"), (89, .class_ 100), (1, u "java/lang/Math$RandomNumberGeneratorHolder"), (71, u "negativeZeroFloatBits"), (0, u "J"), (2, u "negativeZeroDoubleBits"), (21, u "max"), (2, u "min"), (43, u "$assertionsDisabled"), (0, u "Z"), (88, u "(II)I"), (2, u "twoToTheDoubleScaleDown"), (0, u "D"), (4, u "twoToTheDoubleScaleUp"), (9, u "E"), (3, u "PI"), (2, u "TAU"), (2, u "DEGREES_TO_RADIANS"), (0, u "RADIANS_TO_DEGREES")] 94

def k3m0 : Method := { name := "<init>", desc := "()V", sig := { parameters := [], returnType := none }, accessFlags := 2, code := none }
def k3c1 : Code := { maxStack := 2, maxLocals := 2, code := jdk_29_method_65_code, exceptionTable := #[], attributes := #[] }
def k3m1 : Method := { name := "max", desc := "(II)I", sig := { parameters := [.int, .int], returnType := some .int }, accessFlags := 9, code := some k3c1 }
def k3c2 : Code := { maxStack := 2, maxLocals := 2, code := jdk_29_method_69_code, exceptionTable := #[], attributes := #[] }
def k3m2 : Method := { name := "min", desc := "(II)I", sig := { parameters := [.int, .int], returnType := some .int }, accessFlags := 9, code := some k3c2 }
/-- java/lang/Math -/
def k3 : Class := { plain "java/lang/Math" (some 0) with
  accessFlags := 49
  interfaces := #[]
  cf := some (fileOf pool3 1 #[.nestMembers #[98]] #[{ accessFlags := 2, nameIndex := 7, descriptorIndex := 8, attributes := #[] }, { accessFlags := 9, nameIndex := 198, descriptorIndex := 335, attributes := #[] }, { accessFlags := 9, nameIndex := 201, descriptorIndex := 335, attributes := #[] }] 49 4 #[] #[{ accessFlags := 25, nameIndex := 354, descriptorIndex := 339, attributes := #[] }, { accessFlags := 25, nameIndex := 358, descriptorIndex := 339, attributes := #[] }, { accessFlags := 25, nameIndex := 361, descriptorIndex := 339, attributes := #[] }, { accessFlags := 26, nameIndex := 364, descriptorIndex := 339, attributes := #[] }, { accessFlags := 26, nameIndex := 365, descriptorIndex := 339, attributes := #[] }, { accessFlags := 26, nameIndex := 172, descriptorIndex := 173, attributes := #[] }, { accessFlags := 26, nameIndex := 176, descriptorIndex := 173, attributes := #[] }, { accessFlags := 8, nameIndex := 344, descriptorIndex := 339, attributes := #[] }, { accessFlags := 8, nameIndex := 338, descriptorIndex := 339, attributes := #[] }, { accessFlags := 4120, nameIndex := 245, descriptorIndex := 246, attributes := #[] }])
  fields := #[{ name := "E", type := .double, accessFlags := 25, slot := 0, constantValue := 0 }, { name := "PI", type := .double, accessFlags := 25, slot := 1, constantValue := 0 }, { name := "TAU", type := .double, accessFlags := 25, slot := 2, constantValue := 0 }, { name := "DEGREES_TO_RADIANS", type := .double, accessFlags := 26, slot := 3, constantValue := 0 }, { name := "RADIANS_TO_DEGREES", type := .double, accessFlags := 26, slot := 4, constantValue := 0 }, { name := "negativeZeroFloatBits", type := .long, accessFlags := 26, slot := 5, constantValue := 0 }, { name := "negativeZeroDoubleBits", type := .long, accessFlags := 26, slot := 6, constantValue := 0 }, { name := "twoToTheDoubleScaleUp", type := .double, accessFlags := 8, slot := 7, constantValue := 0 }, { name := "twoToTheDoubleScaleDown", type := .double, accessFlags := 8, slot := 8, constantValue := 0 }, { name := "$assertionsDisabled", type := .boolean, accessFlags := 4120, slot := 9, constantValue := 0 }]
  methods := #[k3m0, k3m1, k3m2]
  instanceTypes := #[]
  staticTypes := #[.double, .double, .double, .double, .double, .long, .long, .double, .double, .boolean]
  resolved := Array.replicate 460 none
  statics := none }

def pool4 : Array CpInfo := pool [(2, .class_ 4), (1, u "java/lang/Object"), (0, u "<init>"), (0, u "()V"), (7, .class_ 16), (1, u "java/util/Arrays"), (57, .class_ 76), (1, u "java/util/Arrays$NaturalOrder"), (32, u "()Ljava/lang/Object;"), (3, .class_ 115), (1, u "java/util/Arrays$LegacyMergeSort"), (1, u "Z"), (10, .nameAndType 129 109), (0, u "clone"), (20, .methodref 151 152), (0, .class_ 153), (0, .nameAndType 154 155), (0, u "java/lang/System"), (0, u "arraycopy"), (0, u "(Ljava/lang/Object;ILjava/lang/Object;II)V"), (146, u "copyOf"), (1, .methodref 305 306), (0, .class_ 307), (0, .nameAndType 308 309), (0, u "java/lang/Math"), (0, u "min"), (0, u "(II)I"), (9, .methodref 320 128), (0, .class_ 321), (0, u "[J"), (53, .class_ 376), (0, u "java/util/Arrays$ArrayList"), (68, u "$assertionsDisabled"), (269, u "MIN_ARRAY_SORT_GRAN"), (0, u "I"), (2, u "INSERTIONSORT_THRESHOLD"), (152, u "([JI)[J"), (102, .class_ 976), (0, u "java/util/Arrays$ArrayItr")] 52

def k4m0 : Method := { name := "<init>", desc := "()V", sig := { parameters := [], returnType := none }, accessFlags := 2, code := none }
def k4c1 : Code := { maxStack := 6, maxLocals := 3, code := jdk_65_method_124_code, exceptionTable := #[], attributes := #[] }
def k4m1 : Method := { name := "copyOf", desc := "([JI)[J", sig := { parameters := [(.array .long), .int], returnType := some (.array .long) }, accessFlags := 9, code := some k4c1 }
/-- java/util/Arrays -/
def k4 : Class := { plain "java/util/Arrays" (some 0) with
  accessFlags := 49
  interfaces := #[]
  cf := some (fileOf pool4 14 #[.nestMembers #[975, 375, 113, 74]] #[{ accessFlags := 2, nameIndex := 5, descriptorIndex := 6, attributes := #[] }, { accessFlags := 9, nameIndex := 302, descriptorIndex := 872, attributes := #[] }] 49 2 #[] #[{ accessFlags := 26, nameIndex := 715, descriptorIndex := 716, attributes := #[] }, { accessFlags := 26, nameIndex := 719, descriptorIndex := 716, attributes := #[] }, { accessFlags := 4120, nameIndex := 445, descriptorIndex := 117, attributes := #[] }])
  fields := #[{ name := "MIN_ARRAY_SORT_GRAN", type := .int, accessFlags := 26, slot := 0, constantValue := 0 }, { name := "INSERTIONSORT_THRESHOLD", type := .int, accessFlags := 26, slot := 1, constantValue := 0 }, { name := "$assertionsDisabled", type := .boolean, accessFlags := 4120, slot := 2, constantValue := 0 }]
  methods := #[k4m0, k4m1]
  instanceTypes := #[]
  staticTypes := #[.int, .int, .boolean]
  resolved := Array.replicate 1029 none
  statics := none }

def pool5 : Array CpInfo := pool [(2, .class_ 4), (1, u "java/lang/Object"), (0, u "<init>"), (0, u "()V"), (1, .class_ 10), (1, u "java/lang/System"), (0, u "allowSecurityManager"), (0, u "I"), (16, u "cons"), (0, u "Ljava/io/Console;"), (77, .class_ 110), (1, u "java/lang/System$CallersHolder"), (43, u "initialErrStream"), (0, u "Ljava/io/PrintStream;"), (19, u "security"), (0, u "Ljava/lang/SecurityManager;"), (31, .class_ 209), (0, u "java/lang/System$1"), (7, u "props"), (0, u "Ljava/util/Properties;"), (2, u "lineSeparator"), (0, u "Ljava/lang/String;"), (96, .class_ 321), (1, u "java/lang/System$LoggerFinder"), (5, .class_ 328), (0, u "java/lang/System$Logger"), (67, u "err"), (2, u "out"), (91, u "notSupportedJnuEncoding"), (15, u "in"), (17, u "initialIn"), (0, u "Ljava/io/InputStream;"), (35, u "bootLayer"), (0, u "Ljava/lang/ModuleLayer;"), (99, .class_ 664), (0, u "java/lang/System$2"), (9, u "NEVER"), (2, u "MAYBE"), (49, u "arraycopy"), (0, u "(Ljava/lang/Object;ILjava/lang/Object;II)V"), (72, .class_ 802), (0, u "java/lang/System$Logger$Level")] 31

def k5m0 : Method := { name := "<init>", desc := "()V", sig := { parameters := [], returnType := none }, accessFlags := 2, code := none }
def k5m1 : Method := { name := "arraycopy", desc := "(Ljava/lang/Object;ILjava/lang/Object;II)V", sig := { parameters := [(.object "java/lang/Object"), .int, (.object "java/lang/Object"), .int, .int], returnType := none }, accessFlags := 265, code := none }
/-- java/lang/System -/
def k5 : Class := { plain "java/lang/System" (some 0) with
  accessFlags := 49
  interfaces := #[]
  cf := some (fileOf pool5 8 #[.nestMembers #[319, 327, 801, 108, 663, 208]] #[{ accessFlags := 2, nameIndex := 5, descriptorIndex := 6, attributes := #[] }, { accessFlags := 265, nameIndex := 727, descriptorIndex := 728, attributes := #[] }] 49 2 #[] #[{ accessFlags := 25, nameIndex := 507, descriptorIndex := 526, attributes := #[] }, { accessFlags := 25, nameIndex := 399, descriptorIndex := 155, attributes := #[] }, { accessFlags := 25, nameIndex := 396, descriptorIndex := 155, attributes := #[] }, { accessFlags := 10, nameIndex := 525, descriptorIndex := 526, attributes := #[] }, { accessFlags := 26, nameIndex := 674, descriptorIndex := 12, attributes := #[] }, { accessFlags := 26, nameIndex := 677, descriptorIndex := 12, attributes := #[] }, { accessFlags := 10, nameIndex := 11, descriptorIndex := 12, attributes := #[] }, { accessFlags := 74, nameIndex := 175, descriptorIndex := 176, attributes := #[] }, { accessFlags := 10, nameIndex := 491, descriptorIndex := 222, attributes := #[] }, { accessFlags := 74, nameIndex := 29, descriptorIndex := 30, attributes := #[] }, { accessFlags := 74, nameIndex := 154, descriptorIndex := 155, attributes := #[] }, { accessFlags := 10, nameIndex := 217, descriptorIndex := 218, attributes := #[] }, { accessFlags := 10, nameIndex := 221, descriptorIndex := 222, attributes := #[] }, { accessFlags := 8, nameIndex := 562, descriptorIndex := 563, attributes := #[] }])
  fields := #[{ name := "in", type := (.object "java/io/InputStream"), accessFlags := 25, slot := 0, constantValue := 0 }, { name := "out", type := (.object "java/io/PrintStream"), accessFlags := 25, slot := 1, constantValue := 0 }, { name := "err", type := (.object "java/io/PrintStream"), accessFlags := 25, slot := 2, constantValue := 0 }, { name := "initialIn", type := (.object "java/io/InputStream"), accessFlags := 10, slot := 3, constantValue := 0 }, { name := "NEVER", type := .int, accessFlags := 26, slot := 4, constantValue := 0 }, { name := "MAYBE", type := .int, accessFlags := 26, slot := 5, constantValue := 0 }, { name := "allowSecurityManager", type := .int, accessFlags := 10, slot := 6, constantValue := 0 }, { name := "security", type := (.object "java/lang/SecurityManager"), accessFlags := 74, slot := 7, constantValue := 0 }, { name := "notSupportedJnuEncoding", type := (.object "java/lang/String"), accessFlags := 10, slot := 8, constantValue := 0 }, { name := "cons", type := (.object "java/io/Console"), accessFlags := 74, slot := 9, constantValue := 0 }, { name := "initialErrStream", type := (.object "java/io/PrintStream"), accessFlags := 74, slot := 10, constantValue := 0 }, { name := "props", type := (.object "java/util/Properties"), accessFlags := 10, slot := 11, constantValue := 0 }, { name := "lineSeparator", type := (.object "java/lang/String"), accessFlags := 10, slot := 12, constantValue := 0 }, { name := "bootLayer", type := (.object "java/lang/ModuleLayer"), accessFlags := 8, slot := 13, constantValue := 0 }]
  methods := #[k5m0, k5m1]
  instanceTypes := #[]
  staticTypes := #[(.object "java/io/InputStream"), (.object "java/io/PrintStream"), (.object "java/io/PrintStream"), (.object "java/io/InputStream"), .int, .int, .int, (.object "java/lang/SecurityManager"), (.object "java/lang/String"), (.object "java/io/Console"), (.object "java/io/PrintStream"), (.object "java/util/Properties"), (.object "java/lang/String"), (.object "java/lang/ModuleLayer")]
  resolved := Array.replicate 834 none
  statics := none }

def pool6 : Array CpInfo := pool [(1, .class_ 2), (0, u "java/lang/Cloneable"), (0, .class_ 4), (0, u "java/lang/Object")] 2

/-- java/lang/Cloneable -/
def k6 : Class := { plain "java/lang/Cloneable" (some 0) with
  accessFlags := 1537
  interfaces := #[]
  cf := some (fileOf pool6 1 #[] #[] 1537 3 #[] #[])
  fields := #[]
  methods := #[]
  instanceTypes := #[]
  staticTypes := #[]
  resolved := Array.replicate 7 none
  statics := none }

def pool7 : Array CpInfo := pool [(1, u "java/io/Serializable"), (0, .class_ 1), (0, u "java/lang/Object"), (0, .class_ 3)] 3

/-- java/io/Serializable -/
def k7 : Class := { plain "java/io/Serializable" (some 0) with
  accessFlags := 1537
  interfaces := #[]
  cf := some (fileOf pool7 2 #[] #[] 1537 4 #[] #[])
  fields := #[]
  methods := #[]
  instanceTypes := #[]
  staticTypes := #[]
  resolved := Array.replicate 8 none
  statics := none }

/-- the primitive byte -/
def k8 : Class := { plain "byte" none with kind := .primitive 'B', accessFlags := 0x411 }
/-- [B -/
def k9 : Class := { plain "[B" (some 0) with kind := .array 8 .byte, interfaces := #[6, 7], accessFlags := 1041 }

/-- the primitive int -/
def k10 : Class := { plain "int" none with kind := .primitive 'I', accessFlags := 0x411 }
/-- [I -/
def k11 : Class := { plain "[I" (some 0) with kind := .array 10 .int, interfaces := #[6, 7], accessFlags := 1041 }

/-- the primitive long -/
def k12 : Class := { plain "long" none with kind := .primitive 'J', accessFlags := 0x411 }
/-- [J -/
def k13 : Class := { plain "[J" (some 0) with kind := .array 12 .long, interfaces := #[6, 7], accessFlags := 1041 }

def heap : Heap := #[]
def classes : Array Class := #[k0, k1, k2, k3, k4, k5, k6, k7, k8, k9, k10, k11, k12, k13]
def interned : List (Array UInt16 × Addr) := []
def slotsUsed : Nat := 0
def theMethod : MethodId := ⟨1, 2⟩
def args0 : Array Value := #[.int 5, .int 100, .int 5, .int 7, .int 3]
def aboutOver (below : List Frame) : State where
  vm := { classes := classes, interned := interned.toArray }
  heap := heap
  slotsUsed := slotsUsed
  threads := #[{ frames := .invoking theMethod args0 :: below }]
def below0 : List Frame := [.native { method := ⟨0, 0⟩, args := #[] }]
def about1 : State := aboutOver below0
def p0 : Program := .bare "" "" ""
def e0 : Env := launch0.env 0 0 0
theorem w_frames : about1.frames = Frame.invoking theMethod args0 :: below0 := rfl
set_option maxRecDepth 65536 in
theorem w_args : argsFit about1.vm theMethod args0 = true := by decide +kernel
set_option maxRecDepth 65536 in
theorem w_heap : heapFits about1 = true := by decide +kernel
set_option maxRecDepth 65536 in
theorem w_runnable : about1.curStatus? = some .runnable := by decide +kernel
set_option maxRecDepth 65536 in
theorem w_alone : about1.alone = true := by decide +kernel
set_option maxRecDepth 65536 in
theorem w_named : about1.methodNamed? x = some theMethod := by decide +kernel
set_option maxRecDepth 65536 in
theorem w_hears : about1.hears theMethod below0 = true := by decide +kernel
set_option maxRecDepth 65536 in
theorem w_ripe : about1.ripe theMethod args0 below0 = true := by decide +kernel
theorem w_running : about1.status = .running := rfl
set_option maxRecDepth 65536 in
theorem w_room : about1.hasRoom e0.platform room_1 = true :=
  launch0.hasRoom_least _ room_1 (by decide +kernel) (by decide +kernel) (by decide +kernel) (by decide +kernel) (by decide +kernel) (by decide +kernel)
theorem allAtoms_all (ts : List Jvm.Cond) (a : Array Jvm.Value) (st : Jvm.State) : (allAtoms ts).before a st = ts.all (fun c => c.before a st) := by
  induction ts with
  | nil => rfl
  | cons c t ih =>
    show (Jvm.Cond.and c (allAtoms t)).before a st = _
    rw [Jvm.Cond.before_and, ih, List.all_cons]
def words1 : List Jvm.Cond := Jvm.Cond.code x code maxLocals ret :: tables_1
/-- a 'code' word, met by the world's own term for the bytes: nothing is compared byte by byte -/
theorem code_word {y : MethodName} {bytes : ByteArray} {mx : Nat} {rt : Option FieldType} {a : Array Value} {s : State} {m : MethodId} {meth : Method} {c : Code} (h1 : s.methodNamed? y = some m) (h2 : s.vm.method? m = some meth) (h3 : meth.code = some c) (h4 : c.code = bytes)
    (h5 : (c.maxLocals == mx && c.exceptionTable.isEmpty && decide (c.maxStack ≤ mostOperands) && decide (meth.sig.returnType = rt) && !meth.locks && decide (parseMethodDescriptor y.desc = some meth.sig)) = true) : (Jvm.Cond.code y bytes mx rt).before a s = true := by
  simp only [Bool.and_eq_true, beq_iff_eq, Bool.not_eq_true', decide_eq_true_eq] at h5
  obtain ⟨⟨⟨⟨⟨g1, g2⟩, g3⟩, g4⟩, g5⟩, g6⟩ := h5
  simp [Cond.before, Cond.holds, Cond.value, h1, h2, h3, h4, g1, g2, g3, g4, g5, g6]
def isCode : Jvm.Cond → Bool
  | .code _ _ _ _ => true
  | _ => false
theorem all_split {L : List Jvm.Cond} {P : Jvm.Cond → Bool} (h1 : L.all (fun c => isCode c || P c) = true) (h2 : ∀ c ∈ L.filter isCode, P c = true) : L.all P = true := by
  refine List.all_eq_true.mpr fun c hc => ?_
  have h := List.all_eq_true.mp h1 c hc
  rcases Bool.eq_false_or_eq_true (isCode c) with hi | hi
  · exact h2 c (List.mem_filter.mpr ⟨hc, hi⟩)
  · simpa [hi] using h
set_option maxRecDepth 65536 in
theorem w_c0 : (Jvm.Cond.code x code maxLocals ret).before args0 about1 = true := code_word (m := ⟨1, 2⟩) (meth := k1m2) (c := k1c2) (by decide +kernel) rfl rfl rfl (by decide +kernel)
set_option maxRecDepth 65536 in
theorem w_c1 : (Jvm.Cond.code ({ cls := "com/example/sonde/sonde/engine/Bits", name := "<init>", desc := "()V" } : Jvm.MethodName) prog_100_method_1_code (1 : Nat) (Option.none : Option Jvm.ClassFile.FieldType)).before args0 about1 = true := code_word (m := ⟨2, 0⟩) (meth := k2m0) (c := k2c0) (by decide +kernel) rfl rfl rfl (by decide +kernel)
set_option maxRecDepth 65536 in
theorem w_c2 : (Jvm.Cond.code ({ cls := "java/lang/Object", name := "<init>", desc := "()V" } : Jvm.MethodName) object_method_1_code (1 : Nat) (Option.none : Option Jvm.ClassFile.FieldType)).before args0 about1 = true := code_word (m := ⟨0, 0⟩) (meth := k0m0) (c := k0c0) (by decide +kernel) rfl rfl rfl (by decide +kernel)
set_option maxRecDepth 65536 in
theorem w_c3 : (Jvm.Cond.code ({ cls := "com/example/sonde/sonde/engine/Bits", name := "set", desc := "(I)V" } : Jvm.MethodName) prog_100_method_3_code (3 : Nat) (Option.none : Option Jvm.ClassFile.FieldType)).before args0 about1 = true := code_word (m := ⟨2, 2⟩) (meth := k2m2) (c := k2c2) (by decide +kernel) rfl rfl rfl (by decide +kernel)
set_option maxRecDepth 65536 in
theorem w_c4 : (Jvm.Cond.code ({ cls := "com/example/sonde/sonde/engine/Bits", name := "roomFor", desc := "(I)V" } : Jvm.MethodName) prog_100_method_15_code (2 : Nat) (Option.none : Option Jvm.ClassFile.FieldType)).before args0 about1 = true := code_word (m := ⟨2, 5⟩) (meth := k2m5) (c := k2c5) (by decide +kernel) rfl rfl rfl (by decide +kernel)
set_option maxRecDepth 65536 in
theorem w_c5 : (Jvm.Cond.code ({ cls := "com/example/sonde/sonde/engine/Bits", name := "get", desc := "(I)Z" } : Jvm.MethodName) prog_100_method_2_code (3 : Nat) (Option.some Jvm.ClassFile.FieldType.boolean)).before args0 about1 = true := code_word (m := ⟨2, 1⟩) (meth := k2m1) (c := k2c1) (by decide +kernel) rfl rfl rfl (by decide +kernel)
set_option maxRecDepth 65536 in
theorem w_c6 : (Jvm.Cond.code ({ cls := "com/example/sonde/sonde/engine/BitsGetPinLaw", name := "expected", desc := "(IIZIZI)Z" } : Jvm.MethodName) method_2_code (7 : Nat) (Option.some Jvm.ClassFile.FieldType.boolean)).before args0 about1 = true := code_word (m := ⟨1, 1⟩) (meth := k1m1) (c := k1c1) (by decide +kernel) rfl rfl rfl (by decide +kernel)
set_option maxRecDepth 65536 in
theorem w_c7 : (Jvm.Cond.code ({ cls := "com/example/sonde/sonde/engine/Bits", name := "clear", desc := "(I)V" } : Jvm.MethodName) prog_100_method_4_code (3 : Nat) (Option.none : Option Jvm.ClassFile.FieldType)).before args0 about1 = true := code_word (m := ⟨2, 3⟩) (meth := k2m3) (c := k2c3) (by decide +kernel) rfl rfl rfl (by decide +kernel)
set_option maxRecDepth 65536 in
theorem w_c8 : (Jvm.Cond.code ({ cls := "com/example/sonde/sonde/engine/Bits", name := "note", desc := "(I)V" } : Jvm.MethodName) prog_100_method_14_code (2 : Nat) (Option.none : Option Jvm.ClassFile.FieldType)).before args0 about1 = true := code_word (m := ⟨2, 4⟩) (meth := k2m4) (c := k2c4) (by decide +kernel) rfl rfl rfl (by decide +kernel)
set_option maxRecDepth 65536 in
theorem w_c9 : (Jvm.Cond.code ({ cls := "java/lang/Math", name := "max", desc := "(II)I" } : Jvm.MethodName) jdk_29_method_65_code (2 : Nat) (Option.some Jvm.ClassFile.FieldType.int)).before args0 about1 = true := code_word (m := ⟨3, 1⟩) (meth := k3m1) (c := k3c1) (by decide +kernel) rfl rfl rfl (by decide +kernel)
set_option maxRecDepth 65536 in
theorem w_c10 : (Jvm.Cond.code ({ cls := "java/util/Arrays", name := "copyOf", desc := "([JI)[J" } : Jvm.MethodName) jdk_65_method_124_code (3 : Nat) (Option.some (Jvm.ClassFile.FieldType.array Jvm.ClassFile.FieldType.long))).before args0 about1 = true := code_word (m := ⟨4, 1⟩) (meth := k4m1) (c := k4c1) (by decide +kernel) rfl rfl rfl (by decide +kernel)
set_option maxRecDepth 65536 in
theorem w_c11 : (Jvm.Cond.code ({ cls := "java/lang/Math", name := "min", desc := "(II)I" } : Jvm.MethodName) jdk_29_method_69_code (2 : Nat) (Option.some Jvm.ClassFile.FieldType.int)).before args0 about1 = true := code_word (m := ⟨3, 2⟩) (meth := k3m2) (c := k3c2) (by decide +kernel) rfl rfl rfl (by decide +kernel)
def codes1 : List Jvm.Cond := [Jvm.Cond.code x code maxLocals ret, Jvm.Cond.code ({ cls := "com/example/sonde/sonde/engine/Bits", name := "<init>", desc := "()V" } : Jvm.MethodName) prog_100_method_1_code (1 : Nat) (Option.none : Option Jvm.ClassFile.FieldType), Jvm.Cond.code ({ cls := "java/lang/Object", name := "<init>", desc := "()V" } : Jvm.MethodName) object_method_1_code (1 : Nat) (Option.none : Option Jvm.ClassFile.FieldType), Jvm.Cond.code ({ cls := "com/example/sonde/sonde/engine/Bits", name := "set", desc := "(I)V" } : Jvm.MethodName) prog_100_method_3_code (3 : Nat) (Option.none : Option Jvm.ClassFile.FieldType), Jvm.Cond.code ({ cls := "com/example/sonde/sonde/engine/Bits", name := "roomFor", desc := "(I)V" } : Jvm.MethodName) prog_100_method_15_code (2 : Nat) (Option.none : Option Jvm.ClassFile.FieldType), Jvm.Cond.code ({ cls := "com/example/sonde/sonde/engine/Bits", name := "get", desc := "(I)Z" } : Jvm.MethodName) prog_100_method_2_code (3 : Nat) (Option.some Jvm.ClassFile.FieldType.boolean), Jvm.Cond.code ({ cls := "com/example/sonde/sonde/engine/BitsGetPinLaw", name := "expected", desc := "(IIZIZI)Z" } : Jvm.MethodName) method_2_code (7 : Nat) (Option.some Jvm.ClassFile.FieldType.boolean), Jvm.Cond.code ({ cls := "com/example/sonde/sonde/engine/Bits", name := "clear", desc := "(I)V" } : Jvm.MethodName) prog_100_method_4_code (3 : Nat) (Option.none : Option Jvm.ClassFile.FieldType), Jvm.Cond.code ({ cls := "com/example/sonde/sonde/engine/Bits", name := "note", desc := "(I)V" } : Jvm.MethodName) prog_100_method_14_code (2 : Nat) (Option.none : Option Jvm.ClassFile.FieldType), Jvm.Cond.code ({ cls := "java/lang/Math", name := "max", desc := "(II)I" } : Jvm.MethodName) jdk_29_method_65_code (2 : Nat) (Option.some Jvm.ClassFile.FieldType.int), Jvm.Cond.code ({ cls := "java/util/Arrays", name := "copyOf", desc := "([JI)[J" } : Jvm.MethodName) jdk_65_method_124_code (3 : Nat) (Option.some (Jvm.ClassFile.FieldType.array Jvm.ClassFile.FieldType.long)), Jvm.Cond.code ({ cls := "java/lang/Math", name := "min", desc := "(II)I" } : Jvm.MethodName) jdk_29_method_69_code (2 : Nat) (Option.some Jvm.ClassFile.FieldType.int)]
set_option maxRecDepth 65536 in
theorem codes_eq : words1.filter isCode = codes1 := rfl
theorem w_codes : ∀ c ∈ words1.filter isCode, c.before args0 about1 = true := by
  rw [codes_eq]
  intro c hc
  simp only [codes1, List.mem_cons, List.not_mem_nil, or_false] at hc
  rcases hc with rfl | rfl | rfl | rfl | rfl | rfl | rfl | rfl | rfl | rfl | rfl | rfl
  · exact w_c0
  · exact w_c1
  · exact w_c2
  · exact w_c3
  · exact w_c4
  · exact w_c5
  · exact w_c6
  · exact w_c7
  · exact w_c8
  · exact w_c9
  · exact w_c10
  · exact w_c11
set_option maxRecDepth 65536 in
theorem w_t1 : (words1.take 24).all (fun c => isCode c || c.before args0 about1) = true := by decide +kernel
set_option maxRecDepth 65536 in
theorem w_t2 : ((words1.drop 24).take 24).all (fun c => isCode c || c.before args0 about1) = true := by decide +kernel
set_option maxRecDepth 65536 in
theorem w_t3 : ((words1.drop 24).drop 24).all (fun c => isCode c || c.before args0 about1) = true := by decide +kernel
theorem w_tables : (allAtoms (Jvm.Cond.code x code maxLocals ret :: tables_1)).before args0 about1 = true := by
  rw [allAtoms_all]
  show words1.all (fun c => c.before args0 about1) = true
  refine all_split ?_ w_codes
  rw [← List.take_append_drop 24 words1, List.all_append, w_t1, ← List.take_append_drop 24 (words1.drop 24), List.all_append, w_t2, w_t3]
  rfl
set_option maxRecDepth 65536 in
theorem w_case : (Jvm.Cond.and given_1 narrow_1).before args0 about1 = true := by decide +kernel
theorem w_applies : (headSpec (Jvm.Cond.code x code maxLocals ret :: tables_1) room_1).applies x e0.platform about1 = true :=
  (Spec.applies_iff w_frames).mpr ⟨w_running, w_runnable, w_alone, w_named, w_hears, w_ripe, w_room, w_tables⟩
theorem atStart : AtStart classFile x code maxLocals ret World_1 tables_1 room_1 Calls_1 rest_1 Pre_1 launch0 p0 e0 about1 theMethod args0 below0 :=
  ⟨lists_1, trivial, launch0.admits_env _ _ _, launch0.least_env, fairChoices_fair.cas, fairChoices_fair.clock, w_frames, w_args, w_heap, w_applies, trivial, trivial, w_case⟩
end start1
theorem witness_1 : WitnessClaimed_1 := ⟨start1.p0, start1.e0, start1.about1, start1.theMethod, start1.args0, start1.below0, start1.atStart⟩
end Jvm.Pilot.@@N@@
