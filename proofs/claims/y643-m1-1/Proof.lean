import JvmDerived
import JvmDerived.Pilot.@@N@@Statement
import JvmDerived.Pilot.@@N@@Code
set_option linter.unusedVariables false
set_option linter.unusedSimpArgs false
@@BLOCK:LamKit.lean.txt@@
namespace Jvm.Pilot.@@N@@
open Jvm Jvm.ClassFile Sem Op Lib Jvm.Free Jvm.Stand Jvm.LawKit Jvm.RoadKit Bundle Jvm.Pilot.@@N@@.Jvm.D
section OwnGo
/-! a run that comes to its end: what a body's walk owes, of any state on the way -/
def own_Go (tb : Tables) (e : Env) (below : List Frame) (Q : Outcome → State → Prop) (U : State) : Prop := ∃ s₂ o, Steps tb e below U s₂ ∧ s₂.status = .running ∧ Ended s₂ below o ∧ Q o s₂
theorem own_by {tb : Tables} {e : Env} {below : List Frame} {Q : Outcome → State → Prop} {U V : State} (h : ∀ t, Steps tb e below V t → Steps tb e below U t) (k : own_Go tb e below Q V) : own_Go tb e below Q U := by
  obtain ⟨s2, o, h1, h2⟩ := k; exact ⟨s2, o, h _ h1, h2⟩
theorem own_tr {tb : Tables} {e : Env} {below : List Frame} {Q : Outcome → State → Prop} {U V : State} (h : Steps tb e below U V) (k : own_Go tb e below Q V) : own_Go tb e below Q U := own_by (fun _ q => h.trans q) k
theorem own_gen {α : Type} {x y : α} (h : x = y) {tb : Tables} {e : Env} {below : List Frame} {Q : Outcome → State → Prop} (F : α → State) (k : own_Go tb e below Q (F y)) : own_Go tb e below Q (F x) := h ▸ k
def own_ap (f : Option Value → Heap → List Loc → Prop) (v : Option Value) (h : Heap) (L : List Loc) : Prop := f v h L
/-- what a body's contract says of its end -/
def own_Q (s : State) (Qh : Option Value → Heap → List Loc → Prop) (C S : Nat) (o : Outcome) (U' : State) : Prop := ∃ v L, o = .returned v ∧ Qh v U'.heap L ∧ FrameEnd s o U' L C S
variable {p : Program} {l : Launch} {e : Env} {R : Room} {s : State} {m : MethodId} {args : Array Value} {below : List Frame} {meth : Method} {c : Code} {T : State} {locs : List Loc} {cells slots : Nat} {Z : State} {h : Heap} {a : Addr} {pc : Nat} {Ls : Array Slot} {rest : List Value} {Qh : Option Value → Heap → List Loc → Prop} {C S : Nat} {Q : Outcome → State → Prop}
theorem own_leave (X : Stand p l e R s m args below meth c T locs cells slots) (hlk : meth.locks = false) {v : Option Value} (hv : meth.sig.returnType = none → v = none) {f : JFrame}
    (hst : ∀ fs, (∀ (f : JFrame) (acts : List Action), f.method = m → f.locked = none → f.entered = [] → (doReturn e (T.setTop f) acts v).1 = T.setFrames fs) → Steps p.tables e below (T.setTop f) (T.setFrames fs))
    (hq : Qh v T.heap locs) (hC : cells ≤ C) (hS : slots ≤ S) : own_Go p.tables e below (own_Q s Qh C S) (T.setTop f) := by
  obtain ⟨fs, hr, hrun, hended, hW, hsame⟩ := X.leave (v := v) hv hlk
  exact ⟨_, _, hst fs hr, hrun, hended, _, _, rfl, hq, ⟨_, rfl⟩, hW, hsame.mono hC hS⟩
theorem own_retI (X : Stand p l e R s m args below meth c T locs cells slots) (hx : p.tables.exec = Jvm.exec) (hlk : meth.locks = false) (eT : T.heap = h) (hret : meth.sig.returnType = some .int) {z : Int32} (hd : decode c.code pc = .ok (.ireturn, 1))
    (hq : Qh (some (.int z)) h locs) (hC : cells ≤ C) (hS : slots ≤ S) : own_Go p.tables e below (own_Q s Qh C S) (T.setTop (mkF m pc Ls (.int z :: rest))) :=
  own_leave X hlk (v := some (.int z)) (fun q => by rw [hret] at q; cases q) (fun fs hr => retOut X hx hret rfl (Or.inl ⟨rfl, Or.inl rfl, z, rfl⟩) hd hr) (eT ▸ hq) hC hS
theorem own_retN (X : Stand p l e R s m args below meth c T locs cells slots) (hx : p.tables.exec = Jvm.exec) (hlk : meth.locks = false) (eT : T.heap = h) {t : FieldType} (hret : meth.sig.returnType = some t) (ht : t = .boolean ∨ t = .byte ∨ t = .char ∨ t = .short) {z : Int32} (hd : decode c.code pc = .ok (.ireturn, 1))
    (hq : Qh (some (.int (nar t z))) h locs) (hC : cells ≤ C) (hS : slots ≤ S) : own_Go p.tables e below (own_Q s Qh C S) (T.setTop (mkF m pc Ls (.int z :: rest))) :=
  own_leave X hlk (v := some (.int (nar t z))) (fun q => by rw [hret] at q; cases q) (fun fs hr => retN X hx hret ht hd hr) (eT ▸ hq) hC hS
theorem own_retJ (X : Stand p l e R s m args below meth c T locs cells slots) (hx : p.tables.exec = Jvm.exec) (hlk : meth.locks = false) (eT : T.heap = h) (hret : meth.sig.returnType = some .long) {z : Int64} (hd : decode c.code pc = .ok (.lreturn, 1))
    (hq : Qh (some (.long z)) h locs) (hC : cells ≤ C) (hS : slots ≤ S) : own_Go p.tables e below (own_Q s Qh C S) (T.setTop (mkF m pc Ls (.long z :: rest))) :=
  own_leave X hlk (v := some (.long z)) (fun q => by rw [hret] at q; cases q) (fun fs hr => retOut X hx hret rfl (Or.inr (Or.inl ⟨rfl, rfl, z, rfl⟩)) hd hr) (eT ▸ hq) hC hS
theorem own_retA (X : Stand p l e R s m args below meth c T locs cells slots) (hx : p.tables.exec = Jvm.exec) (hlk : meth.locks = false) (eT : T.heap = h) {t : FieldType} (hret : meth.sig.returnType = some t) (ht : t.isReference = true) {w : Value} (hn : narrow t w = w) (hw : w.isRef = true) (hd : decode c.code pc = .ok (.areturn, 1))
    (hq : Qh (some w) h locs) (hC : cells ≤ C) (hS : slots ≤ S) : own_Go p.tables e below (own_Q s Qh C S) (T.setTop (mkF m pc Ls (w :: rest))) :=
  own_leave X hlk (v := some w) (fun q => by rw [hret] at q; cases q) (fun fs hr => retOut X hx hret hn (Or.inr (Or.inr (Or.inr (Or.inr ⟨rfl, ht, hw⟩)))) hd hr) (eT ▸ hq) hC hS
theorem own_retV (X : Stand p l e R s m args below meth c T locs cells slots) (hx : p.tables.exec = Jvm.exec) (hlk : meth.locks = false) (eT : T.heap = h) (hret : meth.sig.returnType = none) (hd : decode c.code pc = .ok (.return_, 1))
    (hq : Qh none h locs) (hC : cells ≤ C) (hS : slots ≤ S) : own_Go p.tables e below (own_Q s Qh C S) (T.setTop (mkF m pc Ls [])) :=
  own_leave X hlk (v := none) (fun _ => rfl) (fun fs hr => X.returnOut hx hret hd hr) (eT ▸ hq) hC hS
/-! an array by its places -/
def own_upd {α : Type} (f : Nat → α) (k : Nat) (v : α) : Nat → α := fun j => if j = k then v else f j
theorem own_upd_eq {α : Type} (f : Nat → α) (k : Nat) (v : α) : own_upd f k v k = v := by simp [own_upd]
theorem own_upd_ne {α : Type} (f : Nat → α) {k j : Nat} (v : α) (q : j ≠ k) : own_upd f k v j = f j := by simp [own_upd, q]
def own_Ar (Z : State) (h : Heap) (a : Addr) (ty : FieldType) (n : Nat) (f : Nat → Value) : Prop := ∃ cl : Cell, Arr Z h a cl ty ∧ cl.slots.size = n ∧ ∀ j, j < n → cl.slots[j]? = some (f j)
/-- ints and what is kept as ints -/
abbrev own_AI (Z : State) (h : Heap) (a : Addr) (ty : FieldType) (n : Nat) (f : Nat → Int32) : Prop := own_Ar Z h a ty n (fun j => .int (f j))
abbrev own_AJ (Z : State) (h : Heap) (a : Addr) (n : Nat) (f : Nat → Int64) : Prop := own_Ar Z h a .long n (fun j => .long (f j))
section
variable {h' : Heap} {b : Addr} {ty : FieldType} {n : Nat} {f : Nat → Value} {v : Value} {sl : Nat} {ws : List Addr}
theorem own_Ar.lt (A : own_Ar Z h a ty n f) : a < h.size := by obtain ⟨cl, q, -⟩ := A; exact q.lt
theorem own_Ar.ext (A : own_Ar Z h a ty n f) (E : Ext h h') : own_Ar Z h' a ty n f := by obtain ⟨cl, q, r⟩ := A; exact ⟨cl, q.ext E, r⟩
theorem own_Ar.other (A : own_Ar Z h a ty n f) (W : Wr h h' b sl v) (q : a ≠ b) : own_Ar Z h' a ty n f := by obtain ⟨cl, r, r'⟩ := A; exact ⟨cl, r.other W q, r'⟩
theorem own_Ar.keep (A : own_Ar Z h a ty n f) (K : Keep h h' ws) (q : a ∉ ws) : own_Ar Z h' a ty n f := by obtain ⟨cl, r, r'⟩ := A; exact ⟨cl, ⟨K.2.1 _ _ r.1 q, r.2⟩, r'⟩
theorem own_Ar.congr (A : own_Ar Z h a ty n f) {g : Nat → Value} (q : ∀ j, j < n → f j = g j) : own_Ar Z h a ty n g := by obtain ⟨cl, r, r1, r2⟩ := A; exact ⟨cl, r, r1, fun j hj => by rw [r2 j hj, q j hj]⟩
theorem own_in {j : Int32} {k n : Nat} (hk : j.toInt = (k : Int)) (hn : k < n) {cl : Cell} (S : cl.slots.size = n) : ¬ (j < 0 ∨ cl.slots.size ≤ j.toNatClampNeg) ∧ j.toNatClampNeg = k := by
  have q : j.toNatClampNeg = k := by simp [Int32.toNatClampNeg, hk]
  refine ⟨fun r => ?_, q⟩
  rcases r with r | r
  · rw [Int32.lt_iff_toInt_lt] at r; simp only [Int32.reduceToInt] at r; omega
  · omega
theorem own_Ar.set (A : own_Ar Z h a ty n f) {k : Nat} (hk : k < n) (W : Wr h h' a k v) : own_Ar Z h' a ty n (own_upd f k v) := by
  obtain ⟨cl, r, r1, r2⟩ := A
  refine ⟨_, r.same W, by rw [sz_set]; exact r1, fun j hj => ?_⟩
  show (cl.slots.setIfInBounds k v)[j]? = _
  by_cases q : j = k
  · subst q; simp [own_upd, r1, hj]
  · rw [Array.getElem?_setIfInBounds_ne (fun y => q y.symm), r2 j hj, own_upd_ne _ _ q]
end
theorem own_bal (X : Stand p l e R s m args below meth c T locs cells slots) (hx : p.tables.exec = Jvm.exec) (hZ : Z.Warmed39 s.vm) (eT : T.heap = h) {n : Nat} {f : Nat → Value} (A : own_Ar Z h a .byte n f) {j : Int32} (k : Nat) (hk : j.toInt = (k : Int)) (hn : k < n) (hd : decode c.code pc = .ok (.baload, 1)) {t : State}
    (kt : Steps p.tables e below (T.setTop (mkF m (pc + 1) Ls (f k :: rest))) t) : Steps p.tables e below (T.setTop (mkF m pc Ls (.int j :: .ref a :: rest))) t := by
  obtain ⟨cl, r, r1, r2⟩ := A
  obtain ⟨q1, q2⟩ := own_in hk hn r1
  exact X.baloadBytes hx (j := j) (v := f k) (by rw [eT]; exact r.1) (State.isArrayOf_alike hZ.alike r.2.1) r.2.2 q1 (by rw [q2]; exact r2 k hn) (g := mkF m pc Ls (.int j :: .ref a :: rest)) rfl rfl hd _ kt
theorem own_ial (X : Stand p l e R s m args below meth c T locs cells slots) (hx : p.tables.exec = Jvm.exec) (hZ : Z.Warmed39 s.vm) (eT : T.heap = h) {n : Nat} {f : Nat → Value} (A : own_Ar Z h a .int n f) {j : Int32} (k : Nat) (hk : j.toInt = (k : Int)) (hn : k < n) (hd : decode c.code pc = .ok (.iaload, 1)) {t : State}
    (kt : Steps p.tables e below (T.setTop (mkF m (pc + 1) Ls (f k :: rest))) t) : Steps p.tables e below (T.setTop (mkF m pc Ls (.int j :: .ref a :: rest))) t := by
  obtain ⟨cl, r, r1, r2⟩ := A
  obtain ⟨q1, q2⟩ := own_in hk hn r1
  exact X.iaload hx (j := j) (v := f k) (by rw [eT]; exact r.1) (State.isArrayOf_alike hZ.alike r.2.1) r.2.2 q1 (by rw [q2]; exact r2 k hn) (g := mkF m pc Ls (.int j :: .ref a :: rest)) rfl rfl hd _ kt
theorem own_lal (X : Stand p l e R s m args below meth c T locs cells slots) (hx : p.tables.exec = Jvm.exec) (hZ : Z.Warmed39 s.vm) (eT : T.heap = h) {n : Nat} {f : Nat → Value} (A : own_Ar Z h a .long n f) {j : Int32} (k : Nat) (hk : j.toInt = (k : Int)) (hn : k < n) (hd : decode c.code pc = .ok (.laload, 1)) {t : State}
    (kt : Steps p.tables e below (T.setTop (mkF m (pc + 1) Ls (f k :: rest))) t) : Steps p.tables e below (T.setTop (mkF m pc Ls (.int j :: .ref a :: rest))) t := by
  obtain ⟨cl, r, r1, r2⟩ := A
  obtain ⟨q1, q2⟩ := own_in hk hn r1
  exact X.laload hx (j := j) (v := f k) (by rw [eT]; exact r.1) (State.isArrayOf_alike hZ.alike r.2.1) r.2.2 q1 (by rw [q2]; exact r2 k hn) (g := mkF m pc Ls (.int j :: .ref a :: rest)) rfl rfl hd _ kt
theorem own_len (X : Stand p l e R s m args below meth c T locs cells slots) (hx : p.tables.exec = Jvm.exec) (hZ : Z.Warmed39 s.vm) (eT : T.heap = h) {ty : FieldType} {n : Nat} {f : Nat → Value} (A : own_Ar Z h a ty n f) (z : Int32) (hz : z = n.toInt32) (hd : decode c.code pc = .ok (.arraylength, 1)) {t : State}
    (kt : Steps p.tables e below (T.setTop (mkF m (pc + 1) Ls (.int z :: rest))) t) : Steps p.tables e below (T.setTop (mkF m pc Ls (.ref a :: rest))) t := by
  obtain ⟨cl, r, r1, r2⟩ := A
  refine X.arraylength hx (by rw [eT]; exact r.1) (State.isArrayOf_alike hZ.alike r.2.1) (g := mkF m pc Ls (.ref a :: rest)) rfl rfl hd _ ?_
  rw [r1, ← hz]; exact kt
theorem own_bas (X : Stand p l e R s m args below meth c T locs cells slots) (hx : p.tables.exec = Jvm.exec) (hZ : Z.Warmed39 s.vm) (eT : T.heap = h) {n : Nat} {f : Nat → Int32} (A : own_AI Z h a .byte n f) {j x : Int32} (k : Nat) (hk : j.toInt = (k : Int)) (hn : k < n) (hd : decode c.code pc = .ok (.bastore, 1))
    (K : ∀ T' h', Stand p l e R s m args below meth c T' (locs ++ [⟨a, k⟩]) cells slots → T'.heap = h' → Wr h h' a k (.int (nar .byte x)) → own_AI Z h' a .byte n (own_upd f k (nar .byte x)) → own_Go p.tables e below Q (T'.setTop (mkF m (pc + 1) Ls rest))) :
    own_Go p.tables e below Q (T.setTop (mkF m pc Ls (.int x :: .int j :: .ref a :: rest))) := by
  obtain ⟨cl, r, r1, r2⟩ := id A
  obtain ⟨q1, q2⟩ := own_in hk hn r1
  obtain ⟨T', h', X', e', W, st⟩ := stB X hx hZ eT r (j := j) (x := x) q1 (g := mkF m pc Ls (.int x :: .int j :: .ref a :: rest)) rfl rfl hd
  rw [q2] at X' W
  exact own_by st (K T' h' X' e' W ((A.set hn W).congr fun i hi => by simp only [own_upd]; split <;> rfl))
theorem own_ias (X : Stand p l e R s m args below meth c T locs cells slots) (hx : p.tables.exec = Jvm.exec) (hZ : Z.Warmed39 s.vm) (eT : T.heap = h) {n : Nat} {f : Nat → Int32} (A : own_AI Z h a .int n f) {j x : Int32} (k : Nat) (hk : j.toInt = (k : Int)) (hn : k < n) (hd : decode c.code pc = .ok (.iastore, 1))
    (K : ∀ T' h', Stand p l e R s m args below meth c T' (locs ++ [⟨a, k⟩]) cells slots → T'.heap = h' → Wr h h' a k (.int x) → own_AI Z h' a .int n (own_upd f k x) → own_Go p.tables e below Q (T'.setTop (mkF m (pc + 1) Ls rest))) :
    own_Go p.tables e below Q (T.setTop (mkF m pc Ls (.int x :: .int j :: .ref a :: rest))) := by
  obtain ⟨cl, r, r1, r2⟩ := id A
  obtain ⟨q1, q2⟩ := own_in hk hn r1
  obtain ⟨T', h', X', e', W, st⟩ := stI X hx hZ eT r (j := j) (x := x) q1 (g := mkF m pc Ls (.int x :: .int j :: .ref a :: rest)) rfl rfl hd
  rw [q2] at X' W
  exact own_by st (K T' h' X' e' W ((A.set hn W).congr fun i hi => by simp only [own_upd]; split <;> rfl))
theorem own_las (X : Stand p l e R s m args below meth c T locs cells slots) (hx : p.tables.exec = Jvm.exec) (hZ : Z.Warmed39 s.vm) (eT : T.heap = h) {n : Nat} {f : Nat → Int64} (A : own_AJ Z h a n f) {j : Int32} {x : Int64} (k : Nat) (hk : j.toInt = (k : Int)) (hn : k < n) (hd : decode c.code pc = .ok (.lastore, 1))
    (K : ∀ T' h', Stand p l e R s m args below meth c T' (locs ++ [⟨a, k⟩]) cells slots → T'.heap = h' → Wr h h' a k (.long x) → own_AJ Z h' a n (own_upd f k x) → own_Go p.tables e below Q (T'.setTop (mkF m (pc + 1) Ls rest))) :
    own_Go p.tables e below Q (T.setTop (mkF m pc Ls (.long x :: .int j :: .ref a :: rest))) := by
  obtain ⟨cl, r, r1, r2⟩ := id A
  obtain ⟨q1, q2⟩ := own_in hk hn r1
  obtain ⟨T', h', X', e', W, st⟩ := stJ X hx hZ eT r (j := j) (x := x) q1 (g := mkF m pc Ls (.long x :: .int j :: .ref a :: rest)) rfl rfl hd
  rw [q2] at X' W
  exact own_by st (K T' h' X' e' W ((A.set hn W).congr fun i hi => by simp only [own_upd]; split <;> rfl))
theorem own_newP (X : Stand p l e R s m args below meth c T locs cells slots) (hx : p.tables.exec = Jvm.exec) (hZ : Z.Warmed39 s.vm) {a0 : Array Value} {aty : ArrayType} (w : (Cond.arrayClass (newarray.typeOf aty)).before a0 Z = true) (eT : T.heap = h) {n : Int32} (k : Nat) (hk : n.toInt = (k : Int)) (cap : Nat) (hcap : k ≤ cap) (hb : cap * 8 ≤ 536870912) (hc : cells + 1 ≤ R.cells) (hl : slots + cap ≤ R.slots)
    (hd : decode c.code pc = .ok (.newarray aty, 2))
    (K : ∀ T' h', Stand p l e R s m args below meth c T' locs (cells + 1) (slots + cap) → T'.heap = h' → Ext h h' → own_Ar Z h' h.size (newarray.typeOf aty) k (fun _ => defaultValue (newarray.typeOf aty)) → own_Go p.tables e below Q (T'.setTop (mkF m (pc + 2) Ls (.ref h.size :: rest)))) :
    own_Go p.tables e below Q (T.setTop (mkF m pc Ls (.int n :: rest))) := by
  have q : n.toNatClampNeg = k := by simp [Int32.toNatClampNeg, hk]
  have q0 : ¬ n < 0 := by rw [Int32.lt_iff_toInt_lt]; simp only [Int32.reduceToInt]; omega
  obtain ⟨T', h', kk, X', e', E, A, st⟩ := newP X hx hZ w eT (n := n) (g := mkF m pc Ls (.int n :: rest)) rfl hd rfl q0 (cap := cap) (by rw [q]; exact hcap) hb hc hl
  refine own_by st (K T' h' X' e' E ⟨_, A, by rw [sz_new, q], fun j hj => ?_⟩)
  simp [newA, q, hj]
theorem own_newPE (X : Stand p l e R s m args below meth c T locs cells slots) (hx : p.tables.exec = Jvm.exec) (hZ : Z.Warmed39 s.vm) {a0 : Array Value} {aty : ArrayType} (w : (Cond.arrayClass (newarray.typeOf aty)).before a0 Z = true) (eT : T.heap = h) {n : Int32} (k : Nat) (hk : n.toInt = (k : Int)) (cap : Nat) (hcap : k ≤ cap) (hb : cap * 8 ≤ 536870912) (hc : cells + 1 ≤ R.cells) (hl : slots + cap ≤ R.slots)
    (hd : decode c.code pc = .ok (.newarray aty, 2)) {ad : String} (had : "[" ++ (newarray.typeOf aty).toString = ad)
    (K : ∀ T' h', Stand p l e R s m args below meth c T' locs (cells + 1) (slots + cap) → T'.heap = h' → Ext h h' → own_Ar Z h' h.size (newarray.typeOf aty) k (fun _ => defaultValue (newarray.typeOf aty)) → Exa Z h' h.size ad → own_Go p.tables e below Q (T'.setTop (mkF m (pc + 2) Ls (.ref h.size :: rest)))) :
    own_Go p.tables e below Q (T.setTop (mkF m pc Ls (.int n :: rest))) := by
  have q : n.toNatClampNeg = k := by simp [Int32.toNatClampNeg, hk]
  have q0 : ¬ n < 0 := by rw [Int32.lt_iff_toInt_lt]; simp only [Int32.reduceToInt]; omega
  obtain ⟨T', h', kk, X', e', E, A, EX, st⟩ := newPE X hx hZ w eT (n := n) (g := mkF m pc Ls (.int n :: rest)) rfl hd rfl q0 (cap := cap) (by rw [q]; exact hcap) hb hc hl had
  refine own_by st (K T' h' X' e' E ⟨_, A, by rw [sz_new, q], fun j hj => ?_⟩ EX)
  simp [newA, q, hj]
section
variable {a0 : Array Value} {own : String} {index : Nat} {y : MethodName} {bytes : ByteArray} {maxL : Nat} {ret : Option FieldType} {rm : Room} {as' : Array Value} {Qc : Option Value → Heap → List Loc → Prop} {argsL : List Value} {St : List Value}
/-! calls by contract, with what comes behind -/
theorem own_callS (X : Stand p l e R s m args below meth c T locs cells slots) (hx : p.tables.exec = Jvm.exec) (hZ : Z.Warmed39 s.vm) (hown : s.vm.findClass own = some m.cls)
    (w1 : (Cond.methodLink own index y).before a0 Z = true) (w2 : (Cond.static y).before a0 Z = true) (w3 : (Cond.initialized y.cls).before a0 Z = true) (w4 : (Cond.code y bytes maxL ret).before a0 Z = true) (hy : y.cls ≠ "java/lang/invoke/MethodHandle" ∧ y.cls ≠ "java/lang/invoke/VarHandle")
    (hM : MetFree l y (head1 [Cond.code y bytes maxL ret] rm) (fun a U => a = as' ∧ Z.Warmed39 U.vm ∧ U.heap = h) (fun _ _ _ _ _ => True) (fun _ U o U' => ∃ v L, o = .returned v ∧ Qc v U'.heap L ∧ FrameEnd U o U' L rm.cells rm.slots))
    (eT : T.heap = h) (hsize : Ls.size = c.maxLocals) (argsL rest : List Value) (hst : St = argsL.reverse ++ rest) (hlen : ∀ sig, parseMethodDescriptor y.desc = some sig → argsL.length = sig.parameters.length) (ha : argsL.toArray = as') (W : Nat) (hW : 2 * 0 + (rest.map fun v => v.category).sum ≤ W)
    (hf : rm.frames + 1 ≤ R.frames) (hl : W + (maxL + 11) + rm.locals ≤ R.locals) (hc : cells + rm.cells ≤ R.cells) (hs : slots + rm.slots ≤ R.slots) (hd : decode c.code pc = .ok (.invokestatic index, 3))
    (K : ∀ T' Lc v, Stand p l e R s m args below meth c T' (locs ++ Lc) (cells + rm.cells) (slots + rm.slots) → Qc v T'.heap Lc → own_Go p.tables e below Q (T'.setTop (mkF m (pc + 3) Ls (v.toList ++ rest)))) :
    own_Go p.tables e below Q (T.setTop (mkF m pc Ls St)) := by
  obtain ⟨v, _, ⟨T1, L1, k1, n1⟩, -, X1, ⟨Lc, hQ, l1, y1, z1⟩, st1⟩ := Jvm.LawKit.callS X hx (y := y) hown (mvT hZ w1) (mvT hZ w2) (mvT hZ w3) (mvT hZ w4) hy (backOf (W := W) hM hZ w4 w3 hf hl) (g := mkF m pc Ls St) rfl hsize (argsL := argsL) (rest := rest) hlen hst hW hd (fun _ _ => ⟨ha, eT, hc, hs⟩)
  dsimp only [Pt.U, Pt.locs, Pt.cells, Pt.slots] at X1 l1 y1 z1 st1 hQ
  subst l1 y1 z1
  exact own_by st1 (K T1 Lc v X1 hQ)
theorem own_callI (X : Stand p l e R s m args below meth c T locs cells slots) (hx : p.tables.exec = Jvm.exec) (hZ : Z.Warmed39 s.vm) (hown : s.vm.findClass own = some m.cls) (hy1 : y.name = "<init>")
    (w1 : (Cond.methodLink own index y).before a0 Z = true) (w2 : (Cond.instanceMethod y).before a0 Z = true) (w3 : (Cond.initialized y.cls).before a0 Z = true) (w4 : (Cond.code y bytes maxL none).before a0 Z = true) (hy : y.cls ≠ "java/lang/invoke/MethodHandle" ∧ y.cls ≠ "java/lang/invoke/VarHandle")
    (hM : MetFree l y (head1 [Cond.code y bytes maxL none] rm) (fun a U => a = as' ∧ Z.Warmed39 U.vm ∧ U.heap = h) (fun _ _ _ _ _ => True) (fun _ U o U' => ∃ v L, o = .returned v ∧ Qc v U'.heap L ∧ FrameEnd U o U' L rm.cells rm.slots))
    (eT : T.heap = h) (hsize : Ls.size = c.maxLocals) (b : Addr) (argsL rest : List Value) (hst : St = argsL.reverse ++ .ref b :: rest) (hlen : ∀ sig, parseMethodDescriptor y.desc = some sig → argsL.length = sig.parameters.length) (ha : (Value.ref b :: argsL).toArray = as') (W : Nat) (hW : 2 * 0 + (rest.map fun v => v.category).sum ≤ W)
    (hf : rm.frames + 1 ≤ R.frames) (hl : W + (maxL + 11) + rm.locals ≤ R.locals) (hc : cells + rm.cells ≤ R.cells) (hs : slots + rm.slots ≤ R.slots) (hd : decode c.code pc = .ok (.invokespecial index, 3))
    (K : ∀ T' Lc v, Stand p l e R s m args below meth c T' (locs ++ Lc) (cells + rm.cells) (slots + rm.slots) → Qc v T'.heap Lc → own_Go p.tables e below Q (T'.setTop (mkF m (pc + 3) Ls (v.toList ++ rest)))) :
    own_Go p.tables e below Q (T.setTop (mkF m pc Ls St)) := by
  obtain ⟨v, _, ⟨T1, L1, k1, n1⟩, -, X1, ⟨Lc, hQ, l1, y1, z1⟩, st1⟩ := X.specialBack hx (y := y) hy1 hown (mvT hZ w1) (mvT hZ w2) (mvT hZ w4) hy (backOf (W := W) hM hZ w4 w3 hf hl) (g := mkF m pc Ls St) rfl hsize (Steps.refl _) (a := b) (argsL := argsL) (rest := rest) hlen hst hW hd (fun _ _ => ⟨ha, eT, hc, hs⟩)
  dsimp only [Pt.U, Pt.locs, Pt.cells, Pt.slots] at X1 l1 y1 z1 st1 hQ
  subst l1 y1 z1
  exact own_tr st1 (K T1 Lc v X1 hQ)
theorem own_callV {C : String} {z : MethodName} (X : Stand p l e R s m args below meth c T locs cells slots) (hx : p.tables.exec = Jvm.exec) (hZ : Z.Warmed39 s.vm) (hown : s.vm.findClass own = some m.cls)
    (w1 : (Cond.methodLink own index y).before a0 Z = true) (w2 : (Cond.declares y).before a0 Z = true) (hnf : NotFace s y) (w5 : (Cond.selects C y z).before a0 Z = true) (w6 : (Cond.instanceMethod z).before a0 Z = true) (w3 : (Cond.initialized z.cls).before a0 Z = true) (w4 : (Cond.code z bytes maxL ret).before a0 Z = true) (hy : y.cls ≠ "java/lang/invoke/MethodHandle" ∧ y.cls ≠ "java/lang/invoke/VarHandle")
    (hM : MetFree l z (head1 [Cond.code z bytes maxL ret] rm) (fun a U => a = as' ∧ Z.Warmed39 U.vm ∧ U.heap = h) (fun _ _ _ _ _ => True) (fun _ U o U' => ∃ v L, o = .returned v ∧ Qc v U'.heap L ∧ FrameEnd U o U' L rm.cells rm.slots))
    (eT : T.heap = h) (b : Addr) (E : Exa Z h b C) (hsize : Ls.size = c.maxLocals) (argsL rest : List Value) (hst : St = argsL.reverse ++ .ref b :: rest) (hlen : ∀ sig, parseMethodDescriptor y.desc = some sig → argsL.length = sig.parameters.length) (ha : (Value.ref b :: argsL).toArray = as') (W : Nat) (hW : 2 * 0 + (rest.map fun v => v.category).sum ≤ W)
    (hf : rm.frames + 1 ≤ R.frames) (hl : W + (maxL + 11) + rm.locals ≤ R.locals) (hc : cells + rm.cells ≤ R.cells) (hs : slots + rm.slots ≤ R.slots) (hd : decode c.code pc = .ok (.invokevirtual index, 3))
    (K : ∀ T' Lc v, Stand p l e R s m args below meth c T' (locs ++ Lc) (cells + rm.cells) (slots + rm.slots) → Qc v T'.heap Lc → own_Go p.tables e below Q (T'.setTop (mkF m (pc + 3) Ls (v.toList ++ rest)))) :
    own_Go p.tables e below Q (T.setTop (mkF m pc Ls St)) := by
  obtain ⟨cq, kq, qa, qb, qc⟩ := isOf hZ eT E
  obtain ⟨v, _, ⟨T1, L1, k1, n1⟩, -, X1, ⟨Lc, hQ, l1, y1, z1⟩, st1⟩ := X.virtualBack hx (y := y) (z := z) hown (mvT hZ w1) (mvT hZ w2) hnf (mvT hZ w5) (mvT hZ w6) hy (backOf (W := W) hM hZ w4 w3 hf hl) qa qc (g := mkF m pc Ls St) rfl hsize (Steps.refl _) (argsL := argsL) (rest := rest) hlen hst hW hd (fun _ _ => ⟨ha, eT, hc, hs⟩)
  dsimp only [Pt.U, Pt.locs, Pt.cells, Pt.slots] at X1 l1 y1 z1 st1 hQ
  subst l1 y1 z1
  exact own_tr st1 (K T1 Lc v X1 hQ)
theorem own_selp {s : State} {aa : Array Value} {y y' : MethodName} (hc : y.cls = y'.cls) (w1 : (Cond.selects y'.cls y' y').before aa s = true) (hpriv : s.PrivateAt y) (hinst : (Cond.instanceMethod y).before aa s = true) (hy : y.cls ≠ "java/lang/invoke/MethodHandle" ∧ y.cls ≠ "java/lang/invoke/VarHandle") : (Cond.selects y.cls y y).before aa s = true := by
  obtain ⟨c2, r2, m2, q0, -, q3, -, kP, hkP, hkPi⟩ := Cond.selects_spec w1
  have h1 : s.vm.findClass y'.cls = some m2.cls := findClass_of_methodNamed q3
  exact selects_self_of_private (by rw [hc]; exact h1) hkP hkPi hpriv hinst hy
theorem own_callP {y' : MethodName} (X : Stand p l e R s m args below meth c T locs cells slots) (hx : p.tables.exec = Jvm.exec) (hZ : Z.Warmed39 s.vm) (hown : s.vm.findClass own = some m.cls)
    (w1 : (Cond.methodLink own index y).before a0 Z = true) (w2 : (Cond.instanceMethod y).before a0 Z = true) (w5 : (Cond.privateMethod y).before a0 Z = true) (hcc : y.cls = y'.cls) (w6 : (Cond.selects y'.cls y' y').before a0 Z = true) (w3 : (Cond.initialized y.cls).before a0 Z = true) (w4 : (Cond.code y bytes maxL ret).before a0 Z = true) (hy : y.cls ≠ "java/lang/invoke/MethodHandle" ∧ y.cls ≠ "java/lang/invoke/VarHandle")
    (hM : MetFree l y (head1 [Cond.code y bytes maxL ret] rm) (fun a U => a = as' ∧ Z.Warmed39 U.vm ∧ U.heap = h) (fun _ _ _ _ _ => True) (fun _ U o U' => ∃ v L, o = .returned v ∧ Qc v U'.heap L ∧ FrameEnd U o U' L rm.cells rm.slots))
    (eT : T.heap = h) (b : Addr) {C : String} (E : Exa Z h b C) (hsize : Ls.size = c.maxLocals) (argsL rest : List Value) (hst : St = argsL.reverse ++ .ref b :: rest) (hlen : ∀ sig, parseMethodDescriptor y.desc = some sig → argsL.length = sig.parameters.length) (ha : (Value.ref b :: argsL).toArray = as') (W : Nat) (hW : 2 * 0 + (rest.map fun v => v.category).sum ≤ W)
    (hf : rm.frames + 1 ≤ R.frames) (hl : W + (maxL + 11) + rm.locals ≤ R.locals) (hc : cells + rm.cells ≤ R.cells) (hs : slots + rm.slots ≤ R.slots) (hd : decode c.code pc = .ok (.invokevirtual index, 3))
    (K : ∀ T' Lc v, Stand p l e R s m args below meth c T' (locs ++ Lc) (cells + rm.cells) (slots + rm.slots) → Qc v T'.heap Lc → own_Go p.tables e below Q (T'.setTop (mkF m (pc + 3) Ls (v.toList ++ rest)))) :
    own_Go p.tables e below Q (T.setTop (mkF m pc Ls St)) := by
  obtain ⟨cq, q1, q2⟩ := E.cell
  have hpr := Cond.privateMethod_at (mvP hZ w5 (args := #[]))
  obtain ⟨v, _, ⟨T1, L1, k1, n1⟩, -, X1, ⟨Lc, hQ, l1, y1, z1⟩, st1⟩ := X.privateBack hx (y := y) hown (mvT hZ w1) (mvT hZ w2) (own_selp hcc (mvT hZ w6) hpr (mvT hZ w2) hy) hpr (mvT hZ w4) hy (backOf (W := W) hM hZ w4 w3 hf hl) (g := mkF m pc Ls St) rfl hsize (Steps.refl _) (a := b) (by rw [eT]; exact q1) q2 (argsL := argsL) (rest := rest) hlen hst hW hd (fun _ _ => ⟨ha, eT, hc, hs⟩)
  dsimp only [Pt.U, Pt.locs, Pt.cells, Pt.slots] at X1 l1 y1 z1 st1 hQ
  subst l1 y1 z1
  exact own_tr st1 (K T1 Lc v X1 hQ)
end
theorem own_size_wr {h h' : Heap} {b : Addr} {sl : Nat} {v : Value} {n0 : Nat} (W : Wr h h' b sl v) (q : n0 ≤ h.size) : n0 ≤ h'.size := by rw [W.size]; exact q
end OwnGo
theorem own_pd0 : parseMethodDescriptor "(IIIIII)Z" = some ⟨[.int, .int, .int, .int, .int, .int], some .boolean⟩ := by decide +kernel
theorem own_pd1 : parseMethodDescriptor "(I)V" = some ⟨[.int], none⟩ := by decide +kernel
theorem own_pd2 : parseMethodDescriptor "()V" = some ⟨[], none⟩ := by decide +kernel
theorem own_pd3 : parseMethodDescriptor "([Ljava/lang/Object;Ljava/util/function/IntFunction;)V" = some ⟨[(.array (.object "java/lang/Object")), (.object "java/util/function/IntFunction")], none⟩ := by decide +kernel
theorem own_pd4 : parseMethodDescriptor "(Ljava/lang/Object;)Ljava/lang/Object;" = some ⟨[(.object "java/lang/Object")], some (.object "java/lang/Object")⟩ := by decide +kernel
theorem own_pd5 : parseMethodDescriptor "(I)Lcom/example/sonde/sonde/engine/Bits;" = some ⟨[.int], some (.object "com/example/sonde/sonde/engine/Bits")⟩ := by decide +kernel
theorem own_pd6 : parseMethodDescriptor "(Ljava/lang/Object;)Z" = some ⟨[(.object "java/lang/Object")], some .boolean⟩ := by decide +kernel
theorem own_pd7 : parseMethodDescriptor "(Ljava/lang/Object;[Ljava/lang/Object;I)V" = some ⟨[(.object "java/lang/Object"), (.array (.object "java/lang/Object")), .int], none⟩ := by decide +kernel
theorem own_pd8 : parseMethodDescriptor "()[Ljava/lang/Object;" = some ⟨[], some (.array (.object "java/lang/Object"))⟩ := by decide +kernel
theorem own_pd9 : parseMethodDescriptor "(I)[Ljava/lang/Object;" = some ⟨[.int], some (.array (.object "java/lang/Object"))⟩ := by decide +kernel
theorem own_pd10 : parseMethodDescriptor "(II)I" = some ⟨[.int, .int], some .int⟩ := by decide +kernel
theorem own_pd11 : parseMethodDescriptor "(III)V" = some ⟨[.int, .int, .int], none⟩ := by decide +kernel
theorem own_pd12 : parseMethodDescriptor "([II)Lcom/example/sonde/sonde/engine/Bits;" = some ⟨[(.array .int), .int], some (.object "com/example/sonde/sonde/engine/Bits")⟩ := by decide +kernel
theorem own_pd13 : parseMethodDescriptor "(I)Z" = some ⟨[.int], some .boolean⟩ := by decide +kernel
theorem own_pd14 : parseMethodDescriptor "(IIZIZ)Z" = some ⟨[.int, .int, .boolean, .int, .boolean], some .boolean⟩ := by decide +kernel
theorem own_pd15 : parseMethodDescriptor "([JI)[J" = some ⟨[(.array .long), .int], some (.array .long)⟩ := by decide +kernel
theorem own_pd16 : parseMethodDescriptor "(I)Ljava/lang/Object;" = some ⟨[.int], some (.object "java/lang/Object")⟩ := by decide +kernel
section OwnNs
variable {Z : State} {h : Heap} {a : Addr}
theorem own_Ar.nostat {ty : FieldType} {n : Nat} {f : Nat → Value} (A : own_Ar Z h a ty n f) : ∀ cell : Cell, h[a]? = some cell → cell.vm.isStatics = false := by obtain ⟨cl, r, -⟩ := A; exact r.nostat
theorem own_sta_keep {h' : Heap} {ws : List Addr} {K n d : String} {w : Value} (F : Sta Z h K n d w) (Kp : Keep h h' ws) (hn : ∀ x ∈ ws, ∀ cell : Cell, h[x]? = some cell → cell.vm.isStatics = false) : Sta Z h' K n d w := by
  obtain ⟨cf, i, k, f, st, cell, h1, h2, h3, h4, h5, h6, r⟩ := F
  exact ⟨cf, i, k, f, st, cell, h1, h2, h3, h4, Kp.2.1 _ _ h5 (fun hm => by rw [hn st hm cell h5] at h6; cases h6), h6, r⟩
end OwnNs
section OwnLam
/-! arrays of references; calls through an interface; a lambda that captures nothing -/
variable {p : Program} {l : Launch} {e : Env} {R : Room} {s : State} {m : MethodId} {args : Array Value} {below : List Frame} {meth : Method} {c : Code} {T : State} {locs : List Loc} {cells slots : Nat} {Z : State} {h : Heap} {a : Addr} {pc : Nat} {Ls : Array Slot} {rest : List Value} {t : State} {Q : Outcome → State → Prop} {a0 : Array Value}
def own_Ra (Z : State) (h : Heap) (a : Addr) (C : String) (n : Nat) (f : Nat → Value) : Prop := ∃ cl : Cell, Arr Z h a cl (.object C) ∧ Ovr Z cl.cls C ∧ cl.slots.size = n ∧ ∀ j, j < n → cl.slots[j]? = some (f j)
section
variable {h' : Heap} {b : Addr} {C : String} {n : Nat} {f : Nat → Value} {v : Value} {sl : Nat} {ws : List Addr}
theorem own_Ra.ar (A : own_Ra Z h a C n f) : own_Ar Z h a (.object C) n f := by obtain ⟨cl, q, -, r⟩ := A; exact ⟨cl, q, r⟩
theorem own_Ra.lt (A : own_Ra Z h a C n f) : a < h.size := A.ar.lt
theorem own_Ra.nostat (A : own_Ra Z h a C n f) : ∀ cell : Cell, h[a]? = some cell → cell.vm.isStatics = false := A.ar.nostat
theorem own_Ra.ext (A : own_Ra Z h a C n f) (E : Ext h h') : own_Ra Z h' a C n f := by obtain ⟨cl, q, r⟩ := A; exact ⟨cl, q.ext E, r⟩
theorem own_Ra.other (A : own_Ra Z h a C n f) (W : Wr h h' b sl v) (q : a ≠ b) : own_Ra Z h' a C n f := by obtain ⟨cl, r, r'⟩ := A; exact ⟨cl, r.other W q, r'⟩
theorem own_Ra.keep (A : own_Ra Z h a C n f) (K : Keep h h' ws) (q : a ∉ ws) : own_Ra Z h' a C n f := by obtain ⟨cl, r, r'⟩ := A; exact ⟨cl, ⟨K.2.1 _ _ r.1 q, r.2⟩, r'⟩
theorem own_Ra.set (A : own_Ra Z h a C n f) {k : Nat} (hk : k < n) (W : Wr h h' a k v) : own_Ra Z h' a C n (own_upd f k v) := by
  obtain ⟨cl, r, o, r1, r2⟩ := A
  refine ⟨_, r.same W, o, by rw [sz_set]; exact r1, fun j hj => ?_⟩
  show (cl.slots.setIfInBounds k v)[j]? = _
  by_cases q : j = k
  · subst q; simp [own_upd, r1, hj]
  · rw [Array.getElem?_setIfInBounds_ne (fun y => q y.symm), r2 j hj, own_upd_ne _ _ q]
end
theorem own_newR (X : Stand p l e R s m args below meth c T locs cells slots) (hx : p.tables.exec = Jvm.exec) (hZ : Z.Warmed39 s.vm) {own C : String} {index : Nat} (hown : s.vm.findClass own = some m.cls) (w1 : (Cond.classLink own index C).before a0 Z = true) (w2 : (Cond.arrayOver (.object C)).before a0 Z = true) (eT : T.heap = h) {n : Int32} (k : Nat) (hk : n.toInt = (k : Int)) (cap : Nat) (hcap : k ≤ cap) (hb : cap * 8 ≤ 536870912) (hc : cells + 1 ≤ R.cells) (hl : slots + cap ≤ R.slots)
    (hd : decode c.code pc = .ok (.anewarray index, 3))
    (K : ∀ T' h', Stand p l e R s m args below meth c T' locs (cells + 1) (slots + cap) → T'.heap = h' → Ext h h' → own_Ra Z h' h.size C k (fun _ => .null) → own_Go p.tables e below Q (T'.setTop (mkF m (pc + 3) Ls (.ref h.size :: rest)))) :
    own_Go p.tables e below Q (T.setTop (mkF m pc Ls (.int n :: rest))) := by
  have q : n.toNatClampNeg = k := by simp [Int32.toNatClampNeg, hk]
  have q0 : ¬ n < 0 := by rw [Int32.lt_iff_toInt_lt]; simp only [Int32.reduceToInt]; omega
  obtain ⟨T', h', cA, X', e', E, A, O, st⟩ := newR X hx hZ hown w1 w2 eT (g := mkF m pc Ls (.int n :: rest)) rfl hd rfl q0 (cap := cap) (by rw [q]; exact hcap) hb hc hl
  refine own_by st (K T' h' X' e' E ⟨_, A, O, by rw [sz_new, q], fun j hj => ?_⟩)
  simp [newA, q, hj, defaultValue]
theorem own_aal (X : Stand p l e R s m args below meth c T locs cells slots) (hx : p.tables.exec = Jvm.exec) (hZ : Z.Warmed39 s.vm) (eT : T.heap = h) {C : String} {n : Nat} {f : Nat → Value} (A : own_Ra Z h a C n f) {j : Int32} (k : Nat) (hk : j.toInt = (k : Int)) (hn : k < n) (hd : decode c.code pc = .ok (.aaload, 1))
    (kt : Steps p.tables e below (T.setTop (mkF m (pc + 1) Ls (f k :: rest))) t) : Steps p.tables e below (T.setTop (mkF m pc Ls (.int j :: .ref a :: rest))) t := by
  obtain ⟨cl, r, -, r1, r2⟩ := A
  obtain ⟨q1, q2⟩ := own_in hk hn r1
  exact X.aaload hx (j := j) (v := f k) (by rw [eT]; exact r.1) (State.isArrayOf_alike hZ.alike r.2.1) rfl r.2.2 q1 (by rw [q2]; exact r2 k hn) (g := mkF m pc Ls (.int j :: .ref a :: rest)) rfl rfl hd _ kt
theorem own_aas (X : Stand p l e R s m args below meth c T locs cells slots) (hx : p.tables.exec = Jvm.exec) (hZ : Z.Warmed39 s.vm) (eT : T.heap = h) {C : String} {n : Nat} {f : Nat → Value} (A : own_Ra Z h a C n f) {y : Addr} (I : Ins Z h y C true) {j : Int32} (k : Nat) (hk : j.toInt = (k : Int)) (hn : k < n) (hd : decode c.code pc = .ok (.aastore, 1))
    (K : ∀ T' h', Stand p l e R s m args below meth c T' (locs ++ [⟨a, k⟩]) cells slots → T'.heap = h' → Wr h h' a k (.ref y) → own_Ra Z h' a C n (own_upd f k (.ref y)) → own_Go p.tables e below Q (T'.setTop (mkF m (pc + 1) Ls rest))) :
    own_Go p.tables e below Q (T.setTop (mkF m pc Ls (.ref y :: .int j :: .ref a :: rest))) := by
  obtain ⟨cl, r, o, r1, r2⟩ := id A
  obtain ⟨q1, q2⟩ := own_in hk hn r1
  obtain ⟨T', h', X', e', W, st⟩ := stR X hx hZ eT r (j := j) (v := .ref y) q1 rfl (Sto.of r o I) (g := mkF m pc Ls (.ref y :: .int j :: .ref a :: rest)) rfl rfl hd
  rw [q2] at X' W
  exact own_by st (K T' h' X' e' W (A.set hn W))
section
variable {own : String} {index : Nat} {y : MethodName} {bytes : ByteArray} {maxL : Nat} {ret : Option FieldType} {rm : Room} {as' : Array Value} {Qc : Option Value → Heap → List Loc → Prop} {St : List Value}
/-- invokeinterface -/
theorem own_callF {C : String} {count : Nat} {xi : MethodName} (X : Stand p l e R s m args below meth c T locs cells slots) (hx : p.tables.exec = Jvm.exec) (hZ : Z.Warmed39 s.vm) (hown : s.vm.findClass own = some m.cls)
    (w1 : (Cond.methodLink own index xi).before a0 Z = true) (w2 : (Cond.declares xi).before a0 Z = true) (w5 : (Cond.interfaceMethod xi.cls xi.cls xi.name xi.desc).before a0 Z = true) (w6 : (Cond.selects C xi y).before a0 Z = true) (w7 : (Cond.instanceMethod y).before a0 Z = true) (w8 : (Cond.publicMethod y).before a0 Z = true) (w9 : (Cond.unhidden C xi.name xi.desc).before a0 Z = true) (w10 : (Cond.castable C xi.cls).before a0 Z = true)
    (w3 : (Cond.initialized y.cls).before a0 Z = true) (w4 : (Cond.code y bytes maxL ret).before a0 Z = true) (hy : xi.cls ≠ "java/lang/invoke/MethodHandle" ∧ xi.cls ≠ "java/lang/invoke/VarHandle") (h5 : ((Cond.interfaceMethod xi.cls xi.cls xi.name xi.desc).onTables && (Cond.interfaceMethod xi.cls xi.cls xi.name xi.desc).keepsFace) = true)
    (hM : MetFree l y (head1 [Cond.code y bytes maxL ret] rm) (fun a U => a = as' ∧ Z.Warmed39 U.vm ∧ U.heap = h) (fun _ _ _ _ _ => True) (fun _ U o U' => ∃ v L, o = .returned v ∧ Qc v U'.heap L ∧ FrameEnd U o U' L rm.cells rm.slots))
    (eT : T.heap = h) (b : Addr) (E : Exa Z h b C) (hsize : Ls.size = c.maxLocals) (argsL rest : List Value) (hst : St = argsL.reverse ++ .ref b :: rest) (hlen : ∀ sig, parseMethodDescriptor xi.desc = some sig → argsL.length = sig.parameters.length) (ha : (Value.ref b :: argsL).toArray = as') (W : Nat) (hW : 2 * 0 + (rest.map fun v => v.category).sum ≤ W)
    (hf : rm.frames + 1 ≤ R.frames) (hl : W + (maxL + 11) + rm.locals ≤ R.locals) (hc : cells + rm.cells ≤ R.cells) (hs : slots + rm.slots ≤ R.slots) (hd : decode c.code pc = .ok (.invokeinterface index count, 5))
    (K : ∀ T' Lc v, Stand p l e R s m args below meth c T' (locs ++ Lc) (cells + rm.cells) (slots + rm.slots) → Qc v T'.heap Lc → own_Go p.tables e below Q (T'.setTop (mkF m (pc + 5) Ls (v.toList ++ rest)))) :
    own_Go p.tables e below Q (T.setTop (mkF m pc Ls St)) := by
  obtain ⟨cq, kq, qa, qb, qc⟩ := isOf hZ eT E
  have q8 : (Cond.publicMethod y).before args s = true := by
    have h1 : (Cond.publicMethod y).before a0 (Z.setVm s.vm) = true := Cond.rides hZ rfl w8
    exact h1
  have q9 : (Cond.unhidden C xi.name xi.desc).before args s = true := by
    have h1 : (Cond.unhidden C xi.name xi.desc).before a0 (Z.setVm s.vm) = true := Cond.rides hZ rfl w9
    exact h1
  obtain ⟨v, _, ⟨T1, L1, k1, n1⟩, -, X1, ⟨Lc, hQ, l1, y1, z1⟩, st1⟩ := X.interfaceBack hx (y := y) hown (mvT hZ w1) (mvT hZ w2) (mvT hZ w5 h5) (mvT hZ w6) (mvT hZ w7) q8 q9 (mvT hZ w10) hy (backOf (W := W) hM hZ w4 w3 hf hl) qa qb qc (g := mkF m pc Ls St) rfl hsize (Steps.refl _) (argsL := argsL) (rest := rest) hlen hst hW hd (fun _ _ => ⟨ha, eT, hc, hs⟩)
  dsimp only [Pt.U, Pt.locs, Pt.cells, Pt.slots] at X1 l1 y1 z1 st1 hQ
  subst l1 y1 z1
  exact own_tr st1 (K T1 Lc v X1 hQ)
theorem own_backL {W len : Nat} (hM : MetFree l y (head1 [Cond.code y bytes maxL ret] rm) (fun a U => a = as' ∧ Z.Warmed39 U.vm ∧ U.heap = h ∧ Z.WarmedH U.vm) (fun _ _ _ _ _ => True) (fun _ U o U' => ∃ v L, o = .returned v ∧ Qc v U'.heap L ∧ FrameEnd U o U' L rm.cells rm.slots))
    (hZ : Z.Warmed39 s.vm) (hH : Z.WarmedH s.vm) (wc : (Cond.code y bytes maxL ret).before a0 Z = true) (wz : (Cond.initialized y.cls).before a0 Z = true) (hf : rm.frames + 1 ≤ R.frames) (hl : W + (maxL + 11) + rm.locals ≤ R.locals) :
    Back l R p e below s args y len W (fun A a => a = as' ∧ A.U.heap = h ∧ A.cells + rm.cells ≤ R.cells ∧ A.slots + rm.slots ≤ R.slots)
      (fun A _ v B => ∃ L, Qc v B.U.heap L ∧ B.locs = A.locs ++ L ∧ B.cells = A.cells + rm.cells ∧ B.slots = A.slots + rm.slots) :=
  Back.of_free (bytes := bytes) (maxL := maxL) (ret := ret) (E := fun _ _ o t L k n => k = rm.cells ∧ n = rm.slots ∧ ∃ v, o = .returned v ∧ Qc v t.heap L) hM hf hl
    (fun m meth c A a Y hp => have hU : Z.Warmed39 A.U.vm := wtrans hZ Y.warmed
      ⟨by show (Cond.and _ .tt).before a A.U = true; rw [Cond.before_and, mv hU wc]; rfl, mv hU wc, mv hU wz, hp.2.2.1, hp.2.2.2⟩)
    (fun m meth c A a g mk Y hp => ⟨hp.1, wtrans hZ Y.warmed, hp.2.1, State.WarmedH.trans hH Y.warmed⟩) (fun _ _ _ _ _ _ _ _ _ => trivial)
    (fun _ _ _ _ ⟨v, L, h1, h2, h3⟩ => ⟨L, _, _, h3, rfl, rfl, v, h1, h2⟩)
    (fun m meth c A a g mk v t L k n Y hp _ _ ⟨e1, e2, v', e3, e4⟩ => by cases e3; subst e1 e2; exact ⟨L, e4, rfl, rfl, rfl⟩)
theorem own_callSL (X : Stand p l e R s m args below meth c T locs cells slots) (hx : p.tables.exec = Jvm.exec) (hZ : Z.Warmed39 s.vm) (hown : s.vm.findClass own = some m.cls) (hH : Z.WarmedH s.vm)
    (w1 : (Cond.methodLink own index y).before a0 Z = true) (w2 : (Cond.static y).before a0 Z = true) (w3 : (Cond.initialized y.cls).before a0 Z = true) (w4 : (Cond.code y bytes maxL ret).before a0 Z = true) (hy : y.cls ≠ "java/lang/invoke/MethodHandle" ∧ y.cls ≠ "java/lang/invoke/VarHandle")
    (hM : MetFree l y (head1 [Cond.code y bytes maxL ret] rm) (fun a U => a = as' ∧ Z.Warmed39 U.vm ∧ U.heap = h ∧ Z.WarmedH U.vm) (fun _ _ _ _ _ => True) (fun _ U o U' => ∃ v L, o = .returned v ∧ Qc v U'.heap L ∧ FrameEnd U o U' L rm.cells rm.slots))
    (eT : T.heap = h) (hsize : Ls.size = c.maxLocals) (argsL rest : List Value) (hst : St = argsL.reverse ++ rest) (hlen : ∀ sig, parseMethodDescriptor y.desc = some sig → argsL.length = sig.parameters.length) (ha : argsL.toArray = as') (W : Nat) (hW : 2 * 0 + (rest.map fun v => v.category).sum ≤ W)
    (hf : rm.frames + 1 ≤ R.frames) (hl : W + (maxL + 11) + rm.locals ≤ R.locals) (hc : cells + rm.cells ≤ R.cells) (hs : slots + rm.slots ≤ R.slots) (hd : decode c.code pc = .ok (.invokestatic index, 3))
    (K : ∀ T' Lc v, Stand p l e R s m args below meth c T' (locs ++ Lc) (cells + rm.cells) (slots + rm.slots) → Qc v T'.heap Lc → own_Go p.tables e below Q (T'.setTop (mkF m (pc + 3) Ls (v.toList ++ rest)))) :
    own_Go p.tables e below Q (T.setTop (mkF m pc Ls St)) := by
  obtain ⟨v, _, ⟨T1, L1, k1, n1⟩, -, X1, ⟨Lc, hQ, l1, y1, z1⟩, st1⟩ := Jvm.LawKit.callS X hx (y := y) hown (mvT hZ w1) (mvT hZ w2) (mvT hZ w3) (mvT hZ w4) hy (own_backL (W := W) hM hZ hH w4 w3 hf hl) (g := mkF m pc Ls St) rfl hsize (argsL := argsL) (rest := rest) hlen hst hW hd (fun _ _ => ⟨ha, eT, hc, hs⟩)
  dsimp only [Pt.U, Pt.locs, Pt.cells, Pt.slots] at X1 l1 y1 z1 st1 hQ
  subst l1 y1 z1
  exact own_by st1 (K T1 Lc v X1 hQ)
theorem own_callIL (X : Stand p l e R s m args below meth c T locs cells slots) (hx : p.tables.exec = Jvm.exec) (hZ : Z.Warmed39 s.vm) (hown : s.vm.findClass own = some m.cls) (hH : Z.WarmedH s.vm) (hy1 : y.name = "<init>")
    (w1 : (Cond.methodLink own index y).before a0 Z = true) (w2 : (Cond.instanceMethod y).before a0 Z = true) (w3 : (Cond.initialized y.cls).before a0 Z = true) (w4 : (Cond.code y bytes maxL none).before a0 Z = true) (hy : y.cls ≠ "java/lang/invoke/MethodHandle" ∧ y.cls ≠ "java/lang/invoke/VarHandle")
    (hM : MetFree l y (head1 [Cond.code y bytes maxL none] rm) (fun a U => a = as' ∧ Z.Warmed39 U.vm ∧ U.heap = h ∧ Z.WarmedH U.vm) (fun _ _ _ _ _ => True) (fun _ U o U' => ∃ v L, o = .returned v ∧ Qc v U'.heap L ∧ FrameEnd U o U' L rm.cells rm.slots))
    (eT : T.heap = h) (hsize : Ls.size = c.maxLocals) (b : Addr) (argsL rest : List Value) (hst : St = argsL.reverse ++ .ref b :: rest) (hlen : ∀ sig, parseMethodDescriptor y.desc = some sig → argsL.length = sig.parameters.length) (ha : (Value.ref b :: argsL).toArray = as') (W : Nat) (hW : 2 * 0 + (rest.map fun v => v.category).sum ≤ W)
    (hf : rm.frames + 1 ≤ R.frames) (hl : W + (maxL + 11) + rm.locals ≤ R.locals) (hc : cells + rm.cells ≤ R.cells) (hs : slots + rm.slots ≤ R.slots) (hd : decode c.code pc = .ok (.invokespecial index, 3))
    (K : ∀ T' Lc v, Stand p l e R s m args below meth c T' (locs ++ Lc) (cells + rm.cells) (slots + rm.slots) → Qc v T'.heap Lc → own_Go p.tables e below Q (T'.setTop (mkF m (pc + 3) Ls (v.toList ++ rest)))) :
    own_Go p.tables e below Q (T.setTop (mkF m pc Ls St)) := by
  obtain ⟨v, _, ⟨T1, L1, k1, n1⟩, -, X1, ⟨Lc, hQ, l1, y1, z1⟩, st1⟩ := X.specialBack hx (y := y) hy1 hown (mvT hZ w1) (mvT hZ w2) (mvT hZ w4) hy (own_backL (W := W) hM hZ hH w4 w3 hf hl) (g := mkF m pc Ls St) rfl hsize (Steps.refl _) (a := b) (argsL := argsL) (rest := rest) hlen hst hW hd (fun _ _ => ⟨ha, eT, hc, hs⟩)
  dsimp only [Pt.U, Pt.locs, Pt.cells, Pt.slots] at X1 l1 y1 z1 st1 hQ
  subst l1 y1 z1
  exact own_tr st1 (K T1 Lc v X1 hQ)
end
/-! the lambda -/
theorem own_callable {σ : Lambda.Shape} {cK : ClassId} (hal : Z.vm.Alike s.vm) (h : Z.lambdaCallable σ cK = true) : s.lambdaCallable σ cK = true := by
  obtain ⟨i, h1, h2, h3⟩ := State.lambdaCallable_spec h
  have e1 : s.vm.findClass σ.iface = some i := by rw [hal.findClass]; exact h1
  have h4 : ((cK :: Z.vm.superclasses cK).any fun k => (declaredIn s.vm σ.name σ.sam.toString k).any fun (_, x) => x.isPrivate || x.isStatic) = false := by
    rw [← h3]; congr 1; funext k; rw [hal.declaredIn]
  unfold State.lambdaCallable
  rw [e1, Option.any_some, hal.assignable, h2, hal.superclasses, h4]; rfl
theorem own_made {host : String} {σ : Lambda.Shape} {cK : ClassId} (hH : Z.WarmedH s.vm) (M : Jvm.LamKit.Made Z host σ cK) : Jvm.LamKit.Made s host σ cK := by
  obtain ⟨d, dk, h1, h2, h3, h4⟩ := M
  obtain ⟨dk', q1, q2⟩ := hH.alike.2.2 _ _ h1
  exact ⟨d, dk', q1, by rw [q2]; exact h2, Lambda.isMade_warmer hH h3, own_callable hH.alike h4⟩
/-- the site's object, as the tables have it -/
def own_Site (Z : State) (x : MethodName) (pc : Nat) (σ : Lambda.Shape) (a : Addr) (cK : ClassId) : Prop :=
  Jvm.LamKit.Made Z x.cls σ cK ∧ Jvm.LamKit.FnAt Z.heap a cK ∧ ∃ (m : MethodId) (k : Class) (i0 p0 : Nat), Z.methodNamed? x = some m ∧ Z.vm.classes[m.cls]? = some k ∧ (k.callSites.find? fun y => y.1 == m.idx && y.2.1 == pc) = some (i0, p0, .constant a)
theorem own_siteOf {x : MethodName} {pc index : Nat} {σ : Lambda.Shape} (w : (Cond.lambdaSite x pc index σ).before a0 Z = true) (hcap : σ.captured = []) : ∃ a cK, own_Site Z x pc σ a cK := by
  obtain ⟨cK, one, hat⟩ := Cond.lambdaSite_spec w
  obtain ⟨mD, kD, cfD, i0, p0, lk, hmD, hkD, -, -, -, hfind, hmade, hcan, hl⟩ := State.lambdaAt?_spec hat
  obtain ⟨kD', hkD', hnameD⟩ := className_of_methodNamed hmD
  cases hkD.symm.trans hkD'
  rcases hl with ⟨a, cell, rfl, -, -, hcell, hcls, hvm, -⟩ | ⟨-, -, hne⟩
  · exact ⟨a, cK, ⟨_, kD, hkD, hnameD, hmade, hcan⟩, ⟨cell, hcell, hcls, hvm⟩, mD, kD, i0, p0, hmD, hkD, hfind⟩
  · exact absurd hcap hne
theorem own_site {x : MethodName} {index : Nat} {σ : Lambda.Shape} {a : Addr} {cK : ClassId} (X : Stand p l e R s m args below meth c T locs cells slots) (hx : p.tables.exec = Jvm.exec) (hZ : Z.Warmed39 s.vm) (hnamed : s.methodNamed? x = some m) (S : own_Site Z x pc σ a cK) (hsize : Ls.size = c.maxLocals)
    (hd : decode c.code pc = .ok (.invokedynamic index, 5)) (W : Nat) (hW : 2 * 0 + (rest.map fun v => v.category).sum ≤ W) (hl : W + 3072 ≤ R.locals)
    (kt : Steps p.tables e below (T.setTop (mkF m (pc + 5) Ls (.ref a :: rest))) t) : Steps p.tables e below (T.setTop (mkF m pc Ls rest)) t := by
  obtain ⟨-, -, m', k, i0, p0, h1, h2, h3⟩ := S
  have e1 : (Z.setVm s.vm).methodNamed? x = some m' := by rw [State.methodNamed?_setVm hZ.alike]; exact h1
  cases (show (Z.setVm s.vm).methodNamed? x = some m from hnamed).symm.trans e1
  obtain ⟨k', q1, q2⟩ := hZ.alike.2.2 _ _ h2
  have hw : e.platform.lambdaLinkWords = 3072 := by rw [X.admits.platform]
  exact X.lambdaConstant hx (g := mkF m pc Ls rest) rfl hsize hd q1 (i0 := i0) (p0 := p0) (a := a) (by rw [q2]; exact h3) (by rw [hw]; have hW' : 2 * 0 + ((mkF m pc Ls rest).stack.map fun v => v.category).sum ≤ W := hW; show 2 * 0 + ((mkF m pc Ls rest).stack.map fun v => v.category).sum + 3072 ≤ R.locals; omega) kt
end OwnLam

theorem own_ofN {e : Nat} (h : e < 2147483648) : (Int32.ofNat e).toInt = (e : Int) := Int32.toInt_ofNat_small h
theorem own_clamp {z : Int32} {n : Nat} (h : z.toInt = (n : Int)) : z.toNatClampNeg = n ∧ ¬ z < 0 := by
  refine ⟨by simp [Int32.toNatClampNeg, h], ?_⟩
  rw [Int32.lt_iff_toInt_lt]; simp only [Int32.reduceToInt]; omega
theorem own_toArv {Z : State} {h : Heap} {a : Addr} {n : Nat} {f : Nat → Int64} (A : own_AJ Z h a n f) {z : Int32} (hz : z.toInt = (n : Int)) : ∃ k, Arv Z h a k .long z ((List.range n).map fun j => Value.long (f j)) (.long 0) := by
  obtain ⟨cl, r, r1, r2⟩ := A
  obtain ⟨q1, q2⟩ := own_clamp hz
  have g : ∀ i, i < n → ((List.range n).map fun j => Value.long (f j)).getD i (.long 0) = .long (f i) := fun i hi => by
    simp [List.getD_eq_getElem?_getD, hi]
  exact ⟨cl.cls, cl, r, rfl, by rw [r1, q1], q2, fun i hi => by rw [g i (by omega)]; exact r2 i (by omega), fun i hi => by rw [g i (by omega)]; rfl⟩
theorem own_ofArv {Z : State} {h : Heap} {a : Addr} {k : ClassId} {n : Nat} {f : Nat → Int64} {z : Int32} {vs : List Value} {d : Value} (A : Arv Z h a k .long z vs d) (hz : z.toInt = (n : Int)) (hf : ∀ j, j < n → vs.getD j d = .long (f j)) : own_AJ Z h a n f := by
  obtain ⟨cl, r, -, r2, -, r4, -⟩ := A
  obtain ⟨q1, q2⟩ := own_clamp hz
  exact ⟨cl, r, by rw [r2, q1], fun j hj => by rw [r4 j (by omega), hf j hj]⟩
theorem own_cpd (n N : Nat) (h : n ≤ N) (f g : Nat → Int64) (j : Nat) (hj : j < N) : (((List.range N).map fun j => Value.long (g j)).take 0 ++ ((List.range n).map fun i => ((List.range n).map fun j => Value.long (f j)).getD (0 + i) (.long 0)) ++ ((List.range N).map fun j => Value.long (g j)).drop (0 + n)).getD j (.long 0) = .long (if j < n then f j else g j) := by
  simp only [List.take_zero, List.nil_append, Nat.zero_add, List.getD_eq_getElem?_getD]
  by_cases q : j < n
  · rw [List.getElem?_append_left (by simpa using q)]
    simp [q]
  · rw [List.getElem?_append_right (by simpa using Nat.le_of_not_lt q)]
    have e : n + (j - n) = j := by omega
    simp [q, e, hj]
theorem d22_0 : decode jdk_29_method_69_code 0 = .ok (.iload_n 0, 1) := by decide +kernel
theorem d22_1 : decode jdk_29_method_69_code 1 = .ok (.iload_n 1, 1) := by decide +kernel
theorem d22_2 : decode jdk_29_method_69_code 2 = .ok (.if_icmp .gt 7, 3) := by decide +kernel
theorem d22_5 : decode jdk_29_method_69_code 5 = .ok (.iload_n 0, 1) := by decide +kernel
theorem d22_6 : decode jdk_29_method_69_code 6 = .ok (.goto 4, 3) := by decide +kernel
theorem d22_9 : decode jdk_29_method_69_code 9 = .ok (.iload_n 1, 1) := by decide +kernel
theorem d22_10 : decode jdk_29_method_69_code 10 = .ok (.ireturn, 1) := by decide +kernel
theorem d21_0 : decode jdk_65_method_124_code 0 = .ok (.iload_n 1, 1) := by decide +kernel
theorem d21_1 : decode jdk_65_method_124_code 1 = .ok (.aload_n 0, 1) := by decide +kernel
theorem d21_2 : decode jdk_65_method_124_code 2 = .ok (.arraylength, 1) := by decide +kernel
theorem d21_3 : decode jdk_65_method_124_code 3 = .ok (.if_icmp .ne 11, 3) := by decide +kernel
theorem d21_6 : decode jdk_65_method_124_code 6 = .ok (.aload_n 0, 1) := by decide +kernel
theorem d21_7 : decode jdk_65_method_124_code 7 = .ok (.invokevirtual 319, 3) := by decide +kernel
theorem d21_10 : decode jdk_65_method_124_code 10 = .ok (.checkcast 320, 3) := by decide +kernel
theorem d21_13 : decode jdk_65_method_124_code 13 = .ok (.areturn, 1) := by decide +kernel
theorem d21_14 : decode jdk_65_method_124_code 14 = .ok (.iload_n 1, 1) := by decide +kernel
theorem d21_15 : decode jdk_65_method_124_code 15 = .ok (.newarray .long, 2) := by decide +kernel
theorem d21_17 : decode jdk_65_method_124_code 17 = .ok (.astore_n 2, 1) := by decide +kernel
theorem d21_18 : decode jdk_65_method_124_code 18 = .ok (.aload_n 0, 1) := by decide +kernel
theorem d21_19 : decode jdk_65_method_124_code 19 = .ok (.iconst 0, 1) := by decide +kernel
theorem d21_20 : decode jdk_65_method_124_code 20 = .ok (.aload_n 2, 1) := by decide +kernel
theorem d21_21 : decode jdk_65_method_124_code 21 = .ok (.iconst 0, 1) := by decide +kernel
theorem d21_22 : decode jdk_65_method_124_code 22 = .ok (.aload_n 0, 1) := by decide +kernel
theorem d21_23 : decode jdk_65_method_124_code 23 = .ok (.arraylength, 1) := by decide +kernel
theorem d21_24 : decode jdk_65_method_124_code 24 = .ok (.iload_n 1, 1) := by decide +kernel
theorem d21_25 : decode jdk_65_method_124_code 25 = .ok (.invokestatic 304, 3) := by decide +kernel
theorem d21_28 : decode jdk_65_method_124_code 28 = .ok (.invokestatic 150, 3) := by decide +kernel
theorem d21_31 : decode jdk_65_method_124_code 31 = .ok (.aload_n 2, 1) := by decide +kernel
theorem d21_32 : decode jdk_65_method_124_code 32 = .ok (.areturn, 1) := by decide +kernel
theorem pn_21 : plainName "java/util/Arrays" = true := by first | (simp [plainName, overriddenIn]; done) | decide +kernel
set_option maxRecDepth 65536 in
set_option maxHeartbeats 40000000 in
theorem rm22 (l : Launch) (Z : State) (a0 : Array Value) (hw : ∀ d ∈ tables_1, d.before a0 Z = true) (ws : List Jvm.Cond) (p1 : Int32) (p2 : Int32)  (h0 : Heap) (n0 : Nat) (Z0 : n0 ≤ h0.size) :
    MetFree l (⟨"java/lang/Math", "min", "(II)I"⟩ : MethodName) (head1 (Jvm.Cond.code (⟨"java/lang/Math", "min", "(II)I"⟩ : MethodName) jdk_29_method_69_code 2 (some .int) :: ws) ({ frames := 0, cells := 0, slots := 0, locals := 0 } : Room)) (fun a U => a = #[(.int p1), (.int p2)] ∧ Z.Warmed39 U.vm ∧ U.heap = h0) (fun _ _ _ _ _ => True) (fun _ U o U' => ∃ vv LL, o = .returned vv ∧ own_ap (fun v h L => v = some (.int (if p2 < p1 then p2 else p1)) ∧ Fr n0 L ∧ h = h0) vv U'.heap LL ∧ FrameEnd U o U' LL 0 0) := by
  refine MetFree.of_bodySF (Jvm.Free.JP.mathPlain rfl (by decide +kernel)) hisR ?_
  intro p e s m args below meth c s₁ Bd hml0 hP hK
  obtain ⟨rfl, hZ, hh⟩ := hP
  have hx := Bd.exec
  have hby := Bd.bytes
  have hml : c.maxLocals = 2 := hml0
  have hown : s.vm.findClass "java/lang/Math" = some m.cls := findClass_of_methodNamed Bd.named
  have hnm := (name_of_methodNamed Bd.named Bd.method).1
  have X0 : Stand p l e ({ frames := 0, cells := 0, slots := 0, locals := 0 } : Room) s m #[(.int p1), (.int p2)] below meth c s₁ [] 0 0 := Stand.of_body Bd
  have e0 : s₁.heap = h0 := by rw [← hh, Bd.state]; rfl
  have N0 := Fr.nil n0
  show own_Go p.tables e below (own_Q s (fun v h L => v = some (.int (if p2 < p1 then p2 else p1)) ∧ Fr n0 L ∧ h = h0) 0 0) (s₁.setTop (entryFrame m #[(.int p1), (.int p2)] 2))
  rw [show entryFrame m #[(.int p1), (.int p2)] 2 = mkF m 0 #[.val (.int p1), .val (.int p2)] [] from by first | (simp [entryFrame, mkF, argsToLocals, Value.category]; done) | rfl]
  show own_Go _ _ _ _ (s₁.setTop (mkF m 0 #[.val (.int p1), .val (.int p2)] []))
  refine own_by (fun _ k => XS.iloadN X0.here hx rfl (hb hby d22_0) rfl k) ?_
  refine own_by (fun _ k => XS.iloadN X0.here hx rfl (hb hby d22_1) rfl k) ?_
  show own_Go _ _ _ _ (s₁.setTop (mkF m 2 #[.val (.int p1), .val (.int p2)] [(.int p2), (.int p1)]))
  by_cases hc1 : p2 < p1
  · --
    refine own_by (fun _ k => XS.icmpYes X0.here hx rfl (pc0 := 2) (pc' := 9) rfl (hb hby d22_2) rfl (tlt hc1).2.2.1 (by decide) (by decide) k) ?_
    refine own_by (fun _ k => XS.iloadN X0.here hx rfl (hb hby d22_9) rfl k) ?_
    show own_Go _ _ _ _ (s₁.setTop (mkF m 10 #[.val (.int p1), .val (.int p2)] [(.int p2)]))
    exact own_retI X0 hx Bd.notSynchronized e0 Bd.returns (hb hby d22_10) (⟨by simp [hc1], N0, rfl⟩) (by decide) (by decide)
  · --
    refine own_by (fun _ k => XS.icmpNo X0.here hx rfl (hb hby d22_2) rfl (flt hc1).2.2.1 k) ?_
    refine own_by (fun _ k => XS.iloadN X0.here hx rfl (hb hby d22_5) rfl k) ?_
    show own_Go _ _ _ _ (s₁.setTop (mkF m 6 #[.val (.int p1), .val (.int p2)] [(.int p1)]))
    refine own_by (fun _ k => XS.goto X0.here hx rfl (pc0 := 6) (pc' := 10) rfl (hb hby d22_6) (by decide) (by decide) k) ?_
    show own_Go _ _ _ _ (s₁.setTop (mkF m 10 #[.val (.int p1), .val (.int p2)] [(.int p1)]))
    exact own_retI X0 hx Bd.notSynchronized e0 Bd.returns (hb hby d22_10) (⟨by simp [hc1], N0, rfl⟩) (by decide) (by decide)
set_option maxRecDepth 65536 in
set_option maxHeartbeats 40000000 in
theorem rm21 (l : Launch) (Z : State) (a0 : Array Value) (hw : ∀ d ∈ tables_1, d.before a0 Z = true) (ws : List Jvm.Cond) (a1 : Addr) (p1 : Int32) (n N : Nat) (f : Nat → Int64) (h0 : Heap) (n0 : Nat) (Z0 : n0 ≤ h0.size) (PA : own_AJ Z h0 a1 n f) (hN : p1.toInt = (N : Int)) (hnN : n ≤ N) (hne : n ≠ N) (hNc : N ≤ 2) :
    MetFree l (⟨"java/util/Arrays", "copyOf", "([JI)[J"⟩ : MethodName) (head1 (Jvm.Cond.code (⟨"java/util/Arrays", "copyOf", "([JI)[J"⟩ : MethodName) jdk_65_method_124_code 3 (some (.array .long)) :: ws) ({ frames := 1, cells := 1, slots := 2, locals := 60 } : Room)) (fun a U => a = #[(.ref a1), (.int p1)] ∧ Z.Warmed39 U.vm ∧ U.heap = h0) (fun _ _ _ _ _ => True) (fun _ U o U' => ∃ vv LL, o = .returned vv ∧ own_ap (fun v h L => v = some (.ref h0.size) ∧ Fr n0 L ∧ Keep h0 h [] ∧ own_AJ Z h h0.size N (fun j => if j < n then f j else 0)) vv U'.heap LL ∧ FrameEnd U o U' LL 1 2) := by
  refine MetFree.of_bodySF (plainFor_of_name pn_21) hisR ?_
  intro p e s m args below meth c s₁ Bd hml0 hP hK
  obtain ⟨rfl, hZ, hh⟩ := hP
  have hx := Bd.exec
  have hby := Bd.bytes
  have hml : c.maxLocals = 3 := hml0
  have hown : s.vm.findClass "java/util/Arrays" = some m.cls := findClass_of_methodNamed Bd.named
  have hnm := (name_of_methodNamed Bd.named Bd.method).1
  have X0 : Stand p l e ({ frames := 1, cells := 1, slots := 2, locals := 60 } : Room) s m #[(.ref a1), (.int p1)] below meth c s₁ [] 0 0 := Stand.of_body Bd
  have e0 : s₁.heap = h0 := by rw [← hh, Bd.state]; rfl
  have N0 := Fr.nil n0
  show own_Go p.tables e below (own_Q s (fun v h L => v = some (.ref h0.size) ∧ Fr n0 L ∧ Keep h0 h [] ∧ own_AJ Z h h0.size N (fun j => if j < n then f j else 0)) 1 2) (s₁.setTop (entryFrame m #[(.ref a1), (.int p1)] 3))
  rw [show entryFrame m #[(.ref a1), (.int p1)] 3 = mkF m 0 #[.val (.ref a1), .val (.int p1), .unset] [] from by first | (simp [entryFrame, mkF, argsToLocals, Value.category]; done) | rfl]
  obtain ⟨zn, hznE, hzn⟩ : ∃ z : Int32, z = n.toInt32 ∧ z.toInt = (n : Int) := ⟨n.toInt32, rfl, own_ofN (by omega)⟩
  show own_Go _ _ _ _ (s₁.setTop (mkF m 0 #[.val (.ref a1), .val (.int p1), .unset] []))
  refine own_by (fun _ k => XS.iloadN X0.here hx rfl (hb hby d21_0) rfl k) ?_
  refine own_by (fun _ k => XS.aloadN X0.here hx rfl (hb hby d21_1) rfl rfl k) ?_
  show own_Go _ _ _ _ (s₁.setTop (mkF m 2 #[.val (.ref a1), .val (.int p1), .unset] [(.ref a1), (.int p1)]))
  refine own_by (fun _ k => own_len X0 hx hZ e0 PA zn hznE (hb hby d21_2) k) ?_
  show own_Go _ _ _ _ (s₁.setTop (mkF m 3 #[.val (.ref a1), .val (.int p1), .unset] [(.int zn), (.int p1)]))
  refine own_by (fun _ k => XS.icmpYes X0.here hx rfl (pc0 := 3) (pc' := 14) rfl (hb hby d21_3) rfl (feq (fun q => by have q' := congrArg Int32.toInt q; rw [hN, hzn] at q'; omega)).2 (by decide) (by decide) k) ?_
  refine own_by (fun _ k => XS.iloadN X0.here hx rfl (hb hby d21_14) rfl k) ?_
  show own_Go _ _ _ _ (s₁.setTop (mkF m 15 #[.val (.ref a1), .val (.int p1), .unset] [(.int p1)]))
  refine own_newP X0 hx hZ (hw _ (List.mem_of_getElem? (i := 43) rfl)) e0 N hN 2 hNc (by decide) (by decide) (by decide) (hb hby d21_15) ?_
  intro T1 h1 X1 e1 E1 A1
  show own_Go _ _ _ _ (T1.setTop (mkF m 17 #[.val (.ref a1), .val (.int p1), .unset] [.ref h0.size]))
  obtain ⟨b1, g1⟩ : ∃ z, z = h0.size := ⟨_, rfl⟩
  rw [← g1] at A1
  refine own_gen g1.symm (fun z_ => T1.setTop (mkF m 17 #[.val (.ref a1), .val (.int p1), .unset] [.ref z_])) ?_
  have ne2 : a1 ≠ b1 := Nat.ne_of_lt (Nat.lt_of_lt_of_le PA.lt (Nat.le_of_eq g1.symm))
  have ge1 : n0 ≤ b1 := Nat.le_trans Z0 (Nat.le_of_eq g1.symm)
  have nw1 : h0.size ≤ b1 := Nat.le_trans (Keep.refl h0 []).1 (Nat.le_of_eq g1.symm)
  have f3 := PA.ext E1
  have f4 := (Keep.refl h0 []).ext E1
  have Z1 := Nat.le_trans Z0 E1.1
  have f5 : own_AJ Z h1 b1 N (fun _ => 0) := A1
  show own_Go _ _ _ _ (T1.setTop (mkF m 17 #[.val (.ref a1), .val (.int p1), .unset] [(.ref b1)]))
  refine own_by (fun _ k => XS.astoreN X1.here hx rfl (hb hby d21_17) rfl rfl (l' := #[.val (.ref a1), .val (.int p1), .val (.ref b1)]) rfl k) ?_
  refine own_by (fun _ k => XS.aloadN X1.here hx rfl (hb hby d21_18) rfl rfl k) ?_
  refine own_by (fun _ k => XS.iconst X1.here hx rfl (hb hby d21_19) k) ?_
  show own_Go _ _ _ _ (T1.setTop (mkF m 20 #[.val (.ref a1), .val (.int p1), .val (.ref b1)] [(.int (0 : Int32)), (.ref a1)]))
  refine own_by (fun _ k => XS.aloadN X1.here hx rfl (hb hby d21_20) rfl rfl k) ?_
  refine own_by (fun _ k => XS.iconst X1.here hx rfl (hb hby d21_21) k) ?_
  refine own_by (fun _ k => XS.aloadN X1.here hx rfl (hb hby d21_22) rfl rfl k) ?_
  show own_Go _ _ _ _ (T1.setTop (mkF m 23 #[.val (.ref a1), .val (.int p1), .val (.ref b1)] [(.ref a1), (.int (0 : Int32)), (.ref b1), (.int (0 : Int32)), (.ref a1)]))
  refine own_by (fun _ k => own_len X1 hx hZ e1 f3 zn hznE (hb hby d21_23) k) ?_
  refine own_by (fun _ k => XS.iloadN X1.here hx rfl (hb hby d21_24) rfl k) ?_
  show own_Go _ _ _ _ (T1.setTop (mkF m 25 #[.val (.ref a1), .val (.int p1), .val (.ref b1)] [(.int p1), (.int zn), (.int (0 : Int32)), (.ref b1), (.int (0 : Int32)), (.ref a1)]))
  refine own_callS X1 hx hZ hown (hw _ (List.mem_of_getElem? (i := 141) rfl)) (hw _ (List.mem_of_getElem? (i := 142) rfl)) (hw _ (List.mem_of_getElem? (i := 104) rfl)) (hw _ (List.mem_of_getElem? (i := 143) rfl)) (by decide) (rm22 l Z a0 hw [] zn p1 h1 n0 Z1) e1 (by rw [hml]; rfl) [(.int zn), (.int p1)] [(.int (0 : Int32)), (.ref b1), (.int (0 : Int32)), (.ref a1)] rfl (lenOf own_pd10 rfl) rfl 4 (Nat.le_of_eq rfl) (by decide) (by decide) (Nat.le_of_ble_eq_true rfl) (Nat.le_of_ble_eq_true rfl) (hb hby d21_25) ?_
  intro T6 Lc6 v6 X6 hQ6
  obtain ⟨rfl, N6q, e6⟩ := hQ6
  have N6 := Fr.app N0 N6q
  show own_Go _ _ _ _ (T6.setTop (mkF m 28 #[.val (.ref a1), .val (.int p1), .val (.ref b1)] [(.int (if p1 < zn then p1 else zn)), (.int (0 : Int32)), (.ref b1), (.int (0 : Int32)), (.ref a1)]))
  rw [show (if p1 < zn then p1 else zn) = zn from if_neg (by rw [Int32.lt_iff_toInt_lt, hzn, hN]; omega)]
  obtain ⟨ka, Va⟩ := own_toArv f3 hzn
  obtain ⟨kb, Vb⟩ := own_toArv f5 hN
  obtain ⟨T7, h7, L7, X7, e7, N7, K7, V7, st7⟩ := cpA X6 hx hZ hown (hw _ (List.mem_of_getElem? (i := 144) rfl)) (hw _ (List.mem_of_getElem? (i := 147) rfl)) (hw _ (List.mem_of_getElem? (i := 145) rfl)) (hw _ (List.mem_of_getElem? (i := 146) rfl)) e6 Va Vb (Or.inl ⟨rfl, rfl⟩) (sp := (0 : Int32)) (dp := (0 : Int32)) (nn := zn) (by decide) (by decide) (own_clamp hzn).2 (by rw [(own_clamp hzn).1]; simp) (by rw [(own_clamp hzn).1, (own_clamp hN).1]; simpa using hnN) rfl (by rw [(own_clamp hzn).1]; simpa using hnN) N6 ge1 (g := (mkF m 28 #[.val (.ref a1), .val (.int p1), .val (.ref b1)] [(.int zn), (.int (0 : Int32)), (.ref b1), (.int (0 : Int32)), (.ref a1)])) rfl (by rw [hml]; rfl) rfl (hb hby d21_28) (by decide) (W := 0) (by show 2 * 0 + _ ≤ _; exact Nat.le_of_eq rfl) (by decide)
  refine own_by st7 ?_
  have A7 : own_AJ Z h7 b1 N (fun j => if j < n then f j else 0) := own_ofArv V7 hN (fun j hj => by have q := own_cpd n N hnN f (fun _ => 0) j hj; rw [(own_clamp hzn).1]; exact q)
  have f8 := f3.keep K7 (ninS ne2 nin0)
  have f9 := f4.trans K7 (allS (P := fun x => x ∈ [] ∨ h0.size ≤ x) (Or.inr nw1) all0)
  have Z7 := Nat.le_trans Z1 K7.1
  show own_Go _ _ _ _ (T7.setTop (mkF m 31 #[.val (.ref a1), .val (.int p1), .val (.ref b1)] []))
  refine own_by (fun _ k => XS.aloadN X7.here hx rfl (hb hby d21_31) rfl rfl k) ?_
  show own_Go _ _ _ _ (T7.setTop (mkF m 32 #[.val (.ref a1), .val (.int p1), .val (.ref b1)] [(.ref b1)]))
  exact own_retA X7 hx Bd.notSynchronized e7 Bd.returns rfl rfl rfl (hb hby d21_32) (⟨by rw [g1], N7, f9, by rw [← g1]; exact A7⟩) (by decide) (by decide)
theorem pn_0 : plainName "com/example/sonde/sonde/engine/AnswerSetsHoldingPinLaw" = true := by first | (simp [plainName, overriddenIn]; done) | decide +kernel
theorem d1_0 : decode prog_86_method_1_code 0 = .ok (.aload_n 0, 1) := by decide +kernel
theorem d1_1 : decode prog_86_method_1_code 1 = .ok (.invokespecial 1, 3) := by decide +kernel
theorem d1_4 : decode prog_86_method_1_code 4 = .ok (.aload_n 0, 1) := by decide +kernel
theorem d1_5 : decode prog_86_method_1_code 5 = .ok (.new 7, 3) := by decide +kernel
theorem d1_8 : decode prog_86_method_1_code 8 = .ok (.dup, 1) := by decide +kernel
theorem d1_9 : decode prog_86_method_1_code 9 = .ok (.invokespecial 9, 3) := by decide +kernel
theorem d1_12 : decode prog_86_method_1_code 12 = .ok (.putfield 10, 3) := by decide +kernel
theorem d1_15 : decode prog_86_method_1_code 15 = .ok (.aload_n 0, 1) := by decide +kernel
theorem d1_16 : decode prog_86_method_1_code 16 = .ok (.new 16, 3) := by decide +kernel
theorem d1_19 : decode prog_86_method_1_code 19 = .ok (.dup, 1) := by decide +kernel
theorem d1_20 : decode prog_86_method_1_code 20 = .ok (.invokespecial 18, 3) := by decide +kernel
theorem d1_23 : decode prog_86_method_1_code 23 = .ok (.putfield 19, 3) := by decide +kernel
theorem d1_26 : decode prog_86_method_1_code 26 = .ok (.aload_n 0, 1) := by decide +kernel
theorem d1_27 : decode prog_86_method_1_code 27 = .ok (.new 16, 3) := by decide +kernel
theorem d1_30 : decode prog_86_method_1_code 30 = .ok (.dup, 1) := by decide +kernel
theorem d1_31 : decode prog_86_method_1_code 31 = .ok (.invokespecial 18, 3) := by decide +kernel
theorem d1_34 : decode prog_86_method_1_code 34 = .ok (.putfield 23, 3) := by decide +kernel
theorem d1_37 : decode prog_86_method_1_code 37 = .ok (.aload_n 0, 1) := by decide +kernel
theorem d1_38 : decode prog_86_method_1_code 38 = .ok (.iload_n 1, 1) := by decide +kernel
theorem d1_39 : decode prog_86_method_1_code 39 = .ok (.anewarray 16, 3) := by decide +kernel
theorem d1_42 : decode prog_86_method_1_code 42 = .ok (.putfield 26, 3) := by decide +kernel
theorem d1_45 : decode prog_86_method_1_code 45 = .ok (.aload_n 0, 1) := by decide +kernel
theorem d1_46 : decode prog_86_method_1_code 46 = .ok (.getfield 26, 3) := by decide +kernel
theorem d1_49 : decode prog_86_method_1_code 49 = .ok (.invokedynamic 30, 5) := by decide +kernel
theorem d1_54 : decode prog_86_method_1_code 54 = .ok (.invokestatic 34, 3) := by decide +kernel
theorem d1_57 : decode prog_86_method_1_code 57 = .ok (.aload_n 0, 1) := by decide +kernel
theorem d1_58 : decode prog_86_method_1_code 58 = .ok (.iload_n 1, 1) := by decide +kernel
theorem d1_59 : decode prog_86_method_1_code 59 = .ok (.iload_n 1, 1) := by decide +kernel
theorem d1_60 : decode prog_86_method_1_code 60 = .ok (.imul, 1) := by decide +kernel
theorem d1_61 : decode prog_86_method_1_code 61 = .ok (.anewarray 16, 3) := by decide +kernel
theorem d1_64 : decode prog_86_method_1_code 64 = .ok (.putfield 40, 3) := by decide +kernel
theorem d1_67 : decode prog_86_method_1_code 67 = .ok (.iconst 0, 1) := by decide +kernel
theorem d1_68 : decode prog_86_method_1_code 68 = .ok (.istore_n 2, 1) := by decide +kernel
theorem d1_69 : decode prog_86_method_1_code 69 = .ok (.iload_n 2, 1) := by decide +kernel
theorem d1_70 : decode prog_86_method_1_code 70 = .ok (.iload_n 1, 1) := by decide +kernel
theorem d1_71 : decode prog_86_method_1_code 71 = .ok (.if_icmp .ge 26, 3) := by decide +kernel
theorem d1_74 : decode prog_86_method_1_code 74 = .ok (.aload_n 0, 1) := by decide +kernel
theorem d1_75 : decode prog_86_method_1_code 75 = .ok (.getfield 10, 3) := by decide +kernel
theorem d1_78 : decode prog_86_method_1_code 78 = .ok (.new 7, 3) := by decide +kernel
theorem d1_81 : decode prog_86_method_1_code 81 = .ok (.dup, 1) := by decide +kernel
theorem d1_82 : decode prog_86_method_1_code 82 = .ok (.invokespecial 9, 3) := by decide +kernel
theorem d1_85 : decode prog_86_method_1_code 85 = .ok (.invokeinterface 43 2, 5) := by decide +kernel
theorem d1_90 : decode prog_86_method_1_code 90 = .ok (.pop, 1) := by decide +kernel
theorem d1_91 : decode prog_86_method_1_code 91 = .ok (.iinc 2 1, 3) := by decide +kernel
theorem d1_94 : decode prog_86_method_1_code 94 = .ok (.goto (-25), 3) := by decide +kernel
theorem d1_97 : decode prog_86_method_1_code 97 = .ok (.return_, 1) := by decide +kernel
theorem pn_1 : plainName "com/example/sonde/sonde/engine/AnswerSets" = true := by first | (simp [plainName, overriddenIn]; done) | decide +kernel
theorem d3_0 : decode jdk_38_method_2_code 0 = .ok (.aload_n 0, 1) := by decide +kernel
theorem d3_1 : decode jdk_38_method_2_code 1 = .ok (.invokespecial 1, 3) := by decide +kernel
theorem d3_4 : decode jdk_38_method_2_code 4 = .ok (.aload_n 0, 1) := by decide +kernel
theorem d3_5 : decode jdk_38_method_2_code 5 = .ok (.getstatic 39, 3) := by decide +kernel
theorem d3_8 : decode jdk_38_method_2_code 8 = .ok (.putfield 9, 3) := by decide +kernel
theorem d3_11 : decode jdk_38_method_2_code 11 = .ok (.return_, 1) := by decide +kernel
theorem pn_3 : plainName "java/util/ArrayList" = true := by first | (simp [plainName, overriddenIn]; done) | decide +kernel
theorem d4_0 : decode jdk_39_method_1_code 0 = .ok (.aload_n 0, 1) := by decide +kernel
theorem d4_1 : decode jdk_39_method_1_code 1 = .ok (.invokespecial 1, 3) := by decide +kernel
theorem d4_4 : decode jdk_39_method_1_code 4 = .ok (.aload_n 0, 1) := by decide +kernel
theorem d4_5 : decode jdk_39_method_1_code 5 = .ok (.iconst 0, 1) := by decide +kernel
theorem d4_6 : decode jdk_39_method_1_code 6 = .ok (.putfield 7, 3) := by decide +kernel
theorem d4_9 : decode jdk_39_method_1_code 9 = .ok (.return_, 1) := by decide +kernel
theorem pn_4 : plainName "java/util/AbstractList" = true := by first | (simp [plainName, overriddenIn]; done) | decide +kernel
theorem d5_0 : decode jdk_22_method_1_code 0 = .ok (.aload_n 0, 1) := by decide +kernel
theorem d5_1 : decode jdk_22_method_1_code 1 = .ok (.invokespecial 1, 3) := by decide +kernel
theorem d5_4 : decode jdk_22_method_1_code 4 = .ok (.return_, 1) := by decide +kernel
theorem pn_5 : plainName "java/util/AbstractCollection" = true := by first | (simp [plainName, overriddenIn]; done) | decide +kernel
theorem d6_0 : decode prog_101_method_1_code 0 = .ok (.aload_n 0, 1) := by decide +kernel
theorem d6_1 : decode prog_101_method_1_code 1 = .ok (.invokespecial 1, 3) := by decide +kernel
theorem d6_4 : decode prog_101_method_1_code 4 = .ok (.aload_n 0, 1) := by decide +kernel
theorem d6_5 : decode prog_101_method_1_code 5 = .ok (.iconst 1, 1) := by decide +kernel
theorem d6_6 : decode prog_101_method_1_code 6 = .ok (.newarray .long, 2) := by decide +kernel
theorem d6_8 : decode prog_101_method_1_code 8 = .ok (.putfield 7, 3) := by decide +kernel
theorem d6_11 : decode prog_101_method_1_code 11 = .ok (.aload_n 0, 1) := by decide +kernel
theorem d6_12 : decode prog_101_method_1_code 12 = .ok (.iconst 1, 1) := by decide +kernel
theorem d6_13 : decode prog_101_method_1_code 13 = .ok (.newarray .long, 2) := by decide +kernel
theorem d6_15 : decode prog_101_method_1_code 15 = .ok (.putfield 13, 3) := by decide +kernel
theorem d6_18 : decode prog_101_method_1_code 18 = .ok (.return_, 1) := by decide +kernel
theorem pn_6 : plainName "com/example/sonde/sonde/engine/Bits" = true := by first | (simp [plainName, overriddenIn]; done) | decide +kernel
theorem d7_0 : decode jdk_65_method_173_code 0 = .ok (.aload_n 1, 1) := by decide +kernel
theorem d7_1 : decode jdk_65_method_173_code 1 = .ok (.invokestatic 175, 3) := by decide +kernel
theorem d7_4 : decode jdk_65_method_173_code 4 = .ok (.pop, 1) := by decide +kernel
theorem d7_5 : decode jdk_65_method_173_code 5 = .ok (.iconst 0, 1) := by decide +kernel
theorem d7_6 : decode jdk_65_method_173_code 6 = .ok (.istore_n 2, 1) := by decide +kernel
theorem d7_7 : decode jdk_65_method_173_code 7 = .ok (.iload_n 2, 1) := by decide +kernel
theorem d7_8 : decode jdk_65_method_173_code 8 = .ok (.aload_n 0, 1) := by decide +kernel
theorem d7_9 : decode jdk_65_method_173_code 9 = .ok (.arraylength, 1) := by decide +kernel
theorem d7_10 : decode jdk_65_method_173_code 10 = .ok (.if_icmp .ge 19, 3) := by decide +kernel
theorem d7_13 : decode jdk_65_method_173_code 13 = .ok (.aload_n 0, 1) := by decide +kernel
theorem d7_14 : decode jdk_65_method_173_code 14 = .ok (.iload_n 2, 1) := by decide +kernel
theorem d7_15 : decode jdk_65_method_173_code 15 = .ok (.aload_n 1, 1) := by decide +kernel
theorem d7_16 : decode jdk_65_method_173_code 16 = .ok (.iload_n 2, 1) := by decide +kernel
theorem d7_17 : decode jdk_65_method_173_code 17 = .ok (.invokeinterface 558 2, 5) := by decide +kernel
theorem d7_22 : decode jdk_65_method_173_code 22 = .ok (.aastore, 1) := by decide +kernel
theorem d7_23 : decode jdk_65_method_173_code 23 = .ok (.iinc 2 1, 3) := by decide +kernel
theorem d7_26 : decode jdk_65_method_173_code 26 = .ok (.goto (-19), 3) := by decide +kernel
theorem d7_29 : decode jdk_65_method_173_code 29 = .ok (.return_, 1) := by decide +kernel
theorem pn_7 : plainName "java/util/Arrays" = true := by first | (simp [plainName, overriddenIn]; done) | decide +kernel
theorem d8_0 : decode jdk_31_method_10_code 0 = .ok (.aload_n 0, 1) := by decide +kernel
theorem d8_1 : decode jdk_31_method_10_code 1 = .ok (.ifnonnull 11, 3) := by decide +kernel
theorem d8_4 : decode jdk_31_method_10_code 4 = .ok (.new 84, 3) := by decide +kernel
theorem d8_7 : decode jdk_31_method_10_code 7 = .ok (.dup, 1) := by decide +kernel
theorem d8_8 : decode jdk_31_method_10_code 8 = .ok (.invokespecial 86, 3) := by decide +kernel
theorem d8_11 : decode jdk_31_method_10_code 11 = .ok (.athrow, 1) := by decide +kernel
theorem d8_12 : decode jdk_31_method_10_code 12 = .ok (.aload_n 0, 1) := by decide +kernel
theorem d8_13 : decode jdk_31_method_10_code 13 = .ok (.areturn, 1) := by decide +kernel
theorem pn_8 : plainName "java/util/Objects" = true := by first | (simp [plainName, overriddenIn]; done) | decide +kernel
theorem d9_0 : decode prog_86_method_9_code 0 = .ok (.new 16, 3) := by decide +kernel
theorem d9_3 : decode prog_86_method_9_code 3 = .ok (.dup, 1) := by decide +kernel
theorem d9_4 : decode prog_86_method_9_code 4 = .ok (.invokespecial 18, 3) := by decide +kernel
theorem d9_7 : decode prog_86_method_9_code 7 = .ok (.areturn, 1) := by decide +kernel
theorem pn_9 : plainName "com/example/sonde/sonde/engine/AnswerSets" = true := by first | (simp [plainName, overriddenIn]; done) | decide +kernel
theorem d10_0 : decode jdk_38_method_25_code 0 = .ok (.aload_n 0, 1) := by decide +kernel
theorem d10_1 : decode jdk_38_method_25_code 1 = .ok (.dup, 1) := by decide +kernel
theorem d10_2 : decode jdk_38_method_25_code 2 = .ok (.getfield 63, 3) := by decide +kernel
theorem d10_5 : decode jdk_38_method_25_code 5 = .ok (.iconst 1, 1) := by decide +kernel
theorem d10_6 : decode jdk_38_method_25_code 6 = .ok (.iadd, 1) := by decide +kernel
theorem d10_7 : decode jdk_38_method_25_code 7 = .ok (.putfield 63, 3) := by decide +kernel
theorem d10_10 : decode jdk_38_method_25_code 10 = .ok (.aload_n 0, 1) := by decide +kernel
theorem d10_11 : decode jdk_38_method_25_code 11 = .ok (.aload_n 1, 1) := by decide +kernel
theorem d10_12 : decode jdk_38_method_25_code 12 = .ok (.aload_n 0, 1) := by decide +kernel
theorem d10_13 : decode jdk_38_method_25_code 13 = .ok (.getfield 9, 3) := by decide +kernel
theorem d10_16 : decode jdk_38_method_25_code 16 = .ok (.aload_n 0, 1) := by decide +kernel
theorem d10_17 : decode jdk_38_method_25_code 17 = .ok (.getfield 48, 3) := by decide +kernel
theorem d10_20 : decode jdk_38_method_25_code 20 = .ok (.invokevirtual 131, 3) := by decide +kernel
theorem d10_23 : decode jdk_38_method_25_code 23 = .ok (.iconst 1, 1) := by decide +kernel
theorem d10_24 : decode jdk_38_method_25_code 24 = .ok (.ireturn, 1) := by decide +kernel
theorem pn_10 : plainName "java/util/ArrayList" = true := by first | (simp [plainName, overriddenIn]; done) | decide +kernel
theorem d11_0 : decode jdk_38_method_24_code 0 = .ok (.iload_n 3, 1) := by decide +kernel
theorem d11_1 : decode jdk_38_method_24_code 1 = .ok (.aload_n 2, 1) := by decide +kernel
theorem d11_2 : decode jdk_38_method_24_code 2 = .ok (.arraylength, 1) := by decide +kernel
theorem d11_3 : decode jdk_38_method_24_code 3 = .ok (.if_icmp .ne 8, 3) := by decide +kernel
theorem d11_6 : decode jdk_38_method_24_code 6 = .ok (.aload_n 0, 1) := by decide +kernel
theorem d11_7 : decode jdk_38_method_24_code 7 = .ok (.invokevirtual 129, 3) := by decide +kernel
theorem d11_10 : decode jdk_38_method_24_code 10 = .ok (.astore_n 2, 1) := by decide +kernel
theorem d11_11 : decode jdk_38_method_24_code 11 = .ok (.aload_n 2, 1) := by decide +kernel
theorem d11_12 : decode jdk_38_method_24_code 12 = .ok (.iload_n 3, 1) := by decide +kernel
theorem d11_13 : decode jdk_38_method_24_code 13 = .ok (.aload_n 1, 1) := by decide +kernel
theorem d11_14 : decode jdk_38_method_24_code 14 = .ok (.aastore, 1) := by decide +kernel
theorem d11_15 : decode jdk_38_method_24_code 15 = .ok (.aload_n 0, 1) := by decide +kernel
theorem d11_16 : decode jdk_38_method_24_code 16 = .ok (.iload_n 3, 1) := by decide +kernel
theorem d11_17 : decode jdk_38_method_24_code 17 = .ok (.iconst 1, 1) := by decide +kernel
theorem d11_18 : decode jdk_38_method_24_code 18 = .ok (.iadd, 1) := by decide +kernel
theorem d11_19 : decode jdk_38_method_24_code 19 = .ok (.putfield 48, 3) := by decide +kernel
theorem d11_22 : decode jdk_38_method_24_code 22 = .ok (.return_, 1) := by decide +kernel
theorem pn_11 : plainName "java/util/ArrayList" = true := by first | (simp [plainName, overriddenIn]; done) | decide +kernel
theorem d12_0 : decode jdk_38_method_7_code 0 = .ok (.aload_n 0, 1) := by decide +kernel
theorem d12_1 : decode jdk_38_method_7_code 1 = .ok (.aload_n 0, 1) := by decide +kernel
theorem d12_2 : decode jdk_38_method_7_code 2 = .ok (.getfield 48, 3) := by decide +kernel
theorem d12_5 : decode jdk_38_method_7_code 5 = .ok (.iconst 1, 1) := by decide +kernel
theorem d12_6 : decode jdk_38_method_7_code 6 = .ok (.iadd, 1) := by decide +kernel
theorem d12_7 : decode jdk_38_method_7_code 7 = .ok (.invokevirtual 69, 3) := by decide +kernel
theorem d12_10 : decode jdk_38_method_7_code 10 = .ok (.areturn, 1) := by decide +kernel
theorem pn_12 : plainName "java/util/ArrayList" = true := by first | (simp [plainName, overriddenIn]; done) | decide +kernel
theorem d13_0 : decode jdk_38_method_6_code 0 = .ok (.aload_n 0, 1) := by decide +kernel
theorem d13_1 : decode jdk_38_method_6_code 1 = .ok (.getfield 9, 3) := by decide +kernel
theorem d13_4 : decode jdk_38_method_6_code 4 = .ok (.arraylength, 1) := by decide +kernel
theorem d13_5 : decode jdk_38_method_6_code 5 = .ok (.istore_n 2, 1) := by decide +kernel
theorem d13_6 : decode jdk_38_method_6_code 6 = .ok (.iload_n 2, 1) := by decide +kernel
theorem d13_7 : decode jdk_38_method_6_code 7 = .ok (.ifCond .gt 13, 3) := by decide +kernel
theorem d13_10 : decode jdk_38_method_6_code 10 = .ok (.aload_n 0, 1) := by decide +kernel
theorem d13_11 : decode jdk_38_method_6_code 11 = .ok (.getfield 9, 3) := by decide +kernel
theorem d13_14 : decode jdk_38_method_6_code 14 = .ok (.getstatic 39, 3) := by decide +kernel
theorem d13_17 : decode jdk_38_method_6_code 17 = .ok (.if_acmp .eq 28, 3) := by decide +kernel
theorem d13_20 : decode jdk_38_method_6_code 20 = .ok (.iload_n 2, 1) := by decide +kernel
theorem d13_21 : decode jdk_38_method_6_code 21 = .ok (.iload_n 1, 1) := by decide +kernel
theorem d13_22 : decode jdk_38_method_6_code 22 = .ok (.iload_n 2, 1) := by decide +kernel
theorem d13_23 : decode jdk_38_method_6_code 23 = .ok (.isub, 1) := by decide +kernel
theorem d13_24 : decode jdk_38_method_6_code 24 = .ok (.iload_n 2, 1) := by decide +kernel
theorem d13_25 : decode jdk_38_method_6_code 25 = .ok (.iconst 1, 1) := by decide +kernel
theorem d13_26 : decode jdk_38_method_6_code 26 = .ok (.ishr, 1) := by decide +kernel
theorem d13_27 : decode jdk_38_method_6_code 27 = .ok (.invokestatic 73, 3) := by decide +kernel
theorem d13_30 : decode jdk_38_method_6_code 30 = .ok (.istore_n 3, 1) := by decide +kernel
theorem d13_31 : decode jdk_38_method_6_code 31 = .ok (.aload_n 0, 1) := by decide +kernel
theorem d13_32 : decode jdk_38_method_6_code 32 = .ok (.aload_n 0, 1) := by decide +kernel
theorem d13_33 : decode jdk_38_method_6_code 33 = .ok (.getfield 9, 3) := by decide +kernel
theorem d13_36 : decode jdk_38_method_6_code 36 = .ok (.iload_n 3, 1) := by decide +kernel
theorem d13_37 : decode jdk_38_method_6_code 37 = .ok (.invokestatic 66, 3) := by decide +kernel
theorem d13_40 : decode jdk_38_method_6_code 40 = .ok (.dup_x1, 1) := by decide +kernel
theorem d13_41 : decode jdk_38_method_6_code 41 = .ok (.putfield 9, 3) := by decide +kernel
theorem d13_44 : decode jdk_38_method_6_code 44 = .ok (.areturn, 1) := by decide +kernel
theorem d13_45 : decode jdk_38_method_6_code 45 = .ok (.aload_n 0, 1) := by decide +kernel
theorem d13_46 : decode jdk_38_method_6_code 46 = .ok (.bipush 10, 2) := by decide +kernel
theorem d13_48 : decode jdk_38_method_6_code 48 = .ok (.iload_n 1, 1) := by decide +kernel
theorem d13_49 : decode jdk_38_method_6_code 49 = .ok (.invokestatic 79, 3) := by decide +kernel
theorem d13_52 : decode jdk_38_method_6_code 52 = .ok (.anewarray 7, 3) := by decide +kernel
theorem d13_55 : decode jdk_38_method_6_code 55 = .ok (.dup_x1, 1) := by decide +kernel
theorem d13_56 : decode jdk_38_method_6_code 56 = .ok (.putfield 9, 3) := by decide +kernel
theorem d13_59 : decode jdk_38_method_6_code 59 = .ok (.areturn, 1) := by decide +kernel
theorem pn_13 : plainName "java/util/ArrayList" = true := by first | (simp [plainName, overriddenIn]; done) | decide +kernel
theorem d14_0 : decode jdk_29_method_65_code 0 = .ok (.iload_n 0, 1) := by decide +kernel
theorem d14_1 : decode jdk_29_method_65_code 1 = .ok (.iload_n 1, 1) := by decide +kernel
theorem d14_2 : decode jdk_29_method_65_code 2 = .ok (.if_icmp .lt 7, 3) := by decide +kernel
theorem d14_5 : decode jdk_29_method_65_code 5 = .ok (.iload_n 0, 1) := by decide +kernel
theorem d14_6 : decode jdk_29_method_65_code 6 = .ok (.goto 4, 3) := by decide +kernel
theorem d14_9 : decode jdk_29_method_65_code 9 = .ok (.iload_n 1, 1) := by decide +kernel
theorem d14_10 : decode jdk_29_method_65_code 10 = .ok (.ireturn, 1) := by decide +kernel
theorem d15_0 : decode prog_86_method_3_code 0 = .ok (.iload_n 2, 1) := by decide +kernel
theorem d15_1 : decode prog_86_method_3_code 1 = .ok (.aload_n 0, 1) := by decide +kernel
theorem d15_2 : decode prog_86_method_3_code 2 = .ok (.getfield 26, 3) := by decide +kernel
theorem d15_5 : decode prog_86_method_3_code 5 = .ok (.arraylength, 1) := by decide +kernel
theorem d15_6 : decode prog_86_method_3_code 6 = .ok (.imul, 1) := by decide +kernel
theorem d15_7 : decode prog_86_method_3_code 7 = .ok (.iload_n 3, 1) := by decide +kernel
theorem d15_8 : decode prog_86_method_3_code 8 = .ok (.iadd, 1) := by decide +kernel
theorem d15_9 : decode prog_86_method_3_code 9 = .ok (.istore 4, 2) := by decide +kernel
theorem d15_11 : decode prog_86_method_3_code 11 = .ok (.aload_n 0, 1) := by decide +kernel
theorem d15_12 : decode prog_86_method_3_code 12 = .ok (.getfield 40, 3) := by decide +kernel
theorem d15_15 : decode prog_86_method_3_code 15 = .ok (.iload 4, 2) := by decide +kernel
theorem d15_17 : decode prog_86_method_3_code 17 = .ok (.aaload, 1) := by decide +kernel
theorem d15_18 : decode prog_86_method_3_code 18 = .ok (.ifnonnull 17, 3) := by decide +kernel
theorem d15_21 : decode prog_86_method_3_code 21 = .ok (.aload_n 0, 1) := by decide +kernel
theorem d15_22 : decode prog_86_method_3_code 22 = .ok (.getfield 40, 3) := by decide +kernel
theorem d15_25 : decode prog_86_method_3_code 25 = .ok (.iload 4, 2) := by decide +kernel
theorem d15_27 : decode prog_86_method_3_code 27 = .ok (.new 16, 3) := by decide +kernel
theorem d15_30 : decode prog_86_method_3_code 30 = .ok (.dup, 1) := by decide +kernel
theorem d15_31 : decode prog_86_method_3_code 31 = .ok (.invokespecial 18, 3) := by decide +kernel
theorem d15_34 : decode prog_86_method_3_code 34 = .ok (.aastore, 1) := by decide +kernel
theorem d15_35 : decode prog_86_method_3_code 35 = .ok (.aload_n 0, 1) := by decide +kernel
theorem d15_36 : decode prog_86_method_3_code 36 = .ok (.getfield 40, 3) := by decide +kernel
theorem d15_39 : decode prog_86_method_3_code 39 = .ok (.iload 4, 2) := by decide +kernel
theorem d15_41 : decode prog_86_method_3_code 41 = .ok (.aaload, 1) := by decide +kernel
theorem d15_42 : decode prog_86_method_3_code 42 = .ok (.iload_n 1, 1) := by decide +kernel
theorem d15_43 : decode prog_86_method_3_code 43 = .ok (.invokevirtual 49, 3) := by decide +kernel
theorem d15_46 : decode prog_86_method_3_code 46 = .ok (.aload_n 0, 1) := by decide +kernel
theorem d15_47 : decode prog_86_method_3_code 47 = .ok (.getfield 19, 3) := by decide +kernel
theorem d15_50 : decode prog_86_method_3_code 50 = .ok (.iload_n 1, 1) := by decide +kernel
theorem d15_51 : decode prog_86_method_3_code 51 = .ok (.invokevirtual 49, 3) := by decide +kernel
theorem d15_54 : decode prog_86_method_3_code 54 = .ok (.return_, 1) := by decide +kernel
theorem pn_15 : plainName "com/example/sonde/sonde/engine/AnswerSets" = true := by first | (simp [plainName, overriddenIn]; done) | decide +kernel
theorem d16_0 : decode prog_101_method_3_code 0 = .ok (.iload_n 1, 1) := by decide +kernel
theorem d16_1 : decode prog_101_method_3_code 1 = .ok (.bipush 6, 2) := by decide +kernel
theorem d16_3 : decode prog_101_method_3_code 3 = .ok (.iushr, 1) := by decide +kernel
theorem d16_4 : decode prog_101_method_3_code 4 = .ok (.istore_n 2, 1) := by decide +kernel
theorem d16_5 : decode prog_101_method_3_code 5 = .ok (.aload_n 0, 1) := by decide +kernel
theorem d16_6 : decode prog_101_method_3_code 6 = .ok (.iload_n 2, 1) := by decide +kernel
theorem d16_7 : decode prog_101_method_3_code 7 = .ok (.invokevirtual 16, 3) := by decide +kernel
theorem d16_10 : decode prog_101_method_3_code 10 = .ok (.aload_n 0, 1) := by decide +kernel
theorem d16_11 : decode prog_101_method_3_code 11 = .ok (.getfield 7, 3) := by decide +kernel
theorem d16_14 : decode prog_101_method_3_code 14 = .ok (.iload_n 2, 1) := by decide +kernel
theorem d16_15 : decode prog_101_method_3_code 15 = .ok (.dup2, 1) := by decide +kernel
theorem d16_16 : decode prog_101_method_3_code 16 = .ok (.laload, 1) := by decide +kernel
theorem d16_17 : decode prog_101_method_3_code 17 = .ok (.lconst 1, 1) := by decide +kernel
theorem d16_18 : decode prog_101_method_3_code 18 = .ok (.iload_n 1, 1) := by decide +kernel
theorem d16_19 : decode prog_101_method_3_code 19 = .ok (.lshl, 1) := by decide +kernel
theorem d16_20 : decode prog_101_method_3_code 20 = .ok (.lor, 1) := by decide +kernel
theorem d16_21 : decode prog_101_method_3_code 21 = .ok (.lastore, 1) := by decide +kernel
theorem d16_22 : decode prog_101_method_3_code 22 = .ok (.aload_n 0, 1) := by decide +kernel
theorem d16_23 : decode prog_101_method_3_code 23 = .ok (.getfield 13, 3) := by decide +kernel
theorem d16_26 : decode prog_101_method_3_code 26 = .ok (.iload_n 2, 1) := by decide +kernel
theorem d16_27 : decode prog_101_method_3_code 27 = .ok (.bipush 6, 2) := by decide +kernel
theorem d16_29 : decode prog_101_method_3_code 29 = .ok (.iushr, 1) := by decide +kernel
theorem d16_30 : decode prog_101_method_3_code 30 = .ok (.dup2, 1) := by decide +kernel
theorem d16_31 : decode prog_101_method_3_code 31 = .ok (.laload, 1) := by decide +kernel
theorem d16_32 : decode prog_101_method_3_code 32 = .ok (.lconst 1, 1) := by decide +kernel
theorem d16_33 : decode prog_101_method_3_code 33 = .ok (.iload_n 2, 1) := by decide +kernel
theorem d16_34 : decode prog_101_method_3_code 34 = .ok (.lshl, 1) := by decide +kernel
theorem d16_35 : decode prog_101_method_3_code 35 = .ok (.lor, 1) := by decide +kernel
theorem d16_36 : decode prog_101_method_3_code 36 = .ok (.lastore, 1) := by decide +kernel
theorem d16_37 : decode prog_101_method_3_code 37 = .ok (.return_, 1) := by decide +kernel
theorem pn_16 : plainName "com/example/sonde/sonde/engine/Bits" = true := by first | (simp [plainName, overriddenIn]; done) | decide +kernel
theorem d17_0 : decode prog_101_method_15_code 0 = .ok (.iload_n 1, 1) := by decide +kernel
theorem d17_1 : decode prog_101_method_15_code 1 = .ok (.aload_n 0, 1) := by decide +kernel
theorem d17_2 : decode prog_101_method_15_code 2 = .ok (.getfield 7, 3) := by decide +kernel
theorem d17_5 : decode prog_101_method_15_code 5 = .ok (.arraylength, 1) := by decide +kernel
theorem d17_6 : decode prog_101_method_15_code 6 = .ok (.if_icmp .lt 49, 3) := by decide +kernel
theorem d17_9 : decode prog_101_method_15_code 9 = .ok (.aload_n 0, 1) := by decide +kernel
theorem d17_10 : decode prog_101_method_15_code 10 = .ok (.aload_n 0, 1) := by decide +kernel
theorem d17_11 : decode prog_101_method_15_code 11 = .ok (.getfield 7, 3) := by decide +kernel
theorem d17_14 : decode prog_101_method_15_code 14 = .ok (.iconst 2, 1) := by decide +kernel
theorem d17_15 : decode prog_101_method_15_code 15 = .ok (.aload_n 0, 1) := by decide +kernel
theorem d17_16 : decode prog_101_method_15_code 16 = .ok (.getfield 7, 3) := by decide +kernel
theorem d17_19 : decode prog_101_method_15_code 19 = .ok (.arraylength, 1) := by decide +kernel
theorem d17_20 : decode prog_101_method_15_code 20 = .ok (.imul, 1) := by decide +kernel
theorem d17_21 : decode prog_101_method_15_code 21 = .ok (.iload_n 1, 1) := by decide +kernel
theorem d17_22 : decode prog_101_method_15_code 22 = .ok (.iconst 1, 1) := by decide +kernel
theorem d17_23 : decode prog_101_method_15_code 23 = .ok (.iadd, 1) := by decide +kernel
theorem d17_24 : decode prog_101_method_15_code 24 = .ok (.invokestatic 54, 3) := by decide +kernel
theorem d17_27 : decode prog_101_method_15_code 27 = .ok (.invokestatic 57, 3) := by decide +kernel
theorem d17_30 : decode prog_101_method_15_code 30 = .ok (.putfield 7, 3) := by decide +kernel
theorem d17_33 : decode prog_101_method_15_code 33 = .ok (.aload_n 0, 1) := by decide +kernel
theorem d17_34 : decode prog_101_method_15_code 34 = .ok (.aload_n 0, 1) := by decide +kernel
theorem d17_35 : decode prog_101_method_15_code 35 = .ok (.getfield 13, 3) := by decide +kernel
theorem d17_38 : decode prog_101_method_15_code 38 = .ok (.aload_n 0, 1) := by decide +kernel
theorem d17_39 : decode prog_101_method_15_code 39 = .ok (.getfield 7, 3) := by decide +kernel
theorem d17_42 : decode prog_101_method_15_code 42 = .ok (.arraylength, 1) := by decide +kernel
theorem d17_43 : decode prog_101_method_15_code 43 = .ok (.bipush 63, 2) := by decide +kernel
theorem d17_45 : decode prog_101_method_15_code 45 = .ok (.iadd, 1) := by decide +kernel
theorem d17_46 : decode prog_101_method_15_code 46 = .ok (.bipush 6, 2) := by decide +kernel
theorem d17_48 : decode prog_101_method_15_code 48 = .ok (.iushr, 1) := by decide +kernel
theorem d17_49 : decode prog_101_method_15_code 49 = .ok (.invokestatic 57, 3) := by decide +kernel
theorem d17_52 : decode prog_101_method_15_code 52 = .ok (.putfield 13, 3) := by decide +kernel
theorem d17_55 : decode prog_101_method_15_code 55 = .ok (.return_, 1) := by decide +kernel
theorem pn_17 : plainName "com/example/sonde/sonde/engine/Bits" = true := by first | (simp [plainName, overriddenIn]; done) | decide +kernel
theorem d18_0 : decode prog_86_method_7_code 0 = .ok (.iload_n 2, 1) := by decide +kernel
theorem d18_1 : decode prog_86_method_7_code 1 = .ok (.iconst 1, 1) := by decide +kernel
theorem d18_2 : decode prog_86_method_7_code 2 = .ok (.iadd, 1) := by decide +kernel
theorem d18_3 : decode prog_86_method_7_code 3 = .ok (.aload_n 1, 1) := by decide +kernel
theorem d18_4 : decode prog_86_method_7_code 4 = .ok (.arraylength, 1) := by decide +kernel
theorem d18_5 : decode prog_86_method_7_code 5 = .ok (.if_icmp .lt 8, 3) := by decide +kernel
theorem d18_8 : decode prog_86_method_7_code 8 = .ok (.aload_n 0, 1) := by decide +kernel
theorem d18_9 : decode prog_86_method_7_code 9 = .ok (.getfield 23, 3) := by decide +kernel
theorem d18_12 : decode prog_86_method_7_code 12 = .ok (.areturn, 1) := by decide +kernel
theorem d18_13 : decode prog_86_method_7_code 13 = .ok (.aload_n 0, 1) := by decide +kernel
theorem d18_14 : decode prog_86_method_7_code 14 = .ok (.getfield 40, 3) := by decide +kernel
theorem d18_17 : decode prog_86_method_7_code 17 = .ok (.aload_n 1, 1) := by decide +kernel
theorem d18_18 : decode prog_86_method_7_code 18 = .ok (.iload_n 2, 1) := by decide +kernel
theorem d18_19 : decode prog_86_method_7_code 19 = .ok (.iaload, 1) := by decide +kernel
theorem d18_20 : decode prog_86_method_7_code 20 = .ok (.aload_n 0, 1) := by decide +kernel
theorem d18_21 : decode prog_86_method_7_code 21 = .ok (.getfield 26, 3) := by decide +kernel
theorem d18_24 : decode prog_86_method_7_code 24 = .ok (.arraylength, 1) := by decide +kernel
theorem d18_25 : decode prog_86_method_7_code 25 = .ok (.imul, 1) := by decide +kernel
theorem d18_26 : decode prog_86_method_7_code 26 = .ok (.aload_n 1, 1) := by decide +kernel
theorem d18_27 : decode prog_86_method_7_code 27 = .ok (.iload_n 2, 1) := by decide +kernel
theorem d18_28 : decode prog_86_method_7_code 28 = .ok (.iconst 1, 1) := by decide +kernel
theorem d18_29 : decode prog_86_method_7_code 29 = .ok (.iadd, 1) := by decide +kernel
theorem d18_30 : decode prog_86_method_7_code 30 = .ok (.iaload, 1) := by decide +kernel
theorem d18_31 : decode prog_86_method_7_code 31 = .ok (.iadd, 1) := by decide +kernel
theorem d18_32 : decode prog_86_method_7_code 32 = .ok (.aaload, 1) := by decide +kernel
theorem d18_33 : decode prog_86_method_7_code 33 = .ok (.astore_n 3, 1) := by decide +kernel
theorem d18_34 : decode prog_86_method_7_code 34 = .ok (.aload_n 3, 1) := by decide +kernel
theorem d18_35 : decode prog_86_method_7_code 35 = .ok (.ifnonnull 10, 3) := by decide +kernel
theorem d18_38 : decode prog_86_method_7_code 38 = .ok (.aload_n 0, 1) := by decide +kernel
theorem d18_39 : decode prog_86_method_7_code 39 = .ok (.getfield 23, 3) := by decide +kernel
theorem d18_42 : decode prog_86_method_7_code 42 = .ok (.goto 4, 3) := by decide +kernel
theorem d18_45 : decode prog_86_method_7_code 45 = .ok (.aload_n 3, 1) := by decide +kernel
theorem d18_46 : decode prog_86_method_7_code 46 = .ok (.areturn, 1) := by decide +kernel
theorem pn_18 : plainName "com/example/sonde/sonde/engine/AnswerSets" = true := by first | (simp [plainName, overriddenIn]; done) | decide +kernel
theorem d19_0 : decode prog_101_method_2_code 0 = .ok (.iload_n 1, 1) := by decide +kernel
theorem d19_1 : decode prog_101_method_2_code 1 = .ok (.bipush 6, 2) := by decide +kernel
theorem d19_3 : decode prog_101_method_2_code 3 = .ok (.iushr, 1) := by decide +kernel
theorem d19_4 : decode prog_101_method_2_code 4 = .ok (.istore_n 2, 1) := by decide +kernel
theorem d19_5 : decode prog_101_method_2_code 5 = .ok (.iload_n 2, 1) := by decide +kernel
theorem d19_6 : decode prog_101_method_2_code 6 = .ok (.aload_n 0, 1) := by decide +kernel
theorem d19_7 : decode prog_101_method_2_code 7 = .ok (.getfield 7, 3) := by decide +kernel
theorem d19_10 : decode prog_101_method_2_code 10 = .ok (.arraylength, 1) := by decide +kernel
theorem d19_11 : decode prog_101_method_2_code 11 = .ok (.if_icmp .ge 22, 3) := by decide +kernel
theorem d19_14 : decode prog_101_method_2_code 14 = .ok (.aload_n 0, 1) := by decide +kernel
theorem d19_15 : decode prog_101_method_2_code 15 = .ok (.getfield 7, 3) := by decide +kernel
theorem d19_18 : decode prog_101_method_2_code 18 = .ok (.iload_n 2, 1) := by decide +kernel
theorem d19_19 : decode prog_101_method_2_code 19 = .ok (.laload, 1) := by decide +kernel
theorem d19_20 : decode prog_101_method_2_code 20 = .ok (.lconst 1, 1) := by decide +kernel
theorem d19_21 : decode prog_101_method_2_code 21 = .ok (.iload_n 1, 1) := by decide +kernel
theorem d19_22 : decode prog_101_method_2_code 22 = .ok (.lshl, 1) := by decide +kernel
theorem d19_23 : decode prog_101_method_2_code 23 = .ok (.land, 1) := by decide +kernel
theorem d19_24 : decode prog_101_method_2_code 24 = .ok (.lconst 0, 1) := by decide +kernel
theorem d19_25 : decode prog_101_method_2_code 25 = .ok (.lcmp, 1) := by decide +kernel
theorem d19_26 : decode prog_101_method_2_code 26 = .ok (.ifCond .eq 7, 3) := by decide +kernel
theorem d19_29 : decode prog_101_method_2_code 29 = .ok (.iconst 1, 1) := by decide +kernel
theorem d19_30 : decode prog_101_method_2_code 30 = .ok (.goto 4, 3) := by decide +kernel
theorem d19_33 : decode prog_101_method_2_code 33 = .ok (.iconst 0, 1) := by decide +kernel
theorem d19_34 : decode prog_101_method_2_code 34 = .ok (.ireturn, 1) := by decide +kernel
theorem pn_19 : plainName "com/example/sonde/sonde/engine/Bits" = true := by first | (simp [plainName, overriddenIn]; done) | decide +kernel
theorem d20_0 : decode method_2_code 0 = .ok (.iload_n 0, 1) := by decide +kernel
theorem d20_1 : decode method_2_code 1 = .ok (.iload_n 1, 1) := by decide +kernel
theorem d20_2 : decode method_2_code 2 = .ok (.if_icmp .ne 7, 3) := by decide +kernel
theorem d20_5 : decode method_2_code 5 = .ok (.iload_n 2, 1) := by decide +kernel
theorem d20_6 : decode method_2_code 6 = .ok (.ifCond .ne 13, 3) := by decide +kernel
theorem d20_9 : decode method_2_code 9 = .ok (.iload_n 0, 1) := by decide +kernel
theorem d20_10 : decode method_2_code 10 = .ok (.iload_n 3, 1) := by decide +kernel
theorem d20_11 : decode method_2_code 11 = .ok (.if_icmp .ne 12, 3) := by decide +kernel
theorem d20_14 : decode method_2_code 14 = .ok (.iload 4, 2) := by decide +kernel
theorem d20_16 : decode method_2_code 16 = .ok (.ifCond .eq 7, 3) := by decide +kernel
theorem d20_19 : decode method_2_code 19 = .ok (.iconst 1, 1) := by decide +kernel
theorem d20_20 : decode method_2_code 20 = .ok (.goto 4, 3) := by decide +kernel
theorem d20_23 : decode method_2_code 23 = .ok (.iconst 0, 1) := by decide +kernel
theorem d20_24 : decode method_2_code 24 = .ok (.ireturn, 1) := by decide +kernel
theorem pn_20 : plainName "com/example/sonde/sonde/engine/AnswerSetsHoldingPinLaw" = true := by first | (simp [plainName, overriddenIn]; done) | decide +kernel
theorem own_lshl_bv (x : Int64) (q : Int32) (k : Nat) (hk : q.toBitVec.toNat % 64 = k) : (x <<< (q &&& 0x3f).toInt64).toBitVec = x.toBitVec <<< k := by
  obtain ⟨e, h⟩ := sm64 q k hk
  rw [Int64.toBitVec_shiftLeft, e, BitVec.shiftLeft_eq', smod64 k h]
theorem own_ofNat {i : Int32} {e : Nat} (h : i.toInt = (e : Int)) : i = e.toInt32 := by
  have r := rng32 i
  exact Int32.toInt_inj.mp (by rw [h]; exact (own_ofN (by omega)).symm)
theorem own_mod64 {i : Int32} {x : Nat} (h : i.toInt = (x : Int)) : i.toBitVec.toNat % 64 = x % 64 := by
  have e : i.toBitVec.toNat = x := by
    have q : i.toBitVec.toInt = (x : Int) := h
    rw [BitVec.toInt_eq_toNat_cond] at q
    split at q <;> have := i.toBitVec.isLt <;> omega
  rw [e]
theorem own_ush6 {i j : Int32} {x : Nat} (h : i.toInt = (x : Int)) (hj : ((i.toUInt32 >>> ((6 : Int32) &&& 31).toUInt32).toInt32) = j) : j.toInt = ((x / 64 : Nat) : Int) := by
  have c := c_iushr i 6 6 (by decide) (by decide)
  rw [hj] at c
  have r := rng32 i
  omega
/-- the set's bits: the number y is in it -/
def own_has (f : Nat → Int64) (n y : Nat) : Bool := decide (y / 64 < n) && (f (y / 64)).toBitVec.getLsbD (y % 64)
theorem own_bit (i : Int32) (x : Nat) (h : i.toInt = (x : Int)) : ((1 : Int64) <<< (i &&& 0x3f).toInt64).toBitVec = 1#64 <<< (x % 64) := own_lshl_bv 1 i (x % 64) (own_mod64 h)
theorem own_1j (x j : Nat) (hx : x < 64) (hj : j < 64) : ((1#64 : BitVec 64) <<< x).getLsbD j = decide (j = x) := by
  rw [BitVec.getLsbD_shiftLeft]
  by_cases h : j < x
  · simp [h, hj]; omega
  · by_cases e : j = x
    · subst e; simp [hj]
    · have e2 : ¬ j - x = 0 := by omega
      simp [h, hj, e, BitVec.getLsbD_one, e2]
theorem own_set (f : Nat → Int64) (n : Nat) (i : Int32) (x : Nat) (h : i.toInt = (x : Int)) (hn : x / 64 < n) (y : Nat) : own_has (own_upd f (x / 64) ((f (x / 64)) ||| ((1 : Int64) <<< (i &&& 0x3f).toInt64))) n y = (own_has f n y || decide (y = x)) := by
  rw [own_has, own_has]
  by_cases q : y / 64 = x / 64
  · rw [q, own_upd_eq, Int64.toBitVec_or, own_bit i x h, BitVec.getLsbD_or, own_1j (x % 64) (y % 64) (by omega) (by omega)]
    have e : decide (y % 64 = x % 64) = decide (y = x) := by
      apply decide_eq_decide.mpr; omega
    rw [e]; simp [hn]
  · rw [own_upd_ne _ _ q]
    have e : decide (y = x) = false := decide_eq_false (fun e => q (by rw [e]))
    rw [e, Bool.or_false]
theorem own_clr (f : Nat → Int64) (n : Nat) (i : Int32) (x : Nat) (h : i.toInt = (x : Int)) (y : Nat) : own_has (own_upd f (x / 64) ((f (x / 64)) &&& (((1 : Int64) <<< (i &&& 0x3f).toInt64) ^^^ (-1 : Int64)))) n y = (own_has f n y && !decide (y = x)) := by
  rw [own_has, own_has]
  by_cases q : y / 64 = x / 64
  · rw [q, own_upd_eq, Int64.toBitVec_and, Int64.toBitVec_xor, own_bit i x h, BitVec.getLsbD_and, BitVec.getLsbD_xor, own_1j (x % 64) (y % 64) (by omega) (by omega)]
    have e : decide (y % 64 = x % 64) = decide (y = x) := by
      apply decide_eq_decide.mpr; omega
    have e2 : ((-1 : Int64).toBitVec).getLsbD (y % 64) = true := by
      rw [show (-1 : Int64).toBitVec = BitVec.allOnes 64 by decide, BitVec.getLsbD_allOnes]; simp; omega
    rw [e, e2, Bool.and_assoc]; simp
  · rw [own_upd_ne _ _ q]
    have e : decide (y = x) = false := decide_eq_false (fun e => q (by rw [e]))
    rw [e]; simp
theorem own_get (v : Int64) (i : Int32) (x : Nat) (h : i.toInt = (x : Int)) : v &&& ((1 : Int64) <<< (i &&& 0x3f).toInt64) = 0 ↔ v.toBitVec.getLsbD (x % 64) = false := by
  rw [← Int64.toBitVec_inj, Int64.toBitVec_and, own_bit i x h]
  constructor
  · intro q
    have q2 := congrArg (fun b => BitVec.getLsbD b (x % 64)) q
    simp only [BitVec.getLsbD_and, own_1j (x % 64) (x % 64) (by omega) (by omega)] at q2
    simpa using q2
  · intro q
    apply BitVec.eq_of_getLsbD_eq
    intro j hj
    rw [BitVec.getLsbD_and, own_1j (x % 64) j (by omega) hj]
    by_cases e : j = x % 64
    · subst e; rw [q]; simp
    · simp [e]
theorem own_grow (f : Nat → Int64) (n N : Nat) (hN : n ≤ N) (y : Nat) : own_has (fun j => if j < n then f j else 0) N y = own_has f n y := by
  rw [own_has, own_has]
  by_cases q : y / 64 < n
  · simp [q, show y / 64 < N by omega]
  · simp [q]
def own_B (Z : State) (h : Heap) (n0 : Nat) (b w d : Addr) (S : Nat → Bool) : Prop := Exa Z h b "com/example/sonde/sonde/engine/Bits" ∧ Fld Z h b "com/example/sonde/sonde/engine/Bits" "words" "[J" (.ref w) ∧ Fld Z h b "com/example/sonde/sonde/engine/Bits" "held" "[J" (.ref d) ∧ ∃ (n m : Nat) (f g : Nat → Int64), own_AJ Z h w n f ∧ own_AJ Z h d m g ∧ Exa Z h d "[J" ∧
  n0 ≤ b ∧ n0 ≤ w ∧ n0 ≤ d ∧ b ≠ w ∧ b ≠ d ∧ w ≠ d ∧ 1 ≤ n ∧ n ≤ 2 ∧ m = (n + 63) / 64 ∧ ∀ y, own_has f n y = S y
section
variable {Z : State} {h h' : Heap} {n0 : Nat} {b w d : Addr} {S : Nat → Bool}
theorem own_B.exa (B : own_B Z h n0 b w d S) : Exa Z h b "com/example/sonde/sonde/engine/Bits" := B.1
theorem own_B.lb (B : own_B Z h n0 b w d S) : b < h.size := B.2.1.lt
theorem own_B.lw (B : own_B Z h n0 b w d S) : w < h.size := by obtain ⟨-, -, -, n, m, f, g, A, -⟩ := B; exact A.lt
theorem own_B.ld (B : own_B Z h n0 b w d S) : d < h.size := by obtain ⟨-, -, -, n, m, f, g, -, A, -⟩ := B; exact A.lt
theorem own_B.gb (B : own_B Z h n0 b w d S) : n0 ≤ b := by obtain ⟨-, -, -, n, m, f, g, -, -, -, q, -⟩ := B; exact q
theorem own_B.gw (B : own_B Z h n0 b w d S) : n0 ≤ w := by obtain ⟨-, -, -, n, m, f, g, -, -, -, -, q, -⟩ := B; exact q
theorem own_B.gd (B : own_B Z h n0 b w d S) : n0 ≤ d := by obtain ⟨-, -, -, n, m, f, g, -, -, -, -, -, q, -⟩ := B; exact q
theorem own_B.ext (B : own_B Z h n0 b w d S) (E : Ext h h') : own_B Z h' n0 b w d S := by
  obtain ⟨h1, h2, h3, n, m, f, g, h4, h5, h6, r⟩ := B
  exact ⟨h1.ext E, h2.ext E, h3.ext E, n, m, f, g, h4.ext E, h5.ext E, h6.ext E, r⟩
theorem own_B.other {a : Addr} {sl : Nat} {v : Value} (B : own_B Z h n0 b w d S) (W : Wr h h' a sl v) (q1 : b ≠ a) (q2 : w ≠ a) (q3 : d ≠ a) : own_B Z h' n0 b w d S := by
  obtain ⟨h1, h2, h3, n, m, f, g, h4, h5, h6, r⟩ := B
  exact ⟨h1.wr W, h2.other W (Or.inl q1), h3.other W (Or.inl q1), n, m, f, g, h4.other W q2, h5.other W q3, h6.wr W, r⟩
theorem own_B.keep {ws : List Addr} (B : own_B Z h n0 b w d S) (K : Keep h h' ws) (q1 : b ∉ ws) (q2 : w ∉ ws) (q3 : d ∉ ws) : own_B Z h' n0 b w d S := by
  obtain ⟨h1, h2, h3, n, m, f, g, h4, h5, h6, r⟩ := B
  exact ⟨h1.keep K, h2.keep K q1, h3.keep K q1, n, m, f, g, h4.keep K q2, h5.keep K q3, h6.keep K, r⟩
theorem own_B.congr (B : own_B Z h n0 b w d S) {S' : Nat → Bool} (q : ∀ y, S y = S' y) : own_B Z h n0 b w d S' := by
  obtain ⟨h1, h2, h3, n, m, f, g, h4, h5, h6, a1, a2, a3, a4, a5, a6, a7, a8, a9, r⟩ := B
  exact ⟨h1, h2, h3, n, m, f, g, h4, h5, h6, a1, a2, a3, a4, a5, a6, a7, a8, a9, fun y => (r y).trans (q y)⟩
theorem own_neor {y w b : Addr} {k : Nat} (o : w = b ∨ k ≤ w) (h1 : y ≠ b) (h2 : y < k) : y ≠ w := by
  rcases o with rfl | o
  · exact h1
  · exact Nat.ne_of_lt (Nat.lt_of_lt_of_le h2 o)
def own_Fn (h : Heap) (a : Addr) (cK : ClassId) : Prop := Jvm.LamKit.FnAt h a cK
theorem own_Fn.lt {a : Addr} {cK : ClassId} (F : own_Fn h a cK) : a < h.size := by obtain ⟨c, q, -⟩ := F; exact (Array.getElem?_eq_some_iff.mp q).1
theorem own_Fn.nostat {a : Addr} {cK : ClassId} (F : own_Fn h a cK) : ∀ cell : Cell, h[a]? = some cell → cell.vm.isStatics = false := by
  obtain ⟨c, q, -, r⟩ := F; intro cell q'; cases q.symm.trans q'; rw [r]; rfl
theorem own_Fn.ext {a : Addr} {cK : ClassId} (F : own_Fn h a cK) (E : Ext h h') : own_Fn h' a cK := by obtain ⟨c, q, r⟩ := F; exact ⟨c, E.2 _ _ q, r⟩
theorem own_Fn.keep {a : Addr} {cK : ClassId} {ws : List Addr} (F : own_Fn h a cK) (K : Keep h h' ws) : own_Fn h' a cK := by
  obtain ⟨c, q, r1, r2⟩ := F; obtain ⟨c', q', z1, z2, -⟩ := K.2.2 _ _ q; exact ⟨c', q', z1.trans r1, z2.trans r2⟩
theorem own_Fn.wr {a b : Addr} {cK : ClassId} {sl : Nat} {v : Value} (F : own_Fn h a cK) (W : Wr h h' b sl v) : own_Fn h' a cK := by
  obtain ⟨c, q, r1, r2⟩ := F; obtain ⟨c', q', z1, z2, -⟩ := wr_at W q; exact ⟨c', q', z1.trans r1, z2.trans r2⟩
end
set_option maxRecDepth 65536 in
set_option maxHeartbeats 40000000 in
theorem rm14 (l : Launch) (Z : State) (a0 : Array Value) (hw : ∀ d ∈ tables_1, d.before a0 Z = true) (ws : List Jvm.Cond) (p1 : Int32) (p2 : Int32)  (h0 : Heap) (n0 : Nat) (Z0 : n0 ≤ h0.size) :
    MetFree l (⟨"java/lang/Math", "max", "(II)I"⟩ : MethodName) (head1 (Jvm.Cond.code (⟨"java/lang/Math", "max", "(II)I"⟩ : MethodName) jdk_29_method_65_code 2 (some .int) :: ws) ({ frames := 0, cells := 0, slots := 0, locals := 0 } : Room)) (fun a U => a = #[(.int p1), (.int p2)] ∧ Z.Warmed39 U.vm ∧ U.heap = h0) (fun _ _ _ _ _ => True) (fun _ U o U' => ∃ vv LL, o = .returned vv ∧ own_ap (fun v h L => v = some (.int (if p1 < p2 then p2 else p1)) ∧ Fr n0 L ∧ h = h0) vv U'.heap LL ∧ FrameEnd U o U' LL 0 0) := by
  refine MetFree.of_bodySF (Jvm.Free.JP.mathPlain rfl (by decide +kernel)) hisR ?_
  intro p e s m args below meth c s₁ Bd hml0 hP hK
  obtain ⟨rfl, hZ, hh⟩ := hP
  have hx := Bd.exec
  have hby := Bd.bytes
  have hml : c.maxLocals = 2 := hml0
  have hown : s.vm.findClass "java/lang/Math" = some m.cls := findClass_of_methodNamed Bd.named
  have hnm := (name_of_methodNamed Bd.named Bd.method).1
  have X0 : Stand p l e ({ frames := 0, cells := 0, slots := 0, locals := 0 } : Room) s m #[(.int p1), (.int p2)] below meth c s₁ [] 0 0 := Stand.of_body Bd
  have e0 : s₁.heap = h0 := by rw [← hh, Bd.state]; rfl
  have N0 := Fr.nil n0
  show own_Go p.tables e below (own_Q s (fun v h L => v = some (.int (if p1 < p2 then p2 else p1)) ∧ Fr n0 L ∧ h = h0) 0 0) (s₁.setTop (entryFrame m #[(.int p1), (.int p2)] 2))
  rw [show entryFrame m #[(.int p1), (.int p2)] 2 = mkF m 0 #[.val (.int p1), .val (.int p2)] [] from by first | (simp [entryFrame, mkF, argsToLocals, Value.category]; done) | rfl]
  show own_Go _ _ _ _ (s₁.setTop (mkF m 0 #[.val (.int p1), .val (.int p2)] []))
  refine own_by (fun _ k => XS.iloadN X0.here hx rfl (hb hby d14_0) rfl k) ?_
  refine own_by (fun _ k => XS.iloadN X0.here hx rfl (hb hby d14_1) rfl k) ?_
  show own_Go _ _ _ _ (s₁.setTop (mkF m 2 #[.val (.int p1), .val (.int p2)] [(.int p2), (.int p1)]))
  by_cases hc1 : p1 < p2
  · --
    refine own_by (fun _ k => XS.icmpYes X0.here hx rfl (pc0 := 2) (pc' := 9) rfl (hb hby d14_2) rfl (tlt hc1).1 (by decide) (by decide) k) ?_
    refine own_by (fun _ k => XS.iloadN X0.here hx rfl (hb hby d14_9) rfl k) ?_
    show own_Go _ _ _ _ (s₁.setTop (mkF m 10 #[.val (.int p1), .val (.int p2)] [(.int p2)]))
    exact own_retI X0 hx Bd.notSynchronized e0 Bd.returns (hb hby d14_10) (⟨by simp [hc1], N0, rfl⟩) (by decide) (by decide)
  · --
    refine own_by (fun _ k => XS.icmpNo X0.here hx rfl (hb hby d14_2) rfl (flt hc1).1 k) ?_
    refine own_by (fun _ k => XS.iloadN X0.here hx rfl (hb hby d14_5) rfl k) ?_
    show own_Go _ _ _ _ (s₁.setTop (mkF m 6 #[.val (.int p1), .val (.int p2)] [(.int p1)]))
    refine own_by (fun _ k => XS.goto X0.here hx rfl (pc0 := 6) (pc' := 10) rfl (hb hby d14_6) (by decide) (by decide) k) ?_
    show own_Go _ _ _ _ (s₁.setTop (mkF m 10 #[.val (.int p1), .val (.int p2)] [(.int p1)]))
    exact own_retI X0 hx Bd.notSynchronized e0 Bd.returns (hb hby d14_10) (⟨by simp [hc1], N0, rfl⟩) (by decide) (by decide)
set_option maxRecDepth 65536 in
set_option maxHeartbeats 40000000 in
theorem rm21h (l : Launch) (Z : State) (a0 : Array Value) (hw : ∀ d ∈ tables_1, d.before a0 Z = true) (ws : List Jvm.Cond) (a1 : Addr) (p1 : Int32) (n N : Nat) (f : Nat → Int64) (h0 : Heap) (n0 : Nat) (Z0 : n0 ≤ h0.size) (PA : own_AJ Z h0 a1 n f) (PX : Exa Z h0 a1 "[J") (hN : p1.toInt = (N : Int)) (hnN : n ≤ N) (hNc : N ≤ 1) :
    MetFree l (⟨"java/util/Arrays", "copyOf", "([JI)[J"⟩ : MethodName) (head1 (Jvm.Cond.code (⟨"java/util/Arrays", "copyOf", "([JI)[J"⟩ : MethodName) jdk_65_method_124_code 3 (some (.array .long)) :: ws) ({ frames := 1, cells := 1, slots := 1, locals := 60 } : Room)) (fun a U => a = #[(.ref a1), (.int p1)] ∧ Z.Warmed39 U.vm ∧ U.heap = h0) (fun _ _ _ _ _ => True) (fun _ U o U' => ∃ vv LL, o = .returned vv ∧ own_ap (fun v h L => v = some (.ref h0.size) ∧ Fr n0 L ∧ Keep h0 h [] ∧ own_AJ Z h h0.size N (fun j => if j < n then f j else 0) ∧ Exa Z h h0.size "[J") vv U'.heap LL ∧ FrameEnd U o U' LL 1 1) := by
  refine MetFree.of_bodySF (plainFor_of_name pn_21) hisR ?_
  intro p e s m args below meth c s₁ Bd hml0 hP hK
  obtain ⟨rfl, hZ, hh⟩ := hP
  have hx := Bd.exec
  have hby := Bd.bytes
  have hml : c.maxLocals = 3 := hml0
  have hown : s.vm.findClass "java/util/Arrays" = some m.cls := findClass_of_methodNamed Bd.named
  have hnm := (name_of_methodNamed Bd.named Bd.method).1
  have X0 : Stand p l e ({ frames := 1, cells := 1, slots := 1, locals := 60 } : Room) s m #[(.ref a1), (.int p1)] below meth c s₁ [] 0 0 := Stand.of_body Bd
  have e0 : s₁.heap = h0 := by rw [← hh, Bd.state]; rfl
  have N0 := Fr.nil n0
  show own_Go p.tables e below (own_Q s (fun v h L => v = some (.ref h0.size) ∧ Fr n0 L ∧ Keep h0 h [] ∧ own_AJ Z h h0.size N (fun j => if j < n then f j else 0) ∧ Exa Z h h0.size "[J") 1 1) (s₁.setTop (entryFrame m #[(.ref a1), (.int p1)] 3))
  rw [show entryFrame m #[(.ref a1), (.int p1)] 3 = mkF m 0 #[.val (.ref a1), .val (.int p1), .unset] [] from by first | (simp [entryFrame, mkF, argsToLocals, Value.category]; done) | rfl]
  obtain ⟨zn, hznE, hzn⟩ : ∃ z : Int32, z = n.toInt32 ∧ z.toInt = (n : Int) := ⟨n.toInt32, rfl, own_ofN (by omega)⟩
  show own_Go _ _ _ _ (s₁.setTop (mkF m 0 #[.val (.ref a1), .val (.int p1), .unset] []))
  refine own_by (fun _ k => XS.iloadN X0.here hx rfl (hb hby d21_0) rfl k) ?_
  refine own_by (fun _ k => XS.aloadN X0.here hx rfl (hb hby d21_1) rfl rfl k) ?_
  show own_Go _ _ _ _ (s₁.setTop (mkF m 2 #[.val (.ref a1), .val (.int p1), .unset] [(.ref a1), (.int p1)]))
  refine own_by (fun _ k => own_len X0 hx hZ e0 PA zn hznE (hb hby d21_2) k) ?_
  show own_Go _ _ _ _ (s₁.setTop (mkF m 3 #[.val (.ref a1), .val (.int p1), .unset] [(.int zn), (.int p1)]))
  by_cases hc1 : p1 = zn
  · --
    have hNe : n = N := by have q' := congrArg Int32.toInt hc1; rw [hN, hzn] at q'; omega
    refine own_by (fun _ k => XS.icmpNo X0.here hx rfl (hb hby d21_3) rfl (teq hc1).2 k) ?_
    refine own_by (fun _ k => XS.aloadN X0.here hx rfl (hb hby d21_6) rfl rfl k) ?_
    show own_Go _ _ _ _ (s₁.setTop (mkF m 7 #[.val (.ref a1), .val (.int p1), .unset] [(.ref a1)]))
    obtain ⟨ka, Va⟩ := own_toArv PA hzn
    obtain ⟨T2, h2, X2, e2, E2, V2, EX2, st2⟩ := cloneH X0 hx hZ hown (ad := "[J") (hw _ (List.mem_of_getElem? (i := 148) rfl)) (hw _ (List.mem_of_getElem? (i := 149) rfl)) (hw _ (List.mem_of_getElem? (i := 153) rfl)) (hw _ (List.mem_of_getElem? (i := 151) rfl)) (hw _ (List.mem_of_getElem? (i := 152) rfl)) (hw _ (List.mem_of_getElem? (i := 154) rfl)) e0 (Arv.arh Va) PX (g := (mkF m 7 #[.val (.ref a1), .val (.int p1), .unset] [(.ref a1)])) rfl (by rw [hml]; rfl) rfl (hb hby d21_7) (by decide) (W := 0) (cap := 1) (by show 2 * 0 + _ ≤ _; exact Nat.le_of_eq rfl) (by decide) (by rw [(own_clamp hzn).1]; omega) (by decide) (by decide)
    refine own_by st2 ?_
    have A2 : own_AJ Z h2 h0.size N (fun j => if j < n then f j else 0) := own_ofArv (n := N) V2 (by rw [hzn, hNe]) (fun j hj => by simp [List.getD_eq_getElem?_getD, show j < n by omega])
    have f3 := PA.ext E2
    have f4 := PX.ext E2
    have f5 := (Keep.refl h0 []).ext E2
    show own_Go _ _ _ _ (T2.setTop (mkF m 10 #[.val (.ref a1), .val (.int p1), .unset] [(.ref h0.size)]))
    obtain ⟨T6, X6, e6, st6⟩ := castY X2 hx hZ hown (hw _ (List.mem_of_getElem? (i := 155) rfl)) e2 (Ins.self EX2) (g := (mkF m 10 #[.val (.ref a1), .val (.int p1), .unset] [(.ref h0.size)])) rfl rfl (hb hby d21_10)
    refine own_by st6 ?_
    show own_Go _ _ _ _ (T6.setTop (mkF m 13 #[.val (.ref a1), .val (.int p1), .unset] [(.ref h0.size)]))
    exact own_retA X6 hx Bd.notSynchronized e6 Bd.returns rfl rfl rfl (hb hby d21_13) (⟨rfl, N0, f5, A2, EX2⟩) (by decide) (by decide)
  · --
    refine own_by (fun _ k => XS.icmpYes X0.here hx rfl (pc0 := 3) (pc' := 14) rfl (hb hby d21_3) rfl (feq hc1).2 (by decide) (by decide) k) ?_
    refine own_by (fun _ k => XS.iloadN X0.here hx rfl (hb hby d21_14) rfl k) ?_
    show own_Go _ _ _ _ (s₁.setTop (mkF m 15 #[.val (.ref a1), .val (.int p1), .unset] [(.int p1)]))
    refine own_newPE X0 hx hZ (hw _ (List.mem_of_getElem? (i := 43) rfl)) e0 N hN 1 hNc (by decide) (by decide) (by decide) (hb hby d21_15) (ad := "[J") (by decide) ?_
    intro T7 h7 X7 e7 E7 A7 EX7
    show own_Go _ _ _ _ (T7.setTop (mkF m 17 #[.val (.ref a1), .val (.int p1), .unset] [.ref h0.size]))
    obtain ⟨b7, g7⟩ : ∃ z, z = h0.size := ⟨_, rfl⟩
    rw [← g7] at A7 EX7
    refine own_gen g7.symm (fun z_ => T7.setTop (mkF m 17 #[.val (.ref a1), .val (.int p1), .unset] [.ref z_])) ?_
    have ne8 : a1 ≠ b7 := Nat.ne_of_lt (Nat.lt_of_lt_of_le PX.lt (Nat.le_of_eq g7.symm))
    have ge7 : n0 ≤ b7 := Nat.le_trans Z0 (Nat.le_of_eq g7.symm)
    have nw7 : h0.size ≤ b7 := Nat.le_trans (Keep.refl h0 []).1 (Nat.le_of_eq g7.symm)
    have f9 := PA.ext E7
    have f10 := PX.ext E7
    have f11 := (Keep.refl h0 []).ext E7
    have Z7 := Nat.le_trans Z0 E7.1
    have f12 : own_AJ Z h7 b7 N (fun _ => 0) := A7
    show own_Go _ _ _ _ (T7.setTop (mkF m 17 #[.val (.ref a1), .val (.int p1), .unset] [(.ref b7)]))
    refine own_by (fun _ k => XS.astoreN X7.here hx rfl (hb hby d21_17) rfl rfl (l' := #[.val (.ref a1), .val (.int p1), .val (.ref b7)]) rfl k) ?_
    refine own_by (fun _ k => XS.aloadN X7.here hx rfl (hb hby d21_18) rfl rfl k) ?_
    refine own_by (fun _ k => XS.iconst X7.here hx rfl (hb hby d21_19) k) ?_
    show own_Go _ _ _ _ (T7.setTop (mkF m 20 #[.val (.ref a1), .val (.int p1), .val (.ref b7)] [(.int (0 : Int32)), (.ref a1)]))
    refine own_by (fun _ k => XS.aloadN X7.here hx rfl (hb hby d21_20) rfl rfl k) ?_
    refine own_by (fun _ k => XS.iconst X7.here hx rfl (hb hby d21_21) k) ?_
    refine own_by (fun _ k => XS.aloadN X7.here hx rfl (hb hby d21_22) rfl rfl k) ?_
    show own_Go _ _ _ _ (T7.setTop (mkF m 23 #[.val (.ref a1), .val (.int p1), .val (.ref b7)] [(.ref a1), (.int (0 : Int32)), (.ref b7), (.int (0 : Int32)), (.ref a1)]))
    refine own_by (fun _ k => own_len X7 hx hZ e7 f9 zn hznE (hb hby d21_23) k) ?_
    refine own_by (fun _ k => XS.iloadN X7.here hx rfl (hb hby d21_24) rfl k) ?_
    show own_Go _ _ _ _ (T7.setTop (mkF m 25 #[.val (.ref a1), .val (.int p1), .val (.ref b7)] [(.int p1), (.int zn), (.int (0 : Int32)), (.ref b7), (.int (0 : Int32)), (.ref a1)]))
    refine own_callS X7 hx hZ hown (hw _ (List.mem_of_getElem? (i := 141) rfl)) (hw _ (List.mem_of_getElem? (i := 142) rfl)) (hw _ (List.mem_of_getElem? (i := 104) rfl)) (hw _ (List.mem_of_getElem? (i := 143) rfl)) (by decide) (rm22 l Z a0 hw [] zn p1 h7 n0 Z7) e7 (by rw [hml]; rfl) [(.int zn), (.int p1)] [(.int (0 : Int32)), (.ref b7), (.int (0 : Int32)), (.ref a1)] rfl (lenOf own_pd10 rfl) rfl 4 (Nat.le_of_eq rfl) (by decide) (by decide) (Nat.le_of_ble_eq_true rfl) (Nat.le_of_ble_eq_true rfl) (hb hby d21_25) ?_
    intro T13 Lc13 v13 X13 hQ13
    obtain ⟨rfl, N13q, e13⟩ := hQ13
    have N13 := Fr.app N0 N13q
    show own_Go _ _ _ _ (T13.setTop (mkF m 28 #[.val (.ref a1), .val (.int p1), .val (.ref b7)] [(.int (if p1 < zn then p1 else zn)), (.int (0 : Int32)), (.ref b7), (.int (0 : Int32)), (.ref a1)]))
    rw [show (if p1 < zn then p1 else zn) = zn from if_neg (by rw [Int32.lt_iff_toInt_lt, hzn, hN]; omega)]
    obtain ⟨ka, Va⟩ := own_toArv f9 hzn
    obtain ⟨kb, Vb⟩ := own_toArv f12 hN
    obtain ⟨T14, h14, L14, X14, e14, N14, K14, V14, st14⟩ := cpA X13 hx hZ hown (hw _ (List.mem_of_getElem? (i := 144) rfl)) (hw _ (List.mem_of_getElem? (i := 147) rfl)) (hw _ (List.mem_of_getElem? (i := 145) rfl)) (hw _ (List.mem_of_getElem? (i := 146) rfl)) e13 Va Vb (Or.inl ⟨rfl, rfl⟩) (sp := (0 : Int32)) (dp := (0 : Int32)) (nn := zn) (by decide) (by decide) (own_clamp hzn).2 (by rw [(own_clamp hzn).1]; simp) (by rw [(own_clamp hzn).1, (own_clamp hN).1]; simpa using hnN) rfl (by rw [(own_clamp hzn).1]; simpa using hnN) N13 ge7 (g := (mkF m 28 #[.val (.ref a1), .val (.int p1), .val (.ref b7)] [(.int zn), (.int (0 : Int32)), (.ref b7), (.int (0 : Int32)), (.ref a1)])) rfl (by rw [hml]; rfl) rfl (hb hby d21_28) (by decide) (W := 0) (by show 2 * 0 + _ ≤ _; exact Nat.le_of_eq rfl) (by decide)
    refine own_by st14 ?_
    have A14 : own_AJ Z h14 b7 N (fun j => if j < n then f j else 0) := own_ofArv V14 hN (fun j hj => by have q := own_cpd n N hnN f (fun _ => 0) j hj; rw [(own_clamp hzn).1]; exact q)
    have f15 := f9.keep K14 (ninS ne8 nin0)
    have f16 := f10.keep K14
    have f17 := f11.trans K14 (allS (P := fun x => x ∈ [] ∨ h0.size ≤ x) (Or.inr nw7) all0)
    have f18 := EX7.keep K14
    have Z14 := Nat.le_trans Z7 K14.1
    show own_Go _ _ _ _ (T14.setTop (mkF m 31 #[.val (.ref a1), .val (.int p1), .val (.ref b7)] []))
    refine own_by (fun _ k => XS.aloadN X14.here hx rfl (hb hby d21_31) rfl rfl k) ?_
    show own_Go _ _ _ _ (T14.setTop (mkF m 32 #[.val (.ref a1), .val (.int p1), .val (.ref b7)] [(.ref b7)]))
    exact own_retA X14 hx Bd.notSynchronized e14 Bd.returns rfl rfl rfl (hb hby d21_32) (⟨by rw [g7], N14, f17, by rw [← g7]; exact A14, by rw [← g7]; exact f18⟩) (by decide) (by decide)
set_option maxRecDepth 65536 in
set_option maxHeartbeats 40000000 in
theorem rm6 (l : Launch) (Z : State) (a0 : Array Value) (hw : ∀ d ∈ tables_1, d.before a0 Z = true) (ws : List Jvm.Cond) (a1 : Addr)  (h0 : Heap) (n0 : Nat) (Z0 : n0 ≤ h0.size) (PE : Exa Z h0 a1 "com/example/sonde/sonde/engine/Bits") (PF : Fld Z h0 a1 "com/example/sonde/sonde/engine/Bits" "words" "[J" .null) (PH : Fld Z h0 a1 "com/example/sonde/sonde/engine/Bits" "held" "[J" .null) (Pa : n0 ≤ a1) :
    MetFree l (⟨"com/example/sonde/sonde/engine/Bits", "<init>", "()V"⟩ : MethodName) (head1 (Jvm.Cond.code (⟨"com/example/sonde/sonde/engine/Bits", "<init>", "()V"⟩ : MethodName) prog_101_method_1_code 1 none :: ws) ({ frames := 1, cells := 2, slots := 2, locals := 12 } : Room)) (fun a U => a = #[(.ref a1)] ∧ Z.Warmed39 U.vm ∧ U.heap = h0) (fun _ _ _ _ _ => True) (fun _ U o U' => ∃ vv LL, o = .returned vv ∧ own_ap (fun v h L => v = none ∧ Fr n0 L ∧ Keep h0 h [a1] ∧ ∃ w2 d2 : Addr, own_B Z h n0 a1 w2 d2 (fun _ => false) ∧ h0.size ≤ w2 ∧ h0.size ≤ d2) vv U'.heap LL ∧ FrameEnd U o U' LL 2 2) := by
  refine MetFree.of_bodySF (plainFor_of_name pn_6) hisR ?_
  intro p e s m args below meth c s₁ Bd hml0 hP hK
  obtain ⟨rfl, hZ, hh⟩ := hP
  have hx := Bd.exec
  have hby := Bd.bytes
  have hml : c.maxLocals = 1 := hml0
  have hown : s.vm.findClass "com/example/sonde/sonde/engine/Bits" = some m.cls := findClass_of_methodNamed Bd.named
  have hnm := (name_of_methodNamed Bd.named Bd.method).1
  have X0 : Stand p l e ({ frames := 1, cells := 2, slots := 2, locals := 12 } : Room) s m #[(.ref a1)] below meth c s₁ [] 0 0 := Stand.of_body Bd
  have e0 : s₁.heap = h0 := by rw [← hh, Bd.state]; rfl
  have N0 := Fr.nil n0
  show own_Go p.tables e below (own_Q s (fun v h L => v = none ∧ Fr n0 L ∧ Keep h0 h [a1] ∧ ∃ w2 d2 : Addr, own_B Z h n0 a1 w2 d2 (fun _ => false) ∧ h0.size ≤ w2 ∧ h0.size ≤ d2) 2 2) (s₁.setTop (entryFrame m #[(.ref a1)] 1))
  rw [show entryFrame m #[(.ref a1)] 1 = mkF m 0 #[.val (.ref a1)] [] from by first | (simp [entryFrame, mkF, argsToLocals, Value.category]; done) | rfl]
  show own_Go _ _ _ _ (s₁.setTop (mkF m 0 #[.val (.ref a1)] []))
  refine own_by (fun _ k => XS.aloadN X0.here hx rfl (hb hby d6_0) rfl rfl k) ?_
  show own_Go _ _ _ _ (s₁.setTop (mkF m 1 #[.val (.ref a1)] [(.ref a1)]))
  obtain ⟨T1, X1, e1, st1⟩ := initO X0 hx hZ hown (hw _ (List.mem_of_getElem? (i := 42) rfl)) (hw _ (List.mem_of_getElem? (i := 8) rfl)) (hw _ (List.mem_of_getElem? (i := 9) rfl)) e0 (g := (mkF m 1 #[.val (.ref a1)] [(.ref a1)])) rfl (by rw [hml]; rfl) rfl (hb hby d6_1) (by decide) (W := 0) (by show 2 * 0 + _ ≤ _; exact Nat.le_of_eq rfl) (by decide)
  refine own_by st1 ?_
  refine own_by (fun _ k => XS.aloadN X1.here hx rfl (hb hby d6_4) rfl rfl k) ?_
  refine own_by (fun _ k => XS.iconst X1.here hx rfl (hb hby d6_5) k) ?_
  show own_Go _ _ _ _ (T1.setTop (mkF m 6 #[.val (.ref a1)] [(.int (1 : Int32)), (.ref a1)]))
  refine own_newPE X1 hx hZ (hw _ (List.mem_of_getElem? (i := 43) rfl)) e1 1 (by decide) 1 (by decide) (by decide) (by decide) (by decide) (hb hby d6_6) (ad := "[J") (by decide) ?_
  intro T2 h2 X2 e2 E2 A2 EX2
  show own_Go _ _ _ _ (T2.setTop (mkF m 8 #[.val (.ref a1)] [.ref h0.size, (.ref a1)]))
  obtain ⟨b2, g2⟩ : ∃ z, z = h0.size := ⟨_, rfl⟩
  rw [← g2] at A2 EX2
  refine own_gen g2.symm (fun z_ => T2.setTop (mkF m 8 #[.val (.ref a1)] [.ref z_, (.ref a1)])) ?_
  have ne3 : a1 ≠ b2 := Nat.ne_of_lt (Nat.lt_of_lt_of_le PH.lt (Nat.le_of_eq g2.symm))
  have ge2 : n0 ≤ b2 := Nat.le_trans Z0 (Nat.le_of_eq g2.symm)
  have nw2 : h0.size ≤ b2 := Nat.le_trans (Keep.refl h0 [a1]).1 (Nat.le_of_eq g2.symm)
  have f4 := PE.ext E2
  have f5 := PF.ext E2
  have f6 := PH.ext E2
  have f7 := (Keep.refl h0 [a1]).ext E2
  have Z2 := Nat.le_trans Z0 E2.1
  have f8 : own_AJ Z h2 b2 1 (fun _ => 0) := A2
  show own_Go _ _ _ _ (T2.setTop (mkF m 8 #[.val (.ref a1)] [(.ref b2), (.ref a1)]))
  obtain ⟨T9, h9, X9, e9, W9, st9⟩ := putF X2 hx hZ hown (host := "") (Or.inl (hw _ (List.mem_of_getElem? (i := 44) rfl))) Via.refl e2 f5 f4 (Or.inl (hw _ (List.mem_of_getElem? (i := 45) rfl))) (hw _ (List.mem_of_getElem? (i := 37) rfl)) (ty := (.array .long)) (by decide) rfl rfl (g := (mkF m 8 #[.val (.ref a1)] [(.ref b2), (.ref a1)])) rfl rfl (hb hby d6_8)
  refine own_by st9 ?_
  have f10 := f5.same W9
  have f11 := f4.wr W9
  have f12 := f6.other W9 (Or.inr (slot_ne (Or.inl (hw _ (List.mem_of_getElem? (i := 47) rfl))) (Or.inl (hw _ (List.mem_of_getElem? (i := 45) rfl))) (by decide) (t := (.array .long)) (t' := (.array .long)) (by decide) (by decide)))
  have f13 := f7.wr W9 (Or.inl (List.mem_of_getElem? (i := 0) rfl))
  have f14 := EX2.wr W9
  have f15 := f8.other W9 (Ne.symm ne3)
  have N9 := Fr.snoc X9 N0 Pa
  have Z9 := own_size_wr W9 Z2
  show own_Go _ _ _ _ (T9.setTop (mkF m 11 #[.val (.ref a1)] []))
  refine own_by (fun _ k => XS.aloadN X9.here hx rfl (hb hby d6_11) rfl rfl k) ?_
  refine own_by (fun _ k => XS.iconst X9.here hx rfl (hb hby d6_12) k) ?_
  show own_Go _ _ _ _ (T9.setTop (mkF m 13 #[.val (.ref a1)] [(.int (1 : Int32)), (.ref a1)]))
  refine own_newPE X9 hx hZ (hw _ (List.mem_of_getElem? (i := 43) rfl)) e9 1 (by decide) 1 (by decide) (by decide) (by decide) (by decide) (hb hby d6_13) (ad := "[J") (by decide) ?_
  intro T16 h16 X16 e16 E16 A16 EX16
  show own_Go _ _ _ _ (T16.setTop (mkF m 15 #[.val (.ref a1)] [.ref h9.size, (.ref a1)]))
  obtain ⟨b16, g16⟩ : ∃ z, z = h9.size := ⟨_, rfl⟩
  rw [← g16] at A16 EX16
  refine own_gen g16.symm (fun z_ => T16.setTop (mkF m 15 #[.val (.ref a1)] [.ref z_, (.ref a1)])) ?_
  have ne17 : a1 ≠ b16 := Nat.ne_of_lt (Nat.lt_of_lt_of_le f12.lt (Nat.le_of_eq g16.symm))
  have ne18 : b2 ≠ b16 := Nat.ne_of_lt (Nat.lt_of_lt_of_le f15.lt (Nat.le_of_eq g16.symm))
  have ge16 : n0 ≤ b16 := Nat.le_trans Z9 (Nat.le_of_eq g16.symm)
  have nw16 : h0.size ≤ b16 := Nat.le_trans f13.1 (Nat.le_of_eq g16.symm)
  have f19 := f11.ext E16
  have f20 := f10.ext E16
  have f21 := f12.ext E16
  have f22 := f13.ext E16
  have f23 := f14.ext E16
  have f24 := f15.ext E16
  have Z16 := Nat.le_trans Z9 E16.1
  have f25 : own_AJ Z h16 b16 1 (fun _ => 0) := A16
  show own_Go _ _ _ _ (T16.setTop (mkF m 15 #[.val (.ref a1)] [(.ref b16), (.ref a1)]))
  obtain ⟨T26, h26, X26, e26, W26, st26⟩ := putF X16 hx hZ hown (host := "") (Or.inl (hw _ (List.mem_of_getElem? (i := 46) rfl))) Via.refl e16 f21 f19 (Or.inl (hw _ (List.mem_of_getElem? (i := 47) rfl))) (hw _ (List.mem_of_getElem? (i := 37) rfl)) (ty := (.array .long)) (by decide) rfl rfl (g := (mkF m 15 #[.val (.ref a1)] [(.ref b16), (.ref a1)])) rfl rfl (hb hby d6_15)
  refine own_by st26 ?_
  have f27 := f21.same W26
  have f28 := f19.wr W26
  have f29 := f20.other W26 (Or.inr (slot_ne (Or.inl (hw _ (List.mem_of_getElem? (i := 45) rfl))) (Or.inl (hw _ (List.mem_of_getElem? (i := 47) rfl))) (by decide) (t := (.array .long)) (t' := (.array .long)) (by decide) (by decide)))
  have f30 := f22.wr W26 (Or.inl (List.mem_of_getElem? (i := 0) rfl))
  have f31 := f23.wr W26
  have f32 := f24.other W26 (Ne.symm ne3)
  have f33 := EX16.wr W26
  have f34 := f25.other W26 (Ne.symm ne17)
  have N26 := Fr.snoc X26 N9 Pa
  have Z26 := own_size_wr W26 Z16
  show own_Go _ _ _ _ (T26.setTop (mkF m 18 #[.val (.ref a1)] []))
  exact own_retV X26 hx Bd.notSynchronized e26 Bd.returns (hb hby d6_18) (⟨rfl, N26, f30, b2, b16, ⟨f28, f29, f27, 1, 1, _, _, f32, f34, f33, Pa, ge2, ge16, ne3, ne17, ne18, by decide, by decide, rfl, fun y => by simp [own_has]⟩, nw2, nw16⟩) (by decide) (by decide)
theorem own_max (z zn p : Int32) (n k : Nat) (a b : Int32) (hzn : zn.toInt = (n : Int)) (hk : p.toInt = (k : Int)) (hn : n ≤ 1) (hk5 : k ≤ 1) (h1 : 1 ≤ n) (ha : (2 : Int32) * zn = a) (hb : p + (1 : Int32) = b) (h : (if a < b then b else a) = z) : ∃ N1 : Nat, z.toInt = (N1 : Int) ∧ 2 * n ≤ N1 ∧ k + 1 ≤ N1 ∧ N1 ≤ 2 := by
  have l2 : (2 : Int32).toInt = 2 := by decide
  have l1 : (1 : Int32).toInt = 1 := by decide
  have c1 := c_imul 2 zn
  have c2 := c_iadd p 1
  have r1 := rng32 a
  have r2 := rng32 b
  rw [ha, l2] at c1
  rw [hb, l1] at c2
  subst h
  by_cases q : a < b
  · rw [if_pos q]; rw [Int32.lt_iff_toInt_lt] at q; exact ⟨b.toInt.toNat, by omega, by omega, by omega, by omega⟩
  · rw [if_neg q]; rw [Int32.lt_iff_toInt_lt] at q; exact ⟨a.toInt.toNat, by omega, by omega, by omega, by omega⟩
theorem own_p63 {z : Int32} {N : Nat} (h : z.toInt = (N : Int)) (hN : N ≤ 510) : (z + (63 : Int32)).toInt = ((N + 63 : Nat) : Int) := by
  have l : (63 : Int32).toInt = 63 := by decide
  have c := c_iadd z 63
  have r := rng32 (z + 63)
  rw [l] at c; omega
set_option maxRecDepth 65536 in
set_option maxHeartbeats 40000000 in
theorem rm17 (l : Launch) (Z : State) (a0 : Array Value) (hw : ∀ d ∈ tables_1, d.before a0 Z = true) (ws : List Jvm.Cond) (a1 : Addr) (p1 : Int32) (w1 d1 : Addr) (S : Nat → Bool) (k1 : Nat) (h0 : Heap) (n0 : Nat) (Z0 : n0 ≤ h0.size) (PBB : own_B Z h0 n0 a1 w1 d1 S) (hk : p1.toInt = (k1 : Int)) (hk5 : k1 ≤ 1) :
    MetFree l (⟨"com/example/sonde/sonde/engine/Bits", "roomFor", "(I)V"⟩ : MethodName) (head1 (Jvm.Cond.code (⟨"com/example/sonde/sonde/engine/Bits", "roomFor", "(I)V"⟩ : MethodName) prog_101_method_15_code 2 none :: ws) ({ frames := 2, cells := 2, slots := 3, locals := 80 } : Room)) (fun a U => a = #[(.ref a1), (.int p1)] ∧ Z.Warmed39 U.vm ∧ U.heap = h0) (fun _ _ _ _ _ => True) (fun _ U o U' => ∃ vv LL, o = .returned vv ∧ own_ap (fun v h L => v = none ∧ Fr n0 L ∧ Keep h0 h [a1, w1, d1] ∧ ∃ (w2 d2 : Addr) (n2 m2 : Nat) (f2 g2 : Nat → Int64), Fld Z h a1 "com/example/sonde/sonde/engine/Bits" "words" "[J" (.ref w2) ∧ Fld Z h a1 "com/example/sonde/sonde/engine/Bits" "held" "[J" (.ref d2) ∧ own_AJ Z h w2 n2 f2 ∧ own_AJ Z h d2 m2 g2 ∧ Exa Z h d2 "[J" ∧ n0 ≤ w2 ∧ n0 ≤ d2 ∧ a1 ≠ w2 ∧ a1 ≠ d2 ∧ w2 ≠ d2 ∧ 1 ≤ n2 ∧ n2 ≤ 2 ∧ m2 = (n2 + 63) / 64 ∧ (w2 = w1 ∨ h0.size ≤ w2) ∧ (d2 = d1 ∨ h0.size ≤ d2) ∧ k1 < n2 ∧ ∀ y, own_has f2 n2 y = S y) vv U'.heap LL ∧ FrameEnd U o U' LL 2 3) := by
  refine MetFree.of_bodySF (plainFor_of_name pn_17) hisR ?_
  intro p e s m args below meth c s₁ Bd hml0 hP hK
  obtain ⟨rfl, hZ, hh⟩ := hP
  have hx := Bd.exec
  have hby := Bd.bytes
  have hml : c.maxLocals = 2 := hml0
  have hown : s.vm.findClass "com/example/sonde/sonde/engine/Bits" = some m.cls := findClass_of_methodNamed Bd.named
  have hnm := (name_of_methodNamed Bd.named Bd.method).1
  have X0 : Stand p l e ({ frames := 2, cells := 2, slots := 3, locals := 80 } : Room) s m #[(.ref a1), (.int p1)] below meth c s₁ [] 0 0 := Stand.of_body Bd
  have e0 : s₁.heap = h0 := by rw [← hh, Bd.state]; rfl
  have N0 := Fr.nil n0
  show own_Go p.tables e below (own_Q s (fun v h L => v = none ∧ Fr n0 L ∧ Keep h0 h [a1, w1, d1] ∧ ∃ (w2 d2 : Addr) (n2 m2 : Nat) (f2 g2 : Nat → Int64), Fld Z h a1 "com/example/sonde/sonde/engine/Bits" "words" "[J" (.ref w2) ∧ Fld Z h a1 "com/example/sonde/sonde/engine/Bits" "held" "[J" (.ref d2) ∧ own_AJ Z h w2 n2 f2 ∧ own_AJ Z h d2 m2 g2 ∧ Exa Z h d2 "[J" ∧ n0 ≤ w2 ∧ n0 ≤ d2 ∧ a1 ≠ w2 ∧ a1 ≠ d2 ∧ w2 ≠ d2 ∧ 1 ≤ n2 ∧ n2 ≤ 2 ∧ m2 = (n2 + 63) / 64 ∧ (w2 = w1 ∨ h0.size ≤ w2) ∧ (d2 = d1 ∨ h0.size ≤ d2) ∧ k1 < n2 ∧ ∀ y, own_has f2 n2 y = S y) 2 3) (s₁.setTop (entryFrame m #[(.ref a1), (.int p1)] 2))
  rw [show entryFrame m #[(.ref a1), (.int p1)] 2 = mkF m 0 #[.val (.ref a1), .val (.int p1)] [] from by first | (simp [entryFrame, mkF, argsToLocals, Value.category]; done) | rfl]
  obtain ⟨PE, PF, PH, n, mm, f, g, PA, PB, PX, Pa, Pw, Pd, Paw, Pad, Pwd, Pn1, Pn5, Pm, Pb⟩ := PBB
  obtain ⟨zn, hznE, hzn⟩ : ∃ z : Int32, z = n.toInt32 ∧ z.toInt = (n : Int) := ⟨n.toInt32, rfl, own_ofN (by omega)⟩
  show own_Go _ _ _ _ (s₁.setTop (mkF m 0 #[.val (.ref a1), .val (.int p1)] []))
  refine own_by (fun _ k => XS.iloadN X0.here hx rfl (hb hby d17_0) rfl k) ?_
  refine own_by (fun _ k => XS.aloadN X0.here hx rfl (hb hby d17_1) rfl rfl k) ?_
  show own_Go _ _ _ _ (s₁.setTop (mkF m 2 #[.val (.ref a1), .val (.int p1)] [(.ref a1), (.int p1)]))
  obtain ⟨T1, X1, e1, st1⟩ := getF X0 hx hZ hown (host := "") (Or.inl (hw _ (List.mem_of_getElem? (i := 44) rfl))) Via.refl e0 PF (g := (mkF m 2 #[.val (.ref a1), .val (.int p1)] [(.ref a1), (.int p1)])) rfl rfl (hb hby d17_2)
  refine own_by st1 ?_
  show own_Go _ _ _ _ (T1.setTop (mkF m 5 #[.val (.ref a1), .val (.int p1)] [(.ref w1), (.int p1)]))
  refine own_by (fun _ k => own_len X1 hx hZ e1 PA zn hznE (hb hby d17_5) k) ?_
  show own_Go _ _ _ _ (T1.setTop (mkF m 6 #[.val (.ref a1), .val (.int p1)] [(.int zn), (.int p1)]))
  by_cases hc2 : p1 < zn
  · --
    refine own_by (fun _ k => XS.icmpYes X1.here hx rfl (pc0 := 6) (pc' := 55) rfl (hb hby d17_6) rfl (tlt hc2).1 (by decide) (by decide) k) ?_
    show own_Go _ _ _ _ (T1.setTop (mkF m 55 #[.val (.ref a1), .val (.int p1)] []))
    exact own_retV X1 hx Bd.notSynchronized e1 Bd.returns (hb hby d17_55) (⟨rfl, N0, (Keep.refl h0 [a1, w1, d1]), w1, d1, n, mm, _, _, PF, PH, PA, PB, PX, Pw, Pd, Paw, Pad, Pwd, by omega, by omega, Pm, Or.inl rfl, Or.inl rfl, by have q := hc2; rw [Int32.lt_iff_toInt_lt, hk, hzn] at q; omega, Pb⟩) (by decide) (by decide)
  · --
    have hkn : n ≤ k1 := by have q := hc2; rw [Int32.lt_iff_toInt_lt, hk, hzn] at q; omega
    refine own_by (fun _ k => XS.icmpNo X1.here hx rfl (hb hby d17_6) rfl (flt hc2).1 k) ?_
    refine own_by (fun _ k => XS.aloadN X1.here hx rfl (hb hby d17_9) rfl rfl k) ?_
    refine own_by (fun _ k => XS.aloadN X1.here hx rfl (hb hby d17_10) rfl rfl k) ?_
    show own_Go _ _ _ _ (T1.setTop (mkF m 11 #[.val (.ref a1), .val (.int p1)] [(.ref a1), (.ref a1)]))
    obtain ⟨T3, X3, e3, st3⟩ := getF X1 hx hZ hown (host := "") (Or.inl (hw _ (List.mem_of_getElem? (i := 44) rfl))) Via.refl e1 PF (g := (mkF m 11 #[.val (.ref a1), .val (.int p1)] [(.ref a1), (.ref a1)])) rfl rfl (hb hby d17_11)
    refine own_by st3 ?_
    refine own_by (fun _ k => XS.iconst X3.here hx rfl (hb hby d17_14) k) ?_
    refine own_by (fun _ k => XS.aloadN X3.here hx rfl (hb hby d17_15) rfl rfl k) ?_
    show own_Go _ _ _ _ (T3.setTop (mkF m 16 #[.val (.ref a1), .val (.int p1)] [(.ref a1), (.int (2 : Int32)), (.ref w1), (.ref a1)]))
    obtain ⟨T4, X4, e4, st4⟩ := getF X3 hx hZ hown (host := "") (Or.inl (hw _ (List.mem_of_getElem? (i := 44) rfl))) Via.refl e3 PF (g := (mkF m 16 #[.val (.ref a1), .val (.int p1)] [(.ref a1), (.int (2 : Int32)), (.ref w1), (.ref a1)])) rfl rfl (hb hby d17_16)
    refine own_by st4 ?_
    show own_Go _ _ _ _ (T4.setTop (mkF m 19 #[.val (.ref a1), .val (.int p1)] [(.ref w1), (.int (2 : Int32)), (.ref w1), (.ref a1)]))
    refine own_by (fun _ k => own_len X4 hx hZ e4 PA zn hznE (hb hby d17_19) k) ?_
    show own_Go _ _ _ _ (T4.setTop (mkF m 20 #[.val (.ref a1), .val (.int p1)] [(.int zn), (.int (2 : Int32)), (.ref w1), (.ref a1)]))
    refine own_by (fun _ k => XS.imul X4.here hx rfl (hb hby d17_20) rfl k) ?_
    refine own_by (fun _ k => XS.iloadN X4.here hx rfl (hb hby d17_21) rfl k) ?_
    refine own_by (fun _ k => XS.iconst X4.here hx rfl (hb hby d17_22) k) ?_
    show own_Go _ _ _ _ (T4.setTop (mkF m 23 #[.val (.ref a1), .val (.int p1)] [(.int (1 : Int32)), (.int p1), (.int ((2 : Int32) * zn)), (.ref w1), (.ref a1)]))
    refine own_by (fun _ k => XS.iadd X4.here hx rfl (hb hby d17_23) rfl k) ?_
    show own_Go _ _ _ _ (T4.setTop (mkF m 24 #[.val (.ref a1), .val (.int p1)] [(.int (p1 + (1 : Int32))), (.int ((2 : Int32) * zn)), (.ref w1), (.ref a1)]))
    obtain ⟨g5, hg5⟩ : ∃ z_ : Int32, (p1 + (1 : Int32)) = z_ := ⟨_, rfl⟩
    refine own_gen hg5 (fun z_ => T4.setTop (mkF m 24 #[.val (.ref a1), .val (.int p1)] [(.int z_), (.int ((2 : Int32) * zn)), (.ref w1), (.ref a1)])) ?_
    obtain ⟨g6, hg6⟩ : ∃ z_ : Int32, ((2 : Int32) * zn) = z_ := ⟨_, rfl⟩
    refine own_gen hg6 (fun z_ => T4.setTop (mkF m 24 #[.val (.ref a1), .val (.int p1)] [(.int g5), (.int z_), (.ref w1), (.ref a1)])) ?_
    refine own_callS X4 hx hZ hown (hw _ (List.mem_of_getElem? (i := 137) rfl)) (hw _ (List.mem_of_getElem? (i := 103) rfl)) (hw _ (List.mem_of_getElem? (i := 104) rfl)) (hw _ (List.mem_of_getElem? (i := 105) rfl)) (by decide) (rm14 l Z a0 hw [] g6 g5 h0 n0 Z0) e4 (by rw [hml]; rfl) [(.int g6), (.int g5)] [(.ref w1), (.ref a1)] rfl (lenOf own_pd10 rfl) rfl 2 (Nat.le_of_eq rfl) (by decide) (by decide) (Nat.le_of_ble_eq_true rfl) (Nat.le_of_ble_eq_true rfl) (hb hby d17_24) ?_
    intro T7 Lc7 v7 X7 hQ7
    obtain ⟨rfl, N7q, e7⟩ := hQ7
    have N7 := Fr.app N0 N7q
    obtain ⟨g8, hg8⟩ : ∃ z_ : Int32, (if g6 < g5 then g5 else g6) = z_ := ⟨_, rfl⟩
    refine own_gen hg8 (fun z_ => T7.setTop (mkF m 27 #[.val (.ref a1), .val (.int p1)] [(.int z_), (.ref w1), (.ref a1)])) ?_
    obtain ⟨N1, hN1, hN1n, hN1k, hN1c⟩ : ∃ N1 : Nat, (g8).toInt = (N1 : Int) ∧ 2 * n ≤ N1 ∧ k1 + 1 ≤ N1 ∧ N1 ≤ 2 := own_max g8 zn p1 n k1 _ _ hzn hk (by omega) (by omega) (by omega) rfl rfl (by first | exact hg8 | (simp only [hg5, hg6]; exact hg8))
    show own_Go _ _ _ _ (T7.setTop (mkF m 27 #[.val (.ref a1), .val (.int p1)] [(.int g8), (.ref w1), (.ref a1)]))
    obtain ⟨bw, hbw⟩ : ∃ z, z = h0.size := ⟨_, rfl⟩
    have ne_w1_bw : w1 ≠ bw := Nat.ne_of_lt (Nat.lt_of_lt_of_le PA.lt (Nat.le_of_eq hbw.symm))
    have ne_d1_bw : d1 ≠ bw := Nat.ne_of_lt (Nat.lt_of_lt_of_le PB.lt (Nat.le_of_eq hbw.symm))
    have ne_a1_bw : a1 ≠ bw := Nat.ne_of_lt (Nat.lt_of_lt_of_le PE.lt (Nat.le_of_eq hbw.symm))
    have ge_bw : n0 ≤ bw := Nat.le_trans Z0 (Nat.le_of_eq hbw.symm)
    have nw_bw : h0.size ≤ bw := Nat.le_trans (Keep.refl h0 [a1, w1, d1]).1 (Nat.le_of_eq hbw.symm)
    refine own_callS X7 hx hZ hown (hw _ (List.mem_of_getElem? (i := 138) rfl)) (hw _ (List.mem_of_getElem? (i := 139) rfl)) (hw _ (List.mem_of_getElem? (i := 60) rfl)) (hw _ (List.mem_of_getElem? (i := 140) rfl)) (by decide) (rm21 l Z a0 hw [] w1 g8 n N1 f h0 n0 Z0 PA hN1 (by omega) (by omega) hN1c) e7 (by rw [hml]; rfl) [(.ref w1), (.int g8)] [(.ref a1)] rfl (lenOf own_pd15 rfl) rfl 1 (Nat.le_of_eq rfl) (by decide) (by decide) (Nat.le_of_ble_eq_true rfl) (Nat.le_of_ble_eq_true rfl) (hb hby d17_27) ?_
    intro T9 Lc9 v9 X9 hQ9
    obtain ⟨h9, e9⟩ : ∃ h, T9.heap = h := ⟨_, rfl⟩
    rw [e9] at hQ9
    obtain ⟨rfl, N9q, K9, A9⟩ := hQ9
    have N9 := Fr.app N7 N9q
    have f10 := PE.keep K9
    have f11 := PF.keep K9 nin0
    have f12 := PH.keep K9 nin0
    have f13 := PA.keep K9 nin0
    have f14 := PB.keep K9 nin0
    have f15 := PX.keep K9
    have f16 := (Keep.refl h0 [a1, w1, d1]).trans K9 all0
    have Z9 := Nat.le_trans Z0 K9.1
    rw [← hbw] at A9
    show own_Go _ _ _ _ (T9.setTop (mkF m 30 #[.val (.ref a1), .val (.int p1)] [(.ref h0.size), (.ref a1)]))
    refine own_gen hbw.symm (fun z_ => T9.setTop (mkF m 30 #[.val (.ref a1), .val (.int p1)] [(.ref z_), (.ref a1)])) ?_
    show own_Go _ _ _ _ (T9.setTop (mkF m 30 #[.val (.ref a1), .val (.int p1)] [(.ref bw), (.ref a1)]))
    obtain ⟨T17, h17, X17, e17, W17, st17⟩ := putF X9 hx hZ hown (host := "") (Or.inl (hw _ (List.mem_of_getElem? (i := 44) rfl))) Via.refl e9 f11 f10 (Or.inl (hw _ (List.mem_of_getElem? (i := 45) rfl))) (hw _ (List.mem_of_getElem? (i := 37) rfl)) (ty := (.array .long)) (by decide) rfl rfl (g := (mkF m 30 #[.val (.ref a1), .val (.int p1)] [(.ref bw), (.ref a1)])) rfl rfl (hb hby d17_30)
    refine own_by st17 ?_
    have f18 := f11.same W17
    have f19 := f10.wr W17
    have f20 := f12.other W17 (Or.inr (slot_ne (Or.inl (hw _ (List.mem_of_getElem? (i := 47) rfl))) (Or.inl (hw _ (List.mem_of_getElem? (i := 45) rfl))) (by decide) (t := (.array .long)) (t' := (.array .long)) (by decide) (by decide)))
    have f21 := f13.other W17 (Ne.symm Paw)
    have f22 := f14.other W17 (Ne.symm Pad)
    have f23 := f15.wr W17
    have f24 := f16.wr W17 (Or.inl (List.mem_of_getElem? (i := 0) rfl))
    have f25 := A9.other W17 (Ne.symm ne_a1_bw)
    have N17 := Fr.snoc X17 N9 Pa
    have Z17 := own_size_wr W17 Z9
    show own_Go _ _ _ _ (T17.setTop (mkF m 33 #[.val (.ref a1), .val (.int p1)] []))
    refine own_by (fun _ k => XS.aloadN X17.here hx rfl (hb hby d17_33) rfl rfl k) ?_
    refine own_by (fun _ k => XS.aloadN X17.here hx rfl (hb hby d17_34) rfl rfl k) ?_
    show own_Go _ _ _ _ (T17.setTop (mkF m 35 #[.val (.ref a1), .val (.int p1)] [(.ref a1), (.ref a1)]))
    obtain ⟨T26, X26, e26, st26⟩ := getF X17 hx hZ hown (host := "") (Or.inl (hw _ (List.mem_of_getElem? (i := 46) rfl))) Via.refl e17 f20 (g := (mkF m 35 #[.val (.ref a1), .val (.int p1)] [(.ref a1), (.ref a1)])) rfl rfl (hb hby d17_35)
    refine own_by st26 ?_
    refine own_by (fun _ k => XS.aloadN X26.here hx rfl (hb hby d17_38) rfl rfl k) ?_
    show own_Go _ _ _ _ (T26.setTop (mkF m 39 #[.val (.ref a1), .val (.int p1)] [(.ref a1), (.ref d1), (.ref a1)]))
    obtain ⟨T27, X27, e27, st27⟩ := getF X26 hx hZ hown (host := "") (Or.inl (hw _ (List.mem_of_getElem? (i := 44) rfl))) Via.refl e26 f18 (g := (mkF m 39 #[.val (.ref a1), .val (.int p1)] [(.ref a1), (.ref d1), (.ref a1)])) rfl rfl (hb hby d17_39)
    refine own_by st27 ?_
    show own_Go _ _ _ _ (T27.setTop (mkF m 42 #[.val (.ref a1), .val (.int p1)] [(.ref bw), (.ref d1), (.ref a1)]))
    refine own_by (fun _ k => own_len X27 hx hZ e27 f25 g8 (own_ofNat hN1) (hb hby d17_42) k) ?_
    refine own_by (fun _ k => XS.bipush X27.here hx rfl (hb hby d17_43) k) ?_
    show own_Go _ _ _ _ (T27.setTop (mkF m 45 #[.val (.ref a1), .val (.int p1)] [(.int (63 : Int32)), (.int g8), (.ref d1), (.ref a1)]))
    refine own_by (fun _ k => XS.iadd X27.here hx rfl (hb hby d17_45) rfl k) ?_
    refine own_by (fun _ k => XS.bipush X27.here hx rfl (hb hby d17_46) k) ?_
    show own_Go _ _ _ _ (T27.setTop (mkF m 48 #[.val (.ref a1), .val (.int p1)] [(.int (6 : Int32)), (.int (g8 + (63 : Int32))), (.ref d1), (.ref a1)]))
    refine own_by (fun _ k => XS.iushr X27.here hx rfl (hb hby d17_48) rfl k) ?_
    obtain ⟨g28, hg28⟩ : ∃ z_ : Int32, (((g8 + (63 : Int32)).toUInt32 >>> ((6 : Int32) &&& 31).toUInt32).toInt32) = z_ := ⟨_, rfl⟩
    refine own_gen hg28 (fun z_ => T27.setTop (mkF m 49 #[.val (.ref a1), .val (.int p1)] [(.int z_), (.ref d1), (.ref a1)])) ?_
    obtain ⟨M1, hM1, hM1e⟩ : ∃ M1 : Nat, (g28).toInt = (M1 : Int) ∧ M1 = (N1 + 63) / 64 := ⟨_, own_ush6 (own_p63 hN1 (by omega)) hg28, rfl⟩
    show own_Go _ _ _ _ (T27.setTop (mkF m 49 #[.val (.ref a1), .val (.int p1)] [(.int g28), (.ref d1), (.ref a1)]))
    obtain ⟨bh, hbh⟩ : ∃ z, z = h17.size := ⟨_, rfl⟩
    have ne_w1_bh : w1 ≠ bh := Nat.ne_of_lt (Nat.lt_of_lt_of_le f21.lt (Nat.le_of_eq hbh.symm))
    have ne_d1_bh : d1 ≠ bh := Nat.ne_of_lt (Nat.lt_of_lt_of_le f22.lt (Nat.le_of_eq hbh.symm))
    have ne_a1_bh : a1 ≠ bh := Nat.ne_of_lt (Nat.lt_of_lt_of_le f19.lt (Nat.le_of_eq hbh.symm))
    have ne_bw_bh : bw ≠ bh := Nat.ne_of_lt (Nat.lt_of_lt_of_le f25.lt (Nat.le_of_eq hbh.symm))
    have ge_bh : n0 ≤ bh := Nat.le_trans Z17 (Nat.le_of_eq hbh.symm)
    have nw_bh : h0.size ≤ bh := Nat.le_trans f24.1 (Nat.le_of_eq hbh.symm)
    refine own_callS X27 hx hZ hown (hw _ (List.mem_of_getElem? (i := 138) rfl)) (hw _ (List.mem_of_getElem? (i := 139) rfl)) (hw _ (List.mem_of_getElem? (i := 60) rfl)) (hw _ (List.mem_of_getElem? (i := 140) rfl)) (by decide) (rm21h l Z a0 hw [] d1 g28 mm M1 g h17 n0 Z17 f22 f23 hM1 (by omega) (by omega)) e27 (by rw [hml]; rfl) [(.ref d1), (.int g28)] [(.ref a1)] rfl (lenOf own_pd15 rfl) rfl 1 (Nat.le_of_eq rfl) (by decide) (by decide) (Nat.le_of_ble_eq_true rfl) (Nat.le_of_ble_eq_true rfl) (hb hby d17_49) ?_
    intro T29 Lc29 v29 X29 hQ29
    obtain ⟨h29, e29⟩ : ∃ h, T29.heap = h := ⟨_, rfl⟩
    rw [e29] at hQ29
    obtain ⟨rfl, N29q, K29, A29, B29⟩ := hQ29
    have N29 := Fr.app N17 N29q
    have f30 := f19.keep K29
    have f31 := f18.keep K29 nin0
    have f32 := f20.keep K29 nin0
    have f33 := f21.keep K29 nin0
    have f34 := f22.keep K29 nin0
    have f35 := f23.keep K29
    have f36 := f24.trans K29 all0
    have f37 := f25.keep K29 nin0
    have Z29 := Nat.le_trans Z17 K29.1
    rw [← hbh] at A29 B29
    show own_Go _ _ _ _ (T29.setTop (mkF m 52 #[.val (.ref a1), .val (.int p1)] [(.ref h17.size), (.ref a1)]))
    refine own_gen hbh.symm (fun z_ => T29.setTop (mkF m 52 #[.val (.ref a1), .val (.int p1)] [(.ref z_), (.ref a1)])) ?_
    show own_Go _ _ _ _ (T29.setTop (mkF m 52 #[.val (.ref a1), .val (.int p1)] [(.ref bh), (.ref a1)]))
    obtain ⟨T38, h38, X38, e38, W38, st38⟩ := putF X29 hx hZ hown (host := "") (Or.inl (hw _ (List.mem_of_getElem? (i := 46) rfl))) Via.refl e29 f32 f30 (Or.inl (hw _ (List.mem_of_getElem? (i := 47) rfl))) (hw _ (List.mem_of_getElem? (i := 37) rfl)) (ty := (.array .long)) (by decide) rfl rfl (g := (mkF m 52 #[.val (.ref a1), .val (.int p1)] [(.ref bh), (.ref a1)])) rfl rfl (hb hby d17_52)
    refine own_by st38 ?_
    have f39 := f32.same W38
    have f40 := f30.wr W38
    have f41 := f31.other W38 (Or.inr (slot_ne (Or.inl (hw _ (List.mem_of_getElem? (i := 45) rfl))) (Or.inl (hw _ (List.mem_of_getElem? (i := 47) rfl))) (by decide) (t := (.array .long)) (t' := (.array .long)) (by decide) (by decide)))
    have f42 := f33.other W38 (Ne.symm Paw)
    have f43 := f34.other W38 (Ne.symm Pad)
    have f44 := f35.wr W38
    have f45 := f36.wr W38 (Or.inl (List.mem_of_getElem? (i := 0) rfl))
    have f46 := f37.other W38 (Ne.symm ne_a1_bw)
    have f47 := A29.other W38 (Ne.symm ne_a1_bh)
    have f48 := B29.wr W38
    have N38 := Fr.snoc X38 N29 Pa
    have Z38 := own_size_wr W38 Z29
    show own_Go _ _ _ _ (T38.setTop (mkF m 55 #[.val (.ref a1), .val (.int p1)] []))
    exact own_retV X38 hx Bd.notSynchronized e38 Bd.returns (hb hby d17_55) (⟨rfl, N38, f45, bw, bh, N1, M1, _, _, f41, f39, f46, f47, f48, ge_bw, ge_bh, ne_a1_bw, ne_a1_bh, ne_bw_bh, by omega, by omega, hM1e, Or.inr nw_bw, Or.inr nw_bh, by omega, fun y => (own_grow f n N1 (by omega) y).trans (Pb y)⟩) (by decide) (by decide)
set_option maxRecDepth 65536 in
set_option maxHeartbeats 40000000 in
theorem rm16 (l : Launch) (Z : State) (a0 : Array Value) (hw : ∀ d ∈ tables_1, d.before a0 Z = true) (ws : List Jvm.Cond) (a1 : Addr) (p1 : Int32) (w1 d1 : Addr) (S : Nat → Bool) (x1 : Nat) (h0 : Heap) (n0 : Nat) (Z0 : n0 ≤ h0.size) (PBB : own_B Z h0 n0 a1 w1 d1 S) (hx1 : p1.toInt = (x1 : Int)) (hx5 : x1 ≤ 127) :
    MetFree l (⟨"com/example/sonde/sonde/engine/Bits", "set", "(I)V"⟩ : MethodName) (head1 (Jvm.Cond.code (⟨"com/example/sonde/sonde/engine/Bits", "set", "(I)V"⟩ : MethodName) prog_101_method_3_code 3 none :: ws) ({ frames := 3, cells := 2, slots := 3, locals := 94 } : Room)) (fun a U => a = #[(.ref a1), (.int p1)] ∧ Z.Warmed39 U.vm ∧ U.heap = h0) (fun _ _ _ _ _ => True) (fun _ U o U' => ∃ vv LL, o = .returned vv ∧ own_ap (fun v h L => v = none ∧ Fr n0 L ∧ Keep h0 h [a1, w1, d1] ∧ ∃ w2 d2 : Addr, own_B Z h n0 a1 w2 d2 (fun y => S y || decide (y = x1)) ∧ (w2 = w1 ∨ h0.size ≤ w2) ∧ (d2 = d1 ∨ h0.size ≤ d2)) vv U'.heap LL ∧ FrameEnd U o U' LL 2 3) := by
  refine MetFree.of_bodySF (plainFor_of_name pn_16) hisR ?_
  intro p e s m args below meth c s₁ Bd hml0 hP hK
  obtain ⟨rfl, hZ, hh⟩ := hP
  have hx := Bd.exec
  have hby := Bd.bytes
  have hml : c.maxLocals = 3 := hml0
  have hown : s.vm.findClass "com/example/sonde/sonde/engine/Bits" = some m.cls := findClass_of_methodNamed Bd.named
  have hnm := (name_of_methodNamed Bd.named Bd.method).1
  have X0 : Stand p l e ({ frames := 3, cells := 2, slots := 3, locals := 94 } : Room) s m #[(.ref a1), (.int p1)] below meth c s₁ [] 0 0 := Stand.of_body Bd
  have e0 : s₁.heap = h0 := by rw [← hh, Bd.state]; rfl
  have N0 := Fr.nil n0
  show own_Go p.tables e below (own_Q s (fun v h L => v = none ∧ Fr n0 L ∧ Keep h0 h [a1, w1, d1] ∧ ∃ w2 d2 : Addr, own_B Z h n0 a1 w2 d2 (fun y => S y || decide (y = x1)) ∧ (w2 = w1 ∨ h0.size ≤ w2) ∧ (d2 = d1 ∨ h0.size ≤ d2)) 2 3) (s₁.setTop (entryFrame m #[(.ref a1), (.int p1)] 3))
  rw [show entryFrame m #[(.ref a1), (.int p1)] 3 = mkF m 0 #[.val (.ref a1), .val (.int p1), .unset] [] from by first | (simp [entryFrame, mkF, argsToLocals, Value.category]; done) | rfl]
  obtain ⟨PE, PF, PH, n, mm, f, g, PA, PB, PX, Pa, Pw, Pd, Paw, Pad, Pwd, Pn1, Pn5, Pm, Pb⟩ := id PBB
  show own_Go _ _ _ _ (s₁.setTop (mkF m 0 #[.val (.ref a1), .val (.int p1), .unset] []))
  refine own_by (fun _ k => XS.iloadN X0.here hx rfl (hb hby d16_0) rfl k) ?_
  refine own_by (fun _ k => XS.bipush X0.here hx rfl (hb hby d16_1) k) ?_
  show own_Go _ _ _ _ (s₁.setTop (mkF m 3 #[.val (.ref a1), .val (.int p1), .unset] [(.int (6 : Int32)), (.int p1)]))
  refine own_by (fun _ k => XS.iushr X0.here hx rfl (hb hby d16_3) rfl k) ?_
  show own_Go _ _ _ _ (s₁.setTop (mkF m 4 #[.val (.ref a1), .val (.int p1), .unset] [(.int ((p1.toUInt32 >>> ((6 : Int32) &&& 31).toUInt32).toInt32))]))
  obtain ⟨v2_1, hv2_1⟩ : ∃ z_ : Int32, ((p1.toUInt32 >>> ((6 : Int32) &&& 31).toUInt32).toInt32) = z_ := ⟨_, rfl⟩
  refine own_gen hv2_1 (fun z_ => s₁.setTop (mkF m 4 #[.val (.ref a1), .val (.int p1), .unset] [(.int z_)])) ?_
  refine own_by (fun _ k => XS.istoreN X0.here hx rfl (hb hby d16_4) rfl (l' := #[.val (.ref a1), .val (.int p1), .val (.int v2_1)]) rfl k) ?_
  have hk2 := own_ush6 hx1 hv2_1
  refine own_by (fun _ k => XS.aloadN X0.here hx rfl (hb hby d16_5) rfl rfl k) ?_
  refine own_by (fun _ k => XS.iloadN X0.here hx rfl (hb hby d16_6) rfl k) ?_
  show own_Go _ _ _ _ (s₁.setTop (mkF m 7 #[.val (.ref a1), .val (.int p1), .val (.int v2_1)] [(.int v2_1), (.ref a1)]))
  refine own_callP (y' := (⟨"com/example/sonde/sonde/engine/Bits", "set", "(I)V"⟩ : MethodName)) X0 hx hZ hown (hw _ (List.mem_of_getElem? (i := 119) rfl)) (hw _ (List.mem_of_getElem? (i := 120) rfl)) (hw _ (List.mem_of_getElem? (i := 121) rfl)) rfl (hw _ (List.mem_of_getElem? (i := 117) rfl)) (hw _ (List.mem_of_getElem? (i := 38) rfl)) (hw _ (List.mem_of_getElem? (i := 122) rfl)) (by decide) (rm17 l Z a0 hw [] a1 v2_1 w1 d1 S (x1 / 64) h0 n0 Z0 PBB hk2 (by omega)) e0 a1 PE (by rw [hml]; rfl) [(.int v2_1)] [] rfl (lenOf own_pd1 rfl) rfl 0 (Nat.le_of_eq rfl) (by decide) (by decide) (Nat.le_of_ble_eq_true rfl) (Nat.le_of_ble_eq_true rfl) (hb hby d16_7) ?_
  intro T2 Lc2 v2 X2 hQ2
  obtain ⟨h2, e2⟩ : ∃ h, T2.heap = h := ⟨_, rfl⟩
  rw [e2] at hQ2
  obtain ⟨rfl, N2q, K2, wz2, dz2, nz2, mz2, fz2, gz2, FW2, FH2, AW2, AH2, EH2, gw2, gh2, naw2, nad2, nwd2, hn12, hn52, hm2, ow2, od2, hkn2, hbt2⟩ := hQ2
  have N2 := Fr.app N0 N2q
  have f3 := PE.keep K2
  have f8 := PX.keep K2
  have f9 := (Keep.refl h0 [a1, w1, d1]).trans K2 (allS (P := fun x => x ∈ [a1, w1, d1] ∨ h0.size ≤ x) (Or.inl (List.mem_of_getElem? (i := 0) rfl)) (allS (P := fun x => x ∈ [a1, w1, d1] ∨ h0.size ≤ x) (Or.inl (List.mem_of_getElem? (i := 1) rfl)) (allS (P := fun x => x ∈ [a1, w1, d1] ∨ h0.size ≤ x) (Or.inl (List.mem_of_getElem? (i := 2) rfl)) all0)))
  have Z2 := Nat.le_trans Z0 K2.1
  show own_Go _ _ _ _ (T2.setTop (mkF m 10 #[.val (.ref a1), .val (.int p1), .val (.int v2_1)] []))
  refine own_by (fun _ k => XS.aloadN X2.here hx rfl (hb hby d16_10) rfl rfl k) ?_
  show own_Go _ _ _ _ (T2.setTop (mkF m 11 #[.val (.ref a1), .val (.int p1), .val (.int v2_1)] [(.ref a1)]))
  obtain ⟨T10, X10, e10, st10⟩ := getF X2 hx hZ hown (host := "") (Or.inl (hw _ (List.mem_of_getElem? (i := 44) rfl))) Via.refl e2 FW2 (g := (mkF m 11 #[.val (.ref a1), .val (.int p1), .val (.int v2_1)] [(.ref a1)])) rfl rfl (hb hby d16_11)
  refine own_by st10 ?_
  refine own_by (fun _ k => XS.iloadN X10.here hx rfl (hb hby d16_14) rfl k) ?_
  show own_Go _ _ _ _ (T10.setTop (mkF m 15 #[.val (.ref a1), .val (.int p1), .val (.int v2_1)] [(.int v2_1), (.ref wz2)]))
  refine own_by (fun _ k => Jvm.Free.XT.dup2 X10.here hx rfl (hb hby d16_15) rfl rfl rfl k) ?_
  show own_Go _ _ _ _ (T10.setTop (mkF m 16 #[.val (.ref a1), .val (.int p1), .val (.int v2_1)] [(.int v2_1), (.ref wz2), (.int v2_1), (.ref wz2)]))
  refine own_by (fun _ k => own_lal X10 hx hZ e10 AW2 (x1 / 64) hk2 hkn2 (hb hby d16_16) k) ?_
  refine own_by (fun _ k => XS.lconst X10.here hx rfl (hb hby d16_17) k) ?_
  refine own_by (fun _ k => XS.iloadN X10.here hx rfl (hb hby d16_18) rfl k) ?_
  show own_Go _ _ _ _ (T10.setTop (mkF m 19 #[.val (.ref a1), .val (.int p1), .val (.int v2_1)] [(.int p1), (.long (1 : Int64)), (.long (fz2 (x1 / 64))), (.int v2_1), (.ref wz2)]))
  refine own_by (fun _ k => XS.lshl X10.here hx rfl (hb hby d16_19) rfl k) ?_
  show own_Go _ _ _ _ (T10.setTop (mkF m 20 #[.val (.ref a1), .val (.int p1), .val (.int v2_1)] [(.long ((1 : Int64) <<< (p1 &&& 0x3f).toInt64)), (.long (fz2 (x1 / 64))), (.int v2_1), (.ref wz2)]))
  refine own_by (fun _ k => XS.lor X10.here hx rfl (hb hby d16_20) rfl k) ?_
  show own_Go _ _ _ _ (T10.setTop (mkF m 21 #[.val (.ref a1), .val (.int p1), .val (.int v2_1)] [(.long ((fz2 (x1 / 64)) ||| ((1 : Int64) <<< (p1 &&& 0x3f).toInt64))), (.int v2_1), (.ref wz2)]))
  refine own_las X10 hx hZ e10 AW2 (x1 / 64) hk2 hkn2 (hb hby d16_21) ?_
  intro T11 h11 X11 e11 W11 A11
  have f12 := f3.wr W11
  have f13 := f8.wr W11
  have f14 := f9.wr W11 (ow2.elim (fun q => Or.inl (by rw [q]; exact List.mem_of_getElem? (i := 1) rfl)) Or.inr)
  have f15 := FW2.other W11 (Or.inl naw2)
  have f16 := FH2.other W11 (Or.inl naw2)
  have f17 := AH2.other W11 (Ne.symm nwd2)
  have f18 := EH2.wr W11
  have N11 := Fr.snoc X11 N2 gw2
  have Z11 := own_size_wr W11 Z2
  obtain ⟨fn11, hfn11⟩ : ∃ gf_ : Nat → Int64, gf_ = own_upd fz2 (x1 / 64) ((fz2 (x1 / 64)) ||| ((1 : Int64) <<< (p1 &&& 0x3f).toInt64)) := ⟨_, rfl⟩
  rw [← hfn11] at A11
  show own_Go _ _ _ _ (T11.setTop (mkF m 22 #[.val (.ref a1), .val (.int p1), .val (.int v2_1)] []))
  refine own_by (fun _ k => XS.aloadN X11.here hx rfl (hb hby d16_22) rfl rfl k) ?_
  show own_Go _ _ _ _ (T11.setTop (mkF m 23 #[.val (.ref a1), .val (.int p1), .val (.int v2_1)] [(.ref a1)]))
  obtain ⟨T19, X19, e19, st19⟩ := getF X11 hx hZ hown (host := "") (Or.inl (hw _ (List.mem_of_getElem? (i := 46) rfl))) Via.refl e11 f16 (g := (mkF m 23 #[.val (.ref a1), .val (.int p1), .val (.int v2_1)] [(.ref a1)])) rfl rfl (hb hby d16_23)
  refine own_by st19 ?_
  refine own_by (fun _ k => XS.iloadN X19.here hx rfl (hb hby d16_26) rfl k) ?_
  refine own_by (fun _ k => XS.bipush X19.here hx rfl (hb hby d16_27) k) ?_
  show own_Go _ _ _ _ (T19.setTop (mkF m 29 #[.val (.ref a1), .val (.int p1), .val (.int v2_1)] [(.int (6 : Int32)), (.int v2_1), (.ref dz2)]))
  refine own_by (fun _ k => XS.iushr X19.here hx rfl (hb hby d16_29) rfl k) ?_
  show own_Go _ _ _ _ (T19.setTop (mkF m 30 #[.val (.ref a1), .val (.int p1), .val (.int v2_1)] [(.int ((v2_1.toUInt32 >>> ((6 : Int32) &&& 31).toUInt32).toInt32)), (.ref dz2)]))
  refine own_by (fun _ k => Jvm.Free.XT.dup2 X19.here hx rfl (hb hby d16_30) rfl rfl rfl k) ?_
  show own_Go _ _ _ _ (T19.setTop (mkF m 31 #[.val (.ref a1), .val (.int p1), .val (.int v2_1)] [(.int ((v2_1.toUInt32 >>> ((6 : Int32) &&& 31).toUInt32).toInt32)), (.ref dz2), (.int ((v2_1.toUInt32 >>> ((6 : Int32) &&& 31).toUInt32).toInt32)), (.ref dz2)]))
  refine own_by (fun _ k => own_lal X19 hx hZ e19 f17 (x1 / 64 / 64) (own_ush6 hk2 rfl) (by rw [hm2]; have := hkn2; omega) (hb hby d16_31) k) ?_
  refine own_by (fun _ k => XS.lconst X19.here hx rfl (hb hby d16_32) k) ?_
  refine own_by (fun _ k => XS.iloadN X19.here hx rfl (hb hby d16_33) rfl k) ?_
  show own_Go _ _ _ _ (T19.setTop (mkF m 34 #[.val (.ref a1), .val (.int p1), .val (.int v2_1)] [(.int v2_1), (.long (1 : Int64)), (.long (gz2 (x1 / 64 / 64))), (.int ((v2_1.toUInt32 >>> ((6 : Int32) &&& 31).toUInt32).toInt32)), (.ref dz2)]))
  refine own_by (fun _ k => XS.lshl X19.here hx rfl (hb hby d16_34) rfl k) ?_
  show own_Go _ _ _ _ (T19.setTop (mkF m 35 #[.val (.ref a1), .val (.int p1), .val (.int v2_1)] [(.long ((1 : Int64) <<< (v2_1 &&& 0x3f).toInt64)), (.long (gz2 (x1 / 64 / 64))), (.int ((v2_1.toUInt32 >>> ((6 : Int32) &&& 31).toUInt32).toInt32)), (.ref dz2)]))
  refine own_by (fun _ k => XS.lor X19.here hx rfl (hb hby d16_35) rfl k) ?_
  show own_Go _ _ _ _ (T19.setTop (mkF m 36 #[.val (.ref a1), .val (.int p1), .val (.int v2_1)] [(.long ((gz2 (x1 / 64 / 64)) ||| ((1 : Int64) <<< (v2_1 &&& 0x3f).toInt64))), (.int ((v2_1.toUInt32 >>> ((6 : Int32) &&& 31).toUInt32).toInt32)), (.ref dz2)]))
  refine own_las X19 hx hZ e19 f17 (x1 / 64 / 64) (own_ush6 hk2 rfl) (by rw [hm2]; have := hkn2; omega) (hb hby d16_36) ?_
  intro T20 h20 X20 e20 W20 A20
  have f21 := f12.wr W20
  have f22 := f13.wr W20
  have f23 := f14.wr W20 (od2.elim (fun q => Or.inl (by rw [q]; exact List.mem_of_getElem? (i := 2) rfl)) Or.inr)
  have f24 := f15.other W20 (Or.inl nad2)
  have f25 := f16.other W20 (Or.inl nad2)
  have f26 := A11.other W20 nwd2
  have f27 := f18.wr W20
  have N20 := Fr.snoc X20 N11 gh2
  have Z20 := own_size_wr W20 Z11
  obtain ⟨fn20, hfn20⟩ : ∃ gf_ : Nat → Int64, gf_ = own_upd gz2 (x1 / 64 / 64) ((gz2 (x1 / 64 / 64)) ||| ((1 : Int64) <<< (v2_1 &&& 0x3f).toInt64)) := ⟨_, rfl⟩
  rw [← hfn20] at A20
  show own_Go _ _ _ _ (T20.setTop (mkF m 37 #[.val (.ref a1), .val (.int p1), .val (.int v2_1)] []))
  exact own_retV X20 hx Bd.notSynchronized e20 Bd.returns (hb hby d16_37) (⟨rfl, N20, f23, wz2, dz2, ⟨f21, f24, f25, nz2, mz2, _, _, f26, A20, f27, Pa, gw2, gh2, naw2, nad2, nwd2, hn12, hn52, hm2, fun y => by rw [hfn11, own_set fz2 nz2 p1 x1 hx1 hkn2, hbt2]⟩, ow2, od2⟩) (by decide) (by decide)
set_option maxRecDepth 65536 in
set_option maxHeartbeats 40000000 in
theorem rm19 (l : Launch) (Z : State) (a0 : Array Value) (hw : ∀ d ∈ tables_1, d.before a0 Z = true) (ws : List Jvm.Cond) (a1 : Addr) (p1 : Int32) (w1 d1 : Addr) (S : Nat → Bool) (x1 : Nat) (h0 : Heap) (n0 : Nat) (Z0 : n0 ≤ h0.size) (PBB : own_B Z h0 n0 a1 w1 d1 S) (hx1 : p1.toInt = (x1 : Int)) :
    MetFree l (⟨"com/example/sonde/sonde/engine/Bits", "get", "(I)Z"⟩ : MethodName) (head1 (Jvm.Cond.code (⟨"com/example/sonde/sonde/engine/Bits", "get", "(I)Z"⟩ : MethodName) prog_101_method_2_code 3 (some .boolean) :: ws) ({ frames := 0, cells := 0, slots := 0, locals := 0 } : Room)) (fun a U => a = #[(.ref a1), (.int p1)] ∧ Z.Warmed39 U.vm ∧ U.heap = h0) (fun _ _ _ _ _ => True) (fun _ U o U' => ∃ vv LL, o = .returned vv ∧ own_ap (fun v h L => v = some (.int (if S x1 then 1 else 0)) ∧ Fr n0 L ∧ h = h0) vv U'.heap LL ∧ FrameEnd U o U' LL 0 0) := by
  refine MetFree.of_bodySF (plainFor_of_name pn_19) hisR ?_
  intro p e s m args below meth c s₁ Bd hml0 hP hK
  obtain ⟨rfl, hZ, hh⟩ := hP
  have hx := Bd.exec
  have hby := Bd.bytes
  have hml : c.maxLocals = 3 := hml0
  have hown : s.vm.findClass "com/example/sonde/sonde/engine/Bits" = some m.cls := findClass_of_methodNamed Bd.named
  have hnm := (name_of_methodNamed Bd.named Bd.method).1
  have X0 : Stand p l e ({ frames := 0, cells := 0, slots := 0, locals := 0 } : Room) s m #[(.ref a1), (.int p1)] below meth c s₁ [] 0 0 := Stand.of_body Bd
  have e0 : s₁.heap = h0 := by rw [← hh, Bd.state]; rfl
  have N0 := Fr.nil n0
  show own_Go p.tables e below (own_Q s (fun v h L => v = some (.int (if S x1 then 1 else 0)) ∧ Fr n0 L ∧ h = h0) 0 0) (s₁.setTop (entryFrame m #[(.ref a1), (.int p1)] 3))
  rw [show entryFrame m #[(.ref a1), (.int p1)] 3 = mkF m 0 #[.val (.ref a1), .val (.int p1), .unset] [] from by first | (simp [entryFrame, mkF, argsToLocals, Value.category]; done) | rfl]
  obtain ⟨PE, PF, PH, n, mm, f, g, PA, PB, PX, Pa, Pw, Pd, Paw, Pad, Pwd, Pn1, Pn5, Pm, Pb⟩ := PBB
  obtain ⟨zn, hznE, hzn⟩ : ∃ z : Int32, z = n.toInt32 ∧ z.toInt = (n : Int) := ⟨n.toInt32, rfl, own_ofN (by omega)⟩
  show own_Go _ _ _ _ (s₁.setTop (mkF m 0 #[.val (.ref a1), .val (.int p1), .unset] []))
  refine own_by (fun _ k => XS.iloadN X0.here hx rfl (hb hby d19_0) rfl k) ?_
  refine own_by (fun _ k => XS.bipush X0.here hx rfl (hb hby d19_1) k) ?_
  show own_Go _ _ _ _ (s₁.setTop (mkF m 3 #[.val (.ref a1), .val (.int p1), .unset] [(.int (6 : Int32)), (.int p1)]))
  refine own_by (fun _ k => XS.iushr X0.here hx rfl (hb hby d19_3) rfl k) ?_
  show own_Go _ _ _ _ (s₁.setTop (mkF m 4 #[.val (.ref a1), .val (.int p1), .unset] [(.int ((p1.toUInt32 >>> ((6 : Int32) &&& 31).toUInt32).toInt32))]))
  obtain ⟨v2_1, hv2_1⟩ : ∃ z_ : Int32, ((p1.toUInt32 >>> ((6 : Int32) &&& 31).toUInt32).toInt32) = z_ := ⟨_, rfl⟩
  refine own_gen hv2_1 (fun z_ => s₁.setTop (mkF m 4 #[.val (.ref a1), .val (.int p1), .unset] [(.int z_)])) ?_
  refine own_by (fun _ k => XS.istoreN X0.here hx rfl (hb hby d19_4) rfl (l' := #[.val (.ref a1), .val (.int p1), .val (.int v2_1)]) rfl k) ?_
  have hk2 := own_ush6 hx1 hv2_1
  refine own_by (fun _ k => XS.iloadN X0.here hx rfl (hb hby d19_5) rfl k) ?_
  refine own_by (fun _ k => XS.aloadN X0.here hx rfl (hb hby d19_6) rfl rfl k) ?_
  show own_Go _ _ _ _ (s₁.setTop (mkF m 7 #[.val (.ref a1), .val (.int p1), .val (.int v2_1)] [(.ref a1), (.int v2_1)]))
  obtain ⟨T2, X2, e2, st2⟩ := getF X0 hx hZ hown (host := "") (Or.inl (hw _ (List.mem_of_getElem? (i := 44) rfl))) Via.refl e0 PF (g := (mkF m 7 #[.val (.ref a1), .val (.int p1), .val (.int v2_1)] [(.ref a1), (.int v2_1)])) rfl rfl (hb hby d19_7)
  refine own_by st2 ?_
  show own_Go _ _ _ _ (T2.setTop (mkF m 10 #[.val (.ref a1), .val (.int p1), .val (.int v2_1)] [(.ref w1), (.int v2_1)]))
  refine own_by (fun _ k => own_len X2 hx hZ e2 PA zn hznE (hb hby d19_10) k) ?_
  show own_Go _ _ _ _ (T2.setTop (mkF m 11 #[.val (.ref a1), .val (.int p1), .val (.int v2_1)] [(.int zn), (.int v2_1)]))
  by_cases hc3 : v2_1 < zn
  · --
    have hkn : x1 / 64 < n := by have q := hc3; rw [Int32.lt_iff_toInt_lt, hk2, hzn] at q; omega
    refine own_by (fun _ k => XS.icmpNo X2.here hx rfl (hb hby d19_11) rfl (tlt hc3).2.1 k) ?_
    refine own_by (fun _ k => XS.aloadN X2.here hx rfl (hb hby d19_14) rfl rfl k) ?_
    show own_Go _ _ _ _ (T2.setTop (mkF m 15 #[.val (.ref a1), .val (.int p1), .val (.int v2_1)] [(.ref a1)]))
    obtain ⟨T4, X4, e4, st4⟩ := getF X2 hx hZ hown (host := "") (Or.inl (hw _ (List.mem_of_getElem? (i := 44) rfl))) Via.refl e2 PF (g := (mkF m 15 #[.val (.ref a1), .val (.int p1), .val (.int v2_1)] [(.ref a1)])) rfl rfl (hb hby d19_15)
    refine own_by st4 ?_
    refine own_by (fun _ k => XS.iloadN X4.here hx rfl (hb hby d19_18) rfl k) ?_
    show own_Go _ _ _ _ (T4.setTop (mkF m 19 #[.val (.ref a1), .val (.int p1), .val (.int v2_1)] [(.int v2_1), (.ref w1)]))
    refine own_by (fun _ k => own_lal X4 hx hZ e4 PA (x1 / 64) hk2 hkn (hb hby d19_19) k) ?_
    refine own_by (fun _ k => XS.lconst X4.here hx rfl (hb hby d19_20) k) ?_
    refine own_by (fun _ k => XS.iloadN X4.here hx rfl (hb hby d19_21) rfl k) ?_
    show own_Go _ _ _ _ (T4.setTop (mkF m 22 #[.val (.ref a1), .val (.int p1), .val (.int v2_1)] [(.int p1), (.long (1 : Int64)), (.long (f (x1 / 64)))]))
    refine own_by (fun _ k => XS.lshl X4.here hx rfl (hb hby d19_22) rfl k) ?_
    show own_Go _ _ _ _ (T4.setTop (mkF m 23 #[.val (.ref a1), .val (.int p1), .val (.int v2_1)] [(.long ((1 : Int64) <<< (p1 &&& 0x3f).toInt64)), (.long (f (x1 / 64)))]))
    refine own_by (fun _ k => XS.land X4.here hx rfl (hb hby d19_23) rfl k) ?_
    refine own_by (fun _ k => XS.lconst X4.here hx rfl (hb hby d19_24) k) ?_
    show own_Go _ _ _ _ (T4.setTop (mkF m 25 #[.val (.ref a1), .val (.int p1), .val (.int v2_1)] [(.long (0 : Int64)), (.long ((f (x1 / 64)) &&& ((1 : Int64) <<< (p1 &&& 0x3f).toInt64)))]))
    refine own_by (fun _ k => XS.lcmp X4.here hx rfl (hb hby d19_25) rfl k) ?_
    show own_Go _ _ _ _ (T4.setTop (mkF m 26 #[.val (.ref a1), .val (.int p1), .val (.int v2_1)] [(.int (lcmpW ((f (x1 / 64)) &&& ((1 : Int64) <<< (p1 &&& 0x3f).toInt64)) (0 : Int64)))]))
    by_cases hc5 : ((f (x1 / 64)) &&& ((1 : Int64) <<< (p1 &&& 0x3f).toInt64)) = (0 : Int64)
    · --
      refine own_by (fun _ k => XS.ifYes X4.here hx rfl (pc0 := 26) (pc' := 33) rfl (hb hby d19_26) rfl ((if0 _ _).trans (teq ((lw_eq _ _).mpr hc5)).1) (by decide) (by decide) k) ?_
      refine own_by (fun _ k => XS.iconst X4.here hx rfl (hb hby d19_33) k) ?_
      show own_Go _ _ _ _ (T4.setTop (mkF m 34 #[.val (.ref a1), .val (.int p1), .val (.int v2_1)] [(.int (0 : Int32))]))
      exact own_retN X4 hx Bd.notSynchronized e4 Bd.returns (by simp) (hb hby d19_34) (⟨by have q := (own_get _ p1 x1 hx1).mp hc5; rw [← Pb x1]; simp [own_has, hkn, q, nar], N0, rfl⟩) (by decide) (by decide)
    · --
      refine own_by (fun _ k => XS.ifNo X4.here hx rfl (hb hby d19_26) rfl ((if0 _ _).trans (feq (mt (lw_eq _ _).mp hc5)).1) k) ?_
      refine own_by (fun _ k => XS.iconst X4.here hx rfl (hb hby d19_29) k) ?_
      show own_Go _ _ _ _ (T4.setTop (mkF m 30 #[.val (.ref a1), .val (.int p1), .val (.int v2_1)] [(.int (1 : Int32))]))
      refine own_by (fun _ k => XS.goto X4.here hx rfl (pc0 := 30) (pc' := 34) rfl (hb hby d19_30) (by decide) (by decide) k) ?_
      show own_Go _ _ _ _ (T4.setTop (mkF m 34 #[.val (.ref a1), .val (.int p1), .val (.int v2_1)] [(.int (1 : Int32))]))
      exact own_retN X4 hx Bd.notSynchronized e4 Bd.returns (by simp) (hb hby d19_34) (⟨by have q := mt (own_get _ p1 x1 hx1).mpr hc5; rw [← Pb x1]; simp [own_has, hkn, q, nar], N0, rfl⟩) (by decide) (by decide)
  · --
    have hkn : ¬ x1 / 64 < n := by have q := hc3; rw [Int32.lt_iff_toInt_lt, hk2, hzn] at q; omega
    refine own_by (fun _ k => XS.icmpYes X2.here hx rfl (pc0 := 11) (pc' := 33) rfl (hb hby d19_11) rfl (flt hc3).2.1 (by decide) (by decide) k) ?_
    refine own_by (fun _ k => XS.iconst X2.here hx rfl (hb hby d19_33) k) ?_
    show own_Go _ _ _ _ (T2.setTop (mkF m 34 #[.val (.ref a1), .val (.int p1), .val (.int v2_1)] [(.int (0 : Int32))]))
    exact own_retN X2 hx Bd.notSynchronized e2 Bd.returns (by simp) (hb hby d19_34) (⟨by rw [← Pb x1]; simp [own_has, hkn, nar], N0, rfl⟩) (by decide) (by decide)
set_option maxRecDepth 65536 in
set_option maxHeartbeats 40000000 in
theorem rm8 (l : Launch) (Z : State) (a0 : Array Value) (hw : ∀ d ∈ tables_1, d.before a0 Z = true) (ws : List Jvm.Cond) (a1 : Addr)  (h0 : Heap) (n0 : Nat) (Z0 : n0 ≤ h0.size) :
    MetFree l (⟨"java/util/Objects", "requireNonNull", "(Ljava/lang/Object;)Ljava/lang/Object;"⟩ : MethodName) (head1 (Jvm.Cond.code (⟨"java/util/Objects", "requireNonNull", "(Ljava/lang/Object;)Ljava/lang/Object;"⟩ : MethodName) jdk_31_method_10_code 1 (some (.object "java/lang/Object")) :: ws) ({ frames := 0, cells := 0, slots := 0, locals := 0 } : Room)) (fun a U => a = #[(.ref a1)] ∧ Z.Warmed39 U.vm ∧ U.heap = h0) (fun _ _ _ _ _ => True) (fun _ U o U' => ∃ vv LL, o = .returned vv ∧ own_ap (fun v h L => v = some (.ref a1) ∧ Fr n0 L ∧ h = h0) vv U'.heap LL ∧ FrameEnd U o U' LL 0 0) := by
  refine MetFree.of_bodySF (plainFor_of_name pn_8) hisR ?_
  intro p e s m args below meth c s₁ Bd hml0 hP hK
  obtain ⟨rfl, hZ, hh⟩ := hP
  have hx := Bd.exec
  have hby := Bd.bytes
  have hml : c.maxLocals = 1 := hml0
  have hown : s.vm.findClass "java/util/Objects" = some m.cls := findClass_of_methodNamed Bd.named
  have hnm := (name_of_methodNamed Bd.named Bd.method).1
  have X0 : Stand p l e ({ frames := 0, cells := 0, slots := 0, locals := 0 } : Room) s m #[(.ref a1)] below meth c s₁ [] 0 0 := Stand.of_body Bd
  have e0 : s₁.heap = h0 := by rw [← hh, Bd.state]; rfl
  have N0 := Fr.nil n0
  show own_Go p.tables e below (own_Q s (fun v h L => v = some (.ref a1) ∧ Fr n0 L ∧ h = h0) 0 0) (s₁.setTop (entryFrame m #[(.ref a1)] 1))
  rw [show entryFrame m #[(.ref a1)] 1 = mkF m 0 #[.val (.ref a1)] [] from by first | (simp [entryFrame, mkF, argsToLocals, Value.category]; done) | rfl]
  show own_Go _ _ _ _ (s₁.setTop (mkF m 0 #[.val (.ref a1)] []))
  refine own_by (fun _ k => XS.aloadN X0.here hx rfl (hb hby d8_0) rfl rfl k) ?_
  show own_Go _ _ _ _ (s₁.setTop (mkF m 1 #[.val (.ref a1)] [(.ref a1)]))
  refine own_by (fun _ k => XS.ifnonnullYes X0.here hx rfl (pc0 := 1) (pc' := 12) rfl (hb hby d8_1) rfl (by decide) (by decide) k) ?_
  refine own_by (fun _ k => XS.aloadN X0.here hx rfl (hb hby d8_12) rfl rfl k) ?_
  show own_Go _ _ _ _ (s₁.setTop (mkF m 13 #[.val (.ref a1)] [(.ref a1)]))
  exact own_retA X0 hx Bd.notSynchronized e0 Bd.returns rfl rfl rfl (hb hby d8_13) (⟨rfl, N0, rfl⟩) (by decide) (by decide)
set_option maxRecDepth 65536 in
set_option maxHeartbeats 40000000 in
theorem rm9 (l : Launch) (Z : State) (a0 : Array Value) (hw : ∀ d ∈ tables_1, d.before a0 Z = true) (ws : List Jvm.Cond) (p1 : Int32)  (h0 : Heap) (n0 : Nat) (Z0 : n0 ≤ h0.size) :
    MetFree l (⟨"com/example/sonde/sonde/engine/AnswerSets", "lambda$new$0", "(I)Lcom/example/sonde/sonde/engine/Bits;"⟩ : MethodName) (head1 (Jvm.Cond.code (⟨"com/example/sonde/sonde/engine/AnswerSets", "lambda$new$0", "(I)Lcom/example/sonde/sonde/engine/Bits;"⟩ : MethodName) prog_86_method_9_code 1 (some (.object "com/example/sonde/sonde/engine/Bits")) :: ws) ({ frames := 2, cells := 3, slots := 4, locals := 30 } : Room)) (fun a U => a = #[(.int p1)] ∧ Z.Warmed39 U.vm ∧ U.heap = h0) (fun _ _ _ _ _ => True) (fun _ U o U' => ∃ vv LL, o = .returned vv ∧ own_ap (fun v h L => ∃ bb : Addr, v = some (.ref bb) ∧ Fr n0 L ∧ Keep h0 h [] ∧ h0.size ≤ bb ∧ Exa Z h bb "com/example/sonde/sonde/engine/Bits") vv U'.heap LL ∧ FrameEnd U o U' LL 3 4) := by
  refine MetFree.of_bodySF (plainFor_of_name pn_9) hisR ?_
  intro p e s m args below meth c s₁ Bd hml0 hP hK
  obtain ⟨rfl, hZ, hh⟩ := hP
  have hx := Bd.exec
  have hby := Bd.bytes
  have hml : c.maxLocals = 1 := hml0
  have hown : s.vm.findClass "com/example/sonde/sonde/engine/AnswerSets" = some m.cls := findClass_of_methodNamed Bd.named
  have hnm := (name_of_methodNamed Bd.named Bd.method).1
  have X0 : Stand p l e ({ frames := 2, cells := 3, slots := 4, locals := 30 } : Room) s m #[(.int p1)] below meth c s₁ [] 0 0 := Stand.of_body Bd
  have e0 : s₁.heap = h0 := by rw [← hh, Bd.state]; rfl
  have N0 := Fr.nil n0
  show own_Go p.tables e below (own_Q s (fun v h L => ∃ bb : Addr, v = some (.ref bb) ∧ Fr n0 L ∧ Keep h0 h [] ∧ h0.size ≤ bb ∧ Exa Z h bb "com/example/sonde/sonde/engine/Bits") 3 4) (s₁.setTop (entryFrame m #[(.int p1)] 1))
  rw [show entryFrame m #[(.int p1)] 1 = mkF m 0 #[.val (.int p1)] [] from by first | (simp [entryFrame, mkF, argsToLocals, Value.category]; done) | rfl]
  show own_Go _ _ _ _ (s₁.setTop (mkF m 0 #[.val (.int p1)] []))
  obtain ⟨T1, h1, X1, e1, E1, A1, D1, -, st1⟩ := newO X0 hx hZ hown (hw _ (List.mem_of_getElem? (i := 36) rfl)) (hw _ (List.mem_of_getElem? (i := 37) rfl)) (hw _ (List.mem_of_getElem? (i := 38) rfl)) e0 (g := (mkF m 0 #[.val (.int p1)] [])) rfl (hb hby d9_0) (by decide) (by decide)
  refine own_by st1 ?_
  show own_Go _ _ _ _ (T1.setTop (mkF m 3 #[.val (.int p1)] [.ref h0.size]))
  obtain ⟨b1, g1⟩ : ∃ z, z = h0.size := ⟨_, rfl⟩
  rw [← g1] at A1 D1
  refine own_gen g1.symm (fun z_ => T1.setTop (mkF m 3 #[.val (.int p1)] [.ref z_])) ?_
  have ge1 : n0 ≤ b1 := Nat.le_trans Z0 (Nat.le_of_eq g1.symm)
  have nw1 : h0.size ≤ b1 := Nat.le_trans (Keep.refl h0 []).1 (Nat.le_of_eq g1.symm)
  have f2 := (Keep.refl h0 []).ext E1
  have Z1 := Nat.le_trans Z0 E1.1
  have f3 : Fld Z h1 b1 "com/example/sonde/sonde/engine/Bits" "words" "[J" .null := D1 (Or.inl (hw _ (List.mem_of_getElem? (i := 45) rfl))) (ty := (.array .long)) (by decide)
  have f4 : Fld Z h1 b1 "com/example/sonde/sonde/engine/Bits" "held" "[J" .null := D1 (Or.inl (hw _ (List.mem_of_getElem? (i := 47) rfl))) (ty := (.array .long)) (by decide)
  show own_Go _ _ _ _ (T1.setTop (mkF m 3 #[.val (.int p1)] [(.ref b1)]))
  refine own_by (fun _ k => XS.dup X1.here hx rfl (hb hby d9_3) rfl rfl k) ?_
  show own_Go _ _ _ _ (T1.setTop (mkF m 4 #[.val (.int p1)] [(.ref b1), (.ref b1)]))
  refine own_callI X1 hx hZ hown rfl (hw _ (List.mem_of_getElem? (i := 39) rfl)) (hw _ (List.mem_of_getElem? (i := 40) rfl)) (hw _ (List.mem_of_getElem? (i := 38) rfl)) (hw _ (List.mem_of_getElem? (i := 41) rfl)) (by decide) (rm6 l Z a0 hw [] b1 h1 n0 Z1 A1 f3 f4 ge1) e1 (by rw [hml]; rfl) b1 [] [(.ref b1)] rfl (lenOf own_pd2 rfl) rfl 1 (Nat.le_of_eq rfl) (by decide) (by decide) (Nat.le_of_ble_eq_true rfl) (Nat.le_of_ble_eq_true rfl) (hb hby d9_4) ?_
  intro T5 Lc5 v5 X5 hQ5
  obtain ⟨h5, e5⟩ : ∃ h, T5.heap = h := ⟨_, rfl⟩
  rw [e5] at hQ5
  obtain ⟨rfl, N5q, K5, wz5, dz5, B5, nww5, nwd5⟩ := hQ5
  have N5 := Fr.app N0 N5q
  have f6 := f2.trans K5 (allS (P := fun x => x ∈ [] ∨ h0.size ≤ x) (Or.inr nw1) all0)
  have f7 := A1.keep K5
  have Z5 := Nat.le_trans Z1 K5.1
  have ne10 : b1 ≠ wz5 := Nat.ne_of_lt (Nat.lt_of_lt_of_le f4.lt nww5)
  have nk_wz5 : h0.size ≤ wz5 := Nat.le_trans f2.1 nww5
  have ne11 : b1 ≠ dz5 := Nat.ne_of_lt (Nat.lt_of_lt_of_le f4.lt nwd5)
  have nk_dz5 : h0.size ≤ dz5 := Nat.le_trans f2.1 nwd5
  have neb5 : b1 ≠ wz5 := by obtain ⟨-, -, -, _, _, _, _, -, -, -, -, -, -, q, -⟩ := B5; exact q
  show own_Go _ _ _ _ (T5.setTop (mkF m 7 #[.val (.int p1)] [(.ref b1)]))
  exact own_retA X5 hx Bd.notSynchronized e5 Bd.returns rfl rfl rfl (hb hby d9_7) (⟨_, rfl, N5, f6, nw1, f7⟩) (by decide) (by decide)
abbrev own_sg : Lambda.Shape := (Jvm.Lambda.Shape.mk "java/util/function/IntFunction" "apply" (Jvm.ClassFile.MethodDescriptor.mk ([Jvm.ClassFile.FieldType.int] : List Jvm.ClassFile.FieldType) (Option.some (Jvm.ClassFile.FieldType.object "java/lang/Object"))) ([] : List Jvm.ClassFile.FieldType) (6 : Nat) "com/example/sonde/sonde/engine/AnswerSets" "lambda$new$0" (Jvm.ClassFile.MethodDescriptor.mk ([Jvm.ClassFile.FieldType.int] : List Jvm.ClassFile.FieldType) (Option.some (Jvm.ClassFile.FieldType.object "com/example/sonde/sonde/engine/Bits"))) false (Jvm.ClassFile.MethodDescriptor.mk ([Jvm.ClassFile.FieldType.int] : List Jvm.ClassFile.FieldType) (Option.some (Jvm.ClassFile.FieldType.object "com/example/sonde/sonde/engine/Bits"))))
def own_fc : ByteArray := ⟨#[0x1b, 0xb8, 0x00, 0x12, 0xb0]⟩
theorem own_fwd : Jvm.LamKit.fwdOK own_sg "com/example/sonde/sonde/engine/AnswerSets" own_fc 2 (some (.object "java/lang/Object")) 18 14 = true := by decide +kernel
theorem own_f0 : decode own_fc 0 = .ok (.iload_n 1, 1) := by decide +kernel
theorem own_f1 : decode own_fc 1 = .ok (.invokestatic 18, 3) := by decide +kernel
theorem own_f4 : decode own_fc 4 = .ok (.areturn, 1) := by decide +kernel
set_option maxRecDepth 65536 in
set_option maxHeartbeats 4000000 in
theorem own_lam {p : Program} {l : Launch} {e : Env} {R : Room} {s : State} {m : MethodId} {args : Array Value} {below : List Frame} {meth : Method} {c : Code} {T : State} {locs : List Loc} {cells slots : Nat} {Z : State} {h : Heap} {pc : Nat} {Ls : Array Slot} {rest : List Value} {Q : Outcome → State → Prop} {a0 : Array Value} {n0 : Nat} {sa : Addr} {cK : ClassId} {i : Int32} {x0 : MethodName} {px : Nat}
    (X : Stand p l e R s m args below meth c T locs cells slots) (hx : p.tables.exec = Jvm.exec) (hZ : Z.Warmed39 s.vm) (hown : s.vm.findClass "java/util/Arrays" = some m.cls) (hH : Z.WarmedH s.vm) (hw : ∀ d ∈ tables_1, d.before a0 Z = true) (hxc : x0.cls = "com/example/sonde/sonde/engine/AnswerSets") (S : own_Site Z x0 px own_sg sa cK) (F : own_Fn h sa cK) (eT : T.heap = h) (Zn : n0 ≤ h.size) (hsize : Ls.size = c.maxLocals)
    (W : Nat) (hW : 2 * 0 + (rest.map fun v => v.category).sum ≤ W) (hf : 4 ≤ R.frames) (hl : W + 60 ≤ R.locals) (hc : cells + 3 ≤ R.cells) (hs : slots + 4 ≤ R.slots) (hd : decode c.code pc = .ok (.invokeinterface 558 2, 5))
    (K : ∀ T' L bb, Stand p l e R s m args below meth c T' (locs ++ L) (cells + 3) (slots + 4) → Fr n0 L → Keep h T'.heap [] → h.size ≤ bb → Exa Z T'.heap bb "com/example/sonde/sonde/engine/Bits" → own_Go p.tables e below Q (T'.setTop (mkF m (pc + 5) Ls (.ref bb :: rest)))) :
    own_Go p.tables e below Q (T.setTop (mkF m pc Ls (.int i :: .ref sa :: rest))) := by
  have hcode := (hw _ (List.mem_of_getElem? (i := 70) rfl))
  have hM : Met l (⟨"com/example/sonde/sonde/engine/AnswerSets", "lambda$new$0", "(I)Lcom/example/sonde/sonde/engine/Bits;"⟩ : MethodName) [Cond.code (⟨"com/example/sonde/sonde/engine/AnswerSets", "lambda$new$0", "(I)Lcom/example/sonde/sonde/engine/Bits;"⟩ : MethodName) prog_86_method_9_code 1 (some (.object "com/example/sonde/sonde/engine/Bits"))] { frames := 2, cells := 3, slots := 4, locals := 30 } (fun a U => a = #[.int i] ∧ Z.Warmed39 U.vm ∧ U.heap = h) (fun _ _ o t => ∃ bb : Addr, o = .returned (some (.ref bb)) ∧ Keep h t.heap [] ∧ h.size ≤ bb ∧ Exa Z t.heap bb "com/example/sonde/sonde/engine/Bits") 3 4 (fun b => n0 ≤ b) := by
    intro p e ha hc hk s m args below hf hap hP hK
    obtain ⟨n, o, h1, h2, h3, v, L, rfl, ⟨bb, rfl, N, K, q1, q2⟩, hE⟩ := rm9 l Z a0 hw [] i h n0 Zn p e ha hc hk s m args below hf hap hP hK
    exact ⟨n, _, h1, h2, h3, ⟨bb, rfl, K, q1, q2⟩, L, hE, N⟩
  obtain ⟨v, st, t, T', L, X', hL, e1, e3, ⟨bb, hv, Kp, q1, q2⟩, steps⟩ := Jvm.LamKit.callLamS X hx (own := "java/util/Arrays") (host := "com/example/sonde/sonde/engine/AnswerSets") (index := 558) (count := 2) (xi := (⟨"java/util/function/IntFunction", "apply", "(I)Ljava/lang/Object;"⟩ : MethodName)) (y := (⟨"com/example/sonde/sonde/engine/AnswerSets", "lambda$new$0", "(I)Lcom/example/sonde/sonde/engine/Bits;"⟩ : MethodName)) (σ := own_sg) hM (fun _ _ _ _ h => h) rfl rfl
    (fun w hw' a' U hU => by rw [List.mem_singleton.mp hw']; exact mv (wtrans hZ hU) hcode) (List.mem_singleton.mpr rfl)
    hown (mvT hZ (hw _ (List.mem_of_getElem? (i := 66) rfl))) (mvT hZ (hw _ (List.mem_of_getElem? (i := 67) rfl))) (mvT hZ (hw _ (List.mem_of_getElem? (i := 68) rfl))) (mvT hZ hcode) (mvT hZ (hw _ (List.mem_of_getElem? (i := 69) rfl))) (mvT hZ (hw _ (List.mem_of_getElem? (i := 3) rfl))) (by decide +kernel) (by decide +kernel) (by decide) (own_made hH (hxc ▸ S.1)) (by rw [eT]; exact F) own_fwd own_f1 own_f4
    (g := mkF m pc Ls (.int i :: .ref sa :: rest)) rfl hsize (argsL := [.int i]) (argsT := [.int i]) (rest := rest) (L0 := #[.val (.ref sa), .val (.int i)])
    (fun sig h => by cases own_pd16.symm.trans h; rfl) (fun sig h => by cases own_pd5.symm.trans h; rfl)
    rfl hd (fun _ => rfl) rfl
    (fun U ck bl target hU hck _ _ k => XS.iloadN hU hx rfl (hb hck own_f0) rfl k)
    (fun st w t h => by obtain ⟨bb, hv, -⟩ := h; cases hv; exact Or.inr (Or.inr (Or.inl ⟨_, _, rfl, rfl, rfl, rfl, rfl⟩))) hf (by show 2 * 0 + _ + (2 + 11) + (1 + 11 + 30) ≤ _; omega) hc hs (fun U hU hh => ⟨rfl, wtrans hZ hU, hh.trans eT⟩)
  cases hv
  rw [← e1] at Kp q2
  exact own_by steps (K T' L bb X' hL Kp q1 q2)
set_option maxRecDepth 65536 in
set_option maxHeartbeats 40000000 in
theorem rm7_1 (l : Launch) (Z : State) (a0 : Array Value) (hw : ∀ d ∈ tables_1, d.before a0 Z = true) (ws : List Jvm.Cond) (a1 : Addr) (sa : Addr) (cK : ClassId) (f : Nat → Value) (h0 : Heap) (n0 : Nat) (Z0 : n0 ≤ h0.size) (PA : own_Ra Z h0 a1 "com/example/sonde/sonde/engine/Bits" 1 f) (PFn : own_Fn h0 sa cK) (PSt : own_Site Z (⟨"com/example/sonde/sonde/engine/AnswerSets", "<init>", "(I)V"⟩ : MethodName) 49 own_sg sa cK) (Pa : n0 ≤ a1) :
    MetFree l (⟨"java/util/Arrays", "setAll", "([Ljava/lang/Object;Ljava/util/function/IntFunction;)V"⟩ : MethodName) (head1 (Jvm.Cond.code (⟨"java/util/Arrays", "setAll", "([Ljava/lang/Object;Ljava/util/function/IntFunction;)V"⟩ : MethodName) jdk_65_method_173_code 3 none :: ws) ({ frames := 4, cells := 12, slots := 16, locals := 70 } : Room)) (fun a U => a = #[(.ref a1), (.ref sa)] ∧ Z.Warmed39 U.vm ∧ U.heap = h0 ∧ Z.WarmedH U.vm) (fun _ _ _ _ _ => True) (fun _ U o U' => ∃ vv LL, o = .returned vv ∧ own_ap (fun v h L => v = none ∧ Fr n0 L ∧ Keep h0 h [a1] ∧ ∃ f2, own_Ra Z h a1 "com/example/sonde/sonde/engine/Bits" 1 f2) vv U'.heap LL ∧ FrameEnd U o U' LL 12 16) := by
  refine MetFree.of_bodySF (plainFor_of_name pn_7) hisR ?_
  intro p e s m args below meth c s₁ Bd hml0 hP hK
  obtain ⟨rfl, hZ, hh, hH⟩ := hP
  have hx := Bd.exec
  have hby := Bd.bytes
  have hml : c.maxLocals = 3 := hml0
  have hown : s.vm.findClass "java/util/Arrays" = some m.cls := findClass_of_methodNamed Bd.named
  have hnm := (name_of_methodNamed Bd.named Bd.method).1
  have X0 : Stand p l e ({ frames := 4, cells := 12, slots := 16, locals := 70 } : Room) s m #[(.ref a1), (.ref sa)] below meth c s₁ [] 0 0 := Stand.of_body Bd
  have e0 : s₁.heap = h0 := by rw [← hh, Bd.state]; rfl
  have N0 := Fr.nil n0
  show own_Go p.tables e below (own_Q s (fun v h L => v = none ∧ Fr n0 L ∧ Keep h0 h [a1] ∧ ∃ f2, own_Ra Z h a1 "com/example/sonde/sonde/engine/Bits" 1 f2) 12 16) (s₁.setTop (entryFrame m #[(.ref a1), (.ref sa)] 3))
  rw [show entryFrame m #[(.ref a1), (.ref sa)] 3 = mkF m 0 #[.val (.ref a1), .val (.ref sa), .unset] [] from by first | (simp [entryFrame, mkF, argsToLocals, Value.category]; done) | rfl]
  show own_Go _ _ _ _ (s₁.setTop (mkF m 0 #[.val (.ref a1), .val (.ref sa), .unset] []))
  refine own_by (fun _ k => XS.aloadN X0.here hx rfl (hb hby d7_0) rfl rfl k) ?_
  show own_Go _ _ _ _ (s₁.setTop (mkF m 1 #[.val (.ref a1), .val (.ref sa), .unset] [(.ref sa)]))
  refine own_callS X0 hx hZ hown (hw _ (List.mem_of_getElem? (i := 62) rfl)) (hw _ (List.mem_of_getElem? (i := 63) rfl)) (hw _ (List.mem_of_getElem? (i := 64) rfl)) (hw _ (List.mem_of_getElem? (i := 65) rfl)) (by decide) (rm8 l Z a0 hw [] sa h0 n0 Z0) e0 (by rw [hml]; rfl) [(.ref sa)] [] rfl (lenOf own_pd4 rfl) rfl 0 (Nat.le_of_eq rfl) (by decide) (by decide) (Nat.le_of_ble_eq_true rfl) (Nat.le_of_ble_eq_true rfl) (hb hby d7_1) ?_
  intro T1 Lc1 v1 X1 hQ1
  obtain ⟨rfl, N1q, e1⟩ := hQ1
  have N1 := Fr.app N0 N1q
  show own_Go _ _ _ _ (T1.setTop (mkF m 4 #[.val (.ref a1), .val (.ref sa), .unset] [(.ref sa)]))
  refine own_by (fun _ k => XS.pop X1.here hx rfl (hb hby d7_4) rfl rfl k) ?_
  refine own_by (fun _ k => XS.iconst X1.here hx rfl (hb hby d7_5) k) ?_
  show own_Go _ _ _ _ (T1.setTop (mkF m 6 #[.val (.ref a1), .val (.ref sa), .unset] [(.int (0 : Int32))]))
  refine own_by (fun _ k => XS.istoreN X1.here hx rfl (hb hby d7_6) rfl (l' := #[.val (.ref a1), .val (.ref sa), .val (.int (0 : Int32))]) rfl k) ?_
  refine own_by (fun _ k => XS.iloadN X1.here hx rfl (hb hby d7_7) rfl k) ?_
  refine own_by (fun _ k => XS.aloadN X1.here hx rfl (hb hby d7_8) rfl rfl k) ?_
  show own_Go _ _ _ _ (T1.setTop (mkF m 9 #[.val (.ref a1), .val (.ref sa), .val (.int (0 : Int32))] [(.ref a1), (.int (0 : Int32))]))
  refine own_by (fun _ k => own_len X1 hx hZ e1 PA.ar (1 : Int32) (by decide) (hb hby d7_9) k) ?_
  show own_Go _ _ _ _ (T1.setTop (mkF m 10 #[.val (.ref a1), .val (.ref sa), .val (.int (0 : Int32))] [(.int (1 : Int32)), (.int (0 : Int32))]))
  refine own_by (fun _ k => XS.icmpNo X1.here hx rfl (hb hby d7_10) rfl (tlt (by decide)).2.1 k) ?_
  refine own_by (fun _ k => XS.aloadN X1.here hx rfl (hb hby d7_13) rfl rfl k) ?_
  refine own_by (fun _ k => XS.iloadN X1.here hx rfl (hb hby d7_14) rfl k) ?_
  show own_Go _ _ _ _ (T1.setTop (mkF m 15 #[.val (.ref a1), .val (.ref sa), .val (.int (0 : Int32))] [(.int (0 : Int32)), (.ref a1)]))
  refine own_by (fun _ k => XS.aloadN X1.here hx rfl (hb hby d7_15) rfl rfl k) ?_
  refine own_by (fun _ k => XS.iloadN X1.here hx rfl (hb hby d7_16) rfl k) ?_
  show own_Go _ _ _ _ (T1.setTop (mkF m 17 #[.val (.ref a1), .val (.ref sa), .val (.int (0 : Int32))] [(.int (0 : Int32)), (.ref sa), (.int (0 : Int32)), (.ref a1)]))
  refine own_lam X1 hx hZ hown hH hw rfl PSt PFn e1 Z0 (by rw [hml]; rfl) 2 (Nat.le_of_eq rfl) (by decide) (by decide) (by decide) (by decide) (hb hby d7_17) ?_
  intro T2 Lc2 bb2 X2 N2q K2 nw2 EX2
  obtain ⟨h2, e2⟩ : ∃ h, T2.heap = h := ⟨_, rfl⟩
  rw [e2] at K2 EX2
  have N2 := Fr.app N1 N2q
  have f3 := PA.keep K2 nin0
  have f4 := PFn.keep K2
  have f5 := (Keep.refl h0 [a1]).trans K2 all0
  have Z2 := Nat.le_trans Z0 K2.1
  have ne6 : a1 ≠ bb2 := Nat.ne_of_lt (Nat.lt_of_lt_of_le PA.lt nw2)
  have ne7 : sa ≠ bb2 := Nat.ne_of_lt (Nat.lt_of_lt_of_le PFn.lt nw2)
  show own_Go _ _ _ _ (T2.setTop (mkF m 22 #[.val (.ref a1), .val (.ref sa), .val (.int (0 : Int32))] [(.ref bb2), (.int (0 : Int32)), (.ref a1)]))
  refine own_aas X2 hx hZ e2 f3 (Ins.self EX2) 0 (by decide) (by decide) (hb hby d7_22) ?_
  intro T8 h8 X8 e8 W8 A8
  have f9 := f4.wr W8
  have f10 := f5.wr W8 (Or.inl (List.mem_of_getElem? (i := 0) rfl))
  have f11 := EX2.wr W8
  have N8 := Fr.snoc X8 N2 Pa
  have Z8 := own_size_wr W8 Z2
  obtain ⟨fn8, hfn8⟩ : ∃ gf_ : Nat → Value, gf_ = own_upd f 0 (.ref bb2) := ⟨_, rfl⟩
  rw [← hfn8] at A8
  show own_Go _ _ _ _ (T8.setTop (mkF m 23 #[.val (.ref a1), .val (.ref sa), .val (.int (0 : Int32))] []))
  refine own_by (fun _ k => XS.iinc X8.here hx rfl (hb hby d7_23) rfl (l' := #[.val (.ref a1), .val (.ref sa), .val (.int ((0 : Int32) + (1 : Int32)))]) rfl k) ?_
  show own_Go _ _ _ _ (T8.setTop (mkF m 26 #[.val (.ref a1), .val (.ref sa), .val (.int ((0 : Int32) + (1 : Int32)))] []))
  rw [(by decide : ((0 : Int32) + (1 : Int32)) = (1 : Int32))]
  show own_Go _ _ _ _ (T8.setTop (mkF m 26 #[.val (.ref a1), .val (.ref sa), .val (.int (1 : Int32))] []))
  refine own_by (fun _ k => XS.goto X8.here hx rfl (pc0 := 26) (pc' := 7) rfl (hb hby d7_26) (by decide) (by decide) k) ?_
  refine own_by (fun _ k => XS.iloadN X8.here hx rfl (hb hby d7_7) rfl k) ?_
  refine own_by (fun _ k => XS.aloadN X8.here hx rfl (hb hby d7_8) rfl rfl k) ?_
  show own_Go _ _ _ _ (T8.setTop (mkF m 9 #[.val (.ref a1), .val (.ref sa), .val (.int (1 : Int32))] [(.ref a1), (.int (1 : Int32))]))
  refine own_by (fun _ k => own_len X8 hx hZ e8 A8.ar (1 : Int32) (by decide) (hb hby d7_9) k) ?_
  show own_Go _ _ _ _ (T8.setTop (mkF m 10 #[.val (.ref a1), .val (.ref sa), .val (.int (1 : Int32))] [(.int (1 : Int32)), (.int (1 : Int32))]))
  refine own_by (fun _ k => XS.icmpYes X8.here hx rfl (pc0 := 10) (pc' := 29) rfl (hb hby d7_10) rfl (flt (by decide)).2.1 (by decide) (by decide) k) ?_
  show own_Go _ _ _ _ (T8.setTop (mkF m 29 #[.val (.ref a1), .val (.ref sa), .val (.int (1 : Int32))] []))
  exact own_retV X8 hx Bd.notSynchronized e8 Bd.returns (hb hby d7_29) (⟨rfl, N8, f10, _, A8⟩) (by decide) (by decide)
set_option maxRecDepth 65536 in
set_option maxHeartbeats 40000000 in
theorem rm7_2 (l : Launch) (Z : State) (a0 : Array Value) (hw : ∀ d ∈ tables_1, d.before a0 Z = true) (ws : List Jvm.Cond) (a1 : Addr) (sa : Addr) (cK : ClassId) (f : Nat → Value) (h0 : Heap) (n0 : Nat) (Z0 : n0 ≤ h0.size) (PA : own_Ra Z h0 a1 "com/example/sonde/sonde/engine/Bits" 2 f) (PFn : own_Fn h0 sa cK) (PSt : own_Site Z (⟨"com/example/sonde/sonde/engine/AnswerSets", "<init>", "(I)V"⟩ : MethodName) 49 own_sg sa cK) (Pa : n0 ≤ a1) :
    MetFree l (⟨"java/util/Arrays", "setAll", "([Ljava/lang/Object;Ljava/util/function/IntFunction;)V"⟩ : MethodName) (head1 (Jvm.Cond.code (⟨"java/util/Arrays", "setAll", "([Ljava/lang/Object;Ljava/util/function/IntFunction;)V"⟩ : MethodName) jdk_65_method_173_code 3 none :: ws) ({ frames := 4, cells := 12, slots := 16, locals := 70 } : Room)) (fun a U => a = #[(.ref a1), (.ref sa)] ∧ Z.Warmed39 U.vm ∧ U.heap = h0 ∧ Z.WarmedH U.vm) (fun _ _ _ _ _ => True) (fun _ U o U' => ∃ vv LL, o = .returned vv ∧ own_ap (fun v h L => v = none ∧ Fr n0 L ∧ Keep h0 h [a1] ∧ ∃ f2, own_Ra Z h a1 "com/example/sonde/sonde/engine/Bits" 2 f2) vv U'.heap LL ∧ FrameEnd U o U' LL 12 16) := by
  refine MetFree.of_bodySF (plainFor_of_name pn_7) hisR ?_
  intro p e s m args below meth c s₁ Bd hml0 hP hK
  obtain ⟨rfl, hZ, hh, hH⟩ := hP
  have hx := Bd.exec
  have hby := Bd.bytes
  have hml : c.maxLocals = 3 := hml0
  have hown : s.vm.findClass "java/util/Arrays" = some m.cls := findClass_of_methodNamed Bd.named
  have hnm := (name_of_methodNamed Bd.named Bd.method).1
  have X0 : Stand p l e ({ frames := 4, cells := 12, slots := 16, locals := 70 } : Room) s m #[(.ref a1), (.ref sa)] below meth c s₁ [] 0 0 := Stand.of_body Bd
  have e0 : s₁.heap = h0 := by rw [← hh, Bd.state]; rfl
  have N0 := Fr.nil n0
  show own_Go p.tables e below (own_Q s (fun v h L => v = none ∧ Fr n0 L ∧ Keep h0 h [a1] ∧ ∃ f2, own_Ra Z h a1 "com/example/sonde/sonde/engine/Bits" 2 f2) 12 16) (s₁.setTop (entryFrame m #[(.ref a1), (.ref sa)] 3))
  rw [show entryFrame m #[(.ref a1), (.ref sa)] 3 = mkF m 0 #[.val (.ref a1), .val (.ref sa), .unset] [] from by first | (simp [entryFrame, mkF, argsToLocals, Value.category]; done) | rfl]
  show own_Go _ _ _ _ (s₁.setTop (mkF m 0 #[.val (.ref a1), .val (.ref sa), .unset] []))
  refine own_by (fun _ k => XS.aloadN X0.here hx rfl (hb hby d7_0) rfl rfl k) ?_
  show own_Go _ _ _ _ (s₁.setTop (mkF m 1 #[.val (.ref a1), .val (.ref sa), .unset] [(.ref sa)]))
  refine own_callS X0 hx hZ hown (hw _ (List.mem_of_getElem? (i := 62) rfl)) (hw _ (List.mem_of_getElem? (i := 63) rfl)) (hw _ (List.mem_of_getElem? (i := 64) rfl)) (hw _ (List.mem_of_getElem? (i := 65) rfl)) (by decide) (rm8 l Z a0 hw [] sa h0 n0 Z0) e0 (by rw [hml]; rfl) [(.ref sa)] [] rfl (lenOf own_pd4 rfl) rfl 0 (Nat.le_of_eq rfl) (by decide) (by decide) (Nat.le_of_ble_eq_true rfl) (Nat.le_of_ble_eq_true rfl) (hb hby d7_1) ?_
  intro T1 Lc1 v1 X1 hQ1
  obtain ⟨rfl, N1q, e1⟩ := hQ1
  have N1 := Fr.app N0 N1q
  show own_Go _ _ _ _ (T1.setTop (mkF m 4 #[.val (.ref a1), .val (.ref sa), .unset] [(.ref sa)]))
  refine own_by (fun _ k => XS.pop X1.here hx rfl (hb hby d7_4) rfl rfl k) ?_
  refine own_by (fun _ k => XS.iconst X1.here hx rfl (hb hby d7_5) k) ?_
  show own_Go _ _ _ _ (T1.setTop (mkF m 6 #[.val (.ref a1), .val (.ref sa), .unset] [(.int (0 : Int32))]))
  refine own_by (fun _ k => XS.istoreN X1.here hx rfl (hb hby d7_6) rfl (l' := #[.val (.ref a1), .val (.ref sa), .val (.int (0 : Int32))]) rfl k) ?_
  refine own_by (fun _ k => XS.iloadN X1.here hx rfl (hb hby d7_7) rfl k) ?_
  refine own_by (fun _ k => XS.aloadN X1.here hx rfl (hb hby d7_8) rfl rfl k) ?_
  show own_Go _ _ _ _ (T1.setTop (mkF m 9 #[.val (.ref a1), .val (.ref sa), .val (.int (0 : Int32))] [(.ref a1), (.int (0 : Int32))]))
  refine own_by (fun _ k => own_len X1 hx hZ e1 PA.ar (2 : Int32) (by decide) (hb hby d7_9) k) ?_
  show own_Go _ _ _ _ (T1.setTop (mkF m 10 #[.val (.ref a1), .val (.ref sa), .val (.int (0 : Int32))] [(.int (2 : Int32)), (.int (0 : Int32))]))
  refine own_by (fun _ k => XS.icmpNo X1.here hx rfl (hb hby d7_10) rfl (tlt (by decide)).2.1 k) ?_
  refine own_by (fun _ k => XS.aloadN X1.here hx rfl (hb hby d7_13) rfl rfl k) ?_
  refine own_by (fun _ k => XS.iloadN X1.here hx rfl (hb hby d7_14) rfl k) ?_
  show own_Go _ _ _ _ (T1.setTop (mkF m 15 #[.val (.ref a1), .val (.ref sa), .val (.int (0 : Int32))] [(.int (0 : Int32)), (.ref a1)]))
  refine own_by (fun _ k => XS.aloadN X1.here hx rfl (hb hby d7_15) rfl rfl k) ?_
  refine own_by (fun _ k => XS.iloadN X1.here hx rfl (hb hby d7_16) rfl k) ?_
  show own_Go _ _ _ _ (T1.setTop (mkF m 17 #[.val (.ref a1), .val (.ref sa), .val (.int (0 : Int32))] [(.int (0 : Int32)), (.ref sa), (.int (0 : Int32)), (.ref a1)]))
  refine own_lam X1 hx hZ hown hH hw rfl PSt PFn e1 Z0 (by rw [hml]; rfl) 2 (Nat.le_of_eq rfl) (by decide) (by decide) (by decide) (by decide) (hb hby d7_17) ?_
  intro T2 Lc2 bb2 X2 N2q K2 nw2 EX2
  obtain ⟨h2, e2⟩ : ∃ h, T2.heap = h := ⟨_, rfl⟩
  rw [e2] at K2 EX2
  have N2 := Fr.app N1 N2q
  have f3 := PA.keep K2 nin0
  have f4 := PFn.keep K2
  have f5 := (Keep.refl h0 [a1]).trans K2 all0
  have Z2 := Nat.le_trans Z0 K2.1
  have ne6 : a1 ≠ bb2 := Nat.ne_of_lt (Nat.lt_of_lt_of_le PA.lt nw2)
  have ne7 : sa ≠ bb2 := Nat.ne_of_lt (Nat.lt_of_lt_of_le PFn.lt nw2)
  show own_Go _ _ _ _ (T2.setTop (mkF m 22 #[.val (.ref a1), .val (.ref sa), .val (.int (0 : Int32))] [(.ref bb2), (.int (0 : Int32)), (.ref a1)]))
  refine own_aas X2 hx hZ e2 f3 (Ins.self EX2) 0 (by decide) (by decide) (hb hby d7_22) ?_
  intro T8 h8 X8 e8 W8 A8
  have f9 := f4.wr W8
  have f10 := f5.wr W8 (Or.inl (List.mem_of_getElem? (i := 0) rfl))
  have f11 := EX2.wr W8
  have N8 := Fr.snoc X8 N2 Pa
  have Z8 := own_size_wr W8 Z2
  obtain ⟨fn8, hfn8⟩ : ∃ gf_ : Nat → Value, gf_ = own_upd f 0 (.ref bb2) := ⟨_, rfl⟩
  rw [← hfn8] at A8
  show own_Go _ _ _ _ (T8.setTop (mkF m 23 #[.val (.ref a1), .val (.ref sa), .val (.int (0 : Int32))] []))
  refine own_by (fun _ k => XS.iinc X8.here hx rfl (hb hby d7_23) rfl (l' := #[.val (.ref a1), .val (.ref sa), .val (.int ((0 : Int32) + (1 : Int32)))]) rfl k) ?_
  show own_Go _ _ _ _ (T8.setTop (mkF m 26 #[.val (.ref a1), .val (.ref sa), .val (.int ((0 : Int32) + (1 : Int32)))] []))
  rw [(by decide : ((0 : Int32) + (1 : Int32)) = (1 : Int32))]
  show own_Go _ _ _ _ (T8.setTop (mkF m 26 #[.val (.ref a1), .val (.ref sa), .val (.int (1 : Int32))] []))
  refine own_by (fun _ k => XS.goto X8.here hx rfl (pc0 := 26) (pc' := 7) rfl (hb hby d7_26) (by decide) (by decide) k) ?_
  refine own_by (fun _ k => XS.iloadN X8.here hx rfl (hb hby d7_7) rfl k) ?_
  refine own_by (fun _ k => XS.aloadN X8.here hx rfl (hb hby d7_8) rfl rfl k) ?_
  show own_Go _ _ _ _ (T8.setTop (mkF m 9 #[.val (.ref a1), .val (.ref sa), .val (.int (1 : Int32))] [(.ref a1), (.int (1 : Int32))]))
  refine own_by (fun _ k => own_len X8 hx hZ e8 A8.ar (2 : Int32) (by decide) (hb hby d7_9) k) ?_
  show own_Go _ _ _ _ (T8.setTop (mkF m 10 #[.val (.ref a1), .val (.ref sa), .val (.int (1 : Int32))] [(.int (2 : Int32)), (.int (1 : Int32))]))
  refine own_by (fun _ k => XS.icmpNo X8.here hx rfl (hb hby d7_10) rfl (tlt (by decide)).2.1 k) ?_
  refine own_by (fun _ k => XS.aloadN X8.here hx rfl (hb hby d7_13) rfl rfl k) ?_
  refine own_by (fun _ k => XS.iloadN X8.here hx rfl (hb hby d7_14) rfl k) ?_
  show own_Go _ _ _ _ (T8.setTop (mkF m 15 #[.val (.ref a1), .val (.ref sa), .val (.int (1 : Int32))] [(.int (1 : Int32)), (.ref a1)]))
  refine own_by (fun _ k => XS.aloadN X8.here hx rfl (hb hby d7_15) rfl rfl k) ?_
  refine own_by (fun _ k => XS.iloadN X8.here hx rfl (hb hby d7_16) rfl k) ?_
  show own_Go _ _ _ _ (T8.setTop (mkF m 17 #[.val (.ref a1), .val (.ref sa), .val (.int (1 : Int32))] [(.int (1 : Int32)), (.ref sa), (.int (1 : Int32)), (.ref a1)]))
  refine own_lam X8 hx hZ hown hH hw rfl PSt f9 e8 Z8 (by rw [hml]; rfl) 2 (Nat.le_of_eq rfl) (by decide) (by decide) (by decide) (by decide) (hb hby d7_17) ?_
  intro T12 Lc12 bb12 X12 N12q K12 nw12 EX12
  obtain ⟨h12, e12⟩ : ∃ h, T12.heap = h := ⟨_, rfl⟩
  rw [e12] at K12 EX12
  have N12 := Fr.app N8 N12q
  have f13 := A8.keep K12 nin0
  have f14 := f9.keep K12
  have f15 := f10.trans K12 all0
  have Z12 := Nat.le_trans Z8 K12.1
  have ne16 : a1 ≠ bb12 := Nat.ne_of_lt (Nat.lt_of_lt_of_le A8.lt nw12)
  have ne17 : sa ≠ bb12 := Nat.ne_of_lt (Nat.lt_of_lt_of_le f9.lt nw12)
  show own_Go _ _ _ _ (T12.setTop (mkF m 22 #[.val (.ref a1), .val (.ref sa), .val (.int (1 : Int32))] [(.ref bb12), (.int (1 : Int32)), (.ref a1)]))
  refine own_aas X12 hx hZ e12 f13 (Ins.self EX12) 1 (by decide) (by decide) (hb hby d7_22) ?_
  intro T18 h18 X18 e18 W18 A18
  have f19 := f14.wr W18
  have f20 := f15.wr W18 (Or.inl (List.mem_of_getElem? (i := 0) rfl))
  have f21 := EX12.wr W18
  have N18 := Fr.snoc X18 N12 Pa
  have Z18 := own_size_wr W18 Z12
  obtain ⟨fn18, hfn18⟩ : ∃ gf_ : Nat → Value, gf_ = own_upd fn8 1 (.ref bb12) := ⟨_, rfl⟩
  rw [← hfn18] at A18
  show own_Go _ _ _ _ (T18.setTop (mkF m 23 #[.val (.ref a1), .val (.ref sa), .val (.int (1 : Int32))] []))
  refine own_by (fun _ k => XS.iinc X18.here hx rfl (hb hby d7_23) rfl (l' := #[.val (.ref a1), .val (.ref sa), .val (.int ((1 : Int32) + (1 : Int32)))]) rfl k) ?_
  show own_Go _ _ _ _ (T18.setTop (mkF m 26 #[.val (.ref a1), .val (.ref sa), .val (.int ((1 : Int32) + (1 : Int32)))] []))
  rw [(by decide : ((1 : Int32) + (1 : Int32)) = (2 : Int32))]
  show own_Go _ _ _ _ (T18.setTop (mkF m 26 #[.val (.ref a1), .val (.ref sa), .val (.int (2 : Int32))] []))
  refine own_by (fun _ k => XS.goto X18.here hx rfl (pc0 := 26) (pc' := 7) rfl (hb hby d7_26) (by decide) (by decide) k) ?_
  refine own_by (fun _ k => XS.iloadN X18.here hx rfl (hb hby d7_7) rfl k) ?_
  refine own_by (fun _ k => XS.aloadN X18.here hx rfl (hb hby d7_8) rfl rfl k) ?_
  show own_Go _ _ _ _ (T18.setTop (mkF m 9 #[.val (.ref a1), .val (.ref sa), .val (.int (2 : Int32))] [(.ref a1), (.int (2 : Int32))]))
  refine own_by (fun _ k => own_len X18 hx hZ e18 A18.ar (2 : Int32) (by decide) (hb hby d7_9) k) ?_
  show own_Go _ _ _ _ (T18.setTop (mkF m 10 #[.val (.ref a1), .val (.ref sa), .val (.int (2 : Int32))] [(.int (2 : Int32)), (.int (2 : Int32))]))
  refine own_by (fun _ k => XS.icmpYes X18.here hx rfl (pc0 := 10) (pc' := 29) rfl (hb hby d7_10) rfl (flt (by decide)).2.1 (by decide) (by decide) k) ?_
  show own_Go _ _ _ _ (T18.setTop (mkF m 29 #[.val (.ref a1), .val (.ref sa), .val (.int (2 : Int32))] []))
  exact own_retV X18 hx Bd.notSynchronized e18 Bd.returns (hb hby d7_29) (⟨rfl, N18, f20, _, A18⟩) (by decide) (by decide)
set_option maxRecDepth 65536 in
set_option maxHeartbeats 40000000 in
theorem rm7_3 (l : Launch) (Z : State) (a0 : Array Value) (hw : ∀ d ∈ tables_1, d.before a0 Z = true) (ws : List Jvm.Cond) (a1 : Addr) (sa : Addr) (cK : ClassId) (f : Nat → Value) (h0 : Heap) (n0 : Nat) (Z0 : n0 ≤ h0.size) (PA : own_Ra Z h0 a1 "com/example/sonde/sonde/engine/Bits" 3 f) (PFn : own_Fn h0 sa cK) (PSt : own_Site Z (⟨"com/example/sonde/sonde/engine/AnswerSets", "<init>", "(I)V"⟩ : MethodName) 49 own_sg sa cK) (Pa : n0 ≤ a1) :
    MetFree l (⟨"java/util/Arrays", "setAll", "([Ljava/lang/Object;Ljava/util/function/IntFunction;)V"⟩ : MethodName) (head1 (Jvm.Cond.code (⟨"java/util/Arrays", "setAll", "([Ljava/lang/Object;Ljava/util/function/IntFunction;)V"⟩ : MethodName) jdk_65_method_173_code 3 none :: ws) ({ frames := 4, cells := 12, slots := 16, locals := 70 } : Room)) (fun a U => a = #[(.ref a1), (.ref sa)] ∧ Z.Warmed39 U.vm ∧ U.heap = h0 ∧ Z.WarmedH U.vm) (fun _ _ _ _ _ => True) (fun _ U o U' => ∃ vv LL, o = .returned vv ∧ own_ap (fun v h L => v = none ∧ Fr n0 L ∧ Keep h0 h [a1] ∧ ∃ f2, own_Ra Z h a1 "com/example/sonde/sonde/engine/Bits" 3 f2) vv U'.heap LL ∧ FrameEnd U o U' LL 12 16) := by
  refine MetFree.of_bodySF (plainFor_of_name pn_7) hisR ?_
  intro p e s m args below meth c s₁ Bd hml0 hP hK
  obtain ⟨rfl, hZ, hh, hH⟩ := hP
  have hx := Bd.exec
  have hby := Bd.bytes
  have hml : c.maxLocals = 3 := hml0
  have hown : s.vm.findClass "java/util/Arrays" = some m.cls := findClass_of_methodNamed Bd.named
  have hnm := (name_of_methodNamed Bd.named Bd.method).1
  have X0 : Stand p l e ({ frames := 4, cells := 12, slots := 16, locals := 70 } : Room) s m #[(.ref a1), (.ref sa)] below meth c s₁ [] 0 0 := Stand.of_body Bd
  have e0 : s₁.heap = h0 := by rw [← hh, Bd.state]; rfl
  have N0 := Fr.nil n0
  show own_Go p.tables e below (own_Q s (fun v h L => v = none ∧ Fr n0 L ∧ Keep h0 h [a1] ∧ ∃ f2, own_Ra Z h a1 "com/example/sonde/sonde/engine/Bits" 3 f2) 12 16) (s₁.setTop (entryFrame m #[(.ref a1), (.ref sa)] 3))
  rw [show entryFrame m #[(.ref a1), (.ref sa)] 3 = mkF m 0 #[.val (.ref a1), .val (.ref sa), .unset] [] from by first | (simp [entryFrame, mkF, argsToLocals, Value.category]; done) | rfl]
  show own_Go _ _ _ _ (s₁.setTop (mkF m 0 #[.val (.ref a1), .val (.ref sa), .unset] []))
  refine own_by (fun _ k => XS.aloadN X0.here hx rfl (hb hby d7_0) rfl rfl k) ?_
  show own_Go _ _ _ _ (s₁.setTop (mkF m 1 #[.val (.ref a1), .val (.ref sa), .unset] [(.ref sa)]))
  refine own_callS X0 hx hZ hown (hw _ (List.mem_of_getElem? (i := 62) rfl)) (hw _ (List.mem_of_getElem? (i := 63) rfl)) (hw _ (List.mem_of_getElem? (i := 64) rfl)) (hw _ (List.mem_of_getElem? (i := 65) rfl)) (by decide) (rm8 l Z a0 hw [] sa h0 n0 Z0) e0 (by rw [hml]; rfl) [(.ref sa)] [] rfl (lenOf own_pd4 rfl) rfl 0 (Nat.le_of_eq rfl) (by decide) (by decide) (Nat.le_of_ble_eq_true rfl) (Nat.le_of_ble_eq_true rfl) (hb hby d7_1) ?_
  intro T1 Lc1 v1 X1 hQ1
  obtain ⟨rfl, N1q, e1⟩ := hQ1
  have N1 := Fr.app N0 N1q
  show own_Go _ _ _ _ (T1.setTop (mkF m 4 #[.val (.ref a1), .val (.ref sa), .unset] [(.ref sa)]))
  refine own_by (fun _ k => XS.pop X1.here hx rfl (hb hby d7_4) rfl rfl k) ?_
  refine own_by (fun _ k => XS.iconst X1.here hx rfl (hb hby d7_5) k) ?_
  show own_Go _ _ _ _ (T1.setTop (mkF m 6 #[.val (.ref a1), .val (.ref sa), .unset] [(.int (0 : Int32))]))
  refine own_by (fun _ k => XS.istoreN X1.here hx rfl (hb hby d7_6) rfl (l' := #[.val (.ref a1), .val (.ref sa), .val (.int (0 : Int32))]) rfl k) ?_
  refine own_by (fun _ k => XS.iloadN X1.here hx rfl (hb hby d7_7) rfl k) ?_
  refine own_by (fun _ k => XS.aloadN X1.here hx rfl (hb hby d7_8) rfl rfl k) ?_
  show own_Go _ _ _ _ (T1.setTop (mkF m 9 #[.val (.ref a1), .val (.ref sa), .val (.int (0 : Int32))] [(.ref a1), (.int (0 : Int32))]))
  refine own_by (fun _ k => own_len X1 hx hZ e1 PA.ar (3 : Int32) (by decide) (hb hby d7_9) k) ?_
  show own_Go _ _ _ _ (T1.setTop (mkF m 10 #[.val (.ref a1), .val (.ref sa), .val (.int (0 : Int32))] [(.int (3 : Int32)), (.int (0 : Int32))]))
  refine own_by (fun _ k => XS.icmpNo X1.here hx rfl (hb hby d7_10) rfl (tlt (by decide)).2.1 k) ?_
  refine own_by (fun _ k => XS.aloadN X1.here hx rfl (hb hby d7_13) rfl rfl k) ?_
  refine own_by (fun _ k => XS.iloadN X1.here hx rfl (hb hby d7_14) rfl k) ?_
  show own_Go _ _ _ _ (T1.setTop (mkF m 15 #[.val (.ref a1), .val (.ref sa), .val (.int (0 : Int32))] [(.int (0 : Int32)), (.ref a1)]))
  refine own_by (fun _ k => XS.aloadN X1.here hx rfl (hb hby d7_15) rfl rfl k) ?_
  refine own_by (fun _ k => XS.iloadN X1.here hx rfl (hb hby d7_16) rfl k) ?_
  show own_Go _ _ _ _ (T1.setTop (mkF m 17 #[.val (.ref a1), .val (.ref sa), .val (.int (0 : Int32))] [(.int (0 : Int32)), (.ref sa), (.int (0 : Int32)), (.ref a1)]))
  refine own_lam X1 hx hZ hown hH hw rfl PSt PFn e1 Z0 (by rw [hml]; rfl) 2 (Nat.le_of_eq rfl) (by decide) (by decide) (by decide) (by decide) (hb hby d7_17) ?_
  intro T2 Lc2 bb2 X2 N2q K2 nw2 EX2
  obtain ⟨h2, e2⟩ : ∃ h, T2.heap = h := ⟨_, rfl⟩
  rw [e2] at K2 EX2
  have N2 := Fr.app N1 N2q
  have f3 := PA.keep K2 nin0
  have f4 := PFn.keep K2
  have f5 := (Keep.refl h0 [a1]).trans K2 all0
  have Z2 := Nat.le_trans Z0 K2.1
  have ne6 : a1 ≠ bb2 := Nat.ne_of_lt (Nat.lt_of_lt_of_le PA.lt nw2)
  have ne7 : sa ≠ bb2 := Nat.ne_of_lt (Nat.lt_of_lt_of_le PFn.lt nw2)
  show own_Go _ _ _ _ (T2.setTop (mkF m 22 #[.val (.ref a1), .val (.ref sa), .val (.int (0 : Int32))] [(.ref bb2), (.int (0 : Int32)), (.ref a1)]))
  refine own_aas X2 hx hZ e2 f3 (Ins.self EX2) 0 (by decide) (by decide) (hb hby d7_22) ?_
  intro T8 h8 X8 e8 W8 A8
  have f9 := f4.wr W8
  have f10 := f5.wr W8 (Or.inl (List.mem_of_getElem? (i := 0) rfl))
  have f11 := EX2.wr W8
  have N8 := Fr.snoc X8 N2 Pa
  have Z8 := own_size_wr W8 Z2
  obtain ⟨fn8, hfn8⟩ : ∃ gf_ : Nat → Value, gf_ = own_upd f 0 (.ref bb2) := ⟨_, rfl⟩
  rw [← hfn8] at A8
  show own_Go _ _ _ _ (T8.setTop (mkF m 23 #[.val (.ref a1), .val (.ref sa), .val (.int (0 : Int32))] []))
  refine own_by (fun _ k => XS.iinc X8.here hx rfl (hb hby d7_23) rfl (l' := #[.val (.ref a1), .val (.ref sa), .val (.int ((0 : Int32) + (1 : Int32)))]) rfl k) ?_
  show own_Go _ _ _ _ (T8.setTop (mkF m 26 #[.val (.ref a1), .val (.ref sa), .val (.int ((0 : Int32) + (1 : Int32)))] []))
  rw [(by decide : ((0 : Int32) + (1 : Int32)) = (1 : Int32))]
  show own_Go _ _ _ _ (T8.setTop (mkF m 26 #[.val (.ref a1), .val (.ref sa), .val (.int (1 : Int32))] []))
  refine own_by (fun _ k => XS.goto X8.here hx rfl (pc0 := 26) (pc' := 7) rfl (hb hby d7_26) (by decide) (by decide) k) ?_
  refine own_by (fun _ k => XS.iloadN X8.here hx rfl (hb hby d7_7) rfl k) ?_
  refine own_by (fun _ k => XS.aloadN X8.here hx rfl (hb hby d7_8) rfl rfl k) ?_
  show own_Go _ _ _ _ (T8.setTop (mkF m 9 #[.val (.ref a1), .val (.ref sa), .val (.int (1 : Int32))] [(.ref a1), (.int (1 : Int32))]))
  refine own_by (fun _ k => own_len X8 hx hZ e8 A8.ar (3 : Int32) (by decide) (hb hby d7_9) k) ?_
  show own_Go _ _ _ _ (T8.setTop (mkF m 10 #[.val (.ref a1), .val (.ref sa), .val (.int (1 : Int32))] [(.int (3 : Int32)), (.int (1 : Int32))]))
  refine own_by (fun _ k => XS.icmpNo X8.here hx rfl (hb hby d7_10) rfl (tlt (by decide)).2.1 k) ?_
  refine own_by (fun _ k => XS.aloadN X8.here hx rfl (hb hby d7_13) rfl rfl k) ?_
  refine own_by (fun _ k => XS.iloadN X8.here hx rfl (hb hby d7_14) rfl k) ?_
  show own_Go _ _ _ _ (T8.setTop (mkF m 15 #[.val (.ref a1), .val (.ref sa), .val (.int (1 : Int32))] [(.int (1 : Int32)), (.ref a1)]))
  refine own_by (fun _ k => XS.aloadN X8.here hx rfl (hb hby d7_15) rfl rfl k) ?_
  refine own_by (fun _ k => XS.iloadN X8.here hx rfl (hb hby d7_16) rfl k) ?_
  show own_Go _ _ _ _ (T8.setTop (mkF m 17 #[.val (.ref a1), .val (.ref sa), .val (.int (1 : Int32))] [(.int (1 : Int32)), (.ref sa), (.int (1 : Int32)), (.ref a1)]))
  refine own_lam X8 hx hZ hown hH hw rfl PSt f9 e8 Z8 (by rw [hml]; rfl) 2 (Nat.le_of_eq rfl) (by decide) (by decide) (by decide) (by decide) (hb hby d7_17) ?_
  intro T12 Lc12 bb12 X12 N12q K12 nw12 EX12
  obtain ⟨h12, e12⟩ : ∃ h, T12.heap = h := ⟨_, rfl⟩
  rw [e12] at K12 EX12
  have N12 := Fr.app N8 N12q
  have f13 := A8.keep K12 nin0
  have f14 := f9.keep K12
  have f15 := f10.trans K12 all0
  have Z12 := Nat.le_trans Z8 K12.1
  have ne16 : a1 ≠ bb12 := Nat.ne_of_lt (Nat.lt_of_lt_of_le A8.lt nw12)
  have ne17 : sa ≠ bb12 := Nat.ne_of_lt (Nat.lt_of_lt_of_le f9.lt nw12)
  show own_Go _ _ _ _ (T12.setTop (mkF m 22 #[.val (.ref a1), .val (.ref sa), .val (.int (1 : Int32))] [(.ref bb12), (.int (1 : Int32)), (.ref a1)]))
  refine own_aas X12 hx hZ e12 f13 (Ins.self EX12) 1 (by decide) (by decide) (hb hby d7_22) ?_
  intro T18 h18 X18 e18 W18 A18
  have f19 := f14.wr W18
  have f20 := f15.wr W18 (Or.inl (List.mem_of_getElem? (i := 0) rfl))
  have f21 := EX12.wr W18
  have N18 := Fr.snoc X18 N12 Pa
  have Z18 := own_size_wr W18 Z12
  obtain ⟨fn18, hfn18⟩ : ∃ gf_ : Nat → Value, gf_ = own_upd fn8 1 (.ref bb12) := ⟨_, rfl⟩
  rw [← hfn18] at A18
  show own_Go _ _ _ _ (T18.setTop (mkF m 23 #[.val (.ref a1), .val (.ref sa), .val (.int (1 : Int32))] []))
  refine own_by (fun _ k => XS.iinc X18.here hx rfl (hb hby d7_23) rfl (l' := #[.val (.ref a1), .val (.ref sa), .val (.int ((1 : Int32) + (1 : Int32)))]) rfl k) ?_
  show own_Go _ _ _ _ (T18.setTop (mkF m 26 #[.val (.ref a1), .val (.ref sa), .val (.int ((1 : Int32) + (1 : Int32)))] []))
  rw [(by decide : ((1 : Int32) + (1 : Int32)) = (2 : Int32))]
  show own_Go _ _ _ _ (T18.setTop (mkF m 26 #[.val (.ref a1), .val (.ref sa), .val (.int (2 : Int32))] []))
  refine own_by (fun _ k => XS.goto X18.here hx rfl (pc0 := 26) (pc' := 7) rfl (hb hby d7_26) (by decide) (by decide) k) ?_
  refine own_by (fun _ k => XS.iloadN X18.here hx rfl (hb hby d7_7) rfl k) ?_
  refine own_by (fun _ k => XS.aloadN X18.here hx rfl (hb hby d7_8) rfl rfl k) ?_
  show own_Go _ _ _ _ (T18.setTop (mkF m 9 #[.val (.ref a1), .val (.ref sa), .val (.int (2 : Int32))] [(.ref a1), (.int (2 : Int32))]))
  refine own_by (fun _ k => own_len X18 hx hZ e18 A18.ar (3 : Int32) (by decide) (hb hby d7_9) k) ?_
  show own_Go _ _ _ _ (T18.setTop (mkF m 10 #[.val (.ref a1), .val (.ref sa), .val (.int (2 : Int32))] [(.int (3 : Int32)), (.int (2 : Int32))]))
  refine own_by (fun _ k => XS.icmpNo X18.here hx rfl (hb hby d7_10) rfl (tlt (by decide)).2.1 k) ?_
  refine own_by (fun _ k => XS.aloadN X18.here hx rfl (hb hby d7_13) rfl rfl k) ?_
  refine own_by (fun _ k => XS.iloadN X18.here hx rfl (hb hby d7_14) rfl k) ?_
  show own_Go _ _ _ _ (T18.setTop (mkF m 15 #[.val (.ref a1), .val (.ref sa), .val (.int (2 : Int32))] [(.int (2 : Int32)), (.ref a1)]))
  refine own_by (fun _ k => XS.aloadN X18.here hx rfl (hb hby d7_15) rfl rfl k) ?_
  refine own_by (fun _ k => XS.iloadN X18.here hx rfl (hb hby d7_16) rfl k) ?_
  show own_Go _ _ _ _ (T18.setTop (mkF m 17 #[.val (.ref a1), .val (.ref sa), .val (.int (2 : Int32))] [(.int (2 : Int32)), (.ref sa), (.int (2 : Int32)), (.ref a1)]))
  refine own_lam X18 hx hZ hown hH hw rfl PSt f19 e18 Z18 (by rw [hml]; rfl) 2 (Nat.le_of_eq rfl) (by decide) (by decide) (by decide) (by decide) (hb hby d7_17) ?_
  intro T22 Lc22 bb22 X22 N22q K22 nw22 EX22
  obtain ⟨h22, e22⟩ : ∃ h, T22.heap = h := ⟨_, rfl⟩
  rw [e22] at K22 EX22
  have N22 := Fr.app N18 N22q
  have f23 := A18.keep K22 nin0
  have f24 := f19.keep K22
  have f25 := f20.trans K22 all0
  have Z22 := Nat.le_trans Z18 K22.1
  have ne26 : a1 ≠ bb22 := Nat.ne_of_lt (Nat.lt_of_lt_of_le A18.lt nw22)
  have ne27 : sa ≠ bb22 := Nat.ne_of_lt (Nat.lt_of_lt_of_le f19.lt nw22)
  show own_Go _ _ _ _ (T22.setTop (mkF m 22 #[.val (.ref a1), .val (.ref sa), .val (.int (2 : Int32))] [(.ref bb22), (.int (2 : Int32)), (.ref a1)]))
  refine own_aas X22 hx hZ e22 f23 (Ins.self EX22) 2 (by decide) (by decide) (hb hby d7_22) ?_
  intro T28 h28 X28 e28 W28 A28
  have f29 := f24.wr W28
  have f30 := f25.wr W28 (Or.inl (List.mem_of_getElem? (i := 0) rfl))
  have f31 := EX22.wr W28
  have N28 := Fr.snoc X28 N22 Pa
  have Z28 := own_size_wr W28 Z22
  obtain ⟨fn28, hfn28⟩ : ∃ gf_ : Nat → Value, gf_ = own_upd fn18 2 (.ref bb22) := ⟨_, rfl⟩
  rw [← hfn28] at A28
  show own_Go _ _ _ _ (T28.setTop (mkF m 23 #[.val (.ref a1), .val (.ref sa), .val (.int (2 : Int32))] []))
  refine own_by (fun _ k => XS.iinc X28.here hx rfl (hb hby d7_23) rfl (l' := #[.val (.ref a1), .val (.ref sa), .val (.int ((2 : Int32) + (1 : Int32)))]) rfl k) ?_
  show own_Go _ _ _ _ (T28.setTop (mkF m 26 #[.val (.ref a1), .val (.ref sa), .val (.int ((2 : Int32) + (1 : Int32)))] []))
  rw [(by decide : ((2 : Int32) + (1 : Int32)) = (3 : Int32))]
  show own_Go _ _ _ _ (T28.setTop (mkF m 26 #[.val (.ref a1), .val (.ref sa), .val (.int (3 : Int32))] []))
  refine own_by (fun _ k => XS.goto X28.here hx rfl (pc0 := 26) (pc' := 7) rfl (hb hby d7_26) (by decide) (by decide) k) ?_
  refine own_by (fun _ k => XS.iloadN X28.here hx rfl (hb hby d7_7) rfl k) ?_
  refine own_by (fun _ k => XS.aloadN X28.here hx rfl (hb hby d7_8) rfl rfl k) ?_
  show own_Go _ _ _ _ (T28.setTop (mkF m 9 #[.val (.ref a1), .val (.ref sa), .val (.int (3 : Int32))] [(.ref a1), (.int (3 : Int32))]))
  refine own_by (fun _ k => own_len X28 hx hZ e28 A28.ar (3 : Int32) (by decide) (hb hby d7_9) k) ?_
  show own_Go _ _ _ _ (T28.setTop (mkF m 10 #[.val (.ref a1), .val (.ref sa), .val (.int (3 : Int32))] [(.int (3 : Int32)), (.int (3 : Int32))]))
  refine own_by (fun _ k => XS.icmpYes X28.here hx rfl (pc0 := 10) (pc' := 29) rfl (hb hby d7_10) rfl (flt (by decide)).2.1 (by decide) (by decide) k) ?_
  show own_Go _ _ _ _ (T28.setTop (mkF m 29 #[.val (.ref a1), .val (.ref sa), .val (.int (3 : Int32))] []))
  exact own_retV X28 hx Bd.notSynchronized e28 Bd.returns (hb hby d7_29) (⟨rfl, N28, f30, _, A28⟩) (by decide) (by decide)
set_option maxRecDepth 65536 in
set_option maxHeartbeats 40000000 in
theorem rm7_4 (l : Launch) (Z : State) (a0 : Array Value) (hw : ∀ d ∈ tables_1, d.before a0 Z = true) (ws : List Jvm.Cond) (a1 : Addr) (sa : Addr) (cK : ClassId) (f : Nat → Value) (h0 : Heap) (n0 : Nat) (Z0 : n0 ≤ h0.size) (PA : own_Ra Z h0 a1 "com/example/sonde/sonde/engine/Bits" 4 f) (PFn : own_Fn h0 sa cK) (PSt : own_Site Z (⟨"com/example/sonde/sonde/engine/AnswerSets", "<init>", "(I)V"⟩ : MethodName) 49 own_sg sa cK) (Pa : n0 ≤ a1) :
    MetFree l (⟨"java/util/Arrays", "setAll", "([Ljava/lang/Object;Ljava/util/function/IntFunction;)V"⟩ : MethodName) (head1 (Jvm.Cond.code (⟨"java/util/Arrays", "setAll", "([Ljava/lang/Object;Ljava/util/function/IntFunction;)V"⟩ : MethodName) jdk_65_method_173_code 3 none :: ws) ({ frames := 4, cells := 12, slots := 16, locals := 70 } : Room)) (fun a U => a = #[(.ref a1), (.ref sa)] ∧ Z.Warmed39 U.vm ∧ U.heap = h0 ∧ Z.WarmedH U.vm) (fun _ _ _ _ _ => True) (fun _ U o U' => ∃ vv LL, o = .returned vv ∧ own_ap (fun v h L => v = none ∧ Fr n0 L ∧ Keep h0 h [a1] ∧ ∃ f2, own_Ra Z h a1 "com/example/sonde/sonde/engine/Bits" 4 f2) vv U'.heap LL ∧ FrameEnd U o U' LL 12 16) := by
  refine MetFree.of_bodySF (plainFor_of_name pn_7) hisR ?_
  intro p e s m args below meth c s₁ Bd hml0 hP hK
  obtain ⟨rfl, hZ, hh, hH⟩ := hP
  have hx := Bd.exec
  have hby := Bd.bytes
  have hml : c.maxLocals = 3 := hml0
  have hown : s.vm.findClass "java/util/Arrays" = some m.cls := findClass_of_methodNamed Bd.named
  have hnm := (name_of_methodNamed Bd.named Bd.method).1
  have X0 : Stand p l e ({ frames := 4, cells := 12, slots := 16, locals := 70 } : Room) s m #[(.ref a1), (.ref sa)] below meth c s₁ [] 0 0 := Stand.of_body Bd
  have e0 : s₁.heap = h0 := by rw [← hh, Bd.state]; rfl
  have N0 := Fr.nil n0
  show own_Go p.tables e below (own_Q s (fun v h L => v = none ∧ Fr n0 L ∧ Keep h0 h [a1] ∧ ∃ f2, own_Ra Z h a1 "com/example/sonde/sonde/engine/Bits" 4 f2) 12 16) (s₁.setTop (entryFrame m #[(.ref a1), (.ref sa)] 3))
  rw [show entryFrame m #[(.ref a1), (.ref sa)] 3 = mkF m 0 #[.val (.ref a1), .val (.ref sa), .unset] [] from by first | (simp [entryFrame, mkF, argsToLocals, Value.category]; done) | rfl]
  show own_Go _ _ _ _ (s₁.setTop (mkF m 0 #[.val (.ref a1), .val (.ref sa), .unset] []))
  refine own_by (fun _ k => XS.aloadN X0.here hx rfl (hb hby d7_0) rfl rfl k) ?_
  show own_Go _ _ _ _ (s₁.setTop (mkF m 1 #[.val (.ref a1), .val (.ref sa), .unset] [(.ref sa)]))
  refine own_callS X0 hx hZ hown (hw _ (List.mem_of_getElem? (i := 62) rfl)) (hw _ (List.mem_of_getElem? (i := 63) rfl)) (hw _ (List.mem_of_getElem? (i := 64) rfl)) (hw _ (List.mem_of_getElem? (i := 65) rfl)) (by decide) (rm8 l Z a0 hw [] sa h0 n0 Z0) e0 (by rw [hml]; rfl) [(.ref sa)] [] rfl (lenOf own_pd4 rfl) rfl 0 (Nat.le_of_eq rfl) (by decide) (by decide) (Nat.le_of_ble_eq_true rfl) (Nat.le_of_ble_eq_true rfl) (hb hby d7_1) ?_
  intro T1 Lc1 v1 X1 hQ1
  obtain ⟨rfl, N1q, e1⟩ := hQ1
  have N1 := Fr.app N0 N1q
  show own_Go _ _ _ _ (T1.setTop (mkF m 4 #[.val (.ref a1), .val (.ref sa), .unset] [(.ref sa)]))
  refine own_by (fun _ k => XS.pop X1.here hx rfl (hb hby d7_4) rfl rfl k) ?_
  refine own_by (fun _ k => XS.iconst X1.here hx rfl (hb hby d7_5) k) ?_
  show own_Go _ _ _ _ (T1.setTop (mkF m 6 #[.val (.ref a1), .val (.ref sa), .unset] [(.int (0 : Int32))]))
  refine own_by (fun _ k => XS.istoreN X1.here hx rfl (hb hby d7_6) rfl (l' := #[.val (.ref a1), .val (.ref sa), .val (.int (0 : Int32))]) rfl k) ?_
  refine own_by (fun _ k => XS.iloadN X1.here hx rfl (hb hby d7_7) rfl k) ?_
  refine own_by (fun _ k => XS.aloadN X1.here hx rfl (hb hby d7_8) rfl rfl k) ?_
  show own_Go _ _ _ _ (T1.setTop (mkF m 9 #[.val (.ref a1), .val (.ref sa), .val (.int (0 : Int32))] [(.ref a1), (.int (0 : Int32))]))
  refine own_by (fun _ k => own_len X1 hx hZ e1 PA.ar (4 : Int32) (by decide) (hb hby d7_9) k) ?_
  show own_Go _ _ _ _ (T1.setTop (mkF m 10 #[.val (.ref a1), .val (.ref sa), .val (.int (0 : Int32))] [(.int (4 : Int32)), (.int (0 : Int32))]))
  refine own_by (fun _ k => XS.icmpNo X1.here hx rfl (hb hby d7_10) rfl (tlt (by decide)).2.1 k) ?_
  refine own_by (fun _ k => XS.aloadN X1.here hx rfl (hb hby d7_13) rfl rfl k) ?_
  refine own_by (fun _ k => XS.iloadN X1.here hx rfl (hb hby d7_14) rfl k) ?_
  show own_Go _ _ _ _ (T1.setTop (mkF m 15 #[.val (.ref a1), .val (.ref sa), .val (.int (0 : Int32))] [(.int (0 : Int32)), (.ref a1)]))
  refine own_by (fun _ k => XS.aloadN X1.here hx rfl (hb hby d7_15) rfl rfl k) ?_
  refine own_by (fun _ k => XS.iloadN X1.here hx rfl (hb hby d7_16) rfl k) ?_
  show own_Go _ _ _ _ (T1.setTop (mkF m 17 #[.val (.ref a1), .val (.ref sa), .val (.int (0 : Int32))] [(.int (0 : Int32)), (.ref sa), (.int (0 : Int32)), (.ref a1)]))
  refine own_lam X1 hx hZ hown hH hw rfl PSt PFn e1 Z0 (by rw [hml]; rfl) 2 (Nat.le_of_eq rfl) (by decide) (by decide) (by decide) (by decide) (hb hby d7_17) ?_
  intro T2 Lc2 bb2 X2 N2q K2 nw2 EX2
  obtain ⟨h2, e2⟩ : ∃ h, T2.heap = h := ⟨_, rfl⟩
  rw [e2] at K2 EX2
  have N2 := Fr.app N1 N2q
  have f3 := PA.keep K2 nin0
  have f4 := PFn.keep K2
  have f5 := (Keep.refl h0 [a1]).trans K2 all0
  have Z2 := Nat.le_trans Z0 K2.1
  have ne6 : a1 ≠ bb2 := Nat.ne_of_lt (Nat.lt_of_lt_of_le PA.lt nw2)
  have ne7 : sa ≠ bb2 := Nat.ne_of_lt (Nat.lt_of_lt_of_le PFn.lt nw2)
  show own_Go _ _ _ _ (T2.setTop (mkF m 22 #[.val (.ref a1), .val (.ref sa), .val (.int (0 : Int32))] [(.ref bb2), (.int (0 : Int32)), (.ref a1)]))
  refine own_aas X2 hx hZ e2 f3 (Ins.self EX2) 0 (by decide) (by decide) (hb hby d7_22) ?_
  intro T8 h8 X8 e8 W8 A8
  have f9 := f4.wr W8
  have f10 := f5.wr W8 (Or.inl (List.mem_of_getElem? (i := 0) rfl))
  have f11 := EX2.wr W8
  have N8 := Fr.snoc X8 N2 Pa
  have Z8 := own_size_wr W8 Z2
  obtain ⟨fn8, hfn8⟩ : ∃ gf_ : Nat → Value, gf_ = own_upd f 0 (.ref bb2) := ⟨_, rfl⟩
  rw [← hfn8] at A8
  show own_Go _ _ _ _ (T8.setTop (mkF m 23 #[.val (.ref a1), .val (.ref sa), .val (.int (0 : Int32))] []))
  refine own_by (fun _ k => XS.iinc X8.here hx rfl (hb hby d7_23) rfl (l' := #[.val (.ref a1), .val (.ref sa), .val (.int ((0 : Int32) + (1 : Int32)))]) rfl k) ?_
  show own_Go _ _ _ _ (T8.setTop (mkF m 26 #[.val (.ref a1), .val (.ref sa), .val (.int ((0 : Int32) + (1 : Int32)))] []))
  rw [(by decide : ((0 : Int32) + (1 : Int32)) = (1 : Int32))]
  show own_Go _ _ _ _ (T8.setTop (mkF m 26 #[.val (.ref a1), .val (.ref sa), .val (.int (1 : Int32))] []))
  refine own_by (fun _ k => XS.goto X8.here hx rfl (pc0 := 26) (pc' := 7) rfl (hb hby d7_26) (by decide) (by decide) k) ?_
  refine own_by (fun _ k => XS.iloadN X8.here hx rfl (hb hby d7_7) rfl k) ?_
  refine own_by (fun _ k => XS.aloadN X8.here hx rfl (hb hby d7_8) rfl rfl k) ?_
  show own_Go _ _ _ _ (T8.setTop (mkF m 9 #[.val (.ref a1), .val (.ref sa), .val (.int (1 : Int32))] [(.ref a1), (.int (1 : Int32))]))
  refine own_by (fun _ k => own_len X8 hx hZ e8 A8.ar (4 : Int32) (by decide) (hb hby d7_9) k) ?_
  show own_Go _ _ _ _ (T8.setTop (mkF m 10 #[.val (.ref a1), .val (.ref sa), .val (.int (1 : Int32))] [(.int (4 : Int32)), (.int (1 : Int32))]))
  refine own_by (fun _ k => XS.icmpNo X8.here hx rfl (hb hby d7_10) rfl (tlt (by decide)).2.1 k) ?_
  refine own_by (fun _ k => XS.aloadN X8.here hx rfl (hb hby d7_13) rfl rfl k) ?_
  refine own_by (fun _ k => XS.iloadN X8.here hx rfl (hb hby d7_14) rfl k) ?_
  show own_Go _ _ _ _ (T8.setTop (mkF m 15 #[.val (.ref a1), .val (.ref sa), .val (.int (1 : Int32))] [(.int (1 : Int32)), (.ref a1)]))
  refine own_by (fun _ k => XS.aloadN X8.here hx rfl (hb hby d7_15) rfl rfl k) ?_
  refine own_by (fun _ k => XS.iloadN X8.here hx rfl (hb hby d7_16) rfl k) ?_
  show own_Go _ _ _ _ (T8.setTop (mkF m 17 #[.val (.ref a1), .val (.ref sa), .val (.int (1 : Int32))] [(.int (1 : Int32)), (.ref sa), (.int (1 : Int32)), (.ref a1)]))
  refine own_lam X8 hx hZ hown hH hw rfl PSt f9 e8 Z8 (by rw [hml]; rfl) 2 (Nat.le_of_eq rfl) (by decide) (by decide) (by decide) (by decide) (hb hby d7_17) ?_
  intro T12 Lc12 bb12 X12 N12q K12 nw12 EX12
  obtain ⟨h12, e12⟩ : ∃ h, T12.heap = h := ⟨_, rfl⟩
  rw [e12] at K12 EX12
  have N12 := Fr.app N8 N12q
  have f13 := A8.keep K12 nin0
  have f14 := f9.keep K12
  have f15 := f10.trans K12 all0
  have Z12 := Nat.le_trans Z8 K12.1
  have ne16 : a1 ≠ bb12 := Nat.ne_of_lt (Nat.lt_of_lt_of_le A8.lt nw12)
  have ne17 : sa ≠ bb12 := Nat.ne_of_lt (Nat.lt_of_lt_of_le f9.lt nw12)
  show own_Go _ _ _ _ (T12.setTop (mkF m 22 #[.val (.ref a1), .val (.ref sa), .val (.int (1 : Int32))] [(.ref bb12), (.int (1 : Int32)), (.ref a1)]))
  refine own_aas X12 hx hZ e12 f13 (Ins.self EX12) 1 (by decide) (by decide) (hb hby d7_22) ?_
  intro T18 h18 X18 e18 W18 A18
  have f19 := f14.wr W18
  have f20 := f15.wr W18 (Or.inl (List.mem_of_getElem? (i := 0) rfl))
  have f21 := EX12.wr W18
  have N18 := Fr.snoc X18 N12 Pa
  have Z18 := own_size_wr W18 Z12
  obtain ⟨fn18, hfn18⟩ : ∃ gf_ : Nat → Value, gf_ = own_upd fn8 1 (.ref bb12) := ⟨_, rfl⟩
  rw [← hfn18] at A18
  show own_Go _ _ _ _ (T18.setTop (mkF m 23 #[.val (.ref a1), .val (.ref sa), .val (.int (1 : Int32))] []))
  refine own_by (fun _ k => XS.iinc X18.here hx rfl (hb hby d7_23) rfl (l' := #[.val (.ref a1), .val (.ref sa), .val (.int ((1 : Int32) + (1 : Int32)))]) rfl k) ?_
  show own_Go _ _ _ _ (T18.setTop (mkF m 26 #[.val (.ref a1), .val (.ref sa), .val (.int ((1 : Int32) + (1 : Int32)))] []))
  rw [(by decide : ((1 : Int32) + (1 : Int32)) = (2 : Int32))]
  show own_Go _ _ _ _ (T18.setTop (mkF m 26 #[.val (.ref a1), .val (.ref sa), .val (.int (2 : Int32))] []))
  refine own_by (fun _ k => XS.goto X18.here hx rfl (pc0 := 26) (pc' := 7) rfl (hb hby d7_26) (by decide) (by decide) k) ?_
  refine own_by (fun _ k => XS.iloadN X18.here hx rfl (hb hby d7_7) rfl k) ?_
  refine own_by (fun _ k => XS.aloadN X18.here hx rfl (hb hby d7_8) rfl rfl k) ?_
  show own_Go _ _ _ _ (T18.setTop (mkF m 9 #[.val (.ref a1), .val (.ref sa), .val (.int (2 : Int32))] [(.ref a1), (.int (2 : Int32))]))
  refine own_by (fun _ k => own_len X18 hx hZ e18 A18.ar (4 : Int32) (by decide) (hb hby d7_9) k) ?_
  show own_Go _ _ _ _ (T18.setTop (mkF m 10 #[.val (.ref a1), .val (.ref sa), .val (.int (2 : Int32))] [(.int (4 : Int32)), (.int (2 : Int32))]))
  refine own_by (fun _ k => XS.icmpNo X18.here hx rfl (hb hby d7_10) rfl (tlt (by decide)).2.1 k) ?_
  refine own_by (fun _ k => XS.aloadN X18.here hx rfl (hb hby d7_13) rfl rfl k) ?_
  refine own_by (fun _ k => XS.iloadN X18.here hx rfl (hb hby d7_14) rfl k) ?_
  show own_Go _ _ _ _ (T18.setTop (mkF m 15 #[.val (.ref a1), .val (.ref sa), .val (.int (2 : Int32))] [(.int (2 : Int32)), (.ref a1)]))
  refine own_by (fun _ k => XS.aloadN X18.here hx rfl (hb hby d7_15) rfl rfl k) ?_
  refine own_by (fun _ k => XS.iloadN X18.here hx rfl (hb hby d7_16) rfl k) ?_
  show own_Go _ _ _ _ (T18.setTop (mkF m 17 #[.val (.ref a1), .val (.ref sa), .val (.int (2 : Int32))] [(.int (2 : Int32)), (.ref sa), (.int (2 : Int32)), (.ref a1)]))
  refine own_lam X18 hx hZ hown hH hw rfl PSt f19 e18 Z18 (by rw [hml]; rfl) 2 (Nat.le_of_eq rfl) (by decide) (by decide) (by decide) (by decide) (hb hby d7_17) ?_
  intro T22 Lc22 bb22 X22 N22q K22 nw22 EX22
  obtain ⟨h22, e22⟩ : ∃ h, T22.heap = h := ⟨_, rfl⟩
  rw [e22] at K22 EX22
  have N22 := Fr.app N18 N22q
  have f23 := A18.keep K22 nin0
  have f24 := f19.keep K22
  have f25 := f20.trans K22 all0
  have Z22 := Nat.le_trans Z18 K22.1
  have ne26 : a1 ≠ bb22 := Nat.ne_of_lt (Nat.lt_of_lt_of_le A18.lt nw22)
  have ne27 : sa ≠ bb22 := Nat.ne_of_lt (Nat.lt_of_lt_of_le f19.lt nw22)
  show own_Go _ _ _ _ (T22.setTop (mkF m 22 #[.val (.ref a1), .val (.ref sa), .val (.int (2 : Int32))] [(.ref bb22), (.int (2 : Int32)), (.ref a1)]))
  refine own_aas X22 hx hZ e22 f23 (Ins.self EX22) 2 (by decide) (by decide) (hb hby d7_22) ?_
  intro T28 h28 X28 e28 W28 A28
  have f29 := f24.wr W28
  have f30 := f25.wr W28 (Or.inl (List.mem_of_getElem? (i := 0) rfl))
  have f31 := EX22.wr W28
  have N28 := Fr.snoc X28 N22 Pa
  have Z28 := own_size_wr W28 Z22
  obtain ⟨fn28, hfn28⟩ : ∃ gf_ : Nat → Value, gf_ = own_upd fn18 2 (.ref bb22) := ⟨_, rfl⟩
  rw [← hfn28] at A28
  show own_Go _ _ _ _ (T28.setTop (mkF m 23 #[.val (.ref a1), .val (.ref sa), .val (.int (2 : Int32))] []))
  refine own_by (fun _ k => XS.iinc X28.here hx rfl (hb hby d7_23) rfl (l' := #[.val (.ref a1), .val (.ref sa), .val (.int ((2 : Int32) + (1 : Int32)))]) rfl k) ?_
  show own_Go _ _ _ _ (T28.setTop (mkF m 26 #[.val (.ref a1), .val (.ref sa), .val (.int ((2 : Int32) + (1 : Int32)))] []))
  rw [(by decide : ((2 : Int32) + (1 : Int32)) = (3 : Int32))]
  show own_Go _ _ _ _ (T28.setTop (mkF m 26 #[.val (.ref a1), .val (.ref sa), .val (.int (3 : Int32))] []))
  refine own_by (fun _ k => XS.goto X28.here hx rfl (pc0 := 26) (pc' := 7) rfl (hb hby d7_26) (by decide) (by decide) k) ?_
  refine own_by (fun _ k => XS.iloadN X28.here hx rfl (hb hby d7_7) rfl k) ?_
  refine own_by (fun _ k => XS.aloadN X28.here hx rfl (hb hby d7_8) rfl rfl k) ?_
  show own_Go _ _ _ _ (T28.setTop (mkF m 9 #[.val (.ref a1), .val (.ref sa), .val (.int (3 : Int32))] [(.ref a1), (.int (3 : Int32))]))
  refine own_by (fun _ k => own_len X28 hx hZ e28 A28.ar (4 : Int32) (by decide) (hb hby d7_9) k) ?_
  show own_Go _ _ _ _ (T28.setTop (mkF m 10 #[.val (.ref a1), .val (.ref sa), .val (.int (3 : Int32))] [(.int (4 : Int32)), (.int (3 : Int32))]))
  refine own_by (fun _ k => XS.icmpNo X28.here hx rfl (hb hby d7_10) rfl (tlt (by decide)).2.1 k) ?_
  refine own_by (fun _ k => XS.aloadN X28.here hx rfl (hb hby d7_13) rfl rfl k) ?_
  refine own_by (fun _ k => XS.iloadN X28.here hx rfl (hb hby d7_14) rfl k) ?_
  show own_Go _ _ _ _ (T28.setTop (mkF m 15 #[.val (.ref a1), .val (.ref sa), .val (.int (3 : Int32))] [(.int (3 : Int32)), (.ref a1)]))
  refine own_by (fun _ k => XS.aloadN X28.here hx rfl (hb hby d7_15) rfl rfl k) ?_
  refine own_by (fun _ k => XS.iloadN X28.here hx rfl (hb hby d7_16) rfl k) ?_
  show own_Go _ _ _ _ (T28.setTop (mkF m 17 #[.val (.ref a1), .val (.ref sa), .val (.int (3 : Int32))] [(.int (3 : Int32)), (.ref sa), (.int (3 : Int32)), (.ref a1)]))
  refine own_lam X28 hx hZ hown hH hw rfl PSt f29 e28 Z28 (by rw [hml]; rfl) 2 (Nat.le_of_eq rfl) (by decide) (by decide) (by decide) (by decide) (hb hby d7_17) ?_
  intro T32 Lc32 bb32 X32 N32q K32 nw32 EX32
  obtain ⟨h32, e32⟩ : ∃ h, T32.heap = h := ⟨_, rfl⟩
  rw [e32] at K32 EX32
  have N32 := Fr.app N28 N32q
  have f33 := A28.keep K32 nin0
  have f34 := f29.keep K32
  have f35 := f30.trans K32 all0
  have Z32 := Nat.le_trans Z28 K32.1
  have ne36 : a1 ≠ bb32 := Nat.ne_of_lt (Nat.lt_of_lt_of_le A28.lt nw32)
  have ne37 : sa ≠ bb32 := Nat.ne_of_lt (Nat.lt_of_lt_of_le f29.lt nw32)
  show own_Go _ _ _ _ (T32.setTop (mkF m 22 #[.val (.ref a1), .val (.ref sa), .val (.int (3 : Int32))] [(.ref bb32), (.int (3 : Int32)), (.ref a1)]))
  refine own_aas X32 hx hZ e32 f33 (Ins.self EX32) 3 (by decide) (by decide) (hb hby d7_22) ?_
  intro T38 h38 X38 e38 W38 A38
  have f39 := f34.wr W38
  have f40 := f35.wr W38 (Or.inl (List.mem_of_getElem? (i := 0) rfl))
  have f41 := EX32.wr W38
  have N38 := Fr.snoc X38 N32 Pa
  have Z38 := own_size_wr W38 Z32
  obtain ⟨fn38, hfn38⟩ : ∃ gf_ : Nat → Value, gf_ = own_upd fn28 3 (.ref bb32) := ⟨_, rfl⟩
  rw [← hfn38] at A38
  show own_Go _ _ _ _ (T38.setTop (mkF m 23 #[.val (.ref a1), .val (.ref sa), .val (.int (3 : Int32))] []))
  refine own_by (fun _ k => XS.iinc X38.here hx rfl (hb hby d7_23) rfl (l' := #[.val (.ref a1), .val (.ref sa), .val (.int ((3 : Int32) + (1 : Int32)))]) rfl k) ?_
  show own_Go _ _ _ _ (T38.setTop (mkF m 26 #[.val (.ref a1), .val (.ref sa), .val (.int ((3 : Int32) + (1 : Int32)))] []))
  rw [(by decide : ((3 : Int32) + (1 : Int32)) = (4 : Int32))]
  show own_Go _ _ _ _ (T38.setTop (mkF m 26 #[.val (.ref a1), .val (.ref sa), .val (.int (4 : Int32))] []))
  refine own_by (fun _ k => XS.goto X38.here hx rfl (pc0 := 26) (pc' := 7) rfl (hb hby d7_26) (by decide) (by decide) k) ?_
  refine own_by (fun _ k => XS.iloadN X38.here hx rfl (hb hby d7_7) rfl k) ?_
  refine own_by (fun _ k => XS.aloadN X38.here hx rfl (hb hby d7_8) rfl rfl k) ?_
  show own_Go _ _ _ _ (T38.setTop (mkF m 9 #[.val (.ref a1), .val (.ref sa), .val (.int (4 : Int32))] [(.ref a1), (.int (4 : Int32))]))
  refine own_by (fun _ k => own_len X38 hx hZ e38 A38.ar (4 : Int32) (by decide) (hb hby d7_9) k) ?_
  show own_Go _ _ _ _ (T38.setTop (mkF m 10 #[.val (.ref a1), .val (.ref sa), .val (.int (4 : Int32))] [(.int (4 : Int32)), (.int (4 : Int32))]))
  refine own_by (fun _ k => XS.icmpYes X38.here hx rfl (pc0 := 10) (pc' := 29) rfl (hb hby d7_10) rfl (flt (by decide)).2.1 (by decide) (by decide) k) ?_
  show own_Go _ _ _ _ (T38.setTop (mkF m 29 #[.val (.ref a1), .val (.ref sa), .val (.int (4 : Int32))] []))
  exact own_retV X38 hx Bd.notSynchronized e38 Bd.returns (hb hby d7_29) (⟨rfl, N38, f40, _, A38⟩) (by decide) (by decide)
def own_AL (Z : State) (h : Heap) (a ed : Addr) (sz mc : Int32) : Prop := Exa Z h a "java/util/ArrayList" ∧ Fld Z h a "java/util/ArrayList" "elementData" "[Ljava/lang/Object;" (.ref ed) ∧ Fld Z h a "java/util/ArrayList" "size" "I" (.int sz) ∧ Fld Z h a "java/util/AbstractList" "modCount" "I" (.int mc)
set_option maxRecDepth 65536 in
set_option maxHeartbeats 40000000 in
theorem rm5 (l : Launch) (Z : State) (a0 : Array Value) (hw : ∀ d ∈ tables_1, d.before a0 Z = true) (ws : List Jvm.Cond) (a1 : Addr)  (h0 : Heap) (n0 : Nat) (Z0 : n0 ≤ h0.size) :
    MetFree l (⟨"java/util/AbstractCollection", "<init>", "()V"⟩ : MethodName) (head1 (Jvm.Cond.code (⟨"java/util/AbstractCollection", "<init>", "()V"⟩ : MethodName) jdk_22_method_1_code 1 none :: ws) ({ frames := 1, cells := 0, slots := 0, locals := 12 } : Room)) (fun a U => a = #[(.ref a1)] ∧ Z.Warmed39 U.vm ∧ U.heap = h0) (fun _ _ _ _ _ => True) (fun _ U o U' => ∃ vv LL, o = .returned vv ∧ own_ap (fun v h L => v = none ∧ Fr n0 L ∧ h = h0) vv U'.heap LL ∧ FrameEnd U o U' LL 0 0) := by
  refine MetFree.of_bodySF (plainFor_of_name pn_5) hisR ?_
  intro p e s m args below meth c s₁ Bd hml0 hP hK
  obtain ⟨rfl, hZ, hh⟩ := hP
  have hx := Bd.exec
  have hby := Bd.bytes
  have hml : c.maxLocals = 1 := hml0
  have hown : s.vm.findClass "java/util/AbstractCollection" = some m.cls := findClass_of_methodNamed Bd.named
  have hnm := (name_of_methodNamed Bd.named Bd.method).1
  have X0 : Stand p l e ({ frames := 1, cells := 0, slots := 0, locals := 12 } : Room) s m #[(.ref a1)] below meth c s₁ [] 0 0 := Stand.of_body Bd
  have e0 : s₁.heap = h0 := by rw [← hh, Bd.state]; rfl
  have N0 := Fr.nil n0
  show own_Go p.tables e below (own_Q s (fun v h L => v = none ∧ Fr n0 L ∧ h = h0) 0 0) (s₁.setTop (entryFrame m #[(.ref a1)] 1))
  rw [show entryFrame m #[(.ref a1)] 1 = mkF m 0 #[.val (.ref a1)] [] from by first | (simp [entryFrame, mkF, argsToLocals, Value.category]; done) | rfl]
  show own_Go _ _ _ _ (s₁.setTop (mkF m 0 #[.val (.ref a1)] []))
  refine own_by (fun _ k => XS.aloadN X0.here hx rfl (hb hby d5_0) rfl rfl k) ?_
  show own_Go _ _ _ _ (s₁.setTop (mkF m 1 #[.val (.ref a1)] [(.ref a1)]))
  obtain ⟨T1, X1, e1, st1⟩ := initO X0 hx hZ hown (hw _ (List.mem_of_getElem? (i := 28) rfl)) (hw _ (List.mem_of_getElem? (i := 8) rfl)) (hw _ (List.mem_of_getElem? (i := 9) rfl)) e0 (g := (mkF m 1 #[.val (.ref a1)] [(.ref a1)])) rfl (by rw [hml]; rfl) rfl (hb hby d5_1) (by decide) (W := 0) (by show 2 * 0 + _ ≤ _; exact Nat.le_of_eq rfl) (by decide)
  refine own_by st1 ?_
  show own_Go _ _ _ _ (T1.setTop (mkF m 4 #[.val (.ref a1)] []))
  exact own_retV X1 hx Bd.notSynchronized e1 Bd.returns (hb hby d5_4) (⟨rfl, N0, rfl⟩) (by decide) (by decide)
set_option maxRecDepth 65536 in
set_option maxHeartbeats 40000000 in
theorem rm4 (l : Launch) (Z : State) (a0 : Array Value) (hw : ∀ d ∈ tables_1, d.before a0 Z = true) (ws : List Jvm.Cond) (a1 : Addr)  (h0 : Heap) (n0 : Nat) (Z0 : n0 ≤ h0.size) (PE : Exa Z h0 a1 "java/util/ArrayList") (PM : Fld Z h0 a1 "java/util/AbstractList" "modCount" "I" (.int 0)) (PD : Fld Z h0 a1 "java/util/ArrayList" "elementData" "[Ljava/lang/Object;" .null) (PZ : Fld Z h0 a1 "java/util/ArrayList" "size" "I" (.int 0)) (Pa : n0 ≤ a1) :
    MetFree l (⟨"java/util/AbstractList", "<init>", "()V"⟩ : MethodName) (head1 (Jvm.Cond.code (⟨"java/util/AbstractList", "<init>", "()V"⟩ : MethodName) jdk_39_method_1_code 1 none :: ws) ({ frames := 2, cells := 0, slots := 0, locals := 24 } : Room)) (fun a U => a = #[(.ref a1)] ∧ Z.Warmed39 U.vm ∧ U.heap = h0) (fun _ _ _ _ _ => True) (fun _ U o U' => ∃ vv LL, o = .returned vv ∧ own_ap (fun v h L => v = none ∧ Fr n0 L ∧ Keep h0 h [a1] ∧ Fld Z h a1 "java/util/AbstractList" "modCount" "I" (.int 0) ∧ Fld Z h a1 "java/util/ArrayList" "elementData" "[Ljava/lang/Object;" .null ∧ Fld Z h a1 "java/util/ArrayList" "size" "I" (.int 0)) vv U'.heap LL ∧ FrameEnd U o U' LL 0 0) := by
  refine MetFree.of_bodySF (plainFor_of_name pn_4) hisR ?_
  intro p e s m args below meth c s₁ Bd hml0 hP hK
  obtain ⟨rfl, hZ, hh⟩ := hP
  have hx := Bd.exec
  have hby := Bd.bytes
  have hml : c.maxLocals = 1 := hml0
  have hown : s.vm.findClass "java/util/AbstractList" = some m.cls := findClass_of_methodNamed Bd.named
  have hnm := (name_of_methodNamed Bd.named Bd.method).1
  have X0 : Stand p l e ({ frames := 2, cells := 0, slots := 0, locals := 24 } : Room) s m #[(.ref a1)] below meth c s₁ [] 0 0 := Stand.of_body Bd
  have e0 : s₁.heap = h0 := by rw [← hh, Bd.state]; rfl
  have N0 := Fr.nil n0
  show own_Go p.tables e below (own_Q s (fun v h L => v = none ∧ Fr n0 L ∧ Keep h0 h [a1] ∧ Fld Z h a1 "java/util/AbstractList" "modCount" "I" (.int 0) ∧ Fld Z h a1 "java/util/ArrayList" "elementData" "[Ljava/lang/Object;" .null ∧ Fld Z h a1 "java/util/ArrayList" "size" "I" (.int 0)) 0 0) (s₁.setTop (entryFrame m #[(.ref a1)] 1))
  rw [show entryFrame m #[(.ref a1)] 1 = mkF m 0 #[.val (.ref a1)] [] from by first | (simp [entryFrame, mkF, argsToLocals, Value.category]; done) | rfl]
  show own_Go _ _ _ _ (s₁.setTop (mkF m 0 #[.val (.ref a1)] []))
  refine own_by (fun _ k => XS.aloadN X0.here hx rfl (hb hby d4_0) rfl rfl k) ?_
  show own_Go _ _ _ _ (s₁.setTop (mkF m 1 #[.val (.ref a1)] [(.ref a1)]))
  refine own_callI X0 hx hZ hown rfl (hw _ (List.mem_of_getElem? (i := 22) rfl)) (hw _ (List.mem_of_getElem? (i := 23) rfl)) (hw _ (List.mem_of_getElem? (i := 26) rfl)) (hw _ (List.mem_of_getElem? (i := 27) rfl)) (by decide) (rm5 l Z a0 hw [] a1 h0 n0 Z0) e0 (by rw [hml]; rfl) a1 [] [] rfl (lenOf own_pd2 rfl) rfl 0 (Nat.le_of_eq rfl) (by decide) (by decide) (Nat.le_of_ble_eq_true rfl) (Nat.le_of_ble_eq_true rfl) (hb hby d4_1) ?_
  intro T1 Lc1 v1 X1 hQ1
  obtain ⟨rfl, N1q, e1⟩ := hQ1
  have N1 := Fr.app N0 N1q
  show own_Go _ _ _ _ (T1.setTop (mkF m 4 #[.val (.ref a1)] []))
  refine own_by (fun _ k => XS.aloadN X1.here hx rfl (hb hby d4_4) rfl rfl k) ?_
  refine own_by (fun _ k => XS.iconst X1.here hx rfl (hb hby d4_5) k) ?_
  show own_Go _ _ _ _ (T1.setTop (mkF m 6 #[.val (.ref a1)] [(.int (0 : Int32)), (.ref a1)]))
  obtain ⟨T2, h2, X2, e2, W2, st2⟩ := putF X1 hx hZ hown (host := "") (Or.inl (hw _ (List.mem_of_getElem? (i := 29) rfl))) Via.refl e1 PM PE (Or.inl (hw _ (List.mem_of_getElem? (i := 30) rfl))) (hw _ (List.mem_of_getElem? (i := 11) rfl)) (ty := .int) (by decide) rfl rfl (g := (mkF m 6 #[.val (.ref a1)] [(.int (0 : Int32)), (.ref a1)])) rfl rfl (hb hby d4_6)
  refine own_by st2 ?_
  have f3 := PM.same W2
  have f4 := PE.wr W2
  have f5 := PD.other W2 (Or.inr (slot_ne (Or.inl (hw _ (List.mem_of_getElem? (i := 33) rfl))) (Or.inl (hw _ (List.mem_of_getElem? (i := 30) rfl))) (by decide) (t := (.array (.object "java/lang/Object"))) (t' := .int) (by decide) (by decide)))
  have f6 := PZ.other W2 (Or.inr (slot_ne (Or.inl (hw _ (List.mem_of_getElem? (i := 86) rfl))) (Or.inl (hw _ (List.mem_of_getElem? (i := 30) rfl))) (by decide) (t := .int) (t' := .int) (by decide) (by decide)))
  have f7 := (Keep.refl h0 [a1]).wr W2 (Or.inl (List.mem_of_getElem? (i := 0) rfl))
  have N2 := Fr.snoc X2 N1 Pa
  have Z2 := own_size_wr W2 Z0
  show own_Go _ _ _ _ (T2.setTop (mkF m 9 #[.val (.ref a1)] []))
  exact own_retV X2 hx Bd.notSynchronized e2 Bd.returns (hb hby d4_9) (⟨rfl, N2, f7, f3, f5, f6⟩) (by decide) (by decide)
set_option maxRecDepth 65536 in
set_option maxHeartbeats 40000000 in
theorem rm3 (l : Launch) (Z : State) (a0 : Array Value) (hw : ∀ d ∈ tables_1, d.before a0 Z = true) (ws : List Jvm.Cond) (a1 : Addr) (dc : Addr) (h0 : Heap) (n0 : Nat) (Z0 : n0 ≤ h0.size) (PE : Exa Z h0 a1 "java/util/ArrayList") (PM : Fld Z h0 a1 "java/util/AbstractList" "modCount" "I" (.int 0)) (PD : Fld Z h0 a1 "java/util/ArrayList" "elementData" "[Ljava/lang/Object;" .null) (PZ : Fld Z h0 a1 "java/util/ArrayList" "size" "I" (.int 0)) (Pa : n0 ≤ a1) (PS : Sta Z h0 "java/util/ArrayList" "DEFAULTCAPACITY_EMPTY_ELEMENTDATA" "[Ljava/lang/Object;" (.ref dc)) :
    MetFree l (⟨"java/util/ArrayList", "<init>", "()V"⟩ : MethodName) (head1 (Jvm.Cond.code (⟨"java/util/ArrayList", "<init>", "()V"⟩ : MethodName) jdk_38_method_2_code 1 none :: ws) ({ frames := 3, cells := 0, slots := 0, locals := 36 } : Room)) (fun a U => a = #[(.ref a1)] ∧ Z.Warmed39 U.vm ∧ U.heap = h0) (fun _ _ _ _ _ => True) (fun _ U o U' => ∃ vv LL, o = .returned vv ∧ own_ap (fun v h L => v = none ∧ Fr n0 L ∧ Keep h0 h [a1] ∧ own_AL Z h a1 dc 0 0) vv U'.heap LL ∧ FrameEnd U o U' LL 0 0) := by
  refine MetFree.of_bodySF (plainFor_of_name pn_3) hisR ?_
  intro p e s m args below meth c s₁ Bd hml0 hP hK
  obtain ⟨rfl, hZ, hh⟩ := hP
  have hx := Bd.exec
  have hby := Bd.bytes
  have hml : c.maxLocals = 1 := hml0
  have hown : s.vm.findClass "java/util/ArrayList" = some m.cls := findClass_of_methodNamed Bd.named
  have hnm := (name_of_methodNamed Bd.named Bd.method).1
  have X0 : Stand p l e ({ frames := 3, cells := 0, slots := 0, locals := 36 } : Room) s m #[(.ref a1)] below meth c s₁ [] 0 0 := Stand.of_body Bd
  have e0 : s₁.heap = h0 := by rw [← hh, Bd.state]; rfl
  have N0 := Fr.nil n0
  show own_Go p.tables e below (own_Q s (fun v h L => v = none ∧ Fr n0 L ∧ Keep h0 h [a1] ∧ own_AL Z h a1 dc 0 0) 0 0) (s₁.setTop (entryFrame m #[(.ref a1)] 1))
  rw [show entryFrame m #[(.ref a1)] 1 = mkF m 0 #[.val (.ref a1)] [] from by first | (simp [entryFrame, mkF, argsToLocals, Value.category]; done) | rfl]
  show own_Go _ _ _ _ (s₁.setTop (mkF m 0 #[.val (.ref a1)] []))
  refine own_by (fun _ k => XS.aloadN X0.here hx rfl (hb hby d3_0) rfl rfl k) ?_
  show own_Go _ _ _ _ (s₁.setTop (mkF m 1 #[.val (.ref a1)] [(.ref a1)]))
  refine own_callI X0 hx hZ hown rfl (hw _ (List.mem_of_getElem? (i := 16) rfl)) (hw _ (List.mem_of_getElem? (i := 17) rfl)) (hw _ (List.mem_of_getElem? (i := 20) rfl)) (hw _ (List.mem_of_getElem? (i := 21) rfl)) (by decide) (rm4 l Z a0 hw [] a1 h0 n0 Z0 PE PM PD PZ Pa) e0 (by rw [hml]; rfl) a1 [] [] rfl (lenOf own_pd2 rfl) rfl 0 (Nat.le_of_eq rfl) (by decide) (by decide) (Nat.le_of_ble_eq_true rfl) (Nat.le_of_ble_eq_true rfl) (hb hby d3_1) ?_
  intro T1 Lc1 v1 X1 hQ1
  obtain ⟨h1, e1⟩ : ∃ h, T1.heap = h := ⟨_, rfl⟩
  rw [e1] at hQ1
  obtain ⟨rfl, N1q, K1, FM1, FE1, FS1⟩ := hQ1
  have N1 := Fr.app N0 N1q
  have f2 := PE.keep K1
  have f6 := (Keep.refl h0 [a1]).trans K1 (allS (P := fun x => x ∈ [a1] ∨ h0.size ≤ x) (Or.inl (List.mem_of_getElem? (i := 0) rfl)) all0)
  have f7 := own_sta_keep PS K1 (nsS PE.nostat ns0)
  have Z1 := Nat.le_trans Z0 K1.1
  show own_Go _ _ _ _ (T1.setTop (mkF m 4 #[.val (.ref a1)] []))
  refine own_by (fun _ k => XS.aloadN X1.here hx rfl (hb hby d3_4) rfl rfl k) ?_
  show own_Go _ _ _ _ (T1.setTop (mkF m 5 #[.val (.ref a1)] [(.ref a1)]))
  obtain ⟨T8, X8, e8, st8⟩ := getS2 X1 hx hZ hown (host := "") (Or.inl (hw _ (List.mem_of_getElem? (i := 31) rfl))) Via.refl e1 f7 (g := (mkF m 5 #[.val (.ref a1)] [(.ref a1)])) rfl (hb hby d3_5)
  refine own_by st8 ?_
  show own_Go _ _ _ _ (T8.setTop (mkF m 8 #[.val (.ref a1)] [(.ref dc), (.ref a1)]))
  obtain ⟨T9, h9, X9, e9, W9, st9⟩ := putF X8 hx hZ hown (host := "") (Or.inl (hw _ (List.mem_of_getElem? (i := 32) rfl))) Via.refl e8 FE1 f2 (Or.inl (hw _ (List.mem_of_getElem? (i := 33) rfl))) (hw _ (List.mem_of_getElem? (i := 11) rfl)) (ty := (.array (.object "java/lang/Object"))) (by decide) rfl rfl (g := (mkF m 8 #[.val (.ref a1)] [(.ref dc), (.ref a1)])) rfl rfl (hb hby d3_8)
  refine own_by st9 ?_
  have f10 := FE1.same W9
  have f11 := f2.wr W9
  have f12 := f6.wr W9 (Or.inl (List.mem_of_getElem? (i := 0) rfl))
  have f13 := f7.wr W9
  have f14 := FM1.other W9 (Or.inr (slot_ne (Or.inl (hw _ (List.mem_of_getElem? (i := 30) rfl))) (Or.inl (hw _ (List.mem_of_getElem? (i := 33) rfl))) (by decide) (t := .int) (t' := (.array (.object "java/lang/Object"))) (by decide) (by decide)))
  have f15 := FS1.other W9 (Or.inr (slot_ne (Or.inl (hw _ (List.mem_of_getElem? (i := 86) rfl))) (Or.inl (hw _ (List.mem_of_getElem? (i := 33) rfl))) (by decide) (t := .int) (t' := (.array (.object "java/lang/Object"))) (by decide) (by decide)))
  have N9 := Fr.snoc X9 N1 Pa
  have Z9 := own_size_wr W9 Z1
  show own_Go _ _ _ _ (T9.setTop (mkF m 11 #[.val (.ref a1)] []))
  exact own_retV X9 hx Bd.notSynchronized e9 Bd.returns (hb hby d3_11) (⟨rfl, N9, f12, ⟨f11, f10, f15, f14⟩⟩) (by decide) (by decide)
set_option maxRecDepth 65536 in
set_option maxHeartbeats 40000000 in
theorem rm13 (l : Launch) (Z : State) (a0 : Array Value) (hw : ∀ d ∈ tables_1, d.before a0 Z = true) (ws : List Jvm.Cond) (a1 : Addr) (dc : Addr) (mc : Int32) (fd : Nat → Value) (h0 : Heap) (n0 : Nat) (Z0 : n0 ≤ h0.size) (PL : own_AL Z h0 a1 dc 0 mc) (PC : own_Ar Z h0 dc (.object "java/lang/Object") 0 fd) (PS : Sta Z h0 "java/util/ArrayList" "DEFAULTCAPACITY_EMPTY_ELEMENTDATA" "[Ljava/lang/Object;" (.ref dc)) (Pa : n0 ≤ a1) (Pdc : dc < n0) :
    MetFree l (⟨"java/util/ArrayList", "grow", "(I)[Ljava/lang/Object;"⟩ : MethodName) (head1 (Jvm.Cond.code (⟨"java/util/ArrayList", "grow", "(I)[Ljava/lang/Object;"⟩ : MethodName) jdk_38_method_6_code 4 (some (.array (.object "java/lang/Object"))) :: ws) ({ frames := 1, cells := 1, slots := 10, locals := 15 } : Room)) (fun a U => a = #[(.ref a1), (.int (1 : Int32))] ∧ Z.Warmed39 U.vm ∧ U.heap = h0) (fun _ _ _ _ _ => True) (fun _ U o U' => ∃ vv LL, o = .returned vv ∧ own_ap (fun v h L => ∃ bb : Addr, v = some (.ref bb) ∧ Fr n0 L ∧ Keep h0 h [a1] ∧ h0.size ≤ bb ∧ own_Ra Z h bb "java/lang/Object" 10 (fun _ => .null) ∧ own_AL Z h a1 bb 0 mc) vv U'.heap LL ∧ FrameEnd U o U' LL 1 10) := by
  refine MetFree.of_bodySF (plainFor_of_name pn_13) hisR ?_
  intro p e s m args below meth c s₁ Bd hml0 hP hK
  obtain ⟨rfl, hZ, hh⟩ := hP
  have hx := Bd.exec
  have hby := Bd.bytes
  have hml : c.maxLocals = 4 := hml0
  have hown : s.vm.findClass "java/util/ArrayList" = some m.cls := findClass_of_methodNamed Bd.named
  have hnm := (name_of_methodNamed Bd.named Bd.method).1
  have X0 : Stand p l e ({ frames := 1, cells := 1, slots := 10, locals := 15 } : Room) s m #[(.ref a1), (.int (1 : Int32))] below meth c s₁ [] 0 0 := Stand.of_body Bd
  have e0 : s₁.heap = h0 := by rw [← hh, Bd.state]; rfl
  have N0 := Fr.nil n0
  show own_Go p.tables e below (own_Q s (fun v h L => ∃ bb : Addr, v = some (.ref bb) ∧ Fr n0 L ∧ Keep h0 h [a1] ∧ h0.size ≤ bb ∧ own_Ra Z h bb "java/lang/Object" 10 (fun _ => .null) ∧ own_AL Z h a1 bb 0 mc) 1 10) (s₁.setTop (entryFrame m #[(.ref a1), (.int (1 : Int32))] 4))
  rw [show entryFrame m #[(.ref a1), (.int (1 : Int32))] 4 = mkF m 0 #[.val (.ref a1), .val (.int (1 : Int32)), .unset, .unset] [] from by first | (simp [entryFrame, mkF, argsToLocals, Value.category]; done) | rfl]
  obtain ⟨PE, PD, PZ, PM⟩ := PL
  have Pne : dc ≠ a1 := Nat.ne_of_lt (Nat.lt_of_lt_of_le Pdc Pa)
  show own_Go _ _ _ _ (s₁.setTop (mkF m 0 #[.val (.ref a1), .val (.int (1 : Int32)), .unset, .unset] []))
  refine own_by (fun _ k => XS.aloadN X0.here hx rfl (hb hby d13_0) rfl rfl k) ?_
  show own_Go _ _ _ _ (s₁.setTop (mkF m 1 #[.val (.ref a1), .val (.int (1 : Int32)), .unset, .unset] [(.ref a1)]))
  obtain ⟨T1, X1, e1, st1⟩ := getF X0 hx hZ hown (host := "") (Or.inl (hw _ (List.mem_of_getElem? (i := 32) rfl))) Via.refl e0 PD (g := (mkF m 1 #[.val (.ref a1), .val (.int (1 : Int32)), .unset, .unset] [(.ref a1)])) rfl rfl (hb hby d13_1)
  refine own_by st1 ?_
  show own_Go _ _ _ _ (T1.setTop (mkF m 4 #[.val (.ref a1), .val (.int (1 : Int32)), .unset, .unset] [(.ref dc)]))
  refine own_by (fun _ k => own_len X1 hx hZ e1 PC (0 : Int32) (by decide) (hb hby d13_4) k) ?_
  show own_Go _ _ _ _ (T1.setTop (mkF m 5 #[.val (.ref a1), .val (.int (1 : Int32)), .unset, .unset] [(.int (0 : Int32))]))
  refine own_by (fun _ k => XS.istoreN X1.here hx rfl (hb hby d13_5) rfl (l' := #[.val (.ref a1), .val (.int (1 : Int32)), .val (.int (0 : Int32)), .unset]) rfl k) ?_
  refine own_by (fun _ k => XS.iloadN X1.here hx rfl (hb hby d13_6) rfl k) ?_
  show own_Go _ _ _ _ (T1.setTop (mkF m 7 #[.val (.ref a1), .val (.int (1 : Int32)), .val (.int (0 : Int32)), .unset] [(.int (0 : Int32))]))
  refine own_by (fun _ k => XS.ifNo X1.here hx rfl (hb hby d13_7) rfl ((if0 _ _).trans (flt (by decide)).2.2.1) k) ?_
  refine own_by (fun _ k => XS.aloadN X1.here hx rfl (hb hby d13_10) rfl rfl k) ?_
  show own_Go _ _ _ _ (T1.setTop (mkF m 11 #[.val (.ref a1), .val (.int (1 : Int32)), .val (.int (0 : Int32)), .unset] [(.ref a1)]))
  obtain ⟨T2, X2, e2, st2⟩ := getF X1 hx hZ hown (host := "") (Or.inl (hw _ (List.mem_of_getElem? (i := 32) rfl))) Via.refl e1 PD (g := (mkF m 11 #[.val (.ref a1), .val (.int (1 : Int32)), .val (.int (0 : Int32)), .unset] [(.ref a1)])) rfl rfl (hb hby d13_11)
  refine own_by st2 ?_
  show own_Go _ _ _ _ (T2.setTop (mkF m 14 #[.val (.ref a1), .val (.int (1 : Int32)), .val (.int (0 : Int32)), .unset] [(.ref dc)]))
  obtain ⟨T3, X3, e3, st3⟩ := getS2 X2 hx hZ hown (host := "") (Or.inl (hw _ (List.mem_of_getElem? (i := 31) rfl))) Via.refl e2 PS (g := (mkF m 14 #[.val (.ref a1), .val (.int (1 : Int32)), .val (.int (0 : Int32)), .unset] [(.ref dc)])) rfl (hb hby d13_14)
  refine own_by st3 ?_
  show own_Go _ _ _ _ (T3.setTop (mkF m 17 #[.val (.ref a1), .val (.int (1 : Int32)), .val (.int (0 : Int32)), .unset] [(.ref dc), (.ref dc)]))
  refine own_by (fun _ k => Jvm.RoadKit.acmp (g := (mkF m 17 #[.val (.ref a1), .val (.int (1 : Int32)), .val (.int (0 : Int32)), .unset] [(.ref dc), (.ref dc)])) X3 hx rfl rfl rfl (pc0 := 17) (pc' := 45) (same := true) rfl (hb hby d13_17) rfl (decide_eq_true rfl) (by decide) (by decide) k) ?_
  refine own_by (fun _ k => XS.aloadN X3.here hx rfl (hb hby d13_45) rfl rfl k) ?_
  refine own_by (fun _ k => XS.bipush X3.here hx rfl (hb hby d13_46) k) ?_
  show own_Go _ _ _ _ (T3.setTop (mkF m 48 #[.val (.ref a1), .val (.int (1 : Int32)), .val (.int (0 : Int32)), .unset] [(.int (10 : Int32)), (.ref a1)]))
  refine own_by (fun _ k => XS.iloadN X3.here hx rfl (hb hby d13_48) rfl k) ?_
  show own_Go _ _ _ _ (T3.setTop (mkF m 49 #[.val (.ref a1), .val (.int (1 : Int32)), .val (.int (0 : Int32)), .unset] [(.int (1 : Int32)), (.int (10 : Int32)), (.ref a1)]))
  refine own_callS X3 hx hZ hown (hw _ (List.mem_of_getElem? (i := 102) rfl)) (hw _ (List.mem_of_getElem? (i := 103) rfl)) (hw _ (List.mem_of_getElem? (i := 104) rfl)) (hw _ (List.mem_of_getElem? (i := 105) rfl)) (by decide) (rm14 l Z a0 hw [] (10 : Int32) (1 : Int32) h0 n0 Z0) e3 (by rw [hml]; rfl) [(.int (10 : Int32)), (.int (1 : Int32))] [(.ref a1)] rfl (lenOf own_pd10 rfl) rfl 1 (Nat.le_of_eq rfl) (by decide) (by decide) (Nat.le_of_ble_eq_true rfl) (Nat.le_of_ble_eq_true rfl) (hb hby d13_49) ?_
  intro T4 Lc4 v4 X4 hQ4
  obtain ⟨rfl, N4q, e4⟩ := hQ4
  have N4 := Fr.app N0 N4q
  show own_Go _ _ _ _ (T4.setTop (mkF m 52 #[.val (.ref a1), .val (.int (1 : Int32)), .val (.int (0 : Int32)), .unset] [(.int (if (10 : Int32) < (1 : Int32) then (1 : Int32) else (10 : Int32))), (.ref a1)]))
  rw [show (if (10 : Int32) < (1 : Int32) then (1 : Int32) else (10 : Int32)) = (10 : Int32) from by decide]
  show own_Go _ _ _ _ (T4.setTop (mkF m 52 #[.val (.ref a1), .val (.int (1 : Int32)), .val (.int (0 : Int32)), .unset] [(.int (10 : Int32)), (.ref a1)]))
  refine own_newR X4 hx hZ hown (hw _ (List.mem_of_getElem? (i := 106) rfl)) (hw _ (List.mem_of_getElem? (i := 107) rfl)) e4 10 (by decide) 10 (by decide) (by decide) (by decide) (by decide) (hb hby d13_52) ?_
  intro T5 h5 X5 e5 E5 A5
  show own_Go _ _ _ _ (T5.setTop (mkF m 55 #[.val (.ref a1), .val (.int (1 : Int32)), .val (.int (0 : Int32)), .unset] [.ref h0.size, (.ref a1)]))
  obtain ⟨b5, g5⟩ : ∃ z, z = h0.size := ⟨_, rfl⟩
  rw [← g5] at A5
  refine own_gen g5.symm (fun z_ => T5.setTop (mkF m 55 #[.val (.ref a1), .val (.int (1 : Int32)), .val (.int (0 : Int32)), .unset] [.ref z_, (.ref a1)])) ?_
  have ne6 : a1 ≠ b5 := Nat.ne_of_lt (Nat.lt_of_lt_of_le PZ.lt (Nat.le_of_eq g5.symm))
  have ne7 : dc ≠ b5 := Nat.ne_of_lt (Nat.lt_of_lt_of_le PC.lt (Nat.le_of_eq g5.symm))
  have ge5 : n0 ≤ b5 := Nat.le_trans Z0 (Nat.le_of_eq g5.symm)
  have nw5 : h0.size ≤ b5 := Nat.le_trans (Keep.refl h0 [a1]).1 (Nat.le_of_eq g5.symm)
  have f8 := PE.ext E5
  have f9 := PM.ext E5
  have f10 := PD.ext E5
  have f11 := PZ.ext E5
  have f12 := (Keep.refl h0 [a1]).ext E5
  have f13 := PC.ext E5
  have f14 := PS.ext E5
  have Z5 := Nat.le_trans Z0 E5.1
  show own_Go _ _ _ _ (T5.setTop (mkF m 55 #[.val (.ref a1), .val (.int (1 : Int32)), .val (.int (0 : Int32)), .unset] [(.ref b5), (.ref a1)]))
  refine own_by (fun _ k => XS.dupX1 X5.here hx rfl (hb hby d13_55) rfl rfl rfl k) ?_
  show own_Go _ _ _ _ (T5.setTop (mkF m 56 #[.val (.ref a1), .val (.int (1 : Int32)), .val (.int (0 : Int32)), .unset] [(.ref b5), (.ref a1), (.ref b5)]))
  obtain ⟨T15, h15, X15, e15, W15, st15⟩ := putF X5 hx hZ hown (host := "") (Or.inl (hw _ (List.mem_of_getElem? (i := 32) rfl))) Via.refl e5 f10 f8 (Or.inl (hw _ (List.mem_of_getElem? (i := 33) rfl))) (hw _ (List.mem_of_getElem? (i := 11) rfl)) (ty := (.array (.object "java/lang/Object"))) (by decide) rfl rfl (g := (mkF m 56 #[.val (.ref a1), .val (.int (1 : Int32)), .val (.int (0 : Int32)), .unset] [(.ref b5), (.ref a1), (.ref b5)])) rfl rfl (hb hby d13_56)
  refine own_by st15 ?_
  have f16 := f10.same W15
  have f17 := f8.wr W15
  have f18 := f9.other W15 (Or.inr (slot_ne (Or.inl (hw _ (List.mem_of_getElem? (i := 30) rfl))) (Or.inl (hw _ (List.mem_of_getElem? (i := 33) rfl))) (by decide) (t := .int) (t' := (.array (.object "java/lang/Object"))) (by decide) (by decide)))
  have f19 := f11.other W15 (Or.inr (slot_ne (Or.inl (hw _ (List.mem_of_getElem? (i := 86) rfl))) (Or.inl (hw _ (List.mem_of_getElem? (i := 33) rfl))) (by decide) (t := .int) (t' := (.array (.object "java/lang/Object"))) (by decide) (by decide)))
  have f20 := f12.wr W15 (Or.inl (List.mem_of_getElem? (i := 0) rfl))
  have f21 := f13.other W15 Pne
  have f22 := f14.wr W15
  have f23 := A5.other W15 (Ne.symm ne6)
  have N15 := Fr.snoc X15 N4 Pa
  have Z15 := own_size_wr W15 Z5
  show own_Go _ _ _ _ (T15.setTop (mkF m 59 #[.val (.ref a1), .val (.int (1 : Int32)), .val (.int (0 : Int32)), .unset] [(.ref b5)]))
  exact own_retA X15 hx Bd.notSynchronized e15 Bd.returns rfl rfl rfl (hb hby d13_59) (⟨_, rfl, N15, f20, nw5, f23, ⟨f17, f16, f19, f18⟩⟩) (by decide) (by decide)
set_option maxRecDepth 65536 in
set_option maxHeartbeats 40000000 in
theorem rm12 (l : Launch) (Z : State) (a0 : Array Value) (hw : ∀ d ∈ tables_1, d.before a0 Z = true) (ws : List Jvm.Cond) (a1 : Addr) (dc : Addr) (mc : Int32) (fd : Nat → Value) (h0 : Heap) (n0 : Nat) (Z0 : n0 ≤ h0.size) (PL : own_AL Z h0 a1 dc 0 mc) (PC : own_Ar Z h0 dc (.object "java/lang/Object") 0 fd) (PS : Sta Z h0 "java/util/ArrayList" "DEFAULTCAPACITY_EMPTY_ELEMENTDATA" "[Ljava/lang/Object;" (.ref dc)) (Pa : n0 ≤ a1) (Pdc : dc < n0) :
    MetFree l (⟨"java/util/ArrayList", "grow", "()[Ljava/lang/Object;"⟩ : MethodName) (head1 (Jvm.Cond.code (⟨"java/util/ArrayList", "grow", "()[Ljava/lang/Object;"⟩ : MethodName) jdk_38_method_7_code 1 (some (.array (.object "java/lang/Object"))) :: ws) ({ frames := 2, cells := 1, slots := 10, locals := 32 } : Room)) (fun a U => a = #[(.ref a1)] ∧ Z.Warmed39 U.vm ∧ U.heap = h0) (fun _ _ _ _ _ => True) (fun _ U o U' => ∃ vv LL, o = .returned vv ∧ own_ap (fun v h L => ∃ bb : Addr, v = some (.ref bb) ∧ Fr n0 L ∧ Keep h0 h [a1] ∧ h0.size ≤ bb ∧ own_Ra Z h bb "java/lang/Object" 10 (fun _ => .null) ∧ own_AL Z h a1 bb 0 mc) vv U'.heap LL ∧ FrameEnd U o U' LL 1 10) := by
  refine MetFree.of_bodySF (plainFor_of_name pn_12) hisR ?_
  intro p e s m args below meth c s₁ Bd hml0 hP hK
  obtain ⟨rfl, hZ, hh⟩ := hP
  have hx := Bd.exec
  have hby := Bd.bytes
  have hml : c.maxLocals = 1 := hml0
  have hown : s.vm.findClass "java/util/ArrayList" = some m.cls := findClass_of_methodNamed Bd.named
  have hnm := (name_of_methodNamed Bd.named Bd.method).1
  have X0 : Stand p l e ({ frames := 2, cells := 1, slots := 10, locals := 32 } : Room) s m #[(.ref a1)] below meth c s₁ [] 0 0 := Stand.of_body Bd
  have e0 : s₁.heap = h0 := by rw [← hh, Bd.state]; rfl
  have N0 := Fr.nil n0
  show own_Go p.tables e below (own_Q s (fun v h L => ∃ bb : Addr, v = some (.ref bb) ∧ Fr n0 L ∧ Keep h0 h [a1] ∧ h0.size ≤ bb ∧ own_Ra Z h bb "java/lang/Object" 10 (fun _ => .null) ∧ own_AL Z h a1 bb 0 mc) 1 10) (s₁.setTop (entryFrame m #[(.ref a1)] 1))
  rw [show entryFrame m #[(.ref a1)] 1 = mkF m 0 #[.val (.ref a1)] [] from by first | (simp [entryFrame, mkF, argsToLocals, Value.category]; done) | rfl]
  obtain ⟨PE, PD, PZ, PM⟩ := PL
  have Pne : dc ≠ a1 := Nat.ne_of_lt (Nat.lt_of_lt_of_le Pdc Pa)
  show own_Go _ _ _ _ (s₁.setTop (mkF m 0 #[.val (.ref a1)] []))
  refine own_by (fun _ k => XS.aloadN X0.here hx rfl (hb hby d12_0) rfl rfl k) ?_
  refine own_by (fun _ k => XS.aloadN X0.here hx rfl (hb hby d12_1) rfl rfl k) ?_
  show own_Go _ _ _ _ (s₁.setTop (mkF m 2 #[.val (.ref a1)] [(.ref a1), (.ref a1)]))
  obtain ⟨T1, X1, e1, st1⟩ := getF X0 hx hZ hown (host := "") (Or.inl (hw _ (List.mem_of_getElem? (i := 85) rfl))) Via.refl e0 PZ (g := (mkF m 2 #[.val (.ref a1)] [(.ref a1), (.ref a1)])) rfl rfl (hb hby d12_2)
  refine own_by st1 ?_
  refine own_by (fun _ k => XS.iconst X1.here hx rfl (hb hby d12_5) k) ?_
  show own_Go _ _ _ _ (T1.setTop (mkF m 6 #[.val (.ref a1)] [(.int (1 : Int32)), (.int (0 : Int32)), (.ref a1)]))
  refine own_by (fun _ k => XS.iadd X1.here hx rfl (hb hby d12_6) rfl k) ?_
  show own_Go _ _ _ _ (T1.setTop (mkF m 7 #[.val (.ref a1)] [(.int ((0 : Int32) + (1 : Int32))), (.ref a1)]))
  rw [(by decide : ((0 : Int32) + (1 : Int32)) = (1 : Int32))]
  show own_Go _ _ _ _ (T1.setTop (mkF m 7 #[.val (.ref a1)] [(.int (1 : Int32)), (.ref a1)]))
  refine own_callP (y' := (⟨"java/util/ArrayList", "add", "(Ljava/lang/Object;[Ljava/lang/Object;I)V"⟩ : MethodName)) X1 hx hZ hown (hw _ (List.mem_of_getElem? (i := 97) rfl)) (hw _ (List.mem_of_getElem? (i := 98) rfl)) (hw _ (List.mem_of_getElem? (i := 99) rfl)) rfl (hw _ (List.mem_of_getElem? (i := 90) rfl)) (hw _ (List.mem_of_getElem? (i := 12) rfl)) (hw _ (List.mem_of_getElem? (i := 101) rfl)) (by decide) (rm13 l Z a0 hw [] a1 dc mc fd h0 n0 Z0 ⟨PE, PD, PZ, PM⟩ PC PS Pa Pdc) e1 a1 PE (by rw [hml]; rfl) [(.int (1 : Int32))] [] rfl (lenOf own_pd9 rfl) rfl 0 (Nat.le_of_eq rfl) (by decide) (by decide) (Nat.le_of_ble_eq_true rfl) (Nat.le_of_ble_eq_true rfl) (hb hby d12_7) ?_
  intro T2 Lc2 v2 X2 hQ2
  obtain ⟨h2, e2⟩ : ∃ h, T2.heap = h := ⟨_, rfl⟩
  rw [e2] at hQ2
  obtain ⟨bb2, rfl, N2q, K2, nw2, AB2, PL2⟩ := hQ2
  have N2 := Fr.app N0 N2q
  have f3 := PE.keep K2
  have f7 := (Keep.refl h0 [a1]).trans K2 (allS (P := fun x => x ∈ [a1] ∨ h0.size ≤ x) (Or.inl (List.mem_of_getElem? (i := 0) rfl)) all0)
  have f8 := PC.keep K2 (ninS Pne nin0)
  have f9 := own_sta_keep PS K2 (nsS PE.nostat ns0)
  have Z2 := Nat.le_trans Z0 K2.1
  have ne10 : a1 ≠ bb2 := Nat.ne_of_lt (Nat.lt_of_lt_of_le PZ.lt nw2)
  have ne11 : dc ≠ bb2 := Nat.ne_of_lt (Nat.lt_of_lt_of_le PC.lt nw2)
  obtain ⟨PE2, PD2, PZ2, PM2⟩ := id PL2
  have ge2 : n0 ≤ bb2 := Nat.le_trans Z0 nw2
  have nk2 : h0.size ≤ bb2 := Nat.le_trans (Keep.refl h0 [a1]).1 nw2
  show own_Go _ _ _ _ (T2.setTop (mkF m 10 #[.val (.ref a1)] [(.ref bb2)]))
  exact own_retA X2 hx Bd.notSynchronized e2 Bd.returns rfl rfl rfl (hb hby d12_10) (⟨_, rfl, N2, f7, nk2, AB2, ⟨f3, PD2, PZ2, PM2⟩⟩) (by decide) (by decide)
set_option maxRecDepth 65536 in
set_option maxHeartbeats 40000000 in
theorem rm11_e (l : Launch) (Z : State) (a0 : Array Value) (hw : ∀ d ∈ tables_1, d.before a0 Z = true) (ws : List Jvm.Cond) (a1 : Addr) (x1 : Addr) (dc : Addr) (mc : Int32) (fd : Nat → Value) (h0 : Heap) (n0 : Nat) (Z0 : n0 ≤ h0.size) (PL : own_AL Z h0 a1 dc 0 mc) (PC : own_Ar Z h0 dc (.object "java/lang/Object") 0 fd) (PS : Sta Z h0 "java/util/ArrayList" "DEFAULTCAPACITY_EMPTY_ELEMENTDATA" "[Ljava/lang/Object;" (.ref dc)) (Pa : n0 ≤ a1) (Pdc : dc < n0) (PX : Exa Z h0 x1 "java/util/ArrayList") :
    MetFree l (⟨"java/util/ArrayList", "add", "(Ljava/lang/Object;[Ljava/lang/Object;I)V"⟩ : MethodName) (head1 (Jvm.Cond.code (⟨"java/util/ArrayList", "add", "(Ljava/lang/Object;[Ljava/lang/Object;I)V"⟩ : MethodName) jdk_38_method_24_code 4 none :: ws) ({ frames := 3, cells := 1, slots := 10, locals := 48 } : Room)) (fun a U => a = #[(.ref a1), (.ref x1), (.ref dc), (.int (0 : Int32))] ∧ Z.Warmed39 U.vm ∧ U.heap = h0) (fun _ _ _ _ _ => True) (fun _ U o U' => ∃ vv LL, o = .returned vv ∧ own_ap (fun v h L => v = none ∧ Fr n0 L ∧ Keep h0 h [a1] ∧ ∃ (ed : Addr) (f2 : Nat → Value), h0.size ≤ ed ∧ own_Ra Z h ed "java/lang/Object" 10 f2 ∧ own_AL Z h a1 ed 1 mc) vv U'.heap LL ∧ FrameEnd U o U' LL 1 10) := by
  refine MetFree.of_bodySF (plainFor_of_name pn_11) hisR ?_
  intro p e s m args below meth c s₁ Bd hml0 hP hK
  obtain ⟨rfl, hZ, hh⟩ := hP
  have hx := Bd.exec
  have hby := Bd.bytes
  have hml : c.maxLocals = 4 := hml0
  have hown : s.vm.findClass "java/util/ArrayList" = some m.cls := findClass_of_methodNamed Bd.named
  have hnm := (name_of_methodNamed Bd.named Bd.method).1
  have X0 : Stand p l e ({ frames := 3, cells := 1, slots := 10, locals := 48 } : Room) s m #[(.ref a1), (.ref x1), (.ref dc), (.int (0 : Int32))] below meth c s₁ [] 0 0 := Stand.of_body Bd
  have e0 : s₁.heap = h0 := by rw [← hh, Bd.state]; rfl
  have N0 := Fr.nil n0
  show own_Go p.tables e below (own_Q s (fun v h L => v = none ∧ Fr n0 L ∧ Keep h0 h [a1] ∧ ∃ (ed : Addr) (f2 : Nat → Value), h0.size ≤ ed ∧ own_Ra Z h ed "java/lang/Object" 10 f2 ∧ own_AL Z h a1 ed 1 mc) 1 10) (s₁.setTop (entryFrame m #[(.ref a1), (.ref x1), (.ref dc), (.int (0 : Int32))] 4))
  rw [show entryFrame m #[(.ref a1), (.ref x1), (.ref dc), (.int (0 : Int32))] 4 = mkF m 0 #[.val (.ref a1), .val (.ref x1), .val (.ref dc), .val (.int (0 : Int32))] [] from by first | (simp [entryFrame, mkF, argsToLocals, Value.category]; done) | rfl]
  obtain ⟨PE, PD, PZ, PM⟩ := PL
  have Pne : dc ≠ a1 := Nat.ne_of_lt (Nat.lt_of_lt_of_le Pdc Pa)
  show own_Go _ _ _ _ (s₁.setTop (mkF m 0 #[.val (.ref a1), .val (.ref x1), .val (.ref dc), .val (.int (0 : Int32))] []))
  refine own_by (fun _ k => XS.iloadN X0.here hx rfl (hb hby d11_0) rfl k) ?_
  refine own_by (fun _ k => XS.aloadN X0.here hx rfl (hb hby d11_1) rfl rfl k) ?_
  show own_Go _ _ _ _ (s₁.setTop (mkF m 2 #[.val (.ref a1), .val (.ref x1), .val (.ref dc), .val (.int (0 : Int32))] [(.ref dc), (.int (0 : Int32))]))
  refine own_by (fun _ k => own_len X0 hx hZ e0 PC (0 : Int32) (by decide) (hb hby d11_2) k) ?_
  show own_Go _ _ _ _ (s₁.setTop (mkF m 3 #[.val (.ref a1), .val (.ref x1), .val (.ref dc), .val (.int (0 : Int32))] [(.int (0 : Int32)), (.int (0 : Int32))]))
  refine own_by (fun _ k => XS.icmpNo X0.here hx rfl (hb hby d11_3) rfl (teq (by decide)).2 k) ?_
  refine own_by (fun _ k => XS.aloadN X0.here hx rfl (hb hby d11_6) rfl rfl k) ?_
  show own_Go _ _ _ _ (s₁.setTop (mkF m 7 #[.val (.ref a1), .val (.ref x1), .val (.ref dc), .val (.int (0 : Int32))] [(.ref a1)]))
  refine own_callP (y' := (⟨"java/util/ArrayList", "add", "(Ljava/lang/Object;[Ljava/lang/Object;I)V"⟩ : MethodName)) X0 hx hZ hown (hw _ (List.mem_of_getElem? (i := 92) rfl)) (hw _ (List.mem_of_getElem? (i := 93) rfl)) (hw _ (List.mem_of_getElem? (i := 94) rfl)) rfl (hw _ (List.mem_of_getElem? (i := 90) rfl)) (hw _ (List.mem_of_getElem? (i := 12) rfl)) (hw _ (List.mem_of_getElem? (i := 96) rfl)) (by decide) (rm12 l Z a0 hw [] a1 dc mc fd h0 n0 Z0 ⟨PE, PD, PZ, PM⟩ PC PS Pa Pdc) e0 a1 PE (by rw [hml]; rfl) [] [] rfl (lenOf own_pd8 rfl) rfl 0 (Nat.le_of_eq rfl) (by decide) (by decide) (Nat.le_of_ble_eq_true rfl) (Nat.le_of_ble_eq_true rfl) (hb hby d11_7) ?_
  intro T1 Lc1 v1 X1 hQ1
  obtain ⟨h1, e1⟩ : ∃ h, T1.heap = h := ⟨_, rfl⟩
  rw [e1] at hQ1
  obtain ⟨bb1, rfl, N1q, K1, nw1, AB1, PL1⟩ := hQ1
  have N1 := Fr.app N0 N1q
  have f2 := PE.keep K1
  have f6 := (Keep.refl h0 [a1]).trans K1 (allS (P := fun x => x ∈ [a1] ∨ h0.size ≤ x) (Or.inl (List.mem_of_getElem? (i := 0) rfl)) all0)
  have f7 := PC.keep K1 (ninS Pne nin0)
  have f8 := own_sta_keep PS K1 (nsS PE.nostat ns0)
  have f9 := PX.keep K1
  have Z1 := Nat.le_trans Z0 K1.1
  have ne10 : a1 ≠ bb1 := Nat.ne_of_lt (Nat.lt_of_lt_of_le PZ.lt nw1)
  have ne11 : dc ≠ bb1 := Nat.ne_of_lt (Nat.lt_of_lt_of_le PC.lt nw1)
  have ne12 : x1 ≠ bb1 := Nat.ne_of_lt (Nat.lt_of_lt_of_le PX.lt nw1)
  obtain ⟨PE1, PD1, PZ1, PM1⟩ := id PL1
  have ge1 : n0 ≤ bb1 := Nat.le_trans Z0 nw1
  have nk1 : h0.size ≤ bb1 := Nat.le_trans (Keep.refl h0 [a1]).1 nw1
  show own_Go _ _ _ _ (T1.setTop (mkF m 10 #[.val (.ref a1), .val (.ref x1), .val (.ref dc), .val (.int (0 : Int32))] [(.ref bb1)]))
  refine own_by (fun _ k => XS.astoreN X1.here hx rfl (hb hby d11_10) rfl rfl (l' := #[.val (.ref a1), .val (.ref x1), .val (.ref bb1), .val (.int (0 : Int32))]) rfl k) ?_
  refine own_by (fun _ k => XS.aloadN X1.here hx rfl (hb hby d11_11) rfl rfl k) ?_
  refine own_by (fun _ k => XS.iloadN X1.here hx rfl (hb hby d11_12) rfl k) ?_
  show own_Go _ _ _ _ (T1.setTop (mkF m 13 #[.val (.ref a1), .val (.ref x1), .val (.ref bb1), .val (.int (0 : Int32))] [(.int (0 : Int32)), (.ref bb1)]))
  refine own_by (fun _ k => XS.aloadN X1.here hx rfl (hb hby d11_13) rfl rfl k) ?_
  show own_Go _ _ _ _ (T1.setTop (mkF m 14 #[.val (.ref a1), .val (.ref x1), .val (.ref bb1), .val (.int (0 : Int32))] [(.ref x1), (.int (0 : Int32)), (.ref bb1)]))
  refine own_aas X1 hx hZ e1 AB1 (Ins.of_exa f9 (hw _ (List.mem_of_getElem? (i := 108) rfl))) 0 (by decide) (by decide) (hb hby d11_14) ?_
  intro T13 h13 X13 e13 W13 A13
  have f14 := f2.wr W13
  have f15 := f6.wr W13 (Or.inr nk1)
  have f16 := f7.other W13 ne11
  have f17 := f8.wr W13
  have f18 := f9.wr W13
  have f19 := PM1.other W13 (Or.inl ne10)
  have f20 := PD1.other W13 (Or.inl ne10)
  have f21 := PZ1.other W13 (Or.inl ne10)
  have N13 := Fr.snoc X13 N1 ge1
  have Z13 := own_size_wr W13 Z1
  obtain ⟨fn13, hfn13⟩ : ∃ gf_ : Nat → Value, gf_ = own_upd (fun _ => .null) 0 (.ref x1) := ⟨_, rfl⟩
  rw [← hfn13] at A13
  show own_Go _ _ _ _ (T13.setTop (mkF m 15 #[.val (.ref a1), .val (.ref x1), .val (.ref bb1), .val (.int (0 : Int32))] []))
  refine own_by (fun _ k => XS.aloadN X13.here hx rfl (hb hby d11_15) rfl rfl k) ?_
  refine own_by (fun _ k => XS.iloadN X13.here hx rfl (hb hby d11_16) rfl k) ?_
  refine own_by (fun _ k => XS.iconst X13.here hx rfl (hb hby d11_17) k) ?_
  show own_Go _ _ _ _ (T13.setTop (mkF m 18 #[.val (.ref a1), .val (.ref x1), .val (.ref bb1), .val (.int (0 : Int32))] [(.int (1 : Int32)), (.int (0 : Int32)), (.ref a1)]))
  refine own_by (fun _ k => XS.iadd X13.here hx rfl (hb hby d11_18) rfl k) ?_
  show own_Go _ _ _ _ (T13.setTop (mkF m 19 #[.val (.ref a1), .val (.ref x1), .val (.ref bb1), .val (.int (0 : Int32))] [(.int ((0 : Int32) + (1 : Int32))), (.ref a1)]))
  rw [(by decide : ((0 : Int32) + (1 : Int32)) = (1 : Int32))]
  show own_Go _ _ _ _ (T13.setTop (mkF m 19 #[.val (.ref a1), .val (.ref x1), .val (.ref bb1), .val (.int (0 : Int32))] [(.int (1 : Int32)), (.ref a1)]))
  obtain ⟨T22, h22, X22, e22, W22, st22⟩ := putF X13 hx hZ hown (host := "") (Or.inl (hw _ (List.mem_of_getElem? (i := 85) rfl))) Via.refl e13 f21 f14 (Or.inl (hw _ (List.mem_of_getElem? (i := 86) rfl))) (hw _ (List.mem_of_getElem? (i := 11) rfl)) (ty := .int) (by decide) rfl rfl (g := (mkF m 19 #[.val (.ref a1), .val (.ref x1), .val (.ref bb1), .val (.int (0 : Int32))] [(.int (1 : Int32)), (.ref a1)])) rfl rfl (hb hby d11_19)
  refine own_by st22 ?_
  have f23 := f21.same W22
  have f24 := f14.wr W22
  have f25 := f15.wr W22 (Or.inl (List.mem_of_getElem? (i := 0) rfl))
  have f26 := f16.other W22 Pne
  have f27 := f17.wr W22
  have f28 := f18.wr W22
  have f29 := A13.other W22 (Ne.symm ne10)
  have f30 := f19.other W22 (Or.inr (slot_ne (Or.inl (hw _ (List.mem_of_getElem? (i := 30) rfl))) (Or.inl (hw _ (List.mem_of_getElem? (i := 86) rfl))) (by decide) (t := .int) (t' := .int) (by decide) (by decide)))
  have f31 := f20.other W22 (Or.inr (slot_ne (Or.inl (hw _ (List.mem_of_getElem? (i := 33) rfl))) (Or.inl (hw _ (List.mem_of_getElem? (i := 86) rfl))) (by decide) (t := (.array (.object "java/lang/Object"))) (t' := .int) (by decide) (by decide)))
  have N22 := Fr.snoc X22 N13 Pa
  have Z22 := own_size_wr W22 Z13
  show own_Go _ _ _ _ (T22.setTop (mkF m 22 #[.val (.ref a1), .val (.ref x1), .val (.ref bb1), .val (.int (0 : Int32))] []))
  exact own_retV X22 hx Bd.notSynchronized e22 Bd.returns (hb hby d11_22) (⟨rfl, N22, f25, _, _, nk1, f29, ⟨f24, f31, f23, f30⟩⟩) (by decide) (by decide)
set_option maxRecDepth 65536 in
set_option maxHeartbeats 40000000 in
theorem rm11_r (l : Launch) (Z : State) (a0 : Array Value) (hw : ∀ d ∈ tables_1, d.before a0 Z = true) (ws : List Jvm.Cond) (a1 : Addr) (x1 : Addr) (ed : Addr) (sz : Int32) (mc : Int32) (fe : Nat → Value) (kx : Nat) (h0 : Heap) (n0 : Nat) (Z0 : n0 ≤ h0.size) (PL : own_AL Z h0 a1 ed sz mc) (PA : own_Ra Z h0 ed "java/lang/Object" 10 fe) (Pa : n0 ≤ a1) (Pe : n0 ≤ ed) (Pne : ed ≠ a1) (Pk : sz.toInt = (kx : Int)) (Pkn : kx < 10) (PX : Exa Z h0 x1 "java/util/ArrayList") :
    MetFree l (⟨"java/util/ArrayList", "add", "(Ljava/lang/Object;[Ljava/lang/Object;I)V"⟩ : MethodName) (head1 (Jvm.Cond.code (⟨"java/util/ArrayList", "add", "(Ljava/lang/Object;[Ljava/lang/Object;I)V"⟩ : MethodName) jdk_38_method_24_code 4 none :: ws) ({ frames := 3, cells := 0, slots := 0, locals := 48 } : Room)) (fun a U => a = #[(.ref a1), (.ref x1), (.ref ed), (.int sz)] ∧ Z.Warmed39 U.vm ∧ U.heap = h0) (fun _ _ _ _ _ => True) (fun _ U o U' => ∃ vv LL, o = .returned vv ∧ own_ap (fun v h L => v = none ∧ Fr n0 L ∧ Keep h0 h [a1, ed] ∧ ∃ (f2 : Nat → Value), own_Ra Z h ed "java/lang/Object" 10 f2 ∧ own_AL Z h a1 ed (sz + 1) mc) vv U'.heap LL ∧ FrameEnd U o U' LL 0 0) := by
  refine MetFree.of_bodySF (plainFor_of_name pn_11) hisR ?_
  intro p e s m args below meth c s₁ Bd hml0 hP hK
  obtain ⟨rfl, hZ, hh⟩ := hP
  have hx := Bd.exec
  have hby := Bd.bytes
  have hml : c.maxLocals = 4 := hml0
  have hown : s.vm.findClass "java/util/ArrayList" = some m.cls := findClass_of_methodNamed Bd.named
  have hnm := (name_of_methodNamed Bd.named Bd.method).1
  have X0 : Stand p l e ({ frames := 3, cells := 0, slots := 0, locals := 48 } : Room) s m #[(.ref a1), (.ref x1), (.ref ed), (.int sz)] below meth c s₁ [] 0 0 := Stand.of_body Bd
  have e0 : s₁.heap = h0 := by rw [← hh, Bd.state]; rfl
  have N0 := Fr.nil n0
  show own_Go p.tables e below (own_Q s (fun v h L => v = none ∧ Fr n0 L ∧ Keep h0 h [a1, ed] ∧ ∃ (f2 : Nat → Value), own_Ra Z h ed "java/lang/Object" 10 f2 ∧ own_AL Z h a1 ed (sz + 1) mc) 0 0) (s₁.setTop (entryFrame m #[(.ref a1), (.ref x1), (.ref ed), (.int sz)] 4))
  rw [show entryFrame m #[(.ref a1), (.ref x1), (.ref ed), (.int sz)] 4 = mkF m 0 #[.val (.ref a1), .val (.ref x1), .val (.ref ed), .val (.int sz)] [] from by first | (simp [entryFrame, mkF, argsToLocals, Value.category]; done) | rfl]
  obtain ⟨PE, PD, PZ, PM⟩ := PL
  show own_Go _ _ _ _ (s₁.setTop (mkF m 0 #[.val (.ref a1), .val (.ref x1), .val (.ref ed), .val (.int sz)] []))
  refine own_by (fun _ k => XS.iloadN X0.here hx rfl (hb hby d11_0) rfl k) ?_
  refine own_by (fun _ k => XS.aloadN X0.here hx rfl (hb hby d11_1) rfl rfl k) ?_
  show own_Go _ _ _ _ (s₁.setTop (mkF m 2 #[.val (.ref a1), .val (.ref x1), .val (.ref ed), .val (.int sz)] [(.ref ed), (.int sz)]))
  refine own_by (fun _ k => own_len X0 hx hZ e0 PA.ar (10 : Int32) (by decide) (hb hby d11_2) k) ?_
  show own_Go _ _ _ _ (s₁.setTop (mkF m 3 #[.val (.ref a1), .val (.ref x1), .val (.ref ed), .val (.int sz)] [(.int (10 : Int32)), (.int sz)]))
  refine own_by (fun _ k => XS.icmpYes X0.here hx rfl (pc0 := 3) (pc' := 11) rfl (hb hby d11_3) rfl (feq (fun q => by rw [q] at Pk; have l : (10 : Int32).toInt = 10 := (by decide); omega)).2 (by decide) (by decide) k) ?_
  refine own_by (fun _ k => XS.aloadN X0.here hx rfl (hb hby d11_11) rfl rfl k) ?_
  refine own_by (fun _ k => XS.iloadN X0.here hx rfl (hb hby d11_12) rfl k) ?_
  show own_Go _ _ _ _ (s₁.setTop (mkF m 13 #[.val (.ref a1), .val (.ref x1), .val (.ref ed), .val (.int sz)] [(.int sz), (.ref ed)]))
  refine own_by (fun _ k => XS.aloadN X0.here hx rfl (hb hby d11_13) rfl rfl k) ?_
  show own_Go _ _ _ _ (s₁.setTop (mkF m 14 #[.val (.ref a1), .val (.ref x1), .val (.ref ed), .val (.int sz)] [(.ref x1), (.int sz), (.ref ed)]))
  refine own_aas X0 hx hZ e0 PA (Ins.of_exa PX (hw _ (List.mem_of_getElem? (i := 108) rfl))) kx Pk Pkn (hb hby d11_14) ?_
  intro T1 h1 X1 e1 W1 A1
  have f2 := PE.wr W1
  have f3 := PM.other W1 (Or.inl (Ne.symm Pne))
  have f4 := PD.other W1 (Or.inl (Ne.symm Pne))
  have f5 := PZ.other W1 (Or.inl (Ne.symm Pne))
  have f6 := (Keep.refl h0 [a1, ed]).wr W1 (Or.inl (List.mem_of_getElem? (i := 1) rfl))
  have f7 := PX.wr W1
  have N1 := Fr.snoc X1 N0 Pe
  have Z1 := own_size_wr W1 Z0
  obtain ⟨fn1, hfn1⟩ : ∃ gf_ : Nat → Value, gf_ = own_upd fe kx (.ref x1) := ⟨_, rfl⟩
  rw [← hfn1] at A1
  show own_Go _ _ _ _ (T1.setTop (mkF m 15 #[.val (.ref a1), .val (.ref x1), .val (.ref ed), .val (.int sz)] []))
  refine own_by (fun _ k => XS.aloadN X1.here hx rfl (hb hby d11_15) rfl rfl k) ?_
  refine own_by (fun _ k => XS.iloadN X1.here hx rfl (hb hby d11_16) rfl k) ?_
  refine own_by (fun _ k => XS.iconst X1.here hx rfl (hb hby d11_17) k) ?_
  show own_Go _ _ _ _ (T1.setTop (mkF m 18 #[.val (.ref a1), .val (.ref x1), .val (.ref ed), .val (.int sz)] [(.int (1 : Int32)), (.int sz), (.ref a1)]))
  refine own_by (fun _ k => XS.iadd X1.here hx rfl (hb hby d11_18) rfl k) ?_
  show own_Go _ _ _ _ (T1.setTop (mkF m 19 #[.val (.ref a1), .val (.ref x1), .val (.ref ed), .val (.int sz)] [(.int (sz + (1 : Int32))), (.ref a1)]))
  obtain ⟨T8, h8, X8, e8, W8, st8⟩ := putF X1 hx hZ hown (host := "") (Or.inl (hw _ (List.mem_of_getElem? (i := 85) rfl))) Via.refl e1 f5 f2 (Or.inl (hw _ (List.mem_of_getElem? (i := 86) rfl))) (hw _ (List.mem_of_getElem? (i := 11) rfl)) (ty := .int) (by decide) rfl rfl (g := (mkF m 19 #[.val (.ref a1), .val (.ref x1), .val (.ref ed), .val (.int sz)] [(.int (sz + (1 : Int32))), (.ref a1)])) rfl rfl (hb hby d11_19)
  refine own_by st8 ?_
  have f9 := f5.same W8
  have f10 := f2.wr W8
  have f11 := f3.other W8 (Or.inr (slot_ne (Or.inl (hw _ (List.mem_of_getElem? (i := 30) rfl))) (Or.inl (hw _ (List.mem_of_getElem? (i := 86) rfl))) (by decide) (t := .int) (t' := .int) (by decide) (by decide)))
  have f12 := f4.other W8 (Or.inr (slot_ne (Or.inl (hw _ (List.mem_of_getElem? (i := 33) rfl))) (Or.inl (hw _ (List.mem_of_getElem? (i := 86) rfl))) (by decide) (t := (.array (.object "java/lang/Object"))) (t' := .int) (by decide) (by decide)))
  have f13 := f6.wr W8 (Or.inl (List.mem_of_getElem? (i := 0) rfl))
  have f14 := A1.other W8 Pne
  have f15 := f7.wr W8
  have N8 := Fr.snoc X8 N1 Pa
  have Z8 := own_size_wr W8 Z1
  show own_Go _ _ _ _ (T8.setTop (mkF m 22 #[.val (.ref a1), .val (.ref x1), .val (.ref ed), .val (.int sz)] []))
  exact own_retV X8 hx Bd.notSynchronized e8 Bd.returns (hb hby d11_22) (⟨rfl, N8, f13, _, f14, ⟨f10, f12, f9, f11⟩⟩) (by decide) (by decide)
set_option maxRecDepth 65536 in
set_option maxHeartbeats 40000000 in
theorem rm10_e (l : Launch) (Z : State) (a0 : Array Value) (hw : ∀ d ∈ tables_1, d.before a0 Z = true) (ws : List Jvm.Cond) (a1 : Addr) (x1 : Addr) (dc : Addr) (mc : Int32) (fd : Nat → Value) (h0 : Heap) (n0 : Nat) (Z0 : n0 ≤ h0.size) (PL : own_AL Z h0 a1 dc 0 mc) (PC : own_Ar Z h0 dc (.object "java/lang/Object") 0 fd) (PS : Sta Z h0 "java/util/ArrayList" "DEFAULTCAPACITY_EMPTY_ELEMENTDATA" "[Ljava/lang/Object;" (.ref dc)) (Pa : n0 ≤ a1) (Pdc : dc < n0) (PX : Exa Z h0 x1 "java/util/ArrayList") :
    MetFree l (⟨"java/util/ArrayList", "add", "(Ljava/lang/Object;)Z"⟩ : MethodName) (head1 (Jvm.Cond.code (⟨"java/util/ArrayList", "add", "(Ljava/lang/Object;)Z"⟩ : MethodName) jdk_38_method_25_code 2 (some .boolean) :: ws) ({ frames := 4, cells := 1, slots := 10, locals := 64 } : Room)) (fun a U => a = #[(.ref a1), (.ref x1)] ∧ Z.Warmed39 U.vm ∧ U.heap = h0) (fun _ _ _ _ _ => True) (fun _ U o U' => ∃ vv LL, o = .returned vv ∧ own_ap (fun v h L => v = some (.int 1) ∧ Fr n0 L ∧ Keep h0 h [a1] ∧ ∃ (ed : Addr) (f2 : Nat → Value) (m2 : Int32), h0.size ≤ ed ∧ own_Ra Z h ed "java/lang/Object" 10 f2 ∧ own_AL Z h a1 ed 1 m2) vv U'.heap LL ∧ FrameEnd U o U' LL 1 10) := by
  refine MetFree.of_bodySF (plainFor_of_name pn_10) hisR ?_
  intro p e s m args below meth c s₁ Bd hml0 hP hK
  obtain ⟨rfl, hZ, hh⟩ := hP
  have hx := Bd.exec
  have hby := Bd.bytes
  have hml : c.maxLocals = 2 := hml0
  have hown : s.vm.findClass "java/util/ArrayList" = some m.cls := findClass_of_methodNamed Bd.named
  have hnm := (name_of_methodNamed Bd.named Bd.method).1
  have X0 : Stand p l e ({ frames := 4, cells := 1, slots := 10, locals := 64 } : Room) s m #[(.ref a1), (.ref x1)] below meth c s₁ [] 0 0 := Stand.of_body Bd
  have e0 : s₁.heap = h0 := by rw [← hh, Bd.state]; rfl
  have N0 := Fr.nil n0
  show own_Go p.tables e below (own_Q s (fun v h L => v = some (.int 1) ∧ Fr n0 L ∧ Keep h0 h [a1] ∧ ∃ (ed : Addr) (f2 : Nat → Value) (m2 : Int32), h0.size ≤ ed ∧ own_Ra Z h ed "java/lang/Object" 10 f2 ∧ own_AL Z h a1 ed 1 m2) 1 10) (s₁.setTop (entryFrame m #[(.ref a1), (.ref x1)] 2))
  rw [show entryFrame m #[(.ref a1), (.ref x1)] 2 = mkF m 0 #[.val (.ref a1), .val (.ref x1)] [] from by first | (simp [entryFrame, mkF, argsToLocals, Value.category]; done) | rfl]
  obtain ⟨PE, PD, PZ, PM⟩ := PL
  have Pne : dc ≠ a1 := Nat.ne_of_lt (Nat.lt_of_lt_of_le Pdc Pa)
  show own_Go _ _ _ _ (s₁.setTop (mkF m 0 #[.val (.ref a1), .val (.ref x1)] []))
  refine own_by (fun _ k => XS.aloadN X0.here hx rfl (hb hby d10_0) rfl rfl k) ?_
  show own_Go _ _ _ _ (s₁.setTop (mkF m 1 #[.val (.ref a1), .val (.ref x1)] [(.ref a1)]))
  refine own_by (fun _ k => XS.dup X0.here hx rfl (hb hby d10_1) rfl rfl k) ?_
  show own_Go _ _ _ _ (s₁.setTop (mkF m 2 #[.val (.ref a1), .val (.ref x1)] [(.ref a1), (.ref a1)]))
  obtain ⟨T1, X1, e1, st1⟩ := getF X0 hx hZ hown (host := "") (Or.inl (hw _ (List.mem_of_getElem? (i := 83) rfl))) (Via.of (hw _ (List.mem_of_getElem? (i := 84) rfl))) e0 PM (g := (mkF m 2 #[.val (.ref a1), .val (.ref x1)] [(.ref a1), (.ref a1)])) rfl rfl (hb hby d10_2)
  refine own_by st1 ?_
  refine own_by (fun _ k => XS.iconst X1.here hx rfl (hb hby d10_5) k) ?_
  show own_Go _ _ _ _ (T1.setTop (mkF m 6 #[.val (.ref a1), .val (.ref x1)] [(.int (1 : Int32)), (.int mc), (.ref a1)]))
  refine own_by (fun _ k => XS.iadd X1.here hx rfl (hb hby d10_6) rfl k) ?_
  show own_Go _ _ _ _ (T1.setTop (mkF m 7 #[.val (.ref a1), .val (.ref x1)] [(.int (mc + (1 : Int32))), (.ref a1)]))
  obtain ⟨T2, h2, X2, e2, W2, st2⟩ := putF X1 hx hZ hown (host := "") (Or.inl (hw _ (List.mem_of_getElem? (i := 83) rfl))) (Via.of (hw _ (List.mem_of_getElem? (i := 84) rfl))) e1 PM PE (Or.inl (hw _ (List.mem_of_getElem? (i := 30) rfl))) (hw _ (List.mem_of_getElem? (i := 11) rfl)) (ty := .int) (by decide) rfl rfl (g := (mkF m 7 #[.val (.ref a1), .val (.ref x1)] [(.int (mc + (1 : Int32))), (.ref a1)])) rfl rfl (hb hby d10_7)
  refine own_by st2 ?_
  have f3 := PM.same W2
  have f4 := PE.wr W2
  have f5 := PD.other W2 (Or.inr (slot_ne (Or.inl (hw _ (List.mem_of_getElem? (i := 33) rfl))) (Or.inl (hw _ (List.mem_of_getElem? (i := 30) rfl))) (by decide) (t := (.array (.object "java/lang/Object"))) (t' := .int) (by decide) (by decide)))
  have f6 := PZ.other W2 (Or.inr (slot_ne (Or.inl (hw _ (List.mem_of_getElem? (i := 86) rfl))) (Or.inl (hw _ (List.mem_of_getElem? (i := 30) rfl))) (by decide) (t := .int) (t' := .int) (by decide) (by decide)))
  have f7 := (Keep.refl h0 [a1]).wr W2 (Or.inl (List.mem_of_getElem? (i := 0) rfl))
  have f8 := PC.other W2 Pne
  have f9 := PS.wr W2
  have f10 := PX.wr W2
  have N2 := Fr.snoc X2 N0 Pa
  have Z2 := own_size_wr W2 Z0
  show own_Go _ _ _ _ (T2.setTop (mkF m 10 #[.val (.ref a1), .val (.ref x1)] []))
  refine own_by (fun _ k => XS.aloadN X2.here hx rfl (hb hby d10_10) rfl rfl k) ?_
  refine own_by (fun _ k => XS.aloadN X2.here hx rfl (hb hby d10_11) rfl rfl k) ?_
  refine own_by (fun _ k => XS.aloadN X2.here hx rfl (hb hby d10_12) rfl rfl k) ?_
  show own_Go _ _ _ _ (T2.setTop (mkF m 13 #[.val (.ref a1), .val (.ref x1)] [(.ref a1), (.ref x1), (.ref a1)]))
  obtain ⟨T11, X11, e11, st11⟩ := getF X2 hx hZ hown (host := "") (Or.inl (hw _ (List.mem_of_getElem? (i := 32) rfl))) Via.refl e2 f5 (g := (mkF m 13 #[.val (.ref a1), .val (.ref x1)] [(.ref a1), (.ref x1), (.ref a1)])) rfl rfl (hb hby d10_13)
  refine own_by st11 ?_
  refine own_by (fun _ k => XS.aloadN X11.here hx rfl (hb hby d10_16) rfl rfl k) ?_
  show own_Go _ _ _ _ (T11.setTop (mkF m 17 #[.val (.ref a1), .val (.ref x1)] [(.ref a1), (.ref dc), (.ref x1), (.ref a1)]))
  obtain ⟨T12, X12, e12, st12⟩ := getF X11 hx hZ hown (host := "") (Or.inl (hw _ (List.mem_of_getElem? (i := 85) rfl))) Via.refl e11 f6 (g := (mkF m 17 #[.val (.ref a1), .val (.ref x1)] [(.ref a1), (.ref dc), (.ref x1), (.ref a1)])) rfl rfl (hb hby d10_17)
  refine own_by st12 ?_
  show own_Go _ _ _ _ (T12.setTop (mkF m 20 #[.val (.ref a1), .val (.ref x1)] [(.int (0 : Int32)), (.ref dc), (.ref x1), (.ref a1)]))
  refine own_callP (y' := (⟨"java/util/ArrayList", "add", "(Ljava/lang/Object;[Ljava/lang/Object;I)V"⟩ : MethodName)) X12 hx hZ hown (hw _ (List.mem_of_getElem? (i := 87) rfl)) (hw _ (List.mem_of_getElem? (i := 88) rfl)) (hw _ (List.mem_of_getElem? (i := 89) rfl)) rfl (hw _ (List.mem_of_getElem? (i := 90) rfl)) (hw _ (List.mem_of_getElem? (i := 12) rfl)) (hw _ (List.mem_of_getElem? (i := 91) rfl)) (by decide) (rm11_e l Z a0 hw [] a1 x1 dc (mc + (1 : Int32)) fd h2 n0 Z2 ⟨f4, f5, f6, f3⟩ f8 f9 Pa Pdc f10) e12 a1 f4 (by rw [hml]; rfl) [(.ref x1), (.ref dc), (.int (0 : Int32))] [] rfl (lenOf own_pd7 rfl) rfl 0 (Nat.le_of_eq rfl) (by decide) (by decide) (Nat.le_of_ble_eq_true rfl) (Nat.le_of_ble_eq_true rfl) (hb hby d10_20) ?_
  intro T13 Lc13 v13 X13 hQ13
  obtain ⟨h13, e13⟩ : ∃ h, T13.heap = h := ⟨_, rfl⟩
  rw [e13] at hQ13
  obtain ⟨rfl, N13q, K13, ed13, fz13, nw13, AB13, PL13⟩ := hQ13
  have N13 := Fr.app N2 N13q
  have f14 := f4.keep K13
  have f18 := f7.trans K13 (allS (P := fun x => x ∈ [a1] ∨ h0.size ≤ x) (Or.inl (List.mem_of_getElem? (i := 0) rfl)) all0)
  have f19 := f8.keep K13 (ninS Pne nin0)
  have f20 := own_sta_keep f9 K13 (nsS f4.nostat ns0)
  have f21 := f10.keep K13
  have Z13 := Nat.le_trans Z2 K13.1
  show own_Go _ _ _ _ (T13.setTop (mkF m 23 #[.val (.ref a1), .val (.ref x1)] []))
  refine own_by (fun _ k => XS.iconst X13.here hx rfl (hb hby d10_23) k) ?_
  show own_Go _ _ _ _ (T13.setTop (mkF m 24 #[.val (.ref a1), .val (.ref x1)] [(.int (1 : Int32))]))
  exact own_retN X13 hx Bd.notSynchronized e13 Bd.returns (by simp) (hb hby d10_24) (⟨rfl, N13, f18, _, _, _, Nat.le_trans f7.1 nw13, AB13, PL13⟩) (by decide) (by decide)
set_option maxRecDepth 65536 in
set_option maxHeartbeats 40000000 in
theorem rm10_r (l : Launch) (Z : State) (a0 : Array Value) (hw : ∀ d ∈ tables_1, d.before a0 Z = true) (ws : List Jvm.Cond) (a1 : Addr) (x1 : Addr) (ed : Addr) (sz mc : Int32) (fe : Nat → Value) (kx : Nat) (h0 : Heap) (n0 : Nat) (Z0 : n0 ≤ h0.size) (PL : own_AL Z h0 a1 ed sz mc) (PA : own_Ra Z h0 ed "java/lang/Object" 10 fe) (Pa : n0 ≤ a1) (Pe : n0 ≤ ed) (Pne : ed ≠ a1) (Pk : sz.toInt = (kx : Int)) (Pkn : kx < 10) (PX : Exa Z h0 x1 "java/util/ArrayList") :
    MetFree l (⟨"java/util/ArrayList", "add", "(Ljava/lang/Object;)Z"⟩ : MethodName) (head1 (Jvm.Cond.code (⟨"java/util/ArrayList", "add", "(Ljava/lang/Object;)Z"⟩ : MethodName) jdk_38_method_25_code 2 (some .boolean) :: ws) ({ frames := 4, cells := 0, slots := 0, locals := 64 } : Room)) (fun a U => a = #[(.ref a1), (.ref x1)] ∧ Z.Warmed39 U.vm ∧ U.heap = h0) (fun _ _ _ _ _ => True) (fun _ U o U' => ∃ vv LL, o = .returned vv ∧ own_ap (fun v h L => v = some (.int 1) ∧ Fr n0 L ∧ Keep h0 h [a1, ed] ∧ ∃ (f2 : Nat → Value) (m2 : Int32), own_Ra Z h ed "java/lang/Object" 10 f2 ∧ own_AL Z h a1 ed (sz + 1) m2) vv U'.heap LL ∧ FrameEnd U o U' LL 0 0) := by
  refine MetFree.of_bodySF (plainFor_of_name pn_10) hisR ?_
  intro p e s m args below meth c s₁ Bd hml0 hP hK
  obtain ⟨rfl, hZ, hh⟩ := hP
  have hx := Bd.exec
  have hby := Bd.bytes
  have hml : c.maxLocals = 2 := hml0
  have hown : s.vm.findClass "java/util/ArrayList" = some m.cls := findClass_of_methodNamed Bd.named
  have hnm := (name_of_methodNamed Bd.named Bd.method).1
  have X0 : Stand p l e ({ frames := 4, cells := 0, slots := 0, locals := 64 } : Room) s m #[(.ref a1), (.ref x1)] below meth c s₁ [] 0 0 := Stand.of_body Bd
  have e0 : s₁.heap = h0 := by rw [← hh, Bd.state]; rfl
  have N0 := Fr.nil n0
  show own_Go p.tables e below (own_Q s (fun v h L => v = some (.int 1) ∧ Fr n0 L ∧ Keep h0 h [a1, ed] ∧ ∃ (f2 : Nat → Value) (m2 : Int32), own_Ra Z h ed "java/lang/Object" 10 f2 ∧ own_AL Z h a1 ed (sz + 1) m2) 0 0) (s₁.setTop (entryFrame m #[(.ref a1), (.ref x1)] 2))
  rw [show entryFrame m #[(.ref a1), (.ref x1)] 2 = mkF m 0 #[.val (.ref a1), .val (.ref x1)] [] from by first | (simp [entryFrame, mkF, argsToLocals, Value.category]; done) | rfl]
  obtain ⟨PE, PD, PZ, PM⟩ := PL
  show own_Go _ _ _ _ (s₁.setTop (mkF m 0 #[.val (.ref a1), .val (.ref x1)] []))
  refine own_by (fun _ k => XS.aloadN X0.here hx rfl (hb hby d10_0) rfl rfl k) ?_
  show own_Go _ _ _ _ (s₁.setTop (mkF m 1 #[.val (.ref a1), .val (.ref x1)] [(.ref a1)]))
  refine own_by (fun _ k => XS.dup X0.here hx rfl (hb hby d10_1) rfl rfl k) ?_
  show own_Go _ _ _ _ (s₁.setTop (mkF m 2 #[.val (.ref a1), .val (.ref x1)] [(.ref a1), (.ref a1)]))
  obtain ⟨T1, X1, e1, st1⟩ := getF X0 hx hZ hown (host := "") (Or.inl (hw _ (List.mem_of_getElem? (i := 83) rfl))) (Via.of (hw _ (List.mem_of_getElem? (i := 84) rfl))) e0 PM (g := (mkF m 2 #[.val (.ref a1), .val (.ref x1)] [(.ref a1), (.ref a1)])) rfl rfl (hb hby d10_2)
  refine own_by st1 ?_
  refine own_by (fun _ k => XS.iconst X1.here hx rfl (hb hby d10_5) k) ?_
  show own_Go _ _ _ _ (T1.setTop (mkF m 6 #[.val (.ref a1), .val (.ref x1)] [(.int (1 : Int32)), (.int mc), (.ref a1)]))
  refine own_by (fun _ k => XS.iadd X1.here hx rfl (hb hby d10_6) rfl k) ?_
  show own_Go _ _ _ _ (T1.setTop (mkF m 7 #[.val (.ref a1), .val (.ref x1)] [(.int (mc + (1 : Int32))), (.ref a1)]))
  obtain ⟨T2, h2, X2, e2, W2, st2⟩ := putF X1 hx hZ hown (host := "") (Or.inl (hw _ (List.mem_of_getElem? (i := 83) rfl))) (Via.of (hw _ (List.mem_of_getElem? (i := 84) rfl))) e1 PM PE (Or.inl (hw _ (List.mem_of_getElem? (i := 30) rfl))) (hw _ (List.mem_of_getElem? (i := 11) rfl)) (ty := .int) (by decide) rfl rfl (g := (mkF m 7 #[.val (.ref a1), .val (.ref x1)] [(.int (mc + (1 : Int32))), (.ref a1)])) rfl rfl (hb hby d10_7)
  refine own_by st2 ?_
  have f3 := PM.same W2
  have f4 := PE.wr W2
  have f5 := PD.other W2 (Or.inr (slot_ne (Or.inl (hw _ (List.mem_of_getElem? (i := 33) rfl))) (Or.inl (hw _ (List.mem_of_getElem? (i := 30) rfl))) (by decide) (t := (.array (.object "java/lang/Object"))) (t' := .int) (by decide) (by decide)))
  have f6 := PZ.other W2 (Or.inr (slot_ne (Or.inl (hw _ (List.mem_of_getElem? (i := 86) rfl))) (Or.inl (hw _ (List.mem_of_getElem? (i := 30) rfl))) (by decide) (t := .int) (t' := .int) (by decide) (by decide)))
  have f7 := (Keep.refl h0 [a1, ed]).wr W2 (Or.inl (List.mem_of_getElem? (i := 0) rfl))
  have f8 := PA.other W2 Pne
  have f9 := PX.wr W2
  have N2 := Fr.snoc X2 N0 Pa
  have Z2 := own_size_wr W2 Z0
  show own_Go _ _ _ _ (T2.setTop (mkF m 10 #[.val (.ref a1), .val (.ref x1)] []))
  refine own_by (fun _ k => XS.aloadN X2.here hx rfl (hb hby d10_10) rfl rfl k) ?_
  refine own_by (fun _ k => XS.aloadN X2.here hx rfl (hb hby d10_11) rfl rfl k) ?_
  refine own_by (fun _ k => XS.aloadN X2.here hx rfl (hb hby d10_12) rfl rfl k) ?_
  show own_Go _ _ _ _ (T2.setTop (mkF m 13 #[.val (.ref a1), .val (.ref x1)] [(.ref a1), (.ref x1), (.ref a1)]))
  obtain ⟨T10, X10, e10, st10⟩ := getF X2 hx hZ hown (host := "") (Or.inl (hw _ (List.mem_of_getElem? (i := 32) rfl))) Via.refl e2 f5 (g := (mkF m 13 #[.val (.ref a1), .val (.ref x1)] [(.ref a1), (.ref x1), (.ref a1)])) rfl rfl (hb hby d10_13)
  refine own_by st10 ?_
  refine own_by (fun _ k => XS.aloadN X10.here hx rfl (hb hby d10_16) rfl rfl k) ?_
  show own_Go _ _ _ _ (T10.setTop (mkF m 17 #[.val (.ref a1), .val (.ref x1)] [(.ref a1), (.ref ed), (.ref x1), (.ref a1)]))
  obtain ⟨T11, X11, e11, st11⟩ := getF X10 hx hZ hown (host := "") (Or.inl (hw _ (List.mem_of_getElem? (i := 85) rfl))) Via.refl e10 f6 (g := (mkF m 17 #[.val (.ref a1), .val (.ref x1)] [(.ref a1), (.ref ed), (.ref x1), (.ref a1)])) rfl rfl (hb hby d10_17)
  refine own_by st11 ?_
  show own_Go _ _ _ _ (T11.setTop (mkF m 20 #[.val (.ref a1), .val (.ref x1)] [(.int sz), (.ref ed), (.ref x1), (.ref a1)]))
  refine own_callP (y' := (⟨"java/util/ArrayList", "add", "(Ljava/lang/Object;[Ljava/lang/Object;I)V"⟩ : MethodName)) X11 hx hZ hown (hw _ (List.mem_of_getElem? (i := 87) rfl)) (hw _ (List.mem_of_getElem? (i := 88) rfl)) (hw _ (List.mem_of_getElem? (i := 89) rfl)) rfl (hw _ (List.mem_of_getElem? (i := 90) rfl)) (hw _ (List.mem_of_getElem? (i := 12) rfl)) (hw _ (List.mem_of_getElem? (i := 91) rfl)) (by decide) (rm11_r l Z a0 hw [] a1 x1 ed sz (mc + (1 : Int32)) fe kx h2 n0 Z2 ⟨f4, f5, f6, f3⟩ f8 Pa Pe Pne Pk Pkn f9) e11 a1 f4 (by rw [hml]; rfl) [(.ref x1), (.ref ed), (.int sz)] [] rfl (lenOf own_pd7 rfl) rfl 0 (Nat.le_of_eq rfl) (by decide) (by decide) (Nat.le_of_ble_eq_true rfl) (Nat.le_of_ble_eq_true rfl) (hb hby d10_20) ?_
  intro T12 Lc12 v12 X12 hQ12
  obtain ⟨h12, e12⟩ : ∃ h, T12.heap = h := ⟨_, rfl⟩
  rw [e12] at hQ12
  obtain ⟨rfl, N12q, K12, fz12, AB12, PL12⟩ := hQ12
  have N12 := Fr.app N2 N12q
  have f13 := f4.keep K12
  have f17 := f7.trans K12 (allS (P := fun x => x ∈ [a1, ed] ∨ h0.size ≤ x) (Or.inl (List.mem_of_getElem? (i := 0) rfl)) (allS (P := fun x => x ∈ [a1, ed] ∨ h0.size ≤ x) (Or.inl (List.mem_of_getElem? (i := 1) rfl)) all0))
  have f19 := f9.keep K12
  have Z12 := Nat.le_trans Z2 K12.1
  show own_Go _ _ _ _ (T12.setTop (mkF m 23 #[.val (.ref a1), .val (.ref x1)] []))
  refine own_by (fun _ k => XS.iconst X12.here hx rfl (hb hby d10_23) k) ?_
  show own_Go _ _ _ _ (T12.setTop (mkF m 24 #[.val (.ref a1), .val (.ref x1)] [(.int (1 : Int32))]))
  exact own_retN X12 hx Bd.notSynchronized e12 Bd.returns (by simp) (hb hby d10_24) (⟨rfl, N12, f17, _, _, AB12, PL12⟩) (by decide) (by decide)
def own_dj (A B : List Addr) : Prop := ∀ x ∈ A, ∀ y ∈ B, x ≠ y
def own_IN (Z : State) (h0 h : Heap) (n0 : Nat) (au : Addr) (N : Nat) : Prop := ∃ (an ho no nw nd de dw dd : Addr) (fa : Nat → Value), Exa Z h au "com/example/sonde/sonde/engine/AnswerSets" ∧ Fld Z h au "com/example/sonde/sonde/engine/AnswerSets" "answering" "[Lcom/example/sonde/sonde/engine/Bits;" (.ref an) ∧ Fld Z h au "com/example/sonde/sonde/engine/AnswerSets" "holding" "[Lcom/example/sonde/sonde/engine/Bits;" (.ref ho) ∧ Fld Z h au "com/example/sonde/sonde/engine/AnswerSets" "none" "Lcom/example/sonde/sonde/engine/Bits;" (.ref no) ∧ Fld Z h au "com/example/sonde/sonde/engine/AnswerSets" "deep" "Lcom/example/sonde/sonde/engine/Bits;" (.ref de) ∧
  own_Ra Z h an "com/example/sonde/sonde/engine/Bits" N fa ∧ own_Ra Z h ho "com/example/sonde/sonde/engine/Bits" (N * N) (fun _ => .null) ∧ own_B Z h n0 no nw nd (fun _ => false) ∧ own_B Z h n0 de dw dd (fun _ => false) ∧ (∀ x ∈ [an, ho, no, nw, nd, de, dw, dd], h0.size ≤ x) ∧ own_dj [no, nw, nd] [de, dw, dd, ho] ∧ own_dj [de, dw, dd] [ho] ∧ own_dj [an] [ho, de, dw, dd]
set_option maxRecDepth 65536 in
set_option maxHeartbeats 40000000 in
theorem rm1_1 (l : Launch) (Z : State) (a0 : Array Value) (hw : ∀ d ∈ tables_1, d.before a0 Z = true) (ws : List Jvm.Cond) (au : Addr) (dc sa : Addr) (cK : ClassId) (fd : Nat → Value) (h0 : Heap) (n0 : Nat) (Z0 : n0 ≤ h0.size) (PEu : Exa Z h0 au "com/example/sonde/sonde/engine/AnswerSets") (PF0 : Fld Z h0 au "com/example/sonde/sonde/engine/AnswerSets" "drawing" "Ljava/util/List;" .null) (PF1 : Fld Z h0 au "com/example/sonde/sonde/engine/AnswerSets" "deep" "Lcom/example/sonde/sonde/engine/Bits;" .null) (PF2 : Fld Z h0 au "com/example/sonde/sonde/engine/AnswerSets" "none" "Lcom/example/sonde/sonde/engine/Bits;" .null) (PF3 : Fld Z h0 au "com/example/sonde/sonde/engine/AnswerSets" "answering" "[Lcom/example/sonde/sonde/engine/Bits;" .null) (PF4 : Fld Z h0 au "com/example/sonde/sonde/engine/AnswerSets" "holding" "[Lcom/example/sonde/sonde/engine/Bits;" .null) (Pau : n0 ≤ au) (PC : own_Ar Z h0 dc (.object "java/lang/Object") 0 fd) (PS : Sta Z h0 "java/util/ArrayList" "DEFAULTCAPACITY_EMPTY_ELEMENTDATA" "[Ljava/lang/Object;" (.ref dc)) (Pdc : dc < n0) (PFn : own_Fn h0 sa cK) (PSt : own_Site Z (⟨"com/example/sonde/sonde/engine/AnswerSets", "<init>", "(I)V"⟩ : MethodName) 49 own_sg sa cK) :
    MetFree l (⟨"com/example/sonde/sonde/engine/AnswerSets", "<init>", "(I)V"⟩ : MethodName) (head1 (Jvm.Cond.code (⟨"com/example/sonde/sonde/engine/AnswerSets", "<init>", "(I)V"⟩ : MethodName) prog_86_method_1_code 3 none :: ws) ({ frames := 5, cells := 26, slots := 80, locals := 3120 } : Room)) (fun a U => a = #[(.ref au), (.int (1 : Int32))] ∧ Z.Warmed39 U.vm ∧ U.heap = h0 ∧ Z.WarmedH U.vm) (fun _ _ _ _ _ => True) (fun _ U o U' => ∃ vv LL, o = .returned vv ∧ own_ap (fun v h L => v = none ∧ Fr n0 L ∧ Keep h0 h [au] ∧ own_IN Z h0 h n0 au 1) vv U'.heap LL ∧ FrameEnd U o U' LL 26 80) := by
  refine MetFree.of_bodySF (plainFor_of_name pn_1) hisR ?_
  intro p e s m args below meth c s₁ Bd hml0 hP hK
  obtain ⟨rfl, hZ, hh, hH⟩ := hP
  have hx := Bd.exec
  have hby := Bd.bytes
  have hml : c.maxLocals = 3 := hml0
  have hown : s.vm.findClass "com/example/sonde/sonde/engine/AnswerSets" = some m.cls := findClass_of_methodNamed Bd.named
  have hnm := (name_of_methodNamed Bd.named Bd.method).1
  have X0 : Stand p l e ({ frames := 5, cells := 26, slots := 80, locals := 3120 } : Room) s m #[(.ref au), (.int (1 : Int32))] below meth c s₁ [] 0 0 := Stand.of_body Bd
  have e0 : s₁.heap = h0 := by rw [← hh, Bd.state]; rfl
  have N0 := Fr.nil n0
  show own_Go p.tables e below (own_Q s (fun v h L => v = none ∧ Fr n0 L ∧ Keep h0 h [au] ∧ own_IN Z h0 h n0 au 1) 26 80) (s₁.setTop (entryFrame m #[(.ref au), (.int (1 : Int32))] 3))
  rw [show entryFrame m #[(.ref au), (.int (1 : Int32))] 3 = mkF m 0 #[.val (.ref au), .val (.int (1 : Int32)), .unset] [] from by first | (simp [entryFrame, mkF, argsToLocals, Value.category]; done) | rfl]
  have Pnd : dc ≠ au := Nat.ne_of_lt (Nat.lt_of_lt_of_le Pdc Pau)
  show own_Go _ _ _ _ (s₁.setTop (mkF m 0 #[.val (.ref au), .val (.int (1 : Int32)), .unset] []))
  refine own_by (fun _ k => XS.aloadN X0.here hx rfl (hb hby d1_0) rfl rfl k) ?_
  show own_Go _ _ _ _ (s₁.setTop (mkF m 1 #[.val (.ref au), .val (.int (1 : Int32)), .unset] [(.ref au)]))
  obtain ⟨T1, X1, e1, st1⟩ := initO X0 hx hZ hown (hw _ (List.mem_of_getElem? (i := 7) rfl)) (hw _ (List.mem_of_getElem? (i := 8) rfl)) (hw _ (List.mem_of_getElem? (i := 9) rfl)) e0 (g := (mkF m 1 #[.val (.ref au), .val (.int (1 : Int32)), .unset] [(.ref au)])) rfl (by rw [hml]; rfl) rfl (hb hby d1_1) (by decide) (W := 0) (by show 2 * 0 + _ ≤ _; exact Nat.le_of_eq rfl) (by decide)
  refine own_by st1 ?_
  refine own_by (fun _ k => XS.aloadN X1.here hx rfl (hb hby d1_4) rfl rfl k) ?_
  show own_Go _ _ _ _ (T1.setTop (mkF m 5 #[.val (.ref au), .val (.int (1 : Int32)), .unset] [(.ref au)]))
  obtain ⟨T2, h2, X2, e2, E2, A2, D2, -, st2⟩ := newO X1 hx hZ hown (hw _ (List.mem_of_getElem? (i := 10) rfl)) (hw _ (List.mem_of_getElem? (i := 11) rfl)) (hw _ (List.mem_of_getElem? (i := 12) rfl)) e1 (g := (mkF m 5 #[.val (.ref au), .val (.int (1 : Int32)), .unset] [(.ref au)])) rfl (hb hby d1_5) (by decide) (by decide)
  refine own_by st2 ?_
  show own_Go _ _ _ _ (T2.setTop (mkF m 8 #[.val (.ref au), .val (.int (1 : Int32)), .unset] [.ref h0.size, (.ref au)]))
  obtain ⟨b2, g2⟩ : ∃ z, z = h0.size := ⟨_, rfl⟩
  rw [← g2] at A2 D2
  refine own_gen g2.symm (fun z_ => T2.setTop (mkF m 8 #[.val (.ref au), .val (.int (1 : Int32)), .unset] [.ref z_, (.ref au)])) ?_
  have ne3 : au ≠ b2 := Nat.ne_of_lt (Nat.lt_of_lt_of_le PF4.lt (Nat.le_of_eq g2.symm))
  have ne4 : dc ≠ b2 := Nat.ne_of_lt (Nat.lt_of_lt_of_le PC.lt (Nat.le_of_eq g2.symm))
  have ne5 : sa ≠ b2 := Nat.ne_of_lt (Nat.lt_of_lt_of_le PFn.lt (Nat.le_of_eq g2.symm))
  have ge2 : n0 ≤ b2 := Nat.le_trans Z0 (Nat.le_of_eq g2.symm)
  have nw2 : h0.size ≤ b2 := Nat.le_trans (Keep.refl h0 [au]).1 (Nat.le_of_eq g2.symm)
  have f6 := PEu.ext E2
  have f7 := (Keep.refl h0 [au]).ext E2
  have f8 := PC.ext E2
  have f9 := PS.ext E2
  have f10 := PFn.ext E2
  have f11 := PF0.ext E2
  have f12 := PF1.ext E2
  have f13 := PF2.ext E2
  have f14 := PF3.ext E2
  have f15 := PF4.ext E2
  have Z2 := Nat.le_trans Z0 E2.1
  have f16 : Fld Z h2 b2 "java/util/AbstractList" "modCount" "I" (.int (0 : Int32)) := D2 (Or.inl (hw _ (List.mem_of_getElem? (i := 30) rfl))) (ty := .int) (by decide)
  have f17 : Fld Z h2 b2 "java/util/ArrayList" "elementData" "[Ljava/lang/Object;" .null := D2 (Or.inl (hw _ (List.mem_of_getElem? (i := 33) rfl))) (ty := (.array (.object "java/lang/Object"))) (by decide)
  have f18 : Fld Z h2 b2 "java/util/ArrayList" "size" "I" (.int (0 : Int32)) := D2 (Or.inl (hw _ (List.mem_of_getElem? (i := 86) rfl))) (ty := .int) (by decide)
  show own_Go _ _ _ _ (T2.setTop (mkF m 8 #[.val (.ref au), .val (.int (1 : Int32)), .unset] [(.ref b2), (.ref au)]))
  refine own_by (fun _ k => XS.dup X2.here hx rfl (hb hby d1_8) rfl rfl k) ?_
  show own_Go _ _ _ _ (T2.setTop (mkF m 9 #[.val (.ref au), .val (.int (1 : Int32)), .unset] [(.ref b2), (.ref b2), (.ref au)]))
  refine own_callI X2 hx hZ hown rfl (hw _ (List.mem_of_getElem? (i := 13) rfl)) (hw _ (List.mem_of_getElem? (i := 14) rfl)) (hw _ (List.mem_of_getElem? (i := 12) rfl)) (hw _ (List.mem_of_getElem? (i := 15) rfl)) (by decide) (rm3 l Z a0 hw [] b2 dc h2 n0 Z2 A2 f16 f17 f18 ge2 f9) e2 (by rw [hml]; rfl) b2 [] [(.ref b2), (.ref au)] rfl (lenOf own_pd2 rfl) rfl 2 (Nat.le_of_eq rfl) (by decide) (by decide) (Nat.le_of_ble_eq_true rfl) (Nat.le_of_ble_eq_true rfl) (hb hby d1_9) ?_
  intro T19 Lc19 v19 X19 hQ19
  obtain ⟨h19, e19⟩ : ∃ h, T19.heap = h := ⟨_, rfl⟩
  rw [e19] at hQ19
  obtain ⟨rfl, N19q, K19, PL19⟩ := hQ19
  have N19 := Fr.app N0 N19q
  have f20 := f6.keep K19
  have f21 := f7.trans K19 (allS (P := fun x => x ∈ [au] ∨ h0.size ≤ x) (Or.inr nw2) all0)
  have f22 := f8.keep K19 (ninS ne4 nin0)
  have f23 := own_sta_keep f9 K19 (nsS A2.nostat ns0)
  have f24 := f10.keep K19
  have f25 := f11.keep K19 (ninS ne3 nin0)
  have f26 := f12.keep K19 (ninS ne3 nin0)
  have f27 := f13.keep K19 (ninS ne3 nin0)
  have f28 := f14.keep K19 (ninS ne3 nin0)
  have f29 := f15.keep K19 (ninS ne3 nin0)
  have f30 := A2.keep K19
  have Z19 := Nat.le_trans Z2 K19.1
  obtain ⟨-, FE19, FS19, FM19⟩ := PL19
  show own_Go _ _ _ _ (T19.setTop (mkF m 12 #[.val (.ref au), .val (.int (1 : Int32)), .unset] [(.ref b2), (.ref au)]))
  obtain ⟨T34, h34, X34, e34, W34, st34⟩ := putF X19 hx hZ hown (host := "") (Or.inl (hw _ (List.mem_of_getElem? (i := 34) rfl))) Via.refl e19 f25 f20 (Or.inr ⟨(hw _ (List.mem_of_getElem? (i := 35) rfl)), rfl, hnm⟩) (hw _ (List.mem_of_getElem? (i := 2) rfl)) (ty := (.object "java/util/List")) (by decide) rfl rfl (g := (mkF m 12 #[.val (.ref au), .val (.int (1 : Int32)), .unset] [(.ref b2), (.ref au)])) rfl rfl (hb hby d1_12)
  refine own_by st34 ?_
  have f35 := f25.same W34
  have f36 := f20.wr W34
  have f37 := f21.wr W34 (Or.inl (List.mem_of_getElem? (i := 0) rfl))
  have f38 := f22.other W34 Pnd
  have f39 := f23.wr W34
  have f40 := f24.wr W34
  have f41 := f26.other W34 (Or.inr (slot_ne (Or.inr (hw _ (List.mem_of_getElem? (i := 49) rfl))) (Or.inr (hw _ (List.mem_of_getElem? (i := 35) rfl))) (by decide) (t := (.object "com/example/sonde/sonde/engine/Bits")) (t' := (.object "java/util/List")) (by decide) (by decide)))
  have f42 := f27.other W34 (Or.inr (slot_ne (Or.inr (hw _ (List.mem_of_getElem? (i := 51) rfl))) (Or.inr (hw _ (List.mem_of_getElem? (i := 35) rfl))) (by decide) (t := (.object "com/example/sonde/sonde/engine/Bits")) (t' := (.object "java/util/List")) (by decide) (by decide)))
  have f43 := f28.other W34 (Or.inr (slot_ne (Or.inr (hw _ (List.mem_of_getElem? (i := 54) rfl))) (Or.inr (hw _ (List.mem_of_getElem? (i := 35) rfl))) (by decide) (t := (.array (.object "com/example/sonde/sonde/engine/Bits"))) (t' := (.object "java/util/List")) (by decide) (by decide)))
  have f44 := f29.other W34 (Or.inr (slot_ne (Or.inr (hw _ (List.mem_of_getElem? (i := 73) rfl))) (Or.inr (hw _ (List.mem_of_getElem? (i := 35) rfl))) (by decide) (t := (.array (.object "com/example/sonde/sonde/engine/Bits"))) (t' := (.object "java/util/List")) (by decide) (by decide)))
  have f45 := f30.wr W34
  have f46 := FM19.other W34 (Or.inl (Ne.symm ne3))
  have f47 := FE19.other W34 (Or.inl (Ne.symm ne3))
  have f48 := FS19.other W34 (Or.inl (Ne.symm ne3))
  have N34 := Fr.snoc X34 N19 Pau
  have Z34 := own_size_wr W34 Z19
  show own_Go _ _ _ _ (T34.setTop (mkF m 15 #[.val (.ref au), .val (.int (1 : Int32)), .unset] []))
  refine own_by (fun _ k => XS.aloadN X34.here hx rfl (hb hby d1_15) rfl rfl k) ?_
  show own_Go _ _ _ _ (T34.setTop (mkF m 16 #[.val (.ref au), .val (.int (1 : Int32)), .unset] [(.ref au)]))
  obtain ⟨T49, h49, X49, e49, E49, A49, D49, -, st49⟩ := newO X34 hx hZ hown (hw _ (List.mem_of_getElem? (i := 36) rfl)) (hw _ (List.mem_of_getElem? (i := 37) rfl)) (hw _ (List.mem_of_getElem? (i := 38) rfl)) e34 (g := (mkF m 16 #[.val (.ref au), .val (.int (1 : Int32)), .unset] [(.ref au)])) rfl (hb hby d1_16) (by decide) (by decide)
  refine own_by st49 ?_
  show own_Go _ _ _ _ (T49.setTop (mkF m 19 #[.val (.ref au), .val (.int (1 : Int32)), .unset] [.ref h34.size, (.ref au)]))
  obtain ⟨b49, g49⟩ : ∃ z, z = h34.size := ⟨_, rfl⟩
  rw [← g49] at A49 D49
  refine own_gen g49.symm (fun z_ => T49.setTop (mkF m 19 #[.val (.ref au), .val (.int (1 : Int32)), .unset] [.ref z_, (.ref au)])) ?_
  have ne50 : au ≠ b49 := Nat.ne_of_lt (Nat.lt_of_lt_of_le f44.lt (Nat.le_of_eq g49.symm))
  have ne51 : dc ≠ b49 := Nat.ne_of_lt (Nat.lt_of_lt_of_le f38.lt (Nat.le_of_eq g49.symm))
  have ne52 : sa ≠ b49 := Nat.ne_of_lt (Nat.lt_of_lt_of_le f40.lt (Nat.le_of_eq g49.symm))
  have ne53 : b2 ≠ b49 := Nat.ne_of_lt (Nat.lt_of_lt_of_le f48.lt (Nat.le_of_eq g49.symm))
  have ge49 : n0 ≤ b49 := Nat.le_trans Z34 (Nat.le_of_eq g49.symm)
  have nw49 : h0.size ≤ b49 := Nat.le_trans f37.1 (Nat.le_of_eq g49.symm)
  have f54 := f36.ext E49
  have f55 := f37.ext E49
  have f56 := f38.ext E49
  have f57 := f39.ext E49
  have f58 := f40.ext E49
  have f59 := f35.ext E49
  have f60 := f41.ext E49
  have f61 := f42.ext E49
  have f62 := f43.ext E49
  have f63 := f44.ext E49
  have f64 := f45.ext E49
  have f65 := f46.ext E49
  have f66 := f47.ext E49
  have f67 := f48.ext E49
  have Z49 := Nat.le_trans Z34 E49.1
  have f68 : Fld Z h49 b49 "com/example/sonde/sonde/engine/Bits" "words" "[J" .null := D49 (Or.inl (hw _ (List.mem_of_getElem? (i := 45) rfl))) (ty := (.array .long)) (by decide)
  have f69 : Fld Z h49 b49 "com/example/sonde/sonde/engine/Bits" "held" "[J" .null := D49 (Or.inl (hw _ (List.mem_of_getElem? (i := 47) rfl))) (ty := (.array .long)) (by decide)
  show own_Go _ _ _ _ (T49.setTop (mkF m 19 #[.val (.ref au), .val (.int (1 : Int32)), .unset] [(.ref b49), (.ref au)]))
  refine own_by (fun _ k => XS.dup X49.here hx rfl (hb hby d1_19) rfl rfl k) ?_
  show own_Go _ _ _ _ (T49.setTop (mkF m 20 #[.val (.ref au), .val (.int (1 : Int32)), .unset] [(.ref b49), (.ref b49), (.ref au)]))
  refine own_callI X49 hx hZ hown rfl (hw _ (List.mem_of_getElem? (i := 39) rfl)) (hw _ (List.mem_of_getElem? (i := 40) rfl)) (hw _ (List.mem_of_getElem? (i := 38) rfl)) (hw _ (List.mem_of_getElem? (i := 41) rfl)) (by decide) (rm6 l Z a0 hw [] b49 h49 n0 Z49 A49 f68 f69 ge49) e49 (by rw [hml]; rfl) b49 [] [(.ref b49), (.ref au)] rfl (lenOf own_pd2 rfl) rfl 2 (Nat.le_of_eq rfl) (by decide) (by decide) (Nat.le_of_ble_eq_true rfl) (Nat.le_of_ble_eq_true rfl) (hb hby d1_20) ?_
  intro T70 Lc70 v70 X70 hQ70
  obtain ⟨h70, e70⟩ : ∃ h, T70.heap = h := ⟨_, rfl⟩
  rw [e70] at hQ70
  obtain ⟨rfl, N70q, K70, wz70, dz70, B70, nww70, nwd70⟩ := hQ70
  have N70 := Fr.app N34 N70q
  have f71 := f54.keep K70
  have f72 := f55.trans K70 (allS (P := fun x => x ∈ [au] ∨ h0.size ≤ x) (Or.inr nw49) all0)
  have f73 := f56.keep K70 (ninS ne51 nin0)
  have f74 := own_sta_keep f57 K70 (nsS A49.nostat ns0)
  have f75 := f58.keep K70
  have f76 := f59.keep K70 (ninS ne50 nin0)
  have f77 := f60.keep K70 (ninS ne50 nin0)
  have f78 := f61.keep K70 (ninS ne50 nin0)
  have f79 := f62.keep K70 (ninS ne50 nin0)
  have f80 := f63.keep K70 (ninS ne50 nin0)
  have f81 := f64.keep K70
  have f82 := f65.keep K70 (ninS ne53 nin0)
  have f83 := f66.keep K70 (ninS ne53 nin0)
  have f84 := f67.keep K70 (ninS ne53 nin0)
  have f85 := A49.keep K70
  have Z70 := Nat.le_trans Z49 K70.1
  have ne88 : au ≠ wz70 := Nat.ne_of_lt (Nat.lt_of_lt_of_le f63.lt nww70)
  have ne89 : dc ≠ wz70 := Nat.ne_of_lt (Nat.lt_of_lt_of_le f56.lt nww70)
  have ne90 : sa ≠ wz70 := Nat.ne_of_lt (Nat.lt_of_lt_of_le f58.lt nww70)
  have ne91 : b2 ≠ wz70 := Nat.ne_of_lt (Nat.lt_of_lt_of_le f67.lt nww70)
  have ne92 : b49 ≠ wz70 := Nat.ne_of_lt (Nat.lt_of_lt_of_le f69.lt nww70)
  have nk_wz70 : h0.size ≤ wz70 := Nat.le_trans f55.1 nww70
  have ne93 : au ≠ dz70 := Nat.ne_of_lt (Nat.lt_of_lt_of_le f63.lt nwd70)
  have ne94 : dc ≠ dz70 := Nat.ne_of_lt (Nat.lt_of_lt_of_le f56.lt nwd70)
  have ne95 : sa ≠ dz70 := Nat.ne_of_lt (Nat.lt_of_lt_of_le f58.lt nwd70)
  have ne96 : b2 ≠ dz70 := Nat.ne_of_lt (Nat.lt_of_lt_of_le f67.lt nwd70)
  have ne97 : b49 ≠ dz70 := Nat.ne_of_lt (Nat.lt_of_lt_of_le f69.lt nwd70)
  have nk_dz70 : h0.size ≤ dz70 := Nat.le_trans f55.1 nwd70
  have neb70 : b49 ≠ wz70 := by obtain ⟨-, -, -, _, _, _, _, -, -, -, -, -, -, q, -⟩ := B70; exact q
  show own_Go _ _ _ _ (T70.setTop (mkF m 23 #[.val (.ref au), .val (.int (1 : Int32)), .unset] [(.ref b49), (.ref au)]))
  obtain ⟨T98, h98, X98, e98, W98, st98⟩ := putF X70 hx hZ hown (host := "") (Or.inl (hw _ (List.mem_of_getElem? (i := 48) rfl))) Via.refl e70 f77 f71 (Or.inr ⟨(hw _ (List.mem_of_getElem? (i := 49) rfl)), rfl, hnm⟩) (hw _ (List.mem_of_getElem? (i := 2) rfl)) (ty := (.object "com/example/sonde/sonde/engine/Bits")) (by decide) rfl rfl (g := (mkF m 23 #[.val (.ref au), .val (.int (1 : Int32)), .unset] [(.ref b49), (.ref au)])) rfl rfl (hb hby d1_23)
  refine own_by st98 ?_
  have f99 := f77.same W98
  have f100 := f71.wr W98
  have f101 := f72.wr W98 (Or.inl (List.mem_of_getElem? (i := 0) rfl))
  have f102 := f73.other W98 Pnd
  have f103 := f74.wr W98
  have f104 := f75.wr W98
  have f105 := f76.other W98 (Or.inr (slot_ne (Or.inr (hw _ (List.mem_of_getElem? (i := 35) rfl))) (Or.inr (hw _ (List.mem_of_getElem? (i := 49) rfl))) (by decide) (t := (.object "java/util/List")) (t' := (.object "com/example/sonde/sonde/engine/Bits")) (by decide) (by decide)))
  have f106 := f78.other W98 (Or.inr (slot_ne (Or.inr (hw _ (List.mem_of_getElem? (i := 51) rfl))) (Or.inr (hw _ (List.mem_of_getElem? (i := 49) rfl))) (by decide) (t := (.object "com/example/sonde/sonde/engine/Bits")) (t' := (.object "com/example/sonde/sonde/engine/Bits")) (by decide) (by decide)))
  have f107 := f79.other W98 (Or.inr (slot_ne (Or.inr (hw _ (List.mem_of_getElem? (i := 54) rfl))) (Or.inr (hw _ (List.mem_of_getElem? (i := 49) rfl))) (by decide) (t := (.array (.object "com/example/sonde/sonde/engine/Bits"))) (t' := (.object "com/example/sonde/sonde/engine/Bits")) (by decide) (by decide)))
  have f108 := f80.other W98 (Or.inr (slot_ne (Or.inr (hw _ (List.mem_of_getElem? (i := 73) rfl))) (Or.inr (hw _ (List.mem_of_getElem? (i := 49) rfl))) (by decide) (t := (.array (.object "com/example/sonde/sonde/engine/Bits"))) (t' := (.object "com/example/sonde/sonde/engine/Bits")) (by decide) (by decide)))
  have f109 := f81.wr W98
  have f110 := f82.other W98 (Or.inl (Ne.symm ne3))
  have f111 := f83.other W98 (Or.inl (Ne.symm ne3))
  have f112 := f84.other W98 (Or.inl (Ne.symm ne3))
  have f113 := f85.wr W98
  have f114 := B70.other W98 (Ne.symm ne50) (Ne.symm ne88) (Ne.symm ne93)
  have N98 := Fr.snoc X98 N70 Pau
  have Z98 := own_size_wr W98 Z70
  show own_Go _ _ _ _ (T98.setTop (mkF m 26 #[.val (.ref au), .val (.int (1 : Int32)), .unset] []))
  refine own_by (fun _ k => XS.aloadN X98.here hx rfl (hb hby d1_26) rfl rfl k) ?_
  show own_Go _ _ _ _ (T98.setTop (mkF m 27 #[.val (.ref au), .val (.int (1 : Int32)), .unset] [(.ref au)]))
  obtain ⟨T115, h115, X115, e115, E115, A115, D115, -, st115⟩ := newO X98 hx hZ hown (hw _ (List.mem_of_getElem? (i := 36) rfl)) (hw _ (List.mem_of_getElem? (i := 37) rfl)) (hw _ (List.mem_of_getElem? (i := 38) rfl)) e98 (g := (mkF m 27 #[.val (.ref au), .val (.int (1 : Int32)), .unset] [(.ref au)])) rfl (hb hby d1_27) (by decide) (by decide)
  refine own_by st115 ?_
  show own_Go _ _ _ _ (T115.setTop (mkF m 30 #[.val (.ref au), .val (.int (1 : Int32)), .unset] [.ref h98.size, (.ref au)]))
  obtain ⟨b115, g115⟩ : ∃ z, z = h98.size := ⟨_, rfl⟩
  rw [← g115] at A115 D115
  refine own_gen g115.symm (fun z_ => T115.setTop (mkF m 30 #[.val (.ref au), .val (.int (1 : Int32)), .unset] [.ref z_, (.ref au)])) ?_
  have ne116 : au ≠ b115 := Nat.ne_of_lt (Nat.lt_of_lt_of_le f108.lt (Nat.le_of_eq g115.symm))
  have ne117 : dc ≠ b115 := Nat.ne_of_lt (Nat.lt_of_lt_of_le f102.lt (Nat.le_of_eq g115.symm))
  have ne118 : sa ≠ b115 := Nat.ne_of_lt (Nat.lt_of_lt_of_le f104.lt (Nat.le_of_eq g115.symm))
  have ne119 : b2 ≠ b115 := Nat.ne_of_lt (Nat.lt_of_lt_of_le f112.lt (Nat.le_of_eq g115.symm))
  have ne120 : b49 ≠ b115 := Nat.ne_of_lt (Nat.lt_of_lt_of_le f114.lb (Nat.le_of_eq g115.symm))
  have ne121 : wz70 ≠ b115 := Nat.ne_of_lt (Nat.lt_of_lt_of_le f114.lw (Nat.le_of_eq g115.symm))
  have ne122 : dz70 ≠ b115 := Nat.ne_of_lt (Nat.lt_of_lt_of_le f114.ld (Nat.le_of_eq g115.symm))
  have ge115 : n0 ≤ b115 := Nat.le_trans Z98 (Nat.le_of_eq g115.symm)
  have nw115 : h0.size ≤ b115 := Nat.le_trans f101.1 (Nat.le_of_eq g115.symm)
  have f123 := f100.ext E115
  have f124 := f101.ext E115
  have f125 := f102.ext E115
  have f126 := f103.ext E115
  have f127 := f104.ext E115
  have f128 := f105.ext E115
  have f129 := f99.ext E115
  have f130 := f106.ext E115
  have f131 := f107.ext E115
  have f132 := f108.ext E115
  have f133 := f109.ext E115
  have f134 := f110.ext E115
  have f135 := f111.ext E115
  have f136 := f112.ext E115
  have f137 := f113.ext E115
  have f138 := f114.ext E115
  have Z115 := Nat.le_trans Z98 E115.1
  have f139 : Fld Z h115 b115 "com/example/sonde/sonde/engine/Bits" "words" "[J" .null := D115 (Or.inl (hw _ (List.mem_of_getElem? (i := 45) rfl))) (ty := (.array .long)) (by decide)
  have f140 : Fld Z h115 b115 "com/example/sonde/sonde/engine/Bits" "held" "[J" .null := D115 (Or.inl (hw _ (List.mem_of_getElem? (i := 47) rfl))) (ty := (.array .long)) (by decide)
  show own_Go _ _ _ _ (T115.setTop (mkF m 30 #[.val (.ref au), .val (.int (1 : Int32)), .unset] [(.ref b115), (.ref au)]))
  refine own_by (fun _ k => XS.dup X115.here hx rfl (hb hby d1_30) rfl rfl k) ?_
  show own_Go _ _ _ _ (T115.setTop (mkF m 31 #[.val (.ref au), .val (.int (1 : Int32)), .unset] [(.ref b115), (.ref b115), (.ref au)]))
  refine own_callI X115 hx hZ hown rfl (hw _ (List.mem_of_getElem? (i := 39) rfl)) (hw _ (List.mem_of_getElem? (i := 40) rfl)) (hw _ (List.mem_of_getElem? (i := 38) rfl)) (hw _ (List.mem_of_getElem? (i := 41) rfl)) (by decide) (rm6 l Z a0 hw [] b115 h115 n0 Z115 A115 f139 f140 ge115) e115 (by rw [hml]; rfl) b115 [] [(.ref b115), (.ref au)] rfl (lenOf own_pd2 rfl) rfl 2 (Nat.le_of_eq rfl) (by decide) (by decide) (Nat.le_of_ble_eq_true rfl) (Nat.le_of_ble_eq_true rfl) (hb hby d1_31) ?_
  intro T141 Lc141 v141 X141 hQ141
  obtain ⟨h141, e141⟩ : ∃ h, T141.heap = h := ⟨_, rfl⟩
  rw [e141] at hQ141
  obtain ⟨rfl, N141q, K141, wz141, dz141, B141, nww141, nwd141⟩ := hQ141
  have N141 := Fr.app N98 N141q
  have f142 := f123.keep K141
  have f143 := f124.trans K141 (allS (P := fun x => x ∈ [au] ∨ h0.size ≤ x) (Or.inr nw115) all0)
  have f144 := f125.keep K141 (ninS ne117 nin0)
  have f145 := own_sta_keep f126 K141 (nsS A115.nostat ns0)
  have f146 := f127.keep K141
  have f147 := f128.keep K141 (ninS ne116 nin0)
  have f148 := f129.keep K141 (ninS ne116 nin0)
  have f149 := f130.keep K141 (ninS ne116 nin0)
  have f150 := f131.keep K141 (ninS ne116 nin0)
  have f151 := f132.keep K141 (ninS ne116 nin0)
  have f152 := f133.keep K141
  have f153 := f134.keep K141 (ninS ne119 nin0)
  have f154 := f135.keep K141 (ninS ne119 nin0)
  have f155 := f136.keep K141 (ninS ne119 nin0)
  have f156 := f137.keep K141
  have f157 := f138.keep K141 (ninS ne120 nin0) (ninS ne121 nin0) (ninS ne122 nin0)
  have f158 := A115.keep K141
  have Z141 := Nat.le_trans Z115 K141.1
  have ne161 : au ≠ wz141 := Nat.ne_of_lt (Nat.lt_of_lt_of_le f132.lt nww141)
  have ne162 : dc ≠ wz141 := Nat.ne_of_lt (Nat.lt_of_lt_of_le f125.lt nww141)
  have ne163 : sa ≠ wz141 := Nat.ne_of_lt (Nat.lt_of_lt_of_le f127.lt nww141)
  have ne164 : b2 ≠ wz141 := Nat.ne_of_lt (Nat.lt_of_lt_of_le f136.lt nww141)
  have ne165 : b49 ≠ wz141 := Nat.ne_of_lt (Nat.lt_of_lt_of_le f138.lb nww141)
  have ne166 : wz70 ≠ wz141 := Nat.ne_of_lt (Nat.lt_of_lt_of_le f138.lw nww141)
  have ne167 : dz70 ≠ wz141 := Nat.ne_of_lt (Nat.lt_of_lt_of_le f138.ld nww141)
  have ne168 : b115 ≠ wz141 := Nat.ne_of_lt (Nat.lt_of_lt_of_le f140.lt nww141)
  have nk_wz141 : h0.size ≤ wz141 := Nat.le_trans f124.1 nww141
  have ne169 : au ≠ dz141 := Nat.ne_of_lt (Nat.lt_of_lt_of_le f132.lt nwd141)
  have ne170 : dc ≠ dz141 := Nat.ne_of_lt (Nat.lt_of_lt_of_le f125.lt nwd141)
  have ne171 : sa ≠ dz141 := Nat.ne_of_lt (Nat.lt_of_lt_of_le f127.lt nwd141)
  have ne172 : b2 ≠ dz141 := Nat.ne_of_lt (Nat.lt_of_lt_of_le f136.lt nwd141)
  have ne173 : b49 ≠ dz141 := Nat.ne_of_lt (Nat.lt_of_lt_of_le f138.lb nwd141)
  have ne174 : wz70 ≠ dz141 := Nat.ne_of_lt (Nat.lt_of_lt_of_le f138.lw nwd141)
  have ne175 : dz70 ≠ dz141 := Nat.ne_of_lt (Nat.lt_of_lt_of_le f138.ld nwd141)
  have ne176 : b115 ≠ dz141 := Nat.ne_of_lt (Nat.lt_of_lt_of_le f140.lt nwd141)
  have nk_dz141 : h0.size ≤ dz141 := Nat.le_trans f124.1 nwd141
  have neb141 : b115 ≠ wz141 := by obtain ⟨-, -, -, _, _, _, _, -, -, -, -, -, -, q, -⟩ := B141; exact q
  show own_Go _ _ _ _ (T141.setTop (mkF m 34 #[.val (.ref au), .val (.int (1 : Int32)), .unset] [(.ref b115), (.ref au)]))
  obtain ⟨T177, h177, X177, e177, W177, st177⟩ := putF X141 hx hZ hown (host := "") (Or.inl (hw _ (List.mem_of_getElem? (i := 50) rfl))) Via.refl e141 f149 f142 (Or.inr ⟨(hw _ (List.mem_of_getElem? (i := 51) rfl)), rfl, hnm⟩) (hw _ (List.mem_of_getElem? (i := 2) rfl)) (ty := (.object "com/example/sonde/sonde/engine/Bits")) (by decide) rfl rfl (g := (mkF m 34 #[.val (.ref au), .val (.int (1 : Int32)), .unset] [(.ref b115), (.ref au)])) rfl rfl (hb hby d1_34)
  refine own_by st177 ?_
  have f178 := f149.same W177
  have f179 := f142.wr W177
  have f180 := f143.wr W177 (Or.inl (List.mem_of_getElem? (i := 0) rfl))
  have f181 := f144.other W177 Pnd
  have f182 := f145.wr W177
  have f183 := f146.wr W177
  have f184 := f147.other W177 (Or.inr (slot_ne (Or.inr (hw _ (List.mem_of_getElem? (i := 35) rfl))) (Or.inr (hw _ (List.mem_of_getElem? (i := 51) rfl))) (by decide) (t := (.object "java/util/List")) (t' := (.object "com/example/sonde/sonde/engine/Bits")) (by decide) (by decide)))
  have f185 := f148.other W177 (Or.inr (slot_ne (Or.inr (hw _ (List.mem_of_getElem? (i := 49) rfl))) (Or.inr (hw _ (List.mem_of_getElem? (i := 51) rfl))) (by decide) (t := (.object "com/example/sonde/sonde/engine/Bits")) (t' := (.object "com/example/sonde/sonde/engine/Bits")) (by decide) (by decide)))
  have f186 := f150.other W177 (Or.inr (slot_ne (Or.inr (hw _ (List.mem_of_getElem? (i := 54) rfl))) (Or.inr (hw _ (List.mem_of_getElem? (i := 51) rfl))) (by decide) (t := (.array (.object "com/example/sonde/sonde/engine/Bits"))) (t' := (.object "com/example/sonde/sonde/engine/Bits")) (by decide) (by decide)))
  have f187 := f151.other W177 (Or.inr (slot_ne (Or.inr (hw _ (List.mem_of_getElem? (i := 73) rfl))) (Or.inr (hw _ (List.mem_of_getElem? (i := 51) rfl))) (by decide) (t := (.array (.object "com/example/sonde/sonde/engine/Bits"))) (t' := (.object "com/example/sonde/sonde/engine/Bits")) (by decide) (by decide)))
  have f188 := f152.wr W177
  have f189 := f153.other W177 (Or.inl (Ne.symm ne3))
  have f190 := f154.other W177 (Or.inl (Ne.symm ne3))
  have f191 := f155.other W177 (Or.inl (Ne.symm ne3))
  have f192 := f156.wr W177
  have f193 := f157.other W177 (Ne.symm ne50) (Ne.symm ne88) (Ne.symm ne93)
  have f194 := f158.wr W177
  have f195 := B141.other W177 (Ne.symm ne116) (Ne.symm ne161) (Ne.symm ne169)
  have N177 := Fr.snoc X177 N141 Pau
  have Z177 := own_size_wr W177 Z141
  show own_Go _ _ _ _ (T177.setTop (mkF m 37 #[.val (.ref au), .val (.int (1 : Int32)), .unset] []))
  refine own_by (fun _ k => XS.aloadN X177.here hx rfl (hb hby d1_37) rfl rfl k) ?_
  refine own_by (fun _ k => XS.iloadN X177.here hx rfl (hb hby d1_38) rfl k) ?_
  show own_Go _ _ _ _ (T177.setTop (mkF m 39 #[.val (.ref au), .val (.int (1 : Int32)), .unset] [(.int (1 : Int32)), (.ref au)]))
  refine own_newR X177 hx hZ hown (hw _ (List.mem_of_getElem? (i := 36) rfl)) (hw _ (List.mem_of_getElem? (i := 52) rfl)) e177 1 (by decide) 1 (by decide) (by decide) (by decide) (by decide) (hb hby d1_39) ?_
  intro T196 h196 X196 e196 E196 A196
  show own_Go _ _ _ _ (T196.setTop (mkF m 42 #[.val (.ref au), .val (.int (1 : Int32)), .unset] [.ref h177.size, (.ref au)]))
  obtain ⟨b196, g196⟩ : ∃ z, z = h177.size := ⟨_, rfl⟩
  rw [← g196] at A196
  refine own_gen g196.symm (fun z_ => T196.setTop (mkF m 42 #[.val (.ref au), .val (.int (1 : Int32)), .unset] [.ref z_, (.ref au)])) ?_
  have ne197 : au ≠ b196 := Nat.ne_of_lt (Nat.lt_of_lt_of_le f187.lt (Nat.le_of_eq g196.symm))
  have ne198 : dc ≠ b196 := Nat.ne_of_lt (Nat.lt_of_lt_of_le f181.lt (Nat.le_of_eq g196.symm))
  have ne199 : sa ≠ b196 := Nat.ne_of_lt (Nat.lt_of_lt_of_le f183.lt (Nat.le_of_eq g196.symm))
  have ne200 : b2 ≠ b196 := Nat.ne_of_lt (Nat.lt_of_lt_of_le f191.lt (Nat.le_of_eq g196.symm))
  have ne201 : b49 ≠ b196 := Nat.ne_of_lt (Nat.lt_of_lt_of_le f193.lb (Nat.le_of_eq g196.symm))
  have ne202 : wz70 ≠ b196 := Nat.ne_of_lt (Nat.lt_of_lt_of_le f193.lw (Nat.le_of_eq g196.symm))
  have ne203 : dz70 ≠ b196 := Nat.ne_of_lt (Nat.lt_of_lt_of_le f193.ld (Nat.le_of_eq g196.symm))
  have ne204 : b115 ≠ b196 := Nat.ne_of_lt (Nat.lt_of_lt_of_le f195.lb (Nat.le_of_eq g196.symm))
  have ne205 : wz141 ≠ b196 := Nat.ne_of_lt (Nat.lt_of_lt_of_le f195.lw (Nat.le_of_eq g196.symm))
  have ne206 : dz141 ≠ b196 := Nat.ne_of_lt (Nat.lt_of_lt_of_le f195.ld (Nat.le_of_eq g196.symm))
  have ge196 : n0 ≤ b196 := Nat.le_trans Z177 (Nat.le_of_eq g196.symm)
  have nw196 : h0.size ≤ b196 := Nat.le_trans f180.1 (Nat.le_of_eq g196.symm)
  have f207 := f179.ext E196
  have f208 := f180.ext E196
  have f209 := f181.ext E196
  have f210 := f182.ext E196
  have f211 := f183.ext E196
  have f212 := f184.ext E196
  have f213 := f185.ext E196
  have f214 := f178.ext E196
  have f215 := f186.ext E196
  have f216 := f187.ext E196
  have f217 := f188.ext E196
  have f218 := f189.ext E196
  have f219 := f190.ext E196
  have f220 := f191.ext E196
  have f221 := f192.ext E196
  have f222 := f193.ext E196
  have f223 := f194.ext E196
  have f224 := f195.ext E196
  have Z196 := Nat.le_trans Z177 E196.1
  show own_Go _ _ _ _ (T196.setTop (mkF m 42 #[.val (.ref au), .val (.int (1 : Int32)), .unset] [(.ref b196), (.ref au)]))
  obtain ⟨T225, h225, X225, e225, W225, st225⟩ := putF X196 hx hZ hown (host := "") (Or.inl (hw _ (List.mem_of_getElem? (i := 53) rfl))) Via.refl e196 f215 f207 (Or.inr ⟨(hw _ (List.mem_of_getElem? (i := 54) rfl)), rfl, hnm⟩) (hw _ (List.mem_of_getElem? (i := 2) rfl)) (ty := (.array (.object "com/example/sonde/sonde/engine/Bits"))) (by decide) rfl rfl (g := (mkF m 42 #[.val (.ref au), .val (.int (1 : Int32)), .unset] [(.ref b196), (.ref au)])) rfl rfl (hb hby d1_42)
  refine own_by st225 ?_
  have f226 := f215.same W225
  have f227 := f207.wr W225
  have f228 := f208.wr W225 (Or.inl (List.mem_of_getElem? (i := 0) rfl))
  have f229 := f209.other W225 Pnd
  have f230 := f210.wr W225
  have f231 := f211.wr W225
  have f232 := f212.other W225 (Or.inr (slot_ne (Or.inr (hw _ (List.mem_of_getElem? (i := 35) rfl))) (Or.inr (hw _ (List.mem_of_getElem? (i := 54) rfl))) (by decide) (t := (.object "java/util/List")) (t' := (.array (.object "com/example/sonde/sonde/engine/Bits"))) (by decide) (by decide)))
  have f233 := f213.other W225 (Or.inr (slot_ne (Or.inr (hw _ (List.mem_of_getElem? (i := 49) rfl))) (Or.inr (hw _ (List.mem_of_getElem? (i := 54) rfl))) (by decide) (t := (.object "com/example/sonde/sonde/engine/Bits")) (t' := (.array (.object "com/example/sonde/sonde/engine/Bits"))) (by decide) (by decide)))
  have f234 := f214.other W225 (Or.inr (slot_ne (Or.inr (hw _ (List.mem_of_getElem? (i := 51) rfl))) (Or.inr (hw _ (List.mem_of_getElem? (i := 54) rfl))) (by decide) (t := (.object "com/example/sonde/sonde/engine/Bits")) (t' := (.array (.object "com/example/sonde/sonde/engine/Bits"))) (by decide) (by decide)))
  have f235 := f216.other W225 (Or.inr (slot_ne (Or.inr (hw _ (List.mem_of_getElem? (i := 73) rfl))) (Or.inr (hw _ (List.mem_of_getElem? (i := 54) rfl))) (by decide) (t := (.array (.object "com/example/sonde/sonde/engine/Bits"))) (t' := (.array (.object "com/example/sonde/sonde/engine/Bits"))) (by decide) (by decide)))
  have f236 := f217.wr W225
  have f237 := f218.other W225 (Or.inl (Ne.symm ne3))
  have f238 := f219.other W225 (Or.inl (Ne.symm ne3))
  have f239 := f220.other W225 (Or.inl (Ne.symm ne3))
  have f240 := f221.wr W225
  have f241 := f222.other W225 (Ne.symm ne50) (Ne.symm ne88) (Ne.symm ne93)
  have f242 := f223.wr W225
  have f243 := f224.other W225 (Ne.symm ne116) (Ne.symm ne161) (Ne.symm ne169)
  have f244 := A196.other W225 (Ne.symm ne197)
  have N225 := Fr.snoc X225 N177 Pau
  have Z225 := own_size_wr W225 Z196
  show own_Go _ _ _ _ (T225.setTop (mkF m 45 #[.val (.ref au), .val (.int (1 : Int32)), .unset] []))
  refine own_by (fun _ k => XS.aloadN X225.here hx rfl (hb hby d1_45) rfl rfl k) ?_
  show own_Go _ _ _ _ (T225.setTop (mkF m 46 #[.val (.ref au), .val (.int (1 : Int32)), .unset] [(.ref au)]))
  obtain ⟨T245, X245, e245, st245⟩ := getF X225 hx hZ hown (host := "") (Or.inl (hw _ (List.mem_of_getElem? (i := 53) rfl))) Via.refl e225 f226 (g := (mkF m 46 #[.val (.ref au), .val (.int (1 : Int32)), .unset] [(.ref au)])) rfl rfl (hb hby d1_46)
  refine own_by st245 ?_
  show own_Go _ _ _ _ (T245.setTop (mkF m 49 #[.val (.ref au), .val (.int (1 : Int32)), .unset] [(.ref b196)]))
  refine own_by (fun _ k => own_site X245 hx hZ Bd.named PSt (by rw [hml]; rfl) (hb hby d1_49) 1 (Nat.le_of_eq rfl) (by decide) k) ?_
  show own_Go _ _ _ _ (T245.setTop (mkF m 54 #[.val (.ref au), .val (.int (1 : Int32)), .unset] [(.ref sa), (.ref b196)]))
  refine own_callSL X245 hx hZ hown hH (hw _ (List.mem_of_getElem? (i := 58) rfl)) (hw _ (List.mem_of_getElem? (i := 59) rfl)) (hw _ (List.mem_of_getElem? (i := 60) rfl)) (hw _ (List.mem_of_getElem? (i := 61) rfl)) (by decide) (rm7_1 l Z a0 hw [] b196 sa cK (fun _ => .null) h225 n0 Z225 f244 f231 PSt ge196) e245 (by rw [hml]; rfl) [(.ref b196), (.ref sa)] [] rfl (lenOf own_pd3 rfl) rfl 0 (Nat.le_of_eq rfl) (by decide) (by decide) (Nat.le_of_ble_eq_true rfl) (Nat.le_of_ble_eq_true rfl) (hb hby d1_54) ?_
  intro T246 Lc246 v246 X246 hQ246
  obtain ⟨h246, e246⟩ : ∃ h, T246.heap = h := ⟨_, rfl⟩
  rw [e246] at hQ246
  obtain ⟨rfl, N246q, K246, fz246, AR246⟩ := hQ246
  have N246 := Fr.app N225 N246q
  have f247 := f227.keep K246
  have f248 := f228.trans K246 (allS (P := fun x => x ∈ [au] ∨ h0.size ≤ x) (Or.inr nw196) all0)
  have f249 := f229.keep K246 (ninS ne198 nin0)
  have f250 := own_sta_keep f230 K246 (nsS f244.nostat ns0)
  have f251 := f231.keep K246
  have f252 := f232.keep K246 (ninS ne197 nin0)
  have f253 := f233.keep K246 (ninS ne197 nin0)
  have f254 := f234.keep K246 (ninS ne197 nin0)
  have f255 := f226.keep K246 (ninS ne197 nin0)
  have f256 := f235.keep K246 (ninS ne197 nin0)
  have f257 := f236.keep K246
  have f258 := f237.keep K246 (ninS ne200 nin0)
  have f259 := f238.keep K246 (ninS ne200 nin0)
  have f260 := f239.keep K246 (ninS ne200 nin0)
  have f261 := f240.keep K246
  have f262 := f241.keep K246 (ninS ne201 nin0) (ninS ne202 nin0) (ninS ne203 nin0)
  have f263 := f242.keep K246
  have f264 := f243.keep K246 (ninS ne204 nin0) (ninS ne205 nin0) (ninS ne206 nin0)
  have Z246 := Nat.le_trans Z225 K246.1
  show own_Go _ _ _ _ (T246.setTop (mkF m 57 #[.val (.ref au), .val (.int (1 : Int32)), .unset] []))
  refine own_by (fun _ k => XS.aloadN X246.here hx rfl (hb hby d1_57) rfl rfl k) ?_
  refine own_by (fun _ k => XS.iloadN X246.here hx rfl (hb hby d1_58) rfl k) ?_
  refine own_by (fun _ k => XS.iloadN X246.here hx rfl (hb hby d1_59) rfl k) ?_
  show own_Go _ _ _ _ (T246.setTop (mkF m 60 #[.val (.ref au), .val (.int (1 : Int32)), .unset] [(.int (1 : Int32)), (.int (1 : Int32)), (.ref au)]))
  refine own_by (fun _ k => XS.imul X246.here hx rfl (hb hby d1_60) rfl k) ?_
  show own_Go _ _ _ _ (T246.setTop (mkF m 61 #[.val (.ref au), .val (.int (1 : Int32)), .unset] [(.int ((1 : Int32) * (1 : Int32))), (.ref au)]))
  rw [(by decide : ((1 : Int32) * (1 : Int32)) = (1 : Int32))]
  show own_Go _ _ _ _ (T246.setTop (mkF m 61 #[.val (.ref au), .val (.int (1 : Int32)), .unset] [(.int (1 : Int32)), (.ref au)]))
  refine own_newR X246 hx hZ hown (hw _ (List.mem_of_getElem? (i := 36) rfl)) (hw _ (List.mem_of_getElem? (i := 52) rfl)) e246 1 (by decide) 1 (by decide) (by decide) (by decide) (by decide) (hb hby d1_61) ?_
  intro T266 h266 X266 e266 E266 A266
  show own_Go _ _ _ _ (T266.setTop (mkF m 64 #[.val (.ref au), .val (.int (1 : Int32)), .unset] [.ref h246.size, (.ref au)]))
  obtain ⟨b266, g266⟩ : ∃ z, z = h246.size := ⟨_, rfl⟩
  rw [← g266] at A266
  refine own_gen g266.symm (fun z_ => T266.setTop (mkF m 64 #[.val (.ref au), .val (.int (1 : Int32)), .unset] [.ref z_, (.ref au)])) ?_
  have ne267 : au ≠ b266 := Nat.ne_of_lt (Nat.lt_of_lt_of_le f256.lt (Nat.le_of_eq g266.symm))
  have ne268 : dc ≠ b266 := Nat.ne_of_lt (Nat.lt_of_lt_of_le f249.lt (Nat.le_of_eq g266.symm))
  have ne269 : sa ≠ b266 := Nat.ne_of_lt (Nat.lt_of_lt_of_le f251.lt (Nat.le_of_eq g266.symm))
  have ne270 : b2 ≠ b266 := Nat.ne_of_lt (Nat.lt_of_lt_of_le f260.lt (Nat.le_of_eq g266.symm))
  have ne271 : b49 ≠ b266 := Nat.ne_of_lt (Nat.lt_of_lt_of_le f262.lb (Nat.le_of_eq g266.symm))
  have ne272 : wz70 ≠ b266 := Nat.ne_of_lt (Nat.lt_of_lt_of_le f262.lw (Nat.le_of_eq g266.symm))
  have ne273 : dz70 ≠ b266 := Nat.ne_of_lt (Nat.lt_of_lt_of_le f262.ld (Nat.le_of_eq g266.symm))
  have ne274 : b115 ≠ b266 := Nat.ne_of_lt (Nat.lt_of_lt_of_le f264.lb (Nat.le_of_eq g266.symm))
  have ne275 : wz141 ≠ b266 := Nat.ne_of_lt (Nat.lt_of_lt_of_le f264.lw (Nat.le_of_eq g266.symm))
  have ne276 : dz141 ≠ b266 := Nat.ne_of_lt (Nat.lt_of_lt_of_le f264.ld (Nat.le_of_eq g266.symm))
  have ne277 : b196 ≠ b266 := Nat.ne_of_lt (Nat.lt_of_lt_of_le AR246.lt (Nat.le_of_eq g266.symm))
  have ge266 : n0 ≤ b266 := Nat.le_trans Z246 (Nat.le_of_eq g266.symm)
  have nw266 : h0.size ≤ b266 := Nat.le_trans f248.1 (Nat.le_of_eq g266.symm)
  have f278 := f247.ext E266
  have f279 := f248.ext E266
  have f280 := f249.ext E266
  have f281 := f250.ext E266
  have f282 := f251.ext E266
  have f283 := f252.ext E266
  have f284 := f253.ext E266
  have f285 := f254.ext E266
  have f286 := f255.ext E266
  have f287 := f256.ext E266
  have f288 := f257.ext E266
  have f289 := f258.ext E266
  have f290 := f259.ext E266
  have f291 := f260.ext E266
  have f292 := f261.ext E266
  have f293 := f262.ext E266
  have f294 := f263.ext E266
  have f295 := f264.ext E266
  have f296 := AR246.ext E266
  have Z266 := Nat.le_trans Z246 E266.1
  show own_Go _ _ _ _ (T266.setTop (mkF m 64 #[.val (.ref au), .val (.int (1 : Int32)), .unset] [(.ref b266), (.ref au)]))
  obtain ⟨T297, h297, X297, e297, W297, st297⟩ := putF X266 hx hZ hown (host := "") (Or.inl (hw _ (List.mem_of_getElem? (i := 72) rfl))) Via.refl e266 f287 f278 (Or.inr ⟨(hw _ (List.mem_of_getElem? (i := 73) rfl)), rfl, hnm⟩) (hw _ (List.mem_of_getElem? (i := 2) rfl)) (ty := (.array (.object "com/example/sonde/sonde/engine/Bits"))) (by decide) rfl rfl (g := (mkF m 64 #[.val (.ref au), .val (.int (1 : Int32)), .unset] [(.ref b266), (.ref au)])) rfl rfl (hb hby d1_64)
  refine own_by st297 ?_
  have f298 := f287.same W297
  have f299 := f278.wr W297
  have f300 := f279.wr W297 (Or.inl (List.mem_of_getElem? (i := 0) rfl))
  have f301 := f280.other W297 Pnd
  have f302 := f281.wr W297
  have f303 := f282.wr W297
  have f304 := f283.other W297 (Or.inr (slot_ne (Or.inr (hw _ (List.mem_of_getElem? (i := 35) rfl))) (Or.inr (hw _ (List.mem_of_getElem? (i := 73) rfl))) (by decide) (t := (.object "java/util/List")) (t' := (.array (.object "com/example/sonde/sonde/engine/Bits"))) (by decide) (by decide)))
  have f305 := f284.other W297 (Or.inr (slot_ne (Or.inr (hw _ (List.mem_of_getElem? (i := 49) rfl))) (Or.inr (hw _ (List.mem_of_getElem? (i := 73) rfl))) (by decide) (t := (.object "com/example/sonde/sonde/engine/Bits")) (t' := (.array (.object "com/example/sonde/sonde/engine/Bits"))) (by decide) (by decide)))
  have f306 := f285.other W297 (Or.inr (slot_ne (Or.inr (hw _ (List.mem_of_getElem? (i := 51) rfl))) (Or.inr (hw _ (List.mem_of_getElem? (i := 73) rfl))) (by decide) (t := (.object "com/example/sonde/sonde/engine/Bits")) (t' := (.array (.object "com/example/sonde/sonde/engine/Bits"))) (by decide) (by decide)))
  have f307 := f286.other W297 (Or.inr (slot_ne (Or.inr (hw _ (List.mem_of_getElem? (i := 54) rfl))) (Or.inr (hw _ (List.mem_of_getElem? (i := 73) rfl))) (by decide) (t := (.array (.object "com/example/sonde/sonde/engine/Bits"))) (t' := (.array (.object "com/example/sonde/sonde/engine/Bits"))) (by decide) (by decide)))
  have f308 := f288.wr W297
  have f309 := f289.other W297 (Or.inl (Ne.symm ne3))
  have f310 := f290.other W297 (Or.inl (Ne.symm ne3))
  have f311 := f291.other W297 (Or.inl (Ne.symm ne3))
  have f312 := f292.wr W297
  have f313 := f293.other W297 (Ne.symm ne50) (Ne.symm ne88) (Ne.symm ne93)
  have f314 := f294.wr W297
  have f315 := f295.other W297 (Ne.symm ne116) (Ne.symm ne161) (Ne.symm ne169)
  have f316 := f296.other W297 (Ne.symm ne197)
  have f317 := A266.other W297 (Ne.symm ne267)
  have N297 := Fr.snoc X297 N246 Pau
  have Z297 := own_size_wr W297 Z266
  show own_Go _ _ _ _ (T297.setTop (mkF m 67 #[.val (.ref au), .val (.int (1 : Int32)), .unset] []))
  refine own_by (fun _ k => XS.iconst X297.here hx rfl (hb hby d1_67) k) ?_
  show own_Go _ _ _ _ (T297.setTop (mkF m 68 #[.val (.ref au), .val (.int (1 : Int32)), .unset] [(.int (0 : Int32))]))
  refine own_by (fun _ k => XS.istoreN X297.here hx rfl (hb hby d1_68) rfl (l' := #[.val (.ref au), .val (.int (1 : Int32)), .val (.int (0 : Int32))]) rfl k) ?_
  refine own_by (fun _ k => XS.iloadN X297.here hx rfl (hb hby d1_69) rfl k) ?_
  refine own_by (fun _ k => XS.iloadN X297.here hx rfl (hb hby d1_70) rfl k) ?_
  show own_Go _ _ _ _ (T297.setTop (mkF m 71 #[.val (.ref au), .val (.int (1 : Int32)), .val (.int (0 : Int32))] [(.int (1 : Int32)), (.int (0 : Int32))]))
  refine own_by (fun _ k => XS.icmpNo X297.here hx rfl (hb hby d1_71) rfl (tlt (by decide)).2.1 k) ?_
  refine own_by (fun _ k => XS.aloadN X297.here hx rfl (hb hby d1_74) rfl rfl k) ?_
  show own_Go _ _ _ _ (T297.setTop (mkF m 75 #[.val (.ref au), .val (.int (1 : Int32)), .val (.int (0 : Int32))] [(.ref au)]))
  obtain ⟨T318, X318, e318, st318⟩ := getF X297 hx hZ hown (host := "") (Or.inl (hw _ (List.mem_of_getElem? (i := 34) rfl))) Via.refl e297 f304 (g := (mkF m 75 #[.val (.ref au), .val (.int (1 : Int32)), .val (.int (0 : Int32))] [(.ref au)])) rfl rfl (hb hby d1_75)
  refine own_by st318 ?_
  show own_Go _ _ _ _ (T318.setTop (mkF m 78 #[.val (.ref au), .val (.int (1 : Int32)), .val (.int (0 : Int32))] [(.ref b2)]))
  obtain ⟨T319, h319, X319, e319, E319, A319, D319, -, st319⟩ := newO X318 hx hZ hown (hw _ (List.mem_of_getElem? (i := 10) rfl)) (hw _ (List.mem_of_getElem? (i := 11) rfl)) (hw _ (List.mem_of_getElem? (i := 12) rfl)) e318 (g := (mkF m 78 #[.val (.ref au), .val (.int (1 : Int32)), .val (.int (0 : Int32))] [(.ref b2)])) rfl (hb hby d1_78) (by decide) (by decide)
  refine own_by st319 ?_
  show own_Go _ _ _ _ (T319.setTop (mkF m 81 #[.val (.ref au), .val (.int (1 : Int32)), .val (.int (0 : Int32))] [.ref h297.size, (.ref b2)]))
  obtain ⟨b319, g319⟩ : ∃ z, z = h297.size := ⟨_, rfl⟩
  rw [← g319] at A319 D319
  refine own_gen g319.symm (fun z_ => T319.setTop (mkF m 81 #[.val (.ref au), .val (.int (1 : Int32)), .val (.int (0 : Int32))] [.ref z_, (.ref b2)])) ?_
  have ne320 : au ≠ b319 := Nat.ne_of_lt (Nat.lt_of_lt_of_le f298.lt (Nat.le_of_eq g319.symm))
  have ne321 : dc ≠ b319 := Nat.ne_of_lt (Nat.lt_of_lt_of_le f301.lt (Nat.le_of_eq g319.symm))
  have ne322 : sa ≠ b319 := Nat.ne_of_lt (Nat.lt_of_lt_of_le f303.lt (Nat.le_of_eq g319.symm))
  have ne323 : b2 ≠ b319 := Nat.ne_of_lt (Nat.lt_of_lt_of_le f311.lt (Nat.le_of_eq g319.symm))
  have ne324 : b49 ≠ b319 := Nat.ne_of_lt (Nat.lt_of_lt_of_le f313.lb (Nat.le_of_eq g319.symm))
  have ne325 : wz70 ≠ b319 := Nat.ne_of_lt (Nat.lt_of_lt_of_le f313.lw (Nat.le_of_eq g319.symm))
  have ne326 : dz70 ≠ b319 := Nat.ne_of_lt (Nat.lt_of_lt_of_le f313.ld (Nat.le_of_eq g319.symm))
  have ne327 : b115 ≠ b319 := Nat.ne_of_lt (Nat.lt_of_lt_of_le f315.lb (Nat.le_of_eq g319.symm))
  have ne328 : wz141 ≠ b319 := Nat.ne_of_lt (Nat.lt_of_lt_of_le f315.lw (Nat.le_of_eq g319.symm))
  have ne329 : dz141 ≠ b319 := Nat.ne_of_lt (Nat.lt_of_lt_of_le f315.ld (Nat.le_of_eq g319.symm))
  have ne330 : b196 ≠ b319 := Nat.ne_of_lt (Nat.lt_of_lt_of_le f316.lt (Nat.le_of_eq g319.symm))
  have ne331 : b266 ≠ b319 := Nat.ne_of_lt (Nat.lt_of_lt_of_le f317.lt (Nat.le_of_eq g319.symm))
  have ge319 : n0 ≤ b319 := Nat.le_trans Z297 (Nat.le_of_eq g319.symm)
  have nw319 : h0.size ≤ b319 := Nat.le_trans f300.1 (Nat.le_of_eq g319.symm)
  have f332 := f299.ext E319
  have f333 := f300.ext E319
  have f334 := f301.ext E319
  have f335 := f302.ext E319
  have f336 := f303.ext E319
  have f337 := f304.ext E319
  have f338 := f305.ext E319
  have f339 := f306.ext E319
  have f340 := f307.ext E319
  have f341 := f298.ext E319
  have f342 := f308.ext E319
  have f343 := f309.ext E319
  have f344 := f310.ext E319
  have f345 := f311.ext E319
  have f346 := f312.ext E319
  have f347 := f313.ext E319
  have f348 := f314.ext E319
  have f349 := f315.ext E319
  have f350 := f316.ext E319
  have f351 := f317.ext E319
  have Z319 := Nat.le_trans Z297 E319.1
  have f352 : Fld Z h319 b319 "java/util/AbstractList" "modCount" "I" (.int (0 : Int32)) := D319 (Or.inl (hw _ (List.mem_of_getElem? (i := 30) rfl))) (ty := .int) (by decide)
  have f353 : Fld Z h319 b319 "java/util/ArrayList" "elementData" "[Ljava/lang/Object;" .null := D319 (Or.inl (hw _ (List.mem_of_getElem? (i := 33) rfl))) (ty := (.array (.object "java/lang/Object"))) (by decide)
  have f354 : Fld Z h319 b319 "java/util/ArrayList" "size" "I" (.int (0 : Int32)) := D319 (Or.inl (hw _ (List.mem_of_getElem? (i := 86) rfl))) (ty := .int) (by decide)
  show own_Go _ _ _ _ (T319.setTop (mkF m 81 #[.val (.ref au), .val (.int (1 : Int32)), .val (.int (0 : Int32))] [(.ref b319), (.ref b2)]))
  refine own_by (fun _ k => XS.dup X319.here hx rfl (hb hby d1_81) rfl rfl k) ?_
  show own_Go _ _ _ _ (T319.setTop (mkF m 82 #[.val (.ref au), .val (.int (1 : Int32)), .val (.int (0 : Int32))] [(.ref b319), (.ref b319), (.ref b2)]))
  refine own_callI X319 hx hZ hown rfl (hw _ (List.mem_of_getElem? (i := 13) rfl)) (hw _ (List.mem_of_getElem? (i := 14) rfl)) (hw _ (List.mem_of_getElem? (i := 12) rfl)) (hw _ (List.mem_of_getElem? (i := 15) rfl)) (by decide) (rm3 l Z a0 hw [] b319 dc h319 n0 Z319 A319 f352 f353 f354 ge319 f335) e319 (by rw [hml]; rfl) b319 [] [(.ref b319), (.ref b2)] rfl (lenOf own_pd2 rfl) rfl 2 (Nat.le_of_eq rfl) (by decide) (by decide) (Nat.le_of_ble_eq_true rfl) (Nat.le_of_ble_eq_true rfl) (hb hby d1_82) ?_
  intro T355 Lc355 v355 X355 hQ355
  obtain ⟨h355, e355⟩ : ∃ h, T355.heap = h := ⟨_, rfl⟩
  rw [e355] at hQ355
  obtain ⟨rfl, N355q, K355, PL355⟩ := hQ355
  have N355 := Fr.app N297 N355q
  have f356 := f332.keep K355
  have f357 := f333.trans K355 (allS (P := fun x => x ∈ [au] ∨ h0.size ≤ x) (Or.inr nw319) all0)
  have f358 := f334.keep K355 (ninS ne321 nin0)
  have f359 := own_sta_keep f335 K355 (nsS A319.nostat ns0)
  have f360 := f336.keep K355
  have f361 := f337.keep K355 (ninS ne320 nin0)
  have f362 := f338.keep K355 (ninS ne320 nin0)
  have f363 := f339.keep K355 (ninS ne320 nin0)
  have f364 := f340.keep K355 (ninS ne320 nin0)
  have f365 := f341.keep K355 (ninS ne320 nin0)
  have f366 := f342.keep K355
  have f367 := f343.keep K355 (ninS ne323 nin0)
  have f368 := f344.keep K355 (ninS ne323 nin0)
  have f369 := f345.keep K355 (ninS ne323 nin0)
  have f370 := f346.keep K355
  have f371 := f347.keep K355 (ninS ne324 nin0) (ninS ne325 nin0) (ninS ne326 nin0)
  have f372 := f348.keep K355
  have f373 := f349.keep K355 (ninS ne327 nin0) (ninS ne328 nin0) (ninS ne329 nin0)
  have f374 := f350.keep K355 (ninS ne330 nin0)
  have f375 := f351.keep K355 (ninS ne331 nin0)
  have f376 := A319.keep K355
  have Z355 := Nat.le_trans Z319 K355.1
  obtain ⟨-, FE355, FS355, FM355⟩ := PL355
  show own_Go _ _ _ _ (T355.setTop (mkF m 85 #[.val (.ref au), .val (.int (1 : Int32)), .val (.int (0 : Int32))] [(.ref b319), (.ref b2)]))
  refine own_callF X355 hx hZ hown (hw _ (List.mem_of_getElem? (i := 74) rfl)) (hw _ (List.mem_of_getElem? (i := 75) rfl)) (hw _ (List.mem_of_getElem? (i := 76) rfl)) (hw _ (List.mem_of_getElem? (i := 77) rfl)) (hw _ (List.mem_of_getElem? (i := 78) rfl)) (hw _ (List.mem_of_getElem? (i := 79) rfl)) (hw _ (List.mem_of_getElem? (i := 80) rfl)) (hw _ (List.mem_of_getElem? (i := 81) rfl)) (hw _ (List.mem_of_getElem? (i := 12) rfl)) (hw _ (List.mem_of_getElem? (i := 82) rfl)) (by decide) rfl (rm10_e l Z a0 hw [] b2 b319 dc (0 : Int32) fd h355 n0 Z355 ⟨f366, f368, f369, f367⟩ f358 f359 ge2 Pdc f376) e355 b2 f366 (by rw [hml]; rfl) [(.ref b319)] [] rfl (lenOf own_pd6 rfl) rfl 0 (Nat.le_of_eq rfl) (by decide) (by decide) (Nat.le_of_ble_eq_true rfl) (Nat.le_of_ble_eq_true rfl) (hb hby d1_85) ?_
  intro T380 Lc380 v380 X380 hQ380
  obtain ⟨h380, e380⟩ : ∃ h, T380.heap = h := ⟨_, rfl⟩
  rw [e380] at hQ380
  obtain ⟨rfl, N380q, K380, ed380, fz380, mz380, nw380, AB380, PL380⟩ := hQ380
  have N380 := Fr.app N355 N380q
  have f381 := f356.keep K380
  have f382 := f357.trans K380 (allS (P := fun x => x ∈ [au] ∨ h0.size ≤ x) (Or.inr nw2) all0)
  have f383 := f358.keep K380 (ninS ne4 nin0)
  have f384 := own_sta_keep f359 K380 (nsS f366.nostat ns0)
  have f385 := f360.keep K380
  have f386 := f361.keep K380 (ninS ne3 nin0)
  have f387 := f362.keep K380 (ninS ne3 nin0)
  have f388 := f363.keep K380 (ninS ne3 nin0)
  have f389 := f364.keep K380 (ninS ne3 nin0)
  have f390 := f365.keep K380 (ninS ne3 nin0)
  have f391 := f366.keep K380
  have f395 := f370.keep K380
  have f396 := f371.keep K380 (ninS (Ne.symm ne53) nin0) (ninS (Ne.symm ne91) nin0) (ninS (Ne.symm ne96) nin0)
  have f397 := f372.keep K380
  have f398 := f373.keep K380 (ninS (Ne.symm ne119) nin0) (ninS (Ne.symm ne164) nin0) (ninS (Ne.symm ne172) nin0)
  have f399 := f374.keep K380 (ninS (Ne.symm ne200) nin0)
  have f400 := f375.keep K380 (ninS (Ne.symm ne270) nin0)
  have f401 := f376.keep K380
  have f402 := FM355.keep K380 (ninS (Ne.symm ne323) nin0)
  have f403 := FE355.keep K380 (ninS (Ne.symm ne323) nin0)
  have f404 := FS355.keep K380 (ninS (Ne.symm ne323) nin0)
  have Z380 := Nat.le_trans Z355 K380.1
  have ne405 : au ≠ ed380 := Nat.ne_of_lt (Nat.lt_of_lt_of_le f365.lt nw380)
  have ne406 : dc ≠ ed380 := Nat.ne_of_lt (Nat.lt_of_lt_of_le f358.lt nw380)
  have ne407 : sa ≠ ed380 := Nat.ne_of_lt (Nat.lt_of_lt_of_le f360.lt nw380)
  have ne408 : b2 ≠ ed380 := Nat.ne_of_lt (Nat.lt_of_lt_of_le f369.lt nw380)
  have ne409 : b49 ≠ ed380 := Nat.ne_of_lt (Nat.lt_of_lt_of_le f371.lb nw380)
  have ne410 : wz70 ≠ ed380 := Nat.ne_of_lt (Nat.lt_of_lt_of_le f371.lw nw380)
  have ne411 : dz70 ≠ ed380 := Nat.ne_of_lt (Nat.lt_of_lt_of_le f371.ld nw380)
  have ne412 : b115 ≠ ed380 := Nat.ne_of_lt (Nat.lt_of_lt_of_le f373.lb nw380)
  have ne413 : wz141 ≠ ed380 := Nat.ne_of_lt (Nat.lt_of_lt_of_le f373.lw nw380)
  have ne414 : dz141 ≠ ed380 := Nat.ne_of_lt (Nat.lt_of_lt_of_le f373.ld nw380)
  have ne415 : b196 ≠ ed380 := Nat.ne_of_lt (Nat.lt_of_lt_of_le f374.lt nw380)
  have ne416 : b266 ≠ ed380 := Nat.ne_of_lt (Nat.lt_of_lt_of_le f375.lt nw380)
  have ne417 : b319 ≠ ed380 := Nat.ne_of_lt (Nat.lt_of_lt_of_le FS355.lt nw380)
  have ge380 : n0 ≤ ed380 := Nat.le_trans Z355 nw380
  have nk380 : h0.size ≤ ed380 := Nat.le_trans f357.1 nw380
  obtain ⟨-, FE380, FS380, FM380⟩ := PL380
  show own_Go _ _ _ _ (T380.setTop (mkF m 90 #[.val (.ref au), .val (.int (1 : Int32)), .val (.int (0 : Int32))] [(.int (1 : Int32))]))
  refine own_by (fun _ k => XS.pop X380.here hx rfl (hb hby d1_90) rfl rfl k) ?_
  show own_Go _ _ _ _ (T380.setTop (mkF m 91 #[.val (.ref au), .val (.int (1 : Int32)), .val (.int (0 : Int32))] []))
  refine own_by (fun _ k => XS.iinc X380.here hx rfl (hb hby d1_91) rfl (l' := #[.val (.ref au), .val (.int (1 : Int32)), .val (.int ((0 : Int32) + (1 : Int32)))]) rfl k) ?_
  show own_Go _ _ _ _ (T380.setTop (mkF m 94 #[.val (.ref au), .val (.int (1 : Int32)), .val (.int ((0 : Int32) + (1 : Int32)))] []))
  rw [(by decide : ((0 : Int32) + (1 : Int32)) = (1 : Int32))]
  show own_Go _ _ _ _ (T380.setTop (mkF m 94 #[.val (.ref au), .val (.int (1 : Int32)), .val (.int (1 : Int32))] []))
  refine own_by (fun _ k => XS.goto X380.here hx rfl (pc0 := 94) (pc' := 69) rfl (hb hby d1_94) (by decide) (by decide) k) ?_
  refine own_by (fun _ k => XS.iloadN X380.here hx rfl (hb hby d1_69) rfl k) ?_
  refine own_by (fun _ k => XS.iloadN X380.here hx rfl (hb hby d1_70) rfl k) ?_
  show own_Go _ _ _ _ (T380.setTop (mkF m 71 #[.val (.ref au), .val (.int (1 : Int32)), .val (.int (1 : Int32))] [(.int (1 : Int32)), (.int (1 : Int32))]))
  refine own_by (fun _ k => XS.icmpYes X380.here hx rfl (pc0 := 71) (pc' := 97) rfl (hb hby d1_71) rfl (flt (by decide)).2.1 (by decide) (by decide) k) ?_
  show own_Go _ _ _ _ (T380.setTop (mkF m 97 #[.val (.ref au), .val (.int (1 : Int32)), .val (.int (1 : Int32))] []))
  exact own_retV X380 hx Bd.notSynchronized e380 Bd.returns (hb hby d1_97) (⟨rfl, N380, f382, b196, b266, b115, wz141, dz141, b49, wz70, dz70, _, f381, f389, f390, f388, f387, f399, f400, f398, f396, (allS (P := fun x => h0.size ≤ x) nw196 (allS (P := fun x => h0.size ≤ x) nw266 (allS (P := fun x => h0.size ≤ x) nw115 (allS (P := fun x => h0.size ≤ x) nk_wz141 (allS (P := fun x => h0.size ≤ x) nk_dz141 (allS (P := fun x => h0.size ≤ x) nw49 (allS (P := fun x => h0.size ≤ x) nk_wz70 (allS (P := fun x => h0.size ≤ x) nk_dz70 all0)))))))), (allS (P := fun x => ∀ y ∈ [b49, wz70, dz70, b266], x ≠ y) (allS (P := fun y => b115 ≠ y) (Ne.symm ne120) (allS (P := fun y => b115 ≠ y) (Ne.symm ne121) (allS (P := fun y => b115 ≠ y) (Ne.symm ne122) (allS (P := fun y => b115 ≠ y) ne274 all0)))) (allS (P := fun x => ∀ y ∈ [b49, wz70, dz70, b266], x ≠ y) (allS (P := fun y => wz141 ≠ y) (Ne.symm ne165) (allS (P := fun y => wz141 ≠ y) (Ne.symm ne166) (allS (P := fun y => wz141 ≠ y) (Ne.symm ne167) (allS (P := fun y => wz141 ≠ y) ne275 all0)))) (allS (P := fun x => ∀ y ∈ [b49, wz70, dz70, b266], x ≠ y) (allS (P := fun y => dz141 ≠ y) (Ne.symm ne173) (allS (P := fun y => dz141 ≠ y) (Ne.symm ne174) (allS (P := fun y => dz141 ≠ y) (Ne.symm ne175) (allS (P := fun y => dz141 ≠ y) ne276 all0)))) all0))), (allS (P := fun x => ∀ y ∈ [b266], x ≠ y) (allS (P := fun y => b49 ≠ y) ne271 all0) (allS (P := fun x => ∀ y ∈ [b266], x ≠ y) (allS (P := fun y => wz70 ≠ y) ne272 all0) (allS (P := fun x => ∀ y ∈ [b266], x ≠ y) (allS (P := fun y => dz70 ≠ y) ne273 all0) all0))), (allS (P := fun x => ∀ y ∈ [b266, b49, wz70, dz70], x ≠ y) (allS (P := fun y => b196 ≠ y) ne277 (allS (P := fun y => b196 ≠ y) (Ne.symm ne201) (allS (P := fun y => b196 ≠ y) (Ne.symm ne202) (allS (P := fun y => b196 ≠ y) (Ne.symm ne203) all0)))) all0)⟩) (by decide) (by decide)
set_option maxRecDepth 65536 in
set_option maxHeartbeats 40000000 in
theorem rm1_2 (l : Launch) (Z : State) (a0 : Array Value) (hw : ∀ d ∈ tables_1, d.before a0 Z = true) (ws : List Jvm.Cond) (au : Addr) (dc sa : Addr) (cK : ClassId) (fd : Nat → Value) (h0 : Heap) (n0 : Nat) (Z0 : n0 ≤ h0.size) (PEu : Exa Z h0 au "com/example/sonde/sonde/engine/AnswerSets") (PF0 : Fld Z h0 au "com/example/sonde/sonde/engine/AnswerSets" "drawing" "Ljava/util/List;" .null) (PF1 : Fld Z h0 au "com/example/sonde/sonde/engine/AnswerSets" "deep" "Lcom/example/sonde/sonde/engine/Bits;" .null) (PF2 : Fld Z h0 au "com/example/sonde/sonde/engine/AnswerSets" "none" "Lcom/example/sonde/sonde/engine/Bits;" .null) (PF3 : Fld Z h0 au "com/example/sonde/sonde/engine/AnswerSets" "answering" "[Lcom/example/sonde/sonde/engine/Bits;" .null) (PF4 : Fld Z h0 au "com/example/sonde/sonde/engine/AnswerSets" "holding" "[Lcom/example/sonde/sonde/engine/Bits;" .null) (Pau : n0 ≤ au) (PC : own_Ar Z h0 dc (.object "java/lang/Object") 0 fd) (PS : Sta Z h0 "java/util/ArrayList" "DEFAULTCAPACITY_EMPTY_ELEMENTDATA" "[Ljava/lang/Object;" (.ref dc)) (Pdc : dc < n0) (PFn : own_Fn h0 sa cK) (PSt : own_Site Z (⟨"com/example/sonde/sonde/engine/AnswerSets", "<init>", "(I)V"⟩ : MethodName) 49 own_sg sa cK) :
    MetFree l (⟨"com/example/sonde/sonde/engine/AnswerSets", "<init>", "(I)V"⟩ : MethodName) (head1 (Jvm.Cond.code (⟨"com/example/sonde/sonde/engine/AnswerSets", "<init>", "(I)V"⟩ : MethodName) prog_86_method_1_code 3 none :: ws) ({ frames := 5, cells := 26, slots := 80, locals := 3120 } : Room)) (fun a U => a = #[(.ref au), (.int (2 : Int32))] ∧ Z.Warmed39 U.vm ∧ U.heap = h0 ∧ Z.WarmedH U.vm) (fun _ _ _ _ _ => True) (fun _ U o U' => ∃ vv LL, o = .returned vv ∧ own_ap (fun v h L => v = none ∧ Fr n0 L ∧ Keep h0 h [au] ∧ own_IN Z h0 h n0 au 2) vv U'.heap LL ∧ FrameEnd U o U' LL 26 80) := by
  refine MetFree.of_bodySF (plainFor_of_name pn_1) hisR ?_
  intro p e s m args below meth c s₁ Bd hml0 hP hK
  obtain ⟨rfl, hZ, hh, hH⟩ := hP
  have hx := Bd.exec
  have hby := Bd.bytes
  have hml : c.maxLocals = 3 := hml0
  have hown : s.vm.findClass "com/example/sonde/sonde/engine/AnswerSets" = some m.cls := findClass_of_methodNamed Bd.named
  have hnm := (name_of_methodNamed Bd.named Bd.method).1
  have X0 : Stand p l e ({ frames := 5, cells := 26, slots := 80, locals := 3120 } : Room) s m #[(.ref au), (.int (2 : Int32))] below meth c s₁ [] 0 0 := Stand.of_body Bd
  have e0 : s₁.heap = h0 := by rw [← hh, Bd.state]; rfl
  have N0 := Fr.nil n0
  show own_Go p.tables e below (own_Q s (fun v h L => v = none ∧ Fr n0 L ∧ Keep h0 h [au] ∧ own_IN Z h0 h n0 au 2) 26 80) (s₁.setTop (entryFrame m #[(.ref au), (.int (2 : Int32))] 3))
  rw [show entryFrame m #[(.ref au), (.int (2 : Int32))] 3 = mkF m 0 #[.val (.ref au), .val (.int (2 : Int32)), .unset] [] from by first | (simp [entryFrame, mkF, argsToLocals, Value.category]; done) | rfl]
  have Pnd : dc ≠ au := Nat.ne_of_lt (Nat.lt_of_lt_of_le Pdc Pau)
  show own_Go _ _ _ _ (s₁.setTop (mkF m 0 #[.val (.ref au), .val (.int (2 : Int32)), .unset] []))
  refine own_by (fun _ k => XS.aloadN X0.here hx rfl (hb hby d1_0) rfl rfl k) ?_
  show own_Go _ _ _ _ (s₁.setTop (mkF m 1 #[.val (.ref au), .val (.int (2 : Int32)), .unset] [(.ref au)]))
  obtain ⟨T1, X1, e1, st1⟩ := initO X0 hx hZ hown (hw _ (List.mem_of_getElem? (i := 7) rfl)) (hw _ (List.mem_of_getElem? (i := 8) rfl)) (hw _ (List.mem_of_getElem? (i := 9) rfl)) e0 (g := (mkF m 1 #[.val (.ref au), .val (.int (2 : Int32)), .unset] [(.ref au)])) rfl (by rw [hml]; rfl) rfl (hb hby d1_1) (by decide) (W := 0) (by show 2 * 0 + _ ≤ _; exact Nat.le_of_eq rfl) (by decide)
  refine own_by st1 ?_
  refine own_by (fun _ k => XS.aloadN X1.here hx rfl (hb hby d1_4) rfl rfl k) ?_
  show own_Go _ _ _ _ (T1.setTop (mkF m 5 #[.val (.ref au), .val (.int (2 : Int32)), .unset] [(.ref au)]))
  obtain ⟨T2, h2, X2, e2, E2, A2, D2, -, st2⟩ := newO X1 hx hZ hown (hw _ (List.mem_of_getElem? (i := 10) rfl)) (hw _ (List.mem_of_getElem? (i := 11) rfl)) (hw _ (List.mem_of_getElem? (i := 12) rfl)) e1 (g := (mkF m 5 #[.val (.ref au), .val (.int (2 : Int32)), .unset] [(.ref au)])) rfl (hb hby d1_5) (by decide) (by decide)
  refine own_by st2 ?_
  show own_Go _ _ _ _ (T2.setTop (mkF m 8 #[.val (.ref au), .val (.int (2 : Int32)), .unset] [.ref h0.size, (.ref au)]))
  obtain ⟨b2, g2⟩ : ∃ z, z = h0.size := ⟨_, rfl⟩
  rw [← g2] at A2 D2
  refine own_gen g2.symm (fun z_ => T2.setTop (mkF m 8 #[.val (.ref au), .val (.int (2 : Int32)), .unset] [.ref z_, (.ref au)])) ?_
  have ne3 : au ≠ b2 := Nat.ne_of_lt (Nat.lt_of_lt_of_le PF4.lt (Nat.le_of_eq g2.symm))
  have ne4 : dc ≠ b2 := Nat.ne_of_lt (Nat.lt_of_lt_of_le PC.lt (Nat.le_of_eq g2.symm))
  have ne5 : sa ≠ b2 := Nat.ne_of_lt (Nat.lt_of_lt_of_le PFn.lt (Nat.le_of_eq g2.symm))
  have ge2 : n0 ≤ b2 := Nat.le_trans Z0 (Nat.le_of_eq g2.symm)
  have nw2 : h0.size ≤ b2 := Nat.le_trans (Keep.refl h0 [au]).1 (Nat.le_of_eq g2.symm)
  have f6 := PEu.ext E2
  have f7 := (Keep.refl h0 [au]).ext E2
  have f8 := PC.ext E2
  have f9 := PS.ext E2
  have f10 := PFn.ext E2
  have f11 := PF0.ext E2
  have f12 := PF1.ext E2
  have f13 := PF2.ext E2
  have f14 := PF3.ext E2
  have f15 := PF4.ext E2
  have Z2 := Nat.le_trans Z0 E2.1
  have f16 : Fld Z h2 b2 "java/util/AbstractList" "modCount" "I" (.int (0 : Int32)) := D2 (Or.inl (hw _ (List.mem_of_getElem? (i := 30) rfl))) (ty := .int) (by decide)
  have f17 : Fld Z h2 b2 "java/util/ArrayList" "elementData" "[Ljava/lang/Object;" .null := D2 (Or.inl (hw _ (List.mem_of_getElem? (i := 33) rfl))) (ty := (.array (.object "java/lang/Object"))) (by decide)
  have f18 : Fld Z h2 b2 "java/util/ArrayList" "size" "I" (.int (0 : Int32)) := D2 (Or.inl (hw _ (List.mem_of_getElem? (i := 86) rfl))) (ty := .int) (by decide)
  show own_Go _ _ _ _ (T2.setTop (mkF m 8 #[.val (.ref au), .val (.int (2 : Int32)), .unset] [(.ref b2), (.ref au)]))
  refine own_by (fun _ k => XS.dup X2.here hx rfl (hb hby d1_8) rfl rfl k) ?_
  show own_Go _ _ _ _ (T2.setTop (mkF m 9 #[.val (.ref au), .val (.int (2 : Int32)), .unset] [(.ref b2), (.ref b2), (.ref au)]))
  refine own_callI X2 hx hZ hown rfl (hw _ (List.mem_of_getElem? (i := 13) rfl)) (hw _ (List.mem_of_getElem? (i := 14) rfl)) (hw _ (List.mem_of_getElem? (i := 12) rfl)) (hw _ (List.mem_of_getElem? (i := 15) rfl)) (by decide) (rm3 l Z a0 hw [] b2 dc h2 n0 Z2 A2 f16 f17 f18 ge2 f9) e2 (by rw [hml]; rfl) b2 [] [(.ref b2), (.ref au)] rfl (lenOf own_pd2 rfl) rfl 2 (Nat.le_of_eq rfl) (by decide) (by decide) (Nat.le_of_ble_eq_true rfl) (Nat.le_of_ble_eq_true rfl) (hb hby d1_9) ?_
  intro T19 Lc19 v19 X19 hQ19
  obtain ⟨h19, e19⟩ : ∃ h, T19.heap = h := ⟨_, rfl⟩
  rw [e19] at hQ19
  obtain ⟨rfl, N19q, K19, PL19⟩ := hQ19
  have N19 := Fr.app N0 N19q
  have f20 := f6.keep K19
  have f21 := f7.trans K19 (allS (P := fun x => x ∈ [au] ∨ h0.size ≤ x) (Or.inr nw2) all0)
  have f22 := f8.keep K19 (ninS ne4 nin0)
  have f23 := own_sta_keep f9 K19 (nsS A2.nostat ns0)
  have f24 := f10.keep K19
  have f25 := f11.keep K19 (ninS ne3 nin0)
  have f26 := f12.keep K19 (ninS ne3 nin0)
  have f27 := f13.keep K19 (ninS ne3 nin0)
  have f28 := f14.keep K19 (ninS ne3 nin0)
  have f29 := f15.keep K19 (ninS ne3 nin0)
  have f30 := A2.keep K19
  have Z19 := Nat.le_trans Z2 K19.1
  obtain ⟨-, FE19, FS19, FM19⟩ := PL19
  show own_Go _ _ _ _ (T19.setTop (mkF m 12 #[.val (.ref au), .val (.int (2 : Int32)), .unset] [(.ref b2), (.ref au)]))
  obtain ⟨T34, h34, X34, e34, W34, st34⟩ := putF X19 hx hZ hown (host := "") (Or.inl (hw _ (List.mem_of_getElem? (i := 34) rfl))) Via.refl e19 f25 f20 (Or.inr ⟨(hw _ (List.mem_of_getElem? (i := 35) rfl)), rfl, hnm⟩) (hw _ (List.mem_of_getElem? (i := 2) rfl)) (ty := (.object "java/util/List")) (by decide) rfl rfl (g := (mkF m 12 #[.val (.ref au), .val (.int (2 : Int32)), .unset] [(.ref b2), (.ref au)])) rfl rfl (hb hby d1_12)
  refine own_by st34 ?_
  have f35 := f25.same W34
  have f36 := f20.wr W34
  have f37 := f21.wr W34 (Or.inl (List.mem_of_getElem? (i := 0) rfl))
  have f38 := f22.other W34 Pnd
  have f39 := f23.wr W34
  have f40 := f24.wr W34
  have f41 := f26.other W34 (Or.inr (slot_ne (Or.inr (hw _ (List.mem_of_getElem? (i := 49) rfl))) (Or.inr (hw _ (List.mem_of_getElem? (i := 35) rfl))) (by decide) (t := (.object "com/example/sonde/sonde/engine/Bits")) (t' := (.object "java/util/List")) (by decide) (by decide)))
  have f42 := f27.other W34 (Or.inr (slot_ne (Or.inr (hw _ (List.mem_of_getElem? (i := 51) rfl))) (Or.inr (hw _ (List.mem_of_getElem? (i := 35) rfl))) (by decide) (t := (.object "com/example/sonde/sonde/engine/Bits")) (t' := (.object "java/util/List")) (by decide) (by decide)))
  have f43 := f28.other W34 (Or.inr (slot_ne (Or.inr (hw _ (List.mem_of_getElem? (i := 54) rfl))) (Or.inr (hw _ (List.mem_of_getElem? (i := 35) rfl))) (by decide) (t := (.array (.object "com/example/sonde/sonde/engine/Bits"))) (t' := (.object "java/util/List")) (by decide) (by decide)))
  have f44 := f29.other W34 (Or.inr (slot_ne (Or.inr (hw _ (List.mem_of_getElem? (i := 73) rfl))) (Or.inr (hw _ (List.mem_of_getElem? (i := 35) rfl))) (by decide) (t := (.array (.object "com/example/sonde/sonde/engine/Bits"))) (t' := (.object "java/util/List")) (by decide) (by decide)))
  have f45 := f30.wr W34
  have f46 := FM19.other W34 (Or.inl (Ne.symm ne3))
  have f47 := FE19.other W34 (Or.inl (Ne.symm ne3))
  have f48 := FS19.other W34 (Or.inl (Ne.symm ne3))
  have N34 := Fr.snoc X34 N19 Pau
  have Z34 := own_size_wr W34 Z19
  show own_Go _ _ _ _ (T34.setTop (mkF m 15 #[.val (.ref au), .val (.int (2 : Int32)), .unset] []))
  refine own_by (fun _ k => XS.aloadN X34.here hx rfl (hb hby d1_15) rfl rfl k) ?_
  show own_Go _ _ _ _ (T34.setTop (mkF m 16 #[.val (.ref au), .val (.int (2 : Int32)), .unset] [(.ref au)]))
  obtain ⟨T49, h49, X49, e49, E49, A49, D49, -, st49⟩ := newO X34 hx hZ hown (hw _ (List.mem_of_getElem? (i := 36) rfl)) (hw _ (List.mem_of_getElem? (i := 37) rfl)) (hw _ (List.mem_of_getElem? (i := 38) rfl)) e34 (g := (mkF m 16 #[.val (.ref au), .val (.int (2 : Int32)), .unset] [(.ref au)])) rfl (hb hby d1_16) (by decide) (by decide)
  refine own_by st49 ?_
  show own_Go _ _ _ _ (T49.setTop (mkF m 19 #[.val (.ref au), .val (.int (2 : Int32)), .unset] [.ref h34.size, (.ref au)]))
  obtain ⟨b49, g49⟩ : ∃ z, z = h34.size := ⟨_, rfl⟩
  rw [← g49] at A49 D49
  refine own_gen g49.symm (fun z_ => T49.setTop (mkF m 19 #[.val (.ref au), .val (.int (2 : Int32)), .unset] [.ref z_, (.ref au)])) ?_
  have ne50 : au ≠ b49 := Nat.ne_of_lt (Nat.lt_of_lt_of_le f44.lt (Nat.le_of_eq g49.symm))
  have ne51 : dc ≠ b49 := Nat.ne_of_lt (Nat.lt_of_lt_of_le f38.lt (Nat.le_of_eq g49.symm))
  have ne52 : sa ≠ b49 := Nat.ne_of_lt (Nat.lt_of_lt_of_le f40.lt (Nat.le_of_eq g49.symm))
  have ne53 : b2 ≠ b49 := Nat.ne_of_lt (Nat.lt_of_lt_of_le f48.lt (Nat.le_of_eq g49.symm))
  have ge49 : n0 ≤ b49 := Nat.le_trans Z34 (Nat.le_of_eq g49.symm)
  have nw49 : h0.size ≤ b49 := Nat.le_trans f37.1 (Nat.le_of_eq g49.symm)
  have f54 := f36.ext E49
  have f55 := f37.ext E49
  have f56 := f38.ext E49
  have f57 := f39.ext E49
  have f58 := f40.ext E49
  have f59 := f35.ext E49
  have f60 := f41.ext E49
  have f61 := f42.ext E49
  have f62 := f43.ext E49
  have f63 := f44.ext E49
  have f64 := f45.ext E49
  have f65 := f46.ext E49
  have f66 := f47.ext E49
  have f67 := f48.ext E49
  have Z49 := Nat.le_trans Z34 E49.1
  have f68 : Fld Z h49 b49 "com/example/sonde/sonde/engine/Bits" "words" "[J" .null := D49 (Or.inl (hw _ (List.mem_of_getElem? (i := 45) rfl))) (ty := (.array .long)) (by decide)
  have f69 : Fld Z h49 b49 "com/example/sonde/sonde/engine/Bits" "held" "[J" .null := D49 (Or.inl (hw _ (List.mem_of_getElem? (i := 47) rfl))) (ty := (.array .long)) (by decide)
  show own_Go _ _ _ _ (T49.setTop (mkF m 19 #[.val (.ref au), .val (.int (2 : Int32)), .unset] [(.ref b49), (.ref au)]))
  refine own_by (fun _ k => XS.dup X49.here hx rfl (hb hby d1_19) rfl rfl k) ?_
  show own_Go _ _ _ _ (T49.setTop (mkF m 20 #[.val (.ref au), .val (.int (2 : Int32)), .unset] [(.ref b49), (.ref b49), (.ref au)]))
  refine own_callI X49 hx hZ hown rfl (hw _ (List.mem_of_getElem? (i := 39) rfl)) (hw _ (List.mem_of_getElem? (i := 40) rfl)) (hw _ (List.mem_of_getElem? (i := 38) rfl)) (hw _ (List.mem_of_getElem? (i := 41) rfl)) (by decide) (rm6 l Z a0 hw [] b49 h49 n0 Z49 A49 f68 f69 ge49) e49 (by rw [hml]; rfl) b49 [] [(.ref b49), (.ref au)] rfl (lenOf own_pd2 rfl) rfl 2 (Nat.le_of_eq rfl) (by decide) (by decide) (Nat.le_of_ble_eq_true rfl) (Nat.le_of_ble_eq_true rfl) (hb hby d1_20) ?_
  intro T70 Lc70 v70 X70 hQ70
  obtain ⟨h70, e70⟩ : ∃ h, T70.heap = h := ⟨_, rfl⟩
  rw [e70] at hQ70
  obtain ⟨rfl, N70q, K70, wz70, dz70, B70, nww70, nwd70⟩ := hQ70
  have N70 := Fr.app N34 N70q
  have f71 := f54.keep K70
  have f72 := f55.trans K70 (allS (P := fun x => x ∈ [au] ∨ h0.size ≤ x) (Or.inr nw49) all0)
  have f73 := f56.keep K70 (ninS ne51 nin0)
  have f74 := own_sta_keep f57 K70 (nsS A49.nostat ns0)
  have f75 := f58.keep K70
  have f76 := f59.keep K70 (ninS ne50 nin0)
  have f77 := f60.keep K70 (ninS ne50 nin0)
  have f78 := f61.keep K70 (ninS ne50 nin0)
  have f79 := f62.keep K70 (ninS ne50 nin0)
  have f80 := f63.keep K70 (ninS ne50 nin0)
  have f81 := f64.keep K70
  have f82 := f65.keep K70 (ninS ne53 nin0)
  have f83 := f66.keep K70 (ninS ne53 nin0)
  have f84 := f67.keep K70 (ninS ne53 nin0)
  have f85 := A49.keep K70
  have Z70 := Nat.le_trans Z49 K70.1
  have ne88 : au ≠ wz70 := Nat.ne_of_lt (Nat.lt_of_lt_of_le f63.lt nww70)
  have ne89 : dc ≠ wz70 := Nat.ne_of_lt (Nat.lt_of_lt_of_le f56.lt nww70)
  have ne90 : sa ≠ wz70 := Nat.ne_of_lt (Nat.lt_of_lt_of_le f58.lt nww70)
  have ne91 : b2 ≠ wz70 := Nat.ne_of_lt (Nat.lt_of_lt_of_le f67.lt nww70)
  have ne92 : b49 ≠ wz70 := Nat.ne_of_lt (Nat.lt_of_lt_of_le f69.lt nww70)
  have nk_wz70 : h0.size ≤ wz70 := Nat.le_trans f55.1 nww70
  have ne93 : au ≠ dz70 := Nat.ne_of_lt (Nat.lt_of_lt_of_le f63.lt nwd70)
  have ne94 : dc ≠ dz70 := Nat.ne_of_lt (Nat.lt_of_lt_of_le f56.lt nwd70)
  have ne95 : sa ≠ dz70 := Nat.ne_of_lt (Nat.lt_of_lt_of_le f58.lt nwd70)
  have ne96 : b2 ≠ dz70 := Nat.ne_of_lt (Nat.lt_of_lt_of_le f67.lt nwd70)
  have ne97 : b49 ≠ dz70 := Nat.ne_of_lt (Nat.lt_of_lt_of_le f69.lt nwd70)
  have nk_dz70 : h0.size ≤ dz70 := Nat.le_trans f55.1 nwd70
  have neb70 : b49 ≠ wz70 := by obtain ⟨-, -, -, _, _, _, _, -, -, -, -, -, -, q, -⟩ := B70; exact q
  show own_Go _ _ _ _ (T70.setTop (mkF m 23 #[.val (.ref au), .val (.int (2 : Int32)), .unset] [(.ref b49), (.ref au)]))
  obtain ⟨T98, h98, X98, e98, W98, st98⟩ := putF X70 hx hZ hown (host := "") (Or.inl (hw _ (List.mem_of_getElem? (i := 48) rfl))) Via.refl e70 f77 f71 (Or.inr ⟨(hw _ (List.mem_of_getElem? (i := 49) rfl)), rfl, hnm⟩) (hw _ (List.mem_of_getElem? (i := 2) rfl)) (ty := (.object "com/example/sonde/sonde/engine/Bits")) (by decide) rfl rfl (g := (mkF m 23 #[.val (.ref au), .val (.int (2 : Int32)), .unset] [(.ref b49), (.ref au)])) rfl rfl (hb hby d1_23)
  refine own_by st98 ?_
  have f99 := f77.same W98
  have f100 := f71.wr W98
  have f101 := f72.wr W98 (Or.inl (List.mem_of_getElem? (i := 0) rfl))
  have f102 := f73.other W98 Pnd
  have f103 := f74.wr W98
  have f104 := f75.wr W98
  have f105 := f76.other W98 (Or.inr (slot_ne (Or.inr (hw _ (List.mem_of_getElem? (i := 35) rfl))) (Or.inr (hw _ (List.mem_of_getElem? (i := 49) rfl))) (by decide) (t := (.object "java/util/List")) (t' := (.object "com/example/sonde/sonde/engine/Bits")) (by decide) (by decide)))
  have f106 := f78.other W98 (Or.inr (slot_ne (Or.inr (hw _ (List.mem_of_getElem? (i := 51) rfl))) (Or.inr (hw _ (List.mem_of_getElem? (i := 49) rfl))) (by decide) (t := (.object "com/example/sonde/sonde/engine/Bits")) (t' := (.object "com/example/sonde/sonde/engine/Bits")) (by decide) (by decide)))
  have f107 := f79.other W98 (Or.inr (slot_ne (Or.inr (hw _ (List.mem_of_getElem? (i := 54) rfl))) (Or.inr (hw _ (List.mem_of_getElem? (i := 49) rfl))) (by decide) (t := (.array (.object "com/example/sonde/sonde/engine/Bits"))) (t' := (.object "com/example/sonde/sonde/engine/Bits")) (by decide) (by decide)))
  have f108 := f80.other W98 (Or.inr (slot_ne (Or.inr (hw _ (List.mem_of_getElem? (i := 73) rfl))) (Or.inr (hw _ (List.mem_of_getElem? (i := 49) rfl))) (by decide) (t := (.array (.object "com/example/sonde/sonde/engine/Bits"))) (t' := (.object "com/example/sonde/sonde/engine/Bits")) (by decide) (by decide)))
  have f109 := f81.wr W98
  have f110 := f82.other W98 (Or.inl (Ne.symm ne3))
  have f111 := f83.other W98 (Or.inl (Ne.symm ne3))
  have f112 := f84.other W98 (Or.inl (Ne.symm ne3))
  have f113 := f85.wr W98
  have f114 := B70.other W98 (Ne.symm ne50) (Ne.symm ne88) (Ne.symm ne93)
  have N98 := Fr.snoc X98 N70 Pau
  have Z98 := own_size_wr W98 Z70
  show own_Go _ _ _ _ (T98.setTop (mkF m 26 #[.val (.ref au), .val (.int (2 : Int32)), .unset] []))
  refine own_by (fun _ k => XS.aloadN X98.here hx rfl (hb hby d1_26) rfl rfl k) ?_
  show own_Go _ _ _ _ (T98.setTop (mkF m 27 #[.val (.ref au), .val (.int (2 : Int32)), .unset] [(.ref au)]))
  obtain ⟨T115, h115, X115, e115, E115, A115, D115, -, st115⟩ := newO X98 hx hZ hown (hw _ (List.mem_of_getElem? (i := 36) rfl)) (hw _ (List.mem_of_getElem? (i := 37) rfl)) (hw _ (List.mem_of_getElem? (i := 38) rfl)) e98 (g := (mkF m 27 #[.val (.ref au), .val (.int (2 : Int32)), .unset] [(.ref au)])) rfl (hb hby d1_27) (by decide) (by decide)
  refine own_by st115 ?_
  show own_Go _ _ _ _ (T115.setTop (mkF m 30 #[.val (.ref au), .val (.int (2 : Int32)), .unset] [.ref h98.size, (.ref au)]))
  obtain ⟨b115, g115⟩ : ∃ z, z = h98.size := ⟨_, rfl⟩
  rw [← g115] at A115 D115
  refine own_gen g115.symm (fun z_ => T115.setTop (mkF m 30 #[.val (.ref au), .val (.int (2 : Int32)), .unset] [.ref z_, (.ref au)])) ?_
  have ne116 : au ≠ b115 := Nat.ne_of_lt (Nat.lt_of_lt_of_le f108.lt (Nat.le_of_eq g115.symm))
  have ne117 : dc ≠ b115 := Nat.ne_of_lt (Nat.lt_of_lt_of_le f102.lt (Nat.le_of_eq g115.symm))
  have ne118 : sa ≠ b115 := Nat.ne_of_lt (Nat.lt_of_lt_of_le f104.lt (Nat.le_of_eq g115.symm))
  have ne119 : b2 ≠ b115 := Nat.ne_of_lt (Nat.lt_of_lt_of_le f112.lt (Nat.le_of_eq g115.symm))
  have ne120 : b49 ≠ b115 := Nat.ne_of_lt (Nat.lt_of_lt_of_le f114.lb (Nat.le_of_eq g115.symm))
  have ne121 : wz70 ≠ b115 := Nat.ne_of_lt (Nat.lt_of_lt_of_le f114.lw (Nat.le_of_eq g115.symm))
  have ne122 : dz70 ≠ b115 := Nat.ne_of_lt (Nat.lt_of_lt_of_le f114.ld (Nat.le_of_eq g115.symm))
  have ge115 : n0 ≤ b115 := Nat.le_trans Z98 (Nat.le_of_eq g115.symm)
  have nw115 : h0.size ≤ b115 := Nat.le_trans f101.1 (Nat.le_of_eq g115.symm)
  have f123 := f100.ext E115
  have f124 := f101.ext E115
  have f125 := f102.ext E115
  have f126 := f103.ext E115
  have f127 := f104.ext E115
  have f128 := f105.ext E115
  have f129 := f99.ext E115
  have f130 := f106.ext E115
  have f131 := f107.ext E115
  have f132 := f108.ext E115
  have f133 := f109.ext E115
  have f134 := f110.ext E115
  have f135 := f111.ext E115
  have f136 := f112.ext E115
  have f137 := f113.ext E115
  have f138 := f114.ext E115
  have Z115 := Nat.le_trans Z98 E115.1
  have f139 : Fld Z h115 b115 "com/example/sonde/sonde/engine/Bits" "words" "[J" .null := D115 (Or.inl (hw _ (List.mem_of_getElem? (i := 45) rfl))) (ty := (.array .long)) (by decide)
  have f140 : Fld Z h115 b115 "com/example/sonde/sonde/engine/Bits" "held" "[J" .null := D115 (Or.inl (hw _ (List.mem_of_getElem? (i := 47) rfl))) (ty := (.array .long)) (by decide)
  show own_Go _ _ _ _ (T115.setTop (mkF m 30 #[.val (.ref au), .val (.int (2 : Int32)), .unset] [(.ref b115), (.ref au)]))
  refine own_by (fun _ k => XS.dup X115.here hx rfl (hb hby d1_30) rfl rfl k) ?_
  show own_Go _ _ _ _ (T115.setTop (mkF m 31 #[.val (.ref au), .val (.int (2 : Int32)), .unset] [(.ref b115), (.ref b115), (.ref au)]))
  refine own_callI X115 hx hZ hown rfl (hw _ (List.mem_of_getElem? (i := 39) rfl)) (hw _ (List.mem_of_getElem? (i := 40) rfl)) (hw _ (List.mem_of_getElem? (i := 38) rfl)) (hw _ (List.mem_of_getElem? (i := 41) rfl)) (by decide) (rm6 l Z a0 hw [] b115 h115 n0 Z115 A115 f139 f140 ge115) e115 (by rw [hml]; rfl) b115 [] [(.ref b115), (.ref au)] rfl (lenOf own_pd2 rfl) rfl 2 (Nat.le_of_eq rfl) (by decide) (by decide) (Nat.le_of_ble_eq_true rfl) (Nat.le_of_ble_eq_true rfl) (hb hby d1_31) ?_
  intro T141 Lc141 v141 X141 hQ141
  obtain ⟨h141, e141⟩ : ∃ h, T141.heap = h := ⟨_, rfl⟩
  rw [e141] at hQ141
  obtain ⟨rfl, N141q, K141, wz141, dz141, B141, nww141, nwd141⟩ := hQ141
  have N141 := Fr.app N98 N141q
  have f142 := f123.keep K141
  have f143 := f124.trans K141 (allS (P := fun x => x ∈ [au] ∨ h0.size ≤ x) (Or.inr nw115) all0)
  have f144 := f125.keep K141 (ninS ne117 nin0)
  have f145 := own_sta_keep f126 K141 (nsS A115.nostat ns0)
  have f146 := f127.keep K141
  have f147 := f128.keep K141 (ninS ne116 nin0)
  have f148 := f129.keep K141 (ninS ne116 nin0)
  have f149 := f130.keep K141 (ninS ne116 nin0)
  have f150 := f131.keep K141 (ninS ne116 nin0)
  have f151 := f132.keep K141 (ninS ne116 nin0)
  have f152 := f133.keep K141
  have f153 := f134.keep K141 (ninS ne119 nin0)
  have f154 := f135.keep K141 (ninS ne119 nin0)
  have f155 := f136.keep K141 (ninS ne119 nin0)
  have f156 := f137.keep K141
  have f157 := f138.keep K141 (ninS ne120 nin0) (ninS ne121 nin0) (ninS ne122 nin0)
  have f158 := A115.keep K141
  have Z141 := Nat.le_trans Z115 K141.1
  have ne161 : au ≠ wz141 := Nat.ne_of_lt (Nat.lt_of_lt_of_le f132.lt nww141)
  have ne162 : dc ≠ wz141 := Nat.ne_of_lt (Nat.lt_of_lt_of_le f125.lt nww141)
  have ne163 : sa ≠ wz141 := Nat.ne_of_lt (Nat.lt_of_lt_of_le f127.lt nww141)
  have ne164 : b2 ≠ wz141 := Nat.ne_of_lt (Nat.lt_of_lt_of_le f136.lt nww141)
  have ne165 : b49 ≠ wz141 := Nat.ne_of_lt (Nat.lt_of_lt_of_le f138.lb nww141)
  have ne166 : wz70 ≠ wz141 := Nat.ne_of_lt (Nat.lt_of_lt_of_le f138.lw nww141)
  have ne167 : dz70 ≠ wz141 := Nat.ne_of_lt (Nat.lt_of_lt_of_le f138.ld nww141)
  have ne168 : b115 ≠ wz141 := Nat.ne_of_lt (Nat.lt_of_lt_of_le f140.lt nww141)
  have nk_wz141 : h0.size ≤ wz141 := Nat.le_trans f124.1 nww141
  have ne169 : au ≠ dz141 := Nat.ne_of_lt (Nat.lt_of_lt_of_le f132.lt nwd141)
  have ne170 : dc ≠ dz141 := Nat.ne_of_lt (Nat.lt_of_lt_of_le f125.lt nwd141)
  have ne171 : sa ≠ dz141 := Nat.ne_of_lt (Nat.lt_of_lt_of_le f127.lt nwd141)
  have ne172 : b2 ≠ dz141 := Nat.ne_of_lt (Nat.lt_of_lt_of_le f136.lt nwd141)
  have ne173 : b49 ≠ dz141 := Nat.ne_of_lt (Nat.lt_of_lt_of_le f138.lb nwd141)
  have ne174 : wz70 ≠ dz141 := Nat.ne_of_lt (Nat.lt_of_lt_of_le f138.lw nwd141)
  have ne175 : dz70 ≠ dz141 := Nat.ne_of_lt (Nat.lt_of_lt_of_le f138.ld nwd141)
  have ne176 : b115 ≠ dz141 := Nat.ne_of_lt (Nat.lt_of_lt_of_le f140.lt nwd141)
  have nk_dz141 : h0.size ≤ dz141 := Nat.le_trans f124.1 nwd141
  have neb141 : b115 ≠ wz141 := by obtain ⟨-, -, -, _, _, _, _, -, -, -, -, -, -, q, -⟩ := B141; exact q
  show own_Go _ _ _ _ (T141.setTop (mkF m 34 #[.val (.ref au), .val (.int (2 : Int32)), .unset] [(.ref b115), (.ref au)]))
  obtain ⟨T177, h177, X177, e177, W177, st177⟩ := putF X141 hx hZ hown (host := "") (Or.inl (hw _ (List.mem_of_getElem? (i := 50) rfl))) Via.refl e141 f149 f142 (Or.inr ⟨(hw _ (List.mem_of_getElem? (i := 51) rfl)), rfl, hnm⟩) (hw _ (List.mem_of_getElem? (i := 2) rfl)) (ty := (.object "com/example/sonde/sonde/engine/Bits")) (by decide) rfl rfl (g := (mkF m 34 #[.val (.ref au), .val (.int (2 : Int32)), .unset] [(.ref b115), (.ref au)])) rfl rfl (hb hby d1_34)
  refine own_by st177 ?_
  have f178 := f149.same W177
  have f179 := f142.wr W177
  have f180 := f143.wr W177 (Or.inl (List.mem_of_getElem? (i := 0) rfl))
  have f181 := f144.other W177 Pnd
  have f182 := f145.wr W177
  have f183 := f146.wr W177
  have f184 := f147.other W177 (Or.inr (slot_ne (Or.inr (hw _ (List.mem_of_getElem? (i := 35) rfl))) (Or.inr (hw _ (List.mem_of_getElem? (i := 51) rfl))) (by decide) (t := (.object "java/util/List")) (t' := (.object "com/example/sonde/sonde/engine/Bits")) (by decide) (by decide)))
  have f185 := f148.other W177 (Or.inr (slot_ne (Or.inr (hw _ (List.mem_of_getElem? (i := 49) rfl))) (Or.inr (hw _ (List.mem_of_getElem? (i := 51) rfl))) (by decide) (t := (.object "com/example/sonde/sonde/engine/Bits")) (t' := (.object "com/example/sonde/sonde/engine/Bits")) (by decide) (by decide)))
  have f186 := f150.other W177 (Or.inr (slot_ne (Or.inr (hw _ (List.mem_of_getElem? (i := 54) rfl))) (Or.inr (hw _ (List.mem_of_getElem? (i := 51) rfl))) (by decide) (t := (.array (.object "com/example/sonde/sonde/engine/Bits"))) (t' := (.object "com/example/sonde/sonde/engine/Bits")) (by decide) (by decide)))
  have f187 := f151.other W177 (Or.inr (slot_ne (Or.inr (hw _ (List.mem_of_getElem? (i := 73) rfl))) (Or.inr (hw _ (List.mem_of_getElem? (i := 51) rfl))) (by decide) (t := (.array (.object "com/example/sonde/sonde/engine/Bits"))) (t' := (.object "com/example/sonde/sonde/engine/Bits")) (by decide) (by decide)))
  have f188 := f152.wr W177
  have f189 := f153.other W177 (Or.inl (Ne.symm ne3))
  have f190 := f154.other W177 (Or.inl (Ne.symm ne3))
  have f191 := f155.other W177 (Or.inl (Ne.symm ne3))
  have f192 := f156.wr W177
  have f193 := f157.other W177 (Ne.symm ne50) (Ne.symm ne88) (Ne.symm ne93)
  have f194 := f158.wr W177
  have f195 := B141.other W177 (Ne.symm ne116) (Ne.symm ne161) (Ne.symm ne169)
  have N177 := Fr.snoc X177 N141 Pau
  have Z177 := own_size_wr W177 Z141
  show own_Go _ _ _ _ (T177.setTop (mkF m 37 #[.val (.ref au), .val (.int (2 : Int32)), .unset] []))
  refine own_by (fun _ k => XS.aloadN X177.here hx rfl (hb hby d1_37) rfl rfl k) ?_
  refine own_by (fun _ k => XS.iloadN X177.here hx rfl (hb hby d1_38) rfl k) ?_
  show own_Go _ _ _ _ (T177.setTop (mkF m 39 #[.val (.ref au), .val (.int (2 : Int32)), .unset] [(.int (2 : Int32)), (.ref au)]))
  refine own_newR X177 hx hZ hown (hw _ (List.mem_of_getElem? (i := 36) rfl)) (hw _ (List.mem_of_getElem? (i := 52) rfl)) e177 2 (by decide) 2 (by decide) (by decide) (by decide) (by decide) (hb hby d1_39) ?_
  intro T196 h196 X196 e196 E196 A196
  show own_Go _ _ _ _ (T196.setTop (mkF m 42 #[.val (.ref au), .val (.int (2 : Int32)), .unset] [.ref h177.size, (.ref au)]))
  obtain ⟨b196, g196⟩ : ∃ z, z = h177.size := ⟨_, rfl⟩
  rw [← g196] at A196
  refine own_gen g196.symm (fun z_ => T196.setTop (mkF m 42 #[.val (.ref au), .val (.int (2 : Int32)), .unset] [.ref z_, (.ref au)])) ?_
  have ne197 : au ≠ b196 := Nat.ne_of_lt (Nat.lt_of_lt_of_le f187.lt (Nat.le_of_eq g196.symm))
  have ne198 : dc ≠ b196 := Nat.ne_of_lt (Nat.lt_of_lt_of_le f181.lt (Nat.le_of_eq g196.symm))
  have ne199 : sa ≠ b196 := Nat.ne_of_lt (Nat.lt_of_lt_of_le f183.lt (Nat.le_of_eq g196.symm))
  have ne200 : b2 ≠ b196 := Nat.ne_of_lt (Nat.lt_of_lt_of_le f191.lt (Nat.le_of_eq g196.symm))
  have ne201 : b49 ≠ b196 := Nat.ne_of_lt (Nat.lt_of_lt_of_le f193.lb (Nat.le_of_eq g196.symm))
  have ne202 : wz70 ≠ b196 := Nat.ne_of_lt (Nat.lt_of_lt_of_le f193.lw (Nat.le_of_eq g196.symm))
  have ne203 : dz70 ≠ b196 := Nat.ne_of_lt (Nat.lt_of_lt_of_le f193.ld (Nat.le_of_eq g196.symm))
  have ne204 : b115 ≠ b196 := Nat.ne_of_lt (Nat.lt_of_lt_of_le f195.lb (Nat.le_of_eq g196.symm))
  have ne205 : wz141 ≠ b196 := Nat.ne_of_lt (Nat.lt_of_lt_of_le f195.lw (Nat.le_of_eq g196.symm))
  have ne206 : dz141 ≠ b196 := Nat.ne_of_lt (Nat.lt_of_lt_of_le f195.ld (Nat.le_of_eq g196.symm))
  have ge196 : n0 ≤ b196 := Nat.le_trans Z177 (Nat.le_of_eq g196.symm)
  have nw196 : h0.size ≤ b196 := Nat.le_trans f180.1 (Nat.le_of_eq g196.symm)
  have f207 := f179.ext E196
  have f208 := f180.ext E196
  have f209 := f181.ext E196
  have f210 := f182.ext E196
  have f211 := f183.ext E196
  have f212 := f184.ext E196
  have f213 := f185.ext E196
  have f214 := f178.ext E196
  have f215 := f186.ext E196
  have f216 := f187.ext E196
  have f217 := f188.ext E196
  have f218 := f189.ext E196
  have f219 := f190.ext E196
  have f220 := f191.ext E196
  have f221 := f192.ext E196
  have f222 := f193.ext E196
  have f223 := f194.ext E196
  have f224 := f195.ext E196
  have Z196 := Nat.le_trans Z177 E196.1
  show own_Go _ _ _ _ (T196.setTop (mkF m 42 #[.val (.ref au), .val (.int (2 : Int32)), .unset] [(.ref b196), (.ref au)]))
  obtain ⟨T225, h225, X225, e225, W225, st225⟩ := putF X196 hx hZ hown (host := "") (Or.inl (hw _ (List.mem_of_getElem? (i := 53) rfl))) Via.refl e196 f215 f207 (Or.inr ⟨(hw _ (List.mem_of_getElem? (i := 54) rfl)), rfl, hnm⟩) (hw _ (List.mem_of_getElem? (i := 2) rfl)) (ty := (.array (.object "com/example/sonde/sonde/engine/Bits"))) (by decide) rfl rfl (g := (mkF m 42 #[.val (.ref au), .val (.int (2 : Int32)), .unset] [(.ref b196), (.ref au)])) rfl rfl (hb hby d1_42)
  refine own_by st225 ?_
  have f226 := f215.same W225
  have f227 := f207.wr W225
  have f228 := f208.wr W225 (Or.inl (List.mem_of_getElem? (i := 0) rfl))
  have f229 := f209.other W225 Pnd
  have f230 := f210.wr W225
  have f231 := f211.wr W225
  have f232 := f212.other W225 (Or.inr (slot_ne (Or.inr (hw _ (List.mem_of_getElem? (i := 35) rfl))) (Or.inr (hw _ (List.mem_of_getElem? (i := 54) rfl))) (by decide) (t := (.object "java/util/List")) (t' := (.array (.object "com/example/sonde/sonde/engine/Bits"))) (by decide) (by decide)))
  have f233 := f213.other W225 (Or.inr (slot_ne (Or.inr (hw _ (List.mem_of_getElem? (i := 49) rfl))) (Or.inr (hw _ (List.mem_of_getElem? (i := 54) rfl))) (by decide) (t := (.object "com/example/sonde/sonde/engine/Bits")) (t' := (.array (.object "com/example/sonde/sonde/engine/Bits"))) (by decide) (by decide)))
  have f234 := f214.other W225 (Or.inr (slot_ne (Or.inr (hw _ (List.mem_of_getElem? (i := 51) rfl))) (Or.inr (hw _ (List.mem_of_getElem? (i := 54) rfl))) (by decide) (t := (.object "com/example/sonde/sonde/engine/Bits")) (t' := (.array (.object "com/example/sonde/sonde/engine/Bits"))) (by decide) (by decide)))
  have f235 := f216.other W225 (Or.inr (slot_ne (Or.inr (hw _ (List.mem_of_getElem? (i := 73) rfl))) (Or.inr (hw _ (List.mem_of_getElem? (i := 54) rfl))) (by decide) (t := (.array (.object "com/example/sonde/sonde/engine/Bits"))) (t' := (.array (.object "com/example/sonde/sonde/engine/Bits"))) (by decide) (by decide)))
  have f236 := f217.wr W225
  have f237 := f218.other W225 (Or.inl (Ne.symm ne3))
  have f238 := f219.other W225 (Or.inl (Ne.symm ne3))
  have f239 := f220.other W225 (Or.inl (Ne.symm ne3))
  have f240 := f221.wr W225
  have f241 := f222.other W225 (Ne.symm ne50) (Ne.symm ne88) (Ne.symm ne93)
  have f242 := f223.wr W225
  have f243 := f224.other W225 (Ne.symm ne116) (Ne.symm ne161) (Ne.symm ne169)
  have f244 := A196.other W225 (Ne.symm ne197)
  have N225 := Fr.snoc X225 N177 Pau
  have Z225 := own_size_wr W225 Z196
  show own_Go _ _ _ _ (T225.setTop (mkF m 45 #[.val (.ref au), .val (.int (2 : Int32)), .unset] []))
  refine own_by (fun _ k => XS.aloadN X225.here hx rfl (hb hby d1_45) rfl rfl k) ?_
  show own_Go _ _ _ _ (T225.setTop (mkF m 46 #[.val (.ref au), .val (.int (2 : Int32)), .unset] [(.ref au)]))
  obtain ⟨T245, X245, e245, st245⟩ := getF X225 hx hZ hown (host := "") (Or.inl (hw _ (List.mem_of_getElem? (i := 53) rfl))) Via.refl e225 f226 (g := (mkF m 46 #[.val (.ref au), .val (.int (2 : Int32)), .unset] [(.ref au)])) rfl rfl (hb hby d1_46)
  refine own_by st245 ?_
  show own_Go _ _ _ _ (T245.setTop (mkF m 49 #[.val (.ref au), .val (.int (2 : Int32)), .unset] [(.ref b196)]))
  refine own_by (fun _ k => own_site X245 hx hZ Bd.named PSt (by rw [hml]; rfl) (hb hby d1_49) 1 (Nat.le_of_eq rfl) (by decide) k) ?_
  show own_Go _ _ _ _ (T245.setTop (mkF m 54 #[.val (.ref au), .val (.int (2 : Int32)), .unset] [(.ref sa), (.ref b196)]))
  refine own_callSL X245 hx hZ hown hH (hw _ (List.mem_of_getElem? (i := 58) rfl)) (hw _ (List.mem_of_getElem? (i := 59) rfl)) (hw _ (List.mem_of_getElem? (i := 60) rfl)) (hw _ (List.mem_of_getElem? (i := 61) rfl)) (by decide) (rm7_2 l Z a0 hw [] b196 sa cK (fun _ => .null) h225 n0 Z225 f244 f231 PSt ge196) e245 (by rw [hml]; rfl) [(.ref b196), (.ref sa)] [] rfl (lenOf own_pd3 rfl) rfl 0 (Nat.le_of_eq rfl) (by decide) (by decide) (Nat.le_of_ble_eq_true rfl) (Nat.le_of_ble_eq_true rfl) (hb hby d1_54) ?_
  intro T246 Lc246 v246 X246 hQ246
  obtain ⟨h246, e246⟩ : ∃ h, T246.heap = h := ⟨_, rfl⟩
  rw [e246] at hQ246
  obtain ⟨rfl, N246q, K246, fz246, AR246⟩ := hQ246
  have N246 := Fr.app N225 N246q
  have f247 := f227.keep K246
  have f248 := f228.trans K246 (allS (P := fun x => x ∈ [au] ∨ h0.size ≤ x) (Or.inr nw196) all0)
  have f249 := f229.keep K246 (ninS ne198 nin0)
  have f250 := own_sta_keep f230 K246 (nsS f244.nostat ns0)
  have f251 := f231.keep K246
  have f252 := f232.keep K246 (ninS ne197 nin0)
  have f253 := f233.keep K246 (ninS ne197 nin0)
  have f254 := f234.keep K246 (ninS ne197 nin0)
  have f255 := f226.keep K246 (ninS ne197 nin0)
  have f256 := f235.keep K246 (ninS ne197 nin0)
  have f257 := f236.keep K246
  have f258 := f237.keep K246 (ninS ne200 nin0)
  have f259 := f238.keep K246 (ninS ne200 nin0)
  have f260 := f239.keep K246 (ninS ne200 nin0)
  have f261 := f240.keep K246
  have f262 := f241.keep K246 (ninS ne201 nin0) (ninS ne202 nin0) (ninS ne203 nin0)
  have f263 := f242.keep K246
  have f264 := f243.keep K246 (ninS ne204 nin0) (ninS ne205 nin0) (ninS ne206 nin0)
  have Z246 := Nat.le_trans Z225 K246.1
  show own_Go _ _ _ _ (T246.setTop (mkF m 57 #[.val (.ref au), .val (.int (2 : Int32)), .unset] []))
  refine own_by (fun _ k => XS.aloadN X246.here hx rfl (hb hby d1_57) rfl rfl k) ?_
  refine own_by (fun _ k => XS.iloadN X246.here hx rfl (hb hby d1_58) rfl k) ?_
  refine own_by (fun _ k => XS.iloadN X246.here hx rfl (hb hby d1_59) rfl k) ?_
  show own_Go _ _ _ _ (T246.setTop (mkF m 60 #[.val (.ref au), .val (.int (2 : Int32)), .unset] [(.int (2 : Int32)), (.int (2 : Int32)), (.ref au)]))
  refine own_by (fun _ k => XS.imul X246.here hx rfl (hb hby d1_60) rfl k) ?_
  show own_Go _ _ _ _ (T246.setTop (mkF m 61 #[.val (.ref au), .val (.int (2 : Int32)), .unset] [(.int ((2 : Int32) * (2 : Int32))), (.ref au)]))
  rw [(by decide : ((2 : Int32) * (2 : Int32)) = (4 : Int32))]
  show own_Go _ _ _ _ (T246.setTop (mkF m 61 #[.val (.ref au), .val (.int (2 : Int32)), .unset] [(.int (4 : Int32)), (.ref au)]))
  refine own_newR X246 hx hZ hown (hw _ (List.mem_of_getElem? (i := 36) rfl)) (hw _ (List.mem_of_getElem? (i := 52) rfl)) e246 4 (by decide) 4 (by decide) (by decide) (by decide) (by decide) (hb hby d1_61) ?_
  intro T266 h266 X266 e266 E266 A266
  show own_Go _ _ _ _ (T266.setTop (mkF m 64 #[.val (.ref au), .val (.int (2 : Int32)), .unset] [.ref h246.size, (.ref au)]))
  obtain ⟨b266, g266⟩ : ∃ z, z = h246.size := ⟨_, rfl⟩
  rw [← g266] at A266
  refine own_gen g266.symm (fun z_ => T266.setTop (mkF m 64 #[.val (.ref au), .val (.int (2 : Int32)), .unset] [.ref z_, (.ref au)])) ?_
  have ne267 : au ≠ b266 := Nat.ne_of_lt (Nat.lt_of_lt_of_le f256.lt (Nat.le_of_eq g266.symm))
  have ne268 : dc ≠ b266 := Nat.ne_of_lt (Nat.lt_of_lt_of_le f249.lt (Nat.le_of_eq g266.symm))
  have ne269 : sa ≠ b266 := Nat.ne_of_lt (Nat.lt_of_lt_of_le f251.lt (Nat.le_of_eq g266.symm))
  have ne270 : b2 ≠ b266 := Nat.ne_of_lt (Nat.lt_of_lt_of_le f260.lt (Nat.le_of_eq g266.symm))
  have ne271 : b49 ≠ b266 := Nat.ne_of_lt (Nat.lt_of_lt_of_le f262.lb (Nat.le_of_eq g266.symm))
  have ne272 : wz70 ≠ b266 := Nat.ne_of_lt (Nat.lt_of_lt_of_le f262.lw (Nat.le_of_eq g266.symm))
  have ne273 : dz70 ≠ b266 := Nat.ne_of_lt (Nat.lt_of_lt_of_le f262.ld (Nat.le_of_eq g266.symm))
  have ne274 : b115 ≠ b266 := Nat.ne_of_lt (Nat.lt_of_lt_of_le f264.lb (Nat.le_of_eq g266.symm))
  have ne275 : wz141 ≠ b266 := Nat.ne_of_lt (Nat.lt_of_lt_of_le f264.lw (Nat.le_of_eq g266.symm))
  have ne276 : dz141 ≠ b266 := Nat.ne_of_lt (Nat.lt_of_lt_of_le f264.ld (Nat.le_of_eq g266.symm))
  have ne277 : b196 ≠ b266 := Nat.ne_of_lt (Nat.lt_of_lt_of_le AR246.lt (Nat.le_of_eq g266.symm))
  have ge266 : n0 ≤ b266 := Nat.le_trans Z246 (Nat.le_of_eq g266.symm)
  have nw266 : h0.size ≤ b266 := Nat.le_trans f248.1 (Nat.le_of_eq g266.symm)
  have f278 := f247.ext E266
  have f279 := f248.ext E266
  have f280 := f249.ext E266
  have f281 := f250.ext E266
  have f282 := f251.ext E266
  have f283 := f252.ext E266
  have f284 := f253.ext E266
  have f285 := f254.ext E266
  have f286 := f255.ext E266
  have f287 := f256.ext E266
  have f288 := f257.ext E266
  have f289 := f258.ext E266
  have f290 := f259.ext E266
  have f291 := f260.ext E266
  have f292 := f261.ext E266
  have f293 := f262.ext E266
  have f294 := f263.ext E266
  have f295 := f264.ext E266
  have f296 := AR246.ext E266
  have Z266 := Nat.le_trans Z246 E266.1
  show own_Go _ _ _ _ (T266.setTop (mkF m 64 #[.val (.ref au), .val (.int (2 : Int32)), .unset] [(.ref b266), (.ref au)]))
  obtain ⟨T297, h297, X297, e297, W297, st297⟩ := putF X266 hx hZ hown (host := "") (Or.inl (hw _ (List.mem_of_getElem? (i := 72) rfl))) Via.refl e266 f287 f278 (Or.inr ⟨(hw _ (List.mem_of_getElem? (i := 73) rfl)), rfl, hnm⟩) (hw _ (List.mem_of_getElem? (i := 2) rfl)) (ty := (.array (.object "com/example/sonde/sonde/engine/Bits"))) (by decide) rfl rfl (g := (mkF m 64 #[.val (.ref au), .val (.int (2 : Int32)), .unset] [(.ref b266), (.ref au)])) rfl rfl (hb hby d1_64)
  refine own_by st297 ?_
  have f298 := f287.same W297
  have f299 := f278.wr W297
  have f300 := f279.wr W297 (Or.inl (List.mem_of_getElem? (i := 0) rfl))
  have f301 := f280.other W297 Pnd
  have f302 := f281.wr W297
  have f303 := f282.wr W297
  have f304 := f283.other W297 (Or.inr (slot_ne (Or.inr (hw _ (List.mem_of_getElem? (i := 35) rfl))) (Or.inr (hw _ (List.mem_of_getElem? (i := 73) rfl))) (by decide) (t := (.object "java/util/List")) (t' := (.array (.object "com/example/sonde/sonde/engine/Bits"))) (by decide) (by decide)))
  have f305 := f284.other W297 (Or.inr (slot_ne (Or.inr (hw _ (List.mem_of_getElem? (i := 49) rfl))) (Or.inr (hw _ (List.mem_of_getElem? (i := 73) rfl))) (by decide) (t := (.object "com/example/sonde/sonde/engine/Bits")) (t' := (.array (.object "com/example/sonde/sonde/engine/Bits"))) (by decide) (by decide)))
  have f306 := f285.other W297 (Or.inr (slot_ne (Or.inr (hw _ (List.mem_of_getElem? (i := 51) rfl))) (Or.inr (hw _ (List.mem_of_getElem? (i := 73) rfl))) (by decide) (t := (.object "com/example/sonde/sonde/engine/Bits")) (t' := (.array (.object "com/example/sonde/sonde/engine/Bits"))) (by decide) (by decide)))
  have f307 := f286.other W297 (Or.inr (slot_ne (Or.inr (hw _ (List.mem_of_getElem? (i := 54) rfl))) (Or.inr (hw _ (List.mem_of_getElem? (i := 73) rfl))) (by decide) (t := (.array (.object "com/example/sonde/sonde/engine/Bits"))) (t' := (.array (.object "com/example/sonde/sonde/engine/Bits"))) (by decide) (by decide)))
  have f308 := f288.wr W297
  have f309 := f289.other W297 (Or.inl (Ne.symm ne3))
  have f310 := f290.other W297 (Or.inl (Ne.symm ne3))
  have f311 := f291.other W297 (Or.inl (Ne.symm ne3))
  have f312 := f292.wr W297
  have f313 := f293.other W297 (Ne.symm ne50) (Ne.symm ne88) (Ne.symm ne93)
  have f314 := f294.wr W297
  have f315 := f295.other W297 (Ne.symm ne116) (Ne.symm ne161) (Ne.symm ne169)
  have f316 := f296.other W297 (Ne.symm ne197)
  have f317 := A266.other W297 (Ne.symm ne267)
  have N297 := Fr.snoc X297 N246 Pau
  have Z297 := own_size_wr W297 Z266
  show own_Go _ _ _ _ (T297.setTop (mkF m 67 #[.val (.ref au), .val (.int (2 : Int32)), .unset] []))
  refine own_by (fun _ k => XS.iconst X297.here hx rfl (hb hby d1_67) k) ?_
  show own_Go _ _ _ _ (T297.setTop (mkF m 68 #[.val (.ref au), .val (.int (2 : Int32)), .unset] [(.int (0 : Int32))]))
  refine own_by (fun _ k => XS.istoreN X297.here hx rfl (hb hby d1_68) rfl (l' := #[.val (.ref au), .val (.int (2 : Int32)), .val (.int (0 : Int32))]) rfl k) ?_
  refine own_by (fun _ k => XS.iloadN X297.here hx rfl (hb hby d1_69) rfl k) ?_
  refine own_by (fun _ k => XS.iloadN X297.here hx rfl (hb hby d1_70) rfl k) ?_
  show own_Go _ _ _ _ (T297.setTop (mkF m 71 #[.val (.ref au), .val (.int (2 : Int32)), .val (.int (0 : Int32))] [(.int (2 : Int32)), (.int (0 : Int32))]))
  refine own_by (fun _ k => XS.icmpNo X297.here hx rfl (hb hby d1_71) rfl (tlt (by decide)).2.1 k) ?_
  refine own_by (fun _ k => XS.aloadN X297.here hx rfl (hb hby d1_74) rfl rfl k) ?_
  show own_Go _ _ _ _ (T297.setTop (mkF m 75 #[.val (.ref au), .val (.int (2 : Int32)), .val (.int (0 : Int32))] [(.ref au)]))
  obtain ⟨T318, X318, e318, st318⟩ := getF X297 hx hZ hown (host := "") (Or.inl (hw _ (List.mem_of_getElem? (i := 34) rfl))) Via.refl e297 f304 (g := (mkF m 75 #[.val (.ref au), .val (.int (2 : Int32)), .val (.int (0 : Int32))] [(.ref au)])) rfl rfl (hb hby d1_75)
  refine own_by st318 ?_
  show own_Go _ _ _ _ (T318.setTop (mkF m 78 #[.val (.ref au), .val (.int (2 : Int32)), .val (.int (0 : Int32))] [(.ref b2)]))
  obtain ⟨T319, h319, X319, e319, E319, A319, D319, -, st319⟩ := newO X318 hx hZ hown (hw _ (List.mem_of_getElem? (i := 10) rfl)) (hw _ (List.mem_of_getElem? (i := 11) rfl)) (hw _ (List.mem_of_getElem? (i := 12) rfl)) e318 (g := (mkF m 78 #[.val (.ref au), .val (.int (2 : Int32)), .val (.int (0 : Int32))] [(.ref b2)])) rfl (hb hby d1_78) (by decide) (by decide)
  refine own_by st319 ?_
  show own_Go _ _ _ _ (T319.setTop (mkF m 81 #[.val (.ref au), .val (.int (2 : Int32)), .val (.int (0 : Int32))] [.ref h297.size, (.ref b2)]))
  obtain ⟨b319, g319⟩ : ∃ z, z = h297.size := ⟨_, rfl⟩
  rw [← g319] at A319 D319
  refine own_gen g319.symm (fun z_ => T319.setTop (mkF m 81 #[.val (.ref au), .val (.int (2 : Int32)), .val (.int (0 : Int32))] [.ref z_, (.ref b2)])) ?_
  have ne320 : au ≠ b319 := Nat.ne_of_lt (Nat.lt_of_lt_of_le f298.lt (Nat.le_of_eq g319.symm))
  have ne321 : dc ≠ b319 := Nat.ne_of_lt (Nat.lt_of_lt_of_le f301.lt (Nat.le_of_eq g319.symm))
  have ne322 : sa ≠ b319 := Nat.ne_of_lt (Nat.lt_of_lt_of_le f303.lt (Nat.le_of_eq g319.symm))
  have ne323 : b2 ≠ b319 := Nat.ne_of_lt (Nat.lt_of_lt_of_le f311.lt (Nat.le_of_eq g319.symm))
  have ne324 : b49 ≠ b319 := Nat.ne_of_lt (Nat.lt_of_lt_of_le f313.lb (Nat.le_of_eq g319.symm))
  have ne325 : wz70 ≠ b319 := Nat.ne_of_lt (Nat.lt_of_lt_of_le f313.lw (Nat.le_of_eq g319.symm))
  have ne326 : dz70 ≠ b319 := Nat.ne_of_lt (Nat.lt_of_lt_of_le f313.ld (Nat.le_of_eq g319.symm))
  have ne327 : b115 ≠ b319 := Nat.ne_of_lt (Nat.lt_of_lt_of_le f315.lb (Nat.le_of_eq g319.symm))
  have ne328 : wz141 ≠ b319 := Nat.ne_of_lt (Nat.lt_of_lt_of_le f315.lw (Nat.le_of_eq g319.symm))
  have ne329 : dz141 ≠ b319 := Nat.ne_of_lt (Nat.lt_of_lt_of_le f315.ld (Nat.le_of_eq g319.symm))
  have ne330 : b196 ≠ b319 := Nat.ne_of_lt (Nat.lt_of_lt_of_le f316.lt (Nat.le_of_eq g319.symm))
  have ne331 : b266 ≠ b319 := Nat.ne_of_lt (Nat.lt_of_lt_of_le f317.lt (Nat.le_of_eq g319.symm))
  have ge319 : n0 ≤ b319 := Nat.le_trans Z297 (Nat.le_of_eq g319.symm)
  have nw319 : h0.size ≤ b319 := Nat.le_trans f300.1 (Nat.le_of_eq g319.symm)
  have f332 := f299.ext E319
  have f333 := f300.ext E319
  have f334 := f301.ext E319
  have f335 := f302.ext E319
  have f336 := f303.ext E319
  have f337 := f304.ext E319
  have f338 := f305.ext E319
  have f339 := f306.ext E319
  have f340 := f307.ext E319
  have f341 := f298.ext E319
  have f342 := f308.ext E319
  have f343 := f309.ext E319
  have f344 := f310.ext E319
  have f345 := f311.ext E319
  have f346 := f312.ext E319
  have f347 := f313.ext E319
  have f348 := f314.ext E319
  have f349 := f315.ext E319
  have f350 := f316.ext E319
  have f351 := f317.ext E319
  have Z319 := Nat.le_trans Z297 E319.1
  have f352 : Fld Z h319 b319 "java/util/AbstractList" "modCount" "I" (.int (0 : Int32)) := D319 (Or.inl (hw _ (List.mem_of_getElem? (i := 30) rfl))) (ty := .int) (by decide)
  have f353 : Fld Z h319 b319 "java/util/ArrayList" "elementData" "[Ljava/lang/Object;" .null := D319 (Or.inl (hw _ (List.mem_of_getElem? (i := 33) rfl))) (ty := (.array (.object "java/lang/Object"))) (by decide)
  have f354 : Fld Z h319 b319 "java/util/ArrayList" "size" "I" (.int (0 : Int32)) := D319 (Or.inl (hw _ (List.mem_of_getElem? (i := 86) rfl))) (ty := .int) (by decide)
  show own_Go _ _ _ _ (T319.setTop (mkF m 81 #[.val (.ref au), .val (.int (2 : Int32)), .val (.int (0 : Int32))] [(.ref b319), (.ref b2)]))
  refine own_by (fun _ k => XS.dup X319.here hx rfl (hb hby d1_81) rfl rfl k) ?_
  show own_Go _ _ _ _ (T319.setTop (mkF m 82 #[.val (.ref au), .val (.int (2 : Int32)), .val (.int (0 : Int32))] [(.ref b319), (.ref b319), (.ref b2)]))
  refine own_callI X319 hx hZ hown rfl (hw _ (List.mem_of_getElem? (i := 13) rfl)) (hw _ (List.mem_of_getElem? (i := 14) rfl)) (hw _ (List.mem_of_getElem? (i := 12) rfl)) (hw _ (List.mem_of_getElem? (i := 15) rfl)) (by decide) (rm3 l Z a0 hw [] b319 dc h319 n0 Z319 A319 f352 f353 f354 ge319 f335) e319 (by rw [hml]; rfl) b319 [] [(.ref b319), (.ref b2)] rfl (lenOf own_pd2 rfl) rfl 2 (Nat.le_of_eq rfl) (by decide) (by decide) (Nat.le_of_ble_eq_true rfl) (Nat.le_of_ble_eq_true rfl) (hb hby d1_82) ?_
  intro T355 Lc355 v355 X355 hQ355
  obtain ⟨h355, e355⟩ : ∃ h, T355.heap = h := ⟨_, rfl⟩
  rw [e355] at hQ355
  obtain ⟨rfl, N355q, K355, PL355⟩ := hQ355
  have N355 := Fr.app N297 N355q
  have f356 := f332.keep K355
  have f357 := f333.trans K355 (allS (P := fun x => x ∈ [au] ∨ h0.size ≤ x) (Or.inr nw319) all0)
  have f358 := f334.keep K355 (ninS ne321 nin0)
  have f359 := own_sta_keep f335 K355 (nsS A319.nostat ns0)
  have f360 := f336.keep K355
  have f361 := f337.keep K355 (ninS ne320 nin0)
  have f362 := f338.keep K355 (ninS ne320 nin0)
  have f363 := f339.keep K355 (ninS ne320 nin0)
  have f364 := f340.keep K355 (ninS ne320 nin0)
  have f365 := f341.keep K355 (ninS ne320 nin0)
  have f366 := f342.keep K355
  have f367 := f343.keep K355 (ninS ne323 nin0)
  have f368 := f344.keep K355 (ninS ne323 nin0)
  have f369 := f345.keep K355 (ninS ne323 nin0)
  have f370 := f346.keep K355
  have f371 := f347.keep K355 (ninS ne324 nin0) (ninS ne325 nin0) (ninS ne326 nin0)
  have f372 := f348.keep K355
  have f373 := f349.keep K355 (ninS ne327 nin0) (ninS ne328 nin0) (ninS ne329 nin0)
  have f374 := f350.keep K355 (ninS ne330 nin0)
  have f375 := f351.keep K355 (ninS ne331 nin0)
  have f376 := A319.keep K355
  have Z355 := Nat.le_trans Z319 K355.1
  obtain ⟨-, FE355, FS355, FM355⟩ := PL355
  show own_Go _ _ _ _ (T355.setTop (mkF m 85 #[.val (.ref au), .val (.int (2 : Int32)), .val (.int (0 : Int32))] [(.ref b319), (.ref b2)]))
  refine own_callF X355 hx hZ hown (hw _ (List.mem_of_getElem? (i := 74) rfl)) (hw _ (List.mem_of_getElem? (i := 75) rfl)) (hw _ (List.mem_of_getElem? (i := 76) rfl)) (hw _ (List.mem_of_getElem? (i := 77) rfl)) (hw _ (List.mem_of_getElem? (i := 78) rfl)) (hw _ (List.mem_of_getElem? (i := 79) rfl)) (hw _ (List.mem_of_getElem? (i := 80) rfl)) (hw _ (List.mem_of_getElem? (i := 81) rfl)) (hw _ (List.mem_of_getElem? (i := 12) rfl)) (hw _ (List.mem_of_getElem? (i := 82) rfl)) (by decide) rfl (rm10_e l Z a0 hw [] b2 b319 dc (0 : Int32) fd h355 n0 Z355 ⟨f366, f368, f369, f367⟩ f358 f359 ge2 Pdc f376) e355 b2 f366 (by rw [hml]; rfl) [(.ref b319)] [] rfl (lenOf own_pd6 rfl) rfl 0 (Nat.le_of_eq rfl) (by decide) (by decide) (Nat.le_of_ble_eq_true rfl) (Nat.le_of_ble_eq_true rfl) (hb hby d1_85) ?_
  intro T380 Lc380 v380 X380 hQ380
  obtain ⟨h380, e380⟩ : ∃ h, T380.heap = h := ⟨_, rfl⟩
  rw [e380] at hQ380
  obtain ⟨rfl, N380q, K380, ed380, fz380, mz380, nw380, AB380, PL380⟩ := hQ380
  have N380 := Fr.app N355 N380q
  have f381 := f356.keep K380
  have f382 := f357.trans K380 (allS (P := fun x => x ∈ [au] ∨ h0.size ≤ x) (Or.inr nw2) all0)
  have f383 := f358.keep K380 (ninS ne4 nin0)
  have f384 := own_sta_keep f359 K380 (nsS f366.nostat ns0)
  have f385 := f360.keep K380
  have f386 := f361.keep K380 (ninS ne3 nin0)
  have f387 := f362.keep K380 (ninS ne3 nin0)
  have f388 := f363.keep K380 (ninS ne3 nin0)
  have f389 := f364.keep K380 (ninS ne3 nin0)
  have f390 := f365.keep K380 (ninS ne3 nin0)
  have f391 := f366.keep K380
  have f395 := f370.keep K380
  have f396 := f371.keep K380 (ninS (Ne.symm ne53) nin0) (ninS (Ne.symm ne91) nin0) (ninS (Ne.symm ne96) nin0)
  have f397 := f372.keep K380
  have f398 := f373.keep K380 (ninS (Ne.symm ne119) nin0) (ninS (Ne.symm ne164) nin0) (ninS (Ne.symm ne172) nin0)
  have f399 := f374.keep K380 (ninS (Ne.symm ne200) nin0)
  have f400 := f375.keep K380 (ninS (Ne.symm ne270) nin0)
  have f401 := f376.keep K380
  have f402 := FM355.keep K380 (ninS (Ne.symm ne323) nin0)
  have f403 := FE355.keep K380 (ninS (Ne.symm ne323) nin0)
  have f404 := FS355.keep K380 (ninS (Ne.symm ne323) nin0)
  have Z380 := Nat.le_trans Z355 K380.1
  have ne405 : au ≠ ed380 := Nat.ne_of_lt (Nat.lt_of_lt_of_le f365.lt nw380)
  have ne406 : dc ≠ ed380 := Nat.ne_of_lt (Nat.lt_of_lt_of_le f358.lt nw380)
  have ne407 : sa ≠ ed380 := Nat.ne_of_lt (Nat.lt_of_lt_of_le f360.lt nw380)
  have ne408 : b2 ≠ ed380 := Nat.ne_of_lt (Nat.lt_of_lt_of_le f369.lt nw380)
  have ne409 : b49 ≠ ed380 := Nat.ne_of_lt (Nat.lt_of_lt_of_le f371.lb nw380)
  have ne410 : wz70 ≠ ed380 := Nat.ne_of_lt (Nat.lt_of_lt_of_le f371.lw nw380)
  have ne411 : dz70 ≠ ed380 := Nat.ne_of_lt (Nat.lt_of_lt_of_le f371.ld nw380)
  have ne412 : b115 ≠ ed380 := Nat.ne_of_lt (Nat.lt_of_lt_of_le f373.lb nw380)
  have ne413 : wz141 ≠ ed380 := Nat.ne_of_lt (Nat.lt_of_lt_of_le f373.lw nw380)
  have ne414 : dz141 ≠ ed380 := Nat.ne_of_lt (Nat.lt_of_lt_of_le f373.ld nw380)
  have ne415 : b196 ≠ ed380 := Nat.ne_of_lt (Nat.lt_of_lt_of_le f374.lt nw380)
  have ne416 : b266 ≠ ed380 := Nat.ne_of_lt (Nat.lt_of_lt_of_le f375.lt nw380)
  have ne417 : b319 ≠ ed380 := Nat.ne_of_lt (Nat.lt_of_lt_of_le FS355.lt nw380)
  have ge380 : n0 ≤ ed380 := Nat.le_trans Z355 nw380
  have nk380 : h0.size ≤ ed380 := Nat.le_trans f357.1 nw380
  obtain ⟨-, FE380, FS380, FM380⟩ := PL380
  show own_Go _ _ _ _ (T380.setTop (mkF m 90 #[.val (.ref au), .val (.int (2 : Int32)), .val (.int (0 : Int32))] [(.int (1 : Int32))]))
  refine own_by (fun _ k => XS.pop X380.here hx rfl (hb hby d1_90) rfl rfl k) ?_
  show own_Go _ _ _ _ (T380.setTop (mkF m 91 #[.val (.ref au), .val (.int (2 : Int32)), .val (.int (0 : Int32))] []))
  refine own_by (fun _ k => XS.iinc X380.here hx rfl (hb hby d1_91) rfl (l' := #[.val (.ref au), .val (.int (2 : Int32)), .val (.int ((0 : Int32) + (1 : Int32)))]) rfl k) ?_
  show own_Go _ _ _ _ (T380.setTop (mkF m 94 #[.val (.ref au), .val (.int (2 : Int32)), .val (.int ((0 : Int32) + (1 : Int32)))] []))
  rw [(by decide : ((0 : Int32) + (1 : Int32)) = (1 : Int32))]
  show own_Go _ _ _ _ (T380.setTop (mkF m 94 #[.val (.ref au), .val (.int (2 : Int32)), .val (.int (1 : Int32))] []))
  refine own_by (fun _ k => XS.goto X380.here hx rfl (pc0 := 94) (pc' := 69) rfl (hb hby d1_94) (by decide) (by decide) k) ?_
  refine own_by (fun _ k => XS.iloadN X380.here hx rfl (hb hby d1_69) rfl k) ?_
  refine own_by (fun _ k => XS.iloadN X380.here hx rfl (hb hby d1_70) rfl k) ?_
  show own_Go _ _ _ _ (T380.setTop (mkF m 71 #[.val (.ref au), .val (.int (2 : Int32)), .val (.int (1 : Int32))] [(.int (2 : Int32)), (.int (1 : Int32))]))
  refine own_by (fun _ k => XS.icmpNo X380.here hx rfl (hb hby d1_71) rfl (tlt (by decide)).2.1 k) ?_
  refine own_by (fun _ k => XS.aloadN X380.here hx rfl (hb hby d1_74) rfl rfl k) ?_
  show own_Go _ _ _ _ (T380.setTop (mkF m 75 #[.val (.ref au), .val (.int (2 : Int32)), .val (.int (1 : Int32))] [(.ref au)]))
  obtain ⟨T418, X418, e418, st418⟩ := getF X380 hx hZ hown (host := "") (Or.inl (hw _ (List.mem_of_getElem? (i := 34) rfl))) Via.refl e380 f386 (g := (mkF m 75 #[.val (.ref au), .val (.int (2 : Int32)), .val (.int (1 : Int32))] [(.ref au)])) rfl rfl (hb hby d1_75)
  refine own_by st418 ?_
  show own_Go _ _ _ _ (T418.setTop (mkF m 78 #[.val (.ref au), .val (.int (2 : Int32)), .val (.int (1 : Int32))] [(.ref b2)]))
  obtain ⟨T419, h419, X419, e419, E419, A419, D419, -, st419⟩ := newO X418 hx hZ hown (hw _ (List.mem_of_getElem? (i := 10) rfl)) (hw _ (List.mem_of_getElem? (i := 11) rfl)) (hw _ (List.mem_of_getElem? (i := 12) rfl)) e418 (g := (mkF m 78 #[.val (.ref au), .val (.int (2 : Int32)), .val (.int (1 : Int32))] [(.ref b2)])) rfl (hb hby d1_78) (by decide) (by decide)
  refine own_by st419 ?_
  show own_Go _ _ _ _ (T419.setTop (mkF m 81 #[.val (.ref au), .val (.int (2 : Int32)), .val (.int (1 : Int32))] [.ref h380.size, (.ref b2)]))
  obtain ⟨b419, g419⟩ : ∃ z, z = h380.size := ⟨_, rfl⟩
  rw [← g419] at A419 D419
  refine own_gen g419.symm (fun z_ => T419.setTop (mkF m 81 #[.val (.ref au), .val (.int (2 : Int32)), .val (.int (1 : Int32))] [.ref z_, (.ref b2)])) ?_
  have ne420 : au ≠ b419 := Nat.ne_of_lt (Nat.lt_of_lt_of_le f390.lt (Nat.le_of_eq g419.symm))
  have ne421 : dc ≠ b419 := Nat.ne_of_lt (Nat.lt_of_lt_of_le f383.lt (Nat.le_of_eq g419.symm))
  have ne422 : sa ≠ b419 := Nat.ne_of_lt (Nat.lt_of_lt_of_le f385.lt (Nat.le_of_eq g419.symm))
  have ne423 : b2 ≠ b419 := Nat.ne_of_lt (Nat.lt_of_lt_of_le FS380.lt (Nat.le_of_eq g419.symm))
  have ne424 : b49 ≠ b419 := Nat.ne_of_lt (Nat.lt_of_lt_of_le f396.lb (Nat.le_of_eq g419.symm))
  have ne425 : wz70 ≠ b419 := Nat.ne_of_lt (Nat.lt_of_lt_of_le f396.lw (Nat.le_of_eq g419.symm))
  have ne426 : dz70 ≠ b419 := Nat.ne_of_lt (Nat.lt_of_lt_of_le f396.ld (Nat.le_of_eq g419.symm))
  have ne427 : b115 ≠ b419 := Nat.ne_of_lt (Nat.lt_of_lt_of_le f398.lb (Nat.le_of_eq g419.symm))
  have ne428 : wz141 ≠ b419 := Nat.ne_of_lt (Nat.lt_of_lt_of_le f398.lw (Nat.le_of_eq g419.symm))
  have ne429 : dz141 ≠ b419 := Nat.ne_of_lt (Nat.lt_of_lt_of_le f398.ld (Nat.le_of_eq g419.symm))
  have ne430 : b196 ≠ b419 := Nat.ne_of_lt (Nat.lt_of_lt_of_le f399.lt (Nat.le_of_eq g419.symm))
  have ne431 : b266 ≠ b419 := Nat.ne_of_lt (Nat.lt_of_lt_of_le f400.lt (Nat.le_of_eq g419.symm))
  have ne432 : ed380 ≠ b419 := Nat.ne_of_lt (Nat.lt_of_lt_of_le AB380.lt (Nat.le_of_eq g419.symm))
  have ge419 : n0 ≤ b419 := Nat.le_trans Z380 (Nat.le_of_eq g419.symm)
  have nw419 : h0.size ≤ b419 := Nat.le_trans f382.1 (Nat.le_of_eq g419.symm)
  have f433 := f381.ext E419
  have f434 := f382.ext E419
  have f435 := f383.ext E419
  have f436 := f384.ext E419
  have f437 := f385.ext E419
  have f438 := f386.ext E419
  have f439 := f387.ext E419
  have f440 := f388.ext E419
  have f441 := f389.ext E419
  have f442 := f390.ext E419
  have f443 := f391.ext E419
  have f444 := f395.ext E419
  have f445 := f396.ext E419
  have f446 := f397.ext E419
  have f447 := f398.ext E419
  have f448 := f399.ext E419
  have f449 := f400.ext E419
  have f450 := FM380.ext E419
  have f451 := FE380.ext E419
  have f452 := FS380.ext E419
  have f453 := AB380.ext E419
  have Z419 := Nat.le_trans Z380 E419.1
  have f454 : Fld Z h419 b419 "java/util/AbstractList" "modCount" "I" (.int (0 : Int32)) := D419 (Or.inl (hw _ (List.mem_of_getElem? (i := 30) rfl))) (ty := .int) (by decide)
  have f455 : Fld Z h419 b419 "java/util/ArrayList" "elementData" "[Ljava/lang/Object;" .null := D419 (Or.inl (hw _ (List.mem_of_getElem? (i := 33) rfl))) (ty := (.array (.object "java/lang/Object"))) (by decide)
  have f456 : Fld Z h419 b419 "java/util/ArrayList" "size" "I" (.int (0 : Int32)) := D419 (Or.inl (hw _ (List.mem_of_getElem? (i := 86) rfl))) (ty := .int) (by decide)
  show own_Go _ _ _ _ (T419.setTop (mkF m 81 #[.val (.ref au), .val (.int (2 : Int32)), .val (.int (1 : Int32))] [(.ref b419), (.ref b2)]))
  refine own_by (fun _ k => XS.dup X419.here hx rfl (hb hby d1_81) rfl rfl k) ?_
  show own_Go _ _ _ _ (T419.setTop (mkF m 82 #[.val (.ref au), .val (.int (2 : Int32)), .val (.int (1 : Int32))] [(.ref b419), (.ref b419), (.ref b2)]))
  refine own_callI X419 hx hZ hown rfl (hw _ (List.mem_of_getElem? (i := 13) rfl)) (hw _ (List.mem_of_getElem? (i := 14) rfl)) (hw _ (List.mem_of_getElem? (i := 12) rfl)) (hw _ (List.mem_of_getElem? (i := 15) rfl)) (by decide) (rm3 l Z a0 hw [] b419 dc h419 n0 Z419 A419 f454 f455 f456 ge419 f436) e419 (by rw [hml]; rfl) b419 [] [(.ref b419), (.ref b2)] rfl (lenOf own_pd2 rfl) rfl 2 (Nat.le_of_eq rfl) (by decide) (by decide) (Nat.le_of_ble_eq_true rfl) (Nat.le_of_ble_eq_true rfl) (hb hby d1_82) ?_
  intro T457 Lc457 v457 X457 hQ457
  obtain ⟨h457, e457⟩ : ∃ h, T457.heap = h := ⟨_, rfl⟩
  rw [e457] at hQ457
  obtain ⟨rfl, N457q, K457, PL457⟩ := hQ457
  have N457 := Fr.app N380 N457q
  have f458 := f433.keep K457
  have f459 := f434.trans K457 (allS (P := fun x => x ∈ [au] ∨ h0.size ≤ x) (Or.inr nw419) all0)
  have f460 := f435.keep K457 (ninS ne421 nin0)
  have f461 := own_sta_keep f436 K457 (nsS A419.nostat ns0)
  have f462 := f437.keep K457
  have f463 := f438.keep K457 (ninS ne420 nin0)
  have f464 := f439.keep K457 (ninS ne420 nin0)
  have f465 := f440.keep K457 (ninS ne420 nin0)
  have f466 := f441.keep K457 (ninS ne420 nin0)
  have f467 := f442.keep K457 (ninS ne420 nin0)
  have f468 := f443.keep K457
  have f469 := f444.keep K457
  have f470 := f445.keep K457 (ninS ne424 nin0) (ninS ne425 nin0) (ninS ne426 nin0)
  have f471 := f446.keep K457
  have f472 := f447.keep K457 (ninS ne427 nin0) (ninS ne428 nin0) (ninS ne429 nin0)
  have f473 := f448.keep K457 (ninS ne430 nin0)
  have f474 := f449.keep K457 (ninS ne431 nin0)
  have f475 := f450.keep K457 (ninS ne423 nin0)
  have f476 := f451.keep K457 (ninS ne423 nin0)
  have f477 := f452.keep K457 (ninS ne423 nin0)
  have f478 := f453.keep K457 (ninS ne432 nin0)
  have f479 := A419.keep K457
  have Z457 := Nat.le_trans Z419 K457.1
  obtain ⟨-, FE457, FS457, FM457⟩ := PL457
  show own_Go _ _ _ _ (T457.setTop (mkF m 85 #[.val (.ref au), .val (.int (2 : Int32)), .val (.int (1 : Int32))] [(.ref b419), (.ref b2)]))
  refine own_callF X457 hx hZ hown (hw _ (List.mem_of_getElem? (i := 74) rfl)) (hw _ (List.mem_of_getElem? (i := 75) rfl)) (hw _ (List.mem_of_getElem? (i := 76) rfl)) (hw _ (List.mem_of_getElem? (i := 77) rfl)) (hw _ (List.mem_of_getElem? (i := 78) rfl)) (hw _ (List.mem_of_getElem? (i := 79) rfl)) (hw _ (List.mem_of_getElem? (i := 80) rfl)) (hw _ (List.mem_of_getElem? (i := 81) rfl)) (hw _ (List.mem_of_getElem? (i := 12) rfl)) (hw _ (List.mem_of_getElem? (i := 82) rfl)) (by decide) rfl (rm10_r l Z a0 hw [] b2 b419 ed380 (1 : Int32) mz380 fz380 1 h457 n0 Z457 ⟨f468, f476, f477, f475⟩ f478 ge2 ge380 (Ne.symm ne408) (by decide) (by decide) f479) e457 b2 f468 (by rw [hml]; rfl) [(.ref b419)] [] rfl (lenOf own_pd6 rfl) rfl 0 (Nat.le_of_eq rfl) (by decide) (by decide) (Nat.le_of_ble_eq_true rfl) (Nat.le_of_ble_eq_true rfl) (hb hby d1_85) ?_
  intro T483 Lc483 v483 X483 hQ483
  obtain ⟨h483, e483⟩ : ∃ h, T483.heap = h := ⟨_, rfl⟩
  rw [e483] at hQ483
  obtain ⟨rfl, N483q, K483, fz483, mz483, AB483, PL483⟩ := hQ483
  have N483 := Fr.app N457 N483q
  have f484 := f458.keep K483
  have f485 := f459.trans K483 (allS (P := fun x => x ∈ [au] ∨ h0.size ≤ x) (Or.inr nw2) (allS (P := fun x => x ∈ [au] ∨ h0.size ≤ x) (Or.inr nk380) all0))
  have f486 := f460.keep K483 (ninS ne4 (ninS ne406 nin0))
  have f487 := own_sta_keep f461 K483 (nsS f468.nostat (nsS f478.nostat ns0))
  have f488 := f462.keep K483
  have f489 := f463.keep K483 (ninS ne3 (ninS ne405 nin0))
  have f490 := f464.keep K483 (ninS ne3 (ninS ne405 nin0))
  have f491 := f465.keep K483 (ninS ne3 (ninS ne405 nin0))
  have f492 := f466.keep K483 (ninS ne3 (ninS ne405 nin0))
  have f493 := f467.keep K483 (ninS ne3 (ninS ne405 nin0))
  have f494 := f468.keep K483
  have f495 := f469.keep K483
  have f496 := f470.keep K483 (ninS (Ne.symm ne53) (ninS ne409 nin0)) (ninS (Ne.symm ne91) (ninS ne410 nin0)) (ninS (Ne.symm ne96) (ninS ne411 nin0))
  have f497 := f471.keep K483
  have f498 := f472.keep K483 (ninS (Ne.symm ne119) (ninS ne412 nin0)) (ninS (Ne.symm ne164) (ninS ne413 nin0)) (ninS (Ne.symm ne172) (ninS ne414 nin0))
  have f499 := f473.keep K483 (ninS (Ne.symm ne200) (ninS ne415 nin0))
  have f500 := f474.keep K483 (ninS (Ne.symm ne270) (ninS ne416 nin0))
  have f505 := f479.keep K483
  have f506 := FM457.keep K483 (ninS (Ne.symm ne423) (ninS (Ne.symm ne432) nin0))
  have f507 := FE457.keep K483 (ninS (Ne.symm ne423) (ninS (Ne.symm ne432) nin0))
  have f508 := FS457.keep K483 (ninS (Ne.symm ne423) (ninS (Ne.symm ne432) nin0))
  have Z483 := Nat.le_trans Z457 K483.1
  obtain ⟨-, FE483, FS483, FM483⟩ := PL483
  rw [(by decide : ((1 : Int32) + 1) = (2 : Int32))] at FS483
  show own_Go _ _ _ _ (T483.setTop (mkF m 90 #[.val (.ref au), .val (.int (2 : Int32)), .val (.int (1 : Int32))] [(.int (1 : Int32))]))
  refine own_by (fun _ k => XS.pop X483.here hx rfl (hb hby d1_90) rfl rfl k) ?_
  show own_Go _ _ _ _ (T483.setTop (mkF m 91 #[.val (.ref au), .val (.int (2 : Int32)), .val (.int (1 : Int32))] []))
  refine own_by (fun _ k => XS.iinc X483.here hx rfl (hb hby d1_91) rfl (l' := #[.val (.ref au), .val (.int (2 : Int32)), .val (.int ((1 : Int32) + (1 : Int32)))]) rfl k) ?_
  show own_Go _ _ _ _ (T483.setTop (mkF m 94 #[.val (.ref au), .val (.int (2 : Int32)), .val (.int ((1 : Int32) + (1 : Int32)))] []))
  rw [(by decide : ((1 : Int32) + (1 : Int32)) = (2 : Int32))]
  show own_Go _ _ _ _ (T483.setTop (mkF m 94 #[.val (.ref au), .val (.int (2 : Int32)), .val (.int (2 : Int32))] []))
  refine own_by (fun _ k => XS.goto X483.here hx rfl (pc0 := 94) (pc' := 69) rfl (hb hby d1_94) (by decide) (by decide) k) ?_
  refine own_by (fun _ k => XS.iloadN X483.here hx rfl (hb hby d1_69) rfl k) ?_
  refine own_by (fun _ k => XS.iloadN X483.here hx rfl (hb hby d1_70) rfl k) ?_
  show own_Go _ _ _ _ (T483.setTop (mkF m 71 #[.val (.ref au), .val (.int (2 : Int32)), .val (.int (2 : Int32))] [(.int (2 : Int32)), (.int (2 : Int32))]))
  refine own_by (fun _ k => XS.icmpYes X483.here hx rfl (pc0 := 71) (pc' := 97) rfl (hb hby d1_71) rfl (flt (by decide)).2.1 (by decide) (by decide) k) ?_
  show own_Go _ _ _ _ (T483.setTop (mkF m 97 #[.val (.ref au), .val (.int (2 : Int32)), .val (.int (2 : Int32))] []))
  exact own_retV X483 hx Bd.notSynchronized e483 Bd.returns (hb hby d1_97) (⟨rfl, N483, f485, b196, b266, b115, wz141, dz141, b49, wz70, dz70, _, f484, f492, f493, f491, f490, f499, f500, f498, f496, (allS (P := fun x => h0.size ≤ x) nw196 (allS (P := fun x => h0.size ≤ x) nw266 (allS (P := fun x => h0.size ≤ x) nw115 (allS (P := fun x => h0.size ≤ x) nk_wz141 (allS (P := fun x => h0.size ≤ x) nk_dz141 (allS (P := fun x => h0.size ≤ x) nw49 (allS (P := fun x => h0.size ≤ x) nk_wz70 (allS (P := fun x => h0.size ≤ x) nk_dz70 all0)))))))), (allS (P := fun x => ∀ y ∈ [b49, wz70, dz70, b266], x ≠ y) (allS (P := fun y => b115 ≠ y) (Ne.symm ne120) (allS (P := fun y => b115 ≠ y) (Ne.symm ne121) (allS (P := fun y => b115 ≠ y) (Ne.symm ne122) (allS (P := fun y => b115 ≠ y) ne274 all0)))) (allS (P := fun x => ∀ y ∈ [b49, wz70, dz70, b266], x ≠ y) (allS (P := fun y => wz141 ≠ y) (Ne.symm ne165) (allS (P := fun y => wz141 ≠ y) (Ne.symm ne166) (allS (P := fun y => wz141 ≠ y) (Ne.symm ne167) (allS (P := fun y => wz141 ≠ y) ne275 all0)))) (allS (P := fun x => ∀ y ∈ [b49, wz70, dz70, b266], x ≠ y) (allS (P := fun y => dz141 ≠ y) (Ne.symm ne173) (allS (P := fun y => dz141 ≠ y) (Ne.symm ne174) (allS (P := fun y => dz141 ≠ y) (Ne.symm ne175) (allS (P := fun y => dz141 ≠ y) ne276 all0)))) all0))), (allS (P := fun x => ∀ y ∈ [b266], x ≠ y) (allS (P := fun y => b49 ≠ y) ne271 all0) (allS (P := fun x => ∀ y ∈ [b266], x ≠ y) (allS (P := fun y => wz70 ≠ y) ne272 all0) (allS (P := fun x => ∀ y ∈ [b266], x ≠ y) (allS (P := fun y => dz70 ≠ y) ne273 all0) all0))), (allS (P := fun x => ∀ y ∈ [b266, b49, wz70, dz70], x ≠ y) (allS (P := fun y => b196 ≠ y) ne277 (allS (P := fun y => b196 ≠ y) (Ne.symm ne201) (allS (P := fun y => b196 ≠ y) (Ne.symm ne202) (allS (P := fun y => b196 ≠ y) (Ne.symm ne203) all0)))) all0)⟩) (by decide) (by decide)
set_option maxRecDepth 65536 in
set_option maxHeartbeats 40000000 in
theorem rm1_3 (l : Launch) (Z : State) (a0 : Array Value) (hw : ∀ d ∈ tables_1, d.before a0 Z = true) (ws : List Jvm.Cond) (au : Addr) (dc sa : Addr) (cK : ClassId) (fd : Nat → Value) (h0 : Heap) (n0 : Nat) (Z0 : n0 ≤ h0.size) (PEu : Exa Z h0 au "com/example/sonde/sonde/engine/AnswerSets") (PF0 : Fld Z h0 au "com/example/sonde/sonde/engine/AnswerSets" "drawing" "Ljava/util/List;" .null) (PF1 : Fld Z h0 au "com/example/sonde/sonde/engine/AnswerSets" "deep" "Lcom/example/sonde/sonde/engine/Bits;" .null) (PF2 : Fld Z h0 au "com/example/sonde/sonde/engine/AnswerSets" "none" "Lcom/example/sonde/sonde/engine/Bits;" .null) (PF3 : Fld Z h0 au "com/example/sonde/sonde/engine/AnswerSets" "answering" "[Lcom/example/sonde/sonde/engine/Bits;" .null) (PF4 : Fld Z h0 au "com/example/sonde/sonde/engine/AnswerSets" "holding" "[Lcom/example/sonde/sonde/engine/Bits;" .null) (Pau : n0 ≤ au) (PC : own_Ar Z h0 dc (.object "java/lang/Object") 0 fd) (PS : Sta Z h0 "java/util/ArrayList" "DEFAULTCAPACITY_EMPTY_ELEMENTDATA" "[Ljava/lang/Object;" (.ref dc)) (Pdc : dc < n0) (PFn : own_Fn h0 sa cK) (PSt : own_Site Z (⟨"com/example/sonde/sonde/engine/AnswerSets", "<init>", "(I)V"⟩ : MethodName) 49 own_sg sa cK) :
    MetFree l (⟨"com/example/sonde/sonde/engine/AnswerSets", "<init>", "(I)V"⟩ : MethodName) (head1 (Jvm.Cond.code (⟨"com/example/sonde/sonde/engine/AnswerSets", "<init>", "(I)V"⟩ : MethodName) prog_86_method_1_code 3 none :: ws) ({ frames := 5, cells := 26, slots := 80, locals := 3120 } : Room)) (fun a U => a = #[(.ref au), (.int (3 : Int32))] ∧ Z.Warmed39 U.vm ∧ U.heap = h0 ∧ Z.WarmedH U.vm) (fun _ _ _ _ _ => True) (fun _ U o U' => ∃ vv LL, o = .returned vv ∧ own_ap (fun v h L => v = none ∧ Fr n0 L ∧ Keep h0 h [au] ∧ own_IN Z h0 h n0 au 3) vv U'.heap LL ∧ FrameEnd U o U' LL 26 80) := by
  refine MetFree.of_bodySF (plainFor_of_name pn_1) hisR ?_
  intro p e s m args below meth c s₁ Bd hml0 hP hK
  obtain ⟨rfl, hZ, hh, hH⟩ := hP
  have hx := Bd.exec
  have hby := Bd.bytes
  have hml : c.maxLocals = 3 := hml0
  have hown : s.vm.findClass "com/example/sonde/sonde/engine/AnswerSets" = some m.cls := findClass_of_methodNamed Bd.named
  have hnm := (name_of_methodNamed Bd.named Bd.method).1
  have X0 : Stand p l e ({ frames := 5, cells := 26, slots := 80, locals := 3120 } : Room) s m #[(.ref au), (.int (3 : Int32))] below meth c s₁ [] 0 0 := Stand.of_body Bd
  have e0 : s₁.heap = h0 := by rw [← hh, Bd.state]; rfl
  have N0 := Fr.nil n0
  show own_Go p.tables e below (own_Q s (fun v h L => v = none ∧ Fr n0 L ∧ Keep h0 h [au] ∧ own_IN Z h0 h n0 au 3) 26 80) (s₁.setTop (entryFrame m #[(.ref au), (.int (3 : Int32))] 3))
  rw [show entryFrame m #[(.ref au), (.int (3 : Int32))] 3 = mkF m 0 #[.val (.ref au), .val (.int (3 : Int32)), .unset] [] from by first | (simp [entryFrame, mkF, argsToLocals, Value.category]; done) | rfl]
  have Pnd : dc ≠ au := Nat.ne_of_lt (Nat.lt_of_lt_of_le Pdc Pau)
  show own_Go _ _ _ _ (s₁.setTop (mkF m 0 #[.val (.ref au), .val (.int (3 : Int32)), .unset] []))
  refine own_by (fun _ k => XS.aloadN X0.here hx rfl (hb hby d1_0) rfl rfl k) ?_
  show own_Go _ _ _ _ (s₁.setTop (mkF m 1 #[.val (.ref au), .val (.int (3 : Int32)), .unset] [(.ref au)]))
  obtain ⟨T1, X1, e1, st1⟩ := initO X0 hx hZ hown (hw _ (List.mem_of_getElem? (i := 7) rfl)) (hw _ (List.mem_of_getElem? (i := 8) rfl)) (hw _ (List.mem_of_getElem? (i := 9) rfl)) e0 (g := (mkF m 1 #[.val (.ref au), .val (.int (3 : Int32)), .unset] [(.ref au)])) rfl (by rw [hml]; rfl) rfl (hb hby d1_1) (by decide) (W := 0) (by show 2 * 0 + _ ≤ _; exact Nat.le_of_eq rfl) (by decide)
  refine own_by st1 ?_
  refine own_by (fun _ k => XS.aloadN X1.here hx rfl (hb hby d1_4) rfl rfl k) ?_
  show own_Go _ _ _ _ (T1.setTop (mkF m 5 #[.val (.ref au), .val (.int (3 : Int32)), .unset] [(.ref au)]))
  obtain ⟨T2, h2, X2, e2, E2, A2, D2, -, st2⟩ := newO X1 hx hZ hown (hw _ (List.mem_of_getElem? (i := 10) rfl)) (hw _ (List.mem_of_getElem? (i := 11) rfl)) (hw _ (List.mem_of_getElem? (i := 12) rfl)) e1 (g := (mkF m 5 #[.val (.ref au), .val (.int (3 : Int32)), .unset] [(.ref au)])) rfl (hb hby d1_5) (by decide) (by decide)
  refine own_by st2 ?_
  show own_Go _ _ _ _ (T2.setTop (mkF m 8 #[.val (.ref au), .val (.int (3 : Int32)), .unset] [.ref h0.size, (.ref au)]))
  obtain ⟨b2, g2⟩ : ∃ z, z = h0.size := ⟨_, rfl⟩
  rw [← g2] at A2 D2
  refine own_gen g2.symm (fun z_ => T2.setTop (mkF m 8 #[.val (.ref au), .val (.int (3 : Int32)), .unset] [.ref z_, (.ref au)])) ?_
  have ne3 : au ≠ b2 := Nat.ne_of_lt (Nat.lt_of_lt_of_le PF4.lt (Nat.le_of_eq g2.symm))
  have ne4 : dc ≠ b2 := Nat.ne_of_lt (Nat.lt_of_lt_of_le PC.lt (Nat.le_of_eq g2.symm))
  have ne5 : sa ≠ b2 := Nat.ne_of_lt (Nat.lt_of_lt_of_le PFn.lt (Nat.le_of_eq g2.symm))
  have ge2 : n0 ≤ b2 := Nat.le_trans Z0 (Nat.le_of_eq g2.symm)
  have nw2 : h0.size ≤ b2 := Nat.le_trans (Keep.refl h0 [au]).1 (Nat.le_of_eq g2.symm)
  have f6 := PEu.ext E2
  have f7 := (Keep.refl h0 [au]).ext E2
  have f8 := PC.ext E2
  have f9 := PS.ext E2
  have f10 := PFn.ext E2
  have f11 := PF0.ext E2
  have f12 := PF1.ext E2
  have f13 := PF2.ext E2
  have f14 := PF3.ext E2
  have f15 := PF4.ext E2
  have Z2 := Nat.le_trans Z0 E2.1
  have f16 : Fld Z h2 b2 "java/util/AbstractList" "modCount" "I" (.int (0 : Int32)) := D2 (Or.inl (hw _ (List.mem_of_getElem? (i := 30) rfl))) (ty := .int) (by decide)
  have f17 : Fld Z h2 b2 "java/util/ArrayList" "elementData" "[Ljava/lang/Object;" .null := D2 (Or.inl (hw _ (List.mem_of_getElem? (i := 33) rfl))) (ty := (.array (.object "java/lang/Object"))) (by decide)
  have f18 : Fld Z h2 b2 "java/util/ArrayList" "size" "I" (.int (0 : Int32)) := D2 (Or.inl (hw _ (List.mem_of_getElem? (i := 86) rfl))) (ty := .int) (by decide)
  show own_Go _ _ _ _ (T2.setTop (mkF m 8 #[.val (.ref au), .val (.int (3 : Int32)), .unset] [(.ref b2), (.ref au)]))
  refine own_by (fun _ k => XS.dup X2.here hx rfl (hb hby d1_8) rfl rfl k) ?_
  show own_Go _ _ _ _ (T2.setTop (mkF m 9 #[.val (.ref au), .val (.int (3 : Int32)), .unset] [(.ref b2), (.ref b2), (.ref au)]))
  refine own_callI X2 hx hZ hown rfl (hw _ (List.mem_of_getElem? (i := 13) rfl)) (hw _ (List.mem_of_getElem? (i := 14) rfl)) (hw _ (List.mem_of_getElem? (i := 12) rfl)) (hw _ (List.mem_of_getElem? (i := 15) rfl)) (by decide) (rm3 l Z a0 hw [] b2 dc h2 n0 Z2 A2 f16 f17 f18 ge2 f9) e2 (by rw [hml]; rfl) b2 [] [(.ref b2), (.ref au)] rfl (lenOf own_pd2 rfl) rfl 2 (Nat.le_of_eq rfl) (by decide) (by decide) (Nat.le_of_ble_eq_true rfl) (Nat.le_of_ble_eq_true rfl) (hb hby d1_9) ?_
  intro T19 Lc19 v19 X19 hQ19
  obtain ⟨h19, e19⟩ : ∃ h, T19.heap = h := ⟨_, rfl⟩
  rw [e19] at hQ19
  obtain ⟨rfl, N19q, K19, PL19⟩ := hQ19
  have N19 := Fr.app N0 N19q
  have f20 := f6.keep K19
  have f21 := f7.trans K19 (allS (P := fun x => x ∈ [au] ∨ h0.size ≤ x) (Or.inr nw2) all0)
  have f22 := f8.keep K19 (ninS ne4 nin0)
  have f23 := own_sta_keep f9 K19 (nsS A2.nostat ns0)
  have f24 := f10.keep K19
  have f25 := f11.keep K19 (ninS ne3 nin0)
  have f26 := f12.keep K19 (ninS ne3 nin0)
  have f27 := f13.keep K19 (ninS ne3 nin0)
  have f28 := f14.keep K19 (ninS ne3 nin0)
  have f29 := f15.keep K19 (ninS ne3 nin0)
  have f30 := A2.keep K19
  have Z19 := Nat.le_trans Z2 K19.1
  obtain ⟨-, FE19, FS19, FM19⟩ := PL19
  show own_Go _ _ _ _ (T19.setTop (mkF m 12 #[.val (.ref au), .val (.int (3 : Int32)), .unset] [(.ref b2), (.ref au)]))
  obtain ⟨T34, h34, X34, e34, W34, st34⟩ := putF X19 hx hZ hown (host := "") (Or.inl (hw _ (List.mem_of_getElem? (i := 34) rfl))) Via.refl e19 f25 f20 (Or.inr ⟨(hw _ (List.mem_of_getElem? (i := 35) rfl)), rfl, hnm⟩) (hw _ (List.mem_of_getElem? (i := 2) rfl)) (ty := (.object "java/util/List")) (by decide) rfl rfl (g := (mkF m 12 #[.val (.ref au), .val (.int (3 : Int32)), .unset] [(.ref b2), (.ref au)])) rfl rfl (hb hby d1_12)
  refine own_by st34 ?_
  have f35 := f25.same W34
  have f36 := f20.wr W34
  have f37 := f21.wr W34 (Or.inl (List.mem_of_getElem? (i := 0) rfl))
  have f38 := f22.other W34 Pnd
  have f39 := f23.wr W34
  have f40 := f24.wr W34
  have f41 := f26.other W34 (Or.inr (slot_ne (Or.inr (hw _ (List.mem_of_getElem? (i := 49) rfl))) (Or.inr (hw _ (List.mem_of_getElem? (i := 35) rfl))) (by decide) (t := (.object "com/example/sonde/sonde/engine/Bits")) (t' := (.object "java/util/List")) (by decide) (by decide)))
  have f42 := f27.other W34 (Or.inr (slot_ne (Or.inr (hw _ (List.mem_of_getElem? (i := 51) rfl))) (Or.inr (hw _ (List.mem_of_getElem? (i := 35) rfl))) (by decide) (t := (.object "com/example/sonde/sonde/engine/Bits")) (t' := (.object "java/util/List")) (by decide) (by decide)))
  have f43 := f28.other W34 (Or.inr (slot_ne (Or.inr (hw _ (List.mem_of_getElem? (i := 54) rfl))) (Or.inr (hw _ (List.mem_of_getElem? (i := 35) rfl))) (by decide) (t := (.array (.object "com/example/sonde/sonde/engine/Bits"))) (t' := (.object "java/util/List")) (by decide) (by decide)))
  have f44 := f29.other W34 (Or.inr (slot_ne (Or.inr (hw _ (List.mem_of_getElem? (i := 73) rfl))) (Or.inr (hw _ (List.mem_of_getElem? (i := 35) rfl))) (by decide) (t := (.array (.object "com/example/sonde/sonde/engine/Bits"))) (t' := (.object "java/util/List")) (by decide) (by decide)))
  have f45 := f30.wr W34
  have f46 := FM19.other W34 (Or.inl (Ne.symm ne3))
  have f47 := FE19.other W34 (Or.inl (Ne.symm ne3))
  have f48 := FS19.other W34 (Or.inl (Ne.symm ne3))
  have N34 := Fr.snoc X34 N19 Pau
  have Z34 := own_size_wr W34 Z19
  show own_Go _ _ _ _ (T34.setTop (mkF m 15 #[.val (.ref au), .val (.int (3 : Int32)), .unset] []))
  refine own_by (fun _ k => XS.aloadN X34.here hx rfl (hb hby d1_15) rfl rfl k) ?_
  show own_Go _ _ _ _ (T34.setTop (mkF m 16 #[.val (.ref au), .val (.int (3 : Int32)), .unset] [(.ref au)]))
  obtain ⟨T49, h49, X49, e49, E49, A49, D49, -, st49⟩ := newO X34 hx hZ hown (hw _ (List.mem_of_getElem? (i := 36) rfl)) (hw _ (List.mem_of_getElem? (i := 37) rfl)) (hw _ (List.mem_of_getElem? (i := 38) rfl)) e34 (g := (mkF m 16 #[.val (.ref au), .val (.int (3 : Int32)), .unset] [(.ref au)])) rfl (hb hby d1_16) (by decide) (by decide)
  refine own_by st49 ?_
  show own_Go _ _ _ _ (T49.setTop (mkF m 19 #[.val (.ref au), .val (.int (3 : Int32)), .unset] [.ref h34.size, (.ref au)]))
  obtain ⟨b49, g49⟩ : ∃ z, z = h34.size := ⟨_, rfl⟩
  rw [← g49] at A49 D49
  refine own_gen g49.symm (fun z_ => T49.setTop (mkF m 19 #[.val (.ref au), .val (.int (3 : Int32)), .unset] [.ref z_, (.ref au)])) ?_
  have ne50 : au ≠ b49 := Nat.ne_of_lt (Nat.lt_of_lt_of_le f44.lt (Nat.le_of_eq g49.symm))
  have ne51 : dc ≠ b49 := Nat.ne_of_lt (Nat.lt_of_lt_of_le f38.lt (Nat.le_of_eq g49.symm))
  have ne52 : sa ≠ b49 := Nat.ne_of_lt (Nat.lt_of_lt_of_le f40.lt (Nat.le_of_eq g49.symm))
  have ne53 : b2 ≠ b49 := Nat.ne_of_lt (Nat.lt_of_lt_of_le f48.lt (Nat.le_of_eq g49.symm))
  have ge49 : n0 ≤ b49 := Nat.le_trans Z34 (Nat.le_of_eq g49.symm)
  have nw49 : h0.size ≤ b49 := Nat.le_trans f37.1 (Nat.le_of_eq g49.symm)
  have f54 := f36.ext E49
  have f55 := f37.ext E49
  have f56 := f38.ext E49
  have f57 := f39.ext E49
  have f58 := f40.ext E49
  have f59 := f35.ext E49
  have f60 := f41.ext E49
  have f61 := f42.ext E49
  have f62 := f43.ext E49
  have f63 := f44.ext E49
  have f64 := f45.ext E49
  have f65 := f46.ext E49
  have f66 := f47.ext E49
  have f67 := f48.ext E49
  have Z49 := Nat.le_trans Z34 E49.1
  have f68 : Fld Z h49 b49 "com/example/sonde/sonde/engine/Bits" "words" "[J" .null := D49 (Or.inl (hw _ (List.mem_of_getElem? (i := 45) rfl))) (ty := (.array .long)) (by decide)
  have f69 : Fld Z h49 b49 "com/example/sonde/sonde/engine/Bits" "held" "[J" .null := D49 (Or.inl (hw _ (List.mem_of_getElem? (i := 47) rfl))) (ty := (.array .long)) (by decide)
  show own_Go _ _ _ _ (T49.setTop (mkF m 19 #[.val (.ref au), .val (.int (3 : Int32)), .unset] [(.ref b49), (.ref au)]))
  refine own_by (fun _ k => XS.dup X49.here hx rfl (hb hby d1_19) rfl rfl k) ?_
  show own_Go _ _ _ _ (T49.setTop (mkF m 20 #[.val (.ref au), .val (.int (3 : Int32)), .unset] [(.ref b49), (.ref b49), (.ref au)]))
  refine own_callI X49 hx hZ hown rfl (hw _ (List.mem_of_getElem? (i := 39) rfl)) (hw _ (List.mem_of_getElem? (i := 40) rfl)) (hw _ (List.mem_of_getElem? (i := 38) rfl)) (hw _ (List.mem_of_getElem? (i := 41) rfl)) (by decide) (rm6 l Z a0 hw [] b49 h49 n0 Z49 A49 f68 f69 ge49) e49 (by rw [hml]; rfl) b49 [] [(.ref b49), (.ref au)] rfl (lenOf own_pd2 rfl) rfl 2 (Nat.le_of_eq rfl) (by decide) (by decide) (Nat.le_of_ble_eq_true rfl) (Nat.le_of_ble_eq_true rfl) (hb hby d1_20) ?_
  intro T70 Lc70 v70 X70 hQ70
  obtain ⟨h70, e70⟩ : ∃ h, T70.heap = h := ⟨_, rfl⟩
  rw [e70] at hQ70
  obtain ⟨rfl, N70q, K70, wz70, dz70, B70, nww70, nwd70⟩ := hQ70
  have N70 := Fr.app N34 N70q
  have f71 := f54.keep K70
  have f72 := f55.trans K70 (allS (P := fun x => x ∈ [au] ∨ h0.size ≤ x) (Or.inr nw49) all0)
  have f73 := f56.keep K70 (ninS ne51 nin0)
  have f74 := own_sta_keep f57 K70 (nsS A49.nostat ns0)
  have f75 := f58.keep K70
  have f76 := f59.keep K70 (ninS ne50 nin0)
  have f77 := f60.keep K70 (ninS ne50 nin0)
  have f78 := f61.keep K70 (ninS ne50 nin0)
  have f79 := f62.keep K70 (ninS ne50 nin0)
  have f80 := f63.keep K70 (ninS ne50 nin0)
  have f81 := f64.keep K70
  have f82 := f65.keep K70 (ninS ne53 nin0)
  have f83 := f66.keep K70 (ninS ne53 nin0)
  have f84 := f67.keep K70 (ninS ne53 nin0)
  have f85 := A49.keep K70
  have Z70 := Nat.le_trans Z49 K70.1
  have ne88 : au ≠ wz70 := Nat.ne_of_lt (Nat.lt_of_lt_of_le f63.lt nww70)
  have ne89 : dc ≠ wz70 := Nat.ne_of_lt (Nat.lt_of_lt_of_le f56.lt nww70)
  have ne90 : sa ≠ wz70 := Nat.ne_of_lt (Nat.lt_of_lt_of_le f58.lt nww70)
  have ne91 : b2 ≠ wz70 := Nat.ne_of_lt (Nat.lt_of_lt_of_le f67.lt nww70)
  have ne92 : b49 ≠ wz70 := Nat.ne_of_lt (Nat.lt_of_lt_of_le f69.lt nww70)
  have nk_wz70 : h0.size ≤ wz70 := Nat.le_trans f55.1 nww70
  have ne93 : au ≠ dz70 := Nat.ne_of_lt (Nat.lt_of_lt_of_le f63.lt nwd70)
  have ne94 : dc ≠ dz70 := Nat.ne_of_lt (Nat.lt_of_lt_of_le f56.lt nwd70)
  have ne95 : sa ≠ dz70 := Nat.ne_of_lt (Nat.lt_of_lt_of_le f58.lt nwd70)
  have ne96 : b2 ≠ dz70 := Nat.ne_of_lt (Nat.lt_of_lt_of_le f67.lt nwd70)
  have ne97 : b49 ≠ dz70 := Nat.ne_of_lt (Nat.lt_of_lt_of_le f69.lt nwd70)
  have nk_dz70 : h0.size ≤ dz70 := Nat.le_trans f55.1 nwd70
  have neb70 : b49 ≠ wz70 := by obtain ⟨-, -, -, _, _, _, _, -, -, -, -, -, -, q, -⟩ := B70; exact q
  show own_Go _ _ _ _ (T70.setTop (mkF m 23 #[.val (.ref au), .val (.int (3 : Int32)), .unset] [(.ref b49), (.ref au)]))
  obtain ⟨T98, h98, X98, e98, W98, st98⟩ := putF X70 hx hZ hown (host := "") (Or.inl (hw _ (List.mem_of_getElem? (i := 48) rfl))) Via.refl e70 f77 f71 (Or.inr ⟨(hw _ (List.mem_of_getElem? (i := 49) rfl)), rfl, hnm⟩) (hw _ (List.mem_of_getElem? (i := 2) rfl)) (ty := (.object "com/example/sonde/sonde/engine/Bits")) (by decide) rfl rfl (g := (mkF m 23 #[.val (.ref au), .val (.int (3 : Int32)), .unset] [(.ref b49), (.ref au)])) rfl rfl (hb hby d1_23)
  refine own_by st98 ?_
  have f99 := f77.same W98
  have f100 := f71.wr W98
  have f101 := f72.wr W98 (Or.inl (List.mem_of_getElem? (i := 0) rfl))
  have f102 := f73.other W98 Pnd
  have f103 := f74.wr W98
  have f104 := f75.wr W98
  have f105 := f76.other W98 (Or.inr (slot_ne (Or.inr (hw _ (List.mem_of_getElem? (i := 35) rfl))) (Or.inr (hw _ (List.mem_of_getElem? (i := 49) rfl))) (by decide) (t := (.object "java/util/List")) (t' := (.object "com/example/sonde/sonde/engine/Bits")) (by decide) (by decide)))
  have f106 := f78.other W98 (Or.inr (slot_ne (Or.inr (hw _ (List.mem_of_getElem? (i := 51) rfl))) (Or.inr (hw _ (List.mem_of_getElem? (i := 49) rfl))) (by decide) (t := (.object "com/example/sonde/sonde/engine/Bits")) (t' := (.object "com/example/sonde/sonde/engine/Bits")) (by decide) (by decide)))
  have f107 := f79.other W98 (Or.inr (slot_ne (Or.inr (hw _ (List.mem_of_getElem? (i := 54) rfl))) (Or.inr (hw _ (List.mem_of_getElem? (i := 49) rfl))) (by decide) (t := (.array (.object "com/example/sonde/sonde/engine/Bits"))) (t' := (.object "com/example/sonde/sonde/engine/Bits")) (by decide) (by decide)))
  have f108 := f80.other W98 (Or.inr (slot_ne (Or.inr (hw _ (List.mem_of_getElem? (i := 73) rfl))) (Or.inr (hw _ (List.mem_of_getElem? (i := 49) rfl))) (by decide) (t := (.array (.object "com/example/sonde/sonde/engine/Bits"))) (t' := (.object "com/example/sonde/sonde/engine/Bits")) (by decide) (by decide)))
  have f109 := f81.wr W98
  have f110 := f82.other W98 (Or.inl (Ne.symm ne3))
  have f111 := f83.other W98 (Or.inl (Ne.symm ne3))
  have f112 := f84.other W98 (Or.inl (Ne.symm ne3))
  have f113 := f85.wr W98
  have f114 := B70.other W98 (Ne.symm ne50) (Ne.symm ne88) (Ne.symm ne93)
  have N98 := Fr.snoc X98 N70 Pau
  have Z98 := own_size_wr W98 Z70
  show own_Go _ _ _ _ (T98.setTop (mkF m 26 #[.val (.ref au), .val (.int (3 : Int32)), .unset] []))
  refine own_by (fun _ k => XS.aloadN X98.here hx rfl (hb hby d1_26) rfl rfl k) ?_
  show own_Go _ _ _ _ (T98.setTop (mkF m 27 #[.val (.ref au), .val (.int (3 : Int32)), .unset] [(.ref au)]))
  obtain ⟨T115, h115, X115, e115, E115, A115, D115, -, st115⟩ := newO X98 hx hZ hown (hw _ (List.mem_of_getElem? (i := 36) rfl)) (hw _ (List.mem_of_getElem? (i := 37) rfl)) (hw _ (List.mem_of_getElem? (i := 38) rfl)) e98 (g := (mkF m 27 #[.val (.ref au), .val (.int (3 : Int32)), .unset] [(.ref au)])) rfl (hb hby d1_27) (by decide) (by decide)
  refine own_by st115 ?_
  show own_Go _ _ _ _ (T115.setTop (mkF m 30 #[.val (.ref au), .val (.int (3 : Int32)), .unset] [.ref h98.size, (.ref au)]))
  obtain ⟨b115, g115⟩ : ∃ z, z = h98.size := ⟨_, rfl⟩
  rw [← g115] at A115 D115
  refine own_gen g115.symm (fun z_ => T115.setTop (mkF m 30 #[.val (.ref au), .val (.int (3 : Int32)), .unset] [.ref z_, (.ref au)])) ?_
  have ne116 : au ≠ b115 := Nat.ne_of_lt (Nat.lt_of_lt_of_le f108.lt (Nat.le_of_eq g115.symm))
  have ne117 : dc ≠ b115 := Nat.ne_of_lt (Nat.lt_of_lt_of_le f102.lt (Nat.le_of_eq g115.symm))
  have ne118 : sa ≠ b115 := Nat.ne_of_lt (Nat.lt_of_lt_of_le f104.lt (Nat.le_of_eq g115.symm))
  have ne119 : b2 ≠ b115 := Nat.ne_of_lt (Nat.lt_of_lt_of_le f112.lt (Nat.le_of_eq g115.symm))
  have ne120 : b49 ≠ b115 := Nat.ne_of_lt (Nat.lt_of_lt_of_le f114.lb (Nat.le_of_eq g115.symm))
  have ne121 : wz70 ≠ b115 := Nat.ne_of_lt (Nat.lt_of_lt_of_le f114.lw (Nat.le_of_eq g115.symm))
  have ne122 : dz70 ≠ b115 := Nat.ne_of_lt (Nat.lt_of_lt_of_le f114.ld (Nat.le_of_eq g115.symm))
  have ge115 : n0 ≤ b115 := Nat.le_trans Z98 (Nat.le_of_eq g115.symm)
  have nw115 : h0.size ≤ b115 := Nat.le_trans f101.1 (Nat.le_of_eq g115.symm)
  have f123 := f100.ext E115
  have f124 := f101.ext E115
  have f125 := f102.ext E115
  have f126 := f103.ext E115
  have f127 := f104.ext E115
  have f128 := f105.ext E115
  have f129 := f99.ext E115
  have f130 := f106.ext E115
  have f131 := f107.ext E115
  have f132 := f108.ext E115
  have f133 := f109.ext E115
  have f134 := f110.ext E115
  have f135 := f111.ext E115
  have f136 := f112.ext E115
  have f137 := f113.ext E115
  have f138 := f114.ext E115
  have Z115 := Nat.le_trans Z98 E115.1
  have f139 : Fld Z h115 b115 "com/example/sonde/sonde/engine/Bits" "words" "[J" .null := D115 (Or.inl (hw _ (List.mem_of_getElem? (i := 45) rfl))) (ty := (.array .long)) (by decide)
  have f140 : Fld Z h115 b115 "com/example/sonde/sonde/engine/Bits" "held" "[J" .null := D115 (Or.inl (hw _ (List.mem_of_getElem? (i := 47) rfl))) (ty := (.array .long)) (by decide)
  show own_Go _ _ _ _ (T115.setTop (mkF m 30 #[.val (.ref au), .val (.int (3 : Int32)), .unset] [(.ref b115), (.ref au)]))
  refine own_by (fun _ k => XS.dup X115.here hx rfl (hb hby d1_30) rfl rfl k) ?_
  show own_Go _ _ _ _ (T115.setTop (mkF m 31 #[.val (.ref au), .val (.int (3 : Int32)), .unset] [(.ref b115), (.ref b115), (.ref au)]))
  refine own_callI X115 hx hZ hown rfl (hw _ (List.mem_of_getElem? (i := 39) rfl)) (hw _ (List.mem_of_getElem? (i := 40) rfl)) (hw _ (List.mem_of_getElem? (i := 38) rfl)) (hw _ (List.mem_of_getElem? (i := 41) rfl)) (by decide) (rm6 l Z a0 hw [] b115 h115 n0 Z115 A115 f139 f140 ge115) e115 (by rw [hml]; rfl) b115 [] [(.ref b115), (.ref au)] rfl (lenOf own_pd2 rfl) rfl 2 (Nat.le_of_eq rfl) (by decide) (by decide) (Nat.le_of_ble_eq_true rfl) (Nat.le_of_ble_eq_true rfl) (hb hby d1_31) ?_
  intro T141 Lc141 v141 X141 hQ141
  obtain ⟨h141, e141⟩ : ∃ h, T141.heap = h := ⟨_, rfl⟩
  rw [e141] at hQ141
  obtain ⟨rfl, N141q, K141, wz141, dz141, B141, nww141, nwd141⟩ := hQ141
  have N141 := Fr.app N98 N141q
  have f142 := f123.keep K141
  have f143 := f124.trans K141 (allS (P := fun x => x ∈ [au] ∨ h0.size ≤ x) (Or.inr nw115) all0)
  have f144 := f125.keep K141 (ninS ne117 nin0)
  have f145 := own_sta_keep f126 K141 (nsS A115.nostat ns0)
  have f146 := f127.keep K141
  have f147 := f128.keep K141 (ninS ne116 nin0)
  have f148 := f129.keep K141 (ninS ne116 nin0)
  have f149 := f130.keep K141 (ninS ne116 nin0)
  have f150 := f131.keep K141 (ninS ne116 nin0)
  have f151 := f132.keep K141 (ninS ne116 nin0)
  have f152 := f133.keep K141
  have f153 := f134.keep K141 (ninS ne119 nin0)
  have f154 := f135.keep K141 (ninS ne119 nin0)
  have f155 := f136.keep K141 (ninS ne119 nin0)
  have f156 := f137.keep K141
  have f157 := f138.keep K141 (ninS ne120 nin0) (ninS ne121 nin0) (ninS ne122 nin0)
  have f158 := A115.keep K141
  have Z141 := Nat.le_trans Z115 K141.1
  have ne161 : au ≠ wz141 := Nat.ne_of_lt (Nat.lt_of_lt_of_le f132.lt nww141)
  have ne162 : dc ≠ wz141 := Nat.ne_of_lt (Nat.lt_of_lt_of_le f125.lt nww141)
  have ne163 : sa ≠ wz141 := Nat.ne_of_lt (Nat.lt_of_lt_of_le f127.lt nww141)
  have ne164 : b2 ≠ wz141 := Nat.ne_of_lt (Nat.lt_of_lt_of_le f136.lt nww141)
  have ne165 : b49 ≠ wz141 := Nat.ne_of_lt (Nat.lt_of_lt_of_le f138.lb nww141)
  have ne166 : wz70 ≠ wz141 := Nat.ne_of_lt (Nat.lt_of_lt_of_le f138.lw nww141)
  have ne167 : dz70 ≠ wz141 := Nat.ne_of_lt (Nat.lt_of_lt_of_le f138.ld nww141)
  have ne168 : b115 ≠ wz141 := Nat.ne_of_lt (Nat.lt_of_lt_of_le f140.lt nww141)
  have nk_wz141 : h0.size ≤ wz141 := Nat.le_trans f124.1 nww141
  have ne169 : au ≠ dz141 := Nat.ne_of_lt (Nat.lt_of_lt_of_le f132.lt nwd141)
  have ne170 : dc ≠ dz141 := Nat.ne_of_lt (Nat.lt_of_lt_of_le f125.lt nwd141)
  have ne171 : sa ≠ dz141 := Nat.ne_of_lt (Nat.lt_of_lt_of_le f127.lt nwd141)
  have ne172 : b2 ≠ dz141 := Nat.ne_of_lt (Nat.lt_of_lt_of_le f136.lt nwd141)
  have ne173 : b49 ≠ dz141 := Nat.ne_of_lt (Nat.lt_of_lt_of_le f138.lb nwd141)
  have ne174 : wz70 ≠ dz141 := Nat.ne_of_lt (Nat.lt_of_lt_of_le f138.lw nwd141)
  have ne175 : dz70 ≠ dz141 := Nat.ne_of_lt (Nat.lt_of_lt_of_le f138.ld nwd141)
  have ne176 : b115 ≠ dz141 := Nat.ne_of_lt (Nat.lt_of_lt_of_le f140.lt nwd141)
  have nk_dz141 : h0.size ≤ dz141 := Nat.le_trans f124.1 nwd141
  have neb141 : b115 ≠ wz141 := by obtain ⟨-, -, -, _, _, _, _, -, -, -, -, -, -, q, -⟩ := B141; exact q
  show own_Go _ _ _ _ (T141.setTop (mkF m 34 #[.val (.ref au), .val (.int (3 : Int32)), .unset] [(.ref b115), (.ref au)]))
  obtain ⟨T177, h177, X177, e177, W177, st177⟩ := putF X141 hx hZ hown (host := "") (Or.inl (hw _ (List.mem_of_getElem? (i := 50) rfl))) Via.refl e141 f149 f142 (Or.inr ⟨(hw _ (List.mem_of_getElem? (i := 51) rfl)), rfl, hnm⟩) (hw _ (List.mem_of_getElem? (i := 2) rfl)) (ty := (.object "com/example/sonde/sonde/engine/Bits")) (by decide) rfl rfl (g := (mkF m 34 #[.val (.ref au), .val (.int (3 : Int32)), .unset] [(.ref b115), (.ref au)])) rfl rfl (hb hby d1_34)
  refine own_by st177 ?_
  have f178 := f149.same W177
  have f179 := f142.wr W177
  have f180 := f143.wr W177 (Or.inl (List.mem_of_getElem? (i := 0) rfl))
  have f181 := f144.other W177 Pnd
  have f182 := f145.wr W177
  have f183 := f146.wr W177
  have f184 := f147.other W177 (Or.inr (slot_ne (Or.inr (hw _ (List.mem_of_getElem? (i := 35) rfl))) (Or.inr (hw _ (List.mem_of_getElem? (i := 51) rfl))) (by decide) (t := (.object "java/util/List")) (t' := (.object "com/example/sonde/sonde/engine/Bits")) (by decide) (by decide)))
  have f185 := f148.other W177 (Or.inr (slot_ne (Or.inr (hw _ (List.mem_of_getElem? (i := 49) rfl))) (Or.inr (hw _ (List.mem_of_getElem? (i := 51) rfl))) (by decide) (t := (.object "com/example/sonde/sonde/engine/Bits")) (t' := (.object "com/example/sonde/sonde/engine/Bits")) (by decide) (by decide)))
  have f186 := f150.other W177 (Or.inr (slot_ne (Or.inr (hw _ (List.mem_of_getElem? (i := 54) rfl))) (Or.inr (hw _ (List.mem_of_getElem? (i := 51) rfl))) (by decide) (t := (.array (.object "com/example/sonde/sonde/engine/Bits"))) (t' := (.object "com/example/sonde/sonde/engine/Bits")) (by decide) (by decide)))
  have f187 := f151.other W177 (Or.inr (slot_ne (Or.inr (hw _ (List.mem_of_getElem? (i := 73) rfl))) (Or.inr (hw _ (List.mem_of_getElem? (i := 51) rfl))) (by decide) (t := (.array (.object "com/example/sonde/sonde/engine/Bits"))) (t' := (.object "com/example/sonde/sonde/engine/Bits")) (by decide) (by decide)))
  have f188 := f152.wr W177
  have f189 := f153.other W177 (Or.inl (Ne.symm ne3))
  have f190 := f154.other W177 (Or.inl (Ne.symm ne3))
  have f191 := f155.other W177 (Or.inl (Ne.symm ne3))
  have f192 := f156.wr W177
  have f193 := f157.other W177 (Ne.symm ne50) (Ne.symm ne88) (Ne.symm ne93)
  have f194 := f158.wr W177
  have f195 := B141.other W177 (Ne.symm ne116) (Ne.symm ne161) (Ne.symm ne169)
  have N177 := Fr.snoc X177 N141 Pau
  have Z177 := own_size_wr W177 Z141
  show own_Go _ _ _ _ (T177.setTop (mkF m 37 #[.val (.ref au), .val (.int (3 : Int32)), .unset] []))
  refine own_by (fun _ k => XS.aloadN X177.here hx rfl (hb hby d1_37) rfl rfl k) ?_
  refine own_by (fun _ k => XS.iloadN X177.here hx rfl (hb hby d1_38) rfl k) ?_
  show own_Go _ _ _ _ (T177.setTop (mkF m 39 #[.val (.ref au), .val (.int (3 : Int32)), .unset] [(.int (3 : Int32)), (.ref au)]))
  refine own_newR X177 hx hZ hown (hw _ (List.mem_of_getElem? (i := 36) rfl)) (hw _ (List.mem_of_getElem? (i := 52) rfl)) e177 3 (by decide) 3 (by decide) (by decide) (by decide) (by decide) (hb hby d1_39) ?_
  intro T196 h196 X196 e196 E196 A196
  show own_Go _ _ _ _ (T196.setTop (mkF m 42 #[.val (.ref au), .val (.int (3 : Int32)), .unset] [.ref h177.size, (.ref au)]))
  obtain ⟨b196, g196⟩ : ∃ z, z = h177.size := ⟨_, rfl⟩
  rw [← g196] at A196
  refine own_gen g196.symm (fun z_ => T196.setTop (mkF m 42 #[.val (.ref au), .val (.int (3 : Int32)), .unset] [.ref z_, (.ref au)])) ?_
  have ne197 : au ≠ b196 := Nat.ne_of_lt (Nat.lt_of_lt_of_le f187.lt (Nat.le_of_eq g196.symm))
  have ne198 : dc ≠ b196 := Nat.ne_of_lt (Nat.lt_of_lt_of_le f181.lt (Nat.le_of_eq g196.symm))
  have ne199 : sa ≠ b196 := Nat.ne_of_lt (Nat.lt_of_lt_of_le f183.lt (Nat.le_of_eq g196.symm))
  have ne200 : b2 ≠ b196 := Nat.ne_of_lt (Nat.lt_of_lt_of_le f191.lt (Nat.le_of_eq g196.symm))
  have ne201 : b49 ≠ b196 := Nat.ne_of_lt (Nat.lt_of_lt_of_le f193.lb (Nat.le_of_eq g196.symm))
  have ne202 : wz70 ≠ b196 := Nat.ne_of_lt (Nat.lt_of_lt_of_le f193.lw (Nat.le_of_eq g196.symm))
  have ne203 : dz70 ≠ b196 := Nat.ne_of_lt (Nat.lt_of_lt_of_le f193.ld (Nat.le_of_eq g196.symm))
  have ne204 : b115 ≠ b196 := Nat.ne_of_lt (Nat.lt_of_lt_of_le f195.lb (Nat.le_of_eq g196.symm))
  have ne205 : wz141 ≠ b196 := Nat.ne_of_lt (Nat.lt_of_lt_of_le f195.lw (Nat.le_of_eq g196.symm))
  have ne206 : dz141 ≠ b196 := Nat.ne_of_lt (Nat.lt_of_lt_of_le f195.ld (Nat.le_of_eq g196.symm))
  have ge196 : n0 ≤ b196 := Nat.le_trans Z177 (Nat.le_of_eq g196.symm)
  have nw196 : h0.size ≤ b196 := Nat.le_trans f180.1 (Nat.le_of_eq g196.symm)
  have f207 := f179.ext E196
  have f208 := f180.ext E196
  have f209 := f181.ext E196
  have f210 := f182.ext E196
  have f211 := f183.ext E196
  have f212 := f184.ext E196
  have f213 := f185.ext E196
  have f214 := f178.ext E196
  have f215 := f186.ext E196
  have f216 := f187.ext E196
  have f217 := f188.ext E196
  have f218 := f189.ext E196
  have f219 := f190.ext E196
  have f220 := f191.ext E196
  have f221 := f192.ext E196
  have f222 := f193.ext E196
  have f223 := f194.ext E196
  have f224 := f195.ext E196
  have Z196 := Nat.le_trans Z177 E196.1
  show own_Go _ _ _ _ (T196.setTop (mkF m 42 #[.val (.ref au), .val (.int (3 : Int32)), .unset] [(.ref b196), (.ref au)]))
  obtain ⟨T225, h225, X225, e225, W225, st225⟩ := putF X196 hx hZ hown (host := "") (Or.inl (hw _ (List.mem_of_getElem? (i := 53) rfl))) Via.refl e196 f215 f207 (Or.inr ⟨(hw _ (List.mem_of_getElem? (i := 54) rfl)), rfl, hnm⟩) (hw _ (List.mem_of_getElem? (i := 2) rfl)) (ty := (.array (.object "com/example/sonde/sonde/engine/Bits"))) (by decide) rfl rfl (g := (mkF m 42 #[.val (.ref au), .val (.int (3 : Int32)), .unset] [(.ref b196), (.ref au)])) rfl rfl (hb hby d1_42)
  refine own_by st225 ?_
  have f226 := f215.same W225
  have f227 := f207.wr W225
  have f228 := f208.wr W225 (Or.inl (List.mem_of_getElem? (i := 0) rfl))
  have f229 := f209.other W225 Pnd
  have f230 := f210.wr W225
  have f231 := f211.wr W225
  have f232 := f212.other W225 (Or.inr (slot_ne (Or.inr (hw _ (List.mem_of_getElem? (i := 35) rfl))) (Or.inr (hw _ (List.mem_of_getElem? (i := 54) rfl))) (by decide) (t := (.object "java/util/List")) (t' := (.array (.object "com/example/sonde/sonde/engine/Bits"))) (by decide) (by decide)))
  have f233 := f213.other W225 (Or.inr (slot_ne (Or.inr (hw _ (List.mem_of_getElem? (i := 49) rfl))) (Or.inr (hw _ (List.mem_of_getElem? (i := 54) rfl))) (by decide) (t := (.object "com/example/sonde/sonde/engine/Bits")) (t' := (.array (.object "com/example/sonde/sonde/engine/Bits"))) (by decide) (by decide)))
  have f234 := f214.other W225 (Or.inr (slot_ne (Or.inr (hw _ (List.mem_of_getElem? (i := 51) rfl))) (Or.inr (hw _ (List.mem_of_getElem? (i := 54) rfl))) (by decide) (t := (.object "com/example/sonde/sonde/engine/Bits")) (t' := (.array (.object "com/example/sonde/sonde/engine/Bits"))) (by decide) (by decide)))
  have f235 := f216.other W225 (Or.inr (slot_ne (Or.inr (hw _ (List.mem_of_getElem? (i := 73) rfl))) (Or.inr (hw _ (List.mem_of_getElem? (i := 54) rfl))) (by decide) (t := (.array (.object "com/example/sonde/sonde/engine/Bits"))) (t' := (.array (.object "com/example/sonde/sonde/engine/Bits"))) (by decide) (by decide)))
  have f236 := f217.wr W225
  have f237 := f218.other W225 (Or.inl (Ne.symm ne3))
  have f238 := f219.other W225 (Or.inl (Ne.symm ne3))
  have f239 := f220.other W225 (Or.inl (Ne.symm ne3))
  have f240 := f221.wr W225
  have f241 := f222.other W225 (Ne.symm ne50) (Ne.symm ne88) (Ne.symm ne93)
  have f242 := f223.wr W225
  have f243 := f224.other W225 (Ne.symm ne116) (Ne.symm ne161) (Ne.symm ne169)
  have f244 := A196.other W225 (Ne.symm ne197)
  have N225 := Fr.snoc X225 N177 Pau
  have Z225 := own_size_wr W225 Z196
  show own_Go _ _ _ _ (T225.setTop (mkF m 45 #[.val (.ref au), .val (.int (3 : Int32)), .unset] []))
  refine own_by (fun _ k => XS.aloadN X225.here hx rfl (hb hby d1_45) rfl rfl k) ?_
  show own_Go _ _ _ _ (T225.setTop (mkF m 46 #[.val (.ref au), .val (.int (3 : Int32)), .unset] [(.ref au)]))
  obtain ⟨T245, X245, e245, st245⟩ := getF X225 hx hZ hown (host := "") (Or.inl (hw _ (List.mem_of_getElem? (i := 53) rfl))) Via.refl e225 f226 (g := (mkF m 46 #[.val (.ref au), .val (.int (3 : Int32)), .unset] [(.ref au)])) rfl rfl (hb hby d1_46)
  refine own_by st245 ?_
  show own_Go _ _ _ _ (T245.setTop (mkF m 49 #[.val (.ref au), .val (.int (3 : Int32)), .unset] [(.ref b196)]))
  refine own_by (fun _ k => own_site X245 hx hZ Bd.named PSt (by rw [hml]; rfl) (hb hby d1_49) 1 (Nat.le_of_eq rfl) (by decide) k) ?_
  show own_Go _ _ _ _ (T245.setTop (mkF m 54 #[.val (.ref au), .val (.int (3 : Int32)), .unset] [(.ref sa), (.ref b196)]))
  refine own_callSL X245 hx hZ hown hH (hw _ (List.mem_of_getElem? (i := 58) rfl)) (hw _ (List.mem_of_getElem? (i := 59) rfl)) (hw _ (List.mem_of_getElem? (i := 60) rfl)) (hw _ (List.mem_of_getElem? (i := 61) rfl)) (by decide) (rm7_3 l Z a0 hw [] b196 sa cK (fun _ => .null) h225 n0 Z225 f244 f231 PSt ge196) e245 (by rw [hml]; rfl) [(.ref b196), (.ref sa)] [] rfl (lenOf own_pd3 rfl) rfl 0 (Nat.le_of_eq rfl) (by decide) (by decide) (Nat.le_of_ble_eq_true rfl) (Nat.le_of_ble_eq_true rfl) (hb hby d1_54) ?_
  intro T246 Lc246 v246 X246 hQ246
  obtain ⟨h246, e246⟩ : ∃ h, T246.heap = h := ⟨_, rfl⟩
  rw [e246] at hQ246
  obtain ⟨rfl, N246q, K246, fz246, AR246⟩ := hQ246
  have N246 := Fr.app N225 N246q
  have f247 := f227.keep K246
  have f248 := f228.trans K246 (allS (P := fun x => x ∈ [au] ∨ h0.size ≤ x) (Or.inr nw196) all0)
  have f249 := f229.keep K246 (ninS ne198 nin0)
  have f250 := own_sta_keep f230 K246 (nsS f244.nostat ns0)
  have f251 := f231.keep K246
  have f252 := f232.keep K246 (ninS ne197 nin0)
  have f253 := f233.keep K246 (ninS ne197 nin0)
  have f254 := f234.keep K246 (ninS ne197 nin0)
  have f255 := f226.keep K246 (ninS ne197 nin0)
  have f256 := f235.keep K246 (ninS ne197 nin0)
  have f257 := f236.keep K246
  have f258 := f237.keep K246 (ninS ne200 nin0)
  have f259 := f238.keep K246 (ninS ne200 nin0)
  have f260 := f239.keep K246 (ninS ne200 nin0)
  have f261 := f240.keep K246
  have f262 := f241.keep K246 (ninS ne201 nin0) (ninS ne202 nin0) (ninS ne203 nin0)
  have f263 := f242.keep K246
  have f264 := f243.keep K246 (ninS ne204 nin0) (ninS ne205 nin0) (ninS ne206 nin0)
  have Z246 := Nat.le_trans Z225 K246.1
  show own_Go _ _ _ _ (T246.setTop (mkF m 57 #[.val (.ref au), .val (.int (3 : Int32)), .unset] []))
  refine own_by (fun _ k => XS.aloadN X246.here hx rfl (hb hby d1_57) rfl rfl k) ?_
  refine own_by (fun _ k => XS.iloadN X246.here hx rfl (hb hby d1_58) rfl k) ?_
  refine own_by (fun _ k => XS.iloadN X246.here hx rfl (hb hby d1_59) rfl k) ?_
  show own_Go _ _ _ _ (T246.setTop (mkF m 60 #[.val (.ref au), .val (.int (3 : Int32)), .unset] [(.int (3 : Int32)), (.int (3 : Int32)), (.ref au)]))
  refine own_by (fun _ k => XS.imul X246.here hx rfl (hb hby d1_60) rfl k) ?_
  show own_Go _ _ _ _ (T246.setTop (mkF m 61 #[.val (.ref au), .val (.int (3 : Int32)), .unset] [(.int ((3 : Int32) * (3 : Int32))), (.ref au)]))
  rw [(by decide : ((3 : Int32) * (3 : Int32)) = (9 : Int32))]
  show own_Go _ _ _ _ (T246.setTop (mkF m 61 #[.val (.ref au), .val (.int (3 : Int32)), .unset] [(.int (9 : Int32)), (.ref au)]))
  refine own_newR X246 hx hZ hown (hw _ (List.mem_of_getElem? (i := 36) rfl)) (hw _ (List.mem_of_getElem? (i := 52) rfl)) e246 9 (by decide) 9 (by decide) (by decide) (by decide) (by decide) (hb hby d1_61) ?_
  intro T266 h266 X266 e266 E266 A266
  show own_Go _ _ _ _ (T266.setTop (mkF m 64 #[.val (.ref au), .val (.int (3 : Int32)), .unset] [.ref h246.size, (.ref au)]))
  obtain ⟨b266, g266⟩ : ∃ z, z = h246.size := ⟨_, rfl⟩
  rw [← g266] at A266
  refine own_gen g266.symm (fun z_ => T266.setTop (mkF m 64 #[.val (.ref au), .val (.int (3 : Int32)), .unset] [.ref z_, (.ref au)])) ?_
  have ne267 : au ≠ b266 := Nat.ne_of_lt (Nat.lt_of_lt_of_le f256.lt (Nat.le_of_eq g266.symm))
  have ne268 : dc ≠ b266 := Nat.ne_of_lt (Nat.lt_of_lt_of_le f249.lt (Nat.le_of_eq g266.symm))
  have ne269 : sa ≠ b266 := Nat.ne_of_lt (Nat.lt_of_lt_of_le f251.lt (Nat.le_of_eq g266.symm))
  have ne270 : b2 ≠ b266 := Nat.ne_of_lt (Nat.lt_of_lt_of_le f260.lt (Nat.le_of_eq g266.symm))
  have ne271 : b49 ≠ b266 := Nat.ne_of_lt (Nat.lt_of_lt_of_le f262.lb (Nat.le_of_eq g266.symm))
  have ne272 : wz70 ≠ b266 := Nat.ne_of_lt (Nat.lt_of_lt_of_le f262.lw (Nat.le_of_eq g266.symm))
  have ne273 : dz70 ≠ b266 := Nat.ne_of_lt (Nat.lt_of_lt_of_le f262.ld (Nat.le_of_eq g266.symm))
  have ne274 : b115 ≠ b266 := Nat.ne_of_lt (Nat.lt_of_lt_of_le f264.lb (Nat.le_of_eq g266.symm))
  have ne275 : wz141 ≠ b266 := Nat.ne_of_lt (Nat.lt_of_lt_of_le f264.lw (Nat.le_of_eq g266.symm))
  have ne276 : dz141 ≠ b266 := Nat.ne_of_lt (Nat.lt_of_lt_of_le f264.ld (Nat.le_of_eq g266.symm))
  have ne277 : b196 ≠ b266 := Nat.ne_of_lt (Nat.lt_of_lt_of_le AR246.lt (Nat.le_of_eq g266.symm))
  have ge266 : n0 ≤ b266 := Nat.le_trans Z246 (Nat.le_of_eq g266.symm)
  have nw266 : h0.size ≤ b266 := Nat.le_trans f248.1 (Nat.le_of_eq g266.symm)
  have f278 := f247.ext E266
  have f279 := f248.ext E266
  have f280 := f249.ext E266
  have f281 := f250.ext E266
  have f282 := f251.ext E266
  have f283 := f252.ext E266
  have f284 := f253.ext E266
  have f285 := f254.ext E266
  have f286 := f255.ext E266
  have f287 := f256.ext E266
  have f288 := f257.ext E266
  have f289 := f258.ext E266
  have f290 := f259.ext E266
  have f291 := f260.ext E266
  have f292 := f261.ext E266
  have f293 := f262.ext E266
  have f294 := f263.ext E266
  have f295 := f264.ext E266
  have f296 := AR246.ext E266
  have Z266 := Nat.le_trans Z246 E266.1
  show own_Go _ _ _ _ (T266.setTop (mkF m 64 #[.val (.ref au), .val (.int (3 : Int32)), .unset] [(.ref b266), (.ref au)]))
  obtain ⟨T297, h297, X297, e297, W297, st297⟩ := putF X266 hx hZ hown (host := "") (Or.inl (hw _ (List.mem_of_getElem? (i := 72) rfl))) Via.refl e266 f287 f278 (Or.inr ⟨(hw _ (List.mem_of_getElem? (i := 73) rfl)), rfl, hnm⟩) (hw _ (List.mem_of_getElem? (i := 2) rfl)) (ty := (.array (.object "com/example/sonde/sonde/engine/Bits"))) (by decide) rfl rfl (g := (mkF m 64 #[.val (.ref au), .val (.int (3 : Int32)), .unset] [(.ref b266), (.ref au)])) rfl rfl (hb hby d1_64)
  refine own_by st297 ?_
  have f298 := f287.same W297
  have f299 := f278.wr W297
  have f300 := f279.wr W297 (Or.inl (List.mem_of_getElem? (i := 0) rfl))
  have f301 := f280.other W297 Pnd
  have f302 := f281.wr W297
  have f303 := f282.wr W297
  have f304 := f283.other W297 (Or.inr (slot_ne (Or.inr (hw _ (List.mem_of_getElem? (i := 35) rfl))) (Or.inr (hw _ (List.mem_of_getElem? (i := 73) rfl))) (by decide) (t := (.object "java/util/List")) (t' := (.array (.object "com/example/sonde/sonde/engine/Bits"))) (by decide) (by decide)))
  have f305 := f284.other W297 (Or.inr (slot_ne (Or.inr (hw _ (List.mem_of_getElem? (i := 49) rfl))) (Or.inr (hw _ (List.mem_of_getElem? (i := 73) rfl))) (by decide) (t := (.object "com/example/sonde/sonde/engine/Bits")) (t' := (.array (.object "com/example/sonde/sonde/engine/Bits"))) (by decide) (by decide)))
  have f306 := f285.other W297 (Or.inr (slot_ne (Or.inr (hw _ (List.mem_of_getElem? (i := 51) rfl))) (Or.inr (hw _ (List.mem_of_getElem? (i := 73) rfl))) (by decide) (t := (.object "com/example/sonde/sonde/engine/Bits")) (t' := (.array (.object "com/example/sonde/sonde/engine/Bits"))) (by decide) (by decide)))
  have f307 := f286.other W297 (Or.inr (slot_ne (Or.inr (hw _ (List.mem_of_getElem? (i := 54) rfl))) (Or.inr (hw _ (List.mem_of_getElem? (i := 73) rfl))) (by decide) (t := (.array (.object "com/example/sonde/sonde/engine/Bits"))) (t' := (.array (.object "com/example/sonde/sonde/engine/Bits"))) (by decide) (by decide)))
  have f308 := f288.wr W297
  have f309 := f289.other W297 (Or.inl (Ne.symm ne3))
  have f310 := f290.other W297 (Or.inl (Ne.symm ne3))
  have f311 := f291.other W297 (Or.inl (Ne.symm ne3))
  have f312 := f292.wr W297
  have f313 := f293.other W297 (Ne.symm ne50) (Ne.symm ne88) (Ne.symm ne93)
  have f314 := f294.wr W297
  have f315 := f295.other W297 (Ne.symm ne116) (Ne.symm ne161) (Ne.symm ne169)
  have f316 := f296.other W297 (Ne.symm ne197)
  have f317 := A266.other W297 (Ne.symm ne267)
  have N297 := Fr.snoc X297 N246 Pau
  have Z297 := own_size_wr W297 Z266
  show own_Go _ _ _ _ (T297.setTop (mkF m 67 #[.val (.ref au), .val (.int (3 : Int32)), .unset] []))
  refine own_by (fun _ k => XS.iconst X297.here hx rfl (hb hby d1_67) k) ?_
  show own_Go _ _ _ _ (T297.setTop (mkF m 68 #[.val (.ref au), .val (.int (3 : Int32)), .unset] [(.int (0 : Int32))]))
  refine own_by (fun _ k => XS.istoreN X297.here hx rfl (hb hby d1_68) rfl (l' := #[.val (.ref au), .val (.int (3 : Int32)), .val (.int (0 : Int32))]) rfl k) ?_
  refine own_by (fun _ k => XS.iloadN X297.here hx rfl (hb hby d1_69) rfl k) ?_
  refine own_by (fun _ k => XS.iloadN X297.here hx rfl (hb hby d1_70) rfl k) ?_
  show own_Go _ _ _ _ (T297.setTop (mkF m 71 #[.val (.ref au), .val (.int (3 : Int32)), .val (.int (0 : Int32))] [(.int (3 : Int32)), (.int (0 : Int32))]))
  refine own_by (fun _ k => XS.icmpNo X297.here hx rfl (hb hby d1_71) rfl (tlt (by decide)).2.1 k) ?_
  refine own_by (fun _ k => XS.aloadN X297.here hx rfl (hb hby d1_74) rfl rfl k) ?_
  show own_Go _ _ _ _ (T297.setTop (mkF m 75 #[.val (.ref au), .val (.int (3 : Int32)), .val (.int (0 : Int32))] [(.ref au)]))
  obtain ⟨T318, X318, e318, st318⟩ := getF X297 hx hZ hown (host := "") (Or.inl (hw _ (List.mem_of_getElem? (i := 34) rfl))) Via.refl e297 f304 (g := (mkF m 75 #[.val (.ref au), .val (.int (3 : Int32)), .val (.int (0 : Int32))] [(.ref au)])) rfl rfl (hb hby d1_75)
  refine own_by st318 ?_
  show own_Go _ _ _ _ (T318.setTop (mkF m 78 #[.val (.ref au), .val (.int (3 : Int32)), .val (.int (0 : Int32))] [(.ref b2)]))
  obtain ⟨T319, h319, X319, e319, E319, A319, D319, -, st319⟩ := newO X318 hx hZ hown (hw _ (List.mem_of_getElem? (i := 10) rfl)) (hw _ (List.mem_of_getElem? (i := 11) rfl)) (hw _ (List.mem_of_getElem? (i := 12) rfl)) e318 (g := (mkF m 78 #[.val (.ref au), .val (.int (3 : Int32)), .val (.int (0 : Int32))] [(.ref b2)])) rfl (hb hby d1_78) (by decide) (by decide)
  refine own_by st319 ?_
  show own_Go _ _ _ _ (T319.setTop (mkF m 81 #[.val (.ref au), .val (.int (3 : Int32)), .val (.int (0 : Int32))] [.ref h297.size, (.ref b2)]))
  obtain ⟨b319, g319⟩ : ∃ z, z = h297.size := ⟨_, rfl⟩
  rw [← g319] at A319 D319
  refine own_gen g319.symm (fun z_ => T319.setTop (mkF m 81 #[.val (.ref au), .val (.int (3 : Int32)), .val (.int (0 : Int32))] [.ref z_, (.ref b2)])) ?_
  have ne320 : au ≠ b319 := Nat.ne_of_lt (Nat.lt_of_lt_of_le f298.lt (Nat.le_of_eq g319.symm))
  have ne321 : dc ≠ b319 := Nat.ne_of_lt (Nat.lt_of_lt_of_le f301.lt (Nat.le_of_eq g319.symm))
  have ne322 : sa ≠ b319 := Nat.ne_of_lt (Nat.lt_of_lt_of_le f303.lt (Nat.le_of_eq g319.symm))
  have ne323 : b2 ≠ b319 := Nat.ne_of_lt (Nat.lt_of_lt_of_le f311.lt (Nat.le_of_eq g319.symm))
  have ne324 : b49 ≠ b319 := Nat.ne_of_lt (Nat.lt_of_lt_of_le f313.lb (Nat.le_of_eq g319.symm))
  have ne325 : wz70 ≠ b319 := Nat.ne_of_lt (Nat.lt_of_lt_of_le f313.lw (Nat.le_of_eq g319.symm))
  have ne326 : dz70 ≠ b319 := Nat.ne_of_lt (Nat.lt_of_lt_of_le f313.ld (Nat.le_of_eq g319.symm))
  have ne327 : b115 ≠ b319 := Nat.ne_of_lt (Nat.lt_of_lt_of_le f315.lb (Nat.le_of_eq g319.symm))
  have ne328 : wz141 ≠ b319 := Nat.ne_of_lt (Nat.lt_of_lt_of_le f315.lw (Nat.le_of_eq g319.symm))
  have ne329 : dz141 ≠ b319 := Nat.ne_of_lt (Nat.lt_of_lt_of_le f315.ld (Nat.le_of_eq g319.symm))
  have ne330 : b196 ≠ b319 := Nat.ne_of_lt (Nat.lt_of_lt_of_le f316.lt (Nat.le_of_eq g319.symm))
  have ne331 : b266 ≠ b319 := Nat.ne_of_lt (Nat.lt_of_lt_of_le f317.lt (Nat.le_of_eq g319.symm))
  have ge319 : n0 ≤ b319 := Nat.le_trans Z297 (Nat.le_of_eq g319.symm)
  have nw319 : h0.size ≤ b319 := Nat.le_trans f300.1 (Nat.le_of_eq g319.symm)
  have f332 := f299.ext E319
  have f333 := f300.ext E319
  have f334 := f301.ext E319
  have f335 := f302.ext E319
  have f336 := f303.ext E319
  have f337 := f304.ext E319
  have f338 := f305.ext E319
  have f339 := f306.ext E319
  have f340 := f307.ext E319
  have f341 := f298.ext E319
  have f342 := f308.ext E319
  have f343 := f309.ext E319
  have f344 := f310.ext E319
  have f345 := f311.ext E319
  have f346 := f312.ext E319
  have f347 := f313.ext E319
  have f348 := f314.ext E319
  have f349 := f315.ext E319
  have f350 := f316.ext E319
  have f351 := f317.ext E319
  have Z319 := Nat.le_trans Z297 E319.1
  have f352 : Fld Z h319 b319 "java/util/AbstractList" "modCount" "I" (.int (0 : Int32)) := D319 (Or.inl (hw _ (List.mem_of_getElem? (i := 30) rfl))) (ty := .int) (by decide)
  have f353 : Fld Z h319 b319 "java/util/ArrayList" "elementData" "[Ljava/lang/Object;" .null := D319 (Or.inl (hw _ (List.mem_of_getElem? (i := 33) rfl))) (ty := (.array (.object "java/lang/Object"))) (by decide)
  have f354 : Fld Z h319 b319 "java/util/ArrayList" "size" "I" (.int (0 : Int32)) := D319 (Or.inl (hw _ (List.mem_of_getElem? (i := 86) rfl))) (ty := .int) (by decide)
  show own_Go _ _ _ _ (T319.setTop (mkF m 81 #[.val (.ref au), .val (.int (3 : Int32)), .val (.int (0 : Int32))] [(.ref b319), (.ref b2)]))
  refine own_by (fun _ k => XS.dup X319.here hx rfl (hb hby d1_81) rfl rfl k) ?_
  show own_Go _ _ _ _ (T319.setTop (mkF m 82 #[.val (.ref au), .val (.int (3 : Int32)), .val (.int (0 : Int32))] [(.ref b319), (.ref b319), (.ref b2)]))
  refine own_callI X319 hx hZ hown rfl (hw _ (List.mem_of_getElem? (i := 13) rfl)) (hw _ (List.mem_of_getElem? (i := 14) rfl)) (hw _ (List.mem_of_getElem? (i := 12) rfl)) (hw _ (List.mem_of_getElem? (i := 15) rfl)) (by decide) (rm3 l Z a0 hw [] b319 dc h319 n0 Z319 A319 f352 f353 f354 ge319 f335) e319 (by rw [hml]; rfl) b319 [] [(.ref b319), (.ref b2)] rfl (lenOf own_pd2 rfl) rfl 2 (Nat.le_of_eq rfl) (by decide) (by decide) (Nat.le_of_ble_eq_true rfl) (Nat.le_of_ble_eq_true rfl) (hb hby d1_82) ?_
  intro T355 Lc355 v355 X355 hQ355
  obtain ⟨h355, e355⟩ : ∃ h, T355.heap = h := ⟨_, rfl⟩
  rw [e355] at hQ355
  obtain ⟨rfl, N355q, K355, PL355⟩ := hQ355
  have N355 := Fr.app N297 N355q
  have f356 := f332.keep K355
  have f357 := f333.trans K355 (allS (P := fun x => x ∈ [au] ∨ h0.size ≤ x) (Or.inr nw319) all0)
  have f358 := f334.keep K355 (ninS ne321 nin0)
  have f359 := own_sta_keep f335 K355 (nsS A319.nostat ns0)
  have f360 := f336.keep K355
  have f361 := f337.keep K355 (ninS ne320 nin0)
  have f362 := f338.keep K355 (ninS ne320 nin0)
  have f363 := f339.keep K355 (ninS ne320 nin0)
  have f364 := f340.keep K355 (ninS ne320 nin0)
  have f365 := f341.keep K355 (ninS ne320 nin0)
  have f366 := f342.keep K355
  have f367 := f343.keep K355 (ninS ne323 nin0)
  have f368 := f344.keep K355 (ninS ne323 nin0)
  have f369 := f345.keep K355 (ninS ne323 nin0)
  have f370 := f346.keep K355
  have f371 := f347.keep K355 (ninS ne324 nin0) (ninS ne325 nin0) (ninS ne326 nin0)
  have f372 := f348.keep K355
  have f373 := f349.keep K355 (ninS ne327 nin0) (ninS ne328 nin0) (ninS ne329 nin0)
  have f374 := f350.keep K355 (ninS ne330 nin0)
  have f375 := f351.keep K355 (ninS ne331 nin0)
  have f376 := A319.keep K355
  have Z355 := Nat.le_trans Z319 K355.1
  obtain ⟨-, FE355, FS355, FM355⟩ := PL355
  show own_Go _ _ _ _ (T355.setTop (mkF m 85 #[.val (.ref au), .val (.int (3 : Int32)), .val (.int (0 : Int32))] [(.ref b319), (.ref b2)]))
  refine own_callF X355 hx hZ hown (hw _ (List.mem_of_getElem? (i := 74) rfl)) (hw _ (List.mem_of_getElem? (i := 75) rfl)) (hw _ (List.mem_of_getElem? (i := 76) rfl)) (hw _ (List.mem_of_getElem? (i := 77) rfl)) (hw _ (List.mem_of_getElem? (i := 78) rfl)) (hw _ (List.mem_of_getElem? (i := 79) rfl)) (hw _ (List.mem_of_getElem? (i := 80) rfl)) (hw _ (List.mem_of_getElem? (i := 81) rfl)) (hw _ (List.mem_of_getElem? (i := 12) rfl)) (hw _ (List.mem_of_getElem? (i := 82) rfl)) (by decide) rfl (rm10_e l Z a0 hw [] b2 b319 dc (0 : Int32) fd h355 n0 Z355 ⟨f366, f368, f369, f367⟩ f358 f359 ge2 Pdc f376) e355 b2 f366 (by rw [hml]; rfl) [(.ref b319)] [] rfl (lenOf own_pd6 rfl) rfl 0 (Nat.le_of_eq rfl) (by decide) (by decide) (Nat.le_of_ble_eq_true rfl) (Nat.le_of_ble_eq_true rfl) (hb hby d1_85) ?_
  intro T380 Lc380 v380 X380 hQ380
  obtain ⟨h380, e380⟩ : ∃ h, T380.heap = h := ⟨_, rfl⟩
  rw [e380] at hQ380
  obtain ⟨rfl, N380q, K380, ed380, fz380, mz380, nw380, AB380, PL380⟩ := hQ380
  have N380 := Fr.app N355 N380q
  have f381 := f356.keep K380
  have f382 := f357.trans K380 (allS (P := fun x => x ∈ [au] ∨ h0.size ≤ x) (Or.inr nw2) all0)
  have f383 := f358.keep K380 (ninS ne4 nin0)
  have f384 := own_sta_keep f359 K380 (nsS f366.nostat ns0)
  have f385 := f360.keep K380
  have f386 := f361.keep K380 (ninS ne3 nin0)
  have f387 := f362.keep K380 (ninS ne3 nin0)
  have f388 := f363.keep K380 (ninS ne3 nin0)
  have f389 := f364.keep K380 (ninS ne3 nin0)
  have f390 := f365.keep K380 (ninS ne3 nin0)
  have f391 := f366.keep K380
  have f395 := f370.keep K380
  have f396 := f371.keep K380 (ninS (Ne.symm ne53) nin0) (ninS (Ne.symm ne91) nin0) (ninS (Ne.symm ne96) nin0)
  have f397 := f372.keep K380
  have f398 := f373.keep K380 (ninS (Ne.symm ne119) nin0) (ninS (Ne.symm ne164) nin0) (ninS (Ne.symm ne172) nin0)
  have f399 := f374.keep K380 (ninS (Ne.symm ne200) nin0)
  have f400 := f375.keep K380 (ninS (Ne.symm ne270) nin0)
  have f401 := f376.keep K380
  have f402 := FM355.keep K380 (ninS (Ne.symm ne323) nin0)
  have f403 := FE355.keep K380 (ninS (Ne.symm ne323) nin0)
  have f404 := FS355.keep K380 (ninS (Ne.symm ne323) nin0)
  have Z380 := Nat.le_trans Z355 K380.1
  have ne405 : au ≠ ed380 := Nat.ne_of_lt (Nat.lt_of_lt_of_le f365.lt nw380)
  have ne406 : dc ≠ ed380 := Nat.ne_of_lt (Nat.lt_of_lt_of_le f358.lt nw380)
  have ne407 : sa ≠ ed380 := Nat.ne_of_lt (Nat.lt_of_lt_of_le f360.lt nw380)
  have ne408 : b2 ≠ ed380 := Nat.ne_of_lt (Nat.lt_of_lt_of_le f369.lt nw380)
  have ne409 : b49 ≠ ed380 := Nat.ne_of_lt (Nat.lt_of_lt_of_le f371.lb nw380)
  have ne410 : wz70 ≠ ed380 := Nat.ne_of_lt (Nat.lt_of_lt_of_le f371.lw nw380)
  have ne411 : dz70 ≠ ed380 := Nat.ne_of_lt (Nat.lt_of_lt_of_le f371.ld nw380)
  have ne412 : b115 ≠ ed380 := Nat.ne_of_lt (Nat.lt_of_lt_of_le f373.lb nw380)
  have ne413 : wz141 ≠ ed380 := Nat.ne_of_lt (Nat.lt_of_lt_of_le f373.lw nw380)
  have ne414 : dz141 ≠ ed380 := Nat.ne_of_lt (Nat.lt_of_lt_of_le f373.ld nw380)
  have ne415 : b196 ≠ ed380 := Nat.ne_of_lt (Nat.lt_of_lt_of_le f374.lt nw380)
  have ne416 : b266 ≠ ed380 := Nat.ne_of_lt (Nat.lt_of_lt_of_le f375.lt nw380)
  have ne417 : b319 ≠ ed380 := Nat.ne_of_lt (Nat.lt_of_lt_of_le FS355.lt nw380)
  have ge380 : n0 ≤ ed380 := Nat.le_trans Z355 nw380
  have nk380 : h0.size ≤ ed380 := Nat.le_trans f357.1 nw380
  obtain ⟨-, FE380, FS380, FM380⟩ := PL380
  show own_Go _ _ _ _ (T380.setTop (mkF m 90 #[.val (.ref au), .val (.int (3 : Int32)), .val (.int (0 : Int32))] [(.int (1 : Int32))]))
  refine own_by (fun _ k => XS.pop X380.here hx rfl (hb hby d1_90) rfl rfl k) ?_
  show own_Go _ _ _ _ (T380.setTop (mkF m 91 #[.val (.ref au), .val (.int (3 : Int32)), .val (.int (0 : Int32))] []))
  refine own_by (fun _ k => XS.iinc X380.here hx rfl (hb hby d1_91) rfl (l' := #[.val (.ref au), .val (.int (3 : Int32)), .val (.int ((0 : Int32) + (1 : Int32)))]) rfl k) ?_
  show own_Go _ _ _ _ (T380.setTop (mkF m 94 #[.val (.ref au), .val (.int (3 : Int32)), .val (.int ((0 : Int32) + (1 : Int32)))] []))
  rw [(by decide : ((0 : Int32) + (1 : Int32)) = (1 : Int32))]
  show own_Go _ _ _ _ (T380.setTop (mkF m 94 #[.val (.ref au), .val (.int (3 : Int32)), .val (.int (1 : Int32))] []))
  refine own_by (fun _ k => XS.goto X380.here hx rfl (pc0 := 94) (pc' := 69) rfl (hb hby d1_94) (by decide) (by decide) k) ?_
  refine own_by (fun _ k => XS.iloadN X380.here hx rfl (hb hby d1_69) rfl k) ?_
  refine own_by (fun _ k => XS.iloadN X380.here hx rfl (hb hby d1_70) rfl k) ?_
  show own_Go _ _ _ _ (T380.setTop (mkF m 71 #[.val (.ref au), .val (.int (3 : Int32)), .val (.int (1 : Int32))] [(.int (3 : Int32)), (.int (1 : Int32))]))
  refine own_by (fun _ k => XS.icmpNo X380.here hx rfl (hb hby d1_71) rfl (tlt (by decide)).2.1 k) ?_
  refine own_by (fun _ k => XS.aloadN X380.here hx rfl (hb hby d1_74) rfl rfl k) ?_
  show own_Go _ _ _ _ (T380.setTop (mkF m 75 #[.val (.ref au), .val (.int (3 : Int32)), .val (.int (1 : Int32))] [(.ref au)]))
  obtain ⟨T418, X418, e418, st418⟩ := getF X380 hx hZ hown (host := "") (Or.inl (hw _ (List.mem_of_getElem? (i := 34) rfl))) Via.refl e380 f386 (g := (mkF m 75 #[.val (.ref au), .val (.int (3 : Int32)), .val (.int (1 : Int32))] [(.ref au)])) rfl rfl (hb hby d1_75)
  refine own_by st418 ?_
  show own_Go _ _ _ _ (T418.setTop (mkF m 78 #[.val (.ref au), .val (.int (3 : Int32)), .val (.int (1 : Int32))] [(.ref b2)]))
  obtain ⟨T419, h419, X419, e419, E419, A419, D419, -, st419⟩ := newO X418 hx hZ hown (hw _ (List.mem_of_getElem? (i := 10) rfl)) (hw _ (List.mem_of_getElem? (i := 11) rfl)) (hw _ (List.mem_of_getElem? (i := 12) rfl)) e418 (g := (mkF m 78 #[.val (.ref au), .val (.int (3 : Int32)), .val (.int (1 : Int32))] [(.ref b2)])) rfl (hb hby d1_78) (by decide) (by decide)
  refine own_by st419 ?_
  show own_Go _ _ _ _ (T419.setTop (mkF m 81 #[.val (.ref au), .val (.int (3 : Int32)), .val (.int (1 : Int32))] [.ref h380.size, (.ref b2)]))
  obtain ⟨b419, g419⟩ : ∃ z, z = h380.size := ⟨_, rfl⟩
  rw [← g419] at A419 D419
  refine own_gen g419.symm (fun z_ => T419.setTop (mkF m 81 #[.val (.ref au), .val (.int (3 : Int32)), .val (.int (1 : Int32))] [.ref z_, (.ref b2)])) ?_
  have ne420 : au ≠ b419 := Nat.ne_of_lt (Nat.lt_of_lt_of_le f390.lt (Nat.le_of_eq g419.symm))
  have ne421 : dc ≠ b419 := Nat.ne_of_lt (Nat.lt_of_lt_of_le f383.lt (Nat.le_of_eq g419.symm))
  have ne422 : sa ≠ b419 := Nat.ne_of_lt (Nat.lt_of_lt_of_le f385.lt (Nat.le_of_eq g419.symm))
  have ne423 : b2 ≠ b419 := Nat.ne_of_lt (Nat.lt_of_lt_of_le FS380.lt (Nat.le_of_eq g419.symm))
  have ne424 : b49 ≠ b419 := Nat.ne_of_lt (Nat.lt_of_lt_of_le f396.lb (Nat.le_of_eq g419.symm))
  have ne425 : wz70 ≠ b419 := Nat.ne_of_lt (Nat.lt_of_lt_of_le f396.lw (Nat.le_of_eq g419.symm))
  have ne426 : dz70 ≠ b419 := Nat.ne_of_lt (Nat.lt_of_lt_of_le f396.ld (Nat.le_of_eq g419.symm))
  have ne427 : b115 ≠ b419 := Nat.ne_of_lt (Nat.lt_of_lt_of_le f398.lb (Nat.le_of_eq g419.symm))
  have ne428 : wz141 ≠ b419 := Nat.ne_of_lt (Nat.lt_of_lt_of_le f398.lw (Nat.le_of_eq g419.symm))
  have ne429 : dz141 ≠ b419 := Nat.ne_of_lt (Nat.lt_of_lt_of_le f398.ld (Nat.le_of_eq g419.symm))
  have ne430 : b196 ≠ b419 := Nat.ne_of_lt (Nat.lt_of_lt_of_le f399.lt (Nat.le_of_eq g419.symm))
  have ne431 : b266 ≠ b419 := Nat.ne_of_lt (Nat.lt_of_lt_of_le f400.lt (Nat.le_of_eq g419.symm))
  have ne432 : ed380 ≠ b419 := Nat.ne_of_lt (Nat.lt_of_lt_of_le AB380.lt (Nat.le_of_eq g419.symm))
  have ge419 : n0 ≤ b419 := Nat.le_trans Z380 (Nat.le_of_eq g419.symm)
  have nw419 : h0.size ≤ b419 := Nat.le_trans f382.1 (Nat.le_of_eq g419.symm)
  have f433 := f381.ext E419
  have f434 := f382.ext E419
  have f435 := f383.ext E419
  have f436 := f384.ext E419
  have f437 := f385.ext E419
  have f438 := f386.ext E419
  have f439 := f387.ext E419
  have f440 := f388.ext E419
  have f441 := f389.ext E419
  have f442 := f390.ext E419
  have f443 := f391.ext E419
  have f444 := f395.ext E419
  have f445 := f396.ext E419
  have f446 := f397.ext E419
  have f447 := f398.ext E419
  have f448 := f399.ext E419
  have f449 := f400.ext E419
  have f450 := FM380.ext E419
  have f451 := FE380.ext E419
  have f452 := FS380.ext E419
  have f453 := AB380.ext E419
  have Z419 := Nat.le_trans Z380 E419.1
  have f454 : Fld Z h419 b419 "java/util/AbstractList" "modCount" "I" (.int (0 : Int32)) := D419 (Or.inl (hw _ (List.mem_of_getElem? (i := 30) rfl))) (ty := .int) (by decide)
  have f455 : Fld Z h419 b419 "java/util/ArrayList" "elementData" "[Ljava/lang/Object;" .null := D419 (Or.inl (hw _ (List.mem_of_getElem? (i := 33) rfl))) (ty := (.array (.object "java/lang/Object"))) (by decide)
  have f456 : Fld Z h419 b419 "java/util/ArrayList" "size" "I" (.int (0 : Int32)) := D419 (Or.inl (hw _ (List.mem_of_getElem? (i := 86) rfl))) (ty := .int) (by decide)
  show own_Go _ _ _ _ (T419.setTop (mkF m 81 #[.val (.ref au), .val (.int (3 : Int32)), .val (.int (1 : Int32))] [(.ref b419), (.ref b2)]))
  refine own_by (fun _ k => XS.dup X419.here hx rfl (hb hby d1_81) rfl rfl k) ?_
  show own_Go _ _ _ _ (T419.setTop (mkF m 82 #[.val (.ref au), .val (.int (3 : Int32)), .val (.int (1 : Int32))] [(.ref b419), (.ref b419), (.ref b2)]))
  refine own_callI X419 hx hZ hown rfl (hw _ (List.mem_of_getElem? (i := 13) rfl)) (hw _ (List.mem_of_getElem? (i := 14) rfl)) (hw _ (List.mem_of_getElem? (i := 12) rfl)) (hw _ (List.mem_of_getElem? (i := 15) rfl)) (by decide) (rm3 l Z a0 hw [] b419 dc h419 n0 Z419 A419 f454 f455 f456 ge419 f436) e419 (by rw [hml]; rfl) b419 [] [(.ref b419), (.ref b2)] rfl (lenOf own_pd2 rfl) rfl 2 (Nat.le_of_eq rfl) (by decide) (by decide) (Nat.le_of_ble_eq_true rfl) (Nat.le_of_ble_eq_true rfl) (hb hby d1_82) ?_
  intro T457 Lc457 v457 X457 hQ457
  obtain ⟨h457, e457⟩ : ∃ h, T457.heap = h := ⟨_, rfl⟩
  rw [e457] at hQ457
  obtain ⟨rfl, N457q, K457, PL457⟩ := hQ457
  have N457 := Fr.app N380 N457q
  have f458 := f433.keep K457
  have f459 := f434.trans K457 (allS (P := fun x => x ∈ [au] ∨ h0.size ≤ x) (Or.inr nw419) all0)
  have f460 := f435.keep K457 (ninS ne421 nin0)
  have f461 := own_sta_keep f436 K457 (nsS A419.nostat ns0)
  have f462 := f437.keep K457
  have f463 := f438.keep K457 (ninS ne420 nin0)
  have f464 := f439.keep K457 (ninS ne420 nin0)
  have f465 := f440.keep K457 (ninS ne420 nin0)
  have f466 := f441.keep K457 (ninS ne420 nin0)
  have f467 := f442.keep K457 (ninS ne420 nin0)
  have f468 := f443.keep K457
  have f469 := f444.keep K457
  have f470 := f445.keep K457 (ninS ne424 nin0) (ninS ne425 nin0) (ninS ne426 nin0)
  have f471 := f446.keep K457
  have f472 := f447.keep K457 (ninS ne427 nin0) (ninS ne428 nin0) (ninS ne429 nin0)
  have f473 := f448.keep K457 (ninS ne430 nin0)
  have f474 := f449.keep K457 (ninS ne431 nin0)
  have f475 := f450.keep K457 (ninS ne423 nin0)
  have f476 := f451.keep K457 (ninS ne423 nin0)
  have f477 := f452.keep K457 (ninS ne423 nin0)
  have f478 := f453.keep K457 (ninS ne432 nin0)
  have f479 := A419.keep K457
  have Z457 := Nat.le_trans Z419 K457.1
  obtain ⟨-, FE457, FS457, FM457⟩ := PL457
  show own_Go _ _ _ _ (T457.setTop (mkF m 85 #[.val (.ref au), .val (.int (3 : Int32)), .val (.int (1 : Int32))] [(.ref b419), (.ref b2)]))
  refine own_callF X457 hx hZ hown (hw _ (List.mem_of_getElem? (i := 74) rfl)) (hw _ (List.mem_of_getElem? (i := 75) rfl)) (hw _ (List.mem_of_getElem? (i := 76) rfl)) (hw _ (List.mem_of_getElem? (i := 77) rfl)) (hw _ (List.mem_of_getElem? (i := 78) rfl)) (hw _ (List.mem_of_getElem? (i := 79) rfl)) (hw _ (List.mem_of_getElem? (i := 80) rfl)) (hw _ (List.mem_of_getElem? (i := 81) rfl)) (hw _ (List.mem_of_getElem? (i := 12) rfl)) (hw _ (List.mem_of_getElem? (i := 82) rfl)) (by decide) rfl (rm10_r l Z a0 hw [] b2 b419 ed380 (1 : Int32) mz380 fz380 1 h457 n0 Z457 ⟨f468, f476, f477, f475⟩ f478 ge2 ge380 (Ne.symm ne408) (by decide) (by decide) f479) e457 b2 f468 (by rw [hml]; rfl) [(.ref b419)] [] rfl (lenOf own_pd6 rfl) rfl 0 (Nat.le_of_eq rfl) (by decide) (by decide) (Nat.le_of_ble_eq_true rfl) (Nat.le_of_ble_eq_true rfl) (hb hby d1_85) ?_
  intro T483 Lc483 v483 X483 hQ483
  obtain ⟨h483, e483⟩ : ∃ h, T483.heap = h := ⟨_, rfl⟩
  rw [e483] at hQ483
  obtain ⟨rfl, N483q, K483, fz483, mz483, AB483, PL483⟩ := hQ483
  have N483 := Fr.app N457 N483q
  have f484 := f458.keep K483
  have f485 := f459.trans K483 (allS (P := fun x => x ∈ [au] ∨ h0.size ≤ x) (Or.inr nw2) (allS (P := fun x => x ∈ [au] ∨ h0.size ≤ x) (Or.inr nk380) all0))
  have f486 := f460.keep K483 (ninS ne4 (ninS ne406 nin0))
  have f487 := own_sta_keep f461 K483 (nsS f468.nostat (nsS f478.nostat ns0))
  have f488 := f462.keep K483
  have f489 := f463.keep K483 (ninS ne3 (ninS ne405 nin0))
  have f490 := f464.keep K483 (ninS ne3 (ninS ne405 nin0))
  have f491 := f465.keep K483 (ninS ne3 (ninS ne405 nin0))
  have f492 := f466.keep K483 (ninS ne3 (ninS ne405 nin0))
  have f493 := f467.keep K483 (ninS ne3 (ninS ne405 nin0))
  have f494 := f468.keep K483
  have f495 := f469.keep K483
  have f496 := f470.keep K483 (ninS (Ne.symm ne53) (ninS ne409 nin0)) (ninS (Ne.symm ne91) (ninS ne410 nin0)) (ninS (Ne.symm ne96) (ninS ne411 nin0))
  have f497 := f471.keep K483
  have f498 := f472.keep K483 (ninS (Ne.symm ne119) (ninS ne412 nin0)) (ninS (Ne.symm ne164) (ninS ne413 nin0)) (ninS (Ne.symm ne172) (ninS ne414 nin0))
  have f499 := f473.keep K483 (ninS (Ne.symm ne200) (ninS ne415 nin0))
  have f500 := f474.keep K483 (ninS (Ne.symm ne270) (ninS ne416 nin0))
  have f505 := f479.keep K483
  have f506 := FM457.keep K483 (ninS (Ne.symm ne423) (ninS (Ne.symm ne432) nin0))
  have f507 := FE457.keep K483 (ninS (Ne.symm ne423) (ninS (Ne.symm ne432) nin0))
  have f508 := FS457.keep K483 (ninS (Ne.symm ne423) (ninS (Ne.symm ne432) nin0))
  have Z483 := Nat.le_trans Z457 K483.1
  obtain ⟨-, FE483, FS483, FM483⟩ := PL483
  rw [(by decide : ((1 : Int32) + 1) = (2 : Int32))] at FS483
  show own_Go _ _ _ _ (T483.setTop (mkF m 90 #[.val (.ref au), .val (.int (3 : Int32)), .val (.int (1 : Int32))] [(.int (1 : Int32))]))
  refine own_by (fun _ k => XS.pop X483.here hx rfl (hb hby d1_90) rfl rfl k) ?_
  show own_Go _ _ _ _ (T483.setTop (mkF m 91 #[.val (.ref au), .val (.int (3 : Int32)), .val (.int (1 : Int32))] []))
  refine own_by (fun _ k => XS.iinc X483.here hx rfl (hb hby d1_91) rfl (l' := #[.val (.ref au), .val (.int (3 : Int32)), .val (.int ((1 : Int32) + (1 : Int32)))]) rfl k) ?_
  show own_Go _ _ _ _ (T483.setTop (mkF m 94 #[.val (.ref au), .val (.int (3 : Int32)), .val (.int ((1 : Int32) + (1 : Int32)))] []))
  rw [(by decide : ((1 : Int32) + (1 : Int32)) = (2 : Int32))]
  show own_Go _ _ _ _ (T483.setTop (mkF m 94 #[.val (.ref au), .val (.int (3 : Int32)), .val (.int (2 : Int32))] []))
  refine own_by (fun _ k => XS.goto X483.here hx rfl (pc0 := 94) (pc' := 69) rfl (hb hby d1_94) (by decide) (by decide) k) ?_
  refine own_by (fun _ k => XS.iloadN X483.here hx rfl (hb hby d1_69) rfl k) ?_
  refine own_by (fun _ k => XS.iloadN X483.here hx rfl (hb hby d1_70) rfl k) ?_
  show own_Go _ _ _ _ (T483.setTop (mkF m 71 #[.val (.ref au), .val (.int (3 : Int32)), .val (.int (2 : Int32))] [(.int (3 : Int32)), (.int (2 : Int32))]))
  refine own_by (fun _ k => XS.icmpNo X483.here hx rfl (hb hby d1_71) rfl (tlt (by decide)).2.1 k) ?_
  refine own_by (fun _ k => XS.aloadN X483.here hx rfl (hb hby d1_74) rfl rfl k) ?_
  show own_Go _ _ _ _ (T483.setTop (mkF m 75 #[.val (.ref au), .val (.int (3 : Int32)), .val (.int (2 : Int32))] [(.ref au)]))
  obtain ⟨T509, X509, e509, st509⟩ := getF X483 hx hZ hown (host := "") (Or.inl (hw _ (List.mem_of_getElem? (i := 34) rfl))) Via.refl e483 f489 (g := (mkF m 75 #[.val (.ref au), .val (.int (3 : Int32)), .val (.int (2 : Int32))] [(.ref au)])) rfl rfl (hb hby d1_75)
  refine own_by st509 ?_
  show own_Go _ _ _ _ (T509.setTop (mkF m 78 #[.val (.ref au), .val (.int (3 : Int32)), .val (.int (2 : Int32))] [(.ref b2)]))
  obtain ⟨T510, h510, X510, e510, E510, A510, D510, -, st510⟩ := newO X509 hx hZ hown (hw _ (List.mem_of_getElem? (i := 10) rfl)) (hw _ (List.mem_of_getElem? (i := 11) rfl)) (hw _ (List.mem_of_getElem? (i := 12) rfl)) e509 (g := (mkF m 78 #[.val (.ref au), .val (.int (3 : Int32)), .val (.int (2 : Int32))] [(.ref b2)])) rfl (hb hby d1_78) (by decide) (by decide)
  refine own_by st510 ?_
  show own_Go _ _ _ _ (T510.setTop (mkF m 81 #[.val (.ref au), .val (.int (3 : Int32)), .val (.int (2 : Int32))] [.ref h483.size, (.ref b2)]))
  obtain ⟨b510, g510⟩ : ∃ z, z = h483.size := ⟨_, rfl⟩
  rw [← g510] at A510 D510
  refine own_gen g510.symm (fun z_ => T510.setTop (mkF m 81 #[.val (.ref au), .val (.int (3 : Int32)), .val (.int (2 : Int32))] [.ref z_, (.ref b2)])) ?_
  have ne511 : au ≠ b510 := Nat.ne_of_lt (Nat.lt_of_lt_of_le f493.lt (Nat.le_of_eq g510.symm))
  have ne512 : dc ≠ b510 := Nat.ne_of_lt (Nat.lt_of_lt_of_le f486.lt (Nat.le_of_eq g510.symm))
  have ne513 : sa ≠ b510 := Nat.ne_of_lt (Nat.lt_of_lt_of_le f488.lt (Nat.le_of_eq g510.symm))
  have ne514 : b2 ≠ b510 := Nat.ne_of_lt (Nat.lt_of_lt_of_le FS483.lt (Nat.le_of_eq g510.symm))
  have ne515 : b49 ≠ b510 := Nat.ne_of_lt (Nat.lt_of_lt_of_le f496.lb (Nat.le_of_eq g510.symm))
  have ne516 : wz70 ≠ b510 := Nat.ne_of_lt (Nat.lt_of_lt_of_le f496.lw (Nat.le_of_eq g510.symm))
  have ne517 : dz70 ≠ b510 := Nat.ne_of_lt (Nat.lt_of_lt_of_le f496.ld (Nat.le_of_eq g510.symm))
  have ne518 : b115 ≠ b510 := Nat.ne_of_lt (Nat.lt_of_lt_of_le f498.lb (Nat.le_of_eq g510.symm))
  have ne519 : wz141 ≠ b510 := Nat.ne_of_lt (Nat.lt_of_lt_of_le f498.lw (Nat.le_of_eq g510.symm))
  have ne520 : dz141 ≠ b510 := Nat.ne_of_lt (Nat.lt_of_lt_of_le f498.ld (Nat.le_of_eq g510.symm))
  have ne521 : b196 ≠ b510 := Nat.ne_of_lt (Nat.lt_of_lt_of_le f499.lt (Nat.le_of_eq g510.symm))
  have ne522 : b266 ≠ b510 := Nat.ne_of_lt (Nat.lt_of_lt_of_le f500.lt (Nat.le_of_eq g510.symm))
  have ne523 : ed380 ≠ b510 := Nat.ne_of_lt (Nat.lt_of_lt_of_le AB483.lt (Nat.le_of_eq g510.symm))
  have ge510 : n0 ≤ b510 := Nat.le_trans Z483 (Nat.le_of_eq g510.symm)
  have nw510 : h0.size ≤ b510 := Nat.le_trans f485.1 (Nat.le_of_eq g510.symm)
  have f524 := f484.ext E510
  have f525 := f485.ext E510
  have f526 := f486.ext E510
  have f527 := f487.ext E510
  have f528 := f488.ext E510
  have f529 := f489.ext E510
  have f530 := f490.ext E510
  have f531 := f491.ext E510
  have f532 := f492.ext E510
  have f533 := f493.ext E510
  have f534 := f494.ext E510
  have f535 := f495.ext E510
  have f536 := f496.ext E510
  have f537 := f497.ext E510
  have f538 := f498.ext E510
  have f539 := f499.ext E510
  have f540 := f500.ext E510
  have f541 := FM483.ext E510
  have f542 := FE483.ext E510
  have f543 := FS483.ext E510
  have f544 := AB483.ext E510
  have Z510 := Nat.le_trans Z483 E510.1
  have f545 : Fld Z h510 b510 "java/util/AbstractList" "modCount" "I" (.int (0 : Int32)) := D510 (Or.inl (hw _ (List.mem_of_getElem? (i := 30) rfl))) (ty := .int) (by decide)
  have f546 : Fld Z h510 b510 "java/util/ArrayList" "elementData" "[Ljava/lang/Object;" .null := D510 (Or.inl (hw _ (List.mem_of_getElem? (i := 33) rfl))) (ty := (.array (.object "java/lang/Object"))) (by decide)
  have f547 : Fld Z h510 b510 "java/util/ArrayList" "size" "I" (.int (0 : Int32)) := D510 (Or.inl (hw _ (List.mem_of_getElem? (i := 86) rfl))) (ty := .int) (by decide)
  show own_Go _ _ _ _ (T510.setTop (mkF m 81 #[.val (.ref au), .val (.int (3 : Int32)), .val (.int (2 : Int32))] [(.ref b510), (.ref b2)]))
  refine own_by (fun _ k => XS.dup X510.here hx rfl (hb hby d1_81) rfl rfl k) ?_
  show own_Go _ _ _ _ (T510.setTop (mkF m 82 #[.val (.ref au), .val (.int (3 : Int32)), .val (.int (2 : Int32))] [(.ref b510), (.ref b510), (.ref b2)]))
  refine own_callI X510 hx hZ hown rfl (hw _ (List.mem_of_getElem? (i := 13) rfl)) (hw _ (List.mem_of_getElem? (i := 14) rfl)) (hw _ (List.mem_of_getElem? (i := 12) rfl)) (hw _ (List.mem_of_getElem? (i := 15) rfl)) (by decide) (rm3 l Z a0 hw [] b510 dc h510 n0 Z510 A510 f545 f546 f547 ge510 f527) e510 (by rw [hml]; rfl) b510 [] [(.ref b510), (.ref b2)] rfl (lenOf own_pd2 rfl) rfl 2 (Nat.le_of_eq rfl) (by decide) (by decide) (Nat.le_of_ble_eq_true rfl) (Nat.le_of_ble_eq_true rfl) (hb hby d1_82) ?_
  intro T548 Lc548 v548 X548 hQ548
  obtain ⟨h548, e548⟩ : ∃ h, T548.heap = h := ⟨_, rfl⟩
  rw [e548] at hQ548
  obtain ⟨rfl, N548q, K548, PL548⟩ := hQ548
  have N548 := Fr.app N483 N548q
  have f549 := f524.keep K548
  have f550 := f525.trans K548 (allS (P := fun x => x ∈ [au] ∨ h0.size ≤ x) (Or.inr nw510) all0)
  have f551 := f526.keep K548 (ninS ne512 nin0)
  have f552 := own_sta_keep f527 K548 (nsS A510.nostat ns0)
  have f553 := f528.keep K548
  have f554 := f529.keep K548 (ninS ne511 nin0)
  have f555 := f530.keep K548 (ninS ne511 nin0)
  have f556 := f531.keep K548 (ninS ne511 nin0)
  have f557 := f532.keep K548 (ninS ne511 nin0)
  have f558 := f533.keep K548 (ninS ne511 nin0)
  have f559 := f534.keep K548
  have f560 := f535.keep K548
  have f561 := f536.keep K548 (ninS ne515 nin0) (ninS ne516 nin0) (ninS ne517 nin0)
  have f562 := f537.keep K548
  have f563 := f538.keep K548 (ninS ne518 nin0) (ninS ne519 nin0) (ninS ne520 nin0)
  have f564 := f539.keep K548 (ninS ne521 nin0)
  have f565 := f540.keep K548 (ninS ne522 nin0)
  have f566 := f541.keep K548 (ninS ne514 nin0)
  have f567 := f542.keep K548 (ninS ne514 nin0)
  have f568 := f543.keep K548 (ninS ne514 nin0)
  have f569 := f544.keep K548 (ninS ne523 nin0)
  have f570 := A510.keep K548
  have Z548 := Nat.le_trans Z510 K548.1
  obtain ⟨-, FE548, FS548, FM548⟩ := PL548
  show own_Go _ _ _ _ (T548.setTop (mkF m 85 #[.val (.ref au), .val (.int (3 : Int32)), .val (.int (2 : Int32))] [(.ref b510), (.ref b2)]))
  refine own_callF X548 hx hZ hown (hw _ (List.mem_of_getElem? (i := 74) rfl)) (hw _ (List.mem_of_getElem? (i := 75) rfl)) (hw _ (List.mem_of_getElem? (i := 76) rfl)) (hw _ (List.mem_of_getElem? (i := 77) rfl)) (hw _ (List.mem_of_getElem? (i := 78) rfl)) (hw _ (List.mem_of_getElem? (i := 79) rfl)) (hw _ (List.mem_of_getElem? (i := 80) rfl)) (hw _ (List.mem_of_getElem? (i := 81) rfl)) (hw _ (List.mem_of_getElem? (i := 12) rfl)) (hw _ (List.mem_of_getElem? (i := 82) rfl)) (by decide) rfl (rm10_r l Z a0 hw [] b2 b510 ed380 (2 : Int32) mz483 fz483 2 h548 n0 Z548 ⟨f559, f567, f568, f566⟩ f569 ge2 ge380 (Ne.symm ne408) (by decide) (by decide) f570) e548 b2 f559 (by rw [hml]; rfl) [(.ref b510)] [] rfl (lenOf own_pd6 rfl) rfl 0 (Nat.le_of_eq rfl) (by decide) (by decide) (Nat.le_of_ble_eq_true rfl) (Nat.le_of_ble_eq_true rfl) (hb hby d1_85) ?_
  intro T574 Lc574 v574 X574 hQ574
  obtain ⟨h574, e574⟩ : ∃ h, T574.heap = h := ⟨_, rfl⟩
  rw [e574] at hQ574
  obtain ⟨rfl, N574q, K574, fz574, mz574, AB574, PL574⟩ := hQ574
  have N574 := Fr.app N548 N574q
  have f575 := f549.keep K574
  have f576 := f550.trans K574 (allS (P := fun x => x ∈ [au] ∨ h0.size ≤ x) (Or.inr nw2) (allS (P := fun x => x ∈ [au] ∨ h0.size ≤ x) (Or.inr nk380) all0))
  have f577 := f551.keep K574 (ninS ne4 (ninS ne406 nin0))
  have f578 := own_sta_keep f552 K574 (nsS f559.nostat (nsS f569.nostat ns0))
  have f579 := f553.keep K574
  have f580 := f554.keep K574 (ninS ne3 (ninS ne405 nin0))
  have f581 := f555.keep K574 (ninS ne3 (ninS ne405 nin0))
  have f582 := f556.keep K574 (ninS ne3 (ninS ne405 nin0))
  have f583 := f557.keep K574 (ninS ne3 (ninS ne405 nin0))
  have f584 := f558.keep K574 (ninS ne3 (ninS ne405 nin0))
  have f585 := f559.keep K574
  have f586 := f560.keep K574
  have f587 := f561.keep K574 (ninS (Ne.symm ne53) (ninS ne409 nin0)) (ninS (Ne.symm ne91) (ninS ne410 nin0)) (ninS (Ne.symm ne96) (ninS ne411 nin0))
  have f588 := f562.keep K574
  have f589 := f563.keep K574 (ninS (Ne.symm ne119) (ninS ne412 nin0)) (ninS (Ne.symm ne164) (ninS ne413 nin0)) (ninS (Ne.symm ne172) (ninS ne414 nin0))
  have f590 := f564.keep K574 (ninS (Ne.symm ne200) (ninS ne415 nin0))
  have f591 := f565.keep K574 (ninS (Ne.symm ne270) (ninS ne416 nin0))
  have f596 := f570.keep K574
  have f597 := FM548.keep K574 (ninS (Ne.symm ne514) (ninS (Ne.symm ne523) nin0))
  have f598 := FE548.keep K574 (ninS (Ne.symm ne514) (ninS (Ne.symm ne523) nin0))
  have f599 := FS548.keep K574 (ninS (Ne.symm ne514) (ninS (Ne.symm ne523) nin0))
  have Z574 := Nat.le_trans Z548 K574.1
  obtain ⟨-, FE574, FS574, FM574⟩ := PL574
  rw [(by decide : ((2 : Int32) + 1) = (3 : Int32))] at FS574
  show own_Go _ _ _ _ (T574.setTop (mkF m 90 #[.val (.ref au), .val (.int (3 : Int32)), .val (.int (2 : Int32))] [(.int (1 : Int32))]))
  refine own_by (fun _ k => XS.pop X574.here hx rfl (hb hby d1_90) rfl rfl k) ?_
  show own_Go _ _ _ _ (T574.setTop (mkF m 91 #[.val (.ref au), .val (.int (3 : Int32)), .val (.int (2 : Int32))] []))
  refine own_by (fun _ k => XS.iinc X574.here hx rfl (hb hby d1_91) rfl (l' := #[.val (.ref au), .val (.int (3 : Int32)), .val (.int ((2 : Int32) + (1 : Int32)))]) rfl k) ?_
  show own_Go _ _ _ _ (T574.setTop (mkF m 94 #[.val (.ref au), .val (.int (3 : Int32)), .val (.int ((2 : Int32) + (1 : Int32)))] []))
  rw [(by decide : ((2 : Int32) + (1 : Int32)) = (3 : Int32))]
  show own_Go _ _ _ _ (T574.setTop (mkF m 94 #[.val (.ref au), .val (.int (3 : Int32)), .val (.int (3 : Int32))] []))
  refine own_by (fun _ k => XS.goto X574.here hx rfl (pc0 := 94) (pc' := 69) rfl (hb hby d1_94) (by decide) (by decide) k) ?_
  refine own_by (fun _ k => XS.iloadN X574.here hx rfl (hb hby d1_69) rfl k) ?_
  refine own_by (fun _ k => XS.iloadN X574.here hx rfl (hb hby d1_70) rfl k) ?_
  show own_Go _ _ _ _ (T574.setTop (mkF m 71 #[.val (.ref au), .val (.int (3 : Int32)), .val (.int (3 : Int32))] [(.int (3 : Int32)), (.int (3 : Int32))]))
  refine own_by (fun _ k => XS.icmpYes X574.here hx rfl (pc0 := 71) (pc' := 97) rfl (hb hby d1_71) rfl (flt (by decide)).2.1 (by decide) (by decide) k) ?_
  show own_Go _ _ _ _ (T574.setTop (mkF m 97 #[.val (.ref au), .val (.int (3 : Int32)), .val (.int (3 : Int32))] []))
  exact own_retV X574 hx Bd.notSynchronized e574 Bd.returns (hb hby d1_97) (⟨rfl, N574, f576, b196, b266, b115, wz141, dz141, b49, wz70, dz70, _, f575, f583, f584, f582, f581, f590, f591, f589, f587, (allS (P := fun x => h0.size ≤ x) nw196 (allS (P := fun x => h0.size ≤ x) nw266 (allS (P := fun x => h0.size ≤ x) nw115 (allS (P := fun x => h0.size ≤ x) nk_wz141 (allS (P := fun x => h0.size ≤ x) nk_dz141 (allS (P := fun x => h0.size ≤ x) nw49 (allS (P := fun x => h0.size ≤ x) nk_wz70 (allS (P := fun x => h0.size ≤ x) nk_dz70 all0)))))))), (allS (P := fun x => ∀ y ∈ [b49, wz70, dz70, b266], x ≠ y) (allS (P := fun y => b115 ≠ y) (Ne.symm ne120) (allS (P := fun y => b115 ≠ y) (Ne.symm ne121) (allS (P := fun y => b115 ≠ y) (Ne.symm ne122) (allS (P := fun y => b115 ≠ y) ne274 all0)))) (allS (P := fun x => ∀ y ∈ [b49, wz70, dz70, b266], x ≠ y) (allS (P := fun y => wz141 ≠ y) (Ne.symm ne165) (allS (P := fun y => wz141 ≠ y) (Ne.symm ne166) (allS (P := fun y => wz141 ≠ y) (Ne.symm ne167) (allS (P := fun y => wz141 ≠ y) ne275 all0)))) (allS (P := fun x => ∀ y ∈ [b49, wz70, dz70, b266], x ≠ y) (allS (P := fun y => dz141 ≠ y) (Ne.symm ne173) (allS (P := fun y => dz141 ≠ y) (Ne.symm ne174) (allS (P := fun y => dz141 ≠ y) (Ne.symm ne175) (allS (P := fun y => dz141 ≠ y) ne276 all0)))) all0))), (allS (P := fun x => ∀ y ∈ [b266], x ≠ y) (allS (P := fun y => b49 ≠ y) ne271 all0) (allS (P := fun x => ∀ y ∈ [b266], x ≠ y) (allS (P := fun y => wz70 ≠ y) ne272 all0) (allS (P := fun x => ∀ y ∈ [b266], x ≠ y) (allS (P := fun y => dz70 ≠ y) ne273 all0) all0))), (allS (P := fun x => ∀ y ∈ [b266, b49, wz70, dz70], x ≠ y) (allS (P := fun y => b196 ≠ y) ne277 (allS (P := fun y => b196 ≠ y) (Ne.symm ne201) (allS (P := fun y => b196 ≠ y) (Ne.symm ne202) (allS (P := fun y => b196 ≠ y) (Ne.symm ne203) all0)))) all0)⟩) (by decide) (by decide)
set_option maxRecDepth 65536 in
set_option maxHeartbeats 40000000 in
theorem rm1_4 (l : Launch) (Z : State) (a0 : Array Value) (hw : ∀ d ∈ tables_1, d.before a0 Z = true) (ws : List Jvm.Cond) (au : Addr) (dc sa : Addr) (cK : ClassId) (fd : Nat → Value) (h0 : Heap) (n0 : Nat) (Z0 : n0 ≤ h0.size) (PEu : Exa Z h0 au "com/example/sonde/sonde/engine/AnswerSets") (PF0 : Fld Z h0 au "com/example/sonde/sonde/engine/AnswerSets" "drawing" "Ljava/util/List;" .null) (PF1 : Fld Z h0 au "com/example/sonde/sonde/engine/AnswerSets" "deep" "Lcom/example/sonde/sonde/engine/Bits;" .null) (PF2 : Fld Z h0 au "com/example/sonde/sonde/engine/AnswerSets" "none" "Lcom/example/sonde/sonde/engine/Bits;" .null) (PF3 : Fld Z h0 au "com/example/sonde/sonde/engine/AnswerSets" "answering" "[Lcom/example/sonde/sonde/engine/Bits;" .null) (PF4 : Fld Z h0 au "com/example/sonde/sonde/engine/AnswerSets" "holding" "[Lcom/example/sonde/sonde/engine/Bits;" .null) (Pau : n0 ≤ au) (PC : own_Ar Z h0 dc (.object "java/lang/Object") 0 fd) (PS : Sta Z h0 "java/util/ArrayList" "DEFAULTCAPACITY_EMPTY_ELEMENTDATA" "[Ljava/lang/Object;" (.ref dc)) (Pdc : dc < n0) (PFn : own_Fn h0 sa cK) (PSt : own_Site Z (⟨"com/example/sonde/sonde/engine/AnswerSets", "<init>", "(I)V"⟩ : MethodName) 49 own_sg sa cK) :
    MetFree l (⟨"com/example/sonde/sonde/engine/AnswerSets", "<init>", "(I)V"⟩ : MethodName) (head1 (Jvm.Cond.code (⟨"com/example/sonde/sonde/engine/AnswerSets", "<init>", "(I)V"⟩ : MethodName) prog_86_method_1_code 3 none :: ws) ({ frames := 5, cells := 26, slots := 80, locals := 3120 } : Room)) (fun a U => a = #[(.ref au), (.int (4 : Int32))] ∧ Z.Warmed39 U.vm ∧ U.heap = h0 ∧ Z.WarmedH U.vm) (fun _ _ _ _ _ => True) (fun _ U o U' => ∃ vv LL, o = .returned vv ∧ own_ap (fun v h L => v = none ∧ Fr n0 L ∧ Keep h0 h [au] ∧ own_IN Z h0 h n0 au 4) vv U'.heap LL ∧ FrameEnd U o U' LL 26 80) := by
  refine MetFree.of_bodySF (plainFor_of_name pn_1) hisR ?_
  intro p e s m args below meth c s₁ Bd hml0 hP hK
  obtain ⟨rfl, hZ, hh, hH⟩ := hP
  have hx := Bd.exec
  have hby := Bd.bytes
  have hml : c.maxLocals = 3 := hml0
  have hown : s.vm.findClass "com/example/sonde/sonde/engine/AnswerSets" = some m.cls := findClass_of_methodNamed Bd.named
  have hnm := (name_of_methodNamed Bd.named Bd.method).1
  have X0 : Stand p l e ({ frames := 5, cells := 26, slots := 80, locals := 3120 } : Room) s m #[(.ref au), (.int (4 : Int32))] below meth c s₁ [] 0 0 := Stand.of_body Bd
  have e0 : s₁.heap = h0 := by rw [← hh, Bd.state]; rfl
  have N0 := Fr.nil n0
  show own_Go p.tables e below (own_Q s (fun v h L => v = none ∧ Fr n0 L ∧ Keep h0 h [au] ∧ own_IN Z h0 h n0 au 4) 26 80) (s₁.setTop (entryFrame m #[(.ref au), (.int (4 : Int32))] 3))
  rw [show entryFrame m #[(.ref au), (.int (4 : Int32))] 3 = mkF m 0 #[.val (.ref au), .val (.int (4 : Int32)), .unset] [] from by first | (simp [entryFrame, mkF, argsToLocals, Value.category]; done) | rfl]
  have Pnd : dc ≠ au := Nat.ne_of_lt (Nat.lt_of_lt_of_le Pdc Pau)
  show own_Go _ _ _ _ (s₁.setTop (mkF m 0 #[.val (.ref au), .val (.int (4 : Int32)), .unset] []))
  refine own_by (fun _ k => XS.aloadN X0.here hx rfl (hb hby d1_0) rfl rfl k) ?_
  show own_Go _ _ _ _ (s₁.setTop (mkF m 1 #[.val (.ref au), .val (.int (4 : Int32)), .unset] [(.ref au)]))
  obtain ⟨T1, X1, e1, st1⟩ := initO X0 hx hZ hown (hw _ (List.mem_of_getElem? (i := 7) rfl)) (hw _ (List.mem_of_getElem? (i := 8) rfl)) (hw _ (List.mem_of_getElem? (i := 9) rfl)) e0 (g := (mkF m 1 #[.val (.ref au), .val (.int (4 : Int32)), .unset] [(.ref au)])) rfl (by rw [hml]; rfl) rfl (hb hby d1_1) (by decide) (W := 0) (by show 2 * 0 + _ ≤ _; exact Nat.le_of_eq rfl) (by decide)
  refine own_by st1 ?_
  refine own_by (fun _ k => XS.aloadN X1.here hx rfl (hb hby d1_4) rfl rfl k) ?_
  show own_Go _ _ _ _ (T1.setTop (mkF m 5 #[.val (.ref au), .val (.int (4 : Int32)), .unset] [(.ref au)]))
  obtain ⟨T2, h2, X2, e2, E2, A2, D2, -, st2⟩ := newO X1 hx hZ hown (hw _ (List.mem_of_getElem? (i := 10) rfl)) (hw _ (List.mem_of_getElem? (i := 11) rfl)) (hw _ (List.mem_of_getElem? (i := 12) rfl)) e1 (g := (mkF m 5 #[.val (.ref au), .val (.int (4 : Int32)), .unset] [(.ref au)])) rfl (hb hby d1_5) (by decide) (by decide)
  refine own_by st2 ?_
  show own_Go _ _ _ _ (T2.setTop (mkF m 8 #[.val (.ref au), .val (.int (4 : Int32)), .unset] [.ref h0.size, (.ref au)]))
  obtain ⟨b2, g2⟩ : ∃ z, z = h0.size := ⟨_, rfl⟩
  rw [← g2] at A2 D2
  refine own_gen g2.symm (fun z_ => T2.setTop (mkF m 8 #[.val (.ref au), .val (.int (4 : Int32)), .unset] [.ref z_, (.ref au)])) ?_
  have ne3 : au ≠ b2 := Nat.ne_of_lt (Nat.lt_of_lt_of_le PF4.lt (Nat.le_of_eq g2.symm))
  have ne4 : dc ≠ b2 := Nat.ne_of_lt (Nat.lt_of_lt_of_le PC.lt (Nat.le_of_eq g2.symm))
  have ne5 : sa ≠ b2 := Nat.ne_of_lt (Nat.lt_of_lt_of_le PFn.lt (Nat.le_of_eq g2.symm))
  have ge2 : n0 ≤ b2 := Nat.le_trans Z0 (Nat.le_of_eq g2.symm)
  have nw2 : h0.size ≤ b2 := Nat.le_trans (Keep.refl h0 [au]).1 (Nat.le_of_eq g2.symm)
  have f6 := PEu.ext E2
  have f7 := (Keep.refl h0 [au]).ext E2
  have f8 := PC.ext E2
  have f9 := PS.ext E2
  have f10 := PFn.ext E2
  have f11 := PF0.ext E2
  have f12 := PF1.ext E2
  have f13 := PF2.ext E2
  have f14 := PF3.ext E2
  have f15 := PF4.ext E2
  have Z2 := Nat.le_trans Z0 E2.1
  have f16 : Fld Z h2 b2 "java/util/AbstractList" "modCount" "I" (.int (0 : Int32)) := D2 (Or.inl (hw _ (List.mem_of_getElem? (i := 30) rfl))) (ty := .int) (by decide)
  have f17 : Fld Z h2 b2 "java/util/ArrayList" "elementData" "[Ljava/lang/Object;" .null := D2 (Or.inl (hw _ (List.mem_of_getElem? (i := 33) rfl))) (ty := (.array (.object "java/lang/Object"))) (by decide)
  have f18 : Fld Z h2 b2 "java/util/ArrayList" "size" "I" (.int (0 : Int32)) := D2 (Or.inl (hw _ (List.mem_of_getElem? (i := 86) rfl))) (ty := .int) (by decide)
  show own_Go _ _ _ _ (T2.setTop (mkF m 8 #[.val (.ref au), .val (.int (4 : Int32)), .unset] [(.ref b2), (.ref au)]))
  refine own_by (fun _ k => XS.dup X2.here hx rfl (hb hby d1_8) rfl rfl k) ?_
  show own_Go _ _ _ _ (T2.setTop (mkF m 9 #[.val (.ref au), .val (.int (4 : Int32)), .unset] [(.ref b2), (.ref b2), (.ref au)]))
  refine own_callI X2 hx hZ hown rfl (hw _ (List.mem_of_getElem? (i := 13) rfl)) (hw _ (List.mem_of_getElem? (i := 14) rfl)) (hw _ (List.mem_of_getElem? (i := 12) rfl)) (hw _ (List.mem_of_getElem? (i := 15) rfl)) (by decide) (rm3 l Z a0 hw [] b2 dc h2 n0 Z2 A2 f16 f17 f18 ge2 f9) e2 (by rw [hml]; rfl) b2 [] [(.ref b2), (.ref au)] rfl (lenOf own_pd2 rfl) rfl 2 (Nat.le_of_eq rfl) (by decide) (by decide) (Nat.le_of_ble_eq_true rfl) (Nat.le_of_ble_eq_true rfl) (hb hby d1_9) ?_
  intro T19 Lc19 v19 X19 hQ19
  obtain ⟨h19, e19⟩ : ∃ h, T19.heap = h := ⟨_, rfl⟩
  rw [e19] at hQ19
  obtain ⟨rfl, N19q, K19, PL19⟩ := hQ19
  have N19 := Fr.app N0 N19q
  have f20 := f6.keep K19
  have f21 := f7.trans K19 (allS (P := fun x => x ∈ [au] ∨ h0.size ≤ x) (Or.inr nw2) all0)
  have f22 := f8.keep K19 (ninS ne4 nin0)
  have f23 := own_sta_keep f9 K19 (nsS A2.nostat ns0)
  have f24 := f10.keep K19
  have f25 := f11.keep K19 (ninS ne3 nin0)
  have f26 := f12.keep K19 (ninS ne3 nin0)
  have f27 := f13.keep K19 (ninS ne3 nin0)
  have f28 := f14.keep K19 (ninS ne3 nin0)
  have f29 := f15.keep K19 (ninS ne3 nin0)
  have f30 := A2.keep K19
  have Z19 := Nat.le_trans Z2 K19.1
  obtain ⟨-, FE19, FS19, FM19⟩ := PL19
  show own_Go _ _ _ _ (T19.setTop (mkF m 12 #[.val (.ref au), .val (.int (4 : Int32)), .unset] [(.ref b2), (.ref au)]))
  obtain ⟨T34, h34, X34, e34, W34, st34⟩ := putF X19 hx hZ hown (host := "") (Or.inl (hw _ (List.mem_of_getElem? (i := 34) rfl))) Via.refl e19 f25 f20 (Or.inr ⟨(hw _ (List.mem_of_getElem? (i := 35) rfl)), rfl, hnm⟩) (hw _ (List.mem_of_getElem? (i := 2) rfl)) (ty := (.object "java/util/List")) (by decide) rfl rfl (g := (mkF m 12 #[.val (.ref au), .val (.int (4 : Int32)), .unset] [(.ref b2), (.ref au)])) rfl rfl (hb hby d1_12)
  refine own_by st34 ?_
  have f35 := f25.same W34
  have f36 := f20.wr W34
  have f37 := f21.wr W34 (Or.inl (List.mem_of_getElem? (i := 0) rfl))
  have f38 := f22.other W34 Pnd
  have f39 := f23.wr W34
  have f40 := f24.wr W34
  have f41 := f26.other W34 (Or.inr (slot_ne (Or.inr (hw _ (List.mem_of_getElem? (i := 49) rfl))) (Or.inr (hw _ (List.mem_of_getElem? (i := 35) rfl))) (by decide) (t := (.object "com/example/sonde/sonde/engine/Bits")) (t' := (.object "java/util/List")) (by decide) (by decide)))
  have f42 := f27.other W34 (Or.inr (slot_ne (Or.inr (hw _ (List.mem_of_getElem? (i := 51) rfl))) (Or.inr (hw _ (List.mem_of_getElem? (i := 35) rfl))) (by decide) (t := (.object "com/example/sonde/sonde/engine/Bits")) (t' := (.object "java/util/List")) (by decide) (by decide)))
  have f43 := f28.other W34 (Or.inr (slot_ne (Or.inr (hw _ (List.mem_of_getElem? (i := 54) rfl))) (Or.inr (hw _ (List.mem_of_getElem? (i := 35) rfl))) (by decide) (t := (.array (.object "com/example/sonde/sonde/engine/Bits"))) (t' := (.object "java/util/List")) (by decide) (by decide)))
  have f44 := f29.other W34 (Or.inr (slot_ne (Or.inr (hw _ (List.mem_of_getElem? (i := 73) rfl))) (Or.inr (hw _ (List.mem_of_getElem? (i := 35) rfl))) (by decide) (t := (.array (.object "com/example/sonde/sonde/engine/Bits"))) (t' := (.object "java/util/List")) (by decide) (by decide)))
  have f45 := f30.wr W34
  have f46 := FM19.other W34 (Or.inl (Ne.symm ne3))
  have f47 := FE19.other W34 (Or.inl (Ne.symm ne3))
  have f48 := FS19.other W34 (Or.inl (Ne.symm ne3))
  have N34 := Fr.snoc X34 N19 Pau
  have Z34 := own_size_wr W34 Z19
  show own_Go _ _ _ _ (T34.setTop (mkF m 15 #[.val (.ref au), .val (.int (4 : Int32)), .unset] []))
  refine own_by (fun _ k => XS.aloadN X34.here hx rfl (hb hby d1_15) rfl rfl k) ?_
  show own_Go _ _ _ _ (T34.setTop (mkF m 16 #[.val (.ref au), .val (.int (4 : Int32)), .unset] [(.ref au)]))
  obtain ⟨T49, h49, X49, e49, E49, A49, D49, -, st49⟩ := newO X34 hx hZ hown (hw _ (List.mem_of_getElem? (i := 36) rfl)) (hw _ (List.mem_of_getElem? (i := 37) rfl)) (hw _ (List.mem_of_getElem? (i := 38) rfl)) e34 (g := (mkF m 16 #[.val (.ref au), .val (.int (4 : Int32)), .unset] [(.ref au)])) rfl (hb hby d1_16) (by decide) (by decide)
  refine own_by st49 ?_
  show own_Go _ _ _ _ (T49.setTop (mkF m 19 #[.val (.ref au), .val (.int (4 : Int32)), .unset] [.ref h34.size, (.ref au)]))
  obtain ⟨b49, g49⟩ : ∃ z, z = h34.size := ⟨_, rfl⟩
  rw [← g49] at A49 D49
  refine own_gen g49.symm (fun z_ => T49.setTop (mkF m 19 #[.val (.ref au), .val (.int (4 : Int32)), .unset] [.ref z_, (.ref au)])) ?_
  have ne50 : au ≠ b49 := Nat.ne_of_lt (Nat.lt_of_lt_of_le f44.lt (Nat.le_of_eq g49.symm))
  have ne51 : dc ≠ b49 := Nat.ne_of_lt (Nat.lt_of_lt_of_le f38.lt (Nat.le_of_eq g49.symm))
  have ne52 : sa ≠ b49 := Nat.ne_of_lt (Nat.lt_of_lt_of_le f40.lt (Nat.le_of_eq g49.symm))
  have ne53 : b2 ≠ b49 := Nat.ne_of_lt (Nat.lt_of_lt_of_le f48.lt (Nat.le_of_eq g49.symm))
  have ge49 : n0 ≤ b49 := Nat.le_trans Z34 (Nat.le_of_eq g49.symm)
  have nw49 : h0.size ≤ b49 := Nat.le_trans f37.1 (Nat.le_of_eq g49.symm)
  have f54 := f36.ext E49
  have f55 := f37.ext E49
  have f56 := f38.ext E49
  have f57 := f39.ext E49
  have f58 := f40.ext E49
  have f59 := f35.ext E49
  have f60 := f41.ext E49
  have f61 := f42.ext E49
  have f62 := f43.ext E49
  have f63 := f44.ext E49
  have f64 := f45.ext E49
  have f65 := f46.ext E49
  have f66 := f47.ext E49
  have f67 := f48.ext E49
  have Z49 := Nat.le_trans Z34 E49.1
  have f68 : Fld Z h49 b49 "com/example/sonde/sonde/engine/Bits" "words" "[J" .null := D49 (Or.inl (hw _ (List.mem_of_getElem? (i := 45) rfl))) (ty := (.array .long)) (by decide)
  have f69 : Fld Z h49 b49 "com/example/sonde/sonde/engine/Bits" "held" "[J" .null := D49 (Or.inl (hw _ (List.mem_of_getElem? (i := 47) rfl))) (ty := (.array .long)) (by decide)
  show own_Go _ _ _ _ (T49.setTop (mkF m 19 #[.val (.ref au), .val (.int (4 : Int32)), .unset] [(.ref b49), (.ref au)]))
  refine own_by (fun _ k => XS.dup X49.here hx rfl (hb hby d1_19) rfl rfl k) ?_
  show own_Go _ _ _ _ (T49.setTop (mkF m 20 #[.val (.ref au), .val (.int (4 : Int32)), .unset] [(.ref b49), (.ref b49), (.ref au)]))
  refine own_callI X49 hx hZ hown rfl (hw _ (List.mem_of_getElem? (i := 39) rfl)) (hw _ (List.mem_of_getElem? (i := 40) rfl)) (hw _ (List.mem_of_getElem? (i := 38) rfl)) (hw _ (List.mem_of_getElem? (i := 41) rfl)) (by decide) (rm6 l Z a0 hw [] b49 h49 n0 Z49 A49 f68 f69 ge49) e49 (by rw [hml]; rfl) b49 [] [(.ref b49), (.ref au)] rfl (lenOf own_pd2 rfl) rfl 2 (Nat.le_of_eq rfl) (by decide) (by decide) (Nat.le_of_ble_eq_true rfl) (Nat.le_of_ble_eq_true rfl) (hb hby d1_20) ?_
  intro T70 Lc70 v70 X70 hQ70
  obtain ⟨h70, e70⟩ : ∃ h, T70.heap = h := ⟨_, rfl⟩
  rw [e70] at hQ70
  obtain ⟨rfl, N70q, K70, wz70, dz70, B70, nww70, nwd70⟩ := hQ70
  have N70 := Fr.app N34 N70q
  have f71 := f54.keep K70
  have f72 := f55.trans K70 (allS (P := fun x => x ∈ [au] ∨ h0.size ≤ x) (Or.inr nw49) all0)
  have f73 := f56.keep K70 (ninS ne51 nin0)
  have f74 := own_sta_keep f57 K70 (nsS A49.nostat ns0)
  have f75 := f58.keep K70
  have f76 := f59.keep K70 (ninS ne50 nin0)
  have f77 := f60.keep K70 (ninS ne50 nin0)
  have f78 := f61.keep K70 (ninS ne50 nin0)
  have f79 := f62.keep K70 (ninS ne50 nin0)
  have f80 := f63.keep K70 (ninS ne50 nin0)
  have f81 := f64.keep K70
  have f82 := f65.keep K70 (ninS ne53 nin0)
  have f83 := f66.keep K70 (ninS ne53 nin0)
  have f84 := f67.keep K70 (ninS ne53 nin0)
  have f85 := A49.keep K70
  have Z70 := Nat.le_trans Z49 K70.1
  have ne88 : au ≠ wz70 := Nat.ne_of_lt (Nat.lt_of_lt_of_le f63.lt nww70)
  have ne89 : dc ≠ wz70 := Nat.ne_of_lt (Nat.lt_of_lt_of_le f56.lt nww70)
  have ne90 : sa ≠ wz70 := Nat.ne_of_lt (Nat.lt_of_lt_of_le f58.lt nww70)
  have ne91 : b2 ≠ wz70 := Nat.ne_of_lt (Nat.lt_of_lt_of_le f67.lt nww70)
  have ne92 : b49 ≠ wz70 := Nat.ne_of_lt (Nat.lt_of_lt_of_le f69.lt nww70)
  have nk_wz70 : h0.size ≤ wz70 := Nat.le_trans f55.1 nww70
  have ne93 : au ≠ dz70 := Nat.ne_of_lt (Nat.lt_of_lt_of_le f63.lt nwd70)
  have ne94 : dc ≠ dz70 := Nat.ne_of_lt (Nat.lt_of_lt_of_le f56.lt nwd70)
  have ne95 : sa ≠ dz70 := Nat.ne_of_lt (Nat.lt_of_lt_of_le f58.lt nwd70)
  have ne96 : b2 ≠ dz70 := Nat.ne_of_lt (Nat.lt_of_lt_of_le f67.lt nwd70)
  have ne97 : b49 ≠ dz70 := Nat.ne_of_lt (Nat.lt_of_lt_of_le f69.lt nwd70)
  have nk_dz70 : h0.size ≤ dz70 := Nat.le_trans f55.1 nwd70
  have neb70 : b49 ≠ wz70 := by obtain ⟨-, -, -, _, _, _, _, -, -, -, -, -, -, q, -⟩ := B70; exact q
  show own_Go _ _ _ _ (T70.setTop (mkF m 23 #[.val (.ref au), .val (.int (4 : Int32)), .unset] [(.ref b49), (.ref au)]))
  obtain ⟨T98, h98, X98, e98, W98, st98⟩ := putF X70 hx hZ hown (host := "") (Or.inl (hw _ (List.mem_of_getElem? (i := 48) rfl))) Via.refl e70 f77 f71 (Or.inr ⟨(hw _ (List.mem_of_getElem? (i := 49) rfl)), rfl, hnm⟩) (hw _ (List.mem_of_getElem? (i := 2) rfl)) (ty := (.object "com/example/sonde/sonde/engine/Bits")) (by decide) rfl rfl (g := (mkF m 23 #[.val (.ref au), .val (.int (4 : Int32)), .unset] [(.ref b49), (.ref au)])) rfl rfl (hb hby d1_23)
  refine own_by st98 ?_
  have f99 := f77.same W98
  have f100 := f71.wr W98
  have f101 := f72.wr W98 (Or.inl (List.mem_of_getElem? (i := 0) rfl))
  have f102 := f73.other W98 Pnd
  have f103 := f74.wr W98
  have f104 := f75.wr W98
  have f105 := f76.other W98 (Or.inr (slot_ne (Or.inr (hw _ (List.mem_of_getElem? (i := 35) rfl))) (Or.inr (hw _ (List.mem_of_getElem? (i := 49) rfl))) (by decide) (t := (.object "java/util/List")) (t' := (.object "com/example/sonde/sonde/engine/Bits")) (by decide) (by decide)))
  have f106 := f78.other W98 (Or.inr (slot_ne (Or.inr (hw _ (List.mem_of_getElem? (i := 51) rfl))) (Or.inr (hw _ (List.mem_of_getElem? (i := 49) rfl))) (by decide) (t := (.object "com/example/sonde/sonde/engine/Bits")) (t' := (.object "com/example/sonde/sonde/engine/Bits")) (by decide) (by decide)))
  have f107 := f79.other W98 (Or.inr (slot_ne (Or.inr (hw _ (List.mem_of_getElem? (i := 54) rfl))) (Or.inr (hw _ (List.mem_of_getElem? (i := 49) rfl))) (by decide) (t := (.array (.object "com/example/sonde/sonde/engine/Bits"))) (t' := (.object "com/example/sonde/sonde/engine/Bits")) (by decide) (by decide)))
  have f108 := f80.other W98 (Or.inr (slot_ne (Or.inr (hw _ (List.mem_of_getElem? (i := 73) rfl))) (Or.inr (hw _ (List.mem_of_getElem? (i := 49) rfl))) (by decide) (t := (.array (.object "com/example/sonde/sonde/engine/Bits"))) (t' := (.object "com/example/sonde/sonde/engine/Bits")) (by decide) (by decide)))
  have f109 := f81.wr W98
  have f110 := f82.other W98 (Or.inl (Ne.symm ne3))
  have f111 := f83.other W98 (Or.inl (Ne.symm ne3))
  have f112 := f84.other W98 (Or.inl (Ne.symm ne3))
  have f113 := f85.wr W98
  have f114 := B70.other W98 (Ne.symm ne50) (Ne.symm ne88) (Ne.symm ne93)
  have N98 := Fr.snoc X98 N70 Pau
  have Z98 := own_size_wr W98 Z70
  show own_Go _ _ _ _ (T98.setTop (mkF m 26 #[.val (.ref au), .val (.int (4 : Int32)), .unset] []))
  refine own_by (fun _ k => XS.aloadN X98.here hx rfl (hb hby d1_26) rfl rfl k) ?_
  show own_Go _ _ _ _ (T98.setTop (mkF m 27 #[.val (.ref au), .val (.int (4 : Int32)), .unset] [(.ref au)]))
  obtain ⟨T115, h115, X115, e115, E115, A115, D115, -, st115⟩ := newO X98 hx hZ hown (hw _ (List.mem_of_getElem? (i := 36) rfl)) (hw _ (List.mem_of_getElem? (i := 37) rfl)) (hw _ (List.mem_of_getElem? (i := 38) rfl)) e98 (g := (mkF m 27 #[.val (.ref au), .val (.int (4 : Int32)), .unset] [(.ref au)])) rfl (hb hby d1_27) (by decide) (by decide)
  refine own_by st115 ?_
  show own_Go _ _ _ _ (T115.setTop (mkF m 30 #[.val (.ref au), .val (.int (4 : Int32)), .unset] [.ref h98.size, (.ref au)]))
  obtain ⟨b115, g115⟩ : ∃ z, z = h98.size := ⟨_, rfl⟩
  rw [← g115] at A115 D115
  refine own_gen g115.symm (fun z_ => T115.setTop (mkF m 30 #[.val (.ref au), .val (.int (4 : Int32)), .unset] [.ref z_, (.ref au)])) ?_
  have ne116 : au ≠ b115 := Nat.ne_of_lt (Nat.lt_of_lt_of_le f108.lt (Nat.le_of_eq g115.symm))
  have ne117 : dc ≠ b115 := Nat.ne_of_lt (Nat.lt_of_lt_of_le f102.lt (Nat.le_of_eq g115.symm))
  have ne118 : sa ≠ b115 := Nat.ne_of_lt (Nat.lt_of_lt_of_le f104.lt (Nat.le_of_eq g115.symm))
  have ne119 : b2 ≠ b115 := Nat.ne_of_lt (Nat.lt_of_lt_of_le f112.lt (Nat.le_of_eq g115.symm))
  have ne120 : b49 ≠ b115 := Nat.ne_of_lt (Nat.lt_of_lt_of_le f114.lb (Nat.le_of_eq g115.symm))
  have ne121 : wz70 ≠ b115 := Nat.ne_of_lt (Nat.lt_of_lt_of_le f114.lw (Nat.le_of_eq g115.symm))
  have ne122 : dz70 ≠ b115 := Nat.ne_of_lt (Nat.lt_of_lt_of_le f114.ld (Nat.le_of_eq g115.symm))
  have ge115 : n0 ≤ b115 := Nat.le_trans Z98 (Nat.le_of_eq g115.symm)
  have nw115 : h0.size ≤ b115 := Nat.le_trans f101.1 (Nat.le_of_eq g115.symm)
  have f123 := f100.ext E115
  have f124 := f101.ext E115
  have f125 := f102.ext E115
  have f126 := f103.ext E115
  have f127 := f104.ext E115
  have f128 := f105.ext E115
  have f129 := f99.ext E115
  have f130 := f106.ext E115
  have f131 := f107.ext E115
  have f132 := f108.ext E115
  have f133 := f109.ext E115
  have f134 := f110.ext E115
  have f135 := f111.ext E115
  have f136 := f112.ext E115
  have f137 := f113.ext E115
  have f138 := f114.ext E115
  have Z115 := Nat.le_trans Z98 E115.1
  have f139 : Fld Z h115 b115 "com/example/sonde/sonde/engine/Bits" "words" "[J" .null := D115 (Or.inl (hw _ (List.mem_of_getElem? (i := 45) rfl))) (ty := (.array .long)) (by decide)
  have f140 : Fld Z h115 b115 "com/example/sonde/sonde/engine/Bits" "held" "[J" .null := D115 (Or.inl (hw _ (List.mem_of_getElem? (i := 47) rfl))) (ty := (.array .long)) (by decide)
  show own_Go _ _ _ _ (T115.setTop (mkF m 30 #[.val (.ref au), .val (.int (4 : Int32)), .unset] [(.ref b115), (.ref au)]))
  refine own_by (fun _ k => XS.dup X115.here hx rfl (hb hby d1_30) rfl rfl k) ?_
  show own_Go _ _ _ _ (T115.setTop (mkF m 31 #[.val (.ref au), .val (.int (4 : Int32)), .unset] [(.ref b115), (.ref b115), (.ref au)]))
  refine own_callI X115 hx hZ hown rfl (hw _ (List.mem_of_getElem? (i := 39) rfl)) (hw _ (List.mem_of_getElem? (i := 40) rfl)) (hw _ (List.mem_of_getElem? (i := 38) rfl)) (hw _ (List.mem_of_getElem? (i := 41) rfl)) (by decide) (rm6 l Z a0 hw [] b115 h115 n0 Z115 A115 f139 f140 ge115) e115 (by rw [hml]; rfl) b115 [] [(.ref b115), (.ref au)] rfl (lenOf own_pd2 rfl) rfl 2 (Nat.le_of_eq rfl) (by decide) (by decide) (Nat.le_of_ble_eq_true rfl) (Nat.le_of_ble_eq_true rfl) (hb hby d1_31) ?_
  intro T141 Lc141 v141 X141 hQ141
  obtain ⟨h141, e141⟩ : ∃ h, T141.heap = h := ⟨_, rfl⟩
  rw [e141] at hQ141
  obtain ⟨rfl, N141q, K141, wz141, dz141, B141, nww141, nwd141⟩ := hQ141
  have N141 := Fr.app N98 N141q
  have f142 := f123.keep K141
  have f143 := f124.trans K141 (allS (P := fun x => x ∈ [au] ∨ h0.size ≤ x) (Or.inr nw115) all0)
  have f144 := f125.keep K141 (ninS ne117 nin0)
  have f145 := own_sta_keep f126 K141 (nsS A115.nostat ns0)
  have f146 := f127.keep K141
  have f147 := f128.keep K141 (ninS ne116 nin0)
  have f148 := f129.keep K141 (ninS ne116 nin0)
  have f149 := f130.keep K141 (ninS ne116 nin0)
  have f150 := f131.keep K141 (ninS ne116 nin0)
  have f151 := f132.keep K141 (ninS ne116 nin0)
  have f152 := f133.keep K141
  have f153 := f134.keep K141 (ninS ne119 nin0)
  have f154 := f135.keep K141 (ninS ne119 nin0)
  have f155 := f136.keep K141 (ninS ne119 nin0)
  have f156 := f137.keep K141
  have f157 := f138.keep K141 (ninS ne120 nin0) (ninS ne121 nin0) (ninS ne122 nin0)
  have f158 := A115.keep K141
  have Z141 := Nat.le_trans Z115 K141.1
  have ne161 : au ≠ wz141 := Nat.ne_of_lt (Nat.lt_of_lt_of_le f132.lt nww141)
  have ne162 : dc ≠ wz141 := Nat.ne_of_lt (Nat.lt_of_lt_of_le f125.lt nww141)
  have ne163 : sa ≠ wz141 := Nat.ne_of_lt (Nat.lt_of_lt_of_le f127.lt nww141)
  have ne164 : b2 ≠ wz141 := Nat.ne_of_lt (Nat.lt_of_lt_of_le f136.lt nww141)
  have ne165 : b49 ≠ wz141 := Nat.ne_of_lt (Nat.lt_of_lt_of_le f138.lb nww141)
  have ne166 : wz70 ≠ wz141 := Nat.ne_of_lt (Nat.lt_of_lt_of_le f138.lw nww141)
  have ne167 : dz70 ≠ wz141 := Nat.ne_of_lt (Nat.lt_of_lt_of_le f138.ld nww141)
  have ne168 : b115 ≠ wz141 := Nat.ne_of_lt (Nat.lt_of_lt_of_le f140.lt nww141)
  have nk_wz141 : h0.size ≤ wz141 := Nat.le_trans f124.1 nww141
  have ne169 : au ≠ dz141 := Nat.ne_of_lt (Nat.lt_of_lt_of_le f132.lt nwd141)
  have ne170 : dc ≠ dz141 := Nat.ne_of_lt (Nat.lt_of_lt_of_le f125.lt nwd141)
  have ne171 : sa ≠ dz141 := Nat.ne_of_lt (Nat.lt_of_lt_of_le f127.lt nwd141)
  have ne172 : b2 ≠ dz141 := Nat.ne_of_lt (Nat.lt_of_lt_of_le f136.lt nwd141)
  have ne173 : b49 ≠ dz141 := Nat.ne_of_lt (Nat.lt_of_lt_of_le f138.lb nwd141)
  have ne174 : wz70 ≠ dz141 := Nat.ne_of_lt (Nat.lt_of_lt_of_le f138.lw nwd141)
  have ne175 : dz70 ≠ dz141 := Nat.ne_of_lt (Nat.lt_of_lt_of_le f138.ld nwd141)
  have ne176 : b115 ≠ dz141 := Nat.ne_of_lt (Nat.lt_of_lt_of_le f140.lt nwd141)
  have nk_dz141 : h0.size ≤ dz141 := Nat.le_trans f124.1 nwd141
  have neb141 : b115 ≠ wz141 := by obtain ⟨-, -, -, _, _, _, _, -, -, -, -, -, -, q, -⟩ := B141; exact q
  show own_Go _ _ _ _ (T141.setTop (mkF m 34 #[.val (.ref au), .val (.int (4 : Int32)), .unset] [(.ref b115), (.ref au)]))
  obtain ⟨T177, h177, X177, e177, W177, st177⟩ := putF X141 hx hZ hown (host := "") (Or.inl (hw _ (List.mem_of_getElem? (i := 50) rfl))) Via.refl e141 f149 f142 (Or.inr ⟨(hw _ (List.mem_of_getElem? (i := 51) rfl)), rfl, hnm⟩) (hw _ (List.mem_of_getElem? (i := 2) rfl)) (ty := (.object "com/example/sonde/sonde/engine/Bits")) (by decide) rfl rfl (g := (mkF m 34 #[.val (.ref au), .val (.int (4 : Int32)), .unset] [(.ref b115), (.ref au)])) rfl rfl (hb hby d1_34)
  refine own_by st177 ?_
  have f178 := f149.same W177
  have f179 := f142.wr W177
  have f180 := f143.wr W177 (Or.inl (List.mem_of_getElem? (i := 0) rfl))
  have f181 := f144.other W177 Pnd
  have f182 := f145.wr W177
  have f183 := f146.wr W177
  have f184 := f147.other W177 (Or.inr (slot_ne (Or.inr (hw _ (List.mem_of_getElem? (i := 35) rfl))) (Or.inr (hw _ (List.mem_of_getElem? (i := 51) rfl))) (by decide) (t := (.object "java/util/List")) (t' := (.object "com/example/sonde/sonde/engine/Bits")) (by decide) (by decide)))
  have f185 := f148.other W177 (Or.inr (slot_ne (Or.inr (hw _ (List.mem_of_getElem? (i := 49) rfl))) (Or.inr (hw _ (List.mem_of_getElem? (i := 51) rfl))) (by decide) (t := (.object "com/example/sonde/sonde/engine/Bits")) (t' := (.object "com/example/sonde/sonde/engine/Bits")) (by decide) (by decide)))
  have f186 := f150.other W177 (Or.inr (slot_ne (Or.inr (hw _ (List.mem_of_getElem? (i := 54) rfl))) (Or.inr (hw _ (List.mem_of_getElem? (i := 51) rfl))) (by decide) (t := (.array (.object "com/example/sonde/sonde/engine/Bits"))) (t' := (.object "com/example/sonde/sonde/engine/Bits")) (by decide) (by decide)))
  have f187 := f151.other W177 (Or.inr (slot_ne (Or.inr (hw _ (List.mem_of_getElem? (i := 73) rfl))) (Or.inr (hw _ (List.mem_of_getElem? (i := 51) rfl))) (by decide) (t := (.array (.object "com/example/sonde/sonde/engine/Bits"))) (t' := (.object "com/example/sonde/sonde/engine/Bits")) (by decide) (by decide)))
  have f188 := f152.wr W177
  have f189 := f153.other W177 (Or.inl (Ne.symm ne3))
  have f190 := f154.other W177 (Or.inl (Ne.symm ne3))
  have f191 := f155.other W177 (Or.inl (Ne.symm ne3))
  have f192 := f156.wr W177
  have f193 := f157.other W177 (Ne.symm ne50) (Ne.symm ne88) (Ne.symm ne93)
  have f194 := f158.wr W177
  have f195 := B141.other W177 (Ne.symm ne116) (Ne.symm ne161) (Ne.symm ne169)
  have N177 := Fr.snoc X177 N141 Pau
  have Z177 := own_size_wr W177 Z141
  show own_Go _ _ _ _ (T177.setTop (mkF m 37 #[.val (.ref au), .val (.int (4 : Int32)), .unset] []))
  refine own_by (fun _ k => XS.aloadN X177.here hx rfl (hb hby d1_37) rfl rfl k) ?_
  refine own_by (fun _ k => XS.iloadN X177.here hx rfl (hb hby d1_38) rfl k) ?_
  show own_Go _ _ _ _ (T177.setTop (mkF m 39 #[.val (.ref au), .val (.int (4 : Int32)), .unset] [(.int (4 : Int32)), (.ref au)]))
  refine own_newR X177 hx hZ hown (hw _ (List.mem_of_getElem? (i := 36) rfl)) (hw _ (List.mem_of_getElem? (i := 52) rfl)) e177 4 (by decide) 4 (by decide) (by decide) (by decide) (by decide) (hb hby d1_39) ?_
  intro T196 h196 X196 e196 E196 A196
  show own_Go _ _ _ _ (T196.setTop (mkF m 42 #[.val (.ref au), .val (.int (4 : Int32)), .unset] [.ref h177.size, (.ref au)]))
  obtain ⟨b196, g196⟩ : ∃ z, z = h177.size := ⟨_, rfl⟩
  rw [← g196] at A196
  refine own_gen g196.symm (fun z_ => T196.setTop (mkF m 42 #[.val (.ref au), .val (.int (4 : Int32)), .unset] [.ref z_, (.ref au)])) ?_
  have ne197 : au ≠ b196 := Nat.ne_of_lt (Nat.lt_of_lt_of_le f187.lt (Nat.le_of_eq g196.symm))
  have ne198 : dc ≠ b196 := Nat.ne_of_lt (Nat.lt_of_lt_of_le f181.lt (Nat.le_of_eq g196.symm))
  have ne199 : sa ≠ b196 := Nat.ne_of_lt (Nat.lt_of_lt_of_le f183.lt (Nat.le_of_eq g196.symm))
  have ne200 : b2 ≠ b196 := Nat.ne_of_lt (Nat.lt_of_lt_of_le f191.lt (Nat.le_of_eq g196.symm))
  have ne201 : b49 ≠ b196 := Nat.ne_of_lt (Nat.lt_of_lt_of_le f193.lb (Nat.le_of_eq g196.symm))
  have ne202 : wz70 ≠ b196 := Nat.ne_of_lt (Nat.lt_of_lt_of_le f193.lw (Nat.le_of_eq g196.symm))
  have ne203 : dz70 ≠ b196 := Nat.ne_of_lt (Nat.lt_of_lt_of_le f193.ld (Nat.le_of_eq g196.symm))
  have ne204 : b115 ≠ b196 := Nat.ne_of_lt (Nat.lt_of_lt_of_le f195.lb (Nat.le_of_eq g196.symm))
  have ne205 : wz141 ≠ b196 := Nat.ne_of_lt (Nat.lt_of_lt_of_le f195.lw (Nat.le_of_eq g196.symm))
  have ne206 : dz141 ≠ b196 := Nat.ne_of_lt (Nat.lt_of_lt_of_le f195.ld (Nat.le_of_eq g196.symm))
  have ge196 : n0 ≤ b196 := Nat.le_trans Z177 (Nat.le_of_eq g196.symm)
  have nw196 : h0.size ≤ b196 := Nat.le_trans f180.1 (Nat.le_of_eq g196.symm)
  have f207 := f179.ext E196
  have f208 := f180.ext E196
  have f209 := f181.ext E196
  have f210 := f182.ext E196
  have f211 := f183.ext E196
  have f212 := f184.ext E196
  have f213 := f185.ext E196
  have f214 := f178.ext E196
  have f215 := f186.ext E196
  have f216 := f187.ext E196
  have f217 := f188.ext E196
  have f218 := f189.ext E196
  have f219 := f190.ext E196
  have f220 := f191.ext E196
  have f221 := f192.ext E196
  have f222 := f193.ext E196
  have f223 := f194.ext E196
  have f224 := f195.ext E196
  have Z196 := Nat.le_trans Z177 E196.1
  show own_Go _ _ _ _ (T196.setTop (mkF m 42 #[.val (.ref au), .val (.int (4 : Int32)), .unset] [(.ref b196), (.ref au)]))
  obtain ⟨T225, h225, X225, e225, W225, st225⟩ := putF X196 hx hZ hown (host := "") (Or.inl (hw _ (List.mem_of_getElem? (i := 53) rfl))) Via.refl e196 f215 f207 (Or.inr ⟨(hw _ (List.mem_of_getElem? (i := 54) rfl)), rfl, hnm⟩) (hw _ (List.mem_of_getElem? (i := 2) rfl)) (ty := (.array (.object "com/example/sonde/sonde/engine/Bits"))) (by decide) rfl rfl (g := (mkF m 42 #[.val (.ref au), .val (.int (4 : Int32)), .unset] [(.ref b196), (.ref au)])) rfl rfl (hb hby d1_42)
  refine own_by st225 ?_
  have f226 := f215.same W225
  have f227 := f207.wr W225
  have f228 := f208.wr W225 (Or.inl (List.mem_of_getElem? (i := 0) rfl))
  have f229 := f209.other W225 Pnd
  have f230 := f210.wr W225
  have f231 := f211.wr W225
  have f232 := f212.other W225 (Or.inr (slot_ne (Or.inr (hw _ (List.mem_of_getElem? (i := 35) rfl))) (Or.inr (hw _ (List.mem_of_getElem? (i := 54) rfl))) (by decide) (t := (.object "java/util/List")) (t' := (.array (.object "com/example/sonde/sonde/engine/Bits"))) (by decide) (by decide)))
  have f233 := f213.other W225 (Or.inr (slot_ne (Or.inr (hw _ (List.mem_of_getElem? (i := 49) rfl))) (Or.inr (hw _ (List.mem_of_getElem? (i := 54) rfl))) (by decide) (t := (.object "com/example/sonde/sonde/engine/Bits")) (t' := (.array (.object "com/example/sonde/sonde/engine/Bits"))) (by decide) (by decide)))
  have f234 := f214.other W225 (Or.inr (slot_ne (Or.inr (hw _ (List.mem_of_getElem? (i := 51) rfl))) (Or.inr (hw _ (List.mem_of_getElem? (i := 54) rfl))) (by decide) (t := (.object "com/example/sonde/sonde/engine/Bits")) (t' := (.array (.object "com/example/sonde/sonde/engine/Bits"))) (by decide) (by decide)))
  have f235 := f216.other W225 (Or.inr (slot_ne (Or.inr (hw _ (List.mem_of_getElem? (i := 73) rfl))) (Or.inr (hw _ (List.mem_of_getElem? (i := 54) rfl))) (by decide) (t := (.array (.object "com/example/sonde/sonde/engine/Bits"))) (t' := (.array (.object "com/example/sonde/sonde/engine/Bits"))) (by decide) (by decide)))
  have f236 := f217.wr W225
  have f237 := f218.other W225 (Or.inl (Ne.symm ne3))
  have f238 := f219.other W225 (Or.inl (Ne.symm ne3))
  have f239 := f220.other W225 (Or.inl (Ne.symm ne3))
  have f240 := f221.wr W225
  have f241 := f222.other W225 (Ne.symm ne50) (Ne.symm ne88) (Ne.symm ne93)
  have f242 := f223.wr W225
  have f243 := f224.other W225 (Ne.symm ne116) (Ne.symm ne161) (Ne.symm ne169)
  have f244 := A196.other W225 (Ne.symm ne197)
  have N225 := Fr.snoc X225 N177 Pau
  have Z225 := own_size_wr W225 Z196
  show own_Go _ _ _ _ (T225.setTop (mkF m 45 #[.val (.ref au), .val (.int (4 : Int32)), .unset] []))
  refine own_by (fun _ k => XS.aloadN X225.here hx rfl (hb hby d1_45) rfl rfl k) ?_
  show own_Go _ _ _ _ (T225.setTop (mkF m 46 #[.val (.ref au), .val (.int (4 : Int32)), .unset] [(.ref au)]))
  obtain ⟨T245, X245, e245, st245⟩ := getF X225 hx hZ hown (host := "") (Or.inl (hw _ (List.mem_of_getElem? (i := 53) rfl))) Via.refl e225 f226 (g := (mkF m 46 #[.val (.ref au), .val (.int (4 : Int32)), .unset] [(.ref au)])) rfl rfl (hb hby d1_46)
  refine own_by st245 ?_
  show own_Go _ _ _ _ (T245.setTop (mkF m 49 #[.val (.ref au), .val (.int (4 : Int32)), .unset] [(.ref b196)]))
  refine own_by (fun _ k => own_site X245 hx hZ Bd.named PSt (by rw [hml]; rfl) (hb hby d1_49) 1 (Nat.le_of_eq rfl) (by decide) k) ?_
  show own_Go _ _ _ _ (T245.setTop (mkF m 54 #[.val (.ref au), .val (.int (4 : Int32)), .unset] [(.ref sa), (.ref b196)]))
  refine own_callSL X245 hx hZ hown hH (hw _ (List.mem_of_getElem? (i := 58) rfl)) (hw _ (List.mem_of_getElem? (i := 59) rfl)) (hw _ (List.mem_of_getElem? (i := 60) rfl)) (hw _ (List.mem_of_getElem? (i := 61) rfl)) (by decide) (rm7_4 l Z a0 hw [] b196 sa cK (fun _ => .null) h225 n0 Z225 f244 f231 PSt ge196) e245 (by rw [hml]; rfl) [(.ref b196), (.ref sa)] [] rfl (lenOf own_pd3 rfl) rfl 0 (Nat.le_of_eq rfl) (by decide) (by decide) (Nat.le_of_ble_eq_true rfl) (Nat.le_of_ble_eq_true rfl) (hb hby d1_54) ?_
  intro T246 Lc246 v246 X246 hQ246
  obtain ⟨h246, e246⟩ : ∃ h, T246.heap = h := ⟨_, rfl⟩
  rw [e246] at hQ246
  obtain ⟨rfl, N246q, K246, fz246, AR246⟩ := hQ246
  have N246 := Fr.app N225 N246q
  have f247 := f227.keep K246
  have f248 := f228.trans K246 (allS (P := fun x => x ∈ [au] ∨ h0.size ≤ x) (Or.inr nw196) all0)
  have f249 := f229.keep K246 (ninS ne198 nin0)
  have f250 := own_sta_keep f230 K246 (nsS f244.nostat ns0)
  have f251 := f231.keep K246
  have f252 := f232.keep K246 (ninS ne197 nin0)
  have f253 := f233.keep K246 (ninS ne197 nin0)
  have f254 := f234.keep K246 (ninS ne197 nin0)
  have f255 := f226.keep K246 (ninS ne197 nin0)
  have f256 := f235.keep K246 (ninS ne197 nin0)
  have f257 := f236.keep K246
  have f258 := f237.keep K246 (ninS ne200 nin0)
  have f259 := f238.keep K246 (ninS ne200 nin0)
  have f260 := f239.keep K246 (ninS ne200 nin0)
  have f261 := f240.keep K246
  have f262 := f241.keep K246 (ninS ne201 nin0) (ninS ne202 nin0) (ninS ne203 nin0)
  have f263 := f242.keep K246
  have f264 := f243.keep K246 (ninS ne204 nin0) (ninS ne205 nin0) (ninS ne206 nin0)
  have Z246 := Nat.le_trans Z225 K246.1
  show own_Go _ _ _ _ (T246.setTop (mkF m 57 #[.val (.ref au), .val (.int (4 : Int32)), .unset] []))
  refine own_by (fun _ k => XS.aloadN X246.here hx rfl (hb hby d1_57) rfl rfl k) ?_
  refine own_by (fun _ k => XS.iloadN X246.here hx rfl (hb hby d1_58) rfl k) ?_
  refine own_by (fun _ k => XS.iloadN X246.here hx rfl (hb hby d1_59) rfl k) ?_
  show own_Go _ _ _ _ (T246.setTop (mkF m 60 #[.val (.ref au), .val (.int (4 : Int32)), .unset] [(.int (4 : Int32)), (.int (4 : Int32)), (.ref au)]))
  refine own_by (fun _ k => XS.imul X246.here hx rfl (hb hby d1_60) rfl k) ?_
  show own_Go _ _ _ _ (T246.setTop (mkF m 61 #[.val (.ref au), .val (.int (4 : Int32)), .unset] [(.int ((4 : Int32) * (4 : Int32))), (.ref au)]))
  rw [(by decide : ((4 : Int32) * (4 : Int32)) = (16 : Int32))]
  show own_Go _ _ _ _ (T246.setTop (mkF m 61 #[.val (.ref au), .val (.int (4 : Int32)), .unset] [(.int (16 : Int32)), (.ref au)]))
  refine own_newR X246 hx hZ hown (hw _ (List.mem_of_getElem? (i := 36) rfl)) (hw _ (List.mem_of_getElem? (i := 52) rfl)) e246 16 (by decide) 16 (by decide) (by decide) (by decide) (by decide) (hb hby d1_61) ?_
  intro T266 h266 X266 e266 E266 A266
  show own_Go _ _ _ _ (T266.setTop (mkF m 64 #[.val (.ref au), .val (.int (4 : Int32)), .unset] [.ref h246.size, (.ref au)]))
  obtain ⟨b266, g266⟩ : ∃ z, z = h246.size := ⟨_, rfl⟩
  rw [← g266] at A266
  refine own_gen g266.symm (fun z_ => T266.setTop (mkF m 64 #[.val (.ref au), .val (.int (4 : Int32)), .unset] [.ref z_, (.ref au)])) ?_
  have ne267 : au ≠ b266 := Nat.ne_of_lt (Nat.lt_of_lt_of_le f256.lt (Nat.le_of_eq g266.symm))
  have ne268 : dc ≠ b266 := Nat.ne_of_lt (Nat.lt_of_lt_of_le f249.lt (Nat.le_of_eq g266.symm))
  have ne269 : sa ≠ b266 := Nat.ne_of_lt (Nat.lt_of_lt_of_le f251.lt (Nat.le_of_eq g266.symm))
  have ne270 : b2 ≠ b266 := Nat.ne_of_lt (Nat.lt_of_lt_of_le f260.lt (Nat.le_of_eq g266.symm))
  have ne271 : b49 ≠ b266 := Nat.ne_of_lt (Nat.lt_of_lt_of_le f262.lb (Nat.le_of_eq g266.symm))
  have ne272 : wz70 ≠ b266 := Nat.ne_of_lt (Nat.lt_of_lt_of_le f262.lw (Nat.le_of_eq g266.symm))
  have ne273 : dz70 ≠ b266 := Nat.ne_of_lt (Nat.lt_of_lt_of_le f262.ld (Nat.le_of_eq g266.symm))
  have ne274 : b115 ≠ b266 := Nat.ne_of_lt (Nat.lt_of_lt_of_le f264.lb (Nat.le_of_eq g266.symm))
  have ne275 : wz141 ≠ b266 := Nat.ne_of_lt (Nat.lt_of_lt_of_le f264.lw (Nat.le_of_eq g266.symm))
  have ne276 : dz141 ≠ b266 := Nat.ne_of_lt (Nat.lt_of_lt_of_le f264.ld (Nat.le_of_eq g266.symm))
  have ne277 : b196 ≠ b266 := Nat.ne_of_lt (Nat.lt_of_lt_of_le AR246.lt (Nat.le_of_eq g266.symm))
  have ge266 : n0 ≤ b266 := Nat.le_trans Z246 (Nat.le_of_eq g266.symm)
  have nw266 : h0.size ≤ b266 := Nat.le_trans f248.1 (Nat.le_of_eq g266.symm)
  have f278 := f247.ext E266
  have f279 := f248.ext E266
  have f280 := f249.ext E266
  have f281 := f250.ext E266
  have f282 := f251.ext E266
  have f283 := f252.ext E266
  have f284 := f253.ext E266
  have f285 := f254.ext E266
  have f286 := f255.ext E266
  have f287 := f256.ext E266
  have f288 := f257.ext E266
  have f289 := f258.ext E266
  have f290 := f259.ext E266
  have f291 := f260.ext E266
  have f292 := f261.ext E266
  have f293 := f262.ext E266
  have f294 := f263.ext E266
  have f295 := f264.ext E266
  have f296 := AR246.ext E266
  have Z266 := Nat.le_trans Z246 E266.1
  show own_Go _ _ _ _ (T266.setTop (mkF m 64 #[.val (.ref au), .val (.int (4 : Int32)), .unset] [(.ref b266), (.ref au)]))
  obtain ⟨T297, h297, X297, e297, W297, st297⟩ := putF X266 hx hZ hown (host := "") (Or.inl (hw _ (List.mem_of_getElem? (i := 72) rfl))) Via.refl e266 f287 f278 (Or.inr ⟨(hw _ (List.mem_of_getElem? (i := 73) rfl)), rfl, hnm⟩) (hw _ (List.mem_of_getElem? (i := 2) rfl)) (ty := (.array (.object "com/example/sonde/sonde/engine/Bits"))) (by decide) rfl rfl (g := (mkF m 64 #[.val (.ref au), .val (.int (4 : Int32)), .unset] [(.ref b266), (.ref au)])) rfl rfl (hb hby d1_64)
  refine own_by st297 ?_
  have f298 := f287.same W297
  have f299 := f278.wr W297
  have f300 := f279.wr W297 (Or.inl (List.mem_of_getElem? (i := 0) rfl))
  have f301 := f280.other W297 Pnd
  have f302 := f281.wr W297
  have f303 := f282.wr W297
  have f304 := f283.other W297 (Or.inr (slot_ne (Or.inr (hw _ (List.mem_of_getElem? (i := 35) rfl))) (Or.inr (hw _ (List.mem_of_getElem? (i := 73) rfl))) (by decide) (t := (.object "java/util/List")) (t' := (.array (.object "com/example/sonde/sonde/engine/Bits"))) (by decide) (by decide)))
  have f305 := f284.other W297 (Or.inr (slot_ne (Or.inr (hw _ (List.mem_of_getElem? (i := 49) rfl))) (Or.inr (hw _ (List.mem_of_getElem? (i := 73) rfl))) (by decide) (t := (.object "com/example/sonde/sonde/engine/Bits")) (t' := (.array (.object "com/example/sonde/sonde/engine/Bits"))) (by decide) (by decide)))
  have f306 := f285.other W297 (Or.inr (slot_ne (Or.inr (hw _ (List.mem_of_getElem? (i := 51) rfl))) (Or.inr (hw _ (List.mem_of_getElem? (i := 73) rfl))) (by decide) (t := (.object "com/example/sonde/sonde/engine/Bits")) (t' := (.array (.object "com/example/sonde/sonde/engine/Bits"))) (by decide) (by decide)))
  have f307 := f286.other W297 (Or.inr (slot_ne (Or.inr (hw _ (List.mem_of_getElem? (i := 54) rfl))) (Or.inr (hw _ (List.mem_of_getElem? (i := 73) rfl))) (by decide) (t := (.array (.object "com/example/sonde/sonde/engine/Bits"))) (t' := (.array (.object "com/example/sonde/sonde/engine/Bits"))) (by decide) (by decide)))
  have f308 := f288.wr W297
  have f309 := f289.other W297 (Or.inl (Ne.symm ne3))
  have f310 := f290.other W297 (Or.inl (Ne.symm ne3))
  have f311 := f291.other W297 (Or.inl (Ne.symm ne3))
  have f312 := f292.wr W297
  have f313 := f293.other W297 (Ne.symm ne50) (Ne.symm ne88) (Ne.symm ne93)
  have f314 := f294.wr W297
  have f315 := f295.other W297 (Ne.symm ne116) (Ne.symm ne161) (Ne.symm ne169)
  have f316 := f296.other W297 (Ne.symm ne197)
  have f317 := A266.other W297 (Ne.symm ne267)
  have N297 := Fr.snoc X297 N246 Pau
  have Z297 := own_size_wr W297 Z266
  show own_Go _ _ _ _ (T297.setTop (mkF m 67 #[.val (.ref au), .val (.int (4 : Int32)), .unset] []))
  refine own_by (fun _ k => XS.iconst X297.here hx rfl (hb hby d1_67) k) ?_
  show own_Go _ _ _ _ (T297.setTop (mkF m 68 #[.val (.ref au), .val (.int (4 : Int32)), .unset] [(.int (0 : Int32))]))
  refine own_by (fun _ k => XS.istoreN X297.here hx rfl (hb hby d1_68) rfl (l' := #[.val (.ref au), .val (.int (4 : Int32)), .val (.int (0 : Int32))]) rfl k) ?_
  refine own_by (fun _ k => XS.iloadN X297.here hx rfl (hb hby d1_69) rfl k) ?_
  refine own_by (fun _ k => XS.iloadN X297.here hx rfl (hb hby d1_70) rfl k) ?_
  show own_Go _ _ _ _ (T297.setTop (mkF m 71 #[.val (.ref au), .val (.int (4 : Int32)), .val (.int (0 : Int32))] [(.int (4 : Int32)), (.int (0 : Int32))]))
  refine own_by (fun _ k => XS.icmpNo X297.here hx rfl (hb hby d1_71) rfl (tlt (by decide)).2.1 k) ?_
  refine own_by (fun _ k => XS.aloadN X297.here hx rfl (hb hby d1_74) rfl rfl k) ?_
  show own_Go _ _ _ _ (T297.setTop (mkF m 75 #[.val (.ref au), .val (.int (4 : Int32)), .val (.int (0 : Int32))] [(.ref au)]))
  obtain ⟨T318, X318, e318, st318⟩ := getF X297 hx hZ hown (host := "") (Or.inl (hw _ (List.mem_of_getElem? (i := 34) rfl))) Via.refl e297 f304 (g := (mkF m 75 #[.val (.ref au), .val (.int (4 : Int32)), .val (.int (0 : Int32))] [(.ref au)])) rfl rfl (hb hby d1_75)
  refine own_by st318 ?_
  show own_Go _ _ _ _ (T318.setTop (mkF m 78 #[.val (.ref au), .val (.int (4 : Int32)), .val (.int (0 : Int32))] [(.ref b2)]))
  obtain ⟨T319, h319, X319, e319, E319, A319, D319, -, st319⟩ := newO X318 hx hZ hown (hw _ (List.mem_of_getElem? (i := 10) rfl)) (hw _ (List.mem_of_getElem? (i := 11) rfl)) (hw _ (List.mem_of_getElem? (i := 12) rfl)) e318 (g := (mkF m 78 #[.val (.ref au), .val (.int (4 : Int32)), .val (.int (0 : Int32))] [(.ref b2)])) rfl (hb hby d1_78) (by decide) (by decide)
  refine own_by st319 ?_
  show own_Go _ _ _ _ (T319.setTop (mkF m 81 #[.val (.ref au), .val (.int (4 : Int32)), .val (.int (0 : Int32))] [.ref h297.size, (.ref b2)]))
  obtain ⟨b319, g319⟩ : ∃ z, z = h297.size := ⟨_, rfl⟩
  rw [← g319] at A319 D319
  refine own_gen g319.symm (fun z_ => T319.setTop (mkF m 81 #[.val (.ref au), .val (.int (4 : Int32)), .val (.int (0 : Int32))] [.ref z_, (.ref b2)])) ?_
  have ne320 : au ≠ b319 := Nat.ne_of_lt (Nat.lt_of_lt_of_le f298.lt (Nat.le_of_eq g319.symm))
  have ne321 : dc ≠ b319 := Nat.ne_of_lt (Nat.lt_of_lt_of_le f301.lt (Nat.le_of_eq g319.symm))
  have ne322 : sa ≠ b319 := Nat.ne_of_lt (Nat.lt_of_lt_of_le f303.lt (Nat.le_of_eq g319.symm))
  have ne323 : b2 ≠ b319 := Nat.ne_of_lt (Nat.lt_of_lt_of_le f311.lt (Nat.le_of_eq g319.symm))
  have ne324 : b49 ≠ b319 := Nat.ne_of_lt (Nat.lt_of_lt_of_le f313.lb (Nat.le_of_eq g319.symm))
  have ne325 : wz70 ≠ b319 := Nat.ne_of_lt (Nat.lt_of_lt_of_le f313.lw (Nat.le_of_eq g319.symm))
  have ne326 : dz70 ≠ b319 := Nat.ne_of_lt (Nat.lt_of_lt_of_le f313.ld (Nat.le_of_eq g319.symm))
  have ne327 : b115 ≠ b319 := Nat.ne_of_lt (Nat.lt_of_lt_of_le f315.lb (Nat.le_of_eq g319.symm))
  have ne328 : wz141 ≠ b319 := Nat.ne_of_lt (Nat.lt_of_lt_of_le f315.lw (Nat.le_of_eq g319.symm))
  have ne329 : dz141 ≠ b319 := Nat.ne_of_lt (Nat.lt_of_lt_of_le f315.ld (Nat.le_of_eq g319.symm))
  have ne330 : b196 ≠ b319 := Nat.ne_of_lt (Nat.lt_of_lt_of_le f316.lt (Nat.le_of_eq g319.symm))
  have ne331 : b266 ≠ b319 := Nat.ne_of_lt (Nat.lt_of_lt_of_le f317.lt (Nat.le_of_eq g319.symm))
  have ge319 : n0 ≤ b319 := Nat.le_trans Z297 (Nat.le_of_eq g319.symm)
  have nw319 : h0.size ≤ b319 := Nat.le_trans f300.1 (Nat.le_of_eq g319.symm)
  have f332 := f299.ext E319
  have f333 := f300.ext E319
  have f334 := f301.ext E319
  have f335 := f302.ext E319
  have f336 := f303.ext E319
  have f337 := f304.ext E319
  have f338 := f305.ext E319
  have f339 := f306.ext E319
  have f340 := f307.ext E319
  have f341 := f298.ext E319
  have f342 := f308.ext E319
  have f343 := f309.ext E319
  have f344 := f310.ext E319
  have f345 := f311.ext E319
  have f346 := f312.ext E319
  have f347 := f313.ext E319
  have f348 := f314.ext E319
  have f349 := f315.ext E319
  have f350 := f316.ext E319
  have f351 := f317.ext E319
  have Z319 := Nat.le_trans Z297 E319.1
  have f352 : Fld Z h319 b319 "java/util/AbstractList" "modCount" "I" (.int (0 : Int32)) := D319 (Or.inl (hw _ (List.mem_of_getElem? (i := 30) rfl))) (ty := .int) (by decide)
  have f353 : Fld Z h319 b319 "java/util/ArrayList" "elementData" "[Ljava/lang/Object;" .null := D319 (Or.inl (hw _ (List.mem_of_getElem? (i := 33) rfl))) (ty := (.array (.object "java/lang/Object"))) (by decide)
  have f354 : Fld Z h319 b319 "java/util/ArrayList" "size" "I" (.int (0 : Int32)) := D319 (Or.inl (hw _ (List.mem_of_getElem? (i := 86) rfl))) (ty := .int) (by decide)
  show own_Go _ _ _ _ (T319.setTop (mkF m 81 #[.val (.ref au), .val (.int (4 : Int32)), .val (.int (0 : Int32))] [(.ref b319), (.ref b2)]))
  refine own_by (fun _ k => XS.dup X319.here hx rfl (hb hby d1_81) rfl rfl k) ?_
  show own_Go _ _ _ _ (T319.setTop (mkF m 82 #[.val (.ref au), .val (.int (4 : Int32)), .val (.int (0 : Int32))] [(.ref b319), (.ref b319), (.ref b2)]))
  refine own_callI X319 hx hZ hown rfl (hw _ (List.mem_of_getElem? (i := 13) rfl)) (hw _ (List.mem_of_getElem? (i := 14) rfl)) (hw _ (List.mem_of_getElem? (i := 12) rfl)) (hw _ (List.mem_of_getElem? (i := 15) rfl)) (by decide) (rm3 l Z a0 hw [] b319 dc h319 n0 Z319 A319 f352 f353 f354 ge319 f335) e319 (by rw [hml]; rfl) b319 [] [(.ref b319), (.ref b2)] rfl (lenOf own_pd2 rfl) rfl 2 (Nat.le_of_eq rfl) (by decide) (by decide) (Nat.le_of_ble_eq_true rfl) (Nat.le_of_ble_eq_true rfl) (hb hby d1_82) ?_
  intro T355 Lc355 v355 X355 hQ355
  obtain ⟨h355, e355⟩ : ∃ h, T355.heap = h := ⟨_, rfl⟩
  rw [e355] at hQ355
  obtain ⟨rfl, N355q, K355, PL355⟩ := hQ355
  have N355 := Fr.app N297 N355q
  have f356 := f332.keep K355
  have f357 := f333.trans K355 (allS (P := fun x => x ∈ [au] ∨ h0.size ≤ x) (Or.inr nw319) all0)
  have f358 := f334.keep K355 (ninS ne321 nin0)
  have f359 := own_sta_keep f335 K355 (nsS A319.nostat ns0)
  have f360 := f336.keep K355
  have f361 := f337.keep K355 (ninS ne320 nin0)
  have f362 := f338.keep K355 (ninS ne320 nin0)
  have f363 := f339.keep K355 (ninS ne320 nin0)
  have f364 := f340.keep K355 (ninS ne320 nin0)
  have f365 := f341.keep K355 (ninS ne320 nin0)
  have f366 := f342.keep K355
  have f367 := f343.keep K355 (ninS ne323 nin0)
  have f368 := f344.keep K355 (ninS ne323 nin0)
  have f369 := f345.keep K355 (ninS ne323 nin0)
  have f370 := f346.keep K355
  have f371 := f347.keep K355 (ninS ne324 nin0) (ninS ne325 nin0) (ninS ne326 nin0)
  have f372 := f348.keep K355
  have f373 := f349.keep K355 (ninS ne327 nin0) (ninS ne328 nin0) (ninS ne329 nin0)
  have f374 := f350.keep K355 (ninS ne330 nin0)
  have f375 := f351.keep K355 (ninS ne331 nin0)
  have f376 := A319.keep K355
  have Z355 := Nat.le_trans Z319 K355.1
  obtain ⟨-, FE355, FS355, FM355⟩ := PL355
  show own_Go _ _ _ _ (T355.setTop (mkF m 85 #[.val (.ref au), .val (.int (4 : Int32)), .val (.int (0 : Int32))] [(.ref b319), (.ref b2)]))
  refine own_callF X355 hx hZ hown (hw _ (List.mem_of_getElem? (i := 74) rfl)) (hw _ (List.mem_of_getElem? (i := 75) rfl)) (hw _ (List.mem_of_getElem? (i := 76) rfl)) (hw _ (List.mem_of_getElem? (i := 77) rfl)) (hw _ (List.mem_of_getElem? (i := 78) rfl)) (hw _ (List.mem_of_getElem? (i := 79) rfl)) (hw _ (List.mem_of_getElem? (i := 80) rfl)) (hw _ (List.mem_of_getElem? (i := 81) rfl)) (hw _ (List.mem_of_getElem? (i := 12) rfl)) (hw _ (List.mem_of_getElem? (i := 82) rfl)) (by decide) rfl (rm10_e l Z a0 hw [] b2 b319 dc (0 : Int32) fd h355 n0 Z355 ⟨f366, f368, f369, f367⟩ f358 f359 ge2 Pdc f376) e355 b2 f366 (by rw [hml]; rfl) [(.ref b319)] [] rfl (lenOf own_pd6 rfl) rfl 0 (Nat.le_of_eq rfl) (by decide) (by decide) (Nat.le_of_ble_eq_true rfl) (Nat.le_of_ble_eq_true rfl) (hb hby d1_85) ?_
  intro T380 Lc380 v380 X380 hQ380
  obtain ⟨h380, e380⟩ : ∃ h, T380.heap = h := ⟨_, rfl⟩
  rw [e380] at hQ380
  obtain ⟨rfl, N380q, K380, ed380, fz380, mz380, nw380, AB380, PL380⟩ := hQ380
  have N380 := Fr.app N355 N380q
  have f381 := f356.keep K380
  have f382 := f357.trans K380 (allS (P := fun x => x ∈ [au] ∨ h0.size ≤ x) (Or.inr nw2) all0)
  have f383 := f358.keep K380 (ninS ne4 nin0)
  have f384 := own_sta_keep f359 K380 (nsS f366.nostat ns0)
  have f385 := f360.keep K380
  have f386 := f361.keep K380 (ninS ne3 nin0)
  have f387 := f362.keep K380 (ninS ne3 nin0)
  have f388 := f363.keep K380 (ninS ne3 nin0)
  have f389 := f364.keep K380 (ninS ne3 nin0)
  have f390 := f365.keep K380 (ninS ne3 nin0)
  have f391 := f366.keep K380
  have f395 := f370.keep K380
  have f396 := f371.keep K380 (ninS (Ne.symm ne53) nin0) (ninS (Ne.symm ne91) nin0) (ninS (Ne.symm ne96) nin0)
  have f397 := f372.keep K380
  have f398 := f373.keep K380 (ninS (Ne.symm ne119) nin0) (ninS (Ne.symm ne164) nin0) (ninS (Ne.symm ne172) nin0)
  have f399 := f374.keep K380 (ninS (Ne.symm ne200) nin0)
  have f400 := f375.keep K380 (ninS (Ne.symm ne270) nin0)
  have f401 := f376.keep K380
  have f402 := FM355.keep K380 (ninS (Ne.symm ne323) nin0)
  have f403 := FE355.keep K380 (ninS (Ne.symm ne323) nin0)
  have f404 := FS355.keep K380 (ninS (Ne.symm ne323) nin0)
  have Z380 := Nat.le_trans Z355 K380.1
  have ne405 : au ≠ ed380 := Nat.ne_of_lt (Nat.lt_of_lt_of_le f365.lt nw380)
  have ne406 : dc ≠ ed380 := Nat.ne_of_lt (Nat.lt_of_lt_of_le f358.lt nw380)
  have ne407 : sa ≠ ed380 := Nat.ne_of_lt (Nat.lt_of_lt_of_le f360.lt nw380)
  have ne408 : b2 ≠ ed380 := Nat.ne_of_lt (Nat.lt_of_lt_of_le f369.lt nw380)
  have ne409 : b49 ≠ ed380 := Nat.ne_of_lt (Nat.lt_of_lt_of_le f371.lb nw380)
  have ne410 : wz70 ≠ ed380 := Nat.ne_of_lt (Nat.lt_of_lt_of_le f371.lw nw380)
  have ne411 : dz70 ≠ ed380 := Nat.ne_of_lt (Nat.lt_of_lt_of_le f371.ld nw380)
  have ne412 : b115 ≠ ed380 := Nat.ne_of_lt (Nat.lt_of_lt_of_le f373.lb nw380)
  have ne413 : wz141 ≠ ed380 := Nat.ne_of_lt (Nat.lt_of_lt_of_le f373.lw nw380)
  have ne414 : dz141 ≠ ed380 := Nat.ne_of_lt (Nat.lt_of_lt_of_le f373.ld nw380)
  have ne415 : b196 ≠ ed380 := Nat.ne_of_lt (Nat.lt_of_lt_of_le f374.lt nw380)
  have ne416 : b266 ≠ ed380 := Nat.ne_of_lt (Nat.lt_of_lt_of_le f375.lt nw380)
  have ne417 : b319 ≠ ed380 := Nat.ne_of_lt (Nat.lt_of_lt_of_le FS355.lt nw380)
  have ge380 : n0 ≤ ed380 := Nat.le_trans Z355 nw380
  have nk380 : h0.size ≤ ed380 := Nat.le_trans f357.1 nw380
  obtain ⟨-, FE380, FS380, FM380⟩ := PL380
  show own_Go _ _ _ _ (T380.setTop (mkF m 90 #[.val (.ref au), .val (.int (4 : Int32)), .val (.int (0 : Int32))] [(.int (1 : Int32))]))
  refine own_by (fun _ k => XS.pop X380.here hx rfl (hb hby d1_90) rfl rfl k) ?_
  show own_Go _ _ _ _ (T380.setTop (mkF m 91 #[.val (.ref au), .val (.int (4 : Int32)), .val (.int (0 : Int32))] []))
  refine own_by (fun _ k => XS.iinc X380.here hx rfl (hb hby d1_91) rfl (l' := #[.val (.ref au), .val (.int (4 : Int32)), .val (.int ((0 : Int32) + (1 : Int32)))]) rfl k) ?_
  show own_Go _ _ _ _ (T380.setTop (mkF m 94 #[.val (.ref au), .val (.int (4 : Int32)), .val (.int ((0 : Int32) + (1 : Int32)))] []))
  rw [(by decide : ((0 : Int32) + (1 : Int32)) = (1 : Int32))]
  show own_Go _ _ _ _ (T380.setTop (mkF m 94 #[.val (.ref au), .val (.int (4 : Int32)), .val (.int (1 : Int32))] []))
  refine own_by (fun _ k => XS.goto X380.here hx rfl (pc0 := 94) (pc' := 69) rfl (hb hby d1_94) (by decide) (by decide) k) ?_
  refine own_by (fun _ k => XS.iloadN X380.here hx rfl (hb hby d1_69) rfl k) ?_
  refine own_by (fun _ k => XS.iloadN X380.here hx rfl (hb hby d1_70) rfl k) ?_
  show own_Go _ _ _ _ (T380.setTop (mkF m 71 #[.val (.ref au), .val (.int (4 : Int32)), .val (.int (1 : Int32))] [(.int (4 : Int32)), (.int (1 : Int32))]))
  refine own_by (fun _ k => XS.icmpNo X380.here hx rfl (hb hby d1_71) rfl (tlt (by decide)).2.1 k) ?_
  refine own_by (fun _ k => XS.aloadN X380.here hx rfl (hb hby d1_74) rfl rfl k) ?_
  show own_Go _ _ _ _ (T380.setTop (mkF m 75 #[.val (.ref au), .val (.int (4 : Int32)), .val (.int (1 : Int32))] [(.ref au)]))
  obtain ⟨T418, X418, e418, st418⟩ := getF X380 hx hZ hown (host := "") (Or.inl (hw _ (List.mem_of_getElem? (i := 34) rfl))) Via.refl e380 f386 (g := (mkF m 75 #[.val (.ref au), .val (.int (4 : Int32)), .val (.int (1 : Int32))] [(.ref au)])) rfl rfl (hb hby d1_75)
  refine own_by st418 ?_
  show own_Go _ _ _ _ (T418.setTop (mkF m 78 #[.val (.ref au), .val (.int (4 : Int32)), .val (.int (1 : Int32))] [(.ref b2)]))
  obtain ⟨T419, h419, X419, e419, E419, A419, D419, -, st419⟩ := newO X418 hx hZ hown (hw _ (List.mem_of_getElem? (i := 10) rfl)) (hw _ (List.mem_of_getElem? (i := 11) rfl)) (hw _ (List.mem_of_getElem? (i := 12) rfl)) e418 (g := (mkF m 78 #[.val (.ref au), .val (.int (4 : Int32)), .val (.int (1 : Int32))] [(.ref b2)])) rfl (hb hby d1_78) (by decide) (by decide)
  refine own_by st419 ?_
  show own_Go _ _ _ _ (T419.setTop (mkF m 81 #[.val (.ref au), .val (.int (4 : Int32)), .val (.int (1 : Int32))] [.ref h380.size, (.ref b2)]))
  obtain ⟨b419, g419⟩ : ∃ z, z = h380.size := ⟨_, rfl⟩
  rw [← g419] at A419 D419
  refine own_gen g419.symm (fun z_ => T419.setTop (mkF m 81 #[.val (.ref au), .val (.int (4 : Int32)), .val (.int (1 : Int32))] [.ref z_, (.ref b2)])) ?_
  have ne420 : au ≠ b419 := Nat.ne_of_lt (Nat.lt_of_lt_of_le f390.lt (Nat.le_of_eq g419.symm))
  have ne421 : dc ≠ b419 := Nat.ne_of_lt (Nat.lt_of_lt_of_le f383.lt (Nat.le_of_eq g419.symm))
  have ne422 : sa ≠ b419 := Nat.ne_of_lt (Nat.lt_of_lt_of_le f385.lt (Nat.le_of_eq g419.symm))
  have ne423 : b2 ≠ b419 := Nat.ne_of_lt (Nat.lt_of_lt_of_le FS380.lt (Nat.le_of_eq g419.symm))
  have ne424 : b49 ≠ b419 := Nat.ne_of_lt (Nat.lt_of_lt_of_le f396.lb (Nat.le_of_eq g419.symm))
  have ne425 : wz70 ≠ b419 := Nat.ne_of_lt (Nat.lt_of_lt_of_le f396.lw (Nat.le_of_eq g419.symm))
  have ne426 : dz70 ≠ b419 := Nat.ne_of_lt (Nat.lt_of_lt_of_le f396.ld (Nat.le_of_eq g419.symm))
  have ne427 : b115 ≠ b419 := Nat.ne_of_lt (Nat.lt_of_lt_of_le f398.lb (Nat.le_of_eq g419.symm))
  have ne428 : wz141 ≠ b419 := Nat.ne_of_lt (Nat.lt_of_lt_of_le f398.lw (Nat.le_of_eq g419.symm))
  have ne429 : dz141 ≠ b419 := Nat.ne_of_lt (Nat.lt_of_lt_of_le f398.ld (Nat.le_of_eq g419.symm))
  have ne430 : b196 ≠ b419 := Nat.ne_of_lt (Nat.lt_of_lt_of_le f399.lt (Nat.le_of_eq g419.symm))
  have ne431 : b266 ≠ b419 := Nat.ne_of_lt (Nat.lt_of_lt_of_le f400.lt (Nat.le_of_eq g419.symm))
  have ne432 : ed380 ≠ b419 := Nat.ne_of_lt (Nat.lt_of_lt_of_le AB380.lt (Nat.le_of_eq g419.symm))
  have ge419 : n0 ≤ b419 := Nat.le_trans Z380 (Nat.le_of_eq g419.symm)
  have nw419 : h0.size ≤ b419 := Nat.le_trans f382.1 (Nat.le_of_eq g419.symm)
  have f433 := f381.ext E419
  have f434 := f382.ext E419
  have f435 := f383.ext E419
  have f436 := f384.ext E419
  have f437 := f385.ext E419
  have f438 := f386.ext E419
  have f439 := f387.ext E419
  have f440 := f388.ext E419
  have f441 := f389.ext E419
  have f442 := f390.ext E419
  have f443 := f391.ext E419
  have f444 := f395.ext E419
  have f445 := f396.ext E419
  have f446 := f397.ext E419
  have f447 := f398.ext E419
  have f448 := f399.ext E419
  have f449 := f400.ext E419
  have f450 := FM380.ext E419
  have f451 := FE380.ext E419
  have f452 := FS380.ext E419
  have f453 := AB380.ext E419
  have Z419 := Nat.le_trans Z380 E419.1
  have f454 : Fld Z h419 b419 "java/util/AbstractList" "modCount" "I" (.int (0 : Int32)) := D419 (Or.inl (hw _ (List.mem_of_getElem? (i := 30) rfl))) (ty := .int) (by decide)
  have f455 : Fld Z h419 b419 "java/util/ArrayList" "elementData" "[Ljava/lang/Object;" .null := D419 (Or.inl (hw _ (List.mem_of_getElem? (i := 33) rfl))) (ty := (.array (.object "java/lang/Object"))) (by decide)
  have f456 : Fld Z h419 b419 "java/util/ArrayList" "size" "I" (.int (0 : Int32)) := D419 (Or.inl (hw _ (List.mem_of_getElem? (i := 86) rfl))) (ty := .int) (by decide)
  show own_Go _ _ _ _ (T419.setTop (mkF m 81 #[.val (.ref au), .val (.int (4 : Int32)), .val (.int (1 : Int32))] [(.ref b419), (.ref b2)]))
  refine own_by (fun _ k => XS.dup X419.here hx rfl (hb hby d1_81) rfl rfl k) ?_
  show own_Go _ _ _ _ (T419.setTop (mkF m 82 #[.val (.ref au), .val (.int (4 : Int32)), .val (.int (1 : Int32))] [(.ref b419), (.ref b419), (.ref b2)]))
  refine own_callI X419 hx hZ hown rfl (hw _ (List.mem_of_getElem? (i := 13) rfl)) (hw _ (List.mem_of_getElem? (i := 14) rfl)) (hw _ (List.mem_of_getElem? (i := 12) rfl)) (hw _ (List.mem_of_getElem? (i := 15) rfl)) (by decide) (rm3 l Z a0 hw [] b419 dc h419 n0 Z419 A419 f454 f455 f456 ge419 f436) e419 (by rw [hml]; rfl) b419 [] [(.ref b419), (.ref b2)] rfl (lenOf own_pd2 rfl) rfl 2 (Nat.le_of_eq rfl) (by decide) (by decide) (Nat.le_of_ble_eq_true rfl) (Nat.le_of_ble_eq_true rfl) (hb hby d1_82) ?_
  intro T457 Lc457 v457 X457 hQ457
  obtain ⟨h457, e457⟩ : ∃ h, T457.heap = h := ⟨_, rfl⟩
  rw [e457] at hQ457
  obtain ⟨rfl, N457q, K457, PL457⟩ := hQ457
  have N457 := Fr.app N380 N457q
  have f458 := f433.keep K457
  have f459 := f434.trans K457 (allS (P := fun x => x ∈ [au] ∨ h0.size ≤ x) (Or.inr nw419) all0)
  have f460 := f435.keep K457 (ninS ne421 nin0)
  have f461 := own_sta_keep f436 K457 (nsS A419.nostat ns0)
  have f462 := f437.keep K457
  have f463 := f438.keep K457 (ninS ne420 nin0)
  have f464 := f439.keep K457 (ninS ne420 nin0)
  have f465 := f440.keep K457 (ninS ne420 nin0)
  have f466 := f441.keep K457 (ninS ne420 nin0)
  have f467 := f442.keep K457 (ninS ne420 nin0)
  have f468 := f443.keep K457
  have f469 := f444.keep K457
  have f470 := f445.keep K457 (ninS ne424 nin0) (ninS ne425 nin0) (ninS ne426 nin0)
  have f471 := f446.keep K457
  have f472 := f447.keep K457 (ninS ne427 nin0) (ninS ne428 nin0) (ninS ne429 nin0)
  have f473 := f448.keep K457 (ninS ne430 nin0)
  have f474 := f449.keep K457 (ninS ne431 nin0)
  have f475 := f450.keep K457 (ninS ne423 nin0)
  have f476 := f451.keep K457 (ninS ne423 nin0)
  have f477 := f452.keep K457 (ninS ne423 nin0)
  have f478 := f453.keep K457 (ninS ne432 nin0)
  have f479 := A419.keep K457
  have Z457 := Nat.le_trans Z419 K457.1
  obtain ⟨-, FE457, FS457, FM457⟩ := PL457
  show own_Go _ _ _ _ (T457.setTop (mkF m 85 #[.val (.ref au), .val (.int (4 : Int32)), .val (.int (1 : Int32))] [(.ref b419), (.ref b2)]))
  refine own_callF X457 hx hZ hown (hw _ (List.mem_of_getElem? (i := 74) rfl)) (hw _ (List.mem_of_getElem? (i := 75) rfl)) (hw _ (List.mem_of_getElem? (i := 76) rfl)) (hw _ (List.mem_of_getElem? (i := 77) rfl)) (hw _ (List.mem_of_getElem? (i := 78) rfl)) (hw _ (List.mem_of_getElem? (i := 79) rfl)) (hw _ (List.mem_of_getElem? (i := 80) rfl)) (hw _ (List.mem_of_getElem? (i := 81) rfl)) (hw _ (List.mem_of_getElem? (i := 12) rfl)) (hw _ (List.mem_of_getElem? (i := 82) rfl)) (by decide) rfl (rm10_r l Z a0 hw [] b2 b419 ed380 (1 : Int32) mz380 fz380 1 h457 n0 Z457 ⟨f468, f476, f477, f475⟩ f478 ge2 ge380 (Ne.symm ne408) (by decide) (by decide) f479) e457 b2 f468 (by rw [hml]; rfl) [(.ref b419)] [] rfl (lenOf own_pd6 rfl) rfl 0 (Nat.le_of_eq rfl) (by decide) (by decide) (Nat.le_of_ble_eq_true rfl) (Nat.le_of_ble_eq_true rfl) (hb hby d1_85) ?_
  intro T483 Lc483 v483 X483 hQ483
  obtain ⟨h483, e483⟩ : ∃ h, T483.heap = h := ⟨_, rfl⟩
  rw [e483] at hQ483
  obtain ⟨rfl, N483q, K483, fz483, mz483, AB483, PL483⟩ := hQ483
  have N483 := Fr.app N457 N483q
  have f484 := f458.keep K483
  have f485 := f459.trans K483 (allS (P := fun x => x ∈ [au] ∨ h0.size ≤ x) (Or.inr nw2) (allS (P := fun x => x ∈ [au] ∨ h0.size ≤ x) (Or.inr nk380) all0))
  have f486 := f460.keep K483 (ninS ne4 (ninS ne406 nin0))
  have f487 := own_sta_keep f461 K483 (nsS f468.nostat (nsS f478.nostat ns0))
  have f488 := f462.keep K483
  have f489 := f463.keep K483 (ninS ne3 (ninS ne405 nin0))
  have f490 := f464.keep K483 (ninS ne3 (ninS ne405 nin0))
  have f491 := f465.keep K483 (ninS ne3 (ninS ne405 nin0))
  have f492 := f466.keep K483 (ninS ne3 (ninS ne405 nin0))
  have f493 := f467.keep K483 (ninS ne3 (ninS ne405 nin0))
  have f494 := f468.keep K483
  have f495 := f469.keep K483
  have f496 := f470.keep K483 (ninS (Ne.symm ne53) (ninS ne409 nin0)) (ninS (Ne.symm ne91) (ninS ne410 nin0)) (ninS (Ne.symm ne96) (ninS ne411 nin0))
  have f497 := f471.keep K483
  have f498 := f472.keep K483 (ninS (Ne.symm ne119) (ninS ne412 nin0)) (ninS (Ne.symm ne164) (ninS ne413 nin0)) (ninS (Ne.symm ne172) (ninS ne414 nin0))
  have f499 := f473.keep K483 (ninS (Ne.symm ne200) (ninS ne415 nin0))
  have f500 := f474.keep K483 (ninS (Ne.symm ne270) (ninS ne416 nin0))
  have f505 := f479.keep K483
  have f506 := FM457.keep K483 (ninS (Ne.symm ne423) (ninS (Ne.symm ne432) nin0))
  have f507 := FE457.keep K483 (ninS (Ne.symm ne423) (ninS (Ne.symm ne432) nin0))
  have f508 := FS457.keep K483 (ninS (Ne.symm ne423) (ninS (Ne.symm ne432) nin0))
  have Z483 := Nat.le_trans Z457 K483.1
  obtain ⟨-, FE483, FS483, FM483⟩ := PL483
  rw [(by decide : ((1 : Int32) + 1) = (2 : Int32))] at FS483
  show own_Go _ _ _ _ (T483.setTop (mkF m 90 #[.val (.ref au), .val (.int (4 : Int32)), .val (.int (1 : Int32))] [(.int (1 : Int32))]))
  refine own_by (fun _ k => XS.pop X483.here hx rfl (hb hby d1_90) rfl rfl k) ?_
  show own_Go _ _ _ _ (T483.setTop (mkF m 91 #[.val (.ref au), .val (.int (4 : Int32)), .val (.int (1 : Int32))] []))
  refine own_by (fun _ k => XS.iinc X483.here hx rfl (hb hby d1_91) rfl (l' := #[.val (.ref au), .val (.int (4 : Int32)), .val (.int ((1 : Int32) + (1 : Int32)))]) rfl k) ?_
  show own_Go _ _ _ _ (T483.setTop (mkF m 94 #[.val (.ref au), .val (.int (4 : Int32)), .val (.int ((1 : Int32) + (1 : Int32)))] []))
  rw [(by decide : ((1 : Int32) + (1 : Int32)) = (2 : Int32))]
  show own_Go _ _ _ _ (T483.setTop (mkF m 94 #[.val (.ref au), .val (.int (4 : Int32)), .val (.int (2 : Int32))] []))
  refine own_by (fun _ k => XS.goto X483.here hx rfl (pc0 := 94) (pc' := 69) rfl (hb hby d1_94) (by decide) (by decide) k) ?_
  refine own_by (fun _ k => XS.iloadN X483.here hx rfl (hb hby d1_69) rfl k) ?_
  refine own_by (fun _ k => XS.iloadN X483.here hx rfl (hb hby d1_70) rfl k) ?_
  show own_Go _ _ _ _ (T483.setTop (mkF m 71 #[.val (.ref au), .val (.int (4 : Int32)), .val (.int (2 : Int32))] [(.int (4 : Int32)), (.int (2 : Int32))]))
  refine own_by (fun _ k => XS.icmpNo X483.here hx rfl (hb hby d1_71) rfl (tlt (by decide)).2.1 k) ?_
  refine own_by (fun _ k => XS.aloadN X483.here hx rfl (hb hby d1_74) rfl rfl k) ?_
  show own_Go _ _ _ _ (T483.setTop (mkF m 75 #[.val (.ref au), .val (.int (4 : Int32)), .val (.int (2 : Int32))] [(.ref au)]))
  obtain ⟨T509, X509, e509, st509⟩ := getF X483 hx hZ hown (host := "") (Or.inl (hw _ (List.mem_of_getElem? (i := 34) rfl))) Via.refl e483 f489 (g := (mkF m 75 #[.val (.ref au), .val (.int (4 : Int32)), .val (.int (2 : Int32))] [(.ref au)])) rfl rfl (hb hby d1_75)
  refine own_by st509 ?_
  show own_Go _ _ _ _ (T509.setTop (mkF m 78 #[.val (.ref au), .val (.int (4 : Int32)), .val (.int (2 : Int32))] [(.ref b2)]))
  obtain ⟨T510, h510, X510, e510, E510, A510, D510, -, st510⟩ := newO X509 hx hZ hown (hw _ (List.mem_of_getElem? (i := 10) rfl)) (hw _ (List.mem_of_getElem? (i := 11) rfl)) (hw _ (List.mem_of_getElem? (i := 12) rfl)) e509 (g := (mkF m 78 #[.val (.ref au), .val (.int (4 : Int32)), .val (.int (2 : Int32))] [(.ref b2)])) rfl (hb hby d1_78) (by decide) (by decide)
  refine own_by st510 ?_
  show own_Go _ _ _ _ (T510.setTop (mkF m 81 #[.val (.ref au), .val (.int (4 : Int32)), .val (.int (2 : Int32))] [.ref h483.size, (.ref b2)]))
  obtain ⟨b510, g510⟩ : ∃ z, z = h483.size := ⟨_, rfl⟩
  rw [← g510] at A510 D510
  refine own_gen g510.symm (fun z_ => T510.setTop (mkF m 81 #[.val (.ref au), .val (.int (4 : Int32)), .val (.int (2 : Int32))] [.ref z_, (.ref b2)])) ?_
  have ne511 : au ≠ b510 := Nat.ne_of_lt (Nat.lt_of_lt_of_le f493.lt (Nat.le_of_eq g510.symm))
  have ne512 : dc ≠ b510 := Nat.ne_of_lt (Nat.lt_of_lt_of_le f486.lt (Nat.le_of_eq g510.symm))
  have ne513 : sa ≠ b510 := Nat.ne_of_lt (Nat.lt_of_lt_of_le f488.lt (Nat.le_of_eq g510.symm))
  have ne514 : b2 ≠ b510 := Nat.ne_of_lt (Nat.lt_of_lt_of_le FS483.lt (Nat.le_of_eq g510.symm))
  have ne515 : b49 ≠ b510 := Nat.ne_of_lt (Nat.lt_of_lt_of_le f496.lb (Nat.le_of_eq g510.symm))
  have ne516 : wz70 ≠ b510 := Nat.ne_of_lt (Nat.lt_of_lt_of_le f496.lw (Nat.le_of_eq g510.symm))
  have ne517 : dz70 ≠ b510 := Nat.ne_of_lt (Nat.lt_of_lt_of_le f496.ld (Nat.le_of_eq g510.symm))
  have ne518 : b115 ≠ b510 := Nat.ne_of_lt (Nat.lt_of_lt_of_le f498.lb (Nat.le_of_eq g510.symm))
  have ne519 : wz141 ≠ b510 := Nat.ne_of_lt (Nat.lt_of_lt_of_le f498.lw (Nat.le_of_eq g510.symm))
  have ne520 : dz141 ≠ b510 := Nat.ne_of_lt (Nat.lt_of_lt_of_le f498.ld (Nat.le_of_eq g510.symm))
  have ne521 : b196 ≠ b510 := Nat.ne_of_lt (Nat.lt_of_lt_of_le f499.lt (Nat.le_of_eq g510.symm))
  have ne522 : b266 ≠ b510 := Nat.ne_of_lt (Nat.lt_of_lt_of_le f500.lt (Nat.le_of_eq g510.symm))
  have ne523 : ed380 ≠ b510 := Nat.ne_of_lt (Nat.lt_of_lt_of_le AB483.lt (Nat.le_of_eq g510.symm))
  have ge510 : n0 ≤ b510 := Nat.le_trans Z483 (Nat.le_of_eq g510.symm)
  have nw510 : h0.size ≤ b510 := Nat.le_trans f485.1 (Nat.le_of_eq g510.symm)
  have f524 := f484.ext E510
  have f525 := f485.ext E510
  have f526 := f486.ext E510
  have f527 := f487.ext E510
  have f528 := f488.ext E510
  have f529 := f489.ext E510
  have f530 := f490.ext E510
  have f531 := f491.ext E510
  have f532 := f492.ext E510
  have f533 := f493.ext E510
  have f534 := f494.ext E510
  have f535 := f495.ext E510
  have f536 := f496.ext E510
  have f537 := f497.ext E510
  have f538 := f498.ext E510
  have f539 := f499.ext E510
  have f540 := f500.ext E510
  have f541 := FM483.ext E510
  have f542 := FE483.ext E510
  have f543 := FS483.ext E510
  have f544 := AB483.ext E510
  have Z510 := Nat.le_trans Z483 E510.1
  have f545 : Fld Z h510 b510 "java/util/AbstractList" "modCount" "I" (.int (0 : Int32)) := D510 (Or.inl (hw _ (List.mem_of_getElem? (i := 30) rfl))) (ty := .int) (by decide)
  have f546 : Fld Z h510 b510 "java/util/ArrayList" "elementData" "[Ljava/lang/Object;" .null := D510 (Or.inl (hw _ (List.mem_of_getElem? (i := 33) rfl))) (ty := (.array (.object "java/lang/Object"))) (by decide)
  have f547 : Fld Z h510 b510 "java/util/ArrayList" "size" "I" (.int (0 : Int32)) := D510 (Or.inl (hw _ (List.mem_of_getElem? (i := 86) rfl))) (ty := .int) (by decide)
  show own_Go _ _ _ _ (T510.setTop (mkF m 81 #[.val (.ref au), .val (.int (4 : Int32)), .val (.int (2 : Int32))] [(.ref b510), (.ref b2)]))
  refine own_by (fun _ k => XS.dup X510.here hx rfl (hb hby d1_81) rfl rfl k) ?_
  show own_Go _ _ _ _ (T510.setTop (mkF m 82 #[.val (.ref au), .val (.int (4 : Int32)), .val (.int (2 : Int32))] [(.ref b510), (.ref b510), (.ref b2)]))
  refine own_callI X510 hx hZ hown rfl (hw _ (List.mem_of_getElem? (i := 13) rfl)) (hw _ (List.mem_of_getElem? (i := 14) rfl)) (hw _ (List.mem_of_getElem? (i := 12) rfl)) (hw _ (List.mem_of_getElem? (i := 15) rfl)) (by decide) (rm3 l Z a0 hw [] b510 dc h510 n0 Z510 A510 f545 f546 f547 ge510 f527) e510 (by rw [hml]; rfl) b510 [] [(.ref b510), (.ref b2)] rfl (lenOf own_pd2 rfl) rfl 2 (Nat.le_of_eq rfl) (by decide) (by decide) (Nat.le_of_ble_eq_true rfl) (Nat.le_of_ble_eq_true rfl) (hb hby d1_82) ?_
  intro T548 Lc548 v548 X548 hQ548
  obtain ⟨h548, e548⟩ : ∃ h, T548.heap = h := ⟨_, rfl⟩
  rw [e548] at hQ548
  obtain ⟨rfl, N548q, K548, PL548⟩ := hQ548
  have N548 := Fr.app N483 N548q
  have f549 := f524.keep K548
  have f550 := f525.trans K548 (allS (P := fun x => x ∈ [au] ∨ h0.size ≤ x) (Or.inr nw510) all0)
  have f551 := f526.keep K548 (ninS ne512 nin0)
  have f552 := own_sta_keep f527 K548 (nsS A510.nostat ns0)
  have f553 := f528.keep K548
  have f554 := f529.keep K548 (ninS ne511 nin0)
  have f555 := f530.keep K548 (ninS ne511 nin0)
  have f556 := f531.keep K548 (ninS ne511 nin0)
  have f557 := f532.keep K548 (ninS ne511 nin0)
  have f558 := f533.keep K548 (ninS ne511 nin0)
  have f559 := f534.keep K548
  have f560 := f535.keep K548
  have f561 := f536.keep K548 (ninS ne515 nin0) (ninS ne516 nin0) (ninS ne517 nin0)
  have f562 := f537.keep K548
  have f563 := f538.keep K548 (ninS ne518 nin0) (ninS ne519 nin0) (ninS ne520 nin0)
  have f564 := f539.keep K548 (ninS ne521 nin0)
  have f565 := f540.keep K548 (ninS ne522 nin0)
  have f566 := f541.keep K548 (ninS ne514 nin0)
  have f567 := f542.keep K548 (ninS ne514 nin0)
  have f568 := f543.keep K548 (ninS ne514 nin0)
  have f569 := f544.keep K548 (ninS ne523 nin0)
  have f570 := A510.keep K548
  have Z548 := Nat.le_trans Z510 K548.1
  obtain ⟨-, FE548, FS548, FM548⟩ := PL548
  show own_Go _ _ _ _ (T548.setTop (mkF m 85 #[.val (.ref au), .val (.int (4 : Int32)), .val (.int (2 : Int32))] [(.ref b510), (.ref b2)]))
  refine own_callF X548 hx hZ hown (hw _ (List.mem_of_getElem? (i := 74) rfl)) (hw _ (List.mem_of_getElem? (i := 75) rfl)) (hw _ (List.mem_of_getElem? (i := 76) rfl)) (hw _ (List.mem_of_getElem? (i := 77) rfl)) (hw _ (List.mem_of_getElem? (i := 78) rfl)) (hw _ (List.mem_of_getElem? (i := 79) rfl)) (hw _ (List.mem_of_getElem? (i := 80) rfl)) (hw _ (List.mem_of_getElem? (i := 81) rfl)) (hw _ (List.mem_of_getElem? (i := 12) rfl)) (hw _ (List.mem_of_getElem? (i := 82) rfl)) (by decide) rfl (rm10_r l Z a0 hw [] b2 b510 ed380 (2 : Int32) mz483 fz483 2 h548 n0 Z548 ⟨f559, f567, f568, f566⟩ f569 ge2 ge380 (Ne.symm ne408) (by decide) (by decide) f570) e548 b2 f559 (by rw [hml]; rfl) [(.ref b510)] [] rfl (lenOf own_pd6 rfl) rfl 0 (Nat.le_of_eq rfl) (by decide) (by decide) (Nat.le_of_ble_eq_true rfl) (Nat.le_of_ble_eq_true rfl) (hb hby d1_85) ?_
  intro T574 Lc574 v574 X574 hQ574
  obtain ⟨h574, e574⟩ : ∃ h, T574.heap = h := ⟨_, rfl⟩
  rw [e574] at hQ574
  obtain ⟨rfl, N574q, K574, fz574, mz574, AB574, PL574⟩ := hQ574
  have N574 := Fr.app N548 N574q
  have f575 := f549.keep K574
  have f576 := f550.trans K574 (allS (P := fun x => x ∈ [au] ∨ h0.size ≤ x) (Or.inr nw2) (allS (P := fun x => x ∈ [au] ∨ h0.size ≤ x) (Or.inr nk380) all0))
  have f577 := f551.keep K574 (ninS ne4 (ninS ne406 nin0))
  have f578 := own_sta_keep f552 K574 (nsS f559.nostat (nsS f569.nostat ns0))
  have f579 := f553.keep K574
  have f580 := f554.keep K574 (ninS ne3 (ninS ne405 nin0))
  have f581 := f555.keep K574 (ninS ne3 (ninS ne405 nin0))
  have f582 := f556.keep K574 (ninS ne3 (ninS ne405 nin0))
  have f583 := f557.keep K574 (ninS ne3 (ninS ne405 nin0))
  have f584 := f558.keep K574 (ninS ne3 (ninS ne405 nin0))
  have f585 := f559.keep K574
  have f586 := f560.keep K574
  have f587 := f561.keep K574 (ninS (Ne.symm ne53) (ninS ne409 nin0)) (ninS (Ne.symm ne91) (ninS ne410 nin0)) (ninS (Ne.symm ne96) (ninS ne411 nin0))
  have f588 := f562.keep K574
  have f589 := f563.keep K574 (ninS (Ne.symm ne119) (ninS ne412 nin0)) (ninS (Ne.symm ne164) (ninS ne413 nin0)) (ninS (Ne.symm ne172) (ninS ne414 nin0))
  have f590 := f564.keep K574 (ninS (Ne.symm ne200) (ninS ne415 nin0))
  have f591 := f565.keep K574 (ninS (Ne.symm ne270) (ninS ne416 nin0))
  have f596 := f570.keep K574
  have f597 := FM548.keep K574 (ninS (Ne.symm ne514) (ninS (Ne.symm ne523) nin0))
  have f598 := FE548.keep K574 (ninS (Ne.symm ne514) (ninS (Ne.symm ne523) nin0))
  have f599 := FS548.keep K574 (ninS (Ne.symm ne514) (ninS (Ne.symm ne523) nin0))
  have Z574 := Nat.le_trans Z548 K574.1
  obtain ⟨-, FE574, FS574, FM574⟩ := PL574
  rw [(by decide : ((2 : Int32) + 1) = (3 : Int32))] at FS574
  show own_Go _ _ _ _ (T574.setTop (mkF m 90 #[.val (.ref au), .val (.int (4 : Int32)), .val (.int (2 : Int32))] [(.int (1 : Int32))]))
  refine own_by (fun _ k => XS.pop X574.here hx rfl (hb hby d1_90) rfl rfl k) ?_
  show own_Go _ _ _ _ (T574.setTop (mkF m 91 #[.val (.ref au), .val (.int (4 : Int32)), .val (.int (2 : Int32))] []))
  refine own_by (fun _ k => XS.iinc X574.here hx rfl (hb hby d1_91) rfl (l' := #[.val (.ref au), .val (.int (4 : Int32)), .val (.int ((2 : Int32) + (1 : Int32)))]) rfl k) ?_
  show own_Go _ _ _ _ (T574.setTop (mkF m 94 #[.val (.ref au), .val (.int (4 : Int32)), .val (.int ((2 : Int32) + (1 : Int32)))] []))
  rw [(by decide : ((2 : Int32) + (1 : Int32)) = (3 : Int32))]
  show own_Go _ _ _ _ (T574.setTop (mkF m 94 #[.val (.ref au), .val (.int (4 : Int32)), .val (.int (3 : Int32))] []))
  refine own_by (fun _ k => XS.goto X574.here hx rfl (pc0 := 94) (pc' := 69) rfl (hb hby d1_94) (by decide) (by decide) k) ?_
  refine own_by (fun _ k => XS.iloadN X574.here hx rfl (hb hby d1_69) rfl k) ?_
  refine own_by (fun _ k => XS.iloadN X574.here hx rfl (hb hby d1_70) rfl k) ?_
  show own_Go _ _ _ _ (T574.setTop (mkF m 71 #[.val (.ref au), .val (.int (4 : Int32)), .val (.int (3 : Int32))] [(.int (4 : Int32)), (.int (3 : Int32))]))
  refine own_by (fun _ k => XS.icmpNo X574.here hx rfl (hb hby d1_71) rfl (tlt (by decide)).2.1 k) ?_
  refine own_by (fun _ k => XS.aloadN X574.here hx rfl (hb hby d1_74) rfl rfl k) ?_
  show own_Go _ _ _ _ (T574.setTop (mkF m 75 #[.val (.ref au), .val (.int (4 : Int32)), .val (.int (3 : Int32))] [(.ref au)]))
  obtain ⟨T600, X600, e600, st600⟩ := getF X574 hx hZ hown (host := "") (Or.inl (hw _ (List.mem_of_getElem? (i := 34) rfl))) Via.refl e574 f580 (g := (mkF m 75 #[.val (.ref au), .val (.int (4 : Int32)), .val (.int (3 : Int32))] [(.ref au)])) rfl rfl (hb hby d1_75)
  refine own_by st600 ?_
  show own_Go _ _ _ _ (T600.setTop (mkF m 78 #[.val (.ref au), .val (.int (4 : Int32)), .val (.int (3 : Int32))] [(.ref b2)]))
  obtain ⟨T601, h601, X601, e601, E601, A601, D601, -, st601⟩ := newO X600 hx hZ hown (hw _ (List.mem_of_getElem? (i := 10) rfl)) (hw _ (List.mem_of_getElem? (i := 11) rfl)) (hw _ (List.mem_of_getElem? (i := 12) rfl)) e600 (g := (mkF m 78 #[.val (.ref au), .val (.int (4 : Int32)), .val (.int (3 : Int32))] [(.ref b2)])) rfl (hb hby d1_78) (by decide) (by decide)
  refine own_by st601 ?_
  show own_Go _ _ _ _ (T601.setTop (mkF m 81 #[.val (.ref au), .val (.int (4 : Int32)), .val (.int (3 : Int32))] [.ref h574.size, (.ref b2)]))
  obtain ⟨b601, g601⟩ : ∃ z, z = h574.size := ⟨_, rfl⟩
  rw [← g601] at A601 D601
  refine own_gen g601.symm (fun z_ => T601.setTop (mkF m 81 #[.val (.ref au), .val (.int (4 : Int32)), .val (.int (3 : Int32))] [.ref z_, (.ref b2)])) ?_
  have ne602 : au ≠ b601 := Nat.ne_of_lt (Nat.lt_of_lt_of_le f584.lt (Nat.le_of_eq g601.symm))
  have ne603 : dc ≠ b601 := Nat.ne_of_lt (Nat.lt_of_lt_of_le f577.lt (Nat.le_of_eq g601.symm))
  have ne604 : sa ≠ b601 := Nat.ne_of_lt (Nat.lt_of_lt_of_le f579.lt (Nat.le_of_eq g601.symm))
  have ne605 : b2 ≠ b601 := Nat.ne_of_lt (Nat.lt_of_lt_of_le FS574.lt (Nat.le_of_eq g601.symm))
  have ne606 : b49 ≠ b601 := Nat.ne_of_lt (Nat.lt_of_lt_of_le f587.lb (Nat.le_of_eq g601.symm))
  have ne607 : wz70 ≠ b601 := Nat.ne_of_lt (Nat.lt_of_lt_of_le f587.lw (Nat.le_of_eq g601.symm))
  have ne608 : dz70 ≠ b601 := Nat.ne_of_lt (Nat.lt_of_lt_of_le f587.ld (Nat.le_of_eq g601.symm))
  have ne609 : b115 ≠ b601 := Nat.ne_of_lt (Nat.lt_of_lt_of_le f589.lb (Nat.le_of_eq g601.symm))
  have ne610 : wz141 ≠ b601 := Nat.ne_of_lt (Nat.lt_of_lt_of_le f589.lw (Nat.le_of_eq g601.symm))
  have ne611 : dz141 ≠ b601 := Nat.ne_of_lt (Nat.lt_of_lt_of_le f589.ld (Nat.le_of_eq g601.symm))
  have ne612 : b196 ≠ b601 := Nat.ne_of_lt (Nat.lt_of_lt_of_le f590.lt (Nat.le_of_eq g601.symm))
  have ne613 : b266 ≠ b601 := Nat.ne_of_lt (Nat.lt_of_lt_of_le f591.lt (Nat.le_of_eq g601.symm))
  have ne614 : ed380 ≠ b601 := Nat.ne_of_lt (Nat.lt_of_lt_of_le AB574.lt (Nat.le_of_eq g601.symm))
  have ge601 : n0 ≤ b601 := Nat.le_trans Z574 (Nat.le_of_eq g601.symm)
  have nw601 : h0.size ≤ b601 := Nat.le_trans f576.1 (Nat.le_of_eq g601.symm)
  have f615 := f575.ext E601
  have f616 := f576.ext E601
  have f617 := f577.ext E601
  have f618 := f578.ext E601
  have f619 := f579.ext E601
  have f620 := f580.ext E601
  have f621 := f581.ext E601
  have f622 := f582.ext E601
  have f623 := f583.ext E601
  have f624 := f584.ext E601
  have f625 := f585.ext E601
  have f626 := f586.ext E601
  have f627 := f587.ext E601
  have f628 := f588.ext E601
  have f629 := f589.ext E601
  have f630 := f590.ext E601
  have f631 := f591.ext E601
  have f632 := FM574.ext E601
  have f633 := FE574.ext E601
  have f634 := FS574.ext E601
  have f635 := AB574.ext E601
  have Z601 := Nat.le_trans Z574 E601.1
  have f636 : Fld Z h601 b601 "java/util/AbstractList" "modCount" "I" (.int (0 : Int32)) := D601 (Or.inl (hw _ (List.mem_of_getElem? (i := 30) rfl))) (ty := .int) (by decide)
  have f637 : Fld Z h601 b601 "java/util/ArrayList" "elementData" "[Ljava/lang/Object;" .null := D601 (Or.inl (hw _ (List.mem_of_getElem? (i := 33) rfl))) (ty := (.array (.object "java/lang/Object"))) (by decide)
  have f638 : Fld Z h601 b601 "java/util/ArrayList" "size" "I" (.int (0 : Int32)) := D601 (Or.inl (hw _ (List.mem_of_getElem? (i := 86) rfl))) (ty := .int) (by decide)
  show own_Go _ _ _ _ (T601.setTop (mkF m 81 #[.val (.ref au), .val (.int (4 : Int32)), .val (.int (3 : Int32))] [(.ref b601), (.ref b2)]))
  refine own_by (fun _ k => XS.dup X601.here hx rfl (hb hby d1_81) rfl rfl k) ?_
  show own_Go _ _ _ _ (T601.setTop (mkF m 82 #[.val (.ref au), .val (.int (4 : Int32)), .val (.int (3 : Int32))] [(.ref b601), (.ref b601), (.ref b2)]))
  refine own_callI X601 hx hZ hown rfl (hw _ (List.mem_of_getElem? (i := 13) rfl)) (hw _ (List.mem_of_getElem? (i := 14) rfl)) (hw _ (List.mem_of_getElem? (i := 12) rfl)) (hw _ (List.mem_of_getElem? (i := 15) rfl)) (by decide) (rm3 l Z a0 hw [] b601 dc h601 n0 Z601 A601 f636 f637 f638 ge601 f618) e601 (by rw [hml]; rfl) b601 [] [(.ref b601), (.ref b2)] rfl (lenOf own_pd2 rfl) rfl 2 (Nat.le_of_eq rfl) (by decide) (by decide) (Nat.le_of_ble_eq_true rfl) (Nat.le_of_ble_eq_true rfl) (hb hby d1_82) ?_
  intro T639 Lc639 v639 X639 hQ639
  obtain ⟨h639, e639⟩ : ∃ h, T639.heap = h := ⟨_, rfl⟩
  rw [e639] at hQ639
  obtain ⟨rfl, N639q, K639, PL639⟩ := hQ639
  have N639 := Fr.app N574 N639q
  have f640 := f615.keep K639
  have f641 := f616.trans K639 (allS (P := fun x => x ∈ [au] ∨ h0.size ≤ x) (Or.inr nw601) all0)
  have f642 := f617.keep K639 (ninS ne603 nin0)
  have f643 := own_sta_keep f618 K639 (nsS A601.nostat ns0)
  have f644 := f619.keep K639
  have f645 := f620.keep K639 (ninS ne602 nin0)
  have f646 := f621.keep K639 (ninS ne602 nin0)
  have f647 := f622.keep K639 (ninS ne602 nin0)
  have f648 := f623.keep K639 (ninS ne602 nin0)
  have f649 := f624.keep K639 (ninS ne602 nin0)
  have f650 := f625.keep K639
  have f651 := f626.keep K639
  have f652 := f627.keep K639 (ninS ne606 nin0) (ninS ne607 nin0) (ninS ne608 nin0)
  have f653 := f628.keep K639
  have f654 := f629.keep K639 (ninS ne609 nin0) (ninS ne610 nin0) (ninS ne611 nin0)
  have f655 := f630.keep K639 (ninS ne612 nin0)
  have f656 := f631.keep K639 (ninS ne613 nin0)
  have f657 := f632.keep K639 (ninS ne605 nin0)
  have f658 := f633.keep K639 (ninS ne605 nin0)
  have f659 := f634.keep K639 (ninS ne605 nin0)
  have f660 := f635.keep K639 (ninS ne614 nin0)
  have f661 := A601.keep K639
  have Z639 := Nat.le_trans Z601 K639.1
  obtain ⟨-, FE639, FS639, FM639⟩ := PL639
  show own_Go _ _ _ _ (T639.setTop (mkF m 85 #[.val (.ref au), .val (.int (4 : Int32)), .val (.int (3 : Int32))] [(.ref b601), (.ref b2)]))
  refine own_callF X639 hx hZ hown (hw _ (List.mem_of_getElem? (i := 74) rfl)) (hw _ (List.mem_of_getElem? (i := 75) rfl)) (hw _ (List.mem_of_getElem? (i := 76) rfl)) (hw _ (List.mem_of_getElem? (i := 77) rfl)) (hw _ (List.mem_of_getElem? (i := 78) rfl)) (hw _ (List.mem_of_getElem? (i := 79) rfl)) (hw _ (List.mem_of_getElem? (i := 80) rfl)) (hw _ (List.mem_of_getElem? (i := 81) rfl)) (hw _ (List.mem_of_getElem? (i := 12) rfl)) (hw _ (List.mem_of_getElem? (i := 82) rfl)) (by decide) rfl (rm10_r l Z a0 hw [] b2 b601 ed380 (3 : Int32) mz574 fz574 3 h639 n0 Z639 ⟨f650, f658, f659, f657⟩ f660 ge2 ge380 (Ne.symm ne408) (by decide) (by decide) f661) e639 b2 f650 (by rw [hml]; rfl) [(.ref b601)] [] rfl (lenOf own_pd6 rfl) rfl 0 (Nat.le_of_eq rfl) (by decide) (by decide) (Nat.le_of_ble_eq_true rfl) (Nat.le_of_ble_eq_true rfl) (hb hby d1_85) ?_
  intro T665 Lc665 v665 X665 hQ665
  obtain ⟨h665, e665⟩ : ∃ h, T665.heap = h := ⟨_, rfl⟩
  rw [e665] at hQ665
  obtain ⟨rfl, N665q, K665, fz665, mz665, AB665, PL665⟩ := hQ665
  have N665 := Fr.app N639 N665q
  have f666 := f640.keep K665
  have f667 := f641.trans K665 (allS (P := fun x => x ∈ [au] ∨ h0.size ≤ x) (Or.inr nw2) (allS (P := fun x => x ∈ [au] ∨ h0.size ≤ x) (Or.inr nk380) all0))
  have f668 := f642.keep K665 (ninS ne4 (ninS ne406 nin0))
  have f669 := own_sta_keep f643 K665 (nsS f650.nostat (nsS f660.nostat ns0))
  have f670 := f644.keep K665
  have f671 := f645.keep K665 (ninS ne3 (ninS ne405 nin0))
  have f672 := f646.keep K665 (ninS ne3 (ninS ne405 nin0))
  have f673 := f647.keep K665 (ninS ne3 (ninS ne405 nin0))
  have f674 := f648.keep K665 (ninS ne3 (ninS ne405 nin0))
  have f675 := f649.keep K665 (ninS ne3 (ninS ne405 nin0))
  have f676 := f650.keep K665
  have f677 := f651.keep K665
  have f678 := f652.keep K665 (ninS (Ne.symm ne53) (ninS ne409 nin0)) (ninS (Ne.symm ne91) (ninS ne410 nin0)) (ninS (Ne.symm ne96) (ninS ne411 nin0))
  have f679 := f653.keep K665
  have f680 := f654.keep K665 (ninS (Ne.symm ne119) (ninS ne412 nin0)) (ninS (Ne.symm ne164) (ninS ne413 nin0)) (ninS (Ne.symm ne172) (ninS ne414 nin0))
  have f681 := f655.keep K665 (ninS (Ne.symm ne200) (ninS ne415 nin0))
  have f682 := f656.keep K665 (ninS (Ne.symm ne270) (ninS ne416 nin0))
  have f687 := f661.keep K665
  have f688 := FM639.keep K665 (ninS (Ne.symm ne605) (ninS (Ne.symm ne614) nin0))
  have f689 := FE639.keep K665 (ninS (Ne.symm ne605) (ninS (Ne.symm ne614) nin0))
  have f690 := FS639.keep K665 (ninS (Ne.symm ne605) (ninS (Ne.symm ne614) nin0))
  have Z665 := Nat.le_trans Z639 K665.1
  obtain ⟨-, FE665, FS665, FM665⟩ := PL665
  rw [(by decide : ((3 : Int32) + 1) = (4 : Int32))] at FS665
  show own_Go _ _ _ _ (T665.setTop (mkF m 90 #[.val (.ref au), .val (.int (4 : Int32)), .val (.int (3 : Int32))] [(.int (1 : Int32))]))
  refine own_by (fun _ k => XS.pop X665.here hx rfl (hb hby d1_90) rfl rfl k) ?_
  show own_Go _ _ _ _ (T665.setTop (mkF m 91 #[.val (.ref au), .val (.int (4 : Int32)), .val (.int (3 : Int32))] []))
  refine own_by (fun _ k => XS.iinc X665.here hx rfl (hb hby d1_91) rfl (l' := #[.val (.ref au), .val (.int (4 : Int32)), .val (.int ((3 : Int32) + (1 : Int32)))]) rfl k) ?_
  show own_Go _ _ _ _ (T665.setTop (mkF m 94 #[.val (.ref au), .val (.int (4 : Int32)), .val (.int ((3 : Int32) + (1 : Int32)))] []))
  rw [(by decide : ((3 : Int32) + (1 : Int32)) = (4 : Int32))]
  show own_Go _ _ _ _ (T665.setTop (mkF m 94 #[.val (.ref au), .val (.int (4 : Int32)), .val (.int (4 : Int32))] []))
  refine own_by (fun _ k => XS.goto X665.here hx rfl (pc0 := 94) (pc' := 69) rfl (hb hby d1_94) (by decide) (by decide) k) ?_
  refine own_by (fun _ k => XS.iloadN X665.here hx rfl (hb hby d1_69) rfl k) ?_
  refine own_by (fun _ k => XS.iloadN X665.here hx rfl (hb hby d1_70) rfl k) ?_
  show own_Go _ _ _ _ (T665.setTop (mkF m 71 #[.val (.ref au), .val (.int (4 : Int32)), .val (.int (4 : Int32))] [(.int (4 : Int32)), (.int (4 : Int32))]))
  refine own_by (fun _ k => XS.icmpYes X665.here hx rfl (pc0 := 71) (pc' := 97) rfl (hb hby d1_71) rfl (flt (by decide)).2.1 (by decide) (by decide) k) ?_
  show own_Go _ _ _ _ (T665.setTop (mkF m 97 #[.val (.ref au), .val (.int (4 : Int32)), .val (.int (4 : Int32))] []))
  exact own_retV X665 hx Bd.notSynchronized e665 Bd.returns (hb hby d1_97) (⟨rfl, N665, f667, b196, b266, b115, wz141, dz141, b49, wz70, dz70, _, f666, f674, f675, f673, f672, f681, f682, f680, f678, (allS (P := fun x => h0.size ≤ x) nw196 (allS (P := fun x => h0.size ≤ x) nw266 (allS (P := fun x => h0.size ≤ x) nw115 (allS (P := fun x => h0.size ≤ x) nk_wz141 (allS (P := fun x => h0.size ≤ x) nk_dz141 (allS (P := fun x => h0.size ≤ x) nw49 (allS (P := fun x => h0.size ≤ x) nk_wz70 (allS (P := fun x => h0.size ≤ x) nk_dz70 all0)))))))), (allS (P := fun x => ∀ y ∈ [b49, wz70, dz70, b266], x ≠ y) (allS (P := fun y => b115 ≠ y) (Ne.symm ne120) (allS (P := fun y => b115 ≠ y) (Ne.symm ne121) (allS (P := fun y => b115 ≠ y) (Ne.symm ne122) (allS (P := fun y => b115 ≠ y) ne274 all0)))) (allS (P := fun x => ∀ y ∈ [b49, wz70, dz70, b266], x ≠ y) (allS (P := fun y => wz141 ≠ y) (Ne.symm ne165) (allS (P := fun y => wz141 ≠ y) (Ne.symm ne166) (allS (P := fun y => wz141 ≠ y) (Ne.symm ne167) (allS (P := fun y => wz141 ≠ y) ne275 all0)))) (allS (P := fun x => ∀ y ∈ [b49, wz70, dz70, b266], x ≠ y) (allS (P := fun y => dz141 ≠ y) (Ne.symm ne173) (allS (P := fun y => dz141 ≠ y) (Ne.symm ne174) (allS (P := fun y => dz141 ≠ y) (Ne.symm ne175) (allS (P := fun y => dz141 ≠ y) ne276 all0)))) all0))), (allS (P := fun x => ∀ y ∈ [b266], x ≠ y) (allS (P := fun y => b49 ≠ y) ne271 all0) (allS (P := fun x => ∀ y ∈ [b266], x ≠ y) (allS (P := fun y => wz70 ≠ y) ne272 all0) (allS (P := fun x => ∀ y ∈ [b266], x ≠ y) (allS (P := fun y => dz70 ≠ y) ne273 all0) all0))), (allS (P := fun x => ∀ y ∈ [b266, b49, wz70, dz70], x ≠ y) (allS (P := fun y => b196 ≠ y) ne277 (allS (P := fun y => b196 ≠ y) (Ne.symm ne201) (allS (P := fun y => b196 ≠ y) (Ne.symm ne202) (allS (P := fun y => b196 ≠ y) (Ne.symm ne203) all0)))) all0)⟩) (by decide) (by decide)
set_option maxHeartbeats 4000000 in
theorem rm1 (l : Launch) (Z : State) (a0 : Array Value) (hw : ∀ d ∈ tables_1, d.before a0 Z = true) (ws : List Jvm.Cond) (au : Addr) (p1 : Int32) (dc sa : Addr) (cK : ClassId) (fd : Nat → Value) (N : Nat) (h0 : Heap) (n0 : Nat) (Z0 : n0 ≤ h0.size) (PEu : Exa Z h0 au "com/example/sonde/sonde/engine/AnswerSets") (PF0 : Fld Z h0 au "com/example/sonde/sonde/engine/AnswerSets" "drawing" "Ljava/util/List;" .null) (PF1 : Fld Z h0 au "com/example/sonde/sonde/engine/AnswerSets" "deep" "Lcom/example/sonde/sonde/engine/Bits;" .null) (PF2 : Fld Z h0 au "com/example/sonde/sonde/engine/AnswerSets" "none" "Lcom/example/sonde/sonde/engine/Bits;" .null) (PF3 : Fld Z h0 au "com/example/sonde/sonde/engine/AnswerSets" "answering" "[Lcom/example/sonde/sonde/engine/Bits;" .null) (PF4 : Fld Z h0 au "com/example/sonde/sonde/engine/AnswerSets" "holding" "[Lcom/example/sonde/sonde/engine/Bits;" .null) (Pau : n0 ≤ au) (PC : own_Ar Z h0 dc (.object "java/lang/Object") 0 fd) (PS : Sta Z h0 "java/util/ArrayList" "DEFAULTCAPACITY_EMPTY_ELEMENTDATA" "[Ljava/lang/Object;" (.ref dc)) (Pdc : dc < n0) (PFn : own_Fn h0 sa cK) (PSt : own_Site Z (⟨"com/example/sonde/sonde/engine/AnswerSets", "<init>", "(I)V"⟩ : MethodName) 49 own_sg sa cK) (hN : p1.toInt = (N : Int)) (hN1 : 1 ≤ N) (hN4 : N ≤ 4) :
    MetFree l (⟨"com/example/sonde/sonde/engine/AnswerSets", "<init>", "(I)V"⟩ : MethodName) (head1 (Jvm.Cond.code (⟨"com/example/sonde/sonde/engine/AnswerSets", "<init>", "(I)V"⟩ : MethodName) prog_86_method_1_code 3 none :: ws) ({ frames := 5, cells := 26, slots := 80, locals := 3120 } : Room)) (fun a U => a = #[(.ref au), (.int p1)] ∧ Z.Warmed39 U.vm ∧ U.heap = h0 ∧ Z.WarmedH U.vm) (fun _ _ _ _ _ => True) (fun _ U o U' => ∃ vv LL, o = .returned vv ∧ own_ap (fun v h L => v = none ∧ Fr n0 L ∧ Keep h0 h [au] ∧ own_IN Z h0 h n0 au N) vv U'.heap LL ∧ FrameEnd U o U' LL 26 80) := by
  have e : p1 = N.toInt32 := own_ofNat hN
  have : N = 1 ∨ N = 2 ∨ N = 3 ∨ N = 4 := by omega
  rcases this with rfl | rfl | rfl | rfl <;> subst e
  · exact rm1_1 l Z a0 hw ws au dc sa cK fd h0 n0 Z0 PEu PF0 PF1 PF2 PF3 PF4 Pau PC PS Pdc PFn PSt
  · exact rm1_2 l Z a0 hw ws au dc sa cK fd h0 n0 Z0 PEu PF0 PF1 PF2 PF3 PF4 Pau PC PS Pdc PFn PSt
  · exact rm1_3 l Z a0 hw ws au dc sa cK fd h0 n0 Z0 PEu PF0 PF1 PF2 PF3 PF4 Pau PC PS Pdc PFn PSt
  · exact rm1_4 l Z a0 hw ws au dc sa cK fd h0 n0 Z0 PEu PF0 PF1 PF2 PF3 PF4 Pau PC PS Pdc PFn PSt
theorem own_geor {w b : Addr} {k0 k : Nat} (o : w = b ∨ k ≤ w) (h1 : k0 ≤ b) (h2 : k0 ≤ k) : k0 ≤ w := by rcases o with rfl | o; exact h1; exact Nat.le_trans h2 o
theorem own_B.bw {Z : State} {h : Heap} {n0 : Nat} {b w d : Addr} {S : Nat → Bool} (B : own_B Z h n0 b w d S) : b ≠ w := by obtain ⟨-, -, -, _, _, _, _, -, -, -, -, -, -, q, -⟩ := B; exact q
set_option maxRecDepth 65536 in
set_option maxHeartbeats 40000000 in
theorem rm15_n (l : Launch) (Z : State) (a0 : Array Value) (hw : ∀ d ∈ tables_1, d.before a0 Z = true) (ws : List Jvm.Cond) (au : Addr) (p1 : Int32) (p2 : Int32) (p3 : Int32) (an ho de dw dd : Addr) (N M : Nat) (zN : Int32) (fa F : Nat → Value) (SD : Nat → Bool) (x1 kx : Nat) (h0 : Heap) (n0 : Nat) (Z0 : n0 ≤ h0.size) (PEu : Exa Z h0 au "com/example/sonde/sonde/engine/AnswerSets") (PFa : Fld Z h0 au "com/example/sonde/sonde/engine/AnswerSets" "answering" "[Lcom/example/sonde/sonde/engine/Bits;" (.ref an)) (PFh : Fld Z h0 au "com/example/sonde/sonde/engine/AnswerSets" "holding" "[Lcom/example/sonde/sonde/engine/Bits;" (.ref ho)) (PFd : Fld Z h0 au "com/example/sonde/sonde/engine/AnswerSets" "deep" "Lcom/example/sonde/sonde/engine/Bits;" (.ref de)) (PAa : own_Ra Z h0 an "com/example/sonde/sonde/engine/Bits" N fa) (PAh : own_Ra Z h0 ho "com/example/sonde/sonde/engine/Bits" M F) (PBd : own_B Z h0 n0 de dw dd SD) (Pho : n0 ≤ ho) (Pdj : own_dj [de, dw, dd] [ho, au]) (Phu : ho ≠ au) (hx1 : p1.toInt = (x1 : Int)) (hx5 : x1 ≤ 127) (hzN : zN = N.toInt32) (hk : ((p2 * zN) + p3).toInt = (kx : Int)) (hkM : kx < M) (PF : F kx = .null) :
    MetFree l (⟨"com/example/sonde/sonde/engine/AnswerSets", "noteHolding", "(III)V"⟩ : MethodName) (head1 (Jvm.Cond.code (⟨"com/example/sonde/sonde/engine/AnswerSets", "noteHolding", "(III)V"⟩ : MethodName) prog_86_method_3_code 5 none :: ws) ({ frames := 4, cells := 7, slots := 10, locals := 112 } : Room)) (fun a U => a = #[(.ref au), (.int p1), (.int p2), (.int p3)] ∧ Z.Warmed39 U.vm ∧ U.heap = h0) (fun _ _ _ _ _ => True) (fun _ U o U' => ∃ vv LL, o = .returned vv ∧ own_ap (fun v h L => v = none ∧ Fr n0 L ∧ Keep h0 h [ho, de, dw, dd] ∧ ∃ b w2 d2 dw2 dd2 : Addr, own_B Z h n0 b w2 d2 (fun y => (fun _ => false) y || decide (y = x1)) ∧ own_B Z h n0 de dw2 dd2 (fun y => SD y || decide (y = x1)) ∧ own_Ra Z h ho "com/example/sonde/sonde/engine/Bits" M (own_upd F kx (.ref b)) ∧ (∀ x ∈ [b, w2, d2], h0.size ≤ x) ∧ own_dj [b, w2, d2] [de, dw2, dd2] ∧ (dw2 = dw ∨ h0.size ≤ dw2) ∧ (dd2 = dd ∨ h0.size ≤ dd2)) vv U'.heap LL ∧ FrameEnd U o U' LL 7 10) := by
  refine MetFree.of_bodySF (plainFor_of_name pn_15) hisR ?_
  intro p e s m args below meth c s₁ Bd hml0 hP hK
  obtain ⟨rfl, hZ, hh⟩ := hP
  have hx := Bd.exec
  have hby := Bd.bytes
  have hml : c.maxLocals = 5 := hml0
  have hown : s.vm.findClass "com/example/sonde/sonde/engine/AnswerSets" = some m.cls := findClass_of_methodNamed Bd.named
  have hnm := (name_of_methodNamed Bd.named Bd.method).1
  have X0 : Stand p l e ({ frames := 4, cells := 7, slots := 10, locals := 112 } : Room) s m #[(.ref au), (.int p1), (.int p2), (.int p3)] below meth c s₁ [] 0 0 := Stand.of_body Bd
  have e0 : s₁.heap = h0 := by rw [← hh, Bd.state]; rfl
  have N0 := Fr.nil n0
  show own_Go p.tables e below (own_Q s (fun v h L => v = none ∧ Fr n0 L ∧ Keep h0 h [ho, de, dw, dd] ∧ ∃ b w2 d2 dw2 dd2 : Addr, own_B Z h n0 b w2 d2 (fun y => (fun _ => false) y || decide (y = x1)) ∧ own_B Z h n0 de dw2 dd2 (fun y => SD y || decide (y = x1)) ∧ own_Ra Z h ho "com/example/sonde/sonde/engine/Bits" M (own_upd F kx (.ref b)) ∧ (∀ x ∈ [b, w2, d2], h0.size ≤ x) ∧ own_dj [b, w2, d2] [de, dw2, dd2] ∧ (dw2 = dw ∨ h0.size ≤ dw2) ∧ (dd2 = dd ∨ h0.size ≤ dd2)) 7 10) (s₁.setTop (entryFrame m #[(.ref au), (.int p1), (.int p2), (.int p3)] 5))
  rw [show entryFrame m #[(.ref au), (.int p1), (.int p2), (.int p3)] 5 = mkF m 0 #[.val (.ref au), .val (.int p1), .val (.int p2), .val (.int p3), .unset] [] from by first | (simp [entryFrame, mkF, argsToLocals, Value.category]; done) | rfl]
  show own_Go _ _ _ _ (s₁.setTop (mkF m 0 #[.val (.ref au), .val (.int p1), .val (.int p2), .val (.int p3), .unset] []))
  refine own_by (fun _ k => XS.iloadN X0.here hx rfl (hb hby d15_0) rfl k) ?_
  refine own_by (fun _ k => XS.aloadN X0.here hx rfl (hb hby d15_1) rfl rfl k) ?_
  show own_Go _ _ _ _ (s₁.setTop (mkF m 2 #[.val (.ref au), .val (.int p1), .val (.int p2), .val (.int p3), .unset] [(.ref au), (.int p2)]))
  obtain ⟨T1, X1, e1, st1⟩ := getF X0 hx hZ hown (host := "") (Or.inl (hw _ (List.mem_of_getElem? (i := 53) rfl))) Via.refl e0 PFa (g := (mkF m 2 #[.val (.ref au), .val (.int p1), .val (.int p2), .val (.int p3), .unset] [(.ref au), (.int p2)])) rfl rfl (hb hby d15_2)
  refine own_by st1 ?_
  show own_Go _ _ _ _ (T1.setTop (mkF m 5 #[.val (.ref au), .val (.int p1), .val (.int p2), .val (.int p3), .unset] [(.ref an), (.int p2)]))
  refine own_by (fun _ k => own_len X1 hx hZ e1 PAa.ar zN hzN (hb hby d15_5) k) ?_
  show own_Go _ _ _ _ (T1.setTop (mkF m 6 #[.val (.ref au), .val (.int p1), .val (.int p2), .val (.int p3), .unset] [(.int zN), (.int p2)]))
  refine own_by (fun _ k => XS.imul X1.here hx rfl (hb hby d15_6) rfl k) ?_
  refine own_by (fun _ k => XS.iloadN X1.here hx rfl (hb hby d15_7) rfl k) ?_
  show own_Go _ _ _ _ (T1.setTop (mkF m 8 #[.val (.ref au), .val (.int p1), .val (.int p2), .val (.int p3), .unset] [(.int p3), (.int (p2 * zN))]))
  refine own_by (fun _ k => XS.iadd X1.here hx rfl (hb hby d15_8) rfl k) ?_
  show own_Go _ _ _ _ (T1.setTop (mkF m 9 #[.val (.ref au), .val (.int p1), .val (.int p2), .val (.int p3), .unset] [(.int ((p2 * zN) + p3))]))
  obtain ⟨v4_2, hv4_2⟩ : ∃ z_ : Int32, ((p2 * zN) + p3) = z_ := ⟨_, rfl⟩
  refine own_gen hv4_2 (fun z_ => T1.setTop (mkF m 9 #[.val (.ref au), .val (.int p1), .val (.int p2), .val (.int p3), .unset] [(.int z_)])) ?_
  refine own_by (fun _ k => XS.istore X1.here hx rfl (hb hby d15_9) rfl (l' := #[.val (.ref au), .val (.int p1), .val (.int p2), .val (.int p3), .val (.int v4_2)]) rfl k) ?_
  refine own_by (fun _ k => XS.aloadN X1.here hx rfl (hb hby d15_11) rfl rfl k) ?_
  show own_Go _ _ _ _ (T1.setTop (mkF m 12 #[.val (.ref au), .val (.int p1), .val (.int p2), .val (.int p3), .val (.int v4_2)] [(.ref au)]))
  obtain ⟨T3, X3, e3, st3⟩ := getF X1 hx hZ hown (host := "") (Or.inl (hw _ (List.mem_of_getElem? (i := 72) rfl))) Via.refl e1 PFh (g := (mkF m 12 #[.val (.ref au), .val (.int p1), .val (.int p2), .val (.int p3), .val (.int v4_2)] [(.ref au)])) rfl rfl (hb hby d15_12)
  refine own_by st3 ?_
  refine own_by (fun _ k => XS.iload X3.here hx rfl (hb hby d15_15) rfl k) ?_
  show own_Go _ _ _ _ (T3.setTop (mkF m 17 #[.val (.ref au), .val (.int p1), .val (.int p2), .val (.int p3), .val (.int v4_2)] [(.int v4_2), (.ref ho)]))
  refine own_by (fun _ k => own_aal X3 hx hZ e3 PAh kx (hv4_2 ▸ hk) hkM (hb hby d15_17) k) ?_
  show own_Go _ _ _ _ (T3.setTop (mkF m 18 #[.val (.ref au), .val (.int p1), .val (.int p2), .val (.int p3), .val (.int v4_2)] [(F kx)]))
  refine own_gen PF (fun z_ => T3.setTop (mkF m 18 #[.val (.ref au), .val (.int p1), .val (.int p2), .val (.int p3), .val (.int v4_2)] [z_])) ?_
  show own_Go _ _ _ _ (T3.setTop (mkF m 18 #[.val (.ref au), .val (.int p1), .val (.int p2), .val (.int p3), .val (.int v4_2)] [.null]))
  refine own_by (fun _ k => XS.ifnonnullNo X3.here hx rfl (hb hby d15_18) rfl k) ?_
  refine own_by (fun _ k => XS.aloadN X3.here hx rfl (hb hby d15_21) rfl rfl k) ?_
  show own_Go _ _ _ _ (T3.setTop (mkF m 22 #[.val (.ref au), .val (.int p1), .val (.int p2), .val (.int p3), .val (.int v4_2)] [(.ref au)]))
  obtain ⟨T4, X4, e4, st4⟩ := getF X3 hx hZ hown (host := "") (Or.inl (hw _ (List.mem_of_getElem? (i := 72) rfl))) Via.refl e3 PFh (g := (mkF m 22 #[.val (.ref au), .val (.int p1), .val (.int p2), .val (.int p3), .val (.int v4_2)] [(.ref au)])) rfl rfl (hb hby d15_22)
  refine own_by st4 ?_
  refine own_by (fun _ k => XS.iload X4.here hx rfl (hb hby d15_25) rfl k) ?_
  show own_Go _ _ _ _ (T4.setTop (mkF m 27 #[.val (.ref au), .val (.int p1), .val (.int p2), .val (.int p3), .val (.int v4_2)] [(.int v4_2), (.ref ho)]))
  obtain ⟨T5, h5, X5, e5, E5, A5, D5, -, st5⟩ := newO X4 hx hZ hown (hw _ (List.mem_of_getElem? (i := 36) rfl)) (hw _ (List.mem_of_getElem? (i := 37) rfl)) (hw _ (List.mem_of_getElem? (i := 38) rfl)) e4 (g := (mkF m 27 #[.val (.ref au), .val (.int p1), .val (.int p2), .val (.int p3), .val (.int v4_2)] [(.int v4_2), (.ref ho)])) rfl (hb hby d15_27) (by decide) (by decide)
  refine own_by st5 ?_
  show own_Go _ _ _ _ (T5.setTop (mkF m 30 #[.val (.ref au), .val (.int p1), .val (.int p2), .val (.int p3), .val (.int v4_2)] [.ref h0.size, (.int v4_2), (.ref ho)]))
  obtain ⟨b5, g5⟩ : ∃ z, z = h0.size := ⟨_, rfl⟩
  rw [← g5] at A5 D5
  refine own_gen g5.symm (fun z_ => T5.setTop (mkF m 30 #[.val (.ref au), .val (.int p1), .val (.int p2), .val (.int p3), .val (.int v4_2)] [.ref z_, (.int v4_2), (.ref ho)])) ?_
  have ne6 : au ≠ b5 := Nat.ne_of_lt (Nat.lt_of_lt_of_le PFd.lt (Nat.le_of_eq g5.symm))
  have ne7 : de ≠ b5 := Nat.ne_of_lt (Nat.lt_of_lt_of_le PBd.lb (Nat.le_of_eq g5.symm))
  have ne8 : dw ≠ b5 := Nat.ne_of_lt (Nat.lt_of_lt_of_le PBd.lw (Nat.le_of_eq g5.symm))
  have ne9 : dd ≠ b5 := Nat.ne_of_lt (Nat.lt_of_lt_of_le PBd.ld (Nat.le_of_eq g5.symm))
  have ne10 : ho ≠ b5 := Nat.ne_of_lt (Nat.lt_of_lt_of_le PAh.lt (Nat.le_of_eq g5.symm))
  have ge5 : n0 ≤ b5 := Nat.le_trans Z0 (Nat.le_of_eq g5.symm)
  have nw5 : h0.size ≤ b5 := Nat.le_trans (Keep.refl h0 [ho, de, dw, dd]).1 (Nat.le_of_eq g5.symm)
  have f11 := PEu.ext E5
  have f12 := PBd.exa.ext E5
  have f13 := PBd.ext E5
  have f14 := PAh.ext E5
  have f15 := PFa.ext E5
  have f16 := PFh.ext E5
  have f17 := PFd.ext E5
  have f18 := (Keep.refl h0 [ho, de, dw, dd]).ext E5
  have Z5 := Nat.le_trans Z0 E5.1
  have f19 : Fld Z h5 b5 "com/example/sonde/sonde/engine/Bits" "words" "[J" .null := D5 (Or.inl (hw _ (List.mem_of_getElem? (i := 45) rfl))) (ty := (.array .long)) (by decide)
  have f20 : Fld Z h5 b5 "com/example/sonde/sonde/engine/Bits" "held" "[J" .null := D5 (Or.inl (hw _ (List.mem_of_getElem? (i := 47) rfl))) (ty := (.array .long)) (by decide)
  show own_Go _ _ _ _ (T5.setTop (mkF m 30 #[.val (.ref au), .val (.int p1), .val (.int p2), .val (.int p3), .val (.int v4_2)] [(.ref b5), (.int v4_2), (.ref ho)]))
  refine own_by (fun _ k => XS.dup X5.here hx rfl (hb hby d15_30) rfl rfl k) ?_
  show own_Go _ _ _ _ (T5.setTop (mkF m 31 #[.val (.ref au), .val (.int p1), .val (.int p2), .val (.int p3), .val (.int v4_2)] [(.ref b5), (.ref b5), (.int v4_2), (.ref ho)]))
  refine own_callI X5 hx hZ hown rfl (hw _ (List.mem_of_getElem? (i := 39) rfl)) (hw _ (List.mem_of_getElem? (i := 40) rfl)) (hw _ (List.mem_of_getElem? (i := 38) rfl)) (hw _ (List.mem_of_getElem? (i := 41) rfl)) (by decide) (rm6 l Z a0 hw [] b5 h5 n0 Z5 A5 f19 f20 ge5) e5 (by rw [hml]; rfl) b5 [] [(.ref b5), (.int v4_2), (.ref ho)] rfl (lenOf own_pd2 rfl) rfl 3 (Nat.le_of_eq rfl) (by decide) (by decide) (Nat.le_of_ble_eq_true rfl) (Nat.le_of_ble_eq_true rfl) (hb hby d15_31) ?_
  intro T21 Lc21 v21 X21 hQ21
  obtain ⟨h21, e21⟩ : ∃ h, T21.heap = h := ⟨_, rfl⟩
  rw [e21] at hQ21
  obtain ⟨rfl, N21q, K21, wz21, dz21, B21, nww21, nwd21⟩ := hQ21
  have N21 := Fr.app N0 N21q
  have f22 := f11.keep K21
  have f23 := f12.keep K21
  have f24 := f13.keep K21 (ninS ne7 nin0) (ninS ne8 nin0) (ninS ne9 nin0)
  have f25 := f14.keep K21 (ninS ne10 nin0)
  have f26 := f15.keep K21 (ninS ne6 nin0)
  have f27 := f16.keep K21 (ninS ne6 nin0)
  have f28 := f17.keep K21 (ninS ne6 nin0)
  have f29 := f18.trans K21 (allS (P := fun x => x ∈ [ho, de, dw, dd] ∨ h0.size ≤ x) (Or.inr nw5) all0)
  have f30 := A5.keep K21
  have Z21 := Nat.le_trans Z5 K21.1
  have ne33 : au ≠ wz21 := Nat.ne_of_lt (Nat.lt_of_lt_of_le f17.lt nww21)
  have ne34 : de ≠ wz21 := Nat.ne_of_lt (Nat.lt_of_lt_of_le f13.lb nww21)
  have ne35 : dw ≠ wz21 := Nat.ne_of_lt (Nat.lt_of_lt_of_le f13.lw nww21)
  have ne36 : dd ≠ wz21 := Nat.ne_of_lt (Nat.lt_of_lt_of_le f13.ld nww21)
  have ne37 : ho ≠ wz21 := Nat.ne_of_lt (Nat.lt_of_lt_of_le f14.lt nww21)
  have ne38 : b5 ≠ wz21 := Nat.ne_of_lt (Nat.lt_of_lt_of_le f20.lt nww21)
  have nk_wz21 : h0.size ≤ wz21 := Nat.le_trans f18.1 nww21
  have ne39 : au ≠ dz21 := Nat.ne_of_lt (Nat.lt_of_lt_of_le f17.lt nwd21)
  have ne40 : de ≠ dz21 := Nat.ne_of_lt (Nat.lt_of_lt_of_le f13.lb nwd21)
  have ne41 : dw ≠ dz21 := Nat.ne_of_lt (Nat.lt_of_lt_of_le f13.lw nwd21)
  have ne42 : dd ≠ dz21 := Nat.ne_of_lt (Nat.lt_of_lt_of_le f13.ld nwd21)
  have ne43 : ho ≠ dz21 := Nat.ne_of_lt (Nat.lt_of_lt_of_le f14.lt nwd21)
  have ne44 : b5 ≠ dz21 := Nat.ne_of_lt (Nat.lt_of_lt_of_le f20.lt nwd21)
  have nk_dz21 : h0.size ≤ dz21 := Nat.le_trans f18.1 nwd21
  have neb21 : b5 ≠ wz21 := by obtain ⟨-, -, -, _, _, _, _, -, -, -, -, -, -, q, -⟩ := B21; exact q
  show own_Go _ _ _ _ (T21.setTop (mkF m 34 #[.val (.ref au), .val (.int p1), .val (.int p2), .val (.int p3), .val (.int v4_2)] [(.ref b5), (.int v4_2), (.ref ho)]))
  refine own_aas X21 hx hZ e21 f25 (Ins.self f30) kx (hv4_2 ▸ hk) hkM (hb hby d15_34) ?_
  intro T45 h45 X45 e45 W45 A45
  have f46 := f22.wr W45
  have f47 := f23.wr W45
  have f48 := f24.other W45 (Pdj _ (List.mem_of_getElem? (i := 0) rfl) _ (List.mem_of_getElem? (i := 0) rfl)) (Pdj _ (List.mem_of_getElem? (i := 1) rfl) _ (List.mem_of_getElem? (i := 0) rfl)) (Pdj _ (List.mem_of_getElem? (i := 2) rfl) _ (List.mem_of_getElem? (i := 0) rfl))
  have f49 := f26.other W45 (Or.inl (Ne.symm Phu))
  have f50 := f27.other W45 (Or.inl (Ne.symm Phu))
  have f51 := f28.other W45 (Or.inl (Ne.symm Phu))
  have f52 := f29.wr W45 (Or.inl (List.mem_of_getElem? (i := 0) rfl))
  have f53 := f30.wr W45
  have f54 := B21.other W45 (Ne.symm ne10) (Ne.symm ne37) (Ne.symm ne43)
  have N45 := Fr.snoc X45 N21 Pho
  have Z45 := own_size_wr W45 Z21
  obtain ⟨fn45, hfn45⟩ : ∃ gf_ : Nat → Value, gf_ = own_upd F kx (.ref b5) := ⟨_, rfl⟩
  rw [← hfn45] at A45
  show own_Go _ _ _ _ (T45.setTop (mkF m 35 #[.val (.ref au), .val (.int p1), .val (.int p2), .val (.int p3), .val (.int v4_2)] []))
  refine own_by (fun _ k => XS.aloadN X45.here hx rfl (hb hby d15_35) rfl rfl k) ?_
  show own_Go _ _ _ _ (T45.setTop (mkF m 36 #[.val (.ref au), .val (.int p1), .val (.int p2), .val (.int p3), .val (.int v4_2)] [(.ref au)]))
  obtain ⟨T55, X55, e55, st55⟩ := getF X45 hx hZ hown (host := "") (Or.inl (hw _ (List.mem_of_getElem? (i := 72) rfl))) Via.refl e45 f50 (g := (mkF m 36 #[.val (.ref au), .val (.int p1), .val (.int p2), .val (.int p3), .val (.int v4_2)] [(.ref au)])) rfl rfl (hb hby d15_36)
  refine own_by st55 ?_
  refine own_by (fun _ k => XS.iload X55.here hx rfl (hb hby d15_39) rfl k) ?_
  show own_Go _ _ _ _ (T55.setTop (mkF m 41 #[.val (.ref au), .val (.int p1), .val (.int p2), .val (.int p3), .val (.int v4_2)] [(.int v4_2), (.ref ho)]))
  refine own_by (fun _ k => own_aal X55 hx hZ e55 A45 kx (hv4_2 ▸ hk) hkM (hb hby d15_41) k) ?_
  show own_Go _ _ _ _ (T55.setTop (mkF m 42 #[.val (.ref au), .val (.int p1), .val (.int p2), .val (.int p3), .val (.int v4_2)] [(fn45 kx)]))
  refine own_gen (by rw [hfn45]; exact own_upd_eq _ _ _ : fn45 kx = .ref b5) (fun z_ => T55.setTop (mkF m 42 #[.val (.ref au), .val (.int p1), .val (.int p2), .val (.int p3), .val (.int v4_2)] [z_])) ?_
  show own_Go _ _ _ _ (T55.setTop (mkF m 42 #[.val (.ref au), .val (.int p1), .val (.int p2), .val (.int p3), .val (.int v4_2)] [(.ref b5)]))
  refine own_by (fun _ k => XS.iloadN X55.here hx rfl (hb hby d15_42) rfl k) ?_
  show own_Go _ _ _ _ (T55.setTop (mkF m 43 #[.val (.ref au), .val (.int p1), .val (.int p2), .val (.int p3), .val (.int v4_2)] [(.int p1), (.ref b5)]))
  refine own_callV X55 hx hZ hown (hw _ (List.mem_of_getElem? (i := 114) rfl)) (hw _ (List.mem_of_getElem? (i := 115) rfl)) (notFace_of_selects (args := #[]) (mvT hZ (hw _ (List.mem_of_getElem? (i := 117) rfl)))) (hw _ (List.mem_of_getElem? (i := 117) rfl)) (hw _ (List.mem_of_getElem? (i := 116) rfl)) (hw _ (List.mem_of_getElem? (i := 38) rfl)) (hw _ (List.mem_of_getElem? (i := 118) rfl)) (by decide) (rm16 l Z a0 hw [] b5 p1 wz21 dz21 (fun _ => false) x1 h45 n0 Z45 f54 hx1 hx5) e55 b5 f53 (by rw [hml]; rfl) [(.int p1)] [] rfl (lenOf own_pd1 rfl) rfl 0 (Nat.le_of_eq rfl) (by decide) (by decide) (Nat.le_of_ble_eq_true rfl) (Nat.le_of_ble_eq_true rfl) (hb hby d15_43) ?_
  intro T56 Lc56 v56 X56 hQ56
  obtain ⟨h56, e56⟩ : ∃ h, T56.heap = h := ⟨_, rfl⟩
  rw [e56] at hQ56
  obtain ⟨rfl, N56q, K56, wz56, dz56, B56, ow56, od56⟩ := hQ56
  have N56 := Fr.app N45 N56q
  have f57 := f46.keep K56
  have f58 := f47.keep K56
  have f59 := f48.keep K56 (ninS ne7 (ninS ne34 (ninS ne40 nin0))) (ninS ne8 (ninS ne35 (ninS ne41 nin0))) (ninS ne9 (ninS ne36 (ninS ne42 nin0)))
  have f60 := A45.keep K56 (ninS ne10 (ninS ne37 (ninS ne43 nin0)))
  have f61 := f49.keep K56 (ninS ne6 (ninS ne33 (ninS ne39 nin0)))
  have f62 := f50.keep K56 (ninS ne6 (ninS ne33 (ninS ne39 nin0)))
  have f63 := f51.keep K56 (ninS ne6 (ninS ne33 (ninS ne39 nin0)))
  have f64 := f52.trans K56 (allS (P := fun x => x ∈ [ho, de, dw, dd] ∨ h0.size ≤ x) (Or.inr nw5) (allS (P := fun x => x ∈ [ho, de, dw, dd] ∨ h0.size ≤ x) (Or.inr nk_wz21) (allS (P := fun x => x ∈ [ho, de, dw, dd] ∨ h0.size ≤ x) (Or.inr nk_dz21) all0)))
  have f65 := f53.keep K56
  have Z56 := Nat.le_trans Z45 K56.1
  have ne67 : au ≠ wz56 := own_neor ow56 ne33 f51.lt
  have ne68 : de ≠ wz56 := own_neor ow56 ne34 f48.lb
  have ne69 : dw ≠ wz56 := own_neor ow56 ne35 f48.lw
  have ne70 : dd ≠ wz56 := own_neor ow56 ne36 f48.ld
  have ne71 : ho ≠ wz56 := own_neor ow56 ne37 A45.lt
  have nk_wz56 : h0.size ≤ wz56 := own_geor ow56 nk_wz21 f52.1
  have oz_wz56 : wz56 = wz21 ∨ h0.size ≤ wz56 := ow56.imp id (Nat.le_trans f52.1)
  have ne72 : au ≠ dz56 := own_neor od56 ne39 f51.lt
  have ne73 : de ≠ dz56 := own_neor od56 ne40 f48.lb
  have ne74 : dw ≠ dz56 := own_neor od56 ne41 f48.lw
  have ne75 : dd ≠ dz56 := own_neor od56 ne42 f48.ld
  have ne76 : ho ≠ dz56 := own_neor od56 ne43 A45.lt
  have nk_dz56 : h0.size ≤ dz56 := own_geor od56 nk_dz21 f52.1
  have oz_dz56 : dz56 = dz21 ∨ h0.size ≤ dz56 := od56.imp id (Nat.le_trans f52.1)
  show own_Go _ _ _ _ (T56.setTop (mkF m 46 #[.val (.ref au), .val (.int p1), .val (.int p2), .val (.int p3), .val (.int v4_2)] []))
  refine own_by (fun _ k => XS.aloadN X56.here hx rfl (hb hby d15_46) rfl rfl k) ?_
  show own_Go _ _ _ _ (T56.setTop (mkF m 47 #[.val (.ref au), .val (.int p1), .val (.int p2), .val (.int p3), .val (.int v4_2)] [(.ref au)]))
  obtain ⟨T77, X77, e77, st77⟩ := getF X56 hx hZ hown (host := "") (Or.inl (hw _ (List.mem_of_getElem? (i := 48) rfl))) Via.refl e56 f63 (g := (mkF m 47 #[.val (.ref au), .val (.int p1), .val (.int p2), .val (.int p3), .val (.int v4_2)] [(.ref au)])) rfl rfl (hb hby d15_47)
  refine own_by st77 ?_
  refine own_by (fun _ k => XS.iloadN X77.here hx rfl (hb hby d15_50) rfl k) ?_
  show own_Go _ _ _ _ (T77.setTop (mkF m 51 #[.val (.ref au), .val (.int p1), .val (.int p2), .val (.int p3), .val (.int v4_2)] [(.int p1), (.ref de)]))
  refine own_callV X77 hx hZ hown (hw _ (List.mem_of_getElem? (i := 114) rfl)) (hw _ (List.mem_of_getElem? (i := 115) rfl)) (notFace_of_selects (args := #[]) (mvT hZ (hw _ (List.mem_of_getElem? (i := 117) rfl)))) (hw _ (List.mem_of_getElem? (i := 117) rfl)) (hw _ (List.mem_of_getElem? (i := 116) rfl)) (hw _ (List.mem_of_getElem? (i := 38) rfl)) (hw _ (List.mem_of_getElem? (i := 118) rfl)) (by decide) (rm16 l Z a0 hw [] de p1 dw dd SD x1 h56 n0 Z56 f59 hx1 hx5) e77 de f58 (by rw [hml]; rfl) [(.int p1)] [] rfl (lenOf own_pd1 rfl) rfl 0 (Nat.le_of_eq rfl) (by decide) (by decide) (Nat.le_of_ble_eq_true rfl) (Nat.le_of_ble_eq_true rfl) (hb hby d15_51) ?_
  intro T78 Lc78 v78 X78 hQ78
  obtain ⟨h78, e78⟩ : ∃ h, T78.heap = h := ⟨_, rfl⟩
  rw [e78] at hQ78
  obtain ⟨rfl, N78q, K78, wz78, dz78, B78, ow78, od78⟩ := hQ78
  have N78 := Fr.app N56 N78q
  have f79 := f57.keep K78
  have f80 := f58.keep K78
  have f82 := f60.keep K78 (ninS (Ne.symm (Pdj _ (List.mem_of_getElem? (i := 0) rfl) _ (List.mem_of_getElem? (i := 0) rfl))) (ninS (Ne.symm (Pdj _ (List.mem_of_getElem? (i := 1) rfl) _ (List.mem_of_getElem? (i := 0) rfl))) (ninS (Ne.symm (Pdj _ (List.mem_of_getElem? (i := 2) rfl) _ (List.mem_of_getElem? (i := 0) rfl))) nin0)))
  have f83 := f61.keep K78 (ninS (Ne.symm (Pdj _ (List.mem_of_getElem? (i := 0) rfl) _ (List.mem_of_getElem? (i := 1) rfl))) (ninS (Ne.symm (Pdj _ (List.mem_of_getElem? (i := 1) rfl) _ (List.mem_of_getElem? (i := 1) rfl))) (ninS (Ne.symm (Pdj _ (List.mem_of_getElem? (i := 2) rfl) _ (List.mem_of_getElem? (i := 1) rfl))) nin0)))
  have f84 := f62.keep K78 (ninS (Ne.symm (Pdj _ (List.mem_of_getElem? (i := 0) rfl) _ (List.mem_of_getElem? (i := 1) rfl))) (ninS (Ne.symm (Pdj _ (List.mem_of_getElem? (i := 1) rfl) _ (List.mem_of_getElem? (i := 1) rfl))) (ninS (Ne.symm (Pdj _ (List.mem_of_getElem? (i := 2) rfl) _ (List.mem_of_getElem? (i := 1) rfl))) nin0)))
  have f85 := f63.keep K78 (ninS (Ne.symm (Pdj _ (List.mem_of_getElem? (i := 0) rfl) _ (List.mem_of_getElem? (i := 1) rfl))) (ninS (Ne.symm (Pdj _ (List.mem_of_getElem? (i := 1) rfl) _ (List.mem_of_getElem? (i := 1) rfl))) (ninS (Ne.symm (Pdj _ (List.mem_of_getElem? (i := 2) rfl) _ (List.mem_of_getElem? (i := 1) rfl))) nin0)))
  have f86 := f64.trans K78 (allS (P := fun x => x ∈ [ho, de, dw, dd] ∨ h0.size ≤ x) (Or.inl (List.mem_of_getElem? (i := 1) rfl)) (allS (P := fun x => x ∈ [ho, de, dw, dd] ∨ h0.size ≤ x) (Or.inl (List.mem_of_getElem? (i := 2) rfl)) (allS (P := fun x => x ∈ [ho, de, dw, dd] ∨ h0.size ≤ x) (Or.inl (List.mem_of_getElem? (i := 3) rfl)) all0)))
  have f87 := f65.keep K78
  have f88 := B56.keep K78 (ninS (Ne.symm ne7) (ninS (Ne.symm ne8) (ninS (Ne.symm ne9) nin0))) (ninS (Ne.symm ne68) (ninS (Ne.symm ne69) (ninS (Ne.symm ne70) nin0))) (ninS (Ne.symm ne73) (ninS (Ne.symm ne74) (ninS (Ne.symm ne75) nin0)))
  have Z78 := Nat.le_trans Z56 K78.1
  have ne89 : au ≠ wz78 := own_neor ow78 (Ne.symm (Pdj _ (List.mem_of_getElem? (i := 1) rfl) _ (List.mem_of_getElem? (i := 1) rfl))) f63.lt
  have ne90 : ho ≠ wz78 := own_neor ow78 (Ne.symm (Pdj _ (List.mem_of_getElem? (i := 1) rfl) _ (List.mem_of_getElem? (i := 0) rfl))) f60.lt
  have ne91 : b5 ≠ wz78 := own_neor ow78 (Ne.symm ne8) B56.lb
  have ne92 : wz56 ≠ wz78 := own_neor ow78 (Ne.symm ne69) B56.lw
  have ne93 : dz56 ≠ wz78 := own_neor ow78 (Ne.symm ne74) B56.ld
  have oz_wz78 : wz78 = dw ∨ h0.size ≤ wz78 := ow78.imp id (Nat.le_trans f64.1)
  have ne94 : au ≠ dz78 := own_neor od78 (Ne.symm (Pdj _ (List.mem_of_getElem? (i := 2) rfl) _ (List.mem_of_getElem? (i := 1) rfl))) f63.lt
  have ne95 : ho ≠ dz78 := own_neor od78 (Ne.symm (Pdj _ (List.mem_of_getElem? (i := 2) rfl) _ (List.mem_of_getElem? (i := 0) rfl))) f60.lt
  have ne96 : b5 ≠ dz78 := own_neor od78 (Ne.symm ne9) B56.lb
  have ne97 : wz56 ≠ dz78 := own_neor od78 (Ne.symm ne70) B56.lw
  have ne98 : dz56 ≠ dz78 := own_neor od78 (Ne.symm ne75) B56.ld
  have oz_dz78 : dz78 = dd ∨ h0.size ≤ dz78 := od78.imp id (Nat.le_trans f64.1)
  show own_Go _ _ _ _ (T78.setTop (mkF m 54 #[.val (.ref au), .val (.int p1), .val (.int p2), .val (.int p3), .val (.int v4_2)] []))
  exact own_retV X78 hx Bd.notSynchronized e78 Bd.returns (hb hby d15_54) (⟨rfl, N78, f86, b5, wz56, dz56, wz78, dz78, f88, B78, by rw [← hfn45]; exact f82, (allS (P := fun x => h0.size ≤ x) nw5 (allS (P := fun x => h0.size ≤ x) nk_wz56 (allS (P := fun x => h0.size ≤ x) nk_dz56 all0))), (allS (P := fun x => ∀ y ∈ [de, wz78, dz78], x ≠ y) (allS (P := fun y => b5 ≠ y) (Ne.symm ne7) (allS (P := fun y => b5 ≠ y) ne91 (allS (P := fun y => b5 ≠ y) ne96 all0))) (allS (P := fun x => ∀ y ∈ [de, wz78, dz78], x ≠ y) (allS (P := fun y => wz56 ≠ y) (Ne.symm ne68) (allS (P := fun y => wz56 ≠ y) ne92 (allS (P := fun y => wz56 ≠ y) ne97 all0))) (allS (P := fun x => ∀ y ∈ [de, wz78, dz78], x ≠ y) (allS (P := fun y => dz56 ≠ y) (Ne.symm ne73) (allS (P := fun y => dz56 ≠ y) ne93 (allS (P := fun y => dz56 ≠ y) ne98 all0))) all0))), oz_wz78, oz_dz78⟩) (by decide) (by decide)
set_option maxRecDepth 65536 in
set_option maxHeartbeats 40000000 in
theorem rm15_r (l : Launch) (Z : State) (a0 : Array Value) (hw : ∀ d ∈ tables_1, d.before a0 Z = true) (ws : List Jvm.Cond) (au : Addr) (p1 : Int32) (p2 : Int32) (p3 : Int32) (an ho de dw dd : Addr) (N M : Nat) (zN : Int32) (fa F : Nat → Value) (SD : Nat → Bool) (x1 kx : Nat) (b1 w1 d1 : Addr) (S : Nat → Bool) (h0 : Heap) (n0 : Nat) (Z0 : n0 ≤ h0.size) (PEu : Exa Z h0 au "com/example/sonde/sonde/engine/AnswerSets") (PFa : Fld Z h0 au "com/example/sonde/sonde/engine/AnswerSets" "answering" "[Lcom/example/sonde/sonde/engine/Bits;" (.ref an)) (PFh : Fld Z h0 au "com/example/sonde/sonde/engine/AnswerSets" "holding" "[Lcom/example/sonde/sonde/engine/Bits;" (.ref ho)) (PFd : Fld Z h0 au "com/example/sonde/sonde/engine/AnswerSets" "deep" "Lcom/example/sonde/sonde/engine/Bits;" (.ref de)) (PAa : own_Ra Z h0 an "com/example/sonde/sonde/engine/Bits" N fa) (PAh : own_Ra Z h0 ho "com/example/sonde/sonde/engine/Bits" M F) (PBd : own_B Z h0 n0 de dw dd SD) (Pho : n0 ≤ ho) (Pdj : own_dj [de, dw, dd] [ho, au]) (Phu : ho ≠ au) (hx1 : p1.toInt = (x1 : Int)) (hx5 : x1 ≤ 127) (hzN : zN = N.toInt32) (hk : ((p2 * zN) + p3).toInt = (kx : Int)) (hkM : kx < M) (PF : F kx = .ref b1) (PBb : own_B Z h0 n0 b1 w1 d1 S) (Pdb : own_dj [b1, w1, d1] [de, dw, dd, ho, au]) :
    MetFree l (⟨"com/example/sonde/sonde/engine/AnswerSets", "noteHolding", "(III)V"⟩ : MethodName) (head1 (Jvm.Cond.code (⟨"com/example/sonde/sonde/engine/AnswerSets", "noteHolding", "(III)V"⟩ : MethodName) prog_86_method_3_code 5 none :: ws) ({ frames := 4, cells := 7, slots := 10, locals := 112 } : Room)) (fun a U => a = #[(.ref au), (.int p1), (.int p2), (.int p3)] ∧ Z.Warmed39 U.vm ∧ U.heap = h0) (fun _ _ _ _ _ => True) (fun _ U o U' => ∃ vv LL, o = .returned vv ∧ own_ap (fun v h L => v = none ∧ Fr n0 L ∧ Keep h0 h [b1, w1, d1, de, dw, dd] ∧ ∃ w2 d2 dw2 dd2 : Addr, own_B Z h n0 b1 w2 d2 (fun y => S y || decide (y = x1)) ∧ own_B Z h n0 de dw2 dd2 (fun y => SD y || decide (y = x1)) ∧ own_dj [b1, w2, d2] [de, dw2, dd2] ∧ (w2 = w1 ∨ h0.size ≤ w2) ∧ (d2 = d1 ∨ h0.size ≤ d2) ∧ (dw2 = dw ∨ h0.size ≤ dw2) ∧ (dd2 = dd ∨ h0.size ≤ dd2)) vv U'.heap LL ∧ FrameEnd U o U' LL 7 10) := by
  refine MetFree.of_bodySF (plainFor_of_name pn_15) hisR ?_
  intro p e s m args below meth c s₁ Bd hml0 hP hK
  obtain ⟨rfl, hZ, hh⟩ := hP
  have hx := Bd.exec
  have hby := Bd.bytes
  have hml : c.maxLocals = 5 := hml0
  have hown : s.vm.findClass "com/example/sonde/sonde/engine/AnswerSets" = some m.cls := findClass_of_methodNamed Bd.named
  have hnm := (name_of_methodNamed Bd.named Bd.method).1
  have X0 : Stand p l e ({ frames := 4, cells := 7, slots := 10, locals := 112 } : Room) s m #[(.ref au), (.int p1), (.int p2), (.int p3)] below meth c s₁ [] 0 0 := Stand.of_body Bd
  have e0 : s₁.heap = h0 := by rw [← hh, Bd.state]; rfl
  have N0 := Fr.nil n0
  show own_Go p.tables e below (own_Q s (fun v h L => v = none ∧ Fr n0 L ∧ Keep h0 h [b1, w1, d1, de, dw, dd] ∧ ∃ w2 d2 dw2 dd2 : Addr, own_B Z h n0 b1 w2 d2 (fun y => S y || decide (y = x1)) ∧ own_B Z h n0 de dw2 dd2 (fun y => SD y || decide (y = x1)) ∧ own_dj [b1, w2, d2] [de, dw2, dd2] ∧ (w2 = w1 ∨ h0.size ≤ w2) ∧ (d2 = d1 ∨ h0.size ≤ d2) ∧ (dw2 = dw ∨ h0.size ≤ dw2) ∧ (dd2 = dd ∨ h0.size ≤ dd2)) 7 10) (s₁.setTop (entryFrame m #[(.ref au), (.int p1), (.int p2), (.int p3)] 5))
  rw [show entryFrame m #[(.ref au), (.int p1), (.int p2), (.int p3)] 5 = mkF m 0 #[.val (.ref au), .val (.int p1), .val (.int p2), .val (.int p3), .unset] [] from by first | (simp [entryFrame, mkF, argsToLocals, Value.category]; done) | rfl]
  show own_Go _ _ _ _ (s₁.setTop (mkF m 0 #[.val (.ref au), .val (.int p1), .val (.int p2), .val (.int p3), .unset] []))
  refine own_by (fun _ k => XS.iloadN X0.here hx rfl (hb hby d15_0) rfl k) ?_
  refine own_by (fun _ k => XS.aloadN X0.here hx rfl (hb hby d15_1) rfl rfl k) ?_
  show own_Go _ _ _ _ (s₁.setTop (mkF m 2 #[.val (.ref au), .val (.int p1), .val (.int p2), .val (.int p3), .unset] [(.ref au), (.int p2)]))
  obtain ⟨T1, X1, e1, st1⟩ := getF X0 hx hZ hown (host := "") (Or.inl (hw _ (List.mem_of_getElem? (i := 53) rfl))) Via.refl e0 PFa (g := (mkF m 2 #[.val (.ref au), .val (.int p1), .val (.int p2), .val (.int p3), .unset] [(.ref au), (.int p2)])) rfl rfl (hb hby d15_2)
  refine own_by st1 ?_
  show own_Go _ _ _ _ (T1.setTop (mkF m 5 #[.val (.ref au), .val (.int p1), .val (.int p2), .val (.int p3), .unset] [(.ref an), (.int p2)]))
  refine own_by (fun _ k => own_len X1 hx hZ e1 PAa.ar zN hzN (hb hby d15_5) k) ?_
  show own_Go _ _ _ _ (T1.setTop (mkF m 6 #[.val (.ref au), .val (.int p1), .val (.int p2), .val (.int p3), .unset] [(.int zN), (.int p2)]))
  refine own_by (fun _ k => XS.imul X1.here hx rfl (hb hby d15_6) rfl k) ?_
  refine own_by (fun _ k => XS.iloadN X1.here hx rfl (hb hby d15_7) rfl k) ?_
  show own_Go _ _ _ _ (T1.setTop (mkF m 8 #[.val (.ref au), .val (.int p1), .val (.int p2), .val (.int p3), .unset] [(.int p3), (.int (p2 * zN))]))
  refine own_by (fun _ k => XS.iadd X1.here hx rfl (hb hby d15_8) rfl k) ?_
  show own_Go _ _ _ _ (T1.setTop (mkF m 9 #[.val (.ref au), .val (.int p1), .val (.int p2), .val (.int p3), .unset] [(.int ((p2 * zN) + p3))]))
  obtain ⟨v4_2, hv4_2⟩ : ∃ z_ : Int32, ((p2 * zN) + p3) = z_ := ⟨_, rfl⟩
  refine own_gen hv4_2 (fun z_ => T1.setTop (mkF m 9 #[.val (.ref au), .val (.int p1), .val (.int p2), .val (.int p3), .unset] [(.int z_)])) ?_
  refine own_by (fun _ k => XS.istore X1.here hx rfl (hb hby d15_9) rfl (l' := #[.val (.ref au), .val (.int p1), .val (.int p2), .val (.int p3), .val (.int v4_2)]) rfl k) ?_
  refine own_by (fun _ k => XS.aloadN X1.here hx rfl (hb hby d15_11) rfl rfl k) ?_
  show own_Go _ _ _ _ (T1.setTop (mkF m 12 #[.val (.ref au), .val (.int p1), .val (.int p2), .val (.int p3), .val (.int v4_2)] [(.ref au)]))
  obtain ⟨T3, X3, e3, st3⟩ := getF X1 hx hZ hown (host := "") (Or.inl (hw _ (List.mem_of_getElem? (i := 72) rfl))) Via.refl e1 PFh (g := (mkF m 12 #[.val (.ref au), .val (.int p1), .val (.int p2), .val (.int p3), .val (.int v4_2)] [(.ref au)])) rfl rfl (hb hby d15_12)
  refine own_by st3 ?_
  refine own_by (fun _ k => XS.iload X3.here hx rfl (hb hby d15_15) rfl k) ?_
  show own_Go _ _ _ _ (T3.setTop (mkF m 17 #[.val (.ref au), .val (.int p1), .val (.int p2), .val (.int p3), .val (.int v4_2)] [(.int v4_2), (.ref ho)]))
  refine own_by (fun _ k => own_aal X3 hx hZ e3 PAh kx (hv4_2 ▸ hk) hkM (hb hby d15_17) k) ?_
  show own_Go _ _ _ _ (T3.setTop (mkF m 18 #[.val (.ref au), .val (.int p1), .val (.int p2), .val (.int p3), .val (.int v4_2)] [(F kx)]))
  refine own_gen PF (fun z_ => T3.setTop (mkF m 18 #[.val (.ref au), .val (.int p1), .val (.int p2), .val (.int p3), .val (.int v4_2)] [z_])) ?_
  show own_Go _ _ _ _ (T3.setTop (mkF m 18 #[.val (.ref au), .val (.int p1), .val (.int p2), .val (.int p3), .val (.int v4_2)] [(.ref b1)]))
  refine own_by (fun _ k => XS.ifnonnullYes X3.here hx rfl (pc0 := 18) (pc' := 35) rfl (hb hby d15_18) rfl (by decide) (by decide) k) ?_
  refine own_by (fun _ k => XS.aloadN X3.here hx rfl (hb hby d15_35) rfl rfl k) ?_
  show own_Go _ _ _ _ (T3.setTop (mkF m 36 #[.val (.ref au), .val (.int p1), .val (.int p2), .val (.int p3), .val (.int v4_2)] [(.ref au)]))
  obtain ⟨T4, X4, e4, st4⟩ := getF X3 hx hZ hown (host := "") (Or.inl (hw _ (List.mem_of_getElem? (i := 72) rfl))) Via.refl e3 PFh (g := (mkF m 36 #[.val (.ref au), .val (.int p1), .val (.int p2), .val (.int p3), .val (.int v4_2)] [(.ref au)])) rfl rfl (hb hby d15_36)
  refine own_by st4 ?_
  refine own_by (fun _ k => XS.iload X4.here hx rfl (hb hby d15_39) rfl k) ?_
  show own_Go _ _ _ _ (T4.setTop (mkF m 41 #[.val (.ref au), .val (.int p1), .val (.int p2), .val (.int p3), .val (.int v4_2)] [(.int v4_2), (.ref ho)]))
  refine own_by (fun _ k => own_aal X4 hx hZ e4 PAh kx (hv4_2 ▸ hk) hkM (hb hby d15_41) k) ?_
  show own_Go _ _ _ _ (T4.setTop (mkF m 42 #[.val (.ref au), .val (.int p1), .val (.int p2), .val (.int p3), .val (.int v4_2)] [(F kx)]))
  refine own_gen PF (fun z_ => T4.setTop (mkF m 42 #[.val (.ref au), .val (.int p1), .val (.int p2), .val (.int p3), .val (.int v4_2)] [z_])) ?_
  show own_Go _ _ _ _ (T4.setTop (mkF m 42 #[.val (.ref au), .val (.int p1), .val (.int p2), .val (.int p3), .val (.int v4_2)] [(.ref b1)]))
  refine own_by (fun _ k => XS.iloadN X4.here hx rfl (hb hby d15_42) rfl k) ?_
  show own_Go _ _ _ _ (T4.setTop (mkF m 43 #[.val (.ref au), .val (.int p1), .val (.int p2), .val (.int p3), .val (.int v4_2)] [(.int p1), (.ref b1)]))
  refine own_callV X4 hx hZ hown (hw _ (List.mem_of_getElem? (i := 114) rfl)) (hw _ (List.mem_of_getElem? (i := 115) rfl)) (notFace_of_selects (args := #[]) (mvT hZ (hw _ (List.mem_of_getElem? (i := 117) rfl)))) (hw _ (List.mem_of_getElem? (i := 117) rfl)) (hw _ (List.mem_of_getElem? (i := 116) rfl)) (hw _ (List.mem_of_getElem? (i := 38) rfl)) (hw _ (List.mem_of_getElem? (i := 118) rfl)) (by decide) (rm16 l Z a0 hw [] b1 p1 w1 d1 S x1 h0 n0 Z0 PBb hx1 hx5) e4 b1 PBb.exa (by rw [hml]; rfl) [(.int p1)] [] rfl (lenOf own_pd1 rfl) rfl 0 (Nat.le_of_eq rfl) (by decide) (by decide) (Nat.le_of_ble_eq_true rfl) (Nat.le_of_ble_eq_true rfl) (hb hby d15_43) ?_
  intro T5 Lc5 v5 X5 hQ5
  obtain ⟨h5, e5⟩ : ∃ h, T5.heap = h := ⟨_, rfl⟩
  rw [e5] at hQ5
  obtain ⟨rfl, N5q, K5, wz5, dz5, B5, ow5, od5⟩ := hQ5
  have N5 := Fr.app N0 N5q
  have f6 := PEu.keep K5
  have f7 := PBd.exa.keep K5
  have f8 := PBd.keep K5 (ninS (Ne.symm (Pdb _ (List.mem_of_getElem? (i := 0) rfl) _ (List.mem_of_getElem? (i := 0) rfl))) (ninS (Ne.symm (Pdb _ (List.mem_of_getElem? (i := 1) rfl) _ (List.mem_of_getElem? (i := 0) rfl))) (ninS (Ne.symm (Pdb _ (List.mem_of_getElem? (i := 2) rfl) _ (List.mem_of_getElem? (i := 0) rfl))) nin0))) (ninS (Ne.symm (Pdb _ (List.mem_of_getElem? (i := 0) rfl) _ (List.mem_of_getElem? (i := 1) rfl))) (ninS (Ne.symm (Pdb _ (List.mem_of_getElem? (i := 1) rfl) _ (List.mem_of_getElem? (i := 1) rfl))) (ninS (Ne.symm (Pdb _ (List.mem_of_getElem? (i := 2) rfl) _ (List.mem_of_getElem? (i := 1) rfl))) nin0))) (ninS (Ne.symm (Pdb _ (List.mem_of_getElem? (i := 0) rfl) _ (List.mem_of_getElem? (i := 2) rfl))) (ninS (Ne.symm (Pdb _ (List.mem_of_getElem? (i := 1) rfl) _ (List.mem_of_getElem? (i := 2) rfl))) (ninS (Ne.symm (Pdb _ (List.mem_of_getElem? (i := 2) rfl) _ (List.mem_of_getElem? (i := 2) rfl))) nin0)))
  have f9 := PAh.keep K5 (ninS (Ne.symm (Pdb _ (List.mem_of_getElem? (i := 0) rfl) _ (List.mem_of_getElem? (i := 3) rfl))) (ninS (Ne.symm (Pdb _ (List.mem_of_getElem? (i := 1) rfl) _ (List.mem_of_getElem? (i := 3) rfl))) (ninS (Ne.symm (Pdb _ (List.mem_of_getElem? (i := 2) rfl) _ (List.mem_of_getElem? (i := 3) rfl))) nin0)))
  have f10 := PFa.keep K5 (ninS (Ne.symm (Pdb _ (List.mem_of_getElem? (i := 0) rfl) _ (List.mem_of_getElem? (i := 4) rfl))) (ninS (Ne.symm (Pdb _ (List.mem_of_getElem? (i := 1) rfl) _ (List.mem_of_getElem? (i := 4) rfl))) (ninS (Ne.symm (Pdb _ (List.mem_of_getElem? (i := 2) rfl) _ (List.mem_of_getElem? (i := 4) rfl))) nin0)))
  have f11 := PFh.keep K5 (ninS (Ne.symm (Pdb _ (List.mem_of_getElem? (i := 0) rfl) _ (List.mem_of_getElem? (i := 4) rfl))) (ninS (Ne.symm (Pdb _ (List.mem_of_getElem? (i := 1) rfl) _ (List.mem_of_getElem? (i := 4) rfl))) (ninS (Ne.symm (Pdb _ (List.mem_of_getElem? (i := 2) rfl) _ (List.mem_of_getElem? (i := 4) rfl))) nin0)))
  have f12 := PFd.keep K5 (ninS (Ne.symm (Pdb _ (List.mem_of_getElem? (i := 0) rfl) _ (List.mem_of_getElem? (i := 4) rfl))) (ninS (Ne.symm (Pdb _ (List.mem_of_getElem? (i := 1) rfl) _ (List.mem_of_getElem? (i := 4) rfl))) (ninS (Ne.symm (Pdb _ (List.mem_of_getElem? (i := 2) rfl) _ (List.mem_of_getElem? (i := 4) rfl))) nin0)))
  have f13 := (Keep.refl h0 [b1, w1, d1, de, dw, dd]).trans K5 (allS (P := fun x => x ∈ [b1, w1, d1, de, dw, dd] ∨ h0.size ≤ x) (Or.inl (List.mem_of_getElem? (i := 0) rfl)) (allS (P := fun x => x ∈ [b1, w1, d1, de, dw, dd] ∨ h0.size ≤ x) (Or.inl (List.mem_of_getElem? (i := 1) rfl)) (allS (P := fun x => x ∈ [b1, w1, d1, de, dw, dd] ∨ h0.size ≤ x) (Or.inl (List.mem_of_getElem? (i := 2) rfl)) all0)))
  have f15 := PBb.exa.keep K5
  have Z5 := Nat.le_trans Z0 K5.1
  have ne16 : au ≠ wz5 := own_neor ow5 (Ne.symm (Pdb _ (List.mem_of_getElem? (i := 1) rfl) _ (List.mem_of_getElem? (i := 4) rfl))) PFd.lt
  have ne17 : de ≠ wz5 := own_neor ow5 (Ne.symm (Pdb _ (List.mem_of_getElem? (i := 1) rfl) _ (List.mem_of_getElem? (i := 0) rfl))) PBd.lb
  have ne18 : dw ≠ wz5 := own_neor ow5 (Ne.symm (Pdb _ (List.mem_of_getElem? (i := 1) rfl) _ (List.mem_of_getElem? (i := 1) rfl))) PBd.lw
  have ne19 : dd ≠ wz5 := own_neor ow5 (Ne.symm (Pdb _ (List.mem_of_getElem? (i := 1) rfl) _ (List.mem_of_getElem? (i := 2) rfl))) PBd.ld
  have ne20 : ho ≠ wz5 := own_neor ow5 (Ne.symm (Pdb _ (List.mem_of_getElem? (i := 1) rfl) _ (List.mem_of_getElem? (i := 3) rfl))) PAh.lt
  have oz_wz5 : wz5 = w1 ∨ h0.size ≤ wz5 := ow5.imp id (Nat.le_trans (Keep.refl h0 [b1, w1, d1, de, dw, dd]).1)
  have ne21 : au ≠ dz5 := own_neor od5 (Ne.symm (Pdb _ (List.mem_of_getElem? (i := 2) rfl) _ (List.mem_of_getElem? (i := 4) rfl))) PFd.lt
  have ne22 : de ≠ dz5 := own_neor od5 (Ne.symm (Pdb _ (List.mem_of_getElem? (i := 2) rfl) _ (List.mem_of_getElem? (i := 0) rfl))) PBd.lb
  have ne23 : dw ≠ dz5 := own_neor od5 (Ne.symm (Pdb _ (List.mem_of_getElem? (i := 2) rfl) _ (List.mem_of_getElem? (i := 1) rfl))) PBd.lw
  have ne24 : dd ≠ dz5 := own_neor od5 (Ne.symm (Pdb _ (List.mem_of_getElem? (i := 2) rfl) _ (List.mem_of_getElem? (i := 2) rfl))) PBd.ld
  have ne25 : ho ≠ dz5 := own_neor od5 (Ne.symm (Pdb _ (List.mem_of_getElem? (i := 2) rfl) _ (List.mem_of_getElem? (i := 3) rfl))) PAh.lt
  have oz_dz5 : dz5 = d1 ∨ h0.size ≤ dz5 := od5.imp id (Nat.le_trans (Keep.refl h0 [b1, w1, d1, de, dw, dd]).1)
  show own_Go _ _ _ _ (T5.setTop (mkF m 46 #[.val (.ref au), .val (.int p1), .val (.int p2), .val (.int p3), .val (.int v4_2)] []))
  refine own_by (fun _ k => XS.aloadN X5.here hx rfl (hb hby d15_46) rfl rfl k) ?_
  show own_Go _ _ _ _ (T5.setTop (mkF m 47 #[.val (.ref au), .val (.int p1), .val (.int p2), .val (.int p3), .val (.int v4_2)] [(.ref au)]))
  obtain ⟨T26, X26, e26, st26⟩ := getF X5 hx hZ hown (host := "") (Or.inl (hw _ (List.mem_of_getElem? (i := 48) rfl))) Via.refl e5 f12 (g := (mkF m 47 #[.val (.ref au), .val (.int p1), .val (.int p2), .val (.int p3), .val (.int v4_2)] [(.ref au)])) rfl rfl (hb hby d15_47)
  refine own_by st26 ?_
  refine own_by (fun _ k => XS.iloadN X26.here hx rfl (hb hby d15_50) rfl k) ?_
  show own_Go _ _ _ _ (T26.setTop (mkF m 51 #[.val (.ref au), .val (.int p1), .val (.int p2), .val (.int p3), .val (.int v4_2)] [(.int p1), (.ref de)]))
  refine own_callV X26 hx hZ hown (hw _ (List.mem_of_getElem? (i := 114) rfl)) (hw _ (List.mem_of_getElem? (i := 115) rfl)) (notFace_of_selects (args := #[]) (mvT hZ (hw _ (List.mem_of_getElem? (i := 117) rfl)))) (hw _ (List.mem_of_getElem? (i := 117) rfl)) (hw _ (List.mem_of_getElem? (i := 116) rfl)) (hw _ (List.mem_of_getElem? (i := 38) rfl)) (hw _ (List.mem_of_getElem? (i := 118) rfl)) (by decide) (rm16 l Z a0 hw [] de p1 dw dd SD x1 h5 n0 Z5 f8 hx1 hx5) e26 de f7 (by rw [hml]; rfl) [(.int p1)] [] rfl (lenOf own_pd1 rfl) rfl 0 (Nat.le_of_eq rfl) (by decide) (by decide) (Nat.le_of_ble_eq_true rfl) (Nat.le_of_ble_eq_true rfl) (hb hby d15_51) ?_
  intro T27 Lc27 v27 X27 hQ27
  obtain ⟨h27, e27⟩ : ∃ h, T27.heap = h := ⟨_, rfl⟩
  rw [e27] at hQ27
  obtain ⟨rfl, N27q, K27, wz27, dz27, B27, ow27, od27⟩ := hQ27
  have N27 := Fr.app N5 N27q
  have f28 := f6.keep K27
  have f29 := f7.keep K27
  have f31 := f9.keep K27 (ninS (Ne.symm (Pdj _ (List.mem_of_getElem? (i := 0) rfl) _ (List.mem_of_getElem? (i := 0) rfl))) (ninS (Ne.symm (Pdj _ (List.mem_of_getElem? (i := 1) rfl) _ (List.mem_of_getElem? (i := 0) rfl))) (ninS (Ne.symm (Pdj _ (List.mem_of_getElem? (i := 2) rfl) _ (List.mem_of_getElem? (i := 0) rfl))) nin0)))
  have f32 := f10.keep K27 (ninS (Ne.symm (Pdj _ (List.mem_of_getElem? (i := 0) rfl) _ (List.mem_of_getElem? (i := 1) rfl))) (ninS (Ne.symm (Pdj _ (List.mem_of_getElem? (i := 1) rfl) _ (List.mem_of_getElem? (i := 1) rfl))) (ninS (Ne.symm (Pdj _ (List.mem_of_getElem? (i := 2) rfl) _ (List.mem_of_getElem? (i := 1) rfl))) nin0)))
  have f33 := f11.keep K27 (ninS (Ne.symm (Pdj _ (List.mem_of_getElem? (i := 0) rfl) _ (List.mem_of_getElem? (i := 1) rfl))) (ninS (Ne.symm (Pdj _ (List.mem_of_getElem? (i := 1) rfl) _ (List.mem_of_getElem? (i := 1) rfl))) (ninS (Ne.symm (Pdj _ (List.mem_of_getElem? (i := 2) rfl) _ (List.mem_of_getElem? (i := 1) rfl))) nin0)))
  have f34 := f12.keep K27 (ninS (Ne.symm (Pdj _ (List.mem_of_getElem? (i := 0) rfl) _ (List.mem_of_getElem? (i := 1) rfl))) (ninS (Ne.symm (Pdj _ (List.mem_of_getElem? (i := 1) rfl) _ (List.mem_of_getElem? (i := 1) rfl))) (ninS (Ne.symm (Pdj _ (List.mem_of_getElem? (i := 2) rfl) _ (List.mem_of_getElem? (i := 1) rfl))) nin0)))
  have f35 := f13.trans K27 (allS (P := fun x => x ∈ [b1, w1, d1, de, dw, dd] ∨ h0.size ≤ x) (Or.inl (List.mem_of_getElem? (i := 3) rfl)) (allS (P := fun x => x ∈ [b1, w1, d1, de, dw, dd] ∨ h0.size ≤ x) (Or.inl (List.mem_of_getElem? (i := 4) rfl)) (allS (P := fun x => x ∈ [b1, w1, d1, de, dw, dd] ∨ h0.size ≤ x) (Or.inl (List.mem_of_getElem? (i := 5) rfl)) all0)))
  have f36 := f15.keep K27
  have f37 := B5.keep K27 (ninS (Pdb _ (List.mem_of_getElem? (i := 0) rfl) _ (List.mem_of_getElem? (i := 0) rfl)) (ninS (Pdb _ (List.mem_of_getElem? (i := 0) rfl) _ (List.mem_of_getElem? (i := 1) rfl)) (ninS (Pdb _ (List.mem_of_getElem? (i := 0) rfl) _ (List.mem_of_getElem? (i := 2) rfl)) nin0))) (ninS (Ne.symm ne17) (ninS (Ne.symm ne18) (ninS (Ne.symm ne19) nin0))) (ninS (Ne.symm ne22) (ninS (Ne.symm ne23) (ninS (Ne.symm ne24) nin0)))
  have Z27 := Nat.le_trans Z5 K27.1
  have ne38 : au ≠ wz27 := own_neor ow27 (Ne.symm (Pdj _ (List.mem_of_getElem? (i := 1) rfl) _ (List.mem_of_getElem? (i := 1) rfl))) f12.lt
  have ne39 : ho ≠ wz27 := own_neor ow27 (Ne.symm (Pdj _ (List.mem_of_getElem? (i := 1) rfl) _ (List.mem_of_getElem? (i := 0) rfl))) f9.lt
  have ne40 : b1 ≠ wz27 := own_neor ow27 (Pdb _ (List.mem_of_getElem? (i := 0) rfl) _ (List.mem_of_getElem? (i := 1) rfl)) B5.lb
  have ne41 : wz5 ≠ wz27 := own_neor ow27 (Ne.symm ne18) B5.lw
  have ne42 : dz5 ≠ wz27 := own_neor ow27 (Ne.symm ne23) B5.ld
  have oz_wz27 : wz27 = dw ∨ h0.size ≤ wz27 := ow27.imp id (Nat.le_trans f13.1)
  have ne43 : au ≠ dz27 := own_neor od27 (Ne.symm (Pdj _ (List.mem_of_getElem? (i := 2) rfl) _ (List.mem_of_getElem? (i := 1) rfl))) f12.lt
  have ne44 : ho ≠ dz27 := own_neor od27 (Ne.symm (Pdj _ (List.mem_of_getElem? (i := 2) rfl) _ (List.mem_of_getElem? (i := 0) rfl))) f9.lt
  have ne45 : b1 ≠ dz27 := own_neor od27 (Pdb _ (List.mem_of_getElem? (i := 0) rfl) _ (List.mem_of_getElem? (i := 2) rfl)) B5.lb
  have ne46 : wz5 ≠ dz27 := own_neor od27 (Ne.symm ne19) B5.lw
  have ne47 : dz5 ≠ dz27 := own_neor od27 (Ne.symm ne24) B5.ld
  have oz_dz27 : dz27 = dd ∨ h0.size ≤ dz27 := od27.imp id (Nat.le_trans f13.1)
  show own_Go _ _ _ _ (T27.setTop (mkF m 54 #[.val (.ref au), .val (.int p1), .val (.int p2), .val (.int p3), .val (.int v4_2)] []))
  exact own_retV X27 hx Bd.notSynchronized e27 Bd.returns (hb hby d15_54) (⟨rfl, N27, f35, wz5, dz5, wz27, dz27, f37, B27, (allS (P := fun x => ∀ y ∈ [de, wz27, dz27], x ≠ y) (allS (P := fun y => b1 ≠ y) (Pdb _ (List.mem_of_getElem? (i := 0) rfl) _ (List.mem_of_getElem? (i := 0) rfl)) (allS (P := fun y => b1 ≠ y) ne40 (allS (P := fun y => b1 ≠ y) ne45 all0))) (allS (P := fun x => ∀ y ∈ [de, wz27, dz27], x ≠ y) (allS (P := fun y => wz5 ≠ y) (Ne.symm ne17) (allS (P := fun y => wz5 ≠ y) ne41 (allS (P := fun y => wz5 ≠ y) ne46 all0))) (allS (P := fun x => ∀ y ∈ [de, wz27, dz27], x ≠ y) (allS (P := fun y => dz5 ≠ y) (Ne.symm ne22) (allS (P := fun y => dz5 ≠ y) ne42 (allS (P := fun y => dz5 ≠ y) ne47 all0))) all0))), oz_wz5, oz_dz5, oz_wz27, oz_dz27⟩) (by decide) (by decide)
set_option maxRecDepth 65536 in
set_option maxHeartbeats 40000000 in
theorem rm18_o (l : Launch) (Z : State) (a0 : Array Value) (hw : ∀ d ∈ tables_1, d.before a0 Z = true) (ws : List Jvm.Cond) (au : Addr) (wd : Addr) (p1 : Int32) (no : Addr) (ln : Nat) (zl : Int32) (fA : Nat → Int32) (h0 : Heap) (n0 : Nat) (Z0 : n0 ≤ h0.size) (PFn : Fld Z h0 au "com/example/sonde/sonde/engine/AnswerSets" "none" "Lcom/example/sonde/sonde/engine/Bits;" (.ref no)) (PWd : own_AI Z h0 wd .int ln fA) (hzl : zl = ln.toInt32) (Pout : ¬ (p1 + (1 : Int32)) < zl) :
    MetFree l (⟨"com/example/sonde/sonde/engine/AnswerSets", "holding", "([II)Lcom/example/sonde/sonde/engine/Bits;"⟩ : MethodName) (head1 (Jvm.Cond.code (⟨"com/example/sonde/sonde/engine/AnswerSets", "holding", "([II)Lcom/example/sonde/sonde/engine/Bits;"⟩ : MethodName) prog_86_method_7_code 4 (some (.object "com/example/sonde/sonde/engine/Bits")) :: ws) ({ frames := 0, cells := 0, slots := 0, locals := 0 } : Room)) (fun a U => a = #[(.ref au), (.ref wd), (.int p1)] ∧ Z.Warmed39 U.vm ∧ U.heap = h0) (fun _ _ _ _ _ => True) (fun _ U o U' => ∃ vv LL, o = .returned vv ∧ own_ap (fun v h L => v = some (.ref no) ∧ Fr n0 L ∧ h = h0) vv U'.heap LL ∧ FrameEnd U o U' LL 0 0) := by
  refine MetFree.of_bodySF (plainFor_of_name pn_18) hisR ?_
  intro p e s m args below meth c s₁ Bd hml0 hP hK
  obtain ⟨rfl, hZ, hh⟩ := hP
  have hx := Bd.exec
  have hby := Bd.bytes
  have hml : c.maxLocals = 4 := hml0
  have hown : s.vm.findClass "com/example/sonde/sonde/engine/AnswerSets" = some m.cls := findClass_of_methodNamed Bd.named
  have hnm := (name_of_methodNamed Bd.named Bd.method).1
  have X0 : Stand p l e ({ frames := 0, cells := 0, slots := 0, locals := 0 } : Room) s m #[(.ref au), (.ref wd), (.int p1)] below meth c s₁ [] 0 0 := Stand.of_body Bd
  have e0 : s₁.heap = h0 := by rw [← hh, Bd.state]; rfl
  have N0 := Fr.nil n0
  show own_Go p.tables e below (own_Q s (fun v h L => v = some (.ref no) ∧ Fr n0 L ∧ h = h0) 0 0) (s₁.setTop (entryFrame m #[(.ref au), (.ref wd), (.int p1)] 4))
  rw [show entryFrame m #[(.ref au), (.ref wd), (.int p1)] 4 = mkF m 0 #[.val (.ref au), .val (.ref wd), .val (.int p1), .unset] [] from by first | (simp [entryFrame, mkF, argsToLocals, Value.category]; done) | rfl]
  show own_Go _ _ _ _ (s₁.setTop (mkF m 0 #[.val (.ref au), .val (.ref wd), .val (.int p1), .unset] []))
  refine own_by (fun _ k => XS.iloadN X0.here hx rfl (hb hby d18_0) rfl k) ?_
  refine own_by (fun _ k => XS.iconst X0.here hx rfl (hb hby d18_1) k) ?_
  show own_Go _ _ _ _ (s₁.setTop (mkF m 2 #[.val (.ref au), .val (.ref wd), .val (.int p1), .unset] [(.int (1 : Int32)), (.int p1)]))
  refine own_by (fun _ k => XS.iadd X0.here hx rfl (hb hby d18_2) rfl k) ?_
  refine own_by (fun _ k => XS.aloadN X0.here hx rfl (hb hby d18_3) rfl rfl k) ?_
  show own_Go _ _ _ _ (s₁.setTop (mkF m 4 #[.val (.ref au), .val (.ref wd), .val (.int p1), .unset] [(.ref wd), (.int (p1 + (1 : Int32)))]))
  refine own_by (fun _ k => own_len X0 hx hZ e0 PWd zl hzl (hb hby d18_4) k) ?_
  show own_Go _ _ _ _ (s₁.setTop (mkF m 5 #[.val (.ref au), .val (.ref wd), .val (.int p1), .unset] [(.int zl), (.int (p1 + (1 : Int32)))]))
  refine own_by (fun _ k => XS.icmpNo X0.here hx rfl (hb hby d18_5) rfl (flt Pout).1 k) ?_
  refine own_by (fun _ k => XS.aloadN X0.here hx rfl (hb hby d18_8) rfl rfl k) ?_
  show own_Go _ _ _ _ (s₁.setTop (mkF m 9 #[.val (.ref au), .val (.ref wd), .val (.int p1), .unset] [(.ref au)]))
  obtain ⟨T1, X1, e1, st1⟩ := getF X0 hx hZ hown (host := "") (Or.inl (hw _ (List.mem_of_getElem? (i := 50) rfl))) Via.refl e0 PFn (g := (mkF m 9 #[.val (.ref au), .val (.ref wd), .val (.int p1), .unset] [(.ref au)])) rfl rfl (hb hby d18_9)
  refine own_by st1 ?_
  show own_Go _ _ _ _ (T1.setTop (mkF m 12 #[.val (.ref au), .val (.ref wd), .val (.int p1), .unset] [(.ref no)]))
  exact own_retA X1 hx Bd.notSynchronized e1 Bd.returns rfl rfl rfl (hb hby d18_12) (⟨rfl, N0, rfl⟩) (by decide) (by decide)
set_option maxRecDepth 65536 in
set_option maxHeartbeats 40000000 in
theorem rm18_n (l : Launch) (Z : State) (a0 : Array Value) (hw : ∀ d ∈ tables_1, d.before a0 Z = true) (ws : List Jvm.Cond) (au : Addr) (wd : Addr) (p1 : Int32) (no an ho b1 : Addr) (ln N M : Nat) (zl zN : Int32) (fA : Nat → Int32) (fa F : Nat → Value) (kf kx : Nat) (h0 : Heap) (n0 : Nat) (Z0 : n0 ≤ h0.size) (PFn : Fld Z h0 au "com/example/sonde/sonde/engine/AnswerSets" "none" "Lcom/example/sonde/sonde/engine/Bits;" (.ref no)) (PWd : own_AI Z h0 wd .int ln fA) (hzl : zl = ln.toInt32) (Pin : (p1 + (1 : Int32)) < zl) (PFa : Fld Z h0 au "com/example/sonde/sonde/engine/AnswerSets" "answering" "[Lcom/example/sonde/sonde/engine/Bits;" (.ref an)) (PFh : Fld Z h0 au "com/example/sonde/sonde/engine/AnswerSets" "holding" "[Lcom/example/sonde/sonde/engine/Bits;" (.ref ho)) (PAa : own_Ra Z h0 an "com/example/sonde/sonde/engine/Bits" N fa) (PAh : own_Ra Z h0 ho "com/example/sonde/sonde/engine/Bits" M F) (hkf : p1.toInt = (kf : Int)) (hkf1 : (p1 + (1 : Int32)).toInt = ((kf + 1 : Nat) : Int)) (hkl : kf + 1 < ln) (hzN : zN = N.toInt32) (hk : (((fA kf) * zN) + (fA (kf + 1))).toInt = (kx : Int)) (hkM : kx < M) (PF : F kx = .null) :
    MetFree l (⟨"com/example/sonde/sonde/engine/AnswerSets", "holding", "([II)Lcom/example/sonde/sonde/engine/Bits;"⟩ : MethodName) (head1 (Jvm.Cond.code (⟨"com/example/sonde/sonde/engine/AnswerSets", "holding", "([II)Lcom/example/sonde/sonde/engine/Bits;"⟩ : MethodName) prog_86_method_7_code 4 (some (.object "com/example/sonde/sonde/engine/Bits")) :: ws) ({ frames := 0, cells := 0, slots := 0, locals := 0 } : Room)) (fun a U => a = #[(.ref au), (.ref wd), (.int p1)] ∧ Z.Warmed39 U.vm ∧ U.heap = h0) (fun _ _ _ _ _ => True) (fun _ U o U' => ∃ vv LL, o = .returned vv ∧ own_ap (fun v h L => v = some (.ref no) ∧ Fr n0 L ∧ h = h0) vv U'.heap LL ∧ FrameEnd U o U' LL 0 0) := by
  refine MetFree.of_bodySF (plainFor_of_name pn_18) hisR ?_
  intro p e s m args below meth c s₁ Bd hml0 hP hK
  obtain ⟨rfl, hZ, hh⟩ := hP
  have hx := Bd.exec
  have hby := Bd.bytes
  have hml : c.maxLocals = 4 := hml0
  have hown : s.vm.findClass "com/example/sonde/sonde/engine/AnswerSets" = some m.cls := findClass_of_methodNamed Bd.named
  have hnm := (name_of_methodNamed Bd.named Bd.method).1
  have X0 : Stand p l e ({ frames := 0, cells := 0, slots := 0, locals := 0 } : Room) s m #[(.ref au), (.ref wd), (.int p1)] below meth c s₁ [] 0 0 := Stand.of_body Bd
  have e0 : s₁.heap = h0 := by rw [← hh, Bd.state]; rfl
  have N0 := Fr.nil n0
  show own_Go p.tables e below (own_Q s (fun v h L => v = some (.ref no) ∧ Fr n0 L ∧ h = h0) 0 0) (s₁.setTop (entryFrame m #[(.ref au), (.ref wd), (.int p1)] 4))
  rw [show entryFrame m #[(.ref au), (.ref wd), (.int p1)] 4 = mkF m 0 #[.val (.ref au), .val (.ref wd), .val (.int p1), .unset] [] from by first | (simp [entryFrame, mkF, argsToLocals, Value.category]; done) | rfl]
  show own_Go _ _ _ _ (s₁.setTop (mkF m 0 #[.val (.ref au), .val (.ref wd), .val (.int p1), .unset] []))
  refine own_by (fun _ k => XS.iloadN X0.here hx rfl (hb hby d18_0) rfl k) ?_
  refine own_by (fun _ k => XS.iconst X0.here hx rfl (hb hby d18_1) k) ?_
  show own_Go _ _ _ _ (s₁.setTop (mkF m 2 #[.val (.ref au), .val (.ref wd), .val (.int p1), .unset] [(.int (1 : Int32)), (.int p1)]))
  refine own_by (fun _ k => XS.iadd X0.here hx rfl (hb hby d18_2) rfl k) ?_
  refine own_by (fun _ k => XS.aloadN X0.here hx rfl (hb hby d18_3) rfl rfl k) ?_
  show own_Go _ _ _ _ (s₁.setTop (mkF m 4 #[.val (.ref au), .val (.ref wd), .val (.int p1), .unset] [(.ref wd), (.int (p1 + (1 : Int32)))]))
  refine own_by (fun _ k => own_len X0 hx hZ e0 PWd zl hzl (hb hby d18_4) k) ?_
  show own_Go _ _ _ _ (s₁.setTop (mkF m 5 #[.val (.ref au), .val (.ref wd), .val (.int p1), .unset] [(.int zl), (.int (p1 + (1 : Int32)))]))
  refine own_by (fun _ k => XS.icmpYes X0.here hx rfl (pc0 := 5) (pc' := 13) rfl (hb hby d18_5) rfl (tlt Pin).1 (by decide) (by decide) k) ?_
  refine own_by (fun _ k => XS.aloadN X0.here hx rfl (hb hby d18_13) rfl rfl k) ?_
  show own_Go _ _ _ _ (s₁.setTop (mkF m 14 #[.val (.ref au), .val (.ref wd), .val (.int p1), .unset] [(.ref au)]))
  obtain ⟨T1, X1, e1, st1⟩ := getF X0 hx hZ hown (host := "") (Or.inl (hw _ (List.mem_of_getElem? (i := 72) rfl))) Via.refl e0 PFh (g := (mkF m 14 #[.val (.ref au), .val (.ref wd), .val (.int p1), .unset] [(.ref au)])) rfl rfl (hb hby d18_14)
  refine own_by st1 ?_
  refine own_by (fun _ k => XS.aloadN X1.here hx rfl (hb hby d18_17) rfl rfl k) ?_
  refine own_by (fun _ k => XS.iloadN X1.here hx rfl (hb hby d18_18) rfl k) ?_
  show own_Go _ _ _ _ (T1.setTop (mkF m 19 #[.val (.ref au), .val (.ref wd), .val (.int p1), .unset] [(.int p1), (.ref wd), (.ref ho)]))
  refine own_by (fun _ k => own_ial X1 hx hZ e1 PWd kf hkf (by omega) (hb hby d18_19) k) ?_
  refine own_by (fun _ k => XS.aloadN X1.here hx rfl (hb hby d18_20) rfl rfl k) ?_
  show own_Go _ _ _ _ (T1.setTop (mkF m 21 #[.val (.ref au), .val (.ref wd), .val (.int p1), .unset] [(.ref au), (.int (fA kf)), (.ref ho)]))
  obtain ⟨T2, X2, e2, st2⟩ := getF X1 hx hZ hown (host := "") (Or.inl (hw _ (List.mem_of_getElem? (i := 53) rfl))) Via.refl e1 PFa (g := (mkF m 21 #[.val (.ref au), .val (.ref wd), .val (.int p1), .unset] [(.ref au), (.int (fA kf)), (.ref ho)])) rfl rfl (hb hby d18_21)
  refine own_by st2 ?_
  show own_Go _ _ _ _ (T2.setTop (mkF m 24 #[.val (.ref au), .val (.ref wd), .val (.int p1), .unset] [(.ref an), (.int (fA kf)), (.ref ho)]))
  refine own_by (fun _ k => own_len X2 hx hZ e2 PAa.ar zN hzN (hb hby d18_24) k) ?_
  show own_Go _ _ _ _ (T2.setTop (mkF m 25 #[.val (.ref au), .val (.ref wd), .val (.int p1), .unset] [(.int zN), (.int (fA kf)), (.ref ho)]))
  refine own_by (fun _ k => XS.imul X2.here hx rfl (hb hby d18_25) rfl k) ?_
  refine own_by (fun _ k => XS.aloadN X2.here hx rfl (hb hby d18_26) rfl rfl k) ?_
  refine own_by (fun _ k => XS.iloadN X2.here hx rfl (hb hby d18_27) rfl k) ?_
  show own_Go _ _ _ _ (T2.setTop (mkF m 28 #[.val (.ref au), .val (.ref wd), .val (.int p1), .unset] [(.int p1), (.ref wd), (.int ((fA kf) * zN)), (.ref ho)]))
  refine own_by (fun _ k => XS.iconst X2.here hx rfl (hb hby d18_28) k) ?_
  show own_Go _ _ _ _ (T2.setTop (mkF m 29 #[.val (.ref au), .val (.ref wd), .val (.int p1), .unset] [(.int (1 : Int32)), (.int p1), (.ref wd), (.int ((fA kf) * zN)), (.ref ho)]))
  refine own_by (fun _ k => XS.iadd X2.here hx rfl (hb hby d18_29) rfl k) ?_
  show own_Go _ _ _ _ (T2.setTop (mkF m 30 #[.val (.ref au), .val (.ref wd), .val (.int p1), .unset] [(.int (p1 + (1 : Int32))), (.ref wd), (.int ((fA kf) * zN)), (.ref ho)]))
  refine own_by (fun _ k => own_ial X2 hx hZ e2 PWd (kf + 1) hkf1 hkl (hb hby d18_30) k) ?_
  show own_Go _ _ _ _ (T2.setTop (mkF m 31 #[.val (.ref au), .val (.ref wd), .val (.int p1), .unset] [(.int (fA (kf + 1))), (.int ((fA kf) * zN)), (.ref ho)]))
  refine own_by (fun _ k => XS.iadd X2.here hx rfl (hb hby d18_31) rfl k) ?_
  show own_Go _ _ _ _ (T2.setTop (mkF m 32 #[.val (.ref au), .val (.ref wd), .val (.int p1), .unset] [(.int (((fA kf) * zN) + (fA (kf + 1)))), (.ref ho)]))
  refine own_by (fun _ k => own_aal X2 hx hZ e2 PAh kx hk hkM (hb hby d18_32) k) ?_
  show own_Go _ _ _ _ (T2.setTop (mkF m 33 #[.val (.ref au), .val (.ref wd), .val (.int p1), .unset] [(F kx)]))
  refine own_gen PF (fun z_ => T2.setTop (mkF m 33 #[.val (.ref au), .val (.ref wd), .val (.int p1), .unset] [z_])) ?_
  show own_Go _ _ _ _ (T2.setTop (mkF m 33 #[.val (.ref au), .val (.ref wd), .val (.int p1), .unset] [.null]))
  refine own_by (fun _ k => XS.astoreN X2.here hx rfl (hb hby d18_33) rfl rfl (l' := #[.val (.ref au), .val (.ref wd), .val (.int p1), .val .null]) rfl k) ?_
  refine own_by (fun _ k => XS.aloadN X2.here hx rfl (hb hby d18_34) rfl rfl k) ?_
  show own_Go _ _ _ _ (T2.setTop (mkF m 35 #[.val (.ref au), .val (.ref wd), .val (.int p1), .val .null] [.null]))
  refine own_by (fun _ k => XS.ifnonnullNo X2.here hx rfl (hb hby d18_35) rfl k) ?_
  refine own_by (fun _ k => XS.aloadN X2.here hx rfl (hb hby d18_38) rfl rfl k) ?_
  show own_Go _ _ _ _ (T2.setTop (mkF m 39 #[.val (.ref au), .val (.ref wd), .val (.int p1), .val .null] [(.ref au)]))
  obtain ⟨T3, X3, e3, st3⟩ := getF X2 hx hZ hown (host := "") (Or.inl (hw _ (List.mem_of_getElem? (i := 50) rfl))) Via.refl e2 PFn (g := (mkF m 39 #[.val (.ref au), .val (.ref wd), .val (.int p1), .val .null] [(.ref au)])) rfl rfl (hb hby d18_39)
  refine own_by st3 ?_
  show own_Go _ _ _ _ (T3.setTop (mkF m 42 #[.val (.ref au), .val (.ref wd), .val (.int p1), .val .null] [(.ref no)]))
  refine own_by (fun _ k => XS.goto X3.here hx rfl (pc0 := 42) (pc' := 46) rfl (hb hby d18_42) (by decide) (by decide) k) ?_
  show own_Go _ _ _ _ (T3.setTop (mkF m 46 #[.val (.ref au), .val (.ref wd), .val (.int p1), .val .null] [(.ref no)]))
  exact own_retA X3 hx Bd.notSynchronized e3 Bd.returns rfl rfl rfl (hb hby d18_46) (⟨rfl, N0, rfl⟩) (by decide) (by decide)
set_option maxRecDepth 65536 in
set_option maxHeartbeats 40000000 in
theorem rm18_r (l : Launch) (Z : State) (a0 : Array Value) (hw : ∀ d ∈ tables_1, d.before a0 Z = true) (ws : List Jvm.Cond) (au : Addr) (wd : Addr) (p1 : Int32) (no an ho b1 : Addr) (ln N M : Nat) (zl zN : Int32) (fA : Nat → Int32) (fa F : Nat → Value) (kf kx : Nat) (h0 : Heap) (n0 : Nat) (Z0 : n0 ≤ h0.size) (PFn : Fld Z h0 au "com/example/sonde/sonde/engine/AnswerSets" "none" "Lcom/example/sonde/sonde/engine/Bits;" (.ref no)) (PWd : own_AI Z h0 wd .int ln fA) (hzl : zl = ln.toInt32) (Pin : (p1 + (1 : Int32)) < zl) (PFa : Fld Z h0 au "com/example/sonde/sonde/engine/AnswerSets" "answering" "[Lcom/example/sonde/sonde/engine/Bits;" (.ref an)) (PFh : Fld Z h0 au "com/example/sonde/sonde/engine/AnswerSets" "holding" "[Lcom/example/sonde/sonde/engine/Bits;" (.ref ho)) (PAa : own_Ra Z h0 an "com/example/sonde/sonde/engine/Bits" N fa) (PAh : own_Ra Z h0 ho "com/example/sonde/sonde/engine/Bits" M F) (hkf : p1.toInt = (kf : Int)) (hkf1 : (p1 + (1 : Int32)).toInt = ((kf + 1 : Nat) : Int)) (hkl : kf + 1 < ln) (hzN : zN = N.toInt32) (hk : (((fA kf) * zN) + (fA (kf + 1))).toInt = (kx : Int)) (hkM : kx < M) (PF : F kx = .ref b1) :
    MetFree l (⟨"com/example/sonde/sonde/engine/AnswerSets", "holding", "([II)Lcom/example/sonde/sonde/engine/Bits;"⟩ : MethodName) (head1 (Jvm.Cond.code (⟨"com/example/sonde/sonde/engine/AnswerSets", "holding", "([II)Lcom/example/sonde/sonde/engine/Bits;"⟩ : MethodName) prog_86_method_7_code 4 (some (.object "com/example/sonde/sonde/engine/Bits")) :: ws) ({ frames := 0, cells := 0, slots := 0, locals := 0 } : Room)) (fun a U => a = #[(.ref au), (.ref wd), (.int p1)] ∧ Z.Warmed39 U.vm ∧ U.heap = h0) (fun _ _ _ _ _ => True) (fun _ U o U' => ∃ vv LL, o = .returned vv ∧ own_ap (fun v h L => v = some (.ref b1) ∧ Fr n0 L ∧ h = h0) vv U'.heap LL ∧ FrameEnd U o U' LL 0 0) := by
  refine MetFree.of_bodySF (plainFor_of_name pn_18) hisR ?_
  intro p e s m args below meth c s₁ Bd hml0 hP hK
  obtain ⟨rfl, hZ, hh⟩ := hP
  have hx := Bd.exec
  have hby := Bd.bytes
  have hml : c.maxLocals = 4 := hml0
  have hown : s.vm.findClass "com/example/sonde/sonde/engine/AnswerSets" = some m.cls := findClass_of_methodNamed Bd.named
  have hnm := (name_of_methodNamed Bd.named Bd.method).1
  have X0 : Stand p l e ({ frames := 0, cells := 0, slots := 0, locals := 0 } : Room) s m #[(.ref au), (.ref wd), (.int p1)] below meth c s₁ [] 0 0 := Stand.of_body Bd
  have e0 : s₁.heap = h0 := by rw [← hh, Bd.state]; rfl
  have N0 := Fr.nil n0
  show own_Go p.tables e below (own_Q s (fun v h L => v = some (.ref b1) ∧ Fr n0 L ∧ h = h0) 0 0) (s₁.setTop (entryFrame m #[(.ref au), (.ref wd), (.int p1)] 4))
  rw [show entryFrame m #[(.ref au), (.ref wd), (.int p1)] 4 = mkF m 0 #[.val (.ref au), .val (.ref wd), .val (.int p1), .unset] [] from by first | (simp [entryFrame, mkF, argsToLocals, Value.category]; done) | rfl]
  show own_Go _ _ _ _ (s₁.setTop (mkF m 0 #[.val (.ref au), .val (.ref wd), .val (.int p1), .unset] []))
  refine own_by (fun _ k => XS.iloadN X0.here hx rfl (hb hby d18_0) rfl k) ?_
  refine own_by (fun _ k => XS.iconst X0.here hx rfl (hb hby d18_1) k) ?_
  show own_Go _ _ _ _ (s₁.setTop (mkF m 2 #[.val (.ref au), .val (.ref wd), .val (.int p1), .unset] [(.int (1 : Int32)), (.int p1)]))
  refine own_by (fun _ k => XS.iadd X0.here hx rfl (hb hby d18_2) rfl k) ?_
  refine own_by (fun _ k => XS.aloadN X0.here hx rfl (hb hby d18_3) rfl rfl k) ?_
  show own_Go _ _ _ _ (s₁.setTop (mkF m 4 #[.val (.ref au), .val (.ref wd), .val (.int p1), .unset] [(.ref wd), (.int (p1 + (1 : Int32)))]))
  refine own_by (fun _ k => own_len X0 hx hZ e0 PWd zl hzl (hb hby d18_4) k) ?_
  show own_Go _ _ _ _ (s₁.setTop (mkF m 5 #[.val (.ref au), .val (.ref wd), .val (.int p1), .unset] [(.int zl), (.int (p1 + (1 : Int32)))]))
  refine own_by (fun _ k => XS.icmpYes X0.here hx rfl (pc0 := 5) (pc' := 13) rfl (hb hby d18_5) rfl (tlt Pin).1 (by decide) (by decide) k) ?_
  refine own_by (fun _ k => XS.aloadN X0.here hx rfl (hb hby d18_13) rfl rfl k) ?_
  show own_Go _ _ _ _ (s₁.setTop (mkF m 14 #[.val (.ref au), .val (.ref wd), .val (.int p1), .unset] [(.ref au)]))
  obtain ⟨T1, X1, e1, st1⟩ := getF X0 hx hZ hown (host := "") (Or.inl (hw _ (List.mem_of_getElem? (i := 72) rfl))) Via.refl e0 PFh (g := (mkF m 14 #[.val (.ref au), .val (.ref wd), .val (.int p1), .unset] [(.ref au)])) rfl rfl (hb hby d18_14)
  refine own_by st1 ?_
  refine own_by (fun _ k => XS.aloadN X1.here hx rfl (hb hby d18_17) rfl rfl k) ?_
  refine own_by (fun _ k => XS.iloadN X1.here hx rfl (hb hby d18_18) rfl k) ?_
  show own_Go _ _ _ _ (T1.setTop (mkF m 19 #[.val (.ref au), .val (.ref wd), .val (.int p1), .unset] [(.int p1), (.ref wd), (.ref ho)]))
  refine own_by (fun _ k => own_ial X1 hx hZ e1 PWd kf hkf (by omega) (hb hby d18_19) k) ?_
  refine own_by (fun _ k => XS.aloadN X1.here hx rfl (hb hby d18_20) rfl rfl k) ?_
  show own_Go _ _ _ _ (T1.setTop (mkF m 21 #[.val (.ref au), .val (.ref wd), .val (.int p1), .unset] [(.ref au), (.int (fA kf)), (.ref ho)]))
  obtain ⟨T2, X2, e2, st2⟩ := getF X1 hx hZ hown (host := "") (Or.inl (hw _ (List.mem_of_getElem? (i := 53) rfl))) Via.refl e1 PFa (g := (mkF m 21 #[.val (.ref au), .val (.ref wd), .val (.int p1), .unset] [(.ref au), (.int (fA kf)), (.ref ho)])) rfl rfl (hb hby d18_21)
  refine own_by st2 ?_
  show own_Go _ _ _ _ (T2.setTop (mkF m 24 #[.val (.ref au), .val (.ref wd), .val (.int p1), .unset] [(.ref an), (.int (fA kf)), (.ref ho)]))
  refine own_by (fun _ k => own_len X2 hx hZ e2 PAa.ar zN hzN (hb hby d18_24) k) ?_
  show own_Go _ _ _ _ (T2.setTop (mkF m 25 #[.val (.ref au), .val (.ref wd), .val (.int p1), .unset] [(.int zN), (.int (fA kf)), (.ref ho)]))
  refine own_by (fun _ k => XS.imul X2.here hx rfl (hb hby d18_25) rfl k) ?_
  refine own_by (fun _ k => XS.aloadN X2.here hx rfl (hb hby d18_26) rfl rfl k) ?_
  refine own_by (fun _ k => XS.iloadN X2.here hx rfl (hb hby d18_27) rfl k) ?_
  show own_Go _ _ _ _ (T2.setTop (mkF m 28 #[.val (.ref au), .val (.ref wd), .val (.int p1), .unset] [(.int p1), (.ref wd), (.int ((fA kf) * zN)), (.ref ho)]))
  refine own_by (fun _ k => XS.iconst X2.here hx rfl (hb hby d18_28) k) ?_
  show own_Go _ _ _ _ (T2.setTop (mkF m 29 #[.val (.ref au), .val (.ref wd), .val (.int p1), .unset] [(.int (1 : Int32)), (.int p1), (.ref wd), (.int ((fA kf) * zN)), (.ref ho)]))
  refine own_by (fun _ k => XS.iadd X2.here hx rfl (hb hby d18_29) rfl k) ?_
  show own_Go _ _ _ _ (T2.setTop (mkF m 30 #[.val (.ref au), .val (.ref wd), .val (.int p1), .unset] [(.int (p1 + (1 : Int32))), (.ref wd), (.int ((fA kf) * zN)), (.ref ho)]))
  refine own_by (fun _ k => own_ial X2 hx hZ e2 PWd (kf + 1) hkf1 hkl (hb hby d18_30) k) ?_
  show own_Go _ _ _ _ (T2.setTop (mkF m 31 #[.val (.ref au), .val (.ref wd), .val (.int p1), .unset] [(.int (fA (kf + 1))), (.int ((fA kf) * zN)), (.ref ho)]))
  refine own_by (fun _ k => XS.iadd X2.here hx rfl (hb hby d18_31) rfl k) ?_
  show own_Go _ _ _ _ (T2.setTop (mkF m 32 #[.val (.ref au), .val (.ref wd), .val (.int p1), .unset] [(.int (((fA kf) * zN) + (fA (kf + 1)))), (.ref ho)]))
  refine own_by (fun _ k => own_aal X2 hx hZ e2 PAh kx hk hkM (hb hby d18_32) k) ?_
  show own_Go _ _ _ _ (T2.setTop (mkF m 33 #[.val (.ref au), .val (.ref wd), .val (.int p1), .unset] [(F kx)]))
  refine own_gen PF (fun z_ => T2.setTop (mkF m 33 #[.val (.ref au), .val (.ref wd), .val (.int p1), .unset] [z_])) ?_
  show own_Go _ _ _ _ (T2.setTop (mkF m 33 #[.val (.ref au), .val (.ref wd), .val (.int p1), .unset] [(.ref b1)]))
  refine own_by (fun _ k => XS.astoreN X2.here hx rfl (hb hby d18_33) rfl rfl (l' := #[.val (.ref au), .val (.ref wd), .val (.int p1), .val (.ref b1)]) rfl k) ?_
  refine own_by (fun _ k => XS.aloadN X2.here hx rfl (hb hby d18_34) rfl rfl k) ?_
  show own_Go _ _ _ _ (T2.setTop (mkF m 35 #[.val (.ref au), .val (.ref wd), .val (.int p1), .val (.ref b1)] [(.ref b1)]))
  refine own_by (fun _ k => XS.ifnonnullYes X2.here hx rfl (pc0 := 35) (pc' := 45) rfl (hb hby d18_35) rfl (by decide) (by decide) k) ?_
  refine own_by (fun _ k => XS.aloadN X2.here hx rfl (hb hby d18_45) rfl rfl k) ?_
  show own_Go _ _ _ _ (T2.setTop (mkF m 46 #[.val (.ref au), .val (.ref wd), .val (.int p1), .val (.ref b1)] [(.ref b1)]))
  exact own_retA X2 hx Bd.notSynchronized e2 Bd.returns rfl rfl rfl (hb hby d18_46) (⟨rfl, N0, rfl⟩) (by decide) (by decide)
def own_xp (x a u b v : Int32) : Int32 := if x = a ∧ ¬ u = 0 then 1 else if x = b ∧ ¬ v = 0 then 1 else 0
set_option maxRecDepth 65536 in
set_option maxHeartbeats 40000000 in
theorem rm20 (l : Launch) (Z : State) (a0 : Array Value) (hw : ∀ d ∈ tables_1, d.before a0 Z = true) (ws : List Jvm.Cond) (p1 : Int32) (p2 : Int32) (p3 : Int32) (p4 : Int32) (p5 : Int32)  (h0 : Heap) (n0 : Nat) (Z0 : n0 ≤ h0.size) :
    MetFree l (⟨"com/example/sonde/sonde/engine/AnswerSetsHoldingPinLaw", "expect", "(IIZIZ)Z"⟩ : MethodName) (head1 (Jvm.Cond.code (⟨"com/example/sonde/sonde/engine/AnswerSetsHoldingPinLaw", "expect", "(IIZIZ)Z"⟩ : MethodName) method_2_code 5 (some .boolean) :: ws) ({ frames := 0, cells := 0, slots := 0, locals := 0 } : Room)) (fun a U => a = #[(.int p1), (.int p2), (.int p3), (.int p4), (.int p5)] ∧ Z.Warmed39 U.vm ∧ U.heap = h0) (fun _ _ _ _ _ => True) (fun _ U o U' => ∃ vv LL, o = .returned vv ∧ own_ap (fun v h L => v = some (.int (own_xp p1 p2 p3 p4 p5)) ∧ Fr n0 L ∧ h = h0) vv U'.heap LL ∧ FrameEnd U o U' LL 0 0) := by
  refine MetFree.of_bodySF (plainFor_of_name pn_20) hisR ?_
  intro p e s m args below meth c s₁ Bd hml0 hP hK
  obtain ⟨rfl, hZ, hh⟩ := hP
  have hx := Bd.exec
  have hby := Bd.bytes
  have hml : c.maxLocals = 5 := hml0
  have hown : s.vm.findClass "com/example/sonde/sonde/engine/AnswerSetsHoldingPinLaw" = some m.cls := findClass_of_methodNamed Bd.named
  have hnm := (name_of_methodNamed Bd.named Bd.method).1
  have X0 : Stand p l e ({ frames := 0, cells := 0, slots := 0, locals := 0 } : Room) s m #[(.int p1), (.int p2), (.int p3), (.int p4), (.int p5)] below meth c s₁ [] 0 0 := Stand.of_body Bd
  have e0 : s₁.heap = h0 := by rw [← hh, Bd.state]; rfl
  have N0 := Fr.nil n0
  show own_Go p.tables e below (own_Q s (fun v h L => v = some (.int (own_xp p1 p2 p3 p4 p5)) ∧ Fr n0 L ∧ h = h0) 0 0) (s₁.setTop (entryFrame m #[(.int p1), (.int p2), (.int p3), (.int p4), (.int p5)] 5))
  rw [show entryFrame m #[(.int p1), (.int p2), (.int p3), (.int p4), (.int p5)] 5 = mkF m 0 #[.val (.int p1), .val (.int p2), .val (.int p3), .val (.int p4), .val (.int p5)] [] from by first | (simp [entryFrame, mkF, argsToLocals, Value.category]; done) | rfl]
  show own_Go _ _ _ _ (s₁.setTop (mkF m 0 #[.val (.int p1), .val (.int p2), .val (.int p3), .val (.int p4), .val (.int p5)] []))
  refine own_by (fun _ k => XS.iloadN X0.here hx rfl (hb hby d20_0) rfl k) ?_
  refine own_by (fun _ k => XS.iloadN X0.here hx rfl (hb hby d20_1) rfl k) ?_
  show own_Go _ _ _ _ (s₁.setTop (mkF m 2 #[.val (.int p1), .val (.int p2), .val (.int p3), .val (.int p4), .val (.int p5)] [(.int p2), (.int p1)]))
  by_cases hc1 : p1 = p2
  · --
    refine own_by (fun _ k => XS.icmpNo X0.here hx rfl (hb hby d20_2) rfl (teq hc1).2 k) ?_
    refine own_by (fun _ k => XS.iloadN X0.here hx rfl (hb hby d20_5) rfl k) ?_
    show own_Go _ _ _ _ (s₁.setTop (mkF m 6 #[.val (.int p1), .val (.int p2), .val (.int p3), .val (.int p4), .val (.int p5)] [(.int p3)]))
    by_cases hc2 : p3 = (0 : Int32)
    · --
      refine own_by (fun _ k => XS.ifNo X0.here hx rfl (hb hby d20_6) rfl ((if0 _ _).trans (teq hc2).2) k) ?_
      refine own_by (fun _ k => XS.iloadN X0.here hx rfl (hb hby d20_9) rfl k) ?_
      refine own_by (fun _ k => XS.iloadN X0.here hx rfl (hb hby d20_10) rfl k) ?_
      show own_Go _ _ _ _ (s₁.setTop (mkF m 11 #[.val (.int p1), .val (.int p2), .val (.int p3), .val (.int p4), .val (.int p5)] [(.int p4), (.int p1)]))
      by_cases hc3 : p1 = p4
      · --
        refine own_by (fun _ k => XS.icmpNo X0.here hx rfl (hb hby d20_11) rfl (teq hc3).2 k) ?_
        refine own_by (fun _ k => XS.iload X0.here hx rfl (hb hby d20_14) rfl k) ?_
        show own_Go _ _ _ _ (s₁.setTop (mkF m 16 #[.val (.int p1), .val (.int p2), .val (.int p3), .val (.int p4), .val (.int p5)] [(.int p5)]))
        by_cases hc4 : p5 = (0 : Int32)
        · --
          refine own_by (fun _ k => XS.ifYes X0.here hx rfl (pc0 := 16) (pc' := 23) rfl (hb hby d20_16) rfl ((if0 _ _).trans (teq hc4).1) (by decide) (by decide) k) ?_
          refine own_by (fun _ k => XS.iconst X0.here hx rfl (hb hby d20_23) k) ?_
          show own_Go _ _ _ _ (s₁.setTop (mkF m 24 #[.val (.int p1), .val (.int p2), .val (.int p3), .val (.int p4), .val (.int p5)] [(.int (0 : Int32))]))
          exact own_retN X0 hx Bd.notSynchronized e0 Bd.returns (by simp) (hb hby d20_24) (⟨by rw [show own_xp p1 p2 p3 p4 p5 = 0 from by unfold own_xp; rw [if_neg (fun q => q.2 hc2), if_neg (fun q => q.2 hc4)]]; rfl, N0, rfl⟩) (by decide) (by decide)
        · --
          refine own_by (fun _ k => XS.ifNo X0.here hx rfl (hb hby d20_16) rfl ((if0 _ _).trans (feq hc4).1) k) ?_
          refine own_by (fun _ k => XS.iconst X0.here hx rfl (hb hby d20_19) k) ?_
          show own_Go _ _ _ _ (s₁.setTop (mkF m 20 #[.val (.int p1), .val (.int p2), .val (.int p3), .val (.int p4), .val (.int p5)] [(.int (1 : Int32))]))
          refine own_by (fun _ k => XS.goto X0.here hx rfl (pc0 := 20) (pc' := 24) rfl (hb hby d20_20) (by decide) (by decide) k) ?_
          show own_Go _ _ _ _ (s₁.setTop (mkF m 24 #[.val (.int p1), .val (.int p2), .val (.int p3), .val (.int p4), .val (.int p5)] [(.int (1 : Int32))]))
          exact own_retN X0 hx Bd.notSynchronized e0 Bd.returns (by simp) (hb hby d20_24) (⟨by rw [show own_xp p1 p2 p3 p4 p5 = 1 from by unfold own_xp; rw [if_neg (fun q => q.2 hc2), if_pos ⟨hc3, hc4⟩]]; rfl, N0, rfl⟩) (by decide) (by decide)
      · --
        refine own_by (fun _ k => XS.icmpYes X0.here hx rfl (pc0 := 11) (pc' := 23) rfl (hb hby d20_11) rfl (feq hc3).2 (by decide) (by decide) k) ?_
        refine own_by (fun _ k => XS.iconst X0.here hx rfl (hb hby d20_23) k) ?_
        show own_Go _ _ _ _ (s₁.setTop (mkF m 24 #[.val (.int p1), .val (.int p2), .val (.int p3), .val (.int p4), .val (.int p5)] [(.int (0 : Int32))]))
        exact own_retN X0 hx Bd.notSynchronized e0 Bd.returns (by simp) (hb hby d20_24) (⟨by rw [show own_xp p1 p2 p3 p4 p5 = 0 from by unfold own_xp; rw [if_neg (fun q => q.2 hc2), if_neg (fun q => hc3 q.1)]]; rfl, N0, rfl⟩) (by decide) (by decide)
    · --
      refine own_by (fun _ k => XS.ifYes X0.here hx rfl (pc0 := 6) (pc' := 19) rfl (hb hby d20_6) rfl ((if0 _ _).trans (feq hc2).2) (by decide) (by decide) k) ?_
      refine own_by (fun _ k => XS.iconst X0.here hx rfl (hb hby d20_19) k) ?_
      show own_Go _ _ _ _ (s₁.setTop (mkF m 20 #[.val (.int p1), .val (.int p2), .val (.int p3), .val (.int p4), .val (.int p5)] [(.int (1 : Int32))]))
      refine own_by (fun _ k => XS.goto X0.here hx rfl (pc0 := 20) (pc' := 24) rfl (hb hby d20_20) (by decide) (by decide) k) ?_
      show own_Go _ _ _ _ (s₁.setTop (mkF m 24 #[.val (.int p1), .val (.int p2), .val (.int p3), .val (.int p4), .val (.int p5)] [(.int (1 : Int32))]))
      exact own_retN X0 hx Bd.notSynchronized e0 Bd.returns (by simp) (hb hby d20_24) (⟨by rw [show own_xp p1 p2 p3 p4 p5 = 1 from by unfold own_xp; rw [if_pos ⟨hc1, hc2⟩]]; rfl, N0, rfl⟩) (by decide) (by decide)
  · --
    refine own_by (fun _ k => XS.icmpYes X0.here hx rfl (pc0 := 2) (pc' := 9) rfl (hb hby d20_2) rfl (feq hc1).2 (by decide) (by decide) k) ?_
    refine own_by (fun _ k => XS.iloadN X0.here hx rfl (hb hby d20_9) rfl k) ?_
    refine own_by (fun _ k => XS.iloadN X0.here hx rfl (hb hby d20_10) rfl k) ?_
    show own_Go _ _ _ _ (s₁.setTop (mkF m 11 #[.val (.int p1), .val (.int p2), .val (.int p3), .val (.int p4), .val (.int p5)] [(.int p4), (.int p1)]))
    by_cases hc5 : p1 = p4
    · --
      refine own_by (fun _ k => XS.icmpNo X0.here hx rfl (hb hby d20_11) rfl (teq hc5).2 k) ?_
      refine own_by (fun _ k => XS.iload X0.here hx rfl (hb hby d20_14) rfl k) ?_
      show own_Go _ _ _ _ (s₁.setTop (mkF m 16 #[.val (.int p1), .val (.int p2), .val (.int p3), .val (.int p4), .val (.int p5)] [(.int p5)]))
      by_cases hc6 : p5 = (0 : Int32)
      · --
        refine own_by (fun _ k => XS.ifYes X0.here hx rfl (pc0 := 16) (pc' := 23) rfl (hb hby d20_16) rfl ((if0 _ _).trans (teq hc6).1) (by decide) (by decide) k) ?_
        refine own_by (fun _ k => XS.iconst X0.here hx rfl (hb hby d20_23) k) ?_
        show own_Go _ _ _ _ (s₁.setTop (mkF m 24 #[.val (.int p1), .val (.int p2), .val (.int p3), .val (.int p4), .val (.int p5)] [(.int (0 : Int32))]))
        exact own_retN X0 hx Bd.notSynchronized e0 Bd.returns (by simp) (hb hby d20_24) (⟨by rw [show own_xp p1 p2 p3 p4 p5 = 0 from by unfold own_xp; rw [if_neg (fun q => hc1 q.1), if_neg (fun q => q.2 hc6)]]; rfl, N0, rfl⟩) (by decide) (by decide)
      · --
        refine own_by (fun _ k => XS.ifNo X0.here hx rfl (hb hby d20_16) rfl ((if0 _ _).trans (feq hc6).1) k) ?_
        refine own_by (fun _ k => XS.iconst X0.here hx rfl (hb hby d20_19) k) ?_
        show own_Go _ _ _ _ (s₁.setTop (mkF m 20 #[.val (.int p1), .val (.int p2), .val (.int p3), .val (.int p4), .val (.int p5)] [(.int (1 : Int32))]))
        refine own_by (fun _ k => XS.goto X0.here hx rfl (pc0 := 20) (pc' := 24) rfl (hb hby d20_20) (by decide) (by decide) k) ?_
        show own_Go _ _ _ _ (s₁.setTop (mkF m 24 #[.val (.int p1), .val (.int p2), .val (.int p3), .val (.int p4), .val (.int p5)] [(.int (1 : Int32))]))
        exact own_retN X0 hx Bd.notSynchronized e0 Bd.returns (by simp) (hb hby d20_24) (⟨by rw [show own_xp p1 p2 p3 p4 p5 = 1 from by unfold own_xp; rw [if_neg (fun q => hc1 q.1), if_pos ⟨hc5, hc6⟩]]; rfl, N0, rfl⟩) (by decide) (by decide)
    · --
      refine own_by (fun _ k => XS.icmpYes X0.here hx rfl (pc0 := 11) (pc' := 23) rfl (hb hby d20_11) rfl (feq hc5).2 (by decide) (by decide) k) ?_
      refine own_by (fun _ k => XS.iconst X0.here hx rfl (hb hby d20_23) k) ?_
      show own_Go _ _ _ _ (s₁.setTop (mkF m 24 #[.val (.int p1), .val (.int p2), .val (.int p3), .val (.int p4), .val (.int p5)] [(.int (0 : Int32))]))
      exact own_retN X0 hx Bd.notSynchronized e0 Bd.returns (by simp) (hb hby d20_24) (⟨by rw [show own_xp p1 p2 p3 p4 p5 = 0 from by unfold own_xp; rw [if_neg (fun q => hc1 q.1), if_neg (fun q => hc5 q.1)]]; rfl, N0, rfl⟩) (by decide) (by decide)
def own_bd (N : Nat) (f : Nat → Int32) : Prop := ∀ j, ∃ x : Nat, (f j).toInt = (x : Int) ∧ x < N
theorem own_bd0 {N : Nat} (h : 1 ≤ N) : own_bd N (fun _ => 0) := fun j => ⟨0, (show (0 : Int32).toInt = 0 from by decide), h⟩
theorem own_bd_upd {N : Nat} {f : Nat → Int32} (B : own_bd N f) {k : Nat} {v : Int32} (h : ∃ x : Nat, v.toInt = (x : Int) ∧ x < N) : own_bd N (own_upd f k v) := fun j => by
  unfold own_upd; split
  · exact h
  · exact B j
theorem own_and {x v m : Int32} (hm : 0 ≤ m.toInt) (h : x &&& m = v) : 0 ≤ v.toInt ∧ v.toInt ≤ m.toInt := by
  have c1 := c_and x m hm
  rw [h] at c1; exact c1
theorem own_n14 (x v : Int32) (h : (1 : Int32) + (x &&& (3 : Int32)) = v) : ∃ N : Nat, v.toInt = (N : Int) ∧ 1 ≤ N ∧ N ≤ 4 := by
  have c1 := own_and (x := x) (m := 3) (by decide) rfl
  have l3 : (3 : Int32).toInt = 3 := by decide
  have l1 : (1 : Int32).toInt = 1 := by decide
  have c2 := c_iadd 1 (x &&& 3)
  rw [h] at c2
  have r := rng32 v
  exact ⟨v.toInt.toNat, by omega, by omega, by omega⟩
theorem own_le (m : Nat) (z x v : Int32) (hz : z.toInt = (m : Int)) (h : x &&& z = v) : ∃ n : Nat, v.toInt = (n : Int) ∧ n ≤ m := by
  have c1 := own_and (x := x) (m := z) (by omega) h
  exact ⟨v.toInt.toNat, by omega, by omega⟩
theorem own_nz {v : Int32} {N : Nat} (h : v.toInt = (N : Int)) (h1 : 1 ≤ N) : v ≠ 0 := fun q => by
  subst q; have l : (0 : Int32).toInt = 0 := by decide
  omega
theorem own_rem {x v y : Int32} {N : Nat} (hv : v.toInt = (N : Int)) (h1 : 1 ≤ N) (h : (x &&& (3 : Int32)) % v = y) : ∃ i : Nat, y.toInt = (i : Int) ∧ i < N := by
  have c1 := own_and (x := x) (m := 3) (by decide) rfl
  have e := Int32.toInt_mod (x &&& 3) v
  rw [h, hv, Int.tmod_eq_emod_of_nonneg c1.1] at e
  have b1 := Int.emod_nonneg (x &&& 3).toInt (show (N : Int) ≠ 0 by omega)
  have b2 := Int.emod_lt_of_pos (x &&& 3).toInt (show (0 : Int) < (N : Int) by omega)
  exact ⟨y.toInt.toNat, by omega, by omega⟩
theorem own_ltn {a b : Int32} {k n : Nat} (h : a < b) (hb : b.toInt = (n : Int)) (ha : a.toInt = (k : Int)) : k < n := by rw [Int32.lt_iff_toInt_lt] at h; omega
theorem own_idx {N i j : Nat} {v a b : Int32} (hN : v.toInt = (N : Int)) (hN4 : N ≤ 4) (hi : a.toInt = (i : Int)) (hi4 : i < N) (hj : b.toInt = (j : Int)) (hj4 : j < N) : (a * v + b).toInt = ((i * N + j : Nat) : Int) ∧ i * N + j < N * N := by
  have hm : i * N + N ≤ N * N := by
    have := Nat.mul_le_mul_right N (show i + 1 ≤ N from hi4)
    rw [Nat.add_mul, Nat.one_mul] at this; exact this
  have hNN : N * N ≤ 16 := Nat.mul_le_mul hN4 hN4
  have c1 := c_imul a v
  have c2 := c_iadd (a * v) b
  have r1 := rng32 (a * v)
  have r2 := rng32 (a * v + b)
  have e : a.toInt * v.toInt = ((i * N : Nat) : Int) := by rw [hi, hN]; simp
  rw [e] at c1
  refine ⟨?_, by omega⟩
  have e1 : (a * v).toInt = ((i * N : Nat) : Int) := by omega
  omega
theorem own_dec {N i j i2 j2 : Nat} (hj : j < N) (hj2 : j2 < N) (h : i * N + j = i2 * N + j2) : i = i2 ∧ j = j2 := by
  have hN : 0 < N := by omega
  have e1 : (i * N + j) / N = i := by rw [Nat.mul_comm, Nat.mul_add_div hN, Nat.div_eq_of_lt hj, Nat.add_zero]
  have e2 : (i2 * N + j2) / N = i2 := by rw [Nat.mul_comm, Nat.mul_add_div hN, Nat.div_eq_of_lt hj2, Nat.add_zero]
  have : i = i2 := by rw [← e1, h, e2]
  subst this; exact ⟨rfl, by omega⟩
theorem own_p1 {z : Int32} {k : Nat} (h : z.toInt = (k : Int)) (hk : k ≤ 3) : (z + (1 : Int32)).toInt = ((k + 1 : Nat) : Int) := by
  have l : (1 : Int32).toInt = 1 := by decide
  have c := c_iadd z 1
  have r := rng32 (z + 1)
  rw [l] at c; omega
theorem own_i32 {i j : Int32} {x y : Nat} (hi : i.toInt = (x : Int)) (hj : j.toInt = (y : Int)) : i = j ↔ x = y := by rw [← Int32.toInt_inj, hi, hj]; omega
theorem own_mT {N i j i2 j2 : Nat} {v w a b m : Int32} (h : (if v = a then (if w = b then (1 : Int32) else (0 : Int32)) else (0 : Int32)) = m) (hv : v.toInt = (i : Int)) (hw : w.toInt = (j : Int)) (ha : a.toInt = (i2 : Int)) (hb : b.toInt = (j2 : Int)) (hj : j < N) (hj2 : j2 < N) (q : i * N + j = i2 * N + j2) : m = 1 := by
  obtain ⟨q1, q2⟩ := own_dec hj hj2 q
  rw [if_pos ((own_i32 hv ha).mpr q1), if_pos ((own_i32 hw hb).mpr q2)] at h; exact h.symm
theorem own_mF {N i j i2 j2 : Nat} {v w a b m : Int32} (h : (if v = a then (if w = b then (1 : Int32) else (0 : Int32)) else (0 : Int32)) = m) (hv : v.toInt = (i : Int)) (hw : w.toInt = (j : Int)) (ha : a.toInt = (i2 : Int)) (hb : b.toInt = (j2 : Int)) (hj : j < N) (hj2 : j2 < N) (q : ¬ i * N + j = i2 * N + j2) : m = 0 := by
  by_cases q1 : v = a
  · by_cases q2 : w = b
    · exact absurd (by rw [(own_i32 hv ha).mp q1, (own_i32 hw hb).mp q2]) q
    · rw [if_pos q1, if_neg q2] at h; exact h.symm
  · rw [if_neg q1] at h; exact h.symm
theorem own_mB {N i j i2 j2 : Nat} {v w a b m : Int32} (h : (if v = a then (if w = b then (1 : Int32) else (0 : Int32)) else (0 : Int32)) = m) (hv : v.toInt = (i : Int)) (hw : w.toInt = (j : Int)) (ha : a.toInt = (i2 : Int)) (hb : b.toInt = (j2 : Int)) (hj : j < N) (hj2 : j2 < N) : (!decide (m = 0)) = decide (i * N + j = i2 * N + j2) := by
  by_cases q : i * N + j = i2 * N + j2
  · rw [own_mT h hv hw ha hb hj hj2 q, decide_eq_true q]; decide
  · rw [own_mF h hv hw ha hb hj hj2 q, decide_eq_false q]; decide
theorem own_fin {b : Bool} {v va vb m1 m2 : Int32} {x xa xb : Nat} (hx : v.toInt = (x : Int)) (ha : va.toInt = (xa : Int)) (hb : vb.toInt = (xb : Int)) (h : b = ((decide (x = xa) && !decide (m1 = 0)) || (decide (x = xb) && !decide (m2 = 0)))) : (if b then (1 : Int32) else 0) = own_xp v va m1 vb m2 := by
  have e1 := own_i32 hx ha
  have e2 := own_i32 hx hb
  rw [h, own_xp]
  by_cases q1 : x = xa <;> by_cases q2 : x = xb <;> by_cases q3 : m1 = 0 <;> by_cases q4 : m2 = 0 <;> simp_all
set_option maxRecDepth 65536 in
set_option maxHeartbeats 40000000 in
theorem rm0 (l : Launch) (Z : State) (a0 : Array Value) (hw : ∀ d ∈ tables_1, d.before a0 Z = true) (ws : List Jvm.Cond) (p1 : Int32) (p2 : Int32) (p3 : Int32) (p4 : Int32) (p5 : Int32) (p6 : Int32) (dc sa : Addr) (cK : ClassId) (fd : Nat → Value) (h0 : Heap) (n0 : Nat) (Z0 : n0 ≤ h0.size) (PS : Sta Z h0 "java/util/ArrayList" "DEFAULTCAPACITY_EMPTY_ELEMENTDATA" "[Ljava/lang/Object;" (.ref dc)) (PC : own_Ar Z h0 dc (.object "java/lang/Object") 0 fd) (Pdc : dc < n0) (PFn : own_Fn h0 sa cK) (PSt : own_Site Z (⟨"com/example/sonde/sonde/engine/AnswerSets", "<init>", "(I)V"⟩ : MethodName) 49 own_sg sa cK) :
    MetFree l x (head1 (Jvm.Cond.code x code maxLocals ret :: ws) room_1) (fun a U => a = #[(.int p1), (.int p2), (.int p3), (.int p4), (.int p5), (.int p6)] ∧ Z.Warmed39 U.vm ∧ U.heap = h0 ∧ Z.WarmedH U.vm) (fun _ _ _ _ _ => True) (fun _ U o U' => ∃ vv LL, o = .returned vv ∧ own_ap (fun v h L => v = some (.int 1) ∧ Fr n0 L) vv U'.heap LL ∧ FrameEnd U o U' LL 88 256) := by
  refine MetFree.of_bodySF (plainFor_of_name pn_0) hisR ?_
  intro p e s m args below meth c s₁ Bd hml0 hP hK
  obtain ⟨rfl, hZ, hh, hH⟩ := hP
  have hx := Bd.exec
  have hby := Bd.bytes
  have hml : c.maxLocals = 30 := hml0
  have hown : s.vm.findClass "com/example/sonde/sonde/engine/AnswerSetsHoldingPinLaw" = some m.cls := findClass_of_methodNamed Bd.named
  have hnm := (name_of_methodNamed Bd.named Bd.method).1
  have X0 : Stand p l e room_1 s m #[(.int p1), (.int p2), (.int p3), (.int p4), (.int p5), (.int p6)] below meth c s₁ [] 0 0 := Stand.of_body Bd
  have e0 : s₁.heap = h0 := by rw [← hh, Bd.state]; rfl
  have N0 := Fr.nil n0
  show own_Go p.tables e below (own_Q s (fun v h L => v = some (.int 1) ∧ Fr n0 L) 88 256) (s₁.setTop (entryFrame m #[(.int p1), (.int p2), (.int p3), (.int p4), (.int p5), (.int p6)] maxLocals))
  rw [show entryFrame m #[(.int p1), (.int p2), (.int p3), (.int p4), (.int p5), (.int p6)] maxLocals = mkF m 0 #[.val (.int p1), .val (.int p2), .val (.int p3), .val (.int p4), .val (.int p5), .val (.int p6), .unset, .unset, .unset, .unset, .unset, .unset, .unset, .unset, .unset, .unset, .unset, .unset, .unset, .unset, .unset, .unset, .unset, .unset, .unset, .unset, .unset, .unset, .unset, .unset] [] from by first | (simp [entryFrame, mkF, argsToLocals, Value.category, maxLocals]; done) | rfl]
  show own_Go _ _ _ _ (s₁.setTop (mkF m 0 #[.val (.int p1), .val (.int p2), .val (.int p3), .val (.int p4), .val (.int p5), .val (.int p6), .unset, .unset, .unset, .unset, .unset, .unset, .unset, .unset, .unset, .unset, .unset, .unset, .unset, .unset, .unset, .unset, .unset, .unset, .unset, .unset, .unset, .unset, .unset, .unset] []))
  refine own_by (fun _ k => XS.iconst X0.here hx rfl (hb hby at_0) k) ?_
  refine own_by (fun _ k => XS.iloadN X0.here hx rfl (hb hby at_1) rfl k) ?_
  refine own_by (fun _ k => XS.iconst X0.here hx rfl (hb hby at_2) k) ?_
  show own_Go _ _ _ _ (s₁.setTop (mkF m 3 #[.val (.int p1), .val (.int p2), .val (.int p3), .val (.int p4), .val (.int p5), .val (.int p6), .unset, .unset, .unset, .unset, .unset, .unset, .unset, .unset, .unset, .unset, .unset, .unset, .unset, .unset, .unset, .unset, .unset, .unset, .unset, .unset, .unset, .unset, .unset, .unset] [(.int (3 : Int32)), (.int p1), (.int (1 : Int32))]))
  refine own_by (fun _ k => XS.iand X0.here hx rfl (hb hby at_3) rfl k) ?_
  show own_Go _ _ _ _ (s₁.setTop (mkF m 4 #[.val (.int p1), .val (.int p2), .val (.int p3), .val (.int p4), .val (.int p5), .val (.int p6), .unset, .unset, .unset, .unset, .unset, .unset, .unset, .unset, .unset, .unset, .unset, .unset, .unset, .unset, .unset, .unset, .unset, .unset, .unset, .unset, .unset, .unset, .unset, .unset] [(.int (p1 &&& (3 : Int32))), (.int (1 : Int32))]))
  refine own_by (fun _ k => XS.iadd X0.here hx rfl (hb hby at_4) rfl k) ?_
  show own_Go _ _ _ _ (s₁.setTop (mkF m 5 #[.val (.int p1), .val (.int p2), .val (.int p3), .val (.int p4), .val (.int p5), .val (.int p6), .unset, .unset, .unset, .unset, .unset, .unset, .unset, .unset, .unset, .unset, .unset, .unset, .unset, .unset, .unset, .unset, .unset, .unset, .unset, .unset, .unset, .unset, .unset, .unset] [(.int ((1 : Int32) + (p1 &&& (3 : Int32))))]))
  obtain ⟨v6_1, hv6_1⟩ : ∃ z_ : Int32, ((1 : Int32) + (p1 &&& (3 : Int32))) = z_ := ⟨_, rfl⟩
  refine own_gen hv6_1 (fun z_ => s₁.setTop (mkF m 5 #[.val (.int p1), .val (.int p2), .val (.int p3), .val (.int p4), .val (.int p5), .val (.int p6), .unset, .unset, .unset, .unset, .unset, .unset, .unset, .unset, .unset, .unset, .unset, .unset, .unset, .unset, .unset, .unset, .unset, .unset, .unset, .unset, .unset, .unset, .unset, .unset] [(.int z_)])) ?_
  refine own_by (fun _ k => XS.istore X0.here hx rfl (hb hby at_5) rfl (l' := #[.val (.int p1), .val (.int p2), .val (.int p3), .val (.int p4), .val (.int p5), .val (.int p6), .val (.int v6_1), .unset, .unset, .unset, .unset, .unset, .unset, .unset, .unset, .unset, .unset, .unset, .unset, .unset, .unset, .unset, .unset, .unset, .unset, .unset, .unset, .unset, .unset, .unset]) rfl k) ?_
  obtain ⟨N, hN, hN1, hN4⟩ := own_n14 _ _ hv6_1
  refine own_by (fun _ k => XS.iloadN X0.here hx rfl (hb hby at_7) rfl k) ?_
  refine own_by (fun _ k => XS.iconst X0.here hx rfl (hb hby at_8) k) ?_
  show own_Go _ _ _ _ (s₁.setTop (mkF m 9 #[.val (.int p1), .val (.int p2), .val (.int p3), .val (.int p4), .val (.int p5), .val (.int p6), .val (.int v6_1), .unset, .unset, .unset, .unset, .unset, .unset, .unset, .unset, .unset, .unset, .unset, .unset, .unset, .unset, .unset, .unset, .unset, .unset, .unset, .unset, .unset, .unset, .unset] [(.int (2 : Int32)), (.int p1)]))
  refine own_by (fun _ k => XS.iushr X0.here hx rfl (hb hby at_9) rfl k) ?_
  refine own_by (fun _ k => XS.iconst X0.here hx rfl (hb hby at_10) k) ?_
  show own_Go _ _ _ _ (s₁.setTop (mkF m 11 #[.val (.int p1), .val (.int p2), .val (.int p3), .val (.int p4), .val (.int p5), .val (.int p6), .val (.int v6_1), .unset, .unset, .unset, .unset, .unset, .unset, .unset, .unset, .unset, .unset, .unset, .unset, .unset, .unset, .unset, .unset, .unset, .unset, .unset, .unset, .unset, .unset, .unset] [(.int (3 : Int32)), (.int ((p1.toUInt32 >>> ((2 : Int32) &&& 31).toUInt32).toInt32))]))
  refine own_by (fun _ k => XS.iand X0.here hx rfl (hb hby at_11) rfl k) ?_
  show own_Go _ _ _ _ (s₁.setTop (mkF m 12 #[.val (.int p1), .val (.int p2), .val (.int p3), .val (.int p4), .val (.int p5), .val (.int p6), .val (.int v6_1), .unset, .unset, .unset, .unset, .unset, .unset, .unset, .unset, .unset, .unset, .unset, .unset, .unset, .unset, .unset, .unset, .unset, .unset, .unset, .unset, .unset, .unset, .unset] [(.int (((p1.toUInt32 >>> ((2 : Int32) &&& 31).toUInt32).toInt32) &&& (3 : Int32)))]))
  obtain ⟨v7_2, hv7_2⟩ : ∃ z_ : Int32, (((p1.toUInt32 >>> ((2 : Int32) &&& 31).toUInt32).toInt32) &&& (3 : Int32)) = z_ := ⟨_, rfl⟩
  refine own_gen hv7_2 (fun z_ => s₁.setTop (mkF m 12 #[.val (.int p1), .val (.int p2), .val (.int p3), .val (.int p4), .val (.int p5), .val (.int p6), .val (.int v6_1), .unset, .unset, .unset, .unset, .unset, .unset, .unset, .unset, .unset, .unset, .unset, .unset, .unset, .unset, .unset, .unset, .unset, .unset, .unset, .unset, .unset, .unset, .unset] [(.int z_)])) ?_
  refine own_by (fun _ k => XS.istore X0.here hx rfl (hb hby at_12) rfl (l' := #[.val (.int p1), .val (.int p2), .val (.int p3), .val (.int p4), .val (.int p5), .val (.int p6), .val (.int v6_1), .val (.int v7_2), .unset, .unset, .unset, .unset, .unset, .unset, .unset, .unset, .unset, .unset, .unset, .unset, .unset, .unset, .unset, .unset, .unset, .unset, .unset, .unset, .unset, .unset]) rfl k) ?_
  refine own_by (fun _ k => XS.iloadN X0.here hx rfl (hb hby at_14) rfl k) ?_
  refine own_by (fun _ k => XS.iconst X0.here hx rfl (hb hby at_15) k) ?_
  show own_Go _ _ _ _ (s₁.setTop (mkF m 16 #[.val (.int p1), .val (.int p2), .val (.int p3), .val (.int p4), .val (.int p5), .val (.int p6), .val (.int v6_1), .val (.int v7_2), .unset, .unset, .unset, .unset, .unset, .unset, .unset, .unset, .unset, .unset, .unset, .unset, .unset, .unset, .unset, .unset, .unset, .unset, .unset, .unset, .unset, .unset] [(.int (3 : Int32)), (.int p2)]))
  refine own_by (fun _ k => XS.iand X0.here hx rfl (hb hby at_16) rfl k) ?_
  refine own_by (fun _ k => XS.iload X0.here hx rfl (hb hby at_17) rfl k) ?_
  show own_Go _ _ _ _ (s₁.setTop (mkF m 19 #[.val (.int p1), .val (.int p2), .val (.int p3), .val (.int p4), .val (.int p5), .val (.int p6), .val (.int v6_1), .val (.int v7_2), .unset, .unset, .unset, .unset, .unset, .unset, .unset, .unset, .unset, .unset, .unset, .unset, .unset, .unset, .unset, .unset, .unset, .unset, .unset, .unset, .unset, .unset] [(.int v6_1), (.int (p2 &&& (3 : Int32)))]))
  refine own_by (fun _ k => iremM X0 hx rfl (hb hby at_19) rfl (own_nz hN hN1) k) ?_
  show own_Go _ _ _ _ (s₁.setTop (mkF m 20 #[.val (.int p1), .val (.int p2), .val (.int p3), .val (.int p4), .val (.int p5), .val (.int p6), .val (.int v6_1), .val (.int v7_2), .unset, .unset, .unset, .unset, .unset, .unset, .unset, .unset, .unset, .unset, .unset, .unset, .unset, .unset, .unset, .unset, .unset, .unset, .unset, .unset, .unset, .unset] [(.int ((p2 &&& (3 : Int32)) % v6_1))]))
  obtain ⟨v8_3, hv8_3⟩ : ∃ z_ : Int32, ((p2 &&& (3 : Int32)) % v6_1) = z_ := ⟨_, rfl⟩
  refine own_gen hv8_3 (fun z_ => s₁.setTop (mkF m 20 #[.val (.int p1), .val (.int p2), .val (.int p3), .val (.int p4), .val (.int p5), .val (.int p6), .val (.int v6_1), .val (.int v7_2), .unset, .unset, .unset, .unset, .unset, .unset, .unset, .unset, .unset, .unset, .unset, .unset, .unset, .unset, .unset, .unset, .unset, .unset, .unset, .unset, .unset, .unset] [(.int z_)])) ?_
  refine own_by (fun _ k => XS.istore X0.here hx rfl (hb hby at_20) rfl (l' := #[.val (.int p1), .val (.int p2), .val (.int p3), .val (.int p4), .val (.int p5), .val (.int p6), .val (.int v6_1), .val (.int v7_2), .val (.int v8_3), .unset, .unset, .unset, .unset, .unset, .unset, .unset, .unset, .unset, .unset, .unset, .unset, .unset, .unset, .unset, .unset, .unset, .unset, .unset, .unset, .unset]) rfl k) ?_
  refine own_by (fun _ k => XS.iloadN X0.here hx rfl (hb hby at_22) rfl k) ?_
  refine own_by (fun _ k => XS.iconst X0.here hx rfl (hb hby at_23) k) ?_
  show own_Go _ _ _ _ (s₁.setTop (mkF m 24 #[.val (.int p1), .val (.int p2), .val (.int p3), .val (.int p4), .val (.int p5), .val (.int p6), .val (.int v6_1), .val (.int v7_2), .val (.int v8_3), .unset, .unset, .unset, .unset, .unset, .unset, .unset, .unset, .unset, .unset, .unset, .unset, .unset, .unset, .unset, .unset, .unset, .unset, .unset, .unset, .unset] [(.int (2 : Int32)), (.int p2)]))
  refine own_by (fun _ k => XS.iushr X0.here hx rfl (hb hby at_24) rfl k) ?_
  refine own_by (fun _ k => XS.iconst X0.here hx rfl (hb hby at_25) k) ?_
  show own_Go _ _ _ _ (s₁.setTop (mkF m 26 #[.val (.int p1), .val (.int p2), .val (.int p3), .val (.int p4), .val (.int p5), .val (.int p6), .val (.int v6_1), .val (.int v7_2), .val (.int v8_3), .unset, .unset, .unset, .unset, .unset, .unset, .unset, .unset, .unset, .unset, .unset, .unset, .unset, .unset, .unset, .unset, .unset, .unset, .unset, .unset, .unset] [(.int (3 : Int32)), (.int ((p2.toUInt32 >>> ((2 : Int32) &&& 31).toUInt32).toInt32))]))
  refine own_by (fun _ k => XS.iand X0.here hx rfl (hb hby at_26) rfl k) ?_
  refine own_by (fun _ k => XS.iload X0.here hx rfl (hb hby at_27) rfl k) ?_
  show own_Go _ _ _ _ (s₁.setTop (mkF m 29 #[.val (.int p1), .val (.int p2), .val (.int p3), .val (.int p4), .val (.int p5), .val (.int p6), .val (.int v6_1), .val (.int v7_2), .val (.int v8_3), .unset, .unset, .unset, .unset, .unset, .unset, .unset, .unset, .unset, .unset, .unset, .unset, .unset, .unset, .unset, .unset, .unset, .unset, .unset, .unset, .unset] [(.int v6_1), (.int (((p2.toUInt32 >>> ((2 : Int32) &&& 31).toUInt32).toInt32) &&& (3 : Int32)))]))
  refine own_by (fun _ k => iremM X0 hx rfl (hb hby at_29) rfl (own_nz hN hN1) k) ?_
  show own_Go _ _ _ _ (s₁.setTop (mkF m 30 #[.val (.int p1), .val (.int p2), .val (.int p3), .val (.int p4), .val (.int p5), .val (.int p6), .val (.int v6_1), .val (.int v7_2), .val (.int v8_3), .unset, .unset, .unset, .unset, .unset, .unset, .unset, .unset, .unset, .unset, .unset, .unset, .unset, .unset, .unset, .unset, .unset, .unset, .unset, .unset, .unset] [(.int ((((p2.toUInt32 >>> ((2 : Int32) &&& 31).toUInt32).toInt32) &&& (3 : Int32)) % v6_1))]))
  obtain ⟨v9_4, hv9_4⟩ : ∃ z_ : Int32, ((((p2.toUInt32 >>> ((2 : Int32) &&& 31).toUInt32).toInt32) &&& (3 : Int32)) % v6_1) = z_ := ⟨_, rfl⟩
  refine own_gen hv9_4 (fun z_ => s₁.setTop (mkF m 30 #[.val (.int p1), .val (.int p2), .val (.int p3), .val (.int p4), .val (.int p5), .val (.int p6), .val (.int v6_1), .val (.int v7_2), .val (.int v8_3), .unset, .unset, .unset, .unset, .unset, .unset, .unset, .unset, .unset, .unset, .unset, .unset, .unset, .unset, .unset, .unset, .unset, .unset, .unset, .unset, .unset] [(.int z_)])) ?_
  refine own_by (fun _ k => XS.istore X0.here hx rfl (hb hby at_30) rfl (l' := #[.val (.int p1), .val (.int p2), .val (.int p3), .val (.int p4), .val (.int p5), .val (.int p6), .val (.int v6_1), .val (.int v7_2), .val (.int v8_3), .val (.int v9_4), .unset, .unset, .unset, .unset, .unset, .unset, .unset, .unset, .unset, .unset, .unset, .unset, .unset, .unset, .unset, .unset, .unset, .unset, .unset, .unset]) rfl k) ?_
  refine own_by (fun _ k => XS.iloadN X0.here hx rfl (hb hby at_32) rfl k) ?_
  refine own_by (fun _ k => XS.iconst X0.here hx rfl (hb hby at_33) k) ?_
  show own_Go _ _ _ _ (s₁.setTop (mkF m 34 #[.val (.int p1), .val (.int p2), .val (.int p3), .val (.int p4), .val (.int p5), .val (.int p6), .val (.int v6_1), .val (.int v7_2), .val (.int v8_3), .val (.int v9_4), .unset, .unset, .unset, .unset, .unset, .unset, .unset, .unset, .unset, .unset, .unset, .unset, .unset, .unset, .unset, .unset, .unset, .unset, .unset, .unset] [(.int (4 : Int32)), (.int p2)]))
  refine own_by (fun _ k => XS.iushr X0.here hx rfl (hb hby at_34) rfl k) ?_
  refine own_by (fun _ k => XS.iconst X0.here hx rfl (hb hby at_35) k) ?_
  show own_Go _ _ _ _ (s₁.setTop (mkF m 36 #[.val (.int p1), .val (.int p2), .val (.int p3), .val (.int p4), .val (.int p5), .val (.int p6), .val (.int v6_1), .val (.int v7_2), .val (.int v8_3), .val (.int v9_4), .unset, .unset, .unset, .unset, .unset, .unset, .unset, .unset, .unset, .unset, .unset, .unset, .unset, .unset, .unset, .unset, .unset, .unset, .unset, .unset] [(.int (3 : Int32)), (.int ((p2.toUInt32 >>> ((4 : Int32) &&& 31).toUInt32).toInt32))]))
  refine own_by (fun _ k => XS.iand X0.here hx rfl (hb hby at_36) rfl k) ?_
  refine own_by (fun _ k => XS.iload X0.here hx rfl (hb hby at_37) rfl k) ?_
  show own_Go _ _ _ _ (s₁.setTop (mkF m 39 #[.val (.int p1), .val (.int p2), .val (.int p3), .val (.int p4), .val (.int p5), .val (.int p6), .val (.int v6_1), .val (.int v7_2), .val (.int v8_3), .val (.int v9_4), .unset, .unset, .unset, .unset, .unset, .unset, .unset, .unset, .unset, .unset, .unset, .unset, .unset, .unset, .unset, .unset, .unset, .unset, .unset, .unset] [(.int v6_1), (.int (((p2.toUInt32 >>> ((4 : Int32) &&& 31).toUInt32).toInt32) &&& (3 : Int32)))]))
  refine own_by (fun _ k => iremM X0 hx rfl (hb hby at_39) rfl (own_nz hN hN1) k) ?_
  show own_Go _ _ _ _ (s₁.setTop (mkF m 40 #[.val (.int p1), .val (.int p2), .val (.int p3), .val (.int p4), .val (.int p5), .val (.int p6), .val (.int v6_1), .val (.int v7_2), .val (.int v8_3), .val (.int v9_4), .unset, .unset, .unset, .unset, .unset, .unset, .unset, .unset, .unset, .unset, .unset, .unset, .unset, .unset, .unset, .unset, .unset, .unset, .unset, .unset] [(.int ((((p2.toUInt32 >>> ((4 : Int32) &&& 31).toUInt32).toInt32) &&& (3 : Int32)) % v6_1))]))
  obtain ⟨v10_5, hv10_5⟩ : ∃ z_ : Int32, ((((p2.toUInt32 >>> ((4 : Int32) &&& 31).toUInt32).toInt32) &&& (3 : Int32)) % v6_1) = z_ := ⟨_, rfl⟩
  refine own_gen hv10_5 (fun z_ => s₁.setTop (mkF m 40 #[.val (.int p1), .val (.int p2), .val (.int p3), .val (.int p4), .val (.int p5), .val (.int p6), .val (.int v6_1), .val (.int v7_2), .val (.int v8_3), .val (.int v9_4), .unset, .unset, .unset, .unset, .unset, .unset, .unset, .unset, .unset, .unset, .unset, .unset, .unset, .unset, .unset, .unset, .unset, .unset, .unset, .unset] [(.int z_)])) ?_
  refine own_by (fun _ k => XS.istore X0.here hx rfl (hb hby at_40) rfl (l' := #[.val (.int p1), .val (.int p2), .val (.int p3), .val (.int p4), .val (.int p5), .val (.int p6), .val (.int v6_1), .val (.int v7_2), .val (.int v8_3), .val (.int v9_4), .val (.int v10_5), .unset, .unset, .unset, .unset, .unset, .unset, .unset, .unset, .unset, .unset, .unset, .unset, .unset, .unset, .unset, .unset, .unset, .unset, .unset]) rfl k) ?_
  refine own_by (fun _ k => XS.iloadN X0.here hx rfl (hb hby at_42) rfl k) ?_
  refine own_by (fun _ k => XS.bipush X0.here hx rfl (hb hby at_43) k) ?_
  show own_Go _ _ _ _ (s₁.setTop (mkF m 45 #[.val (.int p1), .val (.int p2), .val (.int p3), .val (.int p4), .val (.int p5), .val (.int p6), .val (.int v6_1), .val (.int v7_2), .val (.int v8_3), .val (.int v9_4), .val (.int v10_5), .unset, .unset, .unset, .unset, .unset, .unset, .unset, .unset, .unset, .unset, .unset, .unset, .unset, .unset, .unset, .unset, .unset, .unset, .unset] [(.int (6 : Int32)), (.int p2)]))
  refine own_by (fun _ k => XS.iushr X0.here hx rfl (hb hby at_45) rfl k) ?_
  refine own_by (fun _ k => XS.iconst X0.here hx rfl (hb hby at_46) k) ?_
  show own_Go _ _ _ _ (s₁.setTop (mkF m 47 #[.val (.int p1), .val (.int p2), .val (.int p3), .val (.int p4), .val (.int p5), .val (.int p6), .val (.int v6_1), .val (.int v7_2), .val (.int v8_3), .val (.int v9_4), .val (.int v10_5), .unset, .unset, .unset, .unset, .unset, .unset, .unset, .unset, .unset, .unset, .unset, .unset, .unset, .unset, .unset, .unset, .unset, .unset, .unset] [(.int (3 : Int32)), (.int ((p2.toUInt32 >>> ((6 : Int32) &&& 31).toUInt32).toInt32))]))
  refine own_by (fun _ k => XS.iand X0.here hx rfl (hb hby at_47) rfl k) ?_
  refine own_by (fun _ k => XS.iload X0.here hx rfl (hb hby at_48) rfl k) ?_
  show own_Go _ _ _ _ (s₁.setTop (mkF m 50 #[.val (.int p1), .val (.int p2), .val (.int p3), .val (.int p4), .val (.int p5), .val (.int p6), .val (.int v6_1), .val (.int v7_2), .val (.int v8_3), .val (.int v9_4), .val (.int v10_5), .unset, .unset, .unset, .unset, .unset, .unset, .unset, .unset, .unset, .unset, .unset, .unset, .unset, .unset, .unset, .unset, .unset, .unset, .unset] [(.int v6_1), (.int (((p2.toUInt32 >>> ((6 : Int32) &&& 31).toUInt32).toInt32) &&& (3 : Int32)))]))
  refine own_by (fun _ k => iremM X0 hx rfl (hb hby at_50) rfl (own_nz hN hN1) k) ?_
  show own_Go _ _ _ _ (s₁.setTop (mkF m 51 #[.val (.int p1), .val (.int p2), .val (.int p3), .val (.int p4), .val (.int p5), .val (.int p6), .val (.int v6_1), .val (.int v7_2), .val (.int v8_3), .val (.int v9_4), .val (.int v10_5), .unset, .unset, .unset, .unset, .unset, .unset, .unset, .unset, .unset, .unset, .unset, .unset, .unset, .unset, .unset, .unset, .unset, .unset, .unset] [(.int ((((p2.toUInt32 >>> ((6 : Int32) &&& 31).toUInt32).toInt32) &&& (3 : Int32)) % v6_1))]))
  obtain ⟨v11_6, hv11_6⟩ : ∃ z_ : Int32, ((((p2.toUInt32 >>> ((6 : Int32) &&& 31).toUInt32).toInt32) &&& (3 : Int32)) % v6_1) = z_ := ⟨_, rfl⟩
  refine own_gen hv11_6 (fun z_ => s₁.setTop (mkF m 51 #[.val (.int p1), .val (.int p2), .val (.int p3), .val (.int p4), .val (.int p5), .val (.int p6), .val (.int v6_1), .val (.int v7_2), .val (.int v8_3), .val (.int v9_4), .val (.int v10_5), .unset, .unset, .unset, .unset, .unset, .unset, .unset, .unset, .unset, .unset, .unset, .unset, .unset, .unset, .unset, .unset, .unset, .unset, .unset] [(.int z_)])) ?_
  refine own_by (fun _ k => XS.istore X0.here hx rfl (hb hby at_51) rfl (l' := #[.val (.int p1), .val (.int p2), .val (.int p3), .val (.int p4), .val (.int p5), .val (.int p6), .val (.int v6_1), .val (.int v7_2), .val (.int v8_3), .val (.int v9_4), .val (.int v10_5), .val (.int v11_6), .unset, .unset, .unset, .unset, .unset, .unset, .unset, .unset, .unset, .unset, .unset, .unset, .unset, .unset, .unset, .unset, .unset, .unset]) rfl k) ?_
  refine own_by (fun _ k => XS.iloadN X0.here hx rfl (hb hby at_53) rfl k) ?_
  refine own_by (fun _ k => XS.bipush X0.here hx rfl (hb hby at_54) k) ?_
  show own_Go _ _ _ _ (s₁.setTop (mkF m 56 #[.val (.int p1), .val (.int p2), .val (.int p3), .val (.int p4), .val (.int p5), .val (.int p6), .val (.int v6_1), .val (.int v7_2), .val (.int v8_3), .val (.int v9_4), .val (.int v10_5), .val (.int v11_6), .unset, .unset, .unset, .unset, .unset, .unset, .unset, .unset, .unset, .unset, .unset, .unset, .unset, .unset, .unset, .unset, .unset, .unset] [(.int (127 : Int32)), (.int p3)]))
  refine own_by (fun _ k => XS.iand X0.here hx rfl (hb hby at_56) rfl k) ?_
  show own_Go _ _ _ _ (s₁.setTop (mkF m 57 #[.val (.int p1), .val (.int p2), .val (.int p3), .val (.int p4), .val (.int p5), .val (.int p6), .val (.int v6_1), .val (.int v7_2), .val (.int v8_3), .val (.int v9_4), .val (.int v10_5), .val (.int v11_6), .unset, .unset, .unset, .unset, .unset, .unset, .unset, .unset, .unset, .unset, .unset, .unset, .unset, .unset, .unset, .unset, .unset, .unset] [(.int (p3 &&& (127 : Int32)))]))
  obtain ⟨v12_7, hv12_7⟩ : ∃ z_ : Int32, (p3 &&& (127 : Int32)) = z_ := ⟨_, rfl⟩
  refine own_gen hv12_7 (fun z_ => s₁.setTop (mkF m 57 #[.val (.int p1), .val (.int p2), .val (.int p3), .val (.int p4), .val (.int p5), .val (.int p6), .val (.int v6_1), .val (.int v7_2), .val (.int v8_3), .val (.int v9_4), .val (.int v10_5), .val (.int v11_6), .unset, .unset, .unset, .unset, .unset, .unset, .unset, .unset, .unset, .unset, .unset, .unset, .unset, .unset, .unset, .unset, .unset, .unset] [(.int z_)])) ?_
  refine own_by (fun _ k => XS.istore X0.here hx rfl (hb hby at_57) rfl (l' := #[.val (.int p1), .val (.int p2), .val (.int p3), .val (.int p4), .val (.int p5), .val (.int p6), .val (.int v6_1), .val (.int v7_2), .val (.int v8_3), .val (.int v9_4), .val (.int v10_5), .val (.int v11_6), .val (.int v12_7), .unset, .unset, .unset, .unset, .unset, .unset, .unset, .unset, .unset, .unset, .unset, .unset, .unset, .unset, .unset, .unset, .unset]) rfl k) ?_
  refine own_by (fun _ k => XS.iloadN X0.here hx rfl (hb hby at_59) rfl k) ?_
  refine own_by (fun _ k => XS.bipush X0.here hx rfl (hb hby at_60) k) ?_
  show own_Go _ _ _ _ (s₁.setTop (mkF m 62 #[.val (.int p1), .val (.int p2), .val (.int p3), .val (.int p4), .val (.int p5), .val (.int p6), .val (.int v6_1), .val (.int v7_2), .val (.int v8_3), .val (.int v9_4), .val (.int v10_5), .val (.int v11_6), .val (.int v12_7), .unset, .unset, .unset, .unset, .unset, .unset, .unset, .unset, .unset, .unset, .unset, .unset, .unset, .unset, .unset, .unset, .unset] [(.int (127 : Int32)), (.int p4)]))
  refine own_by (fun _ k => XS.iand X0.here hx rfl (hb hby at_62) rfl k) ?_
  show own_Go _ _ _ _ (s₁.setTop (mkF m 63 #[.val (.int p1), .val (.int p2), .val (.int p3), .val (.int p4), .val (.int p5), .val (.int p6), .val (.int v6_1), .val (.int v7_2), .val (.int v8_3), .val (.int v9_4), .val (.int v10_5), .val (.int v11_6), .val (.int v12_7), .unset, .unset, .unset, .unset, .unset, .unset, .unset, .unset, .unset, .unset, .unset, .unset, .unset, .unset, .unset, .unset, .unset] [(.int (p4 &&& (127 : Int32)))]))
  obtain ⟨v13_8, hv13_8⟩ : ∃ z_ : Int32, (p4 &&& (127 : Int32)) = z_ := ⟨_, rfl⟩
  refine own_gen hv13_8 (fun z_ => s₁.setTop (mkF m 63 #[.val (.int p1), .val (.int p2), .val (.int p3), .val (.int p4), .val (.int p5), .val (.int p6), .val (.int v6_1), .val (.int v7_2), .val (.int v8_3), .val (.int v9_4), .val (.int v10_5), .val (.int v11_6), .val (.int v12_7), .unset, .unset, .unset, .unset, .unset, .unset, .unset, .unset, .unset, .unset, .unset, .unset, .unset, .unset, .unset, .unset, .unset] [(.int z_)])) ?_
  refine own_by (fun _ k => XS.istore X0.here hx rfl (hb hby at_63) rfl (l' := #[.val (.int p1), .val (.int p2), .val (.int p3), .val (.int p4), .val (.int p5), .val (.int p6), .val (.int v6_1), .val (.int v7_2), .val (.int v8_3), .val (.int v9_4), .val (.int v10_5), .val (.int v11_6), .val (.int v12_7), .val (.int v13_8), .unset, .unset, .unset, .unset, .unset, .unset, .unset, .unset, .unset, .unset, .unset, .unset, .unset, .unset, .unset, .unset]) rfl k) ?_
  refine own_by (fun _ k => XS.iload X0.here hx rfl (hb hby at_65) rfl k) ?_
  refine own_by (fun _ k => XS.iconst X0.here hx rfl (hb hby at_67) k) ?_
  show own_Go _ _ _ _ (s₁.setTop (mkF m 68 #[.val (.int p1), .val (.int p2), .val (.int p3), .val (.int p4), .val (.int p5), .val (.int p6), .val (.int v6_1), .val (.int v7_2), .val (.int v8_3), .val (.int v9_4), .val (.int v10_5), .val (.int v11_6), .val (.int v12_7), .val (.int v13_8), .unset, .unset, .unset, .unset, .unset, .unset, .unset, .unset, .unset, .unset, .unset, .unset, .unset, .unset, .unset, .unset] [(.int (2 : Int32)), (.int p6)]))
  refine own_by (fun _ k => XS.iushr X0.here hx rfl (hb hby at_68) rfl k) ?_
  refine own_by (fun _ k => XS.bipush X0.here hx rfl (hb hby at_69) k) ?_
  show own_Go _ _ _ _ (s₁.setTop (mkF m 71 #[.val (.int p1), .val (.int p2), .val (.int p3), .val (.int p4), .val (.int p5), .val (.int p6), .val (.int v6_1), .val (.int v7_2), .val (.int v8_3), .val (.int v9_4), .val (.int v10_5), .val (.int v11_6), .val (.int v12_7), .val (.int v13_8), .unset, .unset, .unset, .unset, .unset, .unset, .unset, .unset, .unset, .unset, .unset, .unset, .unset, .unset, .unset, .unset] [(.int (127 : Int32)), (.int ((p6.toUInt32 >>> ((2 : Int32) &&& 31).toUInt32).toInt32))]))
  refine own_by (fun _ k => XS.iand X0.here hx rfl (hb hby at_71) rfl k) ?_
  show own_Go _ _ _ _ (s₁.setTop (mkF m 72 #[.val (.int p1), .val (.int p2), .val (.int p3), .val (.int p4), .val (.int p5), .val (.int p6), .val (.int v6_1), .val (.int v7_2), .val (.int v8_3), .val (.int v9_4), .val (.int v10_5), .val (.int v11_6), .val (.int v12_7), .val (.int v13_8), .unset, .unset, .unset, .unset, .unset, .unset, .unset, .unset, .unset, .unset, .unset, .unset, .unset, .unset, .unset, .unset] [(.int (((p6.toUInt32 >>> ((2 : Int32) &&& 31).toUInt32).toInt32) &&& (127 : Int32)))]))
  obtain ⟨v14_9, hv14_9⟩ : ∃ z_ : Int32, (((p6.toUInt32 >>> ((2 : Int32) &&& 31).toUInt32).toInt32) &&& (127 : Int32)) = z_ := ⟨_, rfl⟩
  refine own_gen hv14_9 (fun z_ => s₁.setTop (mkF m 72 #[.val (.int p1), .val (.int p2), .val (.int p3), .val (.int p4), .val (.int p5), .val (.int p6), .val (.int v6_1), .val (.int v7_2), .val (.int v8_3), .val (.int v9_4), .val (.int v10_5), .val (.int v11_6), .val (.int v12_7), .val (.int v13_8), .unset, .unset, .unset, .unset, .unset, .unset, .unset, .unset, .unset, .unset, .unset, .unset, .unset, .unset, .unset, .unset] [(.int z_)])) ?_
  refine own_by (fun _ k => XS.istore X0.here hx rfl (hb hby at_72) rfl (l' := #[.val (.int p1), .val (.int p2), .val (.int p3), .val (.int p4), .val (.int p5), .val (.int p6), .val (.int v6_1), .val (.int v7_2), .val (.int v8_3), .val (.int v9_4), .val (.int v10_5), .val (.int v11_6), .val (.int v12_7), .val (.int v13_8), .val (.int v14_9), .unset, .unset, .unset, .unset, .unset, .unset, .unset, .unset, .unset, .unset, .unset, .unset, .unset, .unset, .unset]) rfl k) ?_
  refine own_by (fun _ k => XS.iload X0.here hx rfl (hb hby at_74) rfl k) ?_
  refine own_by (fun _ k => XS.iconst X0.here hx rfl (hb hby at_76) k) ?_
  show own_Go _ _ _ _ (s₁.setTop (mkF m 77 #[.val (.int p1), .val (.int p2), .val (.int p3), .val (.int p4), .val (.int p5), .val (.int p6), .val (.int v6_1), .val (.int v7_2), .val (.int v8_3), .val (.int v9_4), .val (.int v10_5), .val (.int v11_6), .val (.int v12_7), .val (.int v13_8), .val (.int v14_9), .unset, .unset, .unset, .unset, .unset, .unset, .unset, .unset, .unset, .unset, .unset, .unset, .unset, .unset, .unset] [(.int (3 : Int32)), (.int p6)]))
  refine own_by (fun _ k => XS.iand X0.here hx rfl (hb hby at_77) rfl k) ?_
  show own_Go _ _ _ _ (s₁.setTop (mkF m 78 #[.val (.int p1), .val (.int p2), .val (.int p3), .val (.int p4), .val (.int p5), .val (.int p6), .val (.int v6_1), .val (.int v7_2), .val (.int v8_3), .val (.int v9_4), .val (.int v10_5), .val (.int v11_6), .val (.int v12_7), .val (.int v13_8), .val (.int v14_9), .unset, .unset, .unset, .unset, .unset, .unset, .unset, .unset, .unset, .unset, .unset, .unset, .unset, .unset, .unset] [(.int (p6 &&& (3 : Int32)))]))
  obtain ⟨v15_10, hv15_10⟩ : ∃ z_ : Int32, (p6 &&& (3 : Int32)) = z_ := ⟨_, rfl⟩
  refine own_gen hv15_10 (fun z_ => s₁.setTop (mkF m 78 #[.val (.int p1), .val (.int p2), .val (.int p3), .val (.int p4), .val (.int p5), .val (.int p6), .val (.int v6_1), .val (.int v7_2), .val (.int v8_3), .val (.int v9_4), .val (.int v10_5), .val (.int v11_6), .val (.int v12_7), .val (.int v13_8), .val (.int v14_9), .unset, .unset, .unset, .unset, .unset, .unset, .unset, .unset, .unset, .unset, .unset, .unset, .unset, .unset, .unset] [(.int z_)])) ?_
  refine own_by (fun _ k => XS.istore X0.here hx rfl (hb hby at_78) rfl (l' := #[.val (.int p1), .val (.int p2), .val (.int p3), .val (.int p4), .val (.int p5), .val (.int p6), .val (.int v6_1), .val (.int v7_2), .val (.int v8_3), .val (.int v9_4), .val (.int v10_5), .val (.int v11_6), .val (.int v12_7), .val (.int v13_8), .val (.int v14_9), .val (.int v15_10), .unset, .unset, .unset, .unset, .unset, .unset, .unset, .unset, .unset, .unset, .unset, .unset, .unset, .unset]) rfl k) ?_
  refine own_by (fun _ k => XS.iload X0.here hx rfl (hb hby at_80) rfl k) ?_
  refine own_by (fun _ k => XS.iconst X0.here hx rfl (hb hby at_82) k) ?_
  show own_Go _ _ _ _ (s₁.setTop (mkF m 83 #[.val (.int p1), .val (.int p2), .val (.int p3), .val (.int p4), .val (.int p5), .val (.int p6), .val (.int v6_1), .val (.int v7_2), .val (.int v8_3), .val (.int v9_4), .val (.int v10_5), .val (.int v11_6), .val (.int v12_7), .val (.int v13_8), .val (.int v14_9), .val (.int v15_10), .unset, .unset, .unset, .unset, .unset, .unset, .unset, .unset, .unset, .unset, .unset, .unset, .unset, .unset] [(.int (3 : Int32)), (.int p5)]))
  refine own_by (fun _ k => XS.iand X0.here hx rfl (hb hby at_83) rfl k) ?_
  refine own_by (fun _ k => XS.iload X0.here hx rfl (hb hby at_84) rfl k) ?_
  show own_Go _ _ _ _ (s₁.setTop (mkF m 86 #[.val (.int p1), .val (.int p2), .val (.int p3), .val (.int p4), .val (.int p5), .val (.int p6), .val (.int v6_1), .val (.int v7_2), .val (.int v8_3), .val (.int v9_4), .val (.int v10_5), .val (.int v11_6), .val (.int v12_7), .val (.int v13_8), .val (.int v14_9), .val (.int v15_10), .unset, .unset, .unset, .unset, .unset, .unset, .unset, .unset, .unset, .unset, .unset, .unset, .unset, .unset] [(.int v6_1), (.int (p5 &&& (3 : Int32)))]))
  refine own_by (fun _ k => iremM X0 hx rfl (hb hby at_86) rfl (own_nz hN hN1) k) ?_
  show own_Go _ _ _ _ (s₁.setTop (mkF m 87 #[.val (.int p1), .val (.int p2), .val (.int p3), .val (.int p4), .val (.int p5), .val (.int p6), .val (.int v6_1), .val (.int v7_2), .val (.int v8_3), .val (.int v9_4), .val (.int v10_5), .val (.int v11_6), .val (.int v12_7), .val (.int v13_8), .val (.int v14_9), .val (.int v15_10), .unset, .unset, .unset, .unset, .unset, .unset, .unset, .unset, .unset, .unset, .unset, .unset, .unset, .unset] [(.int ((p5 &&& (3 : Int32)) % v6_1))]))
  obtain ⟨v16_11, hv16_11⟩ : ∃ z_ : Int32, ((p5 &&& (3 : Int32)) % v6_1) = z_ := ⟨_, rfl⟩
  refine own_gen hv16_11 (fun z_ => s₁.setTop (mkF m 87 #[.val (.int p1), .val (.int p2), .val (.int p3), .val (.int p4), .val (.int p5), .val (.int p6), .val (.int v6_1), .val (.int v7_2), .val (.int v8_3), .val (.int v9_4), .val (.int v10_5), .val (.int v11_6), .val (.int v12_7), .val (.int v13_8), .val (.int v14_9), .val (.int v15_10), .unset, .unset, .unset, .unset, .unset, .unset, .unset, .unset, .unset, .unset, .unset, .unset, .unset, .unset] [(.int z_)])) ?_
  refine own_by (fun _ k => XS.istore X0.here hx rfl (hb hby at_87) rfl (l' := #[.val (.int p1), .val (.int p2), .val (.int p3), .val (.int p4), .val (.int p5), .val (.int p6), .val (.int v6_1), .val (.int v7_2), .val (.int v8_3), .val (.int v9_4), .val (.int v10_5), .val (.int v11_6), .val (.int v12_7), .val (.int v13_8), .val (.int v14_9), .val (.int v15_10), .val (.int v16_11), .unset, .unset, .unset, .unset, .unset, .unset, .unset, .unset, .unset, .unset, .unset, .unset, .unset]) rfl k) ?_
  refine own_by (fun _ k => XS.iload X0.here hx rfl (hb hby at_89) rfl k) ?_
  refine own_by (fun _ k => XS.iconst X0.here hx rfl (hb hby at_91) k) ?_
  show own_Go _ _ _ _ (s₁.setTop (mkF m 92 #[.val (.int p1), .val (.int p2), .val (.int p3), .val (.int p4), .val (.int p5), .val (.int p6), .val (.int v6_1), .val (.int v7_2), .val (.int v8_3), .val (.int v9_4), .val (.int v10_5), .val (.int v11_6), .val (.int v12_7), .val (.int v13_8), .val (.int v14_9), .val (.int v15_10), .val (.int v16_11), .unset, .unset, .unset, .unset, .unset, .unset, .unset, .unset, .unset, .unset, .unset, .unset, .unset] [(.int (2 : Int32)), (.int p5)]))
  refine own_by (fun _ k => XS.iushr X0.here hx rfl (hb hby at_92) rfl k) ?_
  refine own_by (fun _ k => XS.iconst X0.here hx rfl (hb hby at_93) k) ?_
  show own_Go _ _ _ _ (s₁.setTop (mkF m 94 #[.val (.int p1), .val (.int p2), .val (.int p3), .val (.int p4), .val (.int p5), .val (.int p6), .val (.int v6_1), .val (.int v7_2), .val (.int v8_3), .val (.int v9_4), .val (.int v10_5), .val (.int v11_6), .val (.int v12_7), .val (.int v13_8), .val (.int v14_9), .val (.int v15_10), .val (.int v16_11), .unset, .unset, .unset, .unset, .unset, .unset, .unset, .unset, .unset, .unset, .unset, .unset, .unset] [(.int (3 : Int32)), (.int ((p5.toUInt32 >>> ((2 : Int32) &&& 31).toUInt32).toInt32))]))
  refine own_by (fun _ k => XS.iand X0.here hx rfl (hb hby at_94) rfl k) ?_
  refine own_by (fun _ k => XS.iload X0.here hx rfl (hb hby at_95) rfl k) ?_
  show own_Go _ _ _ _ (s₁.setTop (mkF m 97 #[.val (.int p1), .val (.int p2), .val (.int p3), .val (.int p4), .val (.int p5), .val (.int p6), .val (.int v6_1), .val (.int v7_2), .val (.int v8_3), .val (.int v9_4), .val (.int v10_5), .val (.int v11_6), .val (.int v12_7), .val (.int v13_8), .val (.int v14_9), .val (.int v15_10), .val (.int v16_11), .unset, .unset, .unset, .unset, .unset, .unset, .unset, .unset, .unset, .unset, .unset, .unset, .unset] [(.int v6_1), (.int (((p5.toUInt32 >>> ((2 : Int32) &&& 31).toUInt32).toInt32) &&& (3 : Int32)))]))
  refine own_by (fun _ k => iremM X0 hx rfl (hb hby at_97) rfl (own_nz hN hN1) k) ?_
  show own_Go _ _ _ _ (s₁.setTop (mkF m 98 #[.val (.int p1), .val (.int p2), .val (.int p3), .val (.int p4), .val (.int p5), .val (.int p6), .val (.int v6_1), .val (.int v7_2), .val (.int v8_3), .val (.int v9_4), .val (.int v10_5), .val (.int v11_6), .val (.int v12_7), .val (.int v13_8), .val (.int v14_9), .val (.int v15_10), .val (.int v16_11), .unset, .unset, .unset, .unset, .unset, .unset, .unset, .unset, .unset, .unset, .unset, .unset, .unset] [(.int ((((p5.toUInt32 >>> ((2 : Int32) &&& 31).toUInt32).toInt32) &&& (3 : Int32)) % v6_1))]))
  obtain ⟨v17_12, hv17_12⟩ : ∃ z_ : Int32, ((((p5.toUInt32 >>> ((2 : Int32) &&& 31).toUInt32).toInt32) &&& (3 : Int32)) % v6_1) = z_ := ⟨_, rfl⟩
  refine own_gen hv17_12 (fun z_ => s₁.setTop (mkF m 98 #[.val (.int p1), .val (.int p2), .val (.int p3), .val (.int p4), .val (.int p5), .val (.int p6), .val (.int v6_1), .val (.int v7_2), .val (.int v8_3), .val (.int v9_4), .val (.int v10_5), .val (.int v11_6), .val (.int v12_7), .val (.int v13_8), .val (.int v14_9), .val (.int v15_10), .val (.int v16_11), .unset, .unset, .unset, .unset, .unset, .unset, .unset, .unset, .unset, .unset, .unset, .unset, .unset] [(.int z_)])) ?_
  refine own_by (fun _ k => XS.istore X0.here hx rfl (hb hby at_98) rfl (l' := #[.val (.int p1), .val (.int p2), .val (.int p3), .val (.int p4), .val (.int p5), .val (.int p6), .val (.int v6_1), .val (.int v7_2), .val (.int v8_3), .val (.int v9_4), .val (.int v10_5), .val (.int v11_6), .val (.int v12_7), .val (.int v13_8), .val (.int v14_9), .val (.int v15_10), .val (.int v16_11), .val (.int v17_12), .unset, .unset, .unset, .unset, .unset, .unset, .unset, .unset, .unset, .unset, .unset, .unset]) rfl k) ?_
  refine own_by (fun _ k => XS.iload X0.here hx rfl (hb hby at_100) rfl k) ?_
  refine own_by (fun _ k => XS.iconst X0.here hx rfl (hb hby at_102) k) ?_
  show own_Go _ _ _ _ (s₁.setTop (mkF m 103 #[.val (.int p1), .val (.int p2), .val (.int p3), .val (.int p4), .val (.int p5), .val (.int p6), .val (.int v6_1), .val (.int v7_2), .val (.int v8_3), .val (.int v9_4), .val (.int v10_5), .val (.int v11_6), .val (.int v12_7), .val (.int v13_8), .val (.int v14_9), .val (.int v15_10), .val (.int v16_11), .val (.int v17_12), .unset, .unset, .unset, .unset, .unset, .unset, .unset, .unset, .unset, .unset, .unset, .unset] [(.int (4 : Int32)), (.int p5)]))
  refine own_by (fun _ k => XS.iushr X0.here hx rfl (hb hby at_103) rfl k) ?_
  refine own_by (fun _ k => XS.iconst X0.here hx rfl (hb hby at_104) k) ?_
  show own_Go _ _ _ _ (s₁.setTop (mkF m 105 #[.val (.int p1), .val (.int p2), .val (.int p3), .val (.int p4), .val (.int p5), .val (.int p6), .val (.int v6_1), .val (.int v7_2), .val (.int v8_3), .val (.int v9_4), .val (.int v10_5), .val (.int v11_6), .val (.int v12_7), .val (.int v13_8), .val (.int v14_9), .val (.int v15_10), .val (.int v16_11), .val (.int v17_12), .unset, .unset, .unset, .unset, .unset, .unset, .unset, .unset, .unset, .unset, .unset, .unset] [(.int (3 : Int32)), (.int ((p5.toUInt32 >>> ((4 : Int32) &&& 31).toUInt32).toInt32))]))
  refine own_by (fun _ k => XS.iand X0.here hx rfl (hb hby at_105) rfl k) ?_
  refine own_by (fun _ k => XS.iload X0.here hx rfl (hb hby at_106) rfl k) ?_
  show own_Go _ _ _ _ (s₁.setTop (mkF m 108 #[.val (.int p1), .val (.int p2), .val (.int p3), .val (.int p4), .val (.int p5), .val (.int p6), .val (.int v6_1), .val (.int v7_2), .val (.int v8_3), .val (.int v9_4), .val (.int v10_5), .val (.int v11_6), .val (.int v12_7), .val (.int v13_8), .val (.int v14_9), .val (.int v15_10), .val (.int v16_11), .val (.int v17_12), .unset, .unset, .unset, .unset, .unset, .unset, .unset, .unset, .unset, .unset, .unset, .unset] [(.int v6_1), (.int (((p5.toUInt32 >>> ((4 : Int32) &&& 31).toUInt32).toInt32) &&& (3 : Int32)))]))
  refine own_by (fun _ k => iremM X0 hx rfl (hb hby at_108) rfl (own_nz hN hN1) k) ?_
  show own_Go _ _ _ _ (s₁.setTop (mkF m 109 #[.val (.int p1), .val (.int p2), .val (.int p3), .val (.int p4), .val (.int p5), .val (.int p6), .val (.int v6_1), .val (.int v7_2), .val (.int v8_3), .val (.int v9_4), .val (.int v10_5), .val (.int v11_6), .val (.int v12_7), .val (.int v13_8), .val (.int v14_9), .val (.int v15_10), .val (.int v16_11), .val (.int v17_12), .unset, .unset, .unset, .unset, .unset, .unset, .unset, .unset, .unset, .unset, .unset, .unset] [(.int ((((p5.toUInt32 >>> ((4 : Int32) &&& 31).toUInt32).toInt32) &&& (3 : Int32)) % v6_1))]))
  obtain ⟨v18_13, hv18_13⟩ : ∃ z_ : Int32, ((((p5.toUInt32 >>> ((4 : Int32) &&& 31).toUInt32).toInt32) &&& (3 : Int32)) % v6_1) = z_ := ⟨_, rfl⟩
  refine own_gen hv18_13 (fun z_ => s₁.setTop (mkF m 109 #[.val (.int p1), .val (.int p2), .val (.int p3), .val (.int p4), .val (.int p5), .val (.int p6), .val (.int v6_1), .val (.int v7_2), .val (.int v8_3), .val (.int v9_4), .val (.int v10_5), .val (.int v11_6), .val (.int v12_7), .val (.int v13_8), .val (.int v14_9), .val (.int v15_10), .val (.int v16_11), .val (.int v17_12), .unset, .unset, .unset, .unset, .unset, .unset, .unset, .unset, .unset, .unset, .unset, .unset] [(.int z_)])) ?_
  refine own_by (fun _ k => XS.istore X0.here hx rfl (hb hby at_109) rfl (l' := #[.val (.int p1), .val (.int p2), .val (.int p3), .val (.int p4), .val (.int p5), .val (.int p6), .val (.int v6_1), .val (.int v7_2), .val (.int v8_3), .val (.int v9_4), .val (.int v10_5), .val (.int v11_6), .val (.int v12_7), .val (.int v13_8), .val (.int v14_9), .val (.int v15_10), .val (.int v16_11), .val (.int v17_12), .val (.int v18_13), .unset, .unset, .unset, .unset, .unset, .unset, .unset, .unset, .unset, .unset, .unset]) rfl k) ?_
  obtain ⟨ln, hln, hln3⟩ := own_le 3 _ _ _ (by decide) hv7_2
  obtain ⟨i8, hi8, hl8⟩ := own_rem hN hN1 hv8_3
  obtain ⟨i9, hi9, hl9⟩ := own_rem hN hN1 hv9_4
  obtain ⟨i10, hi10, hl10⟩ := own_rem hN hN1 hv10_5
  obtain ⟨i11, hi11, hl11⟩ := own_rem hN hN1 hv11_6
  obtain ⟨i16, hi16, hl16⟩ := own_rem hN hN1 hv16_11
  obtain ⟨i17, hi17, hl17⟩ := own_rem hN hN1 hv17_12
  obtain ⟨i18, hi18, hl18⟩ := own_rem hN hN1 hv18_13
  obtain ⟨x12, hx12, hm12⟩ := own_le 127 _ _ _ (by decide) hv12_7
  obtain ⟨x13, hx13, hm13⟩ := own_le 127 _ _ _ (by decide) hv13_8
  obtain ⟨x14, hx14, hm14⟩ := own_le 127 _ _ _ (by decide) hv14_9
  obtain ⟨kf, hkf, hkf3⟩ := own_le 3 _ _ _ (by decide) hv15_10
  have hkf1 := own_p1 hkf hkf3
  refine own_by (fun _ k => XS.iload X0.here hx rfl (hb hby at_111) rfl k) ?_
  show own_Go _ _ _ _ (s₁.setTop (mkF m 113 #[.val (.int p1), .val (.int p2), .val (.int p3), .val (.int p4), .val (.int p5), .val (.int p6), .val (.int v6_1), .val (.int v7_2), .val (.int v8_3), .val (.int v9_4), .val (.int v10_5), .val (.int v11_6), .val (.int v12_7), .val (.int v13_8), .val (.int v14_9), .val (.int v15_10), .val (.int v16_11), .val (.int v17_12), .val (.int v18_13), .unset, .unset, .unset, .unset, .unset, .unset, .unset, .unset, .unset, .unset, .unset] [(.int v7_2)]))
  refine own_newP X0 hx hZ (hw _ (List.mem_of_getElem? (i := 0) rfl)) e0 ln hln 3 hln3 (by decide) (by decide) (by decide) (hb hby at_113) ?_
  intro T14 h14 X14 e14 E14 A14
  show own_Go _ _ _ _ (T14.setTop (mkF m 115 #[.val (.int p1), .val (.int p2), .val (.int p3), .val (.int p4), .val (.int p5), .val (.int p6), .val (.int v6_1), .val (.int v7_2), .val (.int v8_3), .val (.int v9_4), .val (.int v10_5), .val (.int v11_6), .val (.int v12_7), .val (.int v13_8), .val (.int v14_9), .val (.int v15_10), .val (.int v16_11), .val (.int v17_12), .val (.int v18_13), .unset, .unset, .unset, .unset, .unset, .unset, .unset, .unset, .unset, .unset, .unset] [.ref h0.size]))
  obtain ⟨b14, g14⟩ : ∃ z, z = h0.size := ⟨_, rfl⟩
  rw [← g14] at A14
  refine own_gen g14.symm (fun z_ => T14.setTop (mkF m 115 #[.val (.int p1), .val (.int p2), .val (.int p3), .val (.int p4), .val (.int p5), .val (.int p6), .val (.int v6_1), .val (.int v7_2), .val (.int v8_3), .val (.int v9_4), .val (.int v10_5), .val (.int v11_6), .val (.int v12_7), .val (.int v13_8), .val (.int v14_9), .val (.int v15_10), .val (.int v16_11), .val (.int v17_12), .val (.int v18_13), .unset, .unset, .unset, .unset, .unset, .unset, .unset, .unset, .unset, .unset, .unset] [.ref z_])) ?_
  have ne15 : dc ≠ b14 := Nat.ne_of_lt (Nat.lt_of_lt_of_le PC.lt (Nat.le_of_eq g14.symm))
  have ne16 : sa ≠ b14 := Nat.ne_of_lt (Nat.lt_of_lt_of_le PFn.lt (Nat.le_of_eq g14.symm))
  have ge14 : n0 ≤ b14 := Nat.le_trans Z0 (Nat.le_of_eq g14.symm)
  have nw14 : h0.size ≤ b14 := Nat.le_trans (Keep.refl h0 []).1 (Nat.le_of_eq g14.symm)
  have f17 := (Keep.refl h0 []).ext E14
  have f18 := PS.ext E14
  have f19 := PC.ext E14
  have f20 := PFn.ext E14
  have Z14 := Nat.le_trans Z0 E14.1
  have f21 : own_AI Z h14 b14 .int ln (fun _ => 0) := A14
  show own_Go _ _ _ _ (T14.setTop (mkF m 115 #[.val (.int p1), .val (.int p2), .val (.int p3), .val (.int p4), .val (.int p5), .val (.int p6), .val (.int v6_1), .val (.int v7_2), .val (.int v8_3), .val (.int v9_4), .val (.int v10_5), .val (.int v11_6), .val (.int v12_7), .val (.int v13_8), .val (.int v14_9), .val (.int v15_10), .val (.int v16_11), .val (.int v17_12), .val (.int v18_13), .unset, .unset, .unset, .unset, .unset, .unset, .unset, .unset, .unset, .unset, .unset] [(.ref b14)]))
  refine own_by (fun _ k => XS.astore X14.here hx rfl (hb hby at_115) rfl rfl (l' := #[.val (.int p1), .val (.int p2), .val (.int p3), .val (.int p4), .val (.int p5), .val (.int p6), .val (.int v6_1), .val (.int v7_2), .val (.int v8_3), .val (.int v9_4), .val (.int v10_5), .val (.int v11_6), .val (.int v12_7), .val (.int v13_8), .val (.int v14_9), .val (.int v15_10), .val (.int v16_11), .val (.int v17_12), .val (.int v18_13), .val (.ref b14), .unset, .unset, .unset, .unset, .unset, .unset, .unset, .unset, .unset, .unset]) rfl k) ?_
  have tailI : ∀ (Tt : State) (ht : Heap) (Lt : List Loc) (auq rbq wq dq : Addr) (Sq : Nat → Bool) (fA : Nat → Int32) (i3 j3 : Nat), Stand p l e room_1 s m #[(.int p1), (.int p2), (.int p3), (.int p4), (.int p5), (.int p6)] below meth c Tt Lt 42 108 → Tt.heap = ht → Fr n0 Lt → n0 ≤ ht.size → own_B Z ht n0 rbq wq dq Sq → (v15_10 + (1 : Int32)) < v7_2 → own_AI Z ht b14 .int ln fA → (fA kf).toInt = (i3 : Int) → (fA (kf + 1)).toInt = (j3 : Int) → j3 < N → kf + 1 < ln → (∀ x, Sq x = ((decide (x = x12) && decide (i3 * N + j3 = (i8 * N + i9))) || (decide (x = x13) && decide (i3 * N + j3 = (i10 * N + i11))))) → own_Go p.tables e below (own_Q s (fun v h L => v = some (.int 1) ∧ Fr n0 L) 88 256) (Tt.setTop (mkF m 194 #[.val (.int p1), .val (.int p2), .val (.int p3), .val (.int p4), .val (.int p5), .val (.int p6), .val (.int v6_1), .val (.int v7_2), .val (.int v8_3), .val (.int v9_4), .val (.int v10_5), .val (.int v11_6), .val (.int v12_7), .val (.int v13_8), .val (.int v14_9), .val (.int v15_10), .val (.int v16_11), .val (.int v17_12), .val (.int v18_13), .val (.ref b14), .val (.ref auq), .unset, .unset, .unset, .unset, .unset, .unset, .unset, .unset, .unset] [.ref rbq])) := by
    intro Tt ht Lt auq rbq wq dq Sq fA i3 j3 Xt et Nt Zt Bt hin At hi3 hj3 hq3 hkl HS
    show own_Go _ _ _ _ (Tt.setTop (mkF m 194 #[.val (.int p1), .val (.int p2), .val (.int p3), .val (.int p4), .val (.int p5), .val (.int p6), .val (.int v6_1), .val (.int v7_2), .val (.int v8_3), .val (.int v9_4), .val (.int v10_5), .val (.int v11_6), .val (.int v12_7), .val (.int v13_8), .val (.int v14_9), .val (.int v15_10), .val (.int v16_11), .val (.int v17_12), .val (.int v18_13), .val (.ref b14), .val (.ref auq), .unset, .unset, .unset, .unset, .unset, .unset, .unset, .unset, .unset] [(.ref rbq)]))
    refine own_by (fun _ k => XS.astore Xt.here hx rfl (hb hby at_194) rfl rfl (l' := #[.val (.int p1), .val (.int p2), .val (.int p3), .val (.int p4), .val (.int p5), .val (.int p6), .val (.int v6_1), .val (.int v7_2), .val (.int v8_3), .val (.int v9_4), .val (.int v10_5), .val (.int v11_6), .val (.int v12_7), .val (.int v13_8), .val (.int v14_9), .val (.int v15_10), .val (.int v16_11), .val (.int v17_12), .val (.int v18_13), .val (.ref b14), .val (.ref auq), .val (.ref rbq), .unset, .unset, .unset, .unset, .unset, .unset, .unset, .unset]) rfl k) ?_
    refine own_by (fun _ k => XS.iload Xt.here hx rfl (hb hby at_196) rfl k) ?_
    refine own_by (fun _ k => XS.iconst Xt.here hx rfl (hb hby at_198) k) ?_
    show own_Go _ _ _ _ (Tt.setTop (mkF m 199 #[.val (.int p1), .val (.int p2), .val (.int p3), .val (.int p4), .val (.int p5), .val (.int p6), .val (.int v6_1), .val (.int v7_2), .val (.int v8_3), .val (.int v9_4), .val (.int v10_5), .val (.int v11_6), .val (.int v12_7), .val (.int v13_8), .val (.int v14_9), .val (.int v15_10), .val (.int v16_11), .val (.int v17_12), .val (.int v18_13), .val (.ref b14), .val (.ref auq), .val (.ref rbq), .unset, .unset, .unset, .unset, .unset, .unset, .unset, .unset] [(.int (1 : Int32)), (.int v15_10)]))
    refine own_by (fun _ k => XS.iadd Xt.here hx rfl (hb hby at_199) rfl k) ?_
    refine own_by (fun _ k => XS.iload Xt.here hx rfl (hb hby at_200) rfl k) ?_
    show own_Go _ _ _ _ (Tt.setTop (mkF m 202 #[.val (.int p1), .val (.int p2), .val (.int p3), .val (.int p4), .val (.int p5), .val (.int p6), .val (.int v6_1), .val (.int v7_2), .val (.int v8_3), .val (.int v9_4), .val (.int v10_5), .val (.int v11_6), .val (.int v12_7), .val (.int v13_8), .val (.int v14_9), .val (.int v15_10), .val (.int v16_11), .val (.int v17_12), .val (.int v18_13), .val (.ref b14), .val (.ref auq), .val (.ref rbq), .unset, .unset, .unset, .unset, .unset, .unset, .unset, .unset] [(.int v7_2), (.int (v15_10 + (1 : Int32)))]))
    refine own_by (fun _ k => XS.icmpNo Xt.here hx rfl (hb hby at_202) rfl (tlt hin).2.1 k) ?_
    refine own_by (fun _ k => XS.iconst Xt.here hx rfl (hb hby at_205) k) ?_
    show own_Go _ _ _ _ (Tt.setTop (mkF m 206 #[.val (.int p1), .val (.int p2), .val (.int p3), .val (.int p4), .val (.int p5), .val (.int p6), .val (.int v6_1), .val (.int v7_2), .val (.int v8_3), .val (.int v9_4), .val (.int v10_5), .val (.int v11_6), .val (.int v12_7), .val (.int v13_8), .val (.int v14_9), .val (.int v15_10), .val (.int v16_11), .val (.int v17_12), .val (.int v18_13), .val (.ref b14), .val (.ref auq), .val (.ref rbq), .unset, .unset, .unset, .unset, .unset, .unset, .unset, .unset] [(.int (1 : Int32))]))
    refine own_by (fun _ k => XS.goto Xt.here hx rfl (pc0 := 206) (pc' := 210) rfl (hb hby at_206) (by decide) (by decide) k) ?_
    show own_Go _ _ _ _ (Tt.setTop (mkF m 210 #[.val (.int p1), .val (.int p2), .val (.int p3), .val (.int p4), .val (.int p5), .val (.int p6), .val (.int v6_1), .val (.int v7_2), .val (.int v8_3), .val (.int v9_4), .val (.int v10_5), .val (.int v11_6), .val (.int v12_7), .val (.int v13_8), .val (.int v14_9), .val (.int v15_10), .val (.int v16_11), .val (.int v17_12), .val (.int v18_13), .val (.ref b14), .val (.ref auq), .val (.ref rbq), .unset, .unset, .unset, .unset, .unset, .unset, .unset, .unset] [(.int (1 : Int32))]))
    refine own_by (fun _ k => XS.istore Xt.here hx rfl (hb hby at_210) rfl (l' := #[.val (.int p1), .val (.int p2), .val (.int p3), .val (.int p4), .val (.int p5), .val (.int p6), .val (.int v6_1), .val (.int v7_2), .val (.int v8_3), .val (.int v9_4), .val (.int v10_5), .val (.int v11_6), .val (.int v12_7), .val (.int v13_8), .val (.int v14_9), .val (.int v15_10), .val (.int v16_11), .val (.int v17_12), .val (.int v18_13), .val (.ref b14), .val (.ref auq), .val (.ref rbq), .val (.int (1 : Int32)), .unset, .unset, .unset, .unset, .unset, .unset, .unset]) rfl k) ?_
    refine own_by (fun _ k => XS.iload Xt.here hx rfl (hb hby at_212) rfl k) ?_
    show own_Go _ _ _ _ (Tt.setTop (mkF m 214 #[.val (.int p1), .val (.int p2), .val (.int p3), .val (.int p4), .val (.int p5), .val (.int p6), .val (.int v6_1), .val (.int v7_2), .val (.int v8_3), .val (.int v9_4), .val (.int v10_5), .val (.int v11_6), .val (.int v12_7), .val (.int v13_8), .val (.int v14_9), .val (.int v15_10), .val (.int v16_11), .val (.int v17_12), .val (.int v18_13), .val (.ref b14), .val (.ref auq), .val (.ref rbq), .val (.int (1 : Int32)), .unset, .unset, .unset, .unset, .unset, .unset, .unset] [(.int (1 : Int32))]))
    refine own_by (fun _ k => XS.ifNo Xt.here hx rfl (hb hby at_214) rfl ((if0 _ _).trans (feq (by decide)).1) k) ?_
    refine own_by (fun _ k => XS.aload Xt.here hx rfl (hb hby at_217) rfl rfl k) ?_
    refine own_by (fun _ k => XS.iload Xt.here hx rfl (hb hby at_219) rfl k) ?_
    show own_Go _ _ _ _ (Tt.setTop (mkF m 221 #[.val (.int p1), .val (.int p2), .val (.int p3), .val (.int p4), .val (.int p5), .val (.int p6), .val (.int v6_1), .val (.int v7_2), .val (.int v8_3), .val (.int v9_4), .val (.int v10_5), .val (.int v11_6), .val (.int v12_7), .val (.int v13_8), .val (.int v14_9), .val (.int v15_10), .val (.int v16_11), .val (.int v17_12), .val (.int v18_13), .val (.ref b14), .val (.ref auq), .val (.ref rbq), .val (.int (1 : Int32)), .unset, .unset, .unset, .unset, .unset, .unset, .unset] [(.int v15_10), (.ref b14)]))
    refine own_by (fun _ k => own_ial Xt hx hZ et At kf hkf (by omega) (hb hby at_221) k) ?_
    show own_Go _ _ _ _ (Tt.setTop (mkF m 222 #[.val (.int p1), .val (.int p2), .val (.int p3), .val (.int p4), .val (.int p5), .val (.int p6), .val (.int v6_1), .val (.int v7_2), .val (.int v8_3), .val (.int v9_4), .val (.int v10_5), .val (.int v11_6), .val (.int v12_7), .val (.int v13_8), .val (.int v14_9), .val (.int v15_10), .val (.int v16_11), .val (.int v17_12), .val (.int v18_13), .val (.ref b14), .val (.ref auq), .val (.ref rbq), .val (.int (1 : Int32)), .unset, .unset, .unset, .unset, .unset, .unset, .unset] [(.int (fA kf))]))
    refine own_by (fun _ k => XS.goto Xt.here hx rfl (pc0 := 222) (pc' := 226) rfl (hb hby at_222) (by decide) (by decide) k) ?_
    show own_Go _ _ _ _ (Tt.setTop (mkF m 226 #[.val (.int p1), .val (.int p2), .val (.int p3), .val (.int p4), .val (.int p5), .val (.int p6), .val (.int v6_1), .val (.int v7_2), .val (.int v8_3), .val (.int v9_4), .val (.int v10_5), .val (.int v11_6), .val (.int v12_7), .val (.int v13_8), .val (.int v14_9), .val (.int v15_10), .val (.int v16_11), .val (.int v17_12), .val (.int v18_13), .val (.ref b14), .val (.ref auq), .val (.ref rbq), .val (.int (1 : Int32)), .unset, .unset, .unset, .unset, .unset, .unset, .unset] [(.int (fA kf))]))
    obtain ⟨v23_22, hv23_22⟩ : ∃ z_ : Int32, (fA kf) = z_ := ⟨_, rfl⟩
    refine own_gen hv23_22 (fun z_ => Tt.setTop (mkF m 226 #[.val (.int p1), .val (.int p2), .val (.int p3), .val (.int p4), .val (.int p5), .val (.int p6), .val (.int v6_1), .val (.int v7_2), .val (.int v8_3), .val (.int v9_4), .val (.int v10_5), .val (.int v11_6), .val (.int v12_7), .val (.int v13_8), .val (.int v14_9), .val (.int v15_10), .val (.int v16_11), .val (.int v17_12), .val (.int v18_13), .val (.ref b14), .val (.ref auq), .val (.ref rbq), .val (.int (1 : Int32)), .unset, .unset, .unset, .unset, .unset, .unset, .unset] [(.int z_)])) ?_
    refine own_by (fun _ k => XS.istore Xt.here hx rfl (hb hby at_226) rfl (l' := #[.val (.int p1), .val (.int p2), .val (.int p3), .val (.int p4), .val (.int p5), .val (.int p6), .val (.int v6_1), .val (.int v7_2), .val (.int v8_3), .val (.int v9_4), .val (.int v10_5), .val (.int v11_6), .val (.int v12_7), .val (.int v13_8), .val (.int v14_9), .val (.int v15_10), .val (.int v16_11), .val (.int v17_12), .val (.int v18_13), .val (.ref b14), .val (.ref auq), .val (.ref rbq), .val (.int (1 : Int32)), .val (.int v23_22), .unset, .unset, .unset, .unset, .unset, .unset]) rfl k) ?_
    refine own_by (fun _ k => XS.iload Xt.here hx rfl (hb hby at_228) rfl k) ?_
    show own_Go _ _ _ _ (Tt.setTop (mkF m 230 #[.val (.int p1), .val (.int p2), .val (.int p3), .val (.int p4), .val (.int p5), .val (.int p6), .val (.int v6_1), .val (.int v7_2), .val (.int v8_3), .val (.int v9_4), .val (.int v10_5), .val (.int v11_6), .val (.int v12_7), .val (.int v13_8), .val (.int v14_9), .val (.int v15_10), .val (.int v16_11), .val (.int v17_12), .val (.int v18_13), .val (.ref b14), .val (.ref auq), .val (.ref rbq), .val (.int (1 : Int32)), .val (.int v23_22), .unset, .unset, .unset, .unset, .unset, .unset] [(.int (1 : Int32))]))
    refine own_by (fun _ k => XS.ifNo Xt.here hx rfl (hb hby at_230) rfl ((if0 _ _).trans (feq (by decide)).1) k) ?_
    refine own_by (fun _ k => XS.aload Xt.here hx rfl (hb hby at_233) rfl rfl k) ?_
    refine own_by (fun _ k => XS.iload Xt.here hx rfl (hb hby at_235) rfl k) ?_
    show own_Go _ _ _ _ (Tt.setTop (mkF m 237 #[.val (.int p1), .val (.int p2), .val (.int p3), .val (.int p4), .val (.int p5), .val (.int p6), .val (.int v6_1), .val (.int v7_2), .val (.int v8_3), .val (.int v9_4), .val (.int v10_5), .val (.int v11_6), .val (.int v12_7), .val (.int v13_8), .val (.int v14_9), .val (.int v15_10), .val (.int v16_11), .val (.int v17_12), .val (.int v18_13), .val (.ref b14), .val (.ref auq), .val (.ref rbq), .val (.int (1 : Int32)), .val (.int v23_22), .unset, .unset, .unset, .unset, .unset, .unset] [(.int v15_10), (.ref b14)]))
    refine own_by (fun _ k => XS.iconst Xt.here hx rfl (hb hby at_237) k) ?_
    show own_Go _ _ _ _ (Tt.setTop (mkF m 238 #[.val (.int p1), .val (.int p2), .val (.int p3), .val (.int p4), .val (.int p5), .val (.int p6), .val (.int v6_1), .val (.int v7_2), .val (.int v8_3), .val (.int v9_4), .val (.int v10_5), .val (.int v11_6), .val (.int v12_7), .val (.int v13_8), .val (.int v14_9), .val (.int v15_10), .val (.int v16_11), .val (.int v17_12), .val (.int v18_13), .val (.ref b14), .val (.ref auq), .val (.ref rbq), .val (.int (1 : Int32)), .val (.int v23_22), .unset, .unset, .unset, .unset, .unset, .unset] [(.int (1 : Int32)), (.int v15_10), (.ref b14)]))
    refine own_by (fun _ k => XS.iadd Xt.here hx rfl (hb hby at_238) rfl k) ?_
    show own_Go _ _ _ _ (Tt.setTop (mkF m 239 #[.val (.int p1), .val (.int p2), .val (.int p3), .val (.int p4), .val (.int p5), .val (.int p6), .val (.int v6_1), .val (.int v7_2), .val (.int v8_3), .val (.int v9_4), .val (.int v10_5), .val (.int v11_6), .val (.int v12_7), .val (.int v13_8), .val (.int v14_9), .val (.int v15_10), .val (.int v16_11), .val (.int v17_12), .val (.int v18_13), .val (.ref b14), .val (.ref auq), .val (.ref rbq), .val (.int (1 : Int32)), .val (.int v23_22), .unset, .unset, .unset, .unset, .unset, .unset] [(.int (v15_10 + (1 : Int32))), (.ref b14)]))
    refine own_by (fun _ k => own_ial Xt hx hZ et At (kf + 1) hkf1 hkl (hb hby at_239) k) ?_
    show own_Go _ _ _ _ (Tt.setTop (mkF m 240 #[.val (.int p1), .val (.int p2), .val (.int p3), .val (.int p4), .val (.int p5), .val (.int p6), .val (.int v6_1), .val (.int v7_2), .val (.int v8_3), .val (.int v9_4), .val (.int v10_5), .val (.int v11_6), .val (.int v12_7), .val (.int v13_8), .val (.int v14_9), .val (.int v15_10), .val (.int v16_11), .val (.int v17_12), .val (.int v18_13), .val (.ref b14), .val (.ref auq), .val (.ref rbq), .val (.int (1 : Int32)), .val (.int v23_22), .unset, .unset, .unset, .unset, .unset, .unset] [(.int (fA (kf + 1)))]))
    refine own_by (fun _ k => XS.goto Xt.here hx rfl (pc0 := 240) (pc' := 244) rfl (hb hby at_240) (by decide) (by decide) k) ?_
    show own_Go _ _ _ _ (Tt.setTop (mkF m 244 #[.val (.int p1), .val (.int p2), .val (.int p3), .val (.int p4), .val (.int p5), .val (.int p6), .val (.int v6_1), .val (.int v7_2), .val (.int v8_3), .val (.int v9_4), .val (.int v10_5), .val (.int v11_6), .val (.int v12_7), .val (.int v13_8), .val (.int v14_9), .val (.int v15_10), .val (.int v16_11), .val (.int v17_12), .val (.int v18_13), .val (.ref b14), .val (.ref auq), .val (.ref rbq), .val (.int (1 : Int32)), .val (.int v23_22), .unset, .unset, .unset, .unset, .unset, .unset] [(.int (fA (kf + 1)))]))
    obtain ⟨v24_23, hv24_23⟩ : ∃ z_ : Int32, (fA (kf + 1)) = z_ := ⟨_, rfl⟩
    refine own_gen hv24_23 (fun z_ => Tt.setTop (mkF m 244 #[.val (.int p1), .val (.int p2), .val (.int p3), .val (.int p4), .val (.int p5), .val (.int p6), .val (.int v6_1), .val (.int v7_2), .val (.int v8_3), .val (.int v9_4), .val (.int v10_5), .val (.int v11_6), .val (.int v12_7), .val (.int v13_8), .val (.int v14_9), .val (.int v15_10), .val (.int v16_11), .val (.int v17_12), .val (.int v18_13), .val (.ref b14), .val (.ref auq), .val (.ref rbq), .val (.int (1 : Int32)), .val (.int v23_22), .unset, .unset, .unset, .unset, .unset, .unset] [(.int z_)])) ?_
    refine own_by (fun _ k => XS.istore Xt.here hx rfl (hb hby at_244) rfl (l' := #[.val (.int p1), .val (.int p2), .val (.int p3), .val (.int p4), .val (.int p5), .val (.int p6), .val (.int v6_1), .val (.int v7_2), .val (.int v8_3), .val (.int v9_4), .val (.int v10_5), .val (.int v11_6), .val (.int v12_7), .val (.int v13_8), .val (.int v14_9), .val (.int v15_10), .val (.int v16_11), .val (.int v17_12), .val (.int v18_13), .val (.ref b14), .val (.ref auq), .val (.ref rbq), .val (.int (1 : Int32)), .val (.int v23_22), .val (.int v24_23), .unset, .unset, .unset, .unset, .unset]) rfl k) ?_
    refine own_by (V := Tt.setTop (mkF m 270 #[.val (.int p1), .val (.int p2), .val (.int p3), .val (.int p4), .val (.int p5), .val (.int p6), .val (.int v6_1), .val (.int v7_2), .val (.int v8_3), .val (.int v9_4), .val (.int v10_5), .val (.int v11_6), .val (.int v12_7), .val (.int v13_8), .val (.int v14_9), .val (.int v15_10), .val (.int v16_11), .val (.int v17_12), .val (.int v18_13), .val (.ref b14), .val (.ref auq), .val (.ref rbq), .val (.int (1 : Int32)), .val (.int v23_22), .val (.int v24_23), .unset, .unset, .unset, .unset, .unset] [(.int (if v23_22 = v8_3 then (if v24_23 = v9_4 then (1 : Int32) else (0 : Int32)) else (0 : Int32)))])) (fun _ kk => ?_) ?_
    · --
      show Steps _ _ _ (Tt.setTop (mkF m 246 #[.val (.int p1), .val (.int p2), .val (.int p3), .val (.int p4), .val (.int p5), .val (.int p6), .val (.int v6_1), .val (.int v7_2), .val (.int v8_3), .val (.int v9_4), .val (.int v10_5), .val (.int v11_6), .val (.int v12_7), .val (.int v13_8), .val (.int v14_9), .val (.int v15_10), .val (.int v16_11), .val (.int v17_12), .val (.int v18_13), .val (.ref b14), .val (.ref auq), .val (.ref rbq), .val (.int (1 : Int32)), .val (.int v23_22), .val (.int v24_23), .unset, .unset, .unset, .unset, .unset] [])) _
      refine XS.iload Xt.here hx rfl (hb hby at_246) rfl ?_
      show Steps _ _ _ (Tt.setTop (mkF m 248 #[.val (.int p1), .val (.int p2), .val (.int p3), .val (.int p4), .val (.int p5), .val (.int p6), .val (.int v6_1), .val (.int v7_2), .val (.int v8_3), .val (.int v9_4), .val (.int v10_5), .val (.int v11_6), .val (.int v12_7), .val (.int v13_8), .val (.int v14_9), .val (.int v15_10), .val (.int v16_11), .val (.int v17_12), .val (.int v18_13), .val (.ref b14), .val (.ref auq), .val (.ref rbq), .val (.int (1 : Int32)), .val (.int v23_22), .val (.int v24_23), .unset, .unset, .unset, .unset, .unset] [(.int (1 : Int32))])) _
      refine XS.ifNo Xt.here hx rfl (hb hby at_248) rfl ((if0 _ _).trans (feq (by decide)).1) ?_
      show Steps _ _ _ (Tt.setTop (mkF m 251 #[.val (.int p1), .val (.int p2), .val (.int p3), .val (.int p4), .val (.int p5), .val (.int p6), .val (.int v6_1), .val (.int v7_2), .val (.int v8_3), .val (.int v9_4), .val (.int v10_5), .val (.int v11_6), .val (.int v12_7), .val (.int v13_8), .val (.int v14_9), .val (.int v15_10), .val (.int v16_11), .val (.int v17_12), .val (.int v18_13), .val (.ref b14), .val (.ref auq), .val (.ref rbq), .val (.int (1 : Int32)), .val (.int v23_22), .val (.int v24_23), .unset, .unset, .unset, .unset, .unset] [])) _
      refine XS.iload Xt.here hx rfl (hb hby at_251) rfl ?_
      show Steps _ _ _ (Tt.setTop (mkF m 253 #[.val (.int p1), .val (.int p2), .val (.int p3), .val (.int p4), .val (.int p5), .val (.int p6), .val (.int v6_1), .val (.int v7_2), .val (.int v8_3), .val (.int v9_4), .val (.int v10_5), .val (.int v11_6), .val (.int v12_7), .val (.int v13_8), .val (.int v14_9), .val (.int v15_10), .val (.int v16_11), .val (.int v17_12), .val (.int v18_13), .val (.ref b14), .val (.ref auq), .val (.ref rbq), .val (.int (1 : Int32)), .val (.int v23_22), .val (.int v24_23), .unset, .unset, .unset, .unset, .unset] [(.int v23_22)])) _
      refine XS.iload Xt.here hx rfl (hb hby at_253) rfl ?_
      show Steps _ _ _ (Tt.setTop (mkF m 255 #[.val (.int p1), .val (.int p2), .val (.int p3), .val (.int p4), .val (.int p5), .val (.int p6), .val (.int v6_1), .val (.int v7_2), .val (.int v8_3), .val (.int v9_4), .val (.int v10_5), .val (.int v11_6), .val (.int v12_7), .val (.int v13_8), .val (.int v14_9), .val (.int v15_10), .val (.int v16_11), .val (.int v17_12), .val (.int v18_13), .val (.ref b14), .val (.ref auq), .val (.ref rbq), .val (.int (1 : Int32)), .val (.int v23_22), .val (.int v24_23), .unset, .unset, .unset, .unset, .unset] [(.int v8_3), (.int v23_22)])) _
      by_cases hc24 : v23_22 = v8_3
      · --
        refine XS.icmpNo Xt.here hx rfl (hb hby at_255) rfl (teq hc24).2 ?_
        show Steps _ _ _ (Tt.setTop (mkF m 258 #[.val (.int p1), .val (.int p2), .val (.int p3), .val (.int p4), .val (.int p5), .val (.int p6), .val (.int v6_1), .val (.int v7_2), .val (.int v8_3), .val (.int v9_4), .val (.int v10_5), .val (.int v11_6), .val (.int v12_7), .val (.int v13_8), .val (.int v14_9), .val (.int v15_10), .val (.int v16_11), .val (.int v17_12), .val (.int v18_13), .val (.ref b14), .val (.ref auq), .val (.ref rbq), .val (.int (1 : Int32)), .val (.int v23_22), .val (.int v24_23), .unset, .unset, .unset, .unset, .unset] [])) _
        refine XS.iload Xt.here hx rfl (hb hby at_258) rfl ?_
        show Steps _ _ _ (Tt.setTop (mkF m 260 #[.val (.int p1), .val (.int p2), .val (.int p3), .val (.int p4), .val (.int p5), .val (.int p6), .val (.int v6_1), .val (.int v7_2), .val (.int v8_3), .val (.int v9_4), .val (.int v10_5), .val (.int v11_6), .val (.int v12_7), .val (.int v13_8), .val (.int v14_9), .val (.int v15_10), .val (.int v16_11), .val (.int v17_12), .val (.int v18_13), .val (.ref b14), .val (.ref auq), .val (.ref rbq), .val (.int (1 : Int32)), .val (.int v23_22), .val (.int v24_23), .unset, .unset, .unset, .unset, .unset] [(.int v24_23)])) _
        refine XS.iload Xt.here hx rfl (hb hby at_260) rfl ?_
        show Steps _ _ _ (Tt.setTop (mkF m 262 #[.val (.int p1), .val (.int p2), .val (.int p3), .val (.int p4), .val (.int p5), .val (.int p6), .val (.int v6_1), .val (.int v7_2), .val (.int v8_3), .val (.int v9_4), .val (.int v10_5), .val (.int v11_6), .val (.int v12_7), .val (.int v13_8), .val (.int v14_9), .val (.int v15_10), .val (.int v16_11), .val (.int v17_12), .val (.int v18_13), .val (.ref b14), .val (.ref auq), .val (.ref rbq), .val (.int (1 : Int32)), .val (.int v23_22), .val (.int v24_23), .unset, .unset, .unset, .unset, .unset] [(.int v9_4), (.int v24_23)])) _
        by_cases hc25 : v24_23 = v9_4
        · --
          refine XS.icmpNo Xt.here hx rfl (hb hby at_262) rfl (teq hc25).2 ?_
          show Steps _ _ _ (Tt.setTop (mkF m 265 #[.val (.int p1), .val (.int p2), .val (.int p3), .val (.int p4), .val (.int p5), .val (.int p6), .val (.int v6_1), .val (.int v7_2), .val (.int v8_3), .val (.int v9_4), .val (.int v10_5), .val (.int v11_6), .val (.int v12_7), .val (.int v13_8), .val (.int v14_9), .val (.int v15_10), .val (.int v16_11), .val (.int v17_12), .val (.int v18_13), .val (.ref b14), .val (.ref auq), .val (.ref rbq), .val (.int (1 : Int32)), .val (.int v23_22), .val (.int v24_23), .unset, .unset, .unset, .unset, .unset] [])) _
          refine XS.iconst Xt.here hx rfl (hb hby at_265) ?_
          show Steps _ _ _ (Tt.setTop (mkF m 266 #[.val (.int p1), .val (.int p2), .val (.int p3), .val (.int p4), .val (.int p5), .val (.int p6), .val (.int v6_1), .val (.int v7_2), .val (.int v8_3), .val (.int v9_4), .val (.int v10_5), .val (.int v11_6), .val (.int v12_7), .val (.int v13_8), .val (.int v14_9), .val (.int v15_10), .val (.int v16_11), .val (.int v17_12), .val (.int v18_13), .val (.ref b14), .val (.ref auq), .val (.ref rbq), .val (.int (1 : Int32)), .val (.int v23_22), .val (.int v24_23), .unset, .unset, .unset, .unset, .unset] [(.int (1 : Int32))])) _
          refine XS.goto Xt.here hx rfl (pc0 := 266) (pc' := 270) rfl (hb hby at_266) (by decide) (by decide) ?_
          show Steps _ _ _ (Tt.setTop (mkF m 270 #[.val (.int p1), .val (.int p2), .val (.int p3), .val (.int p4), .val (.int p5), .val (.int p6), .val (.int v6_1), .val (.int v7_2), .val (.int v8_3), .val (.int v9_4), .val (.int v10_5), .val (.int v11_6), .val (.int v12_7), .val (.int v13_8), .val (.int v14_9), .val (.int v15_10), .val (.int v16_11), .val (.int v17_12), .val (.int v18_13), .val (.ref b14), .val (.ref auq), .val (.ref rbq), .val (.int (1 : Int32)), .val (.int v23_22), .val (.int v24_23), .unset, .unset, .unset, .unset, .unset] [(.int (1 : Int32))])) _
          try simp only [if_pos hc24, if_pos hc25] at kk
          exact kk
        · --
          refine XS.icmpYes Xt.here hx rfl (pc0 := 262) (pc' := 269) rfl (hb hby at_262) rfl (feq hc25).2 (by decide) (by decide) ?_
          show Steps _ _ _ (Tt.setTop (mkF m 269 #[.val (.int p1), .val (.int p2), .val (.int p3), .val (.int p4), .val (.int p5), .val (.int p6), .val (.int v6_1), .val (.int v7_2), .val (.int v8_3), .val (.int v9_4), .val (.int v10_5), .val (.int v11_6), .val (.int v12_7), .val (.int v13_8), .val (.int v14_9), .val (.int v15_10), .val (.int v16_11), .val (.int v17_12), .val (.int v18_13), .val (.ref b14), .val (.ref auq), .val (.ref rbq), .val (.int (1 : Int32)), .val (.int v23_22), .val (.int v24_23), .unset, .unset, .unset, .unset, .unset] [])) _
          refine XS.iconst Xt.here hx rfl (hb hby at_269) ?_
          show Steps _ _ _ (Tt.setTop (mkF m 270 #[.val (.int p1), .val (.int p2), .val (.int p3), .val (.int p4), .val (.int p5), .val (.int p6), .val (.int v6_1), .val (.int v7_2), .val (.int v8_3), .val (.int v9_4), .val (.int v10_5), .val (.int v11_6), .val (.int v12_7), .val (.int v13_8), .val (.int v14_9), .val (.int v15_10), .val (.int v16_11), .val (.int v17_12), .val (.int v18_13), .val (.ref b14), .val (.ref auq), .val (.ref rbq), .val (.int (1 : Int32)), .val (.int v23_22), .val (.int v24_23), .unset, .unset, .unset, .unset, .unset] [(.int (0 : Int32))])) _
          try simp only [if_pos hc24, if_neg hc25] at kk
          exact kk
      · --
        refine XS.icmpYes Xt.here hx rfl (pc0 := 255) (pc' := 269) rfl (hb hby at_255) rfl (feq hc24).2 (by decide) (by decide) ?_
        show Steps _ _ _ (Tt.setTop (mkF m 269 #[.val (.int p1), .val (.int p2), .val (.int p3), .val (.int p4), .val (.int p5), .val (.int p6), .val (.int v6_1), .val (.int v7_2), .val (.int v8_3), .val (.int v9_4), .val (.int v10_5), .val (.int v11_6), .val (.int v12_7), .val (.int v13_8), .val (.int v14_9), .val (.int v15_10), .val (.int v16_11), .val (.int v17_12), .val (.int v18_13), .val (.ref b14), .val (.ref auq), .val (.ref rbq), .val (.int (1 : Int32)), .val (.int v23_22), .val (.int v24_23), .unset, .unset, .unset, .unset, .unset] [])) _
        refine XS.iconst Xt.here hx rfl (hb hby at_269) ?_
        show Steps _ _ _ (Tt.setTop (mkF m 270 #[.val (.int p1), .val (.int p2), .val (.int p3), .val (.int p4), .val (.int p5), .val (.int p6), .val (.int v6_1), .val (.int v7_2), .val (.int v8_3), .val (.int v9_4), .val (.int v10_5), .val (.int v11_6), .val (.int v12_7), .val (.int v13_8), .val (.int v14_9), .val (.int v15_10), .val (.int v16_11), .val (.int v17_12), .val (.int v18_13), .val (.ref b14), .val (.ref auq), .val (.ref rbq), .val (.int (1 : Int32)), .val (.int v23_22), .val (.int v24_23), .unset, .unset, .unset, .unset, .unset] [(.int (0 : Int32))])) _
        try simp only [if_neg hc24] at kk
        exact kk
    obtain ⟨m26, hm26⟩ : ∃ z_ : Int32, (if v23_22 = v8_3 then (if v24_23 = v9_4 then (1 : Int32) else (0 : Int32)) else (0 : Int32)) = z_ := ⟨_, rfl⟩
    refine own_gen hm26 (fun z_ => Tt.setTop (mkF m 270 #[.val (.int p1), .val (.int p2), .val (.int p3), .val (.int p4), .val (.int p5), .val (.int p6), .val (.int v6_1), .val (.int v7_2), .val (.int v8_3), .val (.int v9_4), .val (.int v10_5), .val (.int v11_6), .val (.int v12_7), .val (.int v13_8), .val (.int v14_9), .val (.int v15_10), .val (.int v16_11), .val (.int v17_12), .val (.int v18_13), .val (.ref b14), .val (.ref auq), .val (.ref rbq), .val (.int (1 : Int32)), .val (.int v23_22), .val (.int v24_23), .unset, .unset, .unset, .unset, .unset] [(.int z_)])) ?_
    have mv1 := own_mB (N := N) hm26 (hv23_22 ▸ hi3) (hv24_23 ▸ hj3) hi8 hi9 hq3 hl9
    show own_Go _ _ _ _ (Tt.setTop (mkF m 270 #[.val (.int p1), .val (.int p2), .val (.int p3), .val (.int p4), .val (.int p5), .val (.int p6), .val (.int v6_1), .val (.int v7_2), .val (.int v8_3), .val (.int v9_4), .val (.int v10_5), .val (.int v11_6), .val (.int v12_7), .val (.int v13_8), .val (.int v14_9), .val (.int v15_10), .val (.int v16_11), .val (.int v17_12), .val (.int v18_13), .val (.ref b14), .val (.ref auq), .val (.ref rbq), .val (.int (1 : Int32)), .val (.int v23_22), .val (.int v24_23), .unset, .unset, .unset, .unset, .unset] [(.int m26)]))
    refine own_by (fun _ k => XS.istore Xt.here hx rfl (hb hby at_270) rfl (l' := #[.val (.int p1), .val (.int p2), .val (.int p3), .val (.int p4), .val (.int p5), .val (.int p6), .val (.int v6_1), .val (.int v7_2), .val (.int v8_3), .val (.int v9_4), .val (.int v10_5), .val (.int v11_6), .val (.int v12_7), .val (.int v13_8), .val (.int v14_9), .val (.int v15_10), .val (.int v16_11), .val (.int v17_12), .val (.int v18_13), .val (.ref b14), .val (.ref auq), .val (.ref rbq), .val (.int (1 : Int32)), .val (.int v23_22), .val (.int v24_23), .val (.int m26), .unset, .unset, .unset, .unset]) rfl k) ?_
    refine own_by (V := Tt.setTop (mkF m 296 #[.val (.int p1), .val (.int p2), .val (.int p3), .val (.int p4), .val (.int p5), .val (.int p6), .val (.int v6_1), .val (.int v7_2), .val (.int v8_3), .val (.int v9_4), .val (.int v10_5), .val (.int v11_6), .val (.int v12_7), .val (.int v13_8), .val (.int v14_9), .val (.int v15_10), .val (.int v16_11), .val (.int v17_12), .val (.int v18_13), .val (.ref b14), .val (.ref auq), .val (.ref rbq), .val (.int (1 : Int32)), .val (.int v23_22), .val (.int v24_23), .val (.int m26), .unset, .unset, .unset, .unset] [(.int (if v23_22 = v10_5 then (if v24_23 = v11_6 then (1 : Int32) else (0 : Int32)) else (0 : Int32)))])) (fun _ kk => ?_) ?_
    · --
      show Steps _ _ _ (Tt.setTop (mkF m 272 #[.val (.int p1), .val (.int p2), .val (.int p3), .val (.int p4), .val (.int p5), .val (.int p6), .val (.int v6_1), .val (.int v7_2), .val (.int v8_3), .val (.int v9_4), .val (.int v10_5), .val (.int v11_6), .val (.int v12_7), .val (.int v13_8), .val (.int v14_9), .val (.int v15_10), .val (.int v16_11), .val (.int v17_12), .val (.int v18_13), .val (.ref b14), .val (.ref auq), .val (.ref rbq), .val (.int (1 : Int32)), .val (.int v23_22), .val (.int v24_23), .val (.int m26), .unset, .unset, .unset, .unset] [])) _
      refine XS.iload Xt.here hx rfl (hb hby at_272) rfl ?_
      show Steps _ _ _ (Tt.setTop (mkF m 274 #[.val (.int p1), .val (.int p2), .val (.int p3), .val (.int p4), .val (.int p5), .val (.int p6), .val (.int v6_1), .val (.int v7_2), .val (.int v8_3), .val (.int v9_4), .val (.int v10_5), .val (.int v11_6), .val (.int v12_7), .val (.int v13_8), .val (.int v14_9), .val (.int v15_10), .val (.int v16_11), .val (.int v17_12), .val (.int v18_13), .val (.ref b14), .val (.ref auq), .val (.ref rbq), .val (.int (1 : Int32)), .val (.int v23_22), .val (.int v24_23), .val (.int m26), .unset, .unset, .unset, .unset] [(.int (1 : Int32))])) _
      refine XS.ifNo Xt.here hx rfl (hb hby at_274) rfl ((if0 _ _).trans (feq (by decide)).1) ?_
      show Steps _ _ _ (Tt.setTop (mkF m 277 #[.val (.int p1), .val (.int p2), .val (.int p3), .val (.int p4), .val (.int p5), .val (.int p6), .val (.int v6_1), .val (.int v7_2), .val (.int v8_3), .val (.int v9_4), .val (.int v10_5), .val (.int v11_6), .val (.int v12_7), .val (.int v13_8), .val (.int v14_9), .val (.int v15_10), .val (.int v16_11), .val (.int v17_12), .val (.int v18_13), .val (.ref b14), .val (.ref auq), .val (.ref rbq), .val (.int (1 : Int32)), .val (.int v23_22), .val (.int v24_23), .val (.int m26), .unset, .unset, .unset, .unset] [])) _
      refine XS.iload Xt.here hx rfl (hb hby at_277) rfl ?_
      show Steps _ _ _ (Tt.setTop (mkF m 279 #[.val (.int p1), .val (.int p2), .val (.int p3), .val (.int p4), .val (.int p5), .val (.int p6), .val (.int v6_1), .val (.int v7_2), .val (.int v8_3), .val (.int v9_4), .val (.int v10_5), .val (.int v11_6), .val (.int v12_7), .val (.int v13_8), .val (.int v14_9), .val (.int v15_10), .val (.int v16_11), .val (.int v17_12), .val (.int v18_13), .val (.ref b14), .val (.ref auq), .val (.ref rbq), .val (.int (1 : Int32)), .val (.int v23_22), .val (.int v24_23), .val (.int m26), .unset, .unset, .unset, .unset] [(.int v23_22)])) _
      refine XS.iload Xt.here hx rfl (hb hby at_279) rfl ?_
      show Steps _ _ _ (Tt.setTop (mkF m 281 #[.val (.int p1), .val (.int p2), .val (.int p3), .val (.int p4), .val (.int p5), .val (.int p6), .val (.int v6_1), .val (.int v7_2), .val (.int v8_3), .val (.int v9_4), .val (.int v10_5), .val (.int v11_6), .val (.int v12_7), .val (.int v13_8), .val (.int v14_9), .val (.int v15_10), .val (.int v16_11), .val (.int v17_12), .val (.int v18_13), .val (.ref b14), .val (.ref auq), .val (.ref rbq), .val (.int (1 : Int32)), .val (.int v23_22), .val (.int v24_23), .val (.int m26), .unset, .unset, .unset, .unset] [(.int v10_5), (.int v23_22)])) _
      by_cases hc27 : v23_22 = v10_5
      · --
        refine XS.icmpNo Xt.here hx rfl (hb hby at_281) rfl (teq hc27).2 ?_
        show Steps _ _ _ (Tt.setTop (mkF m 284 #[.val (.int p1), .val (.int p2), .val (.int p3), .val (.int p4), .val (.int p5), .val (.int p6), .val (.int v6_1), .val (.int v7_2), .val (.int v8_3), .val (.int v9_4), .val (.int v10_5), .val (.int v11_6), .val (.int v12_7), .val (.int v13_8), .val (.int v14_9), .val (.int v15_10), .val (.int v16_11), .val (.int v17_12), .val (.int v18_13), .val (.ref b14), .val (.ref auq), .val (.ref rbq), .val (.int (1 : Int32)), .val (.int v23_22), .val (.int v24_23), .val (.int m26), .unset, .unset, .unset, .unset] [])) _
        refine XS.iload Xt.here hx rfl (hb hby at_284) rfl ?_
        show Steps _ _ _ (Tt.setTop (mkF m 286 #[.val (.int p1), .val (.int p2), .val (.int p3), .val (.int p4), .val (.int p5), .val (.int p6), .val (.int v6_1), .val (.int v7_2), .val (.int v8_3), .val (.int v9_4), .val (.int v10_5), .val (.int v11_6), .val (.int v12_7), .val (.int v13_8), .val (.int v14_9), .val (.int v15_10), .val (.int v16_11), .val (.int v17_12), .val (.int v18_13), .val (.ref b14), .val (.ref auq), .val (.ref rbq), .val (.int (1 : Int32)), .val (.int v23_22), .val (.int v24_23), .val (.int m26), .unset, .unset, .unset, .unset] [(.int v24_23)])) _
        refine XS.iload Xt.here hx rfl (hb hby at_286) rfl ?_
        show Steps _ _ _ (Tt.setTop (mkF m 288 #[.val (.int p1), .val (.int p2), .val (.int p3), .val (.int p4), .val (.int p5), .val (.int p6), .val (.int v6_1), .val (.int v7_2), .val (.int v8_3), .val (.int v9_4), .val (.int v10_5), .val (.int v11_6), .val (.int v12_7), .val (.int v13_8), .val (.int v14_9), .val (.int v15_10), .val (.int v16_11), .val (.int v17_12), .val (.int v18_13), .val (.ref b14), .val (.ref auq), .val (.ref rbq), .val (.int (1 : Int32)), .val (.int v23_22), .val (.int v24_23), .val (.int m26), .unset, .unset, .unset, .unset] [(.int v11_6), (.int v24_23)])) _
        by_cases hc28 : v24_23 = v11_6
        · --
          refine XS.icmpNo Xt.here hx rfl (hb hby at_288) rfl (teq hc28).2 ?_
          show Steps _ _ _ (Tt.setTop (mkF m 291 #[.val (.int p1), .val (.int p2), .val (.int p3), .val (.int p4), .val (.int p5), .val (.int p6), .val (.int v6_1), .val (.int v7_2), .val (.int v8_3), .val (.int v9_4), .val (.int v10_5), .val (.int v11_6), .val (.int v12_7), .val (.int v13_8), .val (.int v14_9), .val (.int v15_10), .val (.int v16_11), .val (.int v17_12), .val (.int v18_13), .val (.ref b14), .val (.ref auq), .val (.ref rbq), .val (.int (1 : Int32)), .val (.int v23_22), .val (.int v24_23), .val (.int m26), .unset, .unset, .unset, .unset] [])) _
          refine XS.iconst Xt.here hx rfl (hb hby at_291) ?_
          show Steps _ _ _ (Tt.setTop (mkF m 292 #[.val (.int p1), .val (.int p2), .val (.int p3), .val (.int p4), .val (.int p5), .val (.int p6), .val (.int v6_1), .val (.int v7_2), .val (.int v8_3), .val (.int v9_4), .val (.int v10_5), .val (.int v11_6), .val (.int v12_7), .val (.int v13_8), .val (.int v14_9), .val (.int v15_10), .val (.int v16_11), .val (.int v17_12), .val (.int v18_13), .val (.ref b14), .val (.ref auq), .val (.ref rbq), .val (.int (1 : Int32)), .val (.int v23_22), .val (.int v24_23), .val (.int m26), .unset, .unset, .unset, .unset] [(.int (1 : Int32))])) _
          refine XS.goto Xt.here hx rfl (pc0 := 292) (pc' := 296) rfl (hb hby at_292) (by decide) (by decide) ?_
          show Steps _ _ _ (Tt.setTop (mkF m 296 #[.val (.int p1), .val (.int p2), .val (.int p3), .val (.int p4), .val (.int p5), .val (.int p6), .val (.int v6_1), .val (.int v7_2), .val (.int v8_3), .val (.int v9_4), .val (.int v10_5), .val (.int v11_6), .val (.int v12_7), .val (.int v13_8), .val (.int v14_9), .val (.int v15_10), .val (.int v16_11), .val (.int v17_12), .val (.int v18_13), .val (.ref b14), .val (.ref auq), .val (.ref rbq), .val (.int (1 : Int32)), .val (.int v23_22), .val (.int v24_23), .val (.int m26), .unset, .unset, .unset, .unset] [(.int (1 : Int32))])) _
          try simp only [if_pos hc27, if_pos hc28] at kk
          exact kk
        · --
          refine XS.icmpYes Xt.here hx rfl (pc0 := 288) (pc' := 295) rfl (hb hby at_288) rfl (feq hc28).2 (by decide) (by decide) ?_
          show Steps _ _ _ (Tt.setTop (mkF m 295 #[.val (.int p1), .val (.int p2), .val (.int p3), .val (.int p4), .val (.int p5), .val (.int p6), .val (.int v6_1), .val (.int v7_2), .val (.int v8_3), .val (.int v9_4), .val (.int v10_5), .val (.int v11_6), .val (.int v12_7), .val (.int v13_8), .val (.int v14_9), .val (.int v15_10), .val (.int v16_11), .val (.int v17_12), .val (.int v18_13), .val (.ref b14), .val (.ref auq), .val (.ref rbq), .val (.int (1 : Int32)), .val (.int v23_22), .val (.int v24_23), .val (.int m26), .unset, .unset, .unset, .unset] [])) _
          refine XS.iconst Xt.here hx rfl (hb hby at_295) ?_
          show Steps _ _ _ (Tt.setTop (mkF m 296 #[.val (.int p1), .val (.int p2), .val (.int p3), .val (.int p4), .val (.int p5), .val (.int p6), .val (.int v6_1), .val (.int v7_2), .val (.int v8_3), .val (.int v9_4), .val (.int v10_5), .val (.int v11_6), .val (.int v12_7), .val (.int v13_8), .val (.int v14_9), .val (.int v15_10), .val (.int v16_11), .val (.int v17_12), .val (.int v18_13), .val (.ref b14), .val (.ref auq), .val (.ref rbq), .val (.int (1 : Int32)), .val (.int v23_22), .val (.int v24_23), .val (.int m26), .unset, .unset, .unset, .unset] [(.int (0 : Int32))])) _
          try simp only [if_pos hc27, if_neg hc28] at kk
          exact kk
      · --
        refine XS.icmpYes Xt.here hx rfl (pc0 := 281) (pc' := 295) rfl (hb hby at_281) rfl (feq hc27).2 (by decide) (by decide) ?_
        show Steps _ _ _ (Tt.setTop (mkF m 295 #[.val (.int p1), .val (.int p2), .val (.int p3), .val (.int p4), .val (.int p5), .val (.int p6), .val (.int v6_1), .val (.int v7_2), .val (.int v8_3), .val (.int v9_4), .val (.int v10_5), .val (.int v11_6), .val (.int v12_7), .val (.int v13_8), .val (.int v14_9), .val (.int v15_10), .val (.int v16_11), .val (.int v17_12), .val (.int v18_13), .val (.ref b14), .val (.ref auq), .val (.ref rbq), .val (.int (1 : Int32)), .val (.int v23_22), .val (.int v24_23), .val (.int m26), .unset, .unset, .unset, .unset] [])) _
        refine XS.iconst Xt.here hx rfl (hb hby at_295) ?_
        show Steps _ _ _ (Tt.setTop (mkF m 296 #[.val (.int p1), .val (.int p2), .val (.int p3), .val (.int p4), .val (.int p5), .val (.int p6), .val (.int v6_1), .val (.int v7_2), .val (.int v8_3), .val (.int v9_4), .val (.int v10_5), .val (.int v11_6), .val (.int v12_7), .val (.int v13_8), .val (.int v14_9), .val (.int v15_10), .val (.int v16_11), .val (.int v17_12), .val (.int v18_13), .val (.ref b14), .val (.ref auq), .val (.ref rbq), .val (.int (1 : Int32)), .val (.int v23_22), .val (.int v24_23), .val (.int m26), .unset, .unset, .unset, .unset] [(.int (0 : Int32))])) _
        try simp only [if_neg hc27] at kk
        exact kk
    obtain ⟨m29, hm29⟩ : ∃ z_ : Int32, (if v23_22 = v10_5 then (if v24_23 = v11_6 then (1 : Int32) else (0 : Int32)) else (0 : Int32)) = z_ := ⟨_, rfl⟩
    refine own_gen hm29 (fun z_ => Tt.setTop (mkF m 296 #[.val (.int p1), .val (.int p2), .val (.int p3), .val (.int p4), .val (.int p5), .val (.int p6), .val (.int v6_1), .val (.int v7_2), .val (.int v8_3), .val (.int v9_4), .val (.int v10_5), .val (.int v11_6), .val (.int v12_7), .val (.int v13_8), .val (.int v14_9), .val (.int v15_10), .val (.int v16_11), .val (.int v17_12), .val (.int v18_13), .val (.ref b14), .val (.ref auq), .val (.ref rbq), .val (.int (1 : Int32)), .val (.int v23_22), .val (.int v24_23), .val (.int m26), .unset, .unset, .unset, .unset] [(.int z_)])) ?_
    have mv2 := own_mB (N := N) hm29 (hv23_22 ▸ hi3) (hv24_23 ▸ hj3) hi10 hi11 hq3 hl11
    show own_Go _ _ _ _ (Tt.setTop (mkF m 296 #[.val (.int p1), .val (.int p2), .val (.int p3), .val (.int p4), .val (.int p5), .val (.int p6), .val (.int v6_1), .val (.int v7_2), .val (.int v8_3), .val (.int v9_4), .val (.int v10_5), .val (.int v11_6), .val (.int v12_7), .val (.int v13_8), .val (.int v14_9), .val (.int v15_10), .val (.int v16_11), .val (.int v17_12), .val (.int v18_13), .val (.ref b14), .val (.ref auq), .val (.ref rbq), .val (.int (1 : Int32)), .val (.int v23_22), .val (.int v24_23), .val (.int m26), .unset, .unset, .unset, .unset] [(.int m29)]))
    refine own_by (fun _ k => XS.istore Xt.here hx rfl (hb hby at_296) rfl (l' := #[.val (.int p1), .val (.int p2), .val (.int p3), .val (.int p4), .val (.int p5), .val (.int p6), .val (.int v6_1), .val (.int v7_2), .val (.int v8_3), .val (.int v9_4), .val (.int v10_5), .val (.int v11_6), .val (.int v12_7), .val (.int v13_8), .val (.int v14_9), .val (.int v15_10), .val (.int v16_11), .val (.int v17_12), .val (.int v18_13), .val (.ref b14), .val (.ref auq), .val (.ref rbq), .val (.int (1 : Int32)), .val (.int v23_22), .val (.int v24_23), .val (.int m26), .val (.int m29), .unset, .unset, .unset]) rfl k) ?_
    refine own_by (fun _ k => XS.aload Xt.here hx rfl (hb hby at_298) rfl rfl k) ?_
    refine own_by (fun _ k => XS.iload Xt.here hx rfl (hb hby at_300) rfl k) ?_
    show own_Go _ _ _ _ (Tt.setTop (mkF m 302 #[.val (.int p1), .val (.int p2), .val (.int p3), .val (.int p4), .val (.int p5), .val (.int p6), .val (.int v6_1), .val (.int v7_2), .val (.int v8_3), .val (.int v9_4), .val (.int v10_5), .val (.int v11_6), .val (.int v12_7), .val (.int v13_8), .val (.int v14_9), .val (.int v15_10), .val (.int v16_11), .val (.int v17_12), .val (.int v18_13), .val (.ref b14), .val (.ref auq), .val (.ref rbq), .val (.int (1 : Int32)), .val (.int v23_22), .val (.int v24_23), .val (.int m26), .val (.int m29), .unset, .unset, .unset] [(.int v12_7), (.ref rbq)]))
    refine own_callV Xt hx hZ hown (hw _ (List.mem_of_getElem? (i := 128) rfl)) (hw _ (List.mem_of_getElem? (i := 129) rfl)) (notFace_of_selects (args := #[]) (mvT hZ (hw _ (List.mem_of_getElem? (i := 131) rfl)))) (hw _ (List.mem_of_getElem? (i := 131) rfl)) (hw _ (List.mem_of_getElem? (i := 130) rfl)) (hw _ (List.mem_of_getElem? (i := 38) rfl)) (hw _ (List.mem_of_getElem? (i := 132) rfl)) (by decide) (rm19 l Z a0 hw [] rbq v12_7 wq dq Sq x12 ht n0 Zt Bt hx12) et rbq Bt.exa (by rw [hml]; rfl) [(.int v12_7)] [] rfl (lenOf own_pd13 rfl) rfl 0 (Nat.le_of_eq rfl) (by decide) (by decide) (Nat.le_of_ble_eq_true rfl) (Nat.le_of_ble_eq_true rfl) (hb hby at_302) ?_
    intro T30 Lc30 v30 X30 hQ30
    obtain ⟨rfl, N30q, e30⟩ := hQ30
    have N30 := Fr.app Nt N30q
    show own_Go _ _ _ _ (T30.setTop (mkF m 305 #[.val (.int p1), .val (.int p2), .val (.int p3), .val (.int p4), .val (.int p5), .val (.int p6), .val (.int v6_1), .val (.int v7_2), .val (.int v8_3), .val (.int v9_4), .val (.int v10_5), .val (.int v11_6), .val (.int v12_7), .val (.int v13_8), .val (.int v14_9), .val (.int v15_10), .val (.int v16_11), .val (.int v17_12), .val (.int v18_13), .val (.ref b14), .val (.ref auq), .val (.ref rbq), .val (.int (1 : Int32)), .val (.int v23_22), .val (.int v24_23), .val (.int m26), .val (.int m29), .unset, .unset, .unset] [(.int (if Sq x12 then (1 : Int32) else 0))]))
    obtain ⟨v27_31, hv27_31⟩ : ∃ z_ : Int32, (if Sq x12 then (1 : Int32) else 0) = z_ := ⟨_, rfl⟩
    refine own_gen hv27_31 (fun z_ => T30.setTop (mkF m 305 #[.val (.int p1), .val (.int p2), .val (.int p3), .val (.int p4), .val (.int p5), .val (.int p6), .val (.int v6_1), .val (.int v7_2), .val (.int v8_3), .val (.int v9_4), .val (.int v10_5), .val (.int v11_6), .val (.int v12_7), .val (.int v13_8), .val (.int v14_9), .val (.int v15_10), .val (.int v16_11), .val (.int v17_12), .val (.int v18_13), .val (.ref b14), .val (.ref auq), .val (.ref rbq), .val (.int (1 : Int32)), .val (.int v23_22), .val (.int v24_23), .val (.int m26), .val (.int m29), .unset, .unset, .unset] [(.int z_)])) ?_
    refine own_by (fun _ k => XS.istore X30.here hx rfl (hb hby at_305) rfl (l' := #[.val (.int p1), .val (.int p2), .val (.int p3), .val (.int p4), .val (.int p5), .val (.int p6), .val (.int v6_1), .val (.int v7_2), .val (.int v8_3), .val (.int v9_4), .val (.int v10_5), .val (.int v11_6), .val (.int v12_7), .val (.int v13_8), .val (.int v14_9), .val (.int v15_10), .val (.int v16_11), .val (.int v17_12), .val (.int v18_13), .val (.ref b14), .val (.ref auq), .val (.ref rbq), .val (.int (1 : Int32)), .val (.int v23_22), .val (.int v24_23), .val (.int m26), .val (.int m29), .val (.int v27_31), .unset, .unset]) rfl k) ?_
    refine own_by (fun _ k => XS.aload X30.here hx rfl (hb hby at_307) rfl rfl k) ?_
    refine own_by (fun _ k => XS.iload X30.here hx rfl (hb hby at_309) rfl k) ?_
    show own_Go _ _ _ _ (T30.setTop (mkF m 311 #[.val (.int p1), .val (.int p2), .val (.int p3), .val (.int p4), .val (.int p5), .val (.int p6), .val (.int v6_1), .val (.int v7_2), .val (.int v8_3), .val (.int v9_4), .val (.int v10_5), .val (.int v11_6), .val (.int v12_7), .val (.int v13_8), .val (.int v14_9), .val (.int v15_10), .val (.int v16_11), .val (.int v17_12), .val (.int v18_13), .val (.ref b14), .val (.ref auq), .val (.ref rbq), .val (.int (1 : Int32)), .val (.int v23_22), .val (.int v24_23), .val (.int m26), .val (.int m29), .val (.int v27_31), .unset, .unset] [(.int v13_8), (.ref rbq)]))
    refine own_callV X30 hx hZ hown (hw _ (List.mem_of_getElem? (i := 128) rfl)) (hw _ (List.mem_of_getElem? (i := 129) rfl)) (notFace_of_selects (args := #[]) (mvT hZ (hw _ (List.mem_of_getElem? (i := 131) rfl)))) (hw _ (List.mem_of_getElem? (i := 131) rfl)) (hw _ (List.mem_of_getElem? (i := 130) rfl)) (hw _ (List.mem_of_getElem? (i := 38) rfl)) (hw _ (List.mem_of_getElem? (i := 132) rfl)) (by decide) (rm19 l Z a0 hw [] rbq v13_8 wq dq Sq x13 ht n0 Zt Bt hx13) e30 rbq Bt.exa (by rw [hml]; rfl) [(.int v13_8)] [] rfl (lenOf own_pd13 rfl) rfl 0 (Nat.le_of_eq rfl) (by decide) (by decide) (Nat.le_of_ble_eq_true rfl) (Nat.le_of_ble_eq_true rfl) (hb hby at_311) ?_
    intro T32 Lc32 v32 X32 hQ32
    obtain ⟨rfl, N32q, e32⟩ := hQ32
    have N32 := Fr.app N30 N32q
    show own_Go _ _ _ _ (T32.setTop (mkF m 314 #[.val (.int p1), .val (.int p2), .val (.int p3), .val (.int p4), .val (.int p5), .val (.int p6), .val (.int v6_1), .val (.int v7_2), .val (.int v8_3), .val (.int v9_4), .val (.int v10_5), .val (.int v11_6), .val (.int v12_7), .val (.int v13_8), .val (.int v14_9), .val (.int v15_10), .val (.int v16_11), .val (.int v17_12), .val (.int v18_13), .val (.ref b14), .val (.ref auq), .val (.ref rbq), .val (.int (1 : Int32)), .val (.int v23_22), .val (.int v24_23), .val (.int m26), .val (.int m29), .val (.int v27_31), .unset, .unset] [(.int (if Sq x13 then (1 : Int32) else 0))]))
    obtain ⟨v28_33, hv28_33⟩ : ∃ z_ : Int32, (if Sq x13 then (1 : Int32) else 0) = z_ := ⟨_, rfl⟩
    refine own_gen hv28_33 (fun z_ => T32.setTop (mkF m 314 #[.val (.int p1), .val (.int p2), .val (.int p3), .val (.int p4), .val (.int p5), .val (.int p6), .val (.int v6_1), .val (.int v7_2), .val (.int v8_3), .val (.int v9_4), .val (.int v10_5), .val (.int v11_6), .val (.int v12_7), .val (.int v13_8), .val (.int v14_9), .val (.int v15_10), .val (.int v16_11), .val (.int v17_12), .val (.int v18_13), .val (.ref b14), .val (.ref auq), .val (.ref rbq), .val (.int (1 : Int32)), .val (.int v23_22), .val (.int v24_23), .val (.int m26), .val (.int m29), .val (.int v27_31), .unset, .unset] [(.int z_)])) ?_
    refine own_by (fun _ k => XS.istore X32.here hx rfl (hb hby at_314) rfl (l' := #[.val (.int p1), .val (.int p2), .val (.int p3), .val (.int p4), .val (.int p5), .val (.int p6), .val (.int v6_1), .val (.int v7_2), .val (.int v8_3), .val (.int v9_4), .val (.int v10_5), .val (.int v11_6), .val (.int v12_7), .val (.int v13_8), .val (.int v14_9), .val (.int v15_10), .val (.int v16_11), .val (.int v17_12), .val (.int v18_13), .val (.ref b14), .val (.ref auq), .val (.ref rbq), .val (.int (1 : Int32)), .val (.int v23_22), .val (.int v24_23), .val (.int m26), .val (.int m29), .val (.int v27_31), .val (.int v28_33), .unset]) rfl k) ?_
    refine own_by (fun _ k => XS.aload X32.here hx rfl (hb hby at_316) rfl rfl k) ?_
    refine own_by (fun _ k => XS.iload X32.here hx rfl (hb hby at_318) rfl k) ?_
    show own_Go _ _ _ _ (T32.setTop (mkF m 320 #[.val (.int p1), .val (.int p2), .val (.int p3), .val (.int p4), .val (.int p5), .val (.int p6), .val (.int v6_1), .val (.int v7_2), .val (.int v8_3), .val (.int v9_4), .val (.int v10_5), .val (.int v11_6), .val (.int v12_7), .val (.int v13_8), .val (.int v14_9), .val (.int v15_10), .val (.int v16_11), .val (.int v17_12), .val (.int v18_13), .val (.ref b14), .val (.ref auq), .val (.ref rbq), .val (.int (1 : Int32)), .val (.int v23_22), .val (.int v24_23), .val (.int m26), .val (.int m29), .val (.int v27_31), .val (.int v28_33), .unset] [(.int v14_9), (.ref rbq)]))
    refine own_callV X32 hx hZ hown (hw _ (List.mem_of_getElem? (i := 128) rfl)) (hw _ (List.mem_of_getElem? (i := 129) rfl)) (notFace_of_selects (args := #[]) (mvT hZ (hw _ (List.mem_of_getElem? (i := 131) rfl)))) (hw _ (List.mem_of_getElem? (i := 131) rfl)) (hw _ (List.mem_of_getElem? (i := 130) rfl)) (hw _ (List.mem_of_getElem? (i := 38) rfl)) (hw _ (List.mem_of_getElem? (i := 132) rfl)) (by decide) (rm19 l Z a0 hw [] rbq v14_9 wq dq Sq x14 ht n0 Zt Bt hx14) e32 rbq Bt.exa (by rw [hml]; rfl) [(.int v14_9)] [] rfl (lenOf own_pd13 rfl) rfl 0 (Nat.le_of_eq rfl) (by decide) (by decide) (Nat.le_of_ble_eq_true rfl) (Nat.le_of_ble_eq_true rfl) (hb hby at_320) ?_
    intro T34 Lc34 v34 X34 hQ34
    obtain ⟨rfl, N34q, e34⟩ := hQ34
    have N34 := Fr.app N32 N34q
    show own_Go _ _ _ _ (T34.setTop (mkF m 323 #[.val (.int p1), .val (.int p2), .val (.int p3), .val (.int p4), .val (.int p5), .val (.int p6), .val (.int v6_1), .val (.int v7_2), .val (.int v8_3), .val (.int v9_4), .val (.int v10_5), .val (.int v11_6), .val (.int v12_7), .val (.int v13_8), .val (.int v14_9), .val (.int v15_10), .val (.int v16_11), .val (.int v17_12), .val (.int v18_13), .val (.ref b14), .val (.ref auq), .val (.ref rbq), .val (.int (1 : Int32)), .val (.int v23_22), .val (.int v24_23), .val (.int m26), .val (.int m29), .val (.int v27_31), .val (.int v28_33), .unset] [(.int (if Sq x14 then (1 : Int32) else 0))]))
    obtain ⟨v29_35, hv29_35⟩ : ∃ z_ : Int32, (if Sq x14 then (1 : Int32) else 0) = z_ := ⟨_, rfl⟩
    refine own_gen hv29_35 (fun z_ => T34.setTop (mkF m 323 #[.val (.int p1), .val (.int p2), .val (.int p3), .val (.int p4), .val (.int p5), .val (.int p6), .val (.int v6_1), .val (.int v7_2), .val (.int v8_3), .val (.int v9_4), .val (.int v10_5), .val (.int v11_6), .val (.int v12_7), .val (.int v13_8), .val (.int v14_9), .val (.int v15_10), .val (.int v16_11), .val (.int v17_12), .val (.int v18_13), .val (.ref b14), .val (.ref auq), .val (.ref rbq), .val (.int (1 : Int32)), .val (.int v23_22), .val (.int v24_23), .val (.int m26), .val (.int m29), .val (.int v27_31), .val (.int v28_33), .unset] [(.int z_)])) ?_
    refine own_by (fun _ k => XS.istore X34.here hx rfl (hb hby at_323) rfl (l' := #[.val (.int p1), .val (.int p2), .val (.int p3), .val (.int p4), .val (.int p5), .val (.int p6), .val (.int v6_1), .val (.int v7_2), .val (.int v8_3), .val (.int v9_4), .val (.int v10_5), .val (.int v11_6), .val (.int v12_7), .val (.int v13_8), .val (.int v14_9), .val (.int v15_10), .val (.int v16_11), .val (.int v17_12), .val (.int v18_13), .val (.ref b14), .val (.ref auq), .val (.ref rbq), .val (.int (1 : Int32)), .val (.int v23_22), .val (.int v24_23), .val (.int m26), .val (.int m29), .val (.int v27_31), .val (.int v28_33), .val (.int v29_35)]) rfl k) ?_
    refine own_by (fun _ k => XS.iload X34.here hx rfl (hb hby at_325) rfl k) ?_
    refine own_by (fun _ k => XS.iload X34.here hx rfl (hb hby at_327) rfl k) ?_
    show own_Go _ _ _ _ (T34.setTop (mkF m 329 #[.val (.int p1), .val (.int p2), .val (.int p3), .val (.int p4), .val (.int p5), .val (.int p6), .val (.int v6_1), .val (.int v7_2), .val (.int v8_3), .val (.int v9_4), .val (.int v10_5), .val (.int v11_6), .val (.int v12_7), .val (.int v13_8), .val (.int v14_9), .val (.int v15_10), .val (.int v16_11), .val (.int v17_12), .val (.int v18_13), .val (.ref b14), .val (.ref auq), .val (.ref rbq), .val (.int (1 : Int32)), .val (.int v23_22), .val (.int v24_23), .val (.int m26), .val (.int m29), .val (.int v27_31), .val (.int v28_33), .val (.int v29_35)] [(.int v12_7), (.int v27_31)]))
    refine own_by (fun _ k => XS.iload X34.here hx rfl (hb hby at_329) rfl k) ?_
    refine own_by (fun _ k => XS.iload X34.here hx rfl (hb hby at_331) rfl k) ?_
    refine own_by (fun _ k => XS.iload X34.here hx rfl (hb hby at_333) rfl k) ?_
    show own_Go _ _ _ _ (T34.setTop (mkF m 335 #[.val (.int p1), .val (.int p2), .val (.int p3), .val (.int p4), .val (.int p5), .val (.int p6), .val (.int v6_1), .val (.int v7_2), .val (.int v8_3), .val (.int v9_4), .val (.int v10_5), .val (.int v11_6), .val (.int v12_7), .val (.int v13_8), .val (.int v14_9), .val (.int v15_10), .val (.int v16_11), .val (.int v17_12), .val (.int v18_13), .val (.ref b14), .val (.ref auq), .val (.ref rbq), .val (.int (1 : Int32)), .val (.int v23_22), .val (.int v24_23), .val (.int m26), .val (.int m29), .val (.int v27_31), .val (.int v28_33), .val (.int v29_35)] [(.int v13_8), (.int m26), (.int v12_7), (.int v12_7), (.int v27_31)]))
    refine own_by (fun _ k => XS.iload X34.here hx rfl (hb hby at_335) rfl k) ?_
    show own_Go _ _ _ _ (T34.setTop (mkF m 337 #[.val (.int p1), .val (.int p2), .val (.int p3), .val (.int p4), .val (.int p5), .val (.int p6), .val (.int v6_1), .val (.int v7_2), .val (.int v8_3), .val (.int v9_4), .val (.int v10_5), .val (.int v11_6), .val (.int v12_7), .val (.int v13_8), .val (.int v14_9), .val (.int v15_10), .val (.int v16_11), .val (.int v17_12), .val (.int v18_13), .val (.ref b14), .val (.ref auq), .val (.ref rbq), .val (.int (1 : Int32)), .val (.int v23_22), .val (.int v24_23), .val (.int m26), .val (.int m29), .val (.int v27_31), .val (.int v28_33), .val (.int v29_35)] [(.int m29), (.int v13_8), (.int m26), (.int v12_7), (.int v12_7), (.int v27_31)]))
    refine own_callS X34 hx hZ hown (hw _ (List.mem_of_getElem? (i := 133) rfl)) (hw _ (List.mem_of_getElem? (i := 134) rfl)) (hw _ (List.mem_of_getElem? (i := 135) rfl)) (hw _ (List.mem_of_getElem? (i := 136) rfl)) (by decide) (rm20 l Z a0 hw [] v12_7 v12_7 m26 v13_8 m29 ht n0 Zt) e34 (by rw [hml]; rfl) [(.int v12_7), (.int v12_7), (.int m26), (.int v13_8), (.int m29)] [(.int v27_31)] rfl (lenOf own_pd14 rfl) rfl 1 (Nat.le_of_eq rfl) (by decide) (by decide) (Nat.le_of_ble_eq_true rfl) (Nat.le_of_ble_eq_true rfl) (hb hby at_337) ?_
    intro T36 Lc36 v36 X36 hQ36
    obtain ⟨rfl, N36q, e36⟩ := hQ36
    have N36 := Fr.app N34 N36q
    show own_Go _ _ _ _ (T36.setTop (mkF m 340 #[.val (.int p1), .val (.int p2), .val (.int p3), .val (.int p4), .val (.int p5), .val (.int p6), .val (.int v6_1), .val (.int v7_2), .val (.int v8_3), .val (.int v9_4), .val (.int v10_5), .val (.int v11_6), .val (.int v12_7), .val (.int v13_8), .val (.int v14_9), .val (.int v15_10), .val (.int v16_11), .val (.int v17_12), .val (.int v18_13), .val (.ref b14), .val (.ref auq), .val (.ref rbq), .val (.int (1 : Int32)), .val (.int v23_22), .val (.int v24_23), .val (.int m26), .val (.int m29), .val (.int v27_31), .val (.int v28_33), .val (.int v29_35)] [(.int (own_xp v12_7 v12_7 m26 v13_8 m29)), (.int v27_31)]))
    refine own_by (fun _ k => XS.icmpNo X36.here hx rfl (hb hby at_340) rfl (teq (hv27_31.symm.trans (own_fin hx12 hx12 hx13 (by rw [HS x12, mv1, mv2])))).2 k) ?_
    refine own_by (fun _ k => XS.iload X36.here hx rfl (hb hby at_343) rfl k) ?_
    refine own_by (fun _ k => XS.iload X36.here hx rfl (hb hby at_345) rfl k) ?_
    show own_Go _ _ _ _ (T36.setTop (mkF m 347 #[.val (.int p1), .val (.int p2), .val (.int p3), .val (.int p4), .val (.int p5), .val (.int p6), .val (.int v6_1), .val (.int v7_2), .val (.int v8_3), .val (.int v9_4), .val (.int v10_5), .val (.int v11_6), .val (.int v12_7), .val (.int v13_8), .val (.int v14_9), .val (.int v15_10), .val (.int v16_11), .val (.int v17_12), .val (.int v18_13), .val (.ref b14), .val (.ref auq), .val (.ref rbq), .val (.int (1 : Int32)), .val (.int v23_22), .val (.int v24_23), .val (.int m26), .val (.int m29), .val (.int v27_31), .val (.int v28_33), .val (.int v29_35)] [(.int v13_8), (.int v28_33)]))
    refine own_by (fun _ k => XS.iload X36.here hx rfl (hb hby at_347) rfl k) ?_
    refine own_by (fun _ k => XS.iload X36.here hx rfl (hb hby at_349) rfl k) ?_
    refine own_by (fun _ k => XS.iload X36.here hx rfl (hb hby at_351) rfl k) ?_
    show own_Go _ _ _ _ (T36.setTop (mkF m 353 #[.val (.int p1), .val (.int p2), .val (.int p3), .val (.int p4), .val (.int p5), .val (.int p6), .val (.int v6_1), .val (.int v7_2), .val (.int v8_3), .val (.int v9_4), .val (.int v10_5), .val (.int v11_6), .val (.int v12_7), .val (.int v13_8), .val (.int v14_9), .val (.int v15_10), .val (.int v16_11), .val (.int v17_12), .val (.int v18_13), .val (.ref b14), .val (.ref auq), .val (.ref rbq), .val (.int (1 : Int32)), .val (.int v23_22), .val (.int v24_23), .val (.int m26), .val (.int m29), .val (.int v27_31), .val (.int v28_33), .val (.int v29_35)] [(.int v13_8), (.int m26), (.int v12_7), (.int v13_8), (.int v28_33)]))
    refine own_by (fun _ k => XS.iload X36.here hx rfl (hb hby at_353) rfl k) ?_
    show own_Go _ _ _ _ (T36.setTop (mkF m 355 #[.val (.int p1), .val (.int p2), .val (.int p3), .val (.int p4), .val (.int p5), .val (.int p6), .val (.int v6_1), .val (.int v7_2), .val (.int v8_3), .val (.int v9_4), .val (.int v10_5), .val (.int v11_6), .val (.int v12_7), .val (.int v13_8), .val (.int v14_9), .val (.int v15_10), .val (.int v16_11), .val (.int v17_12), .val (.int v18_13), .val (.ref b14), .val (.ref auq), .val (.ref rbq), .val (.int (1 : Int32)), .val (.int v23_22), .val (.int v24_23), .val (.int m26), .val (.int m29), .val (.int v27_31), .val (.int v28_33), .val (.int v29_35)] [(.int m29), (.int v13_8), (.int m26), (.int v12_7), (.int v13_8), (.int v28_33)]))
    refine own_callS X36 hx hZ hown (hw _ (List.mem_of_getElem? (i := 133) rfl)) (hw _ (List.mem_of_getElem? (i := 134) rfl)) (hw _ (List.mem_of_getElem? (i := 135) rfl)) (hw _ (List.mem_of_getElem? (i := 136) rfl)) (by decide) (rm20 l Z a0 hw [] v13_8 v12_7 m26 v13_8 m29 ht n0 Zt) e36 (by rw [hml]; rfl) [(.int v13_8), (.int v12_7), (.int m26), (.int v13_8), (.int m29)] [(.int v28_33)] rfl (lenOf own_pd14 rfl) rfl 1 (Nat.le_of_eq rfl) (by decide) (by decide) (Nat.le_of_ble_eq_true rfl) (Nat.le_of_ble_eq_true rfl) (hb hby at_355) ?_
    intro T37 Lc37 v37 X37 hQ37
    obtain ⟨rfl, N37q, e37⟩ := hQ37
    have N37 := Fr.app N36 N37q
    show own_Go _ _ _ _ (T37.setTop (mkF m 358 #[.val (.int p1), .val (.int p2), .val (.int p3), .val (.int p4), .val (.int p5), .val (.int p6), .val (.int v6_1), .val (.int v7_2), .val (.int v8_3), .val (.int v9_4), .val (.int v10_5), .val (.int v11_6), .val (.int v12_7), .val (.int v13_8), .val (.int v14_9), .val (.int v15_10), .val (.int v16_11), .val (.int v17_12), .val (.int v18_13), .val (.ref b14), .val (.ref auq), .val (.ref rbq), .val (.int (1 : Int32)), .val (.int v23_22), .val (.int v24_23), .val (.int m26), .val (.int m29), .val (.int v27_31), .val (.int v28_33), .val (.int v29_35)] [(.int (own_xp v13_8 v12_7 m26 v13_8 m29)), (.int v28_33)]))
    refine own_by (fun _ k => XS.icmpNo X37.here hx rfl (hb hby at_358) rfl (teq (hv28_33.symm.trans (own_fin hx13 hx12 hx13 (by rw [HS x13, mv1, mv2])))).2 k) ?_
    refine own_by (fun _ k => XS.iload X37.here hx rfl (hb hby at_361) rfl k) ?_
    refine own_by (fun _ k => XS.iload X37.here hx rfl (hb hby at_363) rfl k) ?_
    show own_Go _ _ _ _ (T37.setTop (mkF m 365 #[.val (.int p1), .val (.int p2), .val (.int p3), .val (.int p4), .val (.int p5), .val (.int p6), .val (.int v6_1), .val (.int v7_2), .val (.int v8_3), .val (.int v9_4), .val (.int v10_5), .val (.int v11_6), .val (.int v12_7), .val (.int v13_8), .val (.int v14_9), .val (.int v15_10), .val (.int v16_11), .val (.int v17_12), .val (.int v18_13), .val (.ref b14), .val (.ref auq), .val (.ref rbq), .val (.int (1 : Int32)), .val (.int v23_22), .val (.int v24_23), .val (.int m26), .val (.int m29), .val (.int v27_31), .val (.int v28_33), .val (.int v29_35)] [(.int v14_9), (.int v29_35)]))
    refine own_by (fun _ k => XS.iload X37.here hx rfl (hb hby at_365) rfl k) ?_
    refine own_by (fun _ k => XS.iload X37.here hx rfl (hb hby at_367) rfl k) ?_
    refine own_by (fun _ k => XS.iload X37.here hx rfl (hb hby at_369) rfl k) ?_
    show own_Go _ _ _ _ (T37.setTop (mkF m 371 #[.val (.int p1), .val (.int p2), .val (.int p3), .val (.int p4), .val (.int p5), .val (.int p6), .val (.int v6_1), .val (.int v7_2), .val (.int v8_3), .val (.int v9_4), .val (.int v10_5), .val (.int v11_6), .val (.int v12_7), .val (.int v13_8), .val (.int v14_9), .val (.int v15_10), .val (.int v16_11), .val (.int v17_12), .val (.int v18_13), .val (.ref b14), .val (.ref auq), .val (.ref rbq), .val (.int (1 : Int32)), .val (.int v23_22), .val (.int v24_23), .val (.int m26), .val (.int m29), .val (.int v27_31), .val (.int v28_33), .val (.int v29_35)] [(.int v13_8), (.int m26), (.int v12_7), (.int v14_9), (.int v29_35)]))
    refine own_by (fun _ k => XS.iload X37.here hx rfl (hb hby at_371) rfl k) ?_
    show own_Go _ _ _ _ (T37.setTop (mkF m 373 #[.val (.int p1), .val (.int p2), .val (.int p3), .val (.int p4), .val (.int p5), .val (.int p6), .val (.int v6_1), .val (.int v7_2), .val (.int v8_3), .val (.int v9_4), .val (.int v10_5), .val (.int v11_6), .val (.int v12_7), .val (.int v13_8), .val (.int v14_9), .val (.int v15_10), .val (.int v16_11), .val (.int v17_12), .val (.int v18_13), .val (.ref b14), .val (.ref auq), .val (.ref rbq), .val (.int (1 : Int32)), .val (.int v23_22), .val (.int v24_23), .val (.int m26), .val (.int m29), .val (.int v27_31), .val (.int v28_33), .val (.int v29_35)] [(.int m29), (.int v13_8), (.int m26), (.int v12_7), (.int v14_9), (.int v29_35)]))
    refine own_callS X37 hx hZ hown (hw _ (List.mem_of_getElem? (i := 133) rfl)) (hw _ (List.mem_of_getElem? (i := 134) rfl)) (hw _ (List.mem_of_getElem? (i := 135) rfl)) (hw _ (List.mem_of_getElem? (i := 136) rfl)) (by decide) (rm20 l Z a0 hw [] v14_9 v12_7 m26 v13_8 m29 ht n0 Zt) e37 (by rw [hml]; rfl) [(.int v14_9), (.int v12_7), (.int m26), (.int v13_8), (.int m29)] [(.int v29_35)] rfl (lenOf own_pd14 rfl) rfl 1 (Nat.le_of_eq rfl) (by decide) (by decide) (Nat.le_of_ble_eq_true rfl) (Nat.le_of_ble_eq_true rfl) (hb hby at_373) ?_
    intro T38 Lc38 v38 X38 hQ38
    obtain ⟨rfl, N38q, e38⟩ := hQ38
    have N38 := Fr.app N37 N38q
    show own_Go _ _ _ _ (T38.setTop (mkF m 376 #[.val (.int p1), .val (.int p2), .val (.int p3), .val (.int p4), .val (.int p5), .val (.int p6), .val (.int v6_1), .val (.int v7_2), .val (.int v8_3), .val (.int v9_4), .val (.int v10_5), .val (.int v11_6), .val (.int v12_7), .val (.int v13_8), .val (.int v14_9), .val (.int v15_10), .val (.int v16_11), .val (.int v17_12), .val (.int v18_13), .val (.ref b14), .val (.ref auq), .val (.ref rbq), .val (.int (1 : Int32)), .val (.int v23_22), .val (.int v24_23), .val (.int m26), .val (.int m29), .val (.int v27_31), .val (.int v28_33), .val (.int v29_35)] [(.int (own_xp v14_9 v12_7 m26 v13_8 m29)), (.int v29_35)]))
    refine own_by (fun _ k => XS.icmpNo X38.here hx rfl (hb hby at_376) rfl (teq (hv29_35.symm.trans (own_fin hx14 hx12 hx13 (by rw [HS x14, mv1, mv2])))).2 k) ?_
    refine own_by (fun _ k => XS.iconst X38.here hx rfl (hb hby at_379) k) ?_
    show own_Go _ _ _ _ (T38.setTop (mkF m 380 #[.val (.int p1), .val (.int p2), .val (.int p3), .val (.int p4), .val (.int p5), .val (.int p6), .val (.int v6_1), .val (.int v7_2), .val (.int v8_3), .val (.int v9_4), .val (.int v10_5), .val (.int v11_6), .val (.int v12_7), .val (.int v13_8), .val (.int v14_9), .val (.int v15_10), .val (.int v16_11), .val (.int v17_12), .val (.int v18_13), .val (.ref b14), .val (.ref auq), .val (.ref rbq), .val (.int (1 : Int32)), .val (.int v23_22), .val (.int v24_23), .val (.int m26), .val (.int m29), .val (.int v27_31), .val (.int v28_33), .val (.int v29_35)] [(.int (1 : Int32))]))
    refine own_by (fun _ k => XS.goto X38.here hx rfl (pc0 := 380) (pc' := 384) rfl (hb hby at_380) (by decide) (by decide) k) ?_
    show own_Go _ _ _ _ (T38.setTop (mkF m 384 #[.val (.int p1), .val (.int p2), .val (.int p3), .val (.int p4), .val (.int p5), .val (.int p6), .val (.int v6_1), .val (.int v7_2), .val (.int v8_3), .val (.int v9_4), .val (.int v10_5), .val (.int v11_6), .val (.int v12_7), .val (.int v13_8), .val (.int v14_9), .val (.int v15_10), .val (.int v16_11), .val (.int v17_12), .val (.int v18_13), .val (.ref b14), .val (.ref auq), .val (.ref rbq), .val (.int (1 : Int32)), .val (.int v23_22), .val (.int v24_23), .val (.int m26), .val (.int m29), .val (.int v27_31), .val (.int v28_33), .val (.int v29_35)] [(.int (1 : Int32))]))
    exact own_retN X38 hx Bd.notSynchronized e38 Bd.returns (by simp) (hb hby at_384) (⟨rfl, N38⟩) (by decide) (by decide)
  have tailO : ∀ (Tt : State) (ht : Heap) (Lt : List Loc) (auq rbq wq dq : Addr) (Sq : Nat → Bool) , Stand p l e room_1 s m #[(.int p1), (.int p2), (.int p3), (.int p4), (.int p5), (.int p6)] below meth c Tt Lt 42 108 → Tt.heap = ht → Fr n0 Lt → n0 ≤ ht.size → own_B Z ht n0 rbq wq dq Sq → ¬ (v15_10 + (1 : Int32)) < v7_2 → (∀ x, Sq x = false) → own_Go p.tables e below (own_Q s (fun v h L => v = some (.int 1) ∧ Fr n0 L) 88 256) (Tt.setTop (mkF m 194 #[.val (.int p1), .val (.int p2), .val (.int p3), .val (.int p4), .val (.int p5), .val (.int p6), .val (.int v6_1), .val (.int v7_2), .val (.int v8_3), .val (.int v9_4), .val (.int v10_5), .val (.int v11_6), .val (.int v12_7), .val (.int v13_8), .val (.int v14_9), .val (.int v15_10), .val (.int v16_11), .val (.int v17_12), .val (.int v18_13), .val (.ref b14), .val (.ref auq), .unset, .unset, .unset, .unset, .unset, .unset, .unset, .unset, .unset] [.ref rbq])) := by
    intro Tt ht Lt auq rbq wq dq Sq Xt et Nt Zt Bt hin HS
    show own_Go _ _ _ _ (Tt.setTop (mkF m 194 #[.val (.int p1), .val (.int p2), .val (.int p3), .val (.int p4), .val (.int p5), .val (.int p6), .val (.int v6_1), .val (.int v7_2), .val (.int v8_3), .val (.int v9_4), .val (.int v10_5), .val (.int v11_6), .val (.int v12_7), .val (.int v13_8), .val (.int v14_9), .val (.int v15_10), .val (.int v16_11), .val (.int v17_12), .val (.int v18_13), .val (.ref b14), .val (.ref auq), .unset, .unset, .unset, .unset, .unset, .unset, .unset, .unset, .unset] [(.ref rbq)]))
    refine own_by (fun _ k => XS.astore Xt.here hx rfl (hb hby at_194) rfl rfl (l' := #[.val (.int p1), .val (.int p2), .val (.int p3), .val (.int p4), .val (.int p5), .val (.int p6), .val (.int v6_1), .val (.int v7_2), .val (.int v8_3), .val (.int v9_4), .val (.int v10_5), .val (.int v11_6), .val (.int v12_7), .val (.int v13_8), .val (.int v14_9), .val (.int v15_10), .val (.int v16_11), .val (.int v17_12), .val (.int v18_13), .val (.ref b14), .val (.ref auq), .val (.ref rbq), .unset, .unset, .unset, .unset, .unset, .unset, .unset, .unset]) rfl k) ?_
    refine own_by (fun _ k => XS.iload Xt.here hx rfl (hb hby at_196) rfl k) ?_
    refine own_by (fun _ k => XS.iconst Xt.here hx rfl (hb hby at_198) k) ?_
    show own_Go _ _ _ _ (Tt.setTop (mkF m 199 #[.val (.int p1), .val (.int p2), .val (.int p3), .val (.int p4), .val (.int p5), .val (.int p6), .val (.int v6_1), .val (.int v7_2), .val (.int v8_3), .val (.int v9_4), .val (.int v10_5), .val (.int v11_6), .val (.int v12_7), .val (.int v13_8), .val (.int v14_9), .val (.int v15_10), .val (.int v16_11), .val (.int v17_12), .val (.int v18_13), .val (.ref b14), .val (.ref auq), .val (.ref rbq), .unset, .unset, .unset, .unset, .unset, .unset, .unset, .unset] [(.int (1 : Int32)), (.int v15_10)]))
    refine own_by (fun _ k => XS.iadd Xt.here hx rfl (hb hby at_199) rfl k) ?_
    refine own_by (fun _ k => XS.iload Xt.here hx rfl (hb hby at_200) rfl k) ?_
    show own_Go _ _ _ _ (Tt.setTop (mkF m 202 #[.val (.int p1), .val (.int p2), .val (.int p3), .val (.int p4), .val (.int p5), .val (.int p6), .val (.int v6_1), .val (.int v7_2), .val (.int v8_3), .val (.int v9_4), .val (.int v10_5), .val (.int v11_6), .val (.int v12_7), .val (.int v13_8), .val (.int v14_9), .val (.int v15_10), .val (.int v16_11), .val (.int v17_12), .val (.int v18_13), .val (.ref b14), .val (.ref auq), .val (.ref rbq), .unset, .unset, .unset, .unset, .unset, .unset, .unset, .unset] [(.int v7_2), (.int (v15_10 + (1 : Int32)))]))
    refine own_by (fun _ k => XS.icmpYes Xt.here hx rfl (pc0 := 202) (pc' := 209) rfl (hb hby at_202) rfl (flt hin).2.1 (by decide) (by decide) k) ?_
    refine own_by (fun _ k => XS.iconst Xt.here hx rfl (hb hby at_209) k) ?_
    show own_Go _ _ _ _ (Tt.setTop (mkF m 210 #[.val (.int p1), .val (.int p2), .val (.int p3), .val (.int p4), .val (.int p5), .val (.int p6), .val (.int v6_1), .val (.int v7_2), .val (.int v8_3), .val (.int v9_4), .val (.int v10_5), .val (.int v11_6), .val (.int v12_7), .val (.int v13_8), .val (.int v14_9), .val (.int v15_10), .val (.int v16_11), .val (.int v17_12), .val (.int v18_13), .val (.ref b14), .val (.ref auq), .val (.ref rbq), .unset, .unset, .unset, .unset, .unset, .unset, .unset, .unset] [(.int (0 : Int32))]))
    refine own_by (fun _ k => XS.istore Xt.here hx rfl (hb hby at_210) rfl (l' := #[.val (.int p1), .val (.int p2), .val (.int p3), .val (.int p4), .val (.int p5), .val (.int p6), .val (.int v6_1), .val (.int v7_2), .val (.int v8_3), .val (.int v9_4), .val (.int v10_5), .val (.int v11_6), .val (.int v12_7), .val (.int v13_8), .val (.int v14_9), .val (.int v15_10), .val (.int v16_11), .val (.int v17_12), .val (.int v18_13), .val (.ref b14), .val (.ref auq), .val (.ref rbq), .val (.int (0 : Int32)), .unset, .unset, .unset, .unset, .unset, .unset, .unset]) rfl k) ?_
    refine own_by (fun _ k => XS.iload Xt.here hx rfl (hb hby at_212) rfl k) ?_
    show own_Go _ _ _ _ (Tt.setTop (mkF m 214 #[.val (.int p1), .val (.int p2), .val (.int p3), .val (.int p4), .val (.int p5), .val (.int p6), .val (.int v6_1), .val (.int v7_2), .val (.int v8_3), .val (.int v9_4), .val (.int v10_5), .val (.int v11_6), .val (.int v12_7), .val (.int v13_8), .val (.int v14_9), .val (.int v15_10), .val (.int v16_11), .val (.int v17_12), .val (.int v18_13), .val (.ref b14), .val (.ref auq), .val (.ref rbq), .val (.int (0 : Int32)), .unset, .unset, .unset, .unset, .unset, .unset, .unset] [(.int (0 : Int32))]))
    refine own_by (fun _ k => XS.ifYes Xt.here hx rfl (pc0 := 214) (pc' := 225) rfl (hb hby at_214) rfl ((if0 _ _).trans (teq (by decide)).1) (by decide) (by decide) k) ?_
    refine own_by (fun _ k => XS.iconst Xt.here hx rfl (hb hby at_225) k) ?_
    show own_Go _ _ _ _ (Tt.setTop (mkF m 226 #[.val (.int p1), .val (.int p2), .val (.int p3), .val (.int p4), .val (.int p5), .val (.int p6), .val (.int v6_1), .val (.int v7_2), .val (.int v8_3), .val (.int v9_4), .val (.int v10_5), .val (.int v11_6), .val (.int v12_7), .val (.int v13_8), .val (.int v14_9), .val (.int v15_10), .val (.int v16_11), .val (.int v17_12), .val (.int v18_13), .val (.ref b14), .val (.ref auq), .val (.ref rbq), .val (.int (0 : Int32)), .unset, .unset, .unset, .unset, .unset, .unset, .unset] [(.int (0 : Int32))]))
    refine own_by (fun _ k => XS.istore Xt.here hx rfl (hb hby at_226) rfl (l' := #[.val (.int p1), .val (.int p2), .val (.int p3), .val (.int p4), .val (.int p5), .val (.int p6), .val (.int v6_1), .val (.int v7_2), .val (.int v8_3), .val (.int v9_4), .val (.int v10_5), .val (.int v11_6), .val (.int v12_7), .val (.int v13_8), .val (.int v14_9), .val (.int v15_10), .val (.int v16_11), .val (.int v17_12), .val (.int v18_13), .val (.ref b14), .val (.ref auq), .val (.ref rbq), .val (.int (0 : Int32)), .val (.int (0 : Int32)), .unset, .unset, .unset, .unset, .unset, .unset]) rfl k) ?_
    refine own_by (fun _ k => XS.iload Xt.here hx rfl (hb hby at_228) rfl k) ?_
    show own_Go _ _ _ _ (Tt.setTop (mkF m 230 #[.val (.int p1), .val (.int p2), .val (.int p3), .val (.int p4), .val (.int p5), .val (.int p6), .val (.int v6_1), .val (.int v7_2), .val (.int v8_3), .val (.int v9_4), .val (.int v10_5), .val (.int v11_6), .val (.int v12_7), .val (.int v13_8), .val (.int v14_9), .val (.int v15_10), .val (.int v16_11), .val (.int v17_12), .val (.int v18_13), .val (.ref b14), .val (.ref auq), .val (.ref rbq), .val (.int (0 : Int32)), .val (.int (0 : Int32)), .unset, .unset, .unset, .unset, .unset, .unset] [(.int (0 : Int32))]))
    refine own_by (fun _ k => XS.ifYes Xt.here hx rfl (pc0 := 230) (pc' := 243) rfl (hb hby at_230) rfl ((if0 _ _).trans (teq (by decide)).1) (by decide) (by decide) k) ?_
    refine own_by (fun _ k => XS.iconst Xt.here hx rfl (hb hby at_243) k) ?_
    show own_Go _ _ _ _ (Tt.setTop (mkF m 244 #[.val (.int p1), .val (.int p2), .val (.int p3), .val (.int p4), .val (.int p5), .val (.int p6), .val (.int v6_1), .val (.int v7_2), .val (.int v8_3), .val (.int v9_4), .val (.int v10_5), .val (.int v11_6), .val (.int v12_7), .val (.int v13_8), .val (.int v14_9), .val (.int v15_10), .val (.int v16_11), .val (.int v17_12), .val (.int v18_13), .val (.ref b14), .val (.ref auq), .val (.ref rbq), .val (.int (0 : Int32)), .val (.int (0 : Int32)), .unset, .unset, .unset, .unset, .unset, .unset] [(.int (0 : Int32))]))
    refine own_by (fun _ k => XS.istore Xt.here hx rfl (hb hby at_244) rfl (l' := #[.val (.int p1), .val (.int p2), .val (.int p3), .val (.int p4), .val (.int p5), .val (.int p6), .val (.int v6_1), .val (.int v7_2), .val (.int v8_3), .val (.int v9_4), .val (.int v10_5), .val (.int v11_6), .val (.int v12_7), .val (.int v13_8), .val (.int v14_9), .val (.int v15_10), .val (.int v16_11), .val (.int v17_12), .val (.int v18_13), .val (.ref b14), .val (.ref auq), .val (.ref rbq), .val (.int (0 : Int32)), .val (.int (0 : Int32)), .val (.int (0 : Int32)), .unset, .unset, .unset, .unset, .unset]) rfl k) ?_
    refine own_by (V := Tt.setTop (mkF m 270 #[.val (.int p1), .val (.int p2), .val (.int p3), .val (.int p4), .val (.int p5), .val (.int p6), .val (.int v6_1), .val (.int v7_2), .val (.int v8_3), .val (.int v9_4), .val (.int v10_5), .val (.int v11_6), .val (.int v12_7), .val (.int v13_8), .val (.int v14_9), .val (.int v15_10), .val (.int v16_11), .val (.int v17_12), .val (.int v18_13), .val (.ref b14), .val (.ref auq), .val (.ref rbq), .val (.int (0 : Int32)), .val (.int (0 : Int32)), .val (.int (0 : Int32)), .unset, .unset, .unset, .unset, .unset] [(.int (0 : Int32))])) (fun _ kk => ?_) ?_
    · --
      show Steps _ _ _ (Tt.setTop (mkF m 246 #[.val (.int p1), .val (.int p2), .val (.int p3), .val (.int p4), .val (.int p5), .val (.int p6), .val (.int v6_1), .val (.int v7_2), .val (.int v8_3), .val (.int v9_4), .val (.int v10_5), .val (.int v11_6), .val (.int v12_7), .val (.int v13_8), .val (.int v14_9), .val (.int v15_10), .val (.int v16_11), .val (.int v17_12), .val (.int v18_13), .val (.ref b14), .val (.ref auq), .val (.ref rbq), .val (.int (0 : Int32)), .val (.int (0 : Int32)), .val (.int (0 : Int32)), .unset, .unset, .unset, .unset, .unset] [])) _
      refine XS.iload Xt.here hx rfl (hb hby at_246) rfl ?_
      show Steps _ _ _ (Tt.setTop (mkF m 248 #[.val (.int p1), .val (.int p2), .val (.int p3), .val (.int p4), .val (.int p5), .val (.int p6), .val (.int v6_1), .val (.int v7_2), .val (.int v8_3), .val (.int v9_4), .val (.int v10_5), .val (.int v11_6), .val (.int v12_7), .val (.int v13_8), .val (.int v14_9), .val (.int v15_10), .val (.int v16_11), .val (.int v17_12), .val (.int v18_13), .val (.ref b14), .val (.ref auq), .val (.ref rbq), .val (.int (0 : Int32)), .val (.int (0 : Int32)), .val (.int (0 : Int32)), .unset, .unset, .unset, .unset, .unset] [(.int (0 : Int32))])) _
      refine XS.ifYes Xt.here hx rfl (pc0 := 248) (pc' := 269) rfl (hb hby at_248) rfl ((if0 _ _).trans (teq (by decide)).1) (by decide) (by decide) ?_
      show Steps _ _ _ (Tt.setTop (mkF m 269 #[.val (.int p1), .val (.int p2), .val (.int p3), .val (.int p4), .val (.int p5), .val (.int p6), .val (.int v6_1), .val (.int v7_2), .val (.int v8_3), .val (.int v9_4), .val (.int v10_5), .val (.int v11_6), .val (.int v12_7), .val (.int v13_8), .val (.int v14_9), .val (.int v15_10), .val (.int v16_11), .val (.int v17_12), .val (.int v18_13), .val (.ref b14), .val (.ref auq), .val (.ref rbq), .val (.int (0 : Int32)), .val (.int (0 : Int32)), .val (.int (0 : Int32)), .unset, .unset, .unset, .unset, .unset] [])) _
      refine XS.iconst Xt.here hx rfl (hb hby at_269) ?_
      show Steps _ _ _ (Tt.setTop (mkF m 270 #[.val (.int p1), .val (.int p2), .val (.int p3), .val (.int p4), .val (.int p5), .val (.int p6), .val (.int v6_1), .val (.int v7_2), .val (.int v8_3), .val (.int v9_4), .val (.int v10_5), .val (.int v11_6), .val (.int v12_7), .val (.int v13_8), .val (.int v14_9), .val (.int v15_10), .val (.int v16_11), .val (.int v17_12), .val (.int v18_13), .val (.ref b14), .val (.ref auq), .val (.ref rbq), .val (.int (0 : Int32)), .val (.int (0 : Int32)), .val (.int (0 : Int32)), .unset, .unset, .unset, .unset, .unset] [(.int (0 : Int32))])) _
      exact kk
    show own_Go _ _ _ _ (Tt.setTop (mkF m 270 #[.val (.int p1), .val (.int p2), .val (.int p3), .val (.int p4), .val (.int p5), .val (.int p6), .val (.int v6_1), .val (.int v7_2), .val (.int v8_3), .val (.int v9_4), .val (.int v10_5), .val (.int v11_6), .val (.int v12_7), .val (.int v13_8), .val (.int v14_9), .val (.int v15_10), .val (.int v16_11), .val (.int v17_12), .val (.int v18_13), .val (.ref b14), .val (.ref auq), .val (.ref rbq), .val (.int (0 : Int32)), .val (.int (0 : Int32)), .val (.int (0 : Int32)), .unset, .unset, .unset, .unset, .unset] [(.int (0 : Int32))]))
    refine own_by (fun _ k => XS.istore Xt.here hx rfl (hb hby at_270) rfl (l' := #[.val (.int p1), .val (.int p2), .val (.int p3), .val (.int p4), .val (.int p5), .val (.int p6), .val (.int v6_1), .val (.int v7_2), .val (.int v8_3), .val (.int v9_4), .val (.int v10_5), .val (.int v11_6), .val (.int v12_7), .val (.int v13_8), .val (.int v14_9), .val (.int v15_10), .val (.int v16_11), .val (.int v17_12), .val (.int v18_13), .val (.ref b14), .val (.ref auq), .val (.ref rbq), .val (.int (0 : Int32)), .val (.int (0 : Int32)), .val (.int (0 : Int32)), .val (.int (0 : Int32)), .unset, .unset, .unset, .unset]) rfl k) ?_
    refine own_by (V := Tt.setTop (mkF m 296 #[.val (.int p1), .val (.int p2), .val (.int p3), .val (.int p4), .val (.int p5), .val (.int p6), .val (.int v6_1), .val (.int v7_2), .val (.int v8_3), .val (.int v9_4), .val (.int v10_5), .val (.int v11_6), .val (.int v12_7), .val (.int v13_8), .val (.int v14_9), .val (.int v15_10), .val (.int v16_11), .val (.int v17_12), .val (.int v18_13), .val (.ref b14), .val (.ref auq), .val (.ref rbq), .val (.int (0 : Int32)), .val (.int (0 : Int32)), .val (.int (0 : Int32)), .val (.int (0 : Int32)), .unset, .unset, .unset, .unset] [(.int (0 : Int32))])) (fun _ kk => ?_) ?_
    · --
      show Steps _ _ _ (Tt.setTop (mkF m 272 #[.val (.int p1), .val (.int p2), .val (.int p3), .val (.int p4), .val (.int p5), .val (.int p6), .val (.int v6_1), .val (.int v7_2), .val (.int v8_3), .val (.int v9_4), .val (.int v10_5), .val (.int v11_6), .val (.int v12_7), .val (.int v13_8), .val (.int v14_9), .val (.int v15_10), .val (.int v16_11), .val (.int v17_12), .val (.int v18_13), .val (.ref b14), .val (.ref auq), .val (.ref rbq), .val (.int (0 : Int32)), .val (.int (0 : Int32)), .val (.int (0 : Int32)), .val (.int (0 : Int32)), .unset, .unset, .unset, .unset] [])) _
      refine XS.iload Xt.here hx rfl (hb hby at_272) rfl ?_
      show Steps _ _ _ (Tt.setTop (mkF m 274 #[.val (.int p1), .val (.int p2), .val (.int p3), .val (.int p4), .val (.int p5), .val (.int p6), .val (.int v6_1), .val (.int v7_2), .val (.int v8_3), .val (.int v9_4), .val (.int v10_5), .val (.int v11_6), .val (.int v12_7), .val (.int v13_8), .val (.int v14_9), .val (.int v15_10), .val (.int v16_11), .val (.int v17_12), .val (.int v18_13), .val (.ref b14), .val (.ref auq), .val (.ref rbq), .val (.int (0 : Int32)), .val (.int (0 : Int32)), .val (.int (0 : Int32)), .val (.int (0 : Int32)), .unset, .unset, .unset, .unset] [(.int (0 : Int32))])) _
      refine XS.ifYes Xt.here hx rfl (pc0 := 274) (pc' := 295) rfl (hb hby at_274) rfl ((if0 _ _).trans (teq (by decide)).1) (by decide) (by decide) ?_
      show Steps _ _ _ (Tt.setTop (mkF m 295 #[.val (.int p1), .val (.int p2), .val (.int p3), .val (.int p4), .val (.int p5), .val (.int p6), .val (.int v6_1), .val (.int v7_2), .val (.int v8_3), .val (.int v9_4), .val (.int v10_5), .val (.int v11_6), .val (.int v12_7), .val (.int v13_8), .val (.int v14_9), .val (.int v15_10), .val (.int v16_11), .val (.int v17_12), .val (.int v18_13), .val (.ref b14), .val (.ref auq), .val (.ref rbq), .val (.int (0 : Int32)), .val (.int (0 : Int32)), .val (.int (0 : Int32)), .val (.int (0 : Int32)), .unset, .unset, .unset, .unset] [])) _
      refine XS.iconst Xt.here hx rfl (hb hby at_295) ?_
      show Steps _ _ _ (Tt.setTop (mkF m 296 #[.val (.int p1), .val (.int p2), .val (.int p3), .val (.int p4), .val (.int p5), .val (.int p6), .val (.int v6_1), .val (.int v7_2), .val (.int v8_3), .val (.int v9_4), .val (.int v10_5), .val (.int v11_6), .val (.int v12_7), .val (.int v13_8), .val (.int v14_9), .val (.int v15_10), .val (.int v16_11), .val (.int v17_12), .val (.int v18_13), .val (.ref b14), .val (.ref auq), .val (.ref rbq), .val (.int (0 : Int32)), .val (.int (0 : Int32)), .val (.int (0 : Int32)), .val (.int (0 : Int32)), .unset, .unset, .unset, .unset] [(.int (0 : Int32))])) _
      exact kk
    show own_Go _ _ _ _ (Tt.setTop (mkF m 296 #[.val (.int p1), .val (.int p2), .val (.int p3), .val (.int p4), .val (.int p5), .val (.int p6), .val (.int v6_1), .val (.int v7_2), .val (.int v8_3), .val (.int v9_4), .val (.int v10_5), .val (.int v11_6), .val (.int v12_7), .val (.int v13_8), .val (.int v14_9), .val (.int v15_10), .val (.int v16_11), .val (.int v17_12), .val (.int v18_13), .val (.ref b14), .val (.ref auq), .val (.ref rbq), .val (.int (0 : Int32)), .val (.int (0 : Int32)), .val (.int (0 : Int32)), .val (.int (0 : Int32)), .unset, .unset, .unset, .unset] [(.int (0 : Int32))]))
    refine own_by (fun _ k => XS.istore Xt.here hx rfl (hb hby at_296) rfl (l' := #[.val (.int p1), .val (.int p2), .val (.int p3), .val (.int p4), .val (.int p5), .val (.int p6), .val (.int v6_1), .val (.int v7_2), .val (.int v8_3), .val (.int v9_4), .val (.int v10_5), .val (.int v11_6), .val (.int v12_7), .val (.int v13_8), .val (.int v14_9), .val (.int v15_10), .val (.int v16_11), .val (.int v17_12), .val (.int v18_13), .val (.ref b14), .val (.ref auq), .val (.ref rbq), .val (.int (0 : Int32)), .val (.int (0 : Int32)), .val (.int (0 : Int32)), .val (.int (0 : Int32)), .val (.int (0 : Int32)), .unset, .unset, .unset]) rfl k) ?_
    refine own_by (fun _ k => XS.aload Xt.here hx rfl (hb hby at_298) rfl rfl k) ?_
    refine own_by (fun _ k => XS.iload Xt.here hx rfl (hb hby at_300) rfl k) ?_
    show own_Go _ _ _ _ (Tt.setTop (mkF m 302 #[.val (.int p1), .val (.int p2), .val (.int p3), .val (.int p4), .val (.int p5), .val (.int p6), .val (.int v6_1), .val (.int v7_2), .val (.int v8_3), .val (.int v9_4), .val (.int v10_5), .val (.int v11_6), .val (.int v12_7), .val (.int v13_8), .val (.int v14_9), .val (.int v15_10), .val (.int v16_11), .val (.int v17_12), .val (.int v18_13), .val (.ref b14), .val (.ref auq), .val (.ref rbq), .val (.int (0 : Int32)), .val (.int (0 : Int32)), .val (.int (0 : Int32)), .val (.int (0 : Int32)), .val (.int (0 : Int32)), .unset, .unset, .unset] [(.int v12_7), (.ref rbq)]))
    refine own_callV Xt hx hZ hown (hw _ (List.mem_of_getElem? (i := 128) rfl)) (hw _ (List.mem_of_getElem? (i := 129) rfl)) (notFace_of_selects (args := #[]) (mvT hZ (hw _ (List.mem_of_getElem? (i := 131) rfl)))) (hw _ (List.mem_of_getElem? (i := 131) rfl)) (hw _ (List.mem_of_getElem? (i := 130) rfl)) (hw _ (List.mem_of_getElem? (i := 38) rfl)) (hw _ (List.mem_of_getElem? (i := 132) rfl)) (by decide) (rm19 l Z a0 hw [] rbq v12_7 wq dq Sq x12 ht n0 Zt Bt hx12) et rbq Bt.exa (by rw [hml]; rfl) [(.int v12_7)] [] rfl (lenOf own_pd13 rfl) rfl 0 (Nat.le_of_eq rfl) (by decide) (by decide) (Nat.le_of_ble_eq_true rfl) (Nat.le_of_ble_eq_true rfl) (hb hby at_302) ?_
    intro T39 Lc39 v39 X39 hQ39
    obtain ⟨rfl, N39q, e39⟩ := hQ39
    have N39 := Fr.app Nt N39q
    show own_Go _ _ _ _ (T39.setTop (mkF m 305 #[.val (.int p1), .val (.int p2), .val (.int p3), .val (.int p4), .val (.int p5), .val (.int p6), .val (.int v6_1), .val (.int v7_2), .val (.int v8_3), .val (.int v9_4), .val (.int v10_5), .val (.int v11_6), .val (.int v12_7), .val (.int v13_8), .val (.int v14_9), .val (.int v15_10), .val (.int v16_11), .val (.int v17_12), .val (.int v18_13), .val (.ref b14), .val (.ref auq), .val (.ref rbq), .val (.int (0 : Int32)), .val (.int (0 : Int32)), .val (.int (0 : Int32)), .val (.int (0 : Int32)), .val (.int (0 : Int32)), .unset, .unset, .unset] [(.int (if Sq x12 then (1 : Int32) else 0))]))
    obtain ⟨v27_40, hv27_40⟩ : ∃ z_ : Int32, (if Sq x12 then (1 : Int32) else 0) = z_ := ⟨_, rfl⟩
    refine own_gen hv27_40 (fun z_ => T39.setTop (mkF m 305 #[.val (.int p1), .val (.int p2), .val (.int p3), .val (.int p4), .val (.int p5), .val (.int p6), .val (.int v6_1), .val (.int v7_2), .val (.int v8_3), .val (.int v9_4), .val (.int v10_5), .val (.int v11_6), .val (.int v12_7), .val (.int v13_8), .val (.int v14_9), .val (.int v15_10), .val (.int v16_11), .val (.int v17_12), .val (.int v18_13), .val (.ref b14), .val (.ref auq), .val (.ref rbq), .val (.int (0 : Int32)), .val (.int (0 : Int32)), .val (.int (0 : Int32)), .val (.int (0 : Int32)), .val (.int (0 : Int32)), .unset, .unset, .unset] [(.int z_)])) ?_
    refine own_by (fun _ k => XS.istore X39.here hx rfl (hb hby at_305) rfl (l' := #[.val (.int p1), .val (.int p2), .val (.int p3), .val (.int p4), .val (.int p5), .val (.int p6), .val (.int v6_1), .val (.int v7_2), .val (.int v8_3), .val (.int v9_4), .val (.int v10_5), .val (.int v11_6), .val (.int v12_7), .val (.int v13_8), .val (.int v14_9), .val (.int v15_10), .val (.int v16_11), .val (.int v17_12), .val (.int v18_13), .val (.ref b14), .val (.ref auq), .val (.ref rbq), .val (.int (0 : Int32)), .val (.int (0 : Int32)), .val (.int (0 : Int32)), .val (.int (0 : Int32)), .val (.int (0 : Int32)), .val (.int v27_40), .unset, .unset]) rfl k) ?_
    refine own_by (fun _ k => XS.aload X39.here hx rfl (hb hby at_307) rfl rfl k) ?_
    refine own_by (fun _ k => XS.iload X39.here hx rfl (hb hby at_309) rfl k) ?_
    show own_Go _ _ _ _ (T39.setTop (mkF m 311 #[.val (.int p1), .val (.int p2), .val (.int p3), .val (.int p4), .val (.int p5), .val (.int p6), .val (.int v6_1), .val (.int v7_2), .val (.int v8_3), .val (.int v9_4), .val (.int v10_5), .val (.int v11_6), .val (.int v12_7), .val (.int v13_8), .val (.int v14_9), .val (.int v15_10), .val (.int v16_11), .val (.int v17_12), .val (.int v18_13), .val (.ref b14), .val (.ref auq), .val (.ref rbq), .val (.int (0 : Int32)), .val (.int (0 : Int32)), .val (.int (0 : Int32)), .val (.int (0 : Int32)), .val (.int (0 : Int32)), .val (.int v27_40), .unset, .unset] [(.int v13_8), (.ref rbq)]))
    refine own_callV X39 hx hZ hown (hw _ (List.mem_of_getElem? (i := 128) rfl)) (hw _ (List.mem_of_getElem? (i := 129) rfl)) (notFace_of_selects (args := #[]) (mvT hZ (hw _ (List.mem_of_getElem? (i := 131) rfl)))) (hw _ (List.mem_of_getElem? (i := 131) rfl)) (hw _ (List.mem_of_getElem? (i := 130) rfl)) (hw _ (List.mem_of_getElem? (i := 38) rfl)) (hw _ (List.mem_of_getElem? (i := 132) rfl)) (by decide) (rm19 l Z a0 hw [] rbq v13_8 wq dq Sq x13 ht n0 Zt Bt hx13) e39 rbq Bt.exa (by rw [hml]; rfl) [(.int v13_8)] [] rfl (lenOf own_pd13 rfl) rfl 0 (Nat.le_of_eq rfl) (by decide) (by decide) (Nat.le_of_ble_eq_true rfl) (Nat.le_of_ble_eq_true rfl) (hb hby at_311) ?_
    intro T41 Lc41 v41 X41 hQ41
    obtain ⟨rfl, N41q, e41⟩ := hQ41
    have N41 := Fr.app N39 N41q
    show own_Go _ _ _ _ (T41.setTop (mkF m 314 #[.val (.int p1), .val (.int p2), .val (.int p3), .val (.int p4), .val (.int p5), .val (.int p6), .val (.int v6_1), .val (.int v7_2), .val (.int v8_3), .val (.int v9_4), .val (.int v10_5), .val (.int v11_6), .val (.int v12_7), .val (.int v13_8), .val (.int v14_9), .val (.int v15_10), .val (.int v16_11), .val (.int v17_12), .val (.int v18_13), .val (.ref b14), .val (.ref auq), .val (.ref rbq), .val (.int (0 : Int32)), .val (.int (0 : Int32)), .val (.int (0 : Int32)), .val (.int (0 : Int32)), .val (.int (0 : Int32)), .val (.int v27_40), .unset, .unset] [(.int (if Sq x13 then (1 : Int32) else 0))]))
    obtain ⟨v28_42, hv28_42⟩ : ∃ z_ : Int32, (if Sq x13 then (1 : Int32) else 0) = z_ := ⟨_, rfl⟩
    refine own_gen hv28_42 (fun z_ => T41.setTop (mkF m 314 #[.val (.int p1), .val (.int p2), .val (.int p3), .val (.int p4), .val (.int p5), .val (.int p6), .val (.int v6_1), .val (.int v7_2), .val (.int v8_3), .val (.int v9_4), .val (.int v10_5), .val (.int v11_6), .val (.int v12_7), .val (.int v13_8), .val (.int v14_9), .val (.int v15_10), .val (.int v16_11), .val (.int v17_12), .val (.int v18_13), .val (.ref b14), .val (.ref auq), .val (.ref rbq), .val (.int (0 : Int32)), .val (.int (0 : Int32)), .val (.int (0 : Int32)), .val (.int (0 : Int32)), .val (.int (0 : Int32)), .val (.int v27_40), .unset, .unset] [(.int z_)])) ?_
    refine own_by (fun _ k => XS.istore X41.here hx rfl (hb hby at_314) rfl (l' := #[.val (.int p1), .val (.int p2), .val (.int p3), .val (.int p4), .val (.int p5), .val (.int p6), .val (.int v6_1), .val (.int v7_2), .val (.int v8_3), .val (.int v9_4), .val (.int v10_5), .val (.int v11_6), .val (.int v12_7), .val (.int v13_8), .val (.int v14_9), .val (.int v15_10), .val (.int v16_11), .val (.int v17_12), .val (.int v18_13), .val (.ref b14), .val (.ref auq), .val (.ref rbq), .val (.int (0 : Int32)), .val (.int (0 : Int32)), .val (.int (0 : Int32)), .val (.int (0 : Int32)), .val (.int (0 : Int32)), .val (.int v27_40), .val (.int v28_42), .unset]) rfl k) ?_
    refine own_by (fun _ k => XS.aload X41.here hx rfl (hb hby at_316) rfl rfl k) ?_
    refine own_by (fun _ k => XS.iload X41.here hx rfl (hb hby at_318) rfl k) ?_
    show own_Go _ _ _ _ (T41.setTop (mkF m 320 #[.val (.int p1), .val (.int p2), .val (.int p3), .val (.int p4), .val (.int p5), .val (.int p6), .val (.int v6_1), .val (.int v7_2), .val (.int v8_3), .val (.int v9_4), .val (.int v10_5), .val (.int v11_6), .val (.int v12_7), .val (.int v13_8), .val (.int v14_9), .val (.int v15_10), .val (.int v16_11), .val (.int v17_12), .val (.int v18_13), .val (.ref b14), .val (.ref auq), .val (.ref rbq), .val (.int (0 : Int32)), .val (.int (0 : Int32)), .val (.int (0 : Int32)), .val (.int (0 : Int32)), .val (.int (0 : Int32)), .val (.int v27_40), .val (.int v28_42), .unset] [(.int v14_9), (.ref rbq)]))
    refine own_callV X41 hx hZ hown (hw _ (List.mem_of_getElem? (i := 128) rfl)) (hw _ (List.mem_of_getElem? (i := 129) rfl)) (notFace_of_selects (args := #[]) (mvT hZ (hw _ (List.mem_of_getElem? (i := 131) rfl)))) (hw _ (List.mem_of_getElem? (i := 131) rfl)) (hw _ (List.mem_of_getElem? (i := 130) rfl)) (hw _ (List.mem_of_getElem? (i := 38) rfl)) (hw _ (List.mem_of_getElem? (i := 132) rfl)) (by decide) (rm19 l Z a0 hw [] rbq v14_9 wq dq Sq x14 ht n0 Zt Bt hx14) e41 rbq Bt.exa (by rw [hml]; rfl) [(.int v14_9)] [] rfl (lenOf own_pd13 rfl) rfl 0 (Nat.le_of_eq rfl) (by decide) (by decide) (Nat.le_of_ble_eq_true rfl) (Nat.le_of_ble_eq_true rfl) (hb hby at_320) ?_
    intro T43 Lc43 v43 X43 hQ43
    obtain ⟨rfl, N43q, e43⟩ := hQ43
    have N43 := Fr.app N41 N43q
    show own_Go _ _ _ _ (T43.setTop (mkF m 323 #[.val (.int p1), .val (.int p2), .val (.int p3), .val (.int p4), .val (.int p5), .val (.int p6), .val (.int v6_1), .val (.int v7_2), .val (.int v8_3), .val (.int v9_4), .val (.int v10_5), .val (.int v11_6), .val (.int v12_7), .val (.int v13_8), .val (.int v14_9), .val (.int v15_10), .val (.int v16_11), .val (.int v17_12), .val (.int v18_13), .val (.ref b14), .val (.ref auq), .val (.ref rbq), .val (.int (0 : Int32)), .val (.int (0 : Int32)), .val (.int (0 : Int32)), .val (.int (0 : Int32)), .val (.int (0 : Int32)), .val (.int v27_40), .val (.int v28_42), .unset] [(.int (if Sq x14 then (1 : Int32) else 0))]))
    obtain ⟨v29_44, hv29_44⟩ : ∃ z_ : Int32, (if Sq x14 then (1 : Int32) else 0) = z_ := ⟨_, rfl⟩
    refine own_gen hv29_44 (fun z_ => T43.setTop (mkF m 323 #[.val (.int p1), .val (.int p2), .val (.int p3), .val (.int p4), .val (.int p5), .val (.int p6), .val (.int v6_1), .val (.int v7_2), .val (.int v8_3), .val (.int v9_4), .val (.int v10_5), .val (.int v11_6), .val (.int v12_7), .val (.int v13_8), .val (.int v14_9), .val (.int v15_10), .val (.int v16_11), .val (.int v17_12), .val (.int v18_13), .val (.ref b14), .val (.ref auq), .val (.ref rbq), .val (.int (0 : Int32)), .val (.int (0 : Int32)), .val (.int (0 : Int32)), .val (.int (0 : Int32)), .val (.int (0 : Int32)), .val (.int v27_40), .val (.int v28_42), .unset] [(.int z_)])) ?_
    refine own_by (fun _ k => XS.istore X43.here hx rfl (hb hby at_323) rfl (l' := #[.val (.int p1), .val (.int p2), .val (.int p3), .val (.int p4), .val (.int p5), .val (.int p6), .val (.int v6_1), .val (.int v7_2), .val (.int v8_3), .val (.int v9_4), .val (.int v10_5), .val (.int v11_6), .val (.int v12_7), .val (.int v13_8), .val (.int v14_9), .val (.int v15_10), .val (.int v16_11), .val (.int v17_12), .val (.int v18_13), .val (.ref b14), .val (.ref auq), .val (.ref rbq), .val (.int (0 : Int32)), .val (.int (0 : Int32)), .val (.int (0 : Int32)), .val (.int (0 : Int32)), .val (.int (0 : Int32)), .val (.int v27_40), .val (.int v28_42), .val (.int v29_44)]) rfl k) ?_
    refine own_by (fun _ k => XS.iload X43.here hx rfl (hb hby at_325) rfl k) ?_
    refine own_by (fun _ k => XS.iload X43.here hx rfl (hb hby at_327) rfl k) ?_
    show own_Go _ _ _ _ (T43.setTop (mkF m 329 #[.val (.int p1), .val (.int p2), .val (.int p3), .val (.int p4), .val (.int p5), .val (.int p6), .val (.int v6_1), .val (.int v7_2), .val (.int v8_3), .val (.int v9_4), .val (.int v10_5), .val (.int v11_6), .val (.int v12_7), .val (.int v13_8), .val (.int v14_9), .val (.int v15_10), .val (.int v16_11), .val (.int v17_12), .val (.int v18_13), .val (.ref b14), .val (.ref auq), .val (.ref rbq), .val (.int (0 : Int32)), .val (.int (0 : Int32)), .val (.int (0 : Int32)), .val (.int (0 : Int32)), .val (.int (0 : Int32)), .val (.int v27_40), .val (.int v28_42), .val (.int v29_44)] [(.int v12_7), (.int v27_40)]))
    refine own_by (fun _ k => XS.iload X43.here hx rfl (hb hby at_329) rfl k) ?_
    refine own_by (fun _ k => XS.iload X43.here hx rfl (hb hby at_331) rfl k) ?_
    refine own_by (fun _ k => XS.iload X43.here hx rfl (hb hby at_333) rfl k) ?_
    show own_Go _ _ _ _ (T43.setTop (mkF m 335 #[.val (.int p1), .val (.int p2), .val (.int p3), .val (.int p4), .val (.int p5), .val (.int p6), .val (.int v6_1), .val (.int v7_2), .val (.int v8_3), .val (.int v9_4), .val (.int v10_5), .val (.int v11_6), .val (.int v12_7), .val (.int v13_8), .val (.int v14_9), .val (.int v15_10), .val (.int v16_11), .val (.int v17_12), .val (.int v18_13), .val (.ref b14), .val (.ref auq), .val (.ref rbq), .val (.int (0 : Int32)), .val (.int (0 : Int32)), .val (.int (0 : Int32)), .val (.int (0 : Int32)), .val (.int (0 : Int32)), .val (.int v27_40), .val (.int v28_42), .val (.int v29_44)] [(.int v13_8), (.int (0 : Int32)), (.int v12_7), (.int v12_7), (.int v27_40)]))
    refine own_by (fun _ k => XS.iload X43.here hx rfl (hb hby at_335) rfl k) ?_
    show own_Go _ _ _ _ (T43.setTop (mkF m 337 #[.val (.int p1), .val (.int p2), .val (.int p3), .val (.int p4), .val (.int p5), .val (.int p6), .val (.int v6_1), .val (.int v7_2), .val (.int v8_3), .val (.int v9_4), .val (.int v10_5), .val (.int v11_6), .val (.int v12_7), .val (.int v13_8), .val (.int v14_9), .val (.int v15_10), .val (.int v16_11), .val (.int v17_12), .val (.int v18_13), .val (.ref b14), .val (.ref auq), .val (.ref rbq), .val (.int (0 : Int32)), .val (.int (0 : Int32)), .val (.int (0 : Int32)), .val (.int (0 : Int32)), .val (.int (0 : Int32)), .val (.int v27_40), .val (.int v28_42), .val (.int v29_44)] [(.int (0 : Int32)), (.int v13_8), (.int (0 : Int32)), (.int v12_7), (.int v12_7), (.int v27_40)]))
    refine own_callS X43 hx hZ hown (hw _ (List.mem_of_getElem? (i := 133) rfl)) (hw _ (List.mem_of_getElem? (i := 134) rfl)) (hw _ (List.mem_of_getElem? (i := 135) rfl)) (hw _ (List.mem_of_getElem? (i := 136) rfl)) (by decide) (rm20 l Z a0 hw [] v12_7 v12_7 (0 : Int32) v13_8 (0 : Int32) ht n0 Zt) e43 (by rw [hml]; rfl) [(.int v12_7), (.int v12_7), (.int (0 : Int32)), (.int v13_8), (.int (0 : Int32))] [(.int v27_40)] rfl (lenOf own_pd14 rfl) rfl 1 (Nat.le_of_eq rfl) (by decide) (by decide) (Nat.le_of_ble_eq_true rfl) (Nat.le_of_ble_eq_true rfl) (hb hby at_337) ?_
    intro T45 Lc45 v45 X45 hQ45
    obtain ⟨rfl, N45q, e45⟩ := hQ45
    have N45 := Fr.app N43 N45q
    show own_Go _ _ _ _ (T45.setTop (mkF m 340 #[.val (.int p1), .val (.int p2), .val (.int p3), .val (.int p4), .val (.int p5), .val (.int p6), .val (.int v6_1), .val (.int v7_2), .val (.int v8_3), .val (.int v9_4), .val (.int v10_5), .val (.int v11_6), .val (.int v12_7), .val (.int v13_8), .val (.int v14_9), .val (.int v15_10), .val (.int v16_11), .val (.int v17_12), .val (.int v18_13), .val (.ref b14), .val (.ref auq), .val (.ref rbq), .val (.int (0 : Int32)), .val (.int (0 : Int32)), .val (.int (0 : Int32)), .val (.int (0 : Int32)), .val (.int (0 : Int32)), .val (.int v27_40), .val (.int v28_42), .val (.int v29_44)] [(.int (own_xp v12_7 v12_7 (0 : Int32) v13_8 (0 : Int32))), (.int v27_40)]))
    refine own_by (fun _ k => XS.icmpNo X45.here hx rfl (hb hby at_340) rfl (teq (hv27_40.symm.trans (own_fin hx12 hx12 hx13 (by rw [HS x12]; simp [])))).2 k) ?_
    refine own_by (fun _ k => XS.iload X45.here hx rfl (hb hby at_343) rfl k) ?_
    refine own_by (fun _ k => XS.iload X45.here hx rfl (hb hby at_345) rfl k) ?_
    show own_Go _ _ _ _ (T45.setTop (mkF m 347 #[.val (.int p1), .val (.int p2), .val (.int p3), .val (.int p4), .val (.int p5), .val (.int p6), .val (.int v6_1), .val (.int v7_2), .val (.int v8_3), .val (.int v9_4), .val (.int v10_5), .val (.int v11_6), .val (.int v12_7), .val (.int v13_8), .val (.int v14_9), .val (.int v15_10), .val (.int v16_11), .val (.int v17_12), .val (.int v18_13), .val (.ref b14), .val (.ref auq), .val (.ref rbq), .val (.int (0 : Int32)), .val (.int (0 : Int32)), .val (.int (0 : Int32)), .val (.int (0 : Int32)), .val (.int (0 : Int32)), .val (.int v27_40), .val (.int v28_42), .val (.int v29_44)] [(.int v13_8), (.int v28_42)]))
    refine own_by (fun _ k => XS.iload X45.here hx rfl (hb hby at_347) rfl k) ?_
    refine own_by (fun _ k => XS.iload X45.here hx rfl (hb hby at_349) rfl k) ?_
    refine own_by (fun _ k => XS.iload X45.here hx rfl (hb hby at_351) rfl k) ?_
    show own_Go _ _ _ _ (T45.setTop (mkF m 353 #[.val (.int p1), .val (.int p2), .val (.int p3), .val (.int p4), .val (.int p5), .val (.int p6), .val (.int v6_1), .val (.int v7_2), .val (.int v8_3), .val (.int v9_4), .val (.int v10_5), .val (.int v11_6), .val (.int v12_7), .val (.int v13_8), .val (.int v14_9), .val (.int v15_10), .val (.int v16_11), .val (.int v17_12), .val (.int v18_13), .val (.ref b14), .val (.ref auq), .val (.ref rbq), .val (.int (0 : Int32)), .val (.int (0 : Int32)), .val (.int (0 : Int32)), .val (.int (0 : Int32)), .val (.int (0 : Int32)), .val (.int v27_40), .val (.int v28_42), .val (.int v29_44)] [(.int v13_8), (.int (0 : Int32)), (.int v12_7), (.int v13_8), (.int v28_42)]))
    refine own_by (fun _ k => XS.iload X45.here hx rfl (hb hby at_353) rfl k) ?_
    show own_Go _ _ _ _ (T45.setTop (mkF m 355 #[.val (.int p1), .val (.int p2), .val (.int p3), .val (.int p4), .val (.int p5), .val (.int p6), .val (.int v6_1), .val (.int v7_2), .val (.int v8_3), .val (.int v9_4), .val (.int v10_5), .val (.int v11_6), .val (.int v12_7), .val (.int v13_8), .val (.int v14_9), .val (.int v15_10), .val (.int v16_11), .val (.int v17_12), .val (.int v18_13), .val (.ref b14), .val (.ref auq), .val (.ref rbq), .val (.int (0 : Int32)), .val (.int (0 : Int32)), .val (.int (0 : Int32)), .val (.int (0 : Int32)), .val (.int (0 : Int32)), .val (.int v27_40), .val (.int v28_42), .val (.int v29_44)] [(.int (0 : Int32)), (.int v13_8), (.int (0 : Int32)), (.int v12_7), (.int v13_8), (.int v28_42)]))
    refine own_callS X45 hx hZ hown (hw _ (List.mem_of_getElem? (i := 133) rfl)) (hw _ (List.mem_of_getElem? (i := 134) rfl)) (hw _ (List.mem_of_getElem? (i := 135) rfl)) (hw _ (List.mem_of_getElem? (i := 136) rfl)) (by decide) (rm20 l Z a0 hw [] v13_8 v12_7 (0 : Int32) v13_8 (0 : Int32) ht n0 Zt) e45 (by rw [hml]; rfl) [(.int v13_8), (.int v12_7), (.int (0 : Int32)), (.int v13_8), (.int (0 : Int32))] [(.int v28_42)] rfl (lenOf own_pd14 rfl) rfl 1 (Nat.le_of_eq rfl) (by decide) (by decide) (Nat.le_of_ble_eq_true rfl) (Nat.le_of_ble_eq_true rfl) (hb hby at_355) ?_
    intro T46 Lc46 v46 X46 hQ46
    obtain ⟨rfl, N46q, e46⟩ := hQ46
    have N46 := Fr.app N45 N46q
    show own_Go _ _ _ _ (T46.setTop (mkF m 358 #[.val (.int p1), .val (.int p2), .val (.int p3), .val (.int p4), .val (.int p5), .val (.int p6), .val (.int v6_1), .val (.int v7_2), .val (.int v8_3), .val (.int v9_4), .val (.int v10_5), .val (.int v11_6), .val (.int v12_7), .val (.int v13_8), .val (.int v14_9), .val (.int v15_10), .val (.int v16_11), .val (.int v17_12), .val (.int v18_13), .val (.ref b14), .val (.ref auq), .val (.ref rbq), .val (.int (0 : Int32)), .val (.int (0 : Int32)), .val (.int (0 : Int32)), .val (.int (0 : Int32)), .val (.int (0 : Int32)), .val (.int v27_40), .val (.int v28_42), .val (.int v29_44)] [(.int (own_xp v13_8 v12_7 (0 : Int32) v13_8 (0 : Int32))), (.int v28_42)]))
    refine own_by (fun _ k => XS.icmpNo X46.here hx rfl (hb hby at_358) rfl (teq (hv28_42.symm.trans (own_fin hx13 hx12 hx13 (by rw [HS x13]; simp [])))).2 k) ?_
    refine own_by (fun _ k => XS.iload X46.here hx rfl (hb hby at_361) rfl k) ?_
    refine own_by (fun _ k => XS.iload X46.here hx rfl (hb hby at_363) rfl k) ?_
    show own_Go _ _ _ _ (T46.setTop (mkF m 365 #[.val (.int p1), .val (.int p2), .val (.int p3), .val (.int p4), .val (.int p5), .val (.int p6), .val (.int v6_1), .val (.int v7_2), .val (.int v8_3), .val (.int v9_4), .val (.int v10_5), .val (.int v11_6), .val (.int v12_7), .val (.int v13_8), .val (.int v14_9), .val (.int v15_10), .val (.int v16_11), .val (.int v17_12), .val (.int v18_13), .val (.ref b14), .val (.ref auq), .val (.ref rbq), .val (.int (0 : Int32)), .val (.int (0 : Int32)), .val (.int (0 : Int32)), .val (.int (0 : Int32)), .val (.int (0 : Int32)), .val (.int v27_40), .val (.int v28_42), .val (.int v29_44)] [(.int v14_9), (.int v29_44)]))
    refine own_by (fun _ k => XS.iload X46.here hx rfl (hb hby at_365) rfl k) ?_
    refine own_by (fun _ k => XS.iload X46.here hx rfl (hb hby at_367) rfl k) ?_
    refine own_by (fun _ k => XS.iload X46.here hx rfl (hb hby at_369) rfl k) ?_
    show own_Go _ _ _ _ (T46.setTop (mkF m 371 #[.val (.int p1), .val (.int p2), .val (.int p3), .val (.int p4), .val (.int p5), .val (.int p6), .val (.int v6_1), .val (.int v7_2), .val (.int v8_3), .val (.int v9_4), .val (.int v10_5), .val (.int v11_6), .val (.int v12_7), .val (.int v13_8), .val (.int v14_9), .val (.int v15_10), .val (.int v16_11), .val (.int v17_12), .val (.int v18_13), .val (.ref b14), .val (.ref auq), .val (.ref rbq), .val (.int (0 : Int32)), .val (.int (0 : Int32)), .val (.int (0 : Int32)), .val (.int (0 : Int32)), .val (.int (0 : Int32)), .val (.int v27_40), .val (.int v28_42), .val (.int v29_44)] [(.int v13_8), (.int (0 : Int32)), (.int v12_7), (.int v14_9), (.int v29_44)]))
    refine own_by (fun _ k => XS.iload X46.here hx rfl (hb hby at_371) rfl k) ?_
    show own_Go _ _ _ _ (T46.setTop (mkF m 373 #[.val (.int p1), .val (.int p2), .val (.int p3), .val (.int p4), .val (.int p5), .val (.int p6), .val (.int v6_1), .val (.int v7_2), .val (.int v8_3), .val (.int v9_4), .val (.int v10_5), .val (.int v11_6), .val (.int v12_7), .val (.int v13_8), .val (.int v14_9), .val (.int v15_10), .val (.int v16_11), .val (.int v17_12), .val (.int v18_13), .val (.ref b14), .val (.ref auq), .val (.ref rbq), .val (.int (0 : Int32)), .val (.int (0 : Int32)), .val (.int (0 : Int32)), .val (.int (0 : Int32)), .val (.int (0 : Int32)), .val (.int v27_40), .val (.int v28_42), .val (.int v29_44)] [(.int (0 : Int32)), (.int v13_8), (.int (0 : Int32)), (.int v12_7), (.int v14_9), (.int v29_44)]))
    refine own_callS X46 hx hZ hown (hw _ (List.mem_of_getElem? (i := 133) rfl)) (hw _ (List.mem_of_getElem? (i := 134) rfl)) (hw _ (List.mem_of_getElem? (i := 135) rfl)) (hw _ (List.mem_of_getElem? (i := 136) rfl)) (by decide) (rm20 l Z a0 hw [] v14_9 v12_7 (0 : Int32) v13_8 (0 : Int32) ht n0 Zt) e46 (by rw [hml]; rfl) [(.int v14_9), (.int v12_7), (.int (0 : Int32)), (.int v13_8), (.int (0 : Int32))] [(.int v29_44)] rfl (lenOf own_pd14 rfl) rfl 1 (Nat.le_of_eq rfl) (by decide) (by decide) (Nat.le_of_ble_eq_true rfl) (Nat.le_of_ble_eq_true rfl) (hb hby at_373) ?_
    intro T47 Lc47 v47 X47 hQ47
    obtain ⟨rfl, N47q, e47⟩ := hQ47
    have N47 := Fr.app N46 N47q
    show own_Go _ _ _ _ (T47.setTop (mkF m 376 #[.val (.int p1), .val (.int p2), .val (.int p3), .val (.int p4), .val (.int p5), .val (.int p6), .val (.int v6_1), .val (.int v7_2), .val (.int v8_3), .val (.int v9_4), .val (.int v10_5), .val (.int v11_6), .val (.int v12_7), .val (.int v13_8), .val (.int v14_9), .val (.int v15_10), .val (.int v16_11), .val (.int v17_12), .val (.int v18_13), .val (.ref b14), .val (.ref auq), .val (.ref rbq), .val (.int (0 : Int32)), .val (.int (0 : Int32)), .val (.int (0 : Int32)), .val (.int (0 : Int32)), .val (.int (0 : Int32)), .val (.int v27_40), .val (.int v28_42), .val (.int v29_44)] [(.int (own_xp v14_9 v12_7 (0 : Int32) v13_8 (0 : Int32))), (.int v29_44)]))
    refine own_by (fun _ k => XS.icmpNo X47.here hx rfl (hb hby at_376) rfl (teq (hv29_44.symm.trans (own_fin hx14 hx12 hx13 (by rw [HS x14]; simp [])))).2 k) ?_
    refine own_by (fun _ k => XS.iconst X47.here hx rfl (hb hby at_379) k) ?_
    show own_Go _ _ _ _ (T47.setTop (mkF m 380 #[.val (.int p1), .val (.int p2), .val (.int p3), .val (.int p4), .val (.int p5), .val (.int p6), .val (.int v6_1), .val (.int v7_2), .val (.int v8_3), .val (.int v9_4), .val (.int v10_5), .val (.int v11_6), .val (.int v12_7), .val (.int v13_8), .val (.int v14_9), .val (.int v15_10), .val (.int v16_11), .val (.int v17_12), .val (.int v18_13), .val (.ref b14), .val (.ref auq), .val (.ref rbq), .val (.int (0 : Int32)), .val (.int (0 : Int32)), .val (.int (0 : Int32)), .val (.int (0 : Int32)), .val (.int (0 : Int32)), .val (.int v27_40), .val (.int v28_42), .val (.int v29_44)] [(.int (1 : Int32))]))
    refine own_by (fun _ k => XS.goto X47.here hx rfl (pc0 := 380) (pc' := 384) rfl (hb hby at_380) (by decide) (by decide) k) ?_
    show own_Go _ _ _ _ (T47.setTop (mkF m 384 #[.val (.int p1), .val (.int p2), .val (.int p3), .val (.int p4), .val (.int p5), .val (.int p6), .val (.int v6_1), .val (.int v7_2), .val (.int v8_3), .val (.int v9_4), .val (.int v10_5), .val (.int v11_6), .val (.int v12_7), .val (.int v13_8), .val (.int v14_9), .val (.int v15_10), .val (.int v16_11), .val (.int v17_12), .val (.int v18_13), .val (.ref b14), .val (.ref auq), .val (.ref rbq), .val (.int (0 : Int32)), .val (.int (0 : Int32)), .val (.int (0 : Int32)), .val (.int (0 : Int32)), .val (.int (0 : Int32)), .val (.int v27_40), .val (.int v28_42), .val (.int v29_44)] [(.int (1 : Int32))]))
    exact own_retN X47 hx Bd.notSynchronized e47 Bd.returns (by simp) (hb hby at_384) (⟨rfl, N47⟩) (by decide) (by decide)
  have tail : ∀ (Tt : State) (ht : Heap) (Lt : List Loc) (fA : Nat → Int32), Stand p l e room_1 s m #[(.int p1), (.int p2), (.int p3), (.int p4), (.int p5), (.int p6)] below meth c Tt Lt (0 + 1) (0 + 3) → Tt.heap = ht → Fr n0 Lt → n0 ≤ ht.size → Keep h0 ht [] → own_AI Z ht b14 .int ln fA → own_bd N fA → Sta Z ht "java/util/ArrayList" "DEFAULTCAPACITY_EMPTY_ELEMENTDATA" "[Ljava/lang/Object;" (.ref dc) → own_Ar Z ht dc (.object "java/lang/Object") 0 fd → own_Fn ht sa cK → own_Go p.tables e below (own_Q s (fun v h L => v = some (.int 1) ∧ Fr n0 L) 88 256) (Tt.setTop (mkF m 152 #[.val (.int p1), .val (.int p2), .val (.int p3), .val (.int p4), .val (.int p5), .val (.int p6), .val (.int v6_1), .val (.int v7_2), .val (.int v8_3), .val (.int v9_4), .val (.int v10_5), .val (.int v11_6), .val (.int v12_7), .val (.int v13_8), .val (.int v14_9), .val (.int v15_10), .val (.int v16_11), .val (.int v17_12), .val (.int v18_13), .val (.ref b14), .unset, .unset, .unset, .unset, .unset, .unset, .unset, .unset, .unset, .unset] [])) := by
    intro Tt ht Lt fA Xt et Nt Zt Kt At bdA Qt Ct Ft
    show own_Go _ _ _ _ (Tt.setTop (mkF m 152 #[.val (.int p1), .val (.int p2), .val (.int p3), .val (.int p4), .val (.int p5), .val (.int p6), .val (.int v6_1), .val (.int v7_2), .val (.int v8_3), .val (.int v9_4), .val (.int v10_5), .val (.int v11_6), .val (.int v12_7), .val (.int v13_8), .val (.int v14_9), .val (.int v15_10), .val (.int v16_11), .val (.int v17_12), .val (.int v18_13), .val (.ref b14), .unset, .unset, .unset, .unset, .unset, .unset, .unset, .unset, .unset, .unset] []))
    obtain ⟨T48, h48, X48, e48, E48, A48, D48, -, st48⟩ := newO Xt hx hZ hown (hw _ (List.mem_of_getElem? (i := 1) rfl)) (hw _ (List.mem_of_getElem? (i := 2) rfl)) (hw _ (List.mem_of_getElem? (i := 3) rfl)) et (g := (mkF m 152 #[.val (.int p1), .val (.int p2), .val (.int p3), .val (.int p4), .val (.int p5), .val (.int p6), .val (.int v6_1), .val (.int v7_2), .val (.int v8_3), .val (.int v9_4), .val (.int v10_5), .val (.int v11_6), .val (.int v12_7), .val (.int v13_8), .val (.int v14_9), .val (.int v15_10), .val (.int v16_11), .val (.int v17_12), .val (.int v18_13), .val (.ref b14), .unset, .unset, .unset, .unset, .unset, .unset, .unset, .unset, .unset, .unset] [])) rfl (hb hby at_152) (by decide) (by decide)
    refine own_by st48 ?_
    show own_Go _ _ _ _ (T48.setTop (mkF m 155 #[.val (.int p1), .val (.int p2), .val (.int p3), .val (.int p4), .val (.int p5), .val (.int p6), .val (.int v6_1), .val (.int v7_2), .val (.int v8_3), .val (.int v9_4), .val (.int v10_5), .val (.int v11_6), .val (.int v12_7), .val (.int v13_8), .val (.int v14_9), .val (.int v15_10), .val (.int v16_11), .val (.int v17_12), .val (.int v18_13), .val (.ref b14), .unset, .unset, .unset, .unset, .unset, .unset, .unset, .unset, .unset, .unset] [.ref ht.size]))
    obtain ⟨b48, g48⟩ : ∃ z, z = ht.size := ⟨_, rfl⟩
    rw [← g48] at A48 D48
    refine own_gen g48.symm (fun z_ => T48.setTop (mkF m 155 #[.val (.int p1), .val (.int p2), .val (.int p3), .val (.int p4), .val (.int p5), .val (.int p6), .val (.int v6_1), .val (.int v7_2), .val (.int v8_3), .val (.int v9_4), .val (.int v10_5), .val (.int v11_6), .val (.int v12_7), .val (.int v13_8), .val (.int v14_9), .val (.int v15_10), .val (.int v16_11), .val (.int v17_12), .val (.int v18_13), .val (.ref b14), .unset, .unset, .unset, .unset, .unset, .unset, .unset, .unset, .unset, .unset] [.ref z_])) ?_
    have ne49 : b14 ≠ b48 := Nat.ne_of_lt (Nat.lt_of_lt_of_le At.lt (Nat.le_of_eq g48.symm))
    have ne50 : dc ≠ b48 := Nat.ne_of_lt (Nat.lt_of_lt_of_le Ct.lt (Nat.le_of_eq g48.symm))
    have ne51 : sa ≠ b48 := Nat.ne_of_lt (Nat.lt_of_lt_of_le Ft.lt (Nat.le_of_eq g48.symm))
    have ge48 : n0 ≤ b48 := Nat.le_trans Zt (Nat.le_of_eq g48.symm)
    have nw48 : h0.size ≤ b48 := Nat.le_trans Kt.1 (Nat.le_of_eq g48.symm)
    have f52 := Kt.ext E48
    have f53 := At.ext E48
    have f54 := Qt.ext E48
    have f55 := Ct.ext E48
    have f56 := Ft.ext E48
    have Z48 := Nat.le_trans Zt E48.1
    have f57 : Fld Z h48 b48 "com/example/sonde/sonde/engine/AnswerSets" "drawing" "Ljava/util/List;" .null := D48 (Or.inr (hw _ (List.mem_of_getElem? (i := 35) rfl))) (ty := (.object "java/util/List")) (by decide)
    have f58 : Fld Z h48 b48 "com/example/sonde/sonde/engine/AnswerSets" "deep" "Lcom/example/sonde/sonde/engine/Bits;" .null := D48 (Or.inr (hw _ (List.mem_of_getElem? (i := 49) rfl))) (ty := (.object "com/example/sonde/sonde/engine/Bits")) (by decide)
    have f59 : Fld Z h48 b48 "com/example/sonde/sonde/engine/AnswerSets" "none" "Lcom/example/sonde/sonde/engine/Bits;" .null := D48 (Or.inr (hw _ (List.mem_of_getElem? (i := 51) rfl))) (ty := (.object "com/example/sonde/sonde/engine/Bits")) (by decide)
    have f60 : Fld Z h48 b48 "com/example/sonde/sonde/engine/AnswerSets" "answering" "[Lcom/example/sonde/sonde/engine/Bits;" .null := D48 (Or.inr (hw _ (List.mem_of_getElem? (i := 54) rfl))) (ty := (.array (.object "com/example/sonde/sonde/engine/Bits"))) (by decide)
    have f61 : Fld Z h48 b48 "com/example/sonde/sonde/engine/AnswerSets" "holding" "[Lcom/example/sonde/sonde/engine/Bits;" .null := D48 (Or.inr (hw _ (List.mem_of_getElem? (i := 73) rfl))) (ty := (.array (.object "com/example/sonde/sonde/engine/Bits"))) (by decide)
    show own_Go _ _ _ _ (T48.setTop (mkF m 155 #[.val (.int p1), .val (.int p2), .val (.int p3), .val (.int p4), .val (.int p5), .val (.int p6), .val (.int v6_1), .val (.int v7_2), .val (.int v8_3), .val (.int v9_4), .val (.int v10_5), .val (.int v11_6), .val (.int v12_7), .val (.int v13_8), .val (.int v14_9), .val (.int v15_10), .val (.int v16_11), .val (.int v17_12), .val (.int v18_13), .val (.ref b14), .unset, .unset, .unset, .unset, .unset, .unset, .unset, .unset, .unset, .unset] [(.ref b48)]))
    refine own_by (fun _ k => XS.dup X48.here hx rfl (hb hby at_155) rfl rfl k) ?_
    refine own_by (fun _ k => XS.iload X48.here hx rfl (hb hby at_156) rfl k) ?_
    show own_Go _ _ _ _ (T48.setTop (mkF m 158 #[.val (.int p1), .val (.int p2), .val (.int p3), .val (.int p4), .val (.int p5), .val (.int p6), .val (.int v6_1), .val (.int v7_2), .val (.int v8_3), .val (.int v9_4), .val (.int v10_5), .val (.int v11_6), .val (.int v12_7), .val (.int v13_8), .val (.int v14_9), .val (.int v15_10), .val (.int v16_11), .val (.int v17_12), .val (.int v18_13), .val (.ref b14), .unset, .unset, .unset, .unset, .unset, .unset, .unset, .unset, .unset, .unset] [(.int v6_1), (.ref b48), (.ref b48)]))
    refine own_callIL X48 hx hZ hown hH rfl (hw _ (List.mem_of_getElem? (i := 4) rfl)) (hw _ (List.mem_of_getElem? (i := 5) rfl)) (hw _ (List.mem_of_getElem? (i := 3) rfl)) (hw _ (List.mem_of_getElem? (i := 6) rfl)) (by decide) (rm1 l Z a0 hw [] b48 v6_1 dc sa cK fd N h48 n0 Z48 A48 f57 f58 f59 f60 f61 ge48 f55 f54 Pdc f56 PSt hN hN1 hN4) e48 (by rw [hml]; rfl) b48 [(.int v6_1)] [(.ref b48)] rfl (lenOf own_pd1 rfl) rfl 1 (Nat.le_of_eq rfl) (by decide) (by decide) (Nat.le_of_ble_eq_true rfl) (Nat.le_of_ble_eq_true rfl) (hb hby at_158) ?_
    intro T62 Lc62 v62 X62 hQ62
    obtain ⟨h62, e62⟩ : ∃ h, T62.heap = h := ⟨_, rfl⟩
    rw [e62] at hQ62
    obtain ⟨rfl, N62q, K62, IN62⟩ := hQ62
    have N62 := Fr.app Nt N62q
    have f63 := f52.trans K62 (allS (P := fun x => x ∈ [] ∨ h0.size ≤ x) (Or.inr nw48) all0)
    have f64 := f53.keep K62 (ninS ne49 nin0)
    have f65 := own_sta_keep f54 K62 (nsS A48.nostat ns0)
    have f66 := f55.keep K62 (ninS ne50 nin0)
    have f67 := f56.keep K62
    have f68 := A48.keep K62
    have Z62 := Nat.le_trans Z48 K62.1
    obtain ⟨an62, ho62, no62, nw62, nd62, de62, dw62, dd62, fa62, EU62, FA62, FH62, FN62, FD62, RA62, RH62, BN62, BD62, NW62, D162, D262, D362⟩ := IN62
    have ne74 : b14 ≠ an62 := Nat.ne_of_lt (Nat.lt_of_lt_of_le f53.lt (NW62 _ (List.mem_of_getElem? (i := 0) rfl)))
    have ne75 : dc ≠ an62 := Nat.ne_of_lt (Nat.lt_of_lt_of_le f55.lt (NW62 _ (List.mem_of_getElem? (i := 0) rfl)))
    have ne76 : sa ≠ an62 := Nat.ne_of_lt (Nat.lt_of_lt_of_le f56.lt (NW62 _ (List.mem_of_getElem? (i := 0) rfl)))
    have ne77 : b48 ≠ an62 := Nat.ne_of_lt (Nat.lt_of_lt_of_le f61.lt (NW62 _ (List.mem_of_getElem? (i := 0) rfl)))
    have ne78 : b14 ≠ ho62 := Nat.ne_of_lt (Nat.lt_of_lt_of_le f53.lt (NW62 _ (List.mem_of_getElem? (i := 1) rfl)))
    have ne79 : dc ≠ ho62 := Nat.ne_of_lt (Nat.lt_of_lt_of_le f55.lt (NW62 _ (List.mem_of_getElem? (i := 1) rfl)))
    have ne80 : sa ≠ ho62 := Nat.ne_of_lt (Nat.lt_of_lt_of_le f56.lt (NW62 _ (List.mem_of_getElem? (i := 1) rfl)))
    have ne81 : b48 ≠ ho62 := Nat.ne_of_lt (Nat.lt_of_lt_of_le f61.lt (NW62 _ (List.mem_of_getElem? (i := 1) rfl)))
    have ne82 : b14 ≠ no62 := Nat.ne_of_lt (Nat.lt_of_lt_of_le f53.lt (NW62 _ (List.mem_of_getElem? (i := 2) rfl)))
    have ne83 : dc ≠ no62 := Nat.ne_of_lt (Nat.lt_of_lt_of_le f55.lt (NW62 _ (List.mem_of_getElem? (i := 2) rfl)))
    have ne84 : sa ≠ no62 := Nat.ne_of_lt (Nat.lt_of_lt_of_le f56.lt (NW62 _ (List.mem_of_getElem? (i := 2) rfl)))
    have ne85 : b48 ≠ no62 := Nat.ne_of_lt (Nat.lt_of_lt_of_le f61.lt (NW62 _ (List.mem_of_getElem? (i := 2) rfl)))
    have ne86 : b14 ≠ nw62 := Nat.ne_of_lt (Nat.lt_of_lt_of_le f53.lt (NW62 _ (List.mem_of_getElem? (i := 3) rfl)))
    have ne87 : dc ≠ nw62 := Nat.ne_of_lt (Nat.lt_of_lt_of_le f55.lt (NW62 _ (List.mem_of_getElem? (i := 3) rfl)))
    have ne88 : sa ≠ nw62 := Nat.ne_of_lt (Nat.lt_of_lt_of_le f56.lt (NW62 _ (List.mem_of_getElem? (i := 3) rfl)))
    have ne89 : b48 ≠ nw62 := Nat.ne_of_lt (Nat.lt_of_lt_of_le f61.lt (NW62 _ (List.mem_of_getElem? (i := 3) rfl)))
    have ne90 : b14 ≠ nd62 := Nat.ne_of_lt (Nat.lt_of_lt_of_le f53.lt (NW62 _ (List.mem_of_getElem? (i := 4) rfl)))
    have ne91 : dc ≠ nd62 := Nat.ne_of_lt (Nat.lt_of_lt_of_le f55.lt (NW62 _ (List.mem_of_getElem? (i := 4) rfl)))
    have ne92 : sa ≠ nd62 := Nat.ne_of_lt (Nat.lt_of_lt_of_le f56.lt (NW62 _ (List.mem_of_getElem? (i := 4) rfl)))
    have ne93 : b48 ≠ nd62 := Nat.ne_of_lt (Nat.lt_of_lt_of_le f61.lt (NW62 _ (List.mem_of_getElem? (i := 4) rfl)))
    have ne94 : b14 ≠ de62 := Nat.ne_of_lt (Nat.lt_of_lt_of_le f53.lt (NW62 _ (List.mem_of_getElem? (i := 5) rfl)))
    have ne95 : dc ≠ de62 := Nat.ne_of_lt (Nat.lt_of_lt_of_le f55.lt (NW62 _ (List.mem_of_getElem? (i := 5) rfl)))
    have ne96 : sa ≠ de62 := Nat.ne_of_lt (Nat.lt_of_lt_of_le f56.lt (NW62 _ (List.mem_of_getElem? (i := 5) rfl)))
    have ne97 : b48 ≠ de62 := Nat.ne_of_lt (Nat.lt_of_lt_of_le f61.lt (NW62 _ (List.mem_of_getElem? (i := 5) rfl)))
    have ne98 : b14 ≠ dw62 := Nat.ne_of_lt (Nat.lt_of_lt_of_le f53.lt (NW62 _ (List.mem_of_getElem? (i := 6) rfl)))
    have ne99 : dc ≠ dw62 := Nat.ne_of_lt (Nat.lt_of_lt_of_le f55.lt (NW62 _ (List.mem_of_getElem? (i := 6) rfl)))
    have ne100 : sa ≠ dw62 := Nat.ne_of_lt (Nat.lt_of_lt_of_le f56.lt (NW62 _ (List.mem_of_getElem? (i := 6) rfl)))
    have ne101 : b48 ≠ dw62 := Nat.ne_of_lt (Nat.lt_of_lt_of_le f61.lt (NW62 _ (List.mem_of_getElem? (i := 6) rfl)))
    have ne102 : b14 ≠ dd62 := Nat.ne_of_lt (Nat.lt_of_lt_of_le f53.lt (NW62 _ (List.mem_of_getElem? (i := 7) rfl)))
    have ne103 : dc ≠ dd62 := Nat.ne_of_lt (Nat.lt_of_lt_of_le f55.lt (NW62 _ (List.mem_of_getElem? (i := 7) rfl)))
    have ne104 : sa ≠ dd62 := Nat.ne_of_lt (Nat.lt_of_lt_of_le f56.lt (NW62 _ (List.mem_of_getElem? (i := 7) rfl)))
    have ne105 : b48 ≠ dd62 := Nat.ne_of_lt (Nat.lt_of_lt_of_le f61.lt (NW62 _ (List.mem_of_getElem? (i := 7) rfl)))
    have gho : n0 ≤ ho62 := Nat.le_trans Z48 (NW62 _ (List.mem_of_getElem? (i := 1) rfl))
    have hz6 := own_ofNat hN
    have hk1 := own_idx hN hN4 hi8 hl8 hi9 hl9
    have hk2 := own_idx hN hN4 hi10 hl10 hi11 hl11
    show own_Go _ _ _ _ (T62.setTop (mkF m 161 #[.val (.int p1), .val (.int p2), .val (.int p3), .val (.int p4), .val (.int p5), .val (.int p6), .val (.int v6_1), .val (.int v7_2), .val (.int v8_3), .val (.int v9_4), .val (.int v10_5), .val (.int v11_6), .val (.int v12_7), .val (.int v13_8), .val (.int v14_9), .val (.int v15_10), .val (.int v16_11), .val (.int v17_12), .val (.int v18_13), .val (.ref b14), .unset, .unset, .unset, .unset, .unset, .unset, .unset, .unset, .unset, .unset] [(.ref b48)]))
    refine own_by (fun _ k => XS.astore X62.here hx rfl (hb hby at_161) rfl rfl (l' := #[.val (.int p1), .val (.int p2), .val (.int p3), .val (.int p4), .val (.int p5), .val (.int p6), .val (.int v6_1), .val (.int v7_2), .val (.int v8_3), .val (.int v9_4), .val (.int v10_5), .val (.int v11_6), .val (.int v12_7), .val (.int v13_8), .val (.int v14_9), .val (.int v15_10), .val (.int v16_11), .val (.int v17_12), .val (.int v18_13), .val (.ref b14), .val (.ref b48), .unset, .unset, .unset, .unset, .unset, .unset, .unset, .unset, .unset]) rfl k) ?_
    refine own_by (fun _ k => XS.aload X62.here hx rfl (hb hby at_163) rfl rfl k) ?_
    refine own_by (fun _ k => XS.iload X62.here hx rfl (hb hby at_165) rfl k) ?_
    show own_Go _ _ _ _ (T62.setTop (mkF m 167 #[.val (.int p1), .val (.int p2), .val (.int p3), .val (.int p4), .val (.int p5), .val (.int p6), .val (.int v6_1), .val (.int v7_2), .val (.int v8_3), .val (.int v9_4), .val (.int v10_5), .val (.int v11_6), .val (.int v12_7), .val (.int v13_8), .val (.int v14_9), .val (.int v15_10), .val (.int v16_11), .val (.int v17_12), .val (.int v18_13), .val (.ref b14), .val (.ref b48), .unset, .unset, .unset, .unset, .unset, .unset, .unset, .unset, .unset] [(.int v12_7), (.ref b48)]))
    refine own_by (fun _ k => XS.iload X62.here hx rfl (hb hby at_167) rfl k) ?_
    refine own_by (fun _ k => XS.iload X62.here hx rfl (hb hby at_169) rfl k) ?_
    show own_Go _ _ _ _ (T62.setTop (mkF m 171 #[.val (.int p1), .val (.int p2), .val (.int p3), .val (.int p4), .val (.int p5), .val (.int p6), .val (.int v6_1), .val (.int v7_2), .val (.int v8_3), .val (.int v9_4), .val (.int v10_5), .val (.int v11_6), .val (.int v12_7), .val (.int v13_8), .val (.int v14_9), .val (.int v15_10), .val (.int v16_11), .val (.int v17_12), .val (.int v18_13), .val (.ref b14), .val (.ref b48), .unset, .unset, .unset, .unset, .unset, .unset, .unset, .unset, .unset] [(.int v9_4), (.int v8_3), (.int v12_7), (.ref b48)]))
    refine own_callV X62 hx hZ hown (hw _ (List.mem_of_getElem? (i := 109) rfl)) (hw _ (List.mem_of_getElem? (i := 110) rfl)) (notFace_of_selects (args := #[]) (mvT hZ (hw _ (List.mem_of_getElem? (i := 112) rfl)))) (hw _ (List.mem_of_getElem? (i := 112) rfl)) (hw _ (List.mem_of_getElem? (i := 111) rfl)) (hw _ (List.mem_of_getElem? (i := 3) rfl)) (hw _ (List.mem_of_getElem? (i := 113) rfl)) (by decide) (rm15_n l Z a0 hw [] b48 v12_7 v8_3 v9_4 an62 ho62 de62 dw62 dd62 N (N * N) v6_1 fa62 (fun _ => .null) (fun _ => false) x12 (i8 * N + i9) h62 n0 Z62 f68 FA62 FH62 FD62 RA62 RH62 BD62 gho (allS (P := fun x => ∀ y ∈ [ho62, b48], x ≠ y) (allS (P := fun y => de62 ≠ y) (D262 _ (List.mem_of_getElem? (i := 0) rfl) _ (List.mem_of_getElem? (i := 0) rfl)) (allS (P := fun y => de62 ≠ y) (Ne.symm ne97) all0)) (allS (P := fun x => ∀ y ∈ [ho62, b48], x ≠ y) (allS (P := fun y => dw62 ≠ y) (D262 _ (List.mem_of_getElem? (i := 1) rfl) _ (List.mem_of_getElem? (i := 0) rfl)) (allS (P := fun y => dw62 ≠ y) (Ne.symm ne101) all0)) (allS (P := fun x => ∀ y ∈ [ho62, b48], x ≠ y) (allS (P := fun y => dd62 ≠ y) (D262 _ (List.mem_of_getElem? (i := 2) rfl) _ (List.mem_of_getElem? (i := 0) rfl)) (allS (P := fun y => dd62 ≠ y) (Ne.symm ne105) all0)) all0))) (Ne.symm ne81) hx12 hm12 hz6 hk1.1 hk1.2 rfl) e62 b48 f68 (by rw [hml]; rfl) [(.int v12_7), (.int v8_3), (.int v9_4)] [] rfl (lenOf own_pd11 rfl) rfl 0 (Nat.le_of_eq rfl) (by decide) (by decide) (Nat.le_of_ble_eq_true rfl) (Nat.le_of_ble_eq_true rfl) (hb hby at_171) ?_
    intro T106 Lc106 v106 X106 hQ106
    obtain ⟨h106, e106⟩ : ∃ h, T106.heap = h := ⟨_, rfl⟩
    rw [e106] at hQ106
    obtain ⟨rfl, N106q, K106, bn106, wn106, dn106, dv106, du106, BB106, BE106, RH106, NW106, DJ106, ow106, od106⟩ := hQ106
    have N106 := Fr.app N62 N106q
    have f107 := f64.keep K106 (ninS ne78 (ninS ne94 (ninS ne98 (ninS ne102 nin0))))
    have f108 := f68.keep K106
    have f109 := FA62.keep K106 (ninS ne81 (ninS ne97 (ninS ne101 (ninS ne105 nin0))))
    have f110 := FH62.keep K106 (ninS ne81 (ninS ne97 (ninS ne101 (ninS ne105 nin0))))
    have f111 := FN62.keep K106 (ninS ne81 (ninS ne97 (ninS ne101 (ninS ne105 nin0))))
    have f112 := FD62.keep K106 (ninS ne81 (ninS ne97 (ninS ne101 (ninS ne105 nin0))))
    have f113 := RA62.keep K106 (ninS (D362 _ (List.mem_of_getElem? (i := 0) rfl) _ (List.mem_of_getElem? (i := 0) rfl)) (ninS (D362 _ (List.mem_of_getElem? (i := 0) rfl) _ (List.mem_of_getElem? (i := 1) rfl)) (ninS (D362 _ (List.mem_of_getElem? (i := 0) rfl) _ (List.mem_of_getElem? (i := 2) rfl)) (ninS (D362 _ (List.mem_of_getElem? (i := 0) rfl) _ (List.mem_of_getElem? (i := 3) rfl)) nin0))))
    have f115 := BN62.keep K106 (ninS (D162 _ (List.mem_of_getElem? (i := 0) rfl) _ (List.mem_of_getElem? (i := 3) rfl)) (ninS (D162 _ (List.mem_of_getElem? (i := 0) rfl) _ (List.mem_of_getElem? (i := 0) rfl)) (ninS (D162 _ (List.mem_of_getElem? (i := 0) rfl) _ (List.mem_of_getElem? (i := 1) rfl)) (ninS (D162 _ (List.mem_of_getElem? (i := 0) rfl) _ (List.mem_of_getElem? (i := 2) rfl)) nin0)))) (ninS (D162 _ (List.mem_of_getElem? (i := 1) rfl) _ (List.mem_of_getElem? (i := 3) rfl)) (ninS (D162 _ (List.mem_of_getElem? (i := 1) rfl) _ (List.mem_of_getElem? (i := 0) rfl)) (ninS (D162 _ (List.mem_of_getElem? (i := 1) rfl) _ (List.mem_of_getElem? (i := 1) rfl)) (ninS (D162 _ (List.mem_of_getElem? (i := 1) rfl) _ (List.mem_of_getElem? (i := 2) rfl)) nin0)))) (ninS (D162 _ (List.mem_of_getElem? (i := 2) rfl) _ (List.mem_of_getElem? (i := 3) rfl)) (ninS (D162 _ (List.mem_of_getElem? (i := 2) rfl) _ (List.mem_of_getElem? (i := 0) rfl)) (ninS (D162 _ (List.mem_of_getElem? (i := 2) rfl) _ (List.mem_of_getElem? (i := 1) rfl)) (ninS (D162 _ (List.mem_of_getElem? (i := 2) rfl) _ (List.mem_of_getElem? (i := 2) rfl)) nin0))))
    have f117 := BN62.exa.keep K106
    have Z106 := Nat.le_trans Z62 K106.1
    have ne118 : b14 ≠ bn106 := Nat.ne_of_lt (Nat.lt_of_lt_of_le f64.lt (NW106 _ (List.mem_of_getElem? (i := 0) rfl)))
    have ne119 : b48 ≠ bn106 := Nat.ne_of_lt (Nat.lt_of_lt_of_le FD62.lt (NW106 _ (List.mem_of_getElem? (i := 0) rfl)))
    have ne120 : an62 ≠ bn106 := Nat.ne_of_lt (Nat.lt_of_lt_of_le RA62.lt (NW106 _ (List.mem_of_getElem? (i := 0) rfl)))
    have ne121 : ho62 ≠ bn106 := Nat.ne_of_lt (Nat.lt_of_lt_of_le RH62.lt (NW106 _ (List.mem_of_getElem? (i := 0) rfl)))
    have ne122 : no62 ≠ bn106 := Nat.ne_of_lt (Nat.lt_of_lt_of_le BN62.exa.lt (NW106 _ (List.mem_of_getElem? (i := 0) rfl)))
    have ne123 : nw62 ≠ bn106 := Nat.ne_of_lt (Nat.lt_of_lt_of_le BN62.lw (NW106 _ (List.mem_of_getElem? (i := 0) rfl)))
    have ne124 : nd62 ≠ bn106 := Nat.ne_of_lt (Nat.lt_of_lt_of_le BN62.ld (NW106 _ (List.mem_of_getElem? (i := 0) rfl)))
    have ne125 : de62 ≠ bn106 := Nat.ne_of_lt (Nat.lt_of_lt_of_le BD62.lb (NW106 _ (List.mem_of_getElem? (i := 0) rfl)))
    have ne126 : dw62 ≠ bn106 := Nat.ne_of_lt (Nat.lt_of_lt_of_le BD62.lw (NW106 _ (List.mem_of_getElem? (i := 0) rfl)))
    have ne127 : dd62 ≠ bn106 := Nat.ne_of_lt (Nat.lt_of_lt_of_le BD62.ld (NW106 _ (List.mem_of_getElem? (i := 0) rfl)))
    have ne128 : b14 ≠ wn106 := Nat.ne_of_lt (Nat.lt_of_lt_of_le f64.lt (NW106 _ (List.mem_of_getElem? (i := 1) rfl)))
    have ne129 : b48 ≠ wn106 := Nat.ne_of_lt (Nat.lt_of_lt_of_le FD62.lt (NW106 _ (List.mem_of_getElem? (i := 1) rfl)))
    have ne130 : an62 ≠ wn106 := Nat.ne_of_lt (Nat.lt_of_lt_of_le RA62.lt (NW106 _ (List.mem_of_getElem? (i := 1) rfl)))
    have ne131 : ho62 ≠ wn106 := Nat.ne_of_lt (Nat.lt_of_lt_of_le RH62.lt (NW106 _ (List.mem_of_getElem? (i := 1) rfl)))
    have ne132 : no62 ≠ wn106 := Nat.ne_of_lt (Nat.lt_of_lt_of_le BN62.exa.lt (NW106 _ (List.mem_of_getElem? (i := 1) rfl)))
    have ne133 : nw62 ≠ wn106 := Nat.ne_of_lt (Nat.lt_of_lt_of_le BN62.lw (NW106 _ (List.mem_of_getElem? (i := 1) rfl)))
    have ne134 : nd62 ≠ wn106 := Nat.ne_of_lt (Nat.lt_of_lt_of_le BN62.ld (NW106 _ (List.mem_of_getElem? (i := 1) rfl)))
    have ne135 : de62 ≠ wn106 := Nat.ne_of_lt (Nat.lt_of_lt_of_le BD62.lb (NW106 _ (List.mem_of_getElem? (i := 1) rfl)))
    have ne136 : dw62 ≠ wn106 := Nat.ne_of_lt (Nat.lt_of_lt_of_le BD62.lw (NW106 _ (List.mem_of_getElem? (i := 1) rfl)))
    have ne137 : dd62 ≠ wn106 := Nat.ne_of_lt (Nat.lt_of_lt_of_le BD62.ld (NW106 _ (List.mem_of_getElem? (i := 1) rfl)))
    have ne138 : b14 ≠ dn106 := Nat.ne_of_lt (Nat.lt_of_lt_of_le f64.lt (NW106 _ (List.mem_of_getElem? (i := 2) rfl)))
    have ne139 : b48 ≠ dn106 := Nat.ne_of_lt (Nat.lt_of_lt_of_le FD62.lt (NW106 _ (List.mem_of_getElem? (i := 2) rfl)))
    have ne140 : an62 ≠ dn106 := Nat.ne_of_lt (Nat.lt_of_lt_of_le RA62.lt (NW106 _ (List.mem_of_getElem? (i := 2) rfl)))
    have ne141 : ho62 ≠ dn106 := Nat.ne_of_lt (Nat.lt_of_lt_of_le RH62.lt (NW106 _ (List.mem_of_getElem? (i := 2) rfl)))
    have ne142 : no62 ≠ dn106 := Nat.ne_of_lt (Nat.lt_of_lt_of_le BN62.exa.lt (NW106 _ (List.mem_of_getElem? (i := 2) rfl)))
    have ne143 : nw62 ≠ dn106 := Nat.ne_of_lt (Nat.lt_of_lt_of_le BN62.lw (NW106 _ (List.mem_of_getElem? (i := 2) rfl)))
    have ne144 : nd62 ≠ dn106 := Nat.ne_of_lt (Nat.lt_of_lt_of_le BN62.ld (NW106 _ (List.mem_of_getElem? (i := 2) rfl)))
    have ne145 : de62 ≠ dn106 := Nat.ne_of_lt (Nat.lt_of_lt_of_le BD62.lb (NW106 _ (List.mem_of_getElem? (i := 2) rfl)))
    have ne146 : dw62 ≠ dn106 := Nat.ne_of_lt (Nat.lt_of_lt_of_le BD62.lw (NW106 _ (List.mem_of_getElem? (i := 2) rfl)))
    have ne147 : dd62 ≠ dn106 := Nat.ne_of_lt (Nat.lt_of_lt_of_le BD62.ld (NW106 _ (List.mem_of_getElem? (i := 2) rfl)))
    have ne148 : b14 ≠ dv106 := own_neor ow106 ne98 f64.lt
    have ne149 : b48 ≠ dv106 := own_neor ow106 ne101 FD62.lt
    have ne150 : an62 ≠ dv106 := own_neor ow106 (D362 _ (List.mem_of_getElem? (i := 0) rfl) _ (List.mem_of_getElem? (i := 2) rfl)) RA62.lt
    have ne151 : ho62 ≠ dv106 := own_neor ow106 (Ne.symm (D262 _ (List.mem_of_getElem? (i := 1) rfl) _ (List.mem_of_getElem? (i := 0) rfl))) RH62.lt
    have ne152 : no62 ≠ dv106 := own_neor ow106 (D162 _ (List.mem_of_getElem? (i := 0) rfl) _ (List.mem_of_getElem? (i := 1) rfl)) BN62.exa.lt
    have ne153 : nw62 ≠ dv106 := own_neor ow106 (D162 _ (List.mem_of_getElem? (i := 1) rfl) _ (List.mem_of_getElem? (i := 1) rfl)) BN62.lw
    have ne154 : nd62 ≠ dv106 := own_neor ow106 (D162 _ (List.mem_of_getElem? (i := 2) rfl) _ (List.mem_of_getElem? (i := 1) rfl)) BN62.ld
    have ne155 : b14 ≠ du106 := own_neor od106 ne102 f64.lt
    have ne156 : b48 ≠ du106 := own_neor od106 ne105 FD62.lt
    have ne157 : an62 ≠ du106 := own_neor od106 (D362 _ (List.mem_of_getElem? (i := 0) rfl) _ (List.mem_of_getElem? (i := 3) rfl)) RA62.lt
    have ne158 : ho62 ≠ du106 := own_neor od106 (Ne.symm (D262 _ (List.mem_of_getElem? (i := 2) rfl) _ (List.mem_of_getElem? (i := 0) rfl))) RH62.lt
    have ne159 : no62 ≠ du106 := own_neor od106 (D162 _ (List.mem_of_getElem? (i := 0) rfl) _ (List.mem_of_getElem? (i := 2) rfl)) BN62.exa.lt
    have ne160 : nw62 ≠ du106 := own_neor od106 (D162 _ (List.mem_of_getElem? (i := 1) rfl) _ (List.mem_of_getElem? (i := 2) rfl)) BN62.lw
    have ne161 : nd62 ≠ du106 := own_neor od106 (D162 _ (List.mem_of_getElem? (i := 2) rfl) _ (List.mem_of_getElem? (i := 2) rfl)) BN62.ld
    obtain ⟨F106, hF106⟩ : ∃ gf_ : Nat → Value, gf_ = own_upd (fun _ => .null) (i8 * N + i9) (.ref bn106) := ⟨_, rfl⟩
    rw [← hF106] at RH106
    show own_Go _ _ _ _ (T106.setTop (mkF m 174 #[.val (.int p1), .val (.int p2), .val (.int p3), .val (.int p4), .val (.int p5), .val (.int p6), .val (.int v6_1), .val (.int v7_2), .val (.int v8_3), .val (.int v9_4), .val (.int v10_5), .val (.int v11_6), .val (.int v12_7), .val (.int v13_8), .val (.int v14_9), .val (.int v15_10), .val (.int v16_11), .val (.int v17_12), .val (.int v18_13), .val (.ref b14), .val (.ref b48), .unset, .unset, .unset, .unset, .unset, .unset, .unset, .unset, .unset] []))
    refine own_by (fun _ k => XS.aload X106.here hx rfl (hb hby at_174) rfl rfl k) ?_
    refine own_by (fun _ k => XS.iload X106.here hx rfl (hb hby at_176) rfl k) ?_
    refine own_by (fun _ k => XS.iload X106.here hx rfl (hb hby at_178) rfl k) ?_
    show own_Go _ _ _ _ (T106.setTop (mkF m 180 #[.val (.int p1), .val (.int p2), .val (.int p3), .val (.int p4), .val (.int p5), .val (.int p6), .val (.int v6_1), .val (.int v7_2), .val (.int v8_3), .val (.int v9_4), .val (.int v10_5), .val (.int v11_6), .val (.int v12_7), .val (.int v13_8), .val (.int v14_9), .val (.int v15_10), .val (.int v16_11), .val (.int v17_12), .val (.int v18_13), .val (.ref b14), .val (.ref b48), .unset, .unset, .unset, .unset, .unset, .unset, .unset, .unset, .unset] [(.int v10_5), (.int v13_8), (.ref b48)]))
    refine own_by (fun _ k => XS.iload X106.here hx rfl (hb hby at_180) rfl k) ?_
    by_cases hk12 : (i10 * N + i11) = (i8 * N + i9)
    · --
      show own_Go _ _ _ _ (T106.setTop (mkF m 182 #[.val (.int p1), .val (.int p2), .val (.int p3), .val (.int p4), .val (.int p5), .val (.int p6), .val (.int v6_1), .val (.int v7_2), .val (.int v8_3), .val (.int v9_4), .val (.int v10_5), .val (.int v11_6), .val (.int v12_7), .val (.int v13_8), .val (.int v14_9), .val (.int v15_10), .val (.int v16_11), .val (.int v17_12), .val (.int v18_13), .val (.ref b14), .val (.ref b48), .unset, .unset, .unset, .unset, .unset, .unset, .unset, .unset, .unset] [(.int v11_6), (.int v10_5), (.int v13_8), (.ref b48)]))
      refine own_callV X106 hx hZ hown (hw _ (List.mem_of_getElem? (i := 109) rfl)) (hw _ (List.mem_of_getElem? (i := 110) rfl)) (notFace_of_selects (args := #[]) (mvT hZ (hw _ (List.mem_of_getElem? (i := 112) rfl)))) (hw _ (List.mem_of_getElem? (i := 112) rfl)) (hw _ (List.mem_of_getElem? (i := 111) rfl)) (hw _ (List.mem_of_getElem? (i := 3) rfl)) (hw _ (List.mem_of_getElem? (i := 113) rfl)) (by decide) (rm15_r l Z a0 hw [] b48 v13_8 v10_5 v11_6 an62 ho62 de62 dv106 du106 N (N * N) v6_1 fa62 F106 (fun y => (fun _ => false) y || decide (y = x12)) x13 (i10 * N + i11) bn106 wn106 dn106 (fun y => (fun _ => false) y || decide (y = x12)) h106 n0 Z106 f108 f109 f110 f112 f113 RH106 BE106 gho (allS (P := fun x => ∀ y ∈ [ho62, b48], x ≠ y) (allS (P := fun y => de62 ≠ y) (D262 _ (List.mem_of_getElem? (i := 0) rfl) _ (List.mem_of_getElem? (i := 0) rfl)) (allS (P := fun y => de62 ≠ y) (Ne.symm ne97) all0)) (allS (P := fun x => ∀ y ∈ [ho62, b48], x ≠ y) (allS (P := fun y => dv106 ≠ y) (Ne.symm ne151) (allS (P := fun y => dv106 ≠ y) (Ne.symm ne149) all0)) (allS (P := fun x => ∀ y ∈ [ho62, b48], x ≠ y) (allS (P := fun y => du106 ≠ y) (Ne.symm ne158) (allS (P := fun y => du106 ≠ y) (Ne.symm ne156) all0)) all0))) (Ne.symm ne81) hx13 hm13 hz6 hk2.1 hk2.2 (by rw [hF106, hk12]; exact own_upd_eq _ _ _) BB106 (allS (P := fun x => ∀ y ∈ [de62, dv106, du106, ho62, b48], x ≠ y) (allS (P := fun y => bn106 ≠ y) (DJ106 _ (List.mem_of_getElem? (i := 0) rfl) _ (List.mem_of_getElem? (i := 0) rfl)) (allS (P := fun y => bn106 ≠ y) (DJ106 _ (List.mem_of_getElem? (i := 0) rfl) _ (List.mem_of_getElem? (i := 1) rfl)) (allS (P := fun y => bn106 ≠ y) (DJ106 _ (List.mem_of_getElem? (i := 0) rfl) _ (List.mem_of_getElem? (i := 2) rfl)) (allS (P := fun y => bn106 ≠ y) (Ne.symm ne121) (allS (P := fun y => bn106 ≠ y) (Ne.symm ne119) all0))))) (allS (P := fun x => ∀ y ∈ [de62, dv106, du106, ho62, b48], x ≠ y) (allS (P := fun y => wn106 ≠ y) (DJ106 _ (List.mem_of_getElem? (i := 1) rfl) _ (List.mem_of_getElem? (i := 0) rfl)) (allS (P := fun y => wn106 ≠ y) (DJ106 _ (List.mem_of_getElem? (i := 1) rfl) _ (List.mem_of_getElem? (i := 1) rfl)) (allS (P := fun y => wn106 ≠ y) (DJ106 _ (List.mem_of_getElem? (i := 1) rfl) _ (List.mem_of_getElem? (i := 2) rfl)) (allS (P := fun y => wn106 ≠ y) (Ne.symm ne131) (allS (P := fun y => wn106 ≠ y) (Ne.symm ne129) all0))))) (allS (P := fun x => ∀ y ∈ [de62, dv106, du106, ho62, b48], x ≠ y) (allS (P := fun y => dn106 ≠ y) (DJ106 _ (List.mem_of_getElem? (i := 2) rfl) _ (List.mem_of_getElem? (i := 0) rfl)) (allS (P := fun y => dn106 ≠ y) (DJ106 _ (List.mem_of_getElem? (i := 2) rfl) _ (List.mem_of_getElem? (i := 1) rfl)) (allS (P := fun y => dn106 ≠ y) (DJ106 _ (List.mem_of_getElem? (i := 2) rfl) _ (List.mem_of_getElem? (i := 2) rfl)) (allS (P := fun y => dn106 ≠ y) (Ne.symm ne141) (allS (P := fun y => dn106 ≠ y) (Ne.symm ne139) all0))))) all0)))) e106 b48 f108 (by rw [hml]; rfl) [(.int v13_8), (.int v10_5), (.int v11_6)] [] rfl (lenOf own_pd11 rfl) rfl 0 (Nat.le_of_eq rfl) (by decide) (by decide) (Nat.le_of_ble_eq_true rfl) (Nat.le_of_ble_eq_true rfl) (hb hby at_182) ?_
      intro T162 Lc162 v162 X162 hQ162
      obtain ⟨h162, e162⟩ : ∃ h, T162.heap = h := ⟨_, rfl⟩
      rw [e162] at hQ162
      obtain ⟨rfl, N162q, K162, wn162, dn162, dv162, du162, BB162, BE162, DJ162, oa162, ob162, ow162, od162⟩ := hQ162
      have N162 := Fr.app N106 N162q
      have f163 := f107.keep K162 (ninS ne118 (ninS ne128 (ninS ne138 (ninS ne94 (ninS ne148 (ninS ne155 nin0))))))
      have f164 := f108.keep K162
      have f165 := f109.keep K162 (ninS ne119 (ninS ne129 (ninS ne139 (ninS ne97 (ninS ne149 (ninS ne156 nin0))))))
      have f166 := f110.keep K162 (ninS ne119 (ninS ne129 (ninS ne139 (ninS ne97 (ninS ne149 (ninS ne156 nin0))))))
      have f167 := f111.keep K162 (ninS ne119 (ninS ne129 (ninS ne139 (ninS ne97 (ninS ne149 (ninS ne156 nin0))))))
      have f168 := f112.keep K162 (ninS ne119 (ninS ne129 (ninS ne139 (ninS ne97 (ninS ne149 (ninS ne156 nin0))))))
      have f169 := f113.keep K162 (ninS ne120 (ninS ne130 (ninS ne140 (ninS (D362 _ (List.mem_of_getElem? (i := 0) rfl) _ (List.mem_of_getElem? (i := 1) rfl)) (ninS ne150 (ninS ne157 nin0))))))
      have f170 := f115.keep K162 (ninS ne122 (ninS ne132 (ninS ne142 (ninS (D162 _ (List.mem_of_getElem? (i := 0) rfl) _ (List.mem_of_getElem? (i := 0) rfl)) (ninS ne152 (ninS ne159 nin0)))))) (ninS ne123 (ninS ne133 (ninS ne143 (ninS (D162 _ (List.mem_of_getElem? (i := 1) rfl) _ (List.mem_of_getElem? (i := 0) rfl)) (ninS ne153 (ninS ne160 nin0)))))) (ninS ne124 (ninS ne134 (ninS ne144 (ninS (D162 _ (List.mem_of_getElem? (i := 2) rfl) _ (List.mem_of_getElem? (i := 0) rfl)) (ninS ne154 (ninS ne161 nin0))))))
      have f171 := f117.keep K162
      have f174 := RH106.keep K162 (ninS ne121 (ninS ne131 (ninS ne141 (ninS (Ne.symm (D262 _ (List.mem_of_getElem? (i := 0) rfl) _ (List.mem_of_getElem? (i := 0) rfl))) (ninS ne151 (ninS ne158 nin0))))))
      have f175 := BB106.exa.keep K162
      have Z162 := Nat.le_trans Z106 K162.1
      have ne176 : b14 ≠ wn162 := own_neor oa162 ne128 f107.lt
      have ne177 : b48 ≠ wn162 := own_neor oa162 ne129 f112.lt
      have ne178 : an62 ≠ wn162 := own_neor oa162 ne130 f113.lt
      have ne179 : no62 ≠ wn162 := own_neor oa162 ne132 f117.lt
      have ne180 : nw62 ≠ wn162 := own_neor oa162 ne133 f115.lw
      have ne181 : nd62 ≠ wn162 := own_neor oa162 ne134 f115.ld
      have ne182 : ho62 ≠ wn162 := own_neor oa162 ne131 RH106.lt
      have ne183 : b14 ≠ dn162 := own_neor ob162 ne138 f107.lt
      have ne184 : b48 ≠ dn162 := own_neor ob162 ne139 f112.lt
      have ne185 : an62 ≠ dn162 := own_neor ob162 ne140 f113.lt
      have ne186 : no62 ≠ dn162 := own_neor ob162 ne142 f117.lt
      have ne187 : nw62 ≠ dn162 := own_neor ob162 ne143 f115.lw
      have ne188 : nd62 ≠ dn162 := own_neor ob162 ne144 f115.ld
      have ne189 : ho62 ≠ dn162 := own_neor ob162 ne141 RH106.lt
      have ne190 : b14 ≠ dv162 := own_neor ow162 ne148 f107.lt
      have ne191 : b48 ≠ dv162 := own_neor ow162 ne149 f112.lt
      have ne192 : an62 ≠ dv162 := own_neor ow162 ne150 f113.lt
      have ne193 : no62 ≠ dv162 := own_neor ow162 ne152 f117.lt
      have ne194 : nw62 ≠ dv162 := own_neor ow162 ne153 f115.lw
      have ne195 : nd62 ≠ dv162 := own_neor ow162 ne154 f115.ld
      have ne196 : ho62 ≠ dv162 := own_neor ow162 ne151 RH106.lt
      have ne197 : b14 ≠ du162 := own_neor od162 ne155 f107.lt
      have ne198 : b48 ≠ du162 := own_neor od162 ne156 f112.lt
      have ne199 : an62 ≠ du162 := own_neor od162 ne157 f113.lt
      have ne200 : no62 ≠ du162 := own_neor od162 ne159 f117.lt
      have ne201 : nw62 ≠ du162 := own_neor od162 ne160 f115.lw
      have ne202 : nd62 ≠ du162 := own_neor od162 ne161 f115.ld
      have ne203 : ho62 ≠ du162 := own_neor od162 ne158 RH106.lt
      show own_Go _ _ _ _ (T162.setTop (mkF m 185 #[.val (.int p1), .val (.int p2), .val (.int p3), .val (.int p4), .val (.int p5), .val (.int p6), .val (.int v6_1), .val (.int v7_2), .val (.int v8_3), .val (.int v9_4), .val (.int v10_5), .val (.int v11_6), .val (.int v12_7), .val (.int v13_8), .val (.int v14_9), .val (.int v15_10), .val (.int v16_11), .val (.int v17_12), .val (.int v18_13), .val (.ref b14), .val (.ref b48), .unset, .unset, .unset, .unset, .unset, .unset, .unset, .unset, .unset] []))
      refine own_by (fun _ k => XS.aload X162.here hx rfl (hb hby at_185) rfl rfl k) ?_
      refine own_by (fun _ k => XS.aload X162.here hx rfl (hb hby at_187) rfl rfl k) ?_
      refine own_by (fun _ k => XS.iload X162.here hx rfl (hb hby at_189) rfl k) ?_
      by_cases hin : (v15_10 + (1 : Int32)) < v7_2
      · --
        have hkl : kf + 1 < ln := own_ltn hin hln hkf1
        obtain ⟨i3, hi3, hl3⟩ := bdA kf
        obtain ⟨j3, hj3, hq3⟩ := bdA (kf + 1)
        have hk3 := own_idx hN hN4 hi3 hl3 hj3 hq3
        by_cases hk31 : i3 * N + j3 = (i8 * N + i9)
        · --
          show own_Go _ _ _ _ (T162.setTop (mkF m 191 #[.val (.int p1), .val (.int p2), .val (.int p3), .val (.int p4), .val (.int p5), .val (.int p6), .val (.int v6_1), .val (.int v7_2), .val (.int v8_3), .val (.int v9_4), .val (.int v10_5), .val (.int v11_6), .val (.int v12_7), .val (.int v13_8), .val (.int v14_9), .val (.int v15_10), .val (.int v16_11), .val (.int v17_12), .val (.int v18_13), .val (.ref b14), .val (.ref b48), .unset, .unset, .unset, .unset, .unset, .unset, .unset, .unset, .unset] [(.int v15_10), (.ref b14), (.ref b48)]))
          refine own_callV X162 hx hZ hown (hw _ (List.mem_of_getElem? (i := 123) rfl)) (hw _ (List.mem_of_getElem? (i := 124) rfl)) (notFace_of_selects (args := #[]) (mvT hZ (hw _ (List.mem_of_getElem? (i := 126) rfl)))) (hw _ (List.mem_of_getElem? (i := 126) rfl)) (hw _ (List.mem_of_getElem? (i := 125) rfl)) (hw _ (List.mem_of_getElem? (i := 3) rfl)) (hw _ (List.mem_of_getElem? (i := 127) rfl)) (by decide) (rm18_r l Z a0 hw [] b48 b14 v15_10 no62 an62 ho62 bn106 ln N (N * N) v7_2 v6_1 fA fa62 F106 kf (i3 * N + j3) h162 n0 Z162 f167 f163 (own_ofNat hln) hin f165 f166 f169 f174 hkf hkf1 hkl hz6 hk3.1 hk3.2 (by rw [hF106, hk31]; exact own_upd_eq _ _ _)) e162 b48 f164 (by rw [hml]; rfl) [(.ref b14), (.int v15_10)] [] rfl (lenOf own_pd12 rfl) rfl 0 (Nat.le_of_eq rfl) (by decide) (by decide) (Nat.le_of_ble_eq_true rfl) (Nat.le_of_ble_eq_true rfl) (hb hby at_191) ?_
          intro T204 Lc204 v204 X204 hQ204
          obtain ⟨rfl, N204q, e204⟩ := hQ204
          have N204 := Fr.app N162 N204q
          have rl1 : decide (i3 * N + j3 = (i8 * N + i9)) = true := decide_eq_true hk31
          have rl2 : decide (i3 * N + j3 = (i10 * N + i11)) = true := decide_eq_true (hk31.trans hk12.symm)
          show own_Go _ _ _ _ (T204.setTop (mkF m 194 #[.val (.int p1), .val (.int p2), .val (.int p3), .val (.int p4), .val (.int p5), .val (.int p6), .val (.int v6_1), .val (.int v7_2), .val (.int v8_3), .val (.int v9_4), .val (.int v10_5), .val (.int v11_6), .val (.int v12_7), .val (.int v13_8), .val (.int v14_9), .val (.int v15_10), .val (.int v16_11), .val (.int v17_12), .val (.int v18_13), .val (.ref b14), .val (.ref b48), .unset, .unset, .unset, .unset, .unset, .unset, .unset, .unset, .unset] [(.ref bn106)]))
          exact tailI _ _ _ _ _ wn162 dn162 (fun y => (fun y => (fun _ => false) y || decide (y = x12)) y || decide (y = x13)) fA i3 j3 X204 e204 N204 Z162 BB162 hin f163 hi3 hj3 hq3 hkl (fun x => by rw [rl1, rl2]; simp)
        · --
          show own_Go _ _ _ _ (T162.setTop (mkF m 191 #[.val (.int p1), .val (.int p2), .val (.int p3), .val (.int p4), .val (.int p5), .val (.int p6), .val (.int v6_1), .val (.int v7_2), .val (.int v8_3), .val (.int v9_4), .val (.int v10_5), .val (.int v11_6), .val (.int v12_7), .val (.int v13_8), .val (.int v14_9), .val (.int v15_10), .val (.int v16_11), .val (.int v17_12), .val (.int v18_13), .val (.ref b14), .val (.ref b48), .unset, .unset, .unset, .unset, .unset, .unset, .unset, .unset, .unset] [(.int v15_10), (.ref b14), (.ref b48)]))
          refine own_callV X162 hx hZ hown (hw _ (List.mem_of_getElem? (i := 123) rfl)) (hw _ (List.mem_of_getElem? (i := 124) rfl)) (notFace_of_selects (args := #[]) (mvT hZ (hw _ (List.mem_of_getElem? (i := 126) rfl)))) (hw _ (List.mem_of_getElem? (i := 126) rfl)) (hw _ (List.mem_of_getElem? (i := 125) rfl)) (hw _ (List.mem_of_getElem? (i := 3) rfl)) (hw _ (List.mem_of_getElem? (i := 127) rfl)) (by decide) (rm18_n l Z a0 hw [] b48 b14 v15_10 no62 an62 ho62 no62 ln N (N * N) v7_2 v6_1 fA fa62 F106 kf (i3 * N + j3) h162 n0 Z162 f167 f163 (own_ofNat hln) hin f165 f166 f169 f174 hkf hkf1 hkl hz6 hk3.1 hk3.2 (by rw [hF106, own_upd_ne _ _ hk31])) e162 b48 f164 (by rw [hml]; rfl) [(.ref b14), (.int v15_10)] [] rfl (lenOf own_pd12 rfl) rfl 0 (Nat.le_of_eq rfl) (by decide) (by decide) (Nat.le_of_ble_eq_true rfl) (Nat.le_of_ble_eq_true rfl) (hb hby at_191) ?_
          intro T205 Lc205 v205 X205 hQ205
          obtain ⟨rfl, N205q, e205⟩ := hQ205
          have N205 := Fr.app N162 N205q
          have rl1 : decide (i3 * N + j3 = (i8 * N + i9)) = false := decide_eq_false hk31
          have rl2 : decide (i3 * N + j3 = (i10 * N + i11)) = false := decide_eq_false (fun q => hk31 (q.trans hk12))
          show own_Go _ _ _ _ (T205.setTop (mkF m 194 #[.val (.int p1), .val (.int p2), .val (.int p3), .val (.int p4), .val (.int p5), .val (.int p6), .val (.int v6_1), .val (.int v7_2), .val (.int v8_3), .val (.int v9_4), .val (.int v10_5), .val (.int v11_6), .val (.int v12_7), .val (.int v13_8), .val (.int v14_9), .val (.int v15_10), .val (.int v16_11), .val (.int v17_12), .val (.int v18_13), .val (.ref b14), .val (.ref b48), .unset, .unset, .unset, .unset, .unset, .unset, .unset, .unset, .unset] [(.ref no62)]))
          exact tailI _ _ _ _ _ nw62 nd62 (fun _ => false) fA i3 j3 X205 e205 N205 Z162 f170 hin f163 hi3 hj3 hq3 hkl (fun x => by rw [rl1, rl2]; simp)
      · --
        show own_Go _ _ _ _ (T162.setTop (mkF m 191 #[.val (.int p1), .val (.int p2), .val (.int p3), .val (.int p4), .val (.int p5), .val (.int p6), .val (.int v6_1), .val (.int v7_2), .val (.int v8_3), .val (.int v9_4), .val (.int v10_5), .val (.int v11_6), .val (.int v12_7), .val (.int v13_8), .val (.int v14_9), .val (.int v15_10), .val (.int v16_11), .val (.int v17_12), .val (.int v18_13), .val (.ref b14), .val (.ref b48), .unset, .unset, .unset, .unset, .unset, .unset, .unset, .unset, .unset] [(.int v15_10), (.ref b14), (.ref b48)]))
        refine own_callV X162 hx hZ hown (hw _ (List.mem_of_getElem? (i := 123) rfl)) (hw _ (List.mem_of_getElem? (i := 124) rfl)) (notFace_of_selects (args := #[]) (mvT hZ (hw _ (List.mem_of_getElem? (i := 126) rfl)))) (hw _ (List.mem_of_getElem? (i := 126) rfl)) (hw _ (List.mem_of_getElem? (i := 125) rfl)) (hw _ (List.mem_of_getElem? (i := 3) rfl)) (hw _ (List.mem_of_getElem? (i := 127) rfl)) (by decide) (rm18_o l Z a0 hw [] b48 b14 v15_10 no62 ln v7_2 fA h162 n0 Z162 f167 f163 (own_ofNat hln) hin) e162 b48 f164 (by rw [hml]; rfl) [(.ref b14), (.int v15_10)] [] rfl (lenOf own_pd12 rfl) rfl 0 (Nat.le_of_eq rfl) (by decide) (by decide) (Nat.le_of_ble_eq_true rfl) (Nat.le_of_ble_eq_true rfl) (hb hby at_191) ?_
        intro T206 Lc206 v206 X206 hQ206
        obtain ⟨rfl, N206q, e206⟩ := hQ206
        have N206 := Fr.app N162 N206q
        show own_Go _ _ _ _ (T206.setTop (mkF m 194 #[.val (.int p1), .val (.int p2), .val (.int p3), .val (.int p4), .val (.int p5), .val (.int p6), .val (.int v6_1), .val (.int v7_2), .val (.int v8_3), .val (.int v9_4), .val (.int v10_5), .val (.int v11_6), .val (.int v12_7), .val (.int v13_8), .val (.int v14_9), .val (.int v15_10), .val (.int v16_11), .val (.int v17_12), .val (.int v18_13), .val (.ref b14), .val (.ref b48), .unset, .unset, .unset, .unset, .unset, .unset, .unset, .unset, .unset] [(.ref no62)]))
        exact tailO _ _ _ _ _ nw62 nd62 (fun _ => false) X206 e206 N206 Z162 f170 hin (fun x => rfl)
    · --
      show own_Go _ _ _ _ (T106.setTop (mkF m 182 #[.val (.int p1), .val (.int p2), .val (.int p3), .val (.int p4), .val (.int p5), .val (.int p6), .val (.int v6_1), .val (.int v7_2), .val (.int v8_3), .val (.int v9_4), .val (.int v10_5), .val (.int v11_6), .val (.int v12_7), .val (.int v13_8), .val (.int v14_9), .val (.int v15_10), .val (.int v16_11), .val (.int v17_12), .val (.int v18_13), .val (.ref b14), .val (.ref b48), .unset, .unset, .unset, .unset, .unset, .unset, .unset, .unset, .unset] [(.int v11_6), (.int v10_5), (.int v13_8), (.ref b48)]))
      refine own_callV X106 hx hZ hown (hw _ (List.mem_of_getElem? (i := 109) rfl)) (hw _ (List.mem_of_getElem? (i := 110) rfl)) (notFace_of_selects (args := #[]) (mvT hZ (hw _ (List.mem_of_getElem? (i := 112) rfl)))) (hw _ (List.mem_of_getElem? (i := 112) rfl)) (hw _ (List.mem_of_getElem? (i := 111) rfl)) (hw _ (List.mem_of_getElem? (i := 3) rfl)) (hw _ (List.mem_of_getElem? (i := 113) rfl)) (by decide) (rm15_n l Z a0 hw [] b48 v13_8 v10_5 v11_6 an62 ho62 de62 dv106 du106 N (N * N) v6_1 fa62 F106 (fun y => (fun _ => false) y || decide (y = x12)) x13 (i10 * N + i11) h106 n0 Z106 f108 f109 f110 f112 f113 RH106 BE106 gho (allS (P := fun x => ∀ y ∈ [ho62, b48], x ≠ y) (allS (P := fun y => de62 ≠ y) (D262 _ (List.mem_of_getElem? (i := 0) rfl) _ (List.mem_of_getElem? (i := 0) rfl)) (allS (P := fun y => de62 ≠ y) (Ne.symm ne97) all0)) (allS (P := fun x => ∀ y ∈ [ho62, b48], x ≠ y) (allS (P := fun y => dv106 ≠ y) (Ne.symm ne151) (allS (P := fun y => dv106 ≠ y) (Ne.symm ne149) all0)) (allS (P := fun x => ∀ y ∈ [ho62, b48], x ≠ y) (allS (P := fun y => du106 ≠ y) (Ne.symm ne158) (allS (P := fun y => du106 ≠ y) (Ne.symm ne156) all0)) all0))) (Ne.symm ne81) hx13 hm13 hz6 hk2.1 hk2.2 (by rw [hF106, own_upd_ne _ _ hk12])) e106 b48 f108 (by rw [hml]; rfl) [(.int v13_8), (.int v10_5), (.int v11_6)] [] rfl (lenOf own_pd11 rfl) rfl 0 (Nat.le_of_eq rfl) (by decide) (by decide) (Nat.le_of_ble_eq_true rfl) (Nat.le_of_ble_eq_true rfl) (hb hby at_182) ?_
      intro T207 Lc207 v207 X207 hQ207
      obtain ⟨h207, e207⟩ : ∃ h, T207.heap = h := ⟨_, rfl⟩
      rw [e207] at hQ207
      obtain ⟨rfl, N207q, K207, bn207, wn207, dn207, dv207, du207, BB207, BE207, RH207, NW207, DJ207, ow207, od207⟩ := hQ207
      have N207 := Fr.app N106 N207q
      have f208 := f107.keep K207 (ninS ne78 (ninS ne94 (ninS ne148 (ninS ne155 nin0))))
      have f209 := f108.keep K207
      have f210 := f109.keep K207 (ninS ne81 (ninS ne97 (ninS ne149 (ninS ne156 nin0))))
      have f211 := f110.keep K207 (ninS ne81 (ninS ne97 (ninS ne149 (ninS ne156 nin0))))
      have f212 := f111.keep K207 (ninS ne81 (ninS ne97 (ninS ne149 (ninS ne156 nin0))))
      have f213 := f112.keep K207 (ninS ne81 (ninS ne97 (ninS ne149 (ninS ne156 nin0))))
      have f214 := f113.keep K207 (ninS (D362 _ (List.mem_of_getElem? (i := 0) rfl) _ (List.mem_of_getElem? (i := 0) rfl)) (ninS (D362 _ (List.mem_of_getElem? (i := 0) rfl) _ (List.mem_of_getElem? (i := 1) rfl)) (ninS ne150 (ninS ne157 nin0))))
      have f215 := f115.keep K207 (ninS (D162 _ (List.mem_of_getElem? (i := 0) rfl) _ (List.mem_of_getElem? (i := 3) rfl)) (ninS (D162 _ (List.mem_of_getElem? (i := 0) rfl) _ (List.mem_of_getElem? (i := 0) rfl)) (ninS ne152 (ninS ne159 nin0)))) (ninS (D162 _ (List.mem_of_getElem? (i := 1) rfl) _ (List.mem_of_getElem? (i := 3) rfl)) (ninS (D162 _ (List.mem_of_getElem? (i := 1) rfl) _ (List.mem_of_getElem? (i := 0) rfl)) (ninS ne153 (ninS ne160 nin0)))) (ninS (D162 _ (List.mem_of_getElem? (i := 2) rfl) _ (List.mem_of_getElem? (i := 3) rfl)) (ninS (D162 _ (List.mem_of_getElem? (i := 2) rfl) _ (List.mem_of_getElem? (i := 0) rfl)) (ninS ne154 (ninS ne161 nin0))))
      have f216 := f117.keep K207
      have f217 := BB106.keep K207 (ninS (Ne.symm ne121) (ninS (DJ106 _ (List.mem_of_getElem? (i := 0) rfl) _ (List.mem_of_getElem? (i := 0) rfl)) (ninS (DJ106 _ (List.mem_of_getElem? (i := 0) rfl) _ (List.mem_of_getElem? (i := 1) rfl)) (ninS (DJ106 _ (List.mem_of_getElem? (i := 0) rfl) _ (List.mem_of_getElem? (i := 2) rfl)) nin0)))) (ninS (Ne.symm ne131) (ninS (DJ106 _ (List.mem_of_getElem? (i := 1) rfl) _ (List.mem_of_getElem? (i := 0) rfl)) (ninS (DJ106 _ (List.mem_of_getElem? (i := 1) rfl) _ (List.mem_of_getElem? (i := 1) rfl)) (ninS (DJ106 _ (List.mem_of_getElem? (i := 1) rfl) _ (List.mem_of_getElem? (i := 2) rfl)) nin0)))) (ninS (Ne.symm ne141) (ninS (DJ106 _ (List.mem_of_getElem? (i := 2) rfl) _ (List.mem_of_getElem? (i := 0) rfl)) (ninS (DJ106 _ (List.mem_of_getElem? (i := 2) rfl) _ (List.mem_of_getElem? (i := 1) rfl)) (ninS (DJ106 _ (List.mem_of_getElem? (i := 2) rfl) _ (List.mem_of_getElem? (i := 2) rfl)) nin0))))
      have f220 := BB106.exa.keep K207
      have Z207 := Nat.le_trans Z106 K207.1
      have ne221 : b14 ≠ bn207 := Nat.ne_of_lt (Nat.lt_of_lt_of_le f107.lt (NW207 _ (List.mem_of_getElem? (i := 0) rfl)))
      have ne222 : b48 ≠ bn207 := Nat.ne_of_lt (Nat.lt_of_lt_of_le f112.lt (NW207 _ (List.mem_of_getElem? (i := 0) rfl)))
      have ne223 : an62 ≠ bn207 := Nat.ne_of_lt (Nat.lt_of_lt_of_le f113.lt (NW207 _ (List.mem_of_getElem? (i := 0) rfl)))
      have ne224 : no62 ≠ bn207 := Nat.ne_of_lt (Nat.lt_of_lt_of_le f117.lt (NW207 _ (List.mem_of_getElem? (i := 0) rfl)))
      have ne225 : nw62 ≠ bn207 := Nat.ne_of_lt (Nat.lt_of_lt_of_le f115.lw (NW207 _ (List.mem_of_getElem? (i := 0) rfl)))
      have ne226 : nd62 ≠ bn207 := Nat.ne_of_lt (Nat.lt_of_lt_of_le f115.ld (NW207 _ (List.mem_of_getElem? (i := 0) rfl)))
      have ne227 : bn106 ≠ bn207 := Nat.ne_of_lt (Nat.lt_of_lt_of_le BB106.exa.lt (NW207 _ (List.mem_of_getElem? (i := 0) rfl)))
      have ne228 : wn106 ≠ bn207 := Nat.ne_of_lt (Nat.lt_of_lt_of_le BB106.lw (NW207 _ (List.mem_of_getElem? (i := 0) rfl)))
      have ne229 : dn106 ≠ bn207 := Nat.ne_of_lt (Nat.lt_of_lt_of_le BB106.ld (NW207 _ (List.mem_of_getElem? (i := 0) rfl)))
      have ne230 : de62 ≠ bn207 := Nat.ne_of_lt (Nat.lt_of_lt_of_le BE106.lb (NW207 _ (List.mem_of_getElem? (i := 0) rfl)))
      have ne231 : dv106 ≠ bn207 := Nat.ne_of_lt (Nat.lt_of_lt_of_le BE106.lw (NW207 _ (List.mem_of_getElem? (i := 0) rfl)))
      have ne232 : du106 ≠ bn207 := Nat.ne_of_lt (Nat.lt_of_lt_of_le BE106.ld (NW207 _ (List.mem_of_getElem? (i := 0) rfl)))
      have ne233 : ho62 ≠ bn207 := Nat.ne_of_lt (Nat.lt_of_lt_of_le RH106.lt (NW207 _ (List.mem_of_getElem? (i := 0) rfl)))
      have ne234 : b14 ≠ wn207 := Nat.ne_of_lt (Nat.lt_of_lt_of_le f107.lt (NW207 _ (List.mem_of_getElem? (i := 1) rfl)))
      have ne235 : b48 ≠ wn207 := Nat.ne_of_lt (Nat.lt_of_lt_of_le f112.lt (NW207 _ (List.mem_of_getElem? (i := 1) rfl)))
      have ne236 : an62 ≠ wn207 := Nat.ne_of_lt (Nat.lt_of_lt_of_le f113.lt (NW207 _ (List.mem_of_getElem? (i := 1) rfl)))
      have ne237 : no62 ≠ wn207 := Nat.ne_of_lt (Nat.lt_of_lt_of_le f117.lt (NW207 _ (List.mem_of_getElem? (i := 1) rfl)))
      have ne238 : nw62 ≠ wn207 := Nat.ne_of_lt (Nat.lt_of_lt_of_le f115.lw (NW207 _ (List.mem_of_getElem? (i := 1) rfl)))
      have ne239 : nd62 ≠ wn207 := Nat.ne_of_lt (Nat.lt_of_lt_of_le f115.ld (NW207 _ (List.mem_of_getElem? (i := 1) rfl)))
      have ne240 : bn106 ≠ wn207 := Nat.ne_of_lt (Nat.lt_of_lt_of_le BB106.exa.lt (NW207 _ (List.mem_of_getElem? (i := 1) rfl)))
      have ne241 : wn106 ≠ wn207 := Nat.ne_of_lt (Nat.lt_of_lt_of_le BB106.lw (NW207 _ (List.mem_of_getElem? (i := 1) rfl)))
      have ne242 : dn106 ≠ wn207 := Nat.ne_of_lt (Nat.lt_of_lt_of_le BB106.ld (NW207 _ (List.mem_of_getElem? (i := 1) rfl)))
      have ne243 : de62 ≠ wn207 := Nat.ne_of_lt (Nat.lt_of_lt_of_le BE106.lb (NW207 _ (List.mem_of_getElem? (i := 1) rfl)))
      have ne244 : dv106 ≠ wn207 := Nat.ne_of_lt (Nat.lt_of_lt_of_le BE106.lw (NW207 _ (List.mem_of_getElem? (i := 1) rfl)))
      have ne245 : du106 ≠ wn207 := Nat.ne_of_lt (Nat.lt_of_lt_of_le BE106.ld (NW207 _ (List.mem_of_getElem? (i := 1) rfl)))
      have ne246 : ho62 ≠ wn207 := Nat.ne_of_lt (Nat.lt_of_lt_of_le RH106.lt (NW207 _ (List.mem_of_getElem? (i := 1) rfl)))
      have ne247 : b14 ≠ dn207 := Nat.ne_of_lt (Nat.lt_of_lt_of_le f107.lt (NW207 _ (List.mem_of_getElem? (i := 2) rfl)))
      have ne248 : b48 ≠ dn207 := Nat.ne_of_lt (Nat.lt_of_lt_of_le f112.lt (NW207 _ (List.mem_of_getElem? (i := 2) rfl)))
      have ne249 : an62 ≠ dn207 := Nat.ne_of_lt (Nat.lt_of_lt_of_le f113.lt (NW207 _ (List.mem_of_getElem? (i := 2) rfl)))
      have ne250 : no62 ≠ dn207 := Nat.ne_of_lt (Nat.lt_of_lt_of_le f117.lt (NW207 _ (List.mem_of_getElem? (i := 2) rfl)))
      have ne251 : nw62 ≠ dn207 := Nat.ne_of_lt (Nat.lt_of_lt_of_le f115.lw (NW207 _ (List.mem_of_getElem? (i := 2) rfl)))
      have ne252 : nd62 ≠ dn207 := Nat.ne_of_lt (Nat.lt_of_lt_of_le f115.ld (NW207 _ (List.mem_of_getElem? (i := 2) rfl)))
      have ne253 : bn106 ≠ dn207 := Nat.ne_of_lt (Nat.lt_of_lt_of_le BB106.exa.lt (NW207 _ (List.mem_of_getElem? (i := 2) rfl)))
      have ne254 : wn106 ≠ dn207 := Nat.ne_of_lt (Nat.lt_of_lt_of_le BB106.lw (NW207 _ (List.mem_of_getElem? (i := 2) rfl)))
      have ne255 : dn106 ≠ dn207 := Nat.ne_of_lt (Nat.lt_of_lt_of_le BB106.ld (NW207 _ (List.mem_of_getElem? (i := 2) rfl)))
      have ne256 : de62 ≠ dn207 := Nat.ne_of_lt (Nat.lt_of_lt_of_le BE106.lb (NW207 _ (List.mem_of_getElem? (i := 2) rfl)))
      have ne257 : dv106 ≠ dn207 := Nat.ne_of_lt (Nat.lt_of_lt_of_le BE106.lw (NW207 _ (List.mem_of_getElem? (i := 2) rfl)))
      have ne258 : du106 ≠ dn207 := Nat.ne_of_lt (Nat.lt_of_lt_of_le BE106.ld (NW207 _ (List.mem_of_getElem? (i := 2) rfl)))
      have ne259 : ho62 ≠ dn207 := Nat.ne_of_lt (Nat.lt_of_lt_of_le RH106.lt (NW207 _ (List.mem_of_getElem? (i := 2) rfl)))
      have ne260 : b14 ≠ dv207 := own_neor ow207 ne148 f107.lt
      have ne261 : b48 ≠ dv207 := own_neor ow207 ne149 f112.lt
      have ne262 : an62 ≠ dv207 := own_neor ow207 ne150 f113.lt
      have ne263 : no62 ≠ dv207 := own_neor ow207 ne152 f117.lt
      have ne264 : nw62 ≠ dv207 := own_neor ow207 ne153 f115.lw
      have ne265 : nd62 ≠ dv207 := own_neor ow207 ne154 f115.ld
      have ne266 : bn106 ≠ dv207 := own_neor ow207 (DJ106 _ (List.mem_of_getElem? (i := 0) rfl) _ (List.mem_of_getElem? (i := 1) rfl)) BB106.exa.lt
      have ne267 : wn106 ≠ dv207 := own_neor ow207 (DJ106 _ (List.mem_of_getElem? (i := 1) rfl) _ (List.mem_of_getElem? (i := 1) rfl)) BB106.lw
      have ne268 : dn106 ≠ dv207 := own_neor ow207 (DJ106 _ (List.mem_of_getElem? (i := 2) rfl) _ (List.mem_of_getElem? (i := 1) rfl)) BB106.ld
      have ne269 : ho62 ≠ dv207 := own_neor ow207 ne151 RH106.lt
      have ne270 : b14 ≠ du207 := own_neor od207 ne155 f107.lt
      have ne271 : b48 ≠ du207 := own_neor od207 ne156 f112.lt
      have ne272 : an62 ≠ du207 := own_neor od207 ne157 f113.lt
      have ne273 : no62 ≠ du207 := own_neor od207 ne159 f117.lt
      have ne274 : nw62 ≠ du207 := own_neor od207 ne160 f115.lw
      have ne275 : nd62 ≠ du207 := own_neor od207 ne161 f115.ld
      have ne276 : bn106 ≠ du207 := own_neor od207 (DJ106 _ (List.mem_of_getElem? (i := 0) rfl) _ (List.mem_of_getElem? (i := 2) rfl)) BB106.exa.lt
      have ne277 : wn106 ≠ du207 := own_neor od207 (DJ106 _ (List.mem_of_getElem? (i := 1) rfl) _ (List.mem_of_getElem? (i := 2) rfl)) BB106.lw
      have ne278 : dn106 ≠ du207 := own_neor od207 (DJ106 _ (List.mem_of_getElem? (i := 2) rfl) _ (List.mem_of_getElem? (i := 2) rfl)) BB106.ld
      have ne279 : ho62 ≠ du207 := own_neor od207 ne158 RH106.lt
      obtain ⟨F207, hF207⟩ : ∃ gf_ : Nat → Value, gf_ = own_upd F106 (i10 * N + i11) (.ref bn207) := ⟨_, rfl⟩
      rw [← hF207] at RH207
      show own_Go _ _ _ _ (T207.setTop (mkF m 185 #[.val (.int p1), .val (.int p2), .val (.int p3), .val (.int p4), .val (.int p5), .val (.int p6), .val (.int v6_1), .val (.int v7_2), .val (.int v8_3), .val (.int v9_4), .val (.int v10_5), .val (.int v11_6), .val (.int v12_7), .val (.int v13_8), .val (.int v14_9), .val (.int v15_10), .val (.int v16_11), .val (.int v17_12), .val (.int v18_13), .val (.ref b14), .val (.ref b48), .unset, .unset, .unset, .unset, .unset, .unset, .unset, .unset, .unset] []))
      refine own_by (fun _ k => XS.aload X207.here hx rfl (hb hby at_185) rfl rfl k) ?_
      refine own_by (fun _ k => XS.aload X207.here hx rfl (hb hby at_187) rfl rfl k) ?_
      refine own_by (fun _ k => XS.iload X207.here hx rfl (hb hby at_189) rfl k) ?_
      by_cases hin : (v15_10 + (1 : Int32)) < v7_2
      · --
        have hkl : kf + 1 < ln := own_ltn hin hln hkf1
        obtain ⟨i3, hi3, hl3⟩ := bdA kf
        obtain ⟨j3, hj3, hq3⟩ := bdA (kf + 1)
        have hk3 := own_idx hN hN4 hi3 hl3 hj3 hq3
        by_cases hk31 : i3 * N + j3 = (i8 * N + i9)
        · --
          show own_Go _ _ _ _ (T207.setTop (mkF m 191 #[.val (.int p1), .val (.int p2), .val (.int p3), .val (.int p4), .val (.int p5), .val (.int p6), .val (.int v6_1), .val (.int v7_2), .val (.int v8_3), .val (.int v9_4), .val (.int v10_5), .val (.int v11_6), .val (.int v12_7), .val (.int v13_8), .val (.int v14_9), .val (.int v15_10), .val (.int v16_11), .val (.int v17_12), .val (.int v18_13), .val (.ref b14), .val (.ref b48), .unset, .unset, .unset, .unset, .unset, .unset, .unset, .unset, .unset] [(.int v15_10), (.ref b14), (.ref b48)]))
          refine own_callV X207 hx hZ hown (hw _ (List.mem_of_getElem? (i := 123) rfl)) (hw _ (List.mem_of_getElem? (i := 124) rfl)) (notFace_of_selects (args := #[]) (mvT hZ (hw _ (List.mem_of_getElem? (i := 126) rfl)))) (hw _ (List.mem_of_getElem? (i := 126) rfl)) (hw _ (List.mem_of_getElem? (i := 125) rfl)) (hw _ (List.mem_of_getElem? (i := 3) rfl)) (hw _ (List.mem_of_getElem? (i := 127) rfl)) (by decide) (rm18_r l Z a0 hw [] b48 b14 v15_10 no62 an62 ho62 bn106 ln N (N * N) v7_2 v6_1 fA fa62 F207 kf (i3 * N + j3) h207 n0 Z207 f212 f208 (own_ofNat hln) hin f210 f211 f214 RH207 hkf hkf1 hkl hz6 hk3.1 hk3.2 (by rw [hF207, own_upd_ne _ _ (fun q => hk12 (q.symm.trans hk31)), hF106, hk31, own_upd_eq])) e207 b48 f209 (by rw [hml]; rfl) [(.ref b14), (.int v15_10)] [] rfl (lenOf own_pd12 rfl) rfl 0 (Nat.le_of_eq rfl) (by decide) (by decide) (Nat.le_of_ble_eq_true rfl) (Nat.le_of_ble_eq_true rfl) (hb hby at_191) ?_
          intro T280 Lc280 v280 X280 hQ280
          obtain ⟨rfl, N280q, e280⟩ := hQ280
          have N280 := Fr.app N207 N280q
          have rl1 : decide (i3 * N + j3 = (i8 * N + i9)) = true := decide_eq_true hk31
          have rl2 : decide (i3 * N + j3 = (i10 * N + i11)) = false := decide_eq_false (fun q => hk12 (q.symm.trans hk31))
          show own_Go _ _ _ _ (T280.setTop (mkF m 194 #[.val (.int p1), .val (.int p2), .val (.int p3), .val (.int p4), .val (.int p5), .val (.int p6), .val (.int v6_1), .val (.int v7_2), .val (.int v8_3), .val (.int v9_4), .val (.int v10_5), .val (.int v11_6), .val (.int v12_7), .val (.int v13_8), .val (.int v14_9), .val (.int v15_10), .val (.int v16_11), .val (.int v17_12), .val (.int v18_13), .val (.ref b14), .val (.ref b48), .unset, .unset, .unset, .unset, .unset, .unset, .unset, .unset, .unset] [(.ref bn106)]))
          exact tailI _ _ _ _ _ wn106 dn106 (fun y => (fun _ => false) y || decide (y = x12)) fA i3 j3 X280 e280 N280 Z207 f217 hin f208 hi3 hj3 hq3 hkl (fun x => by rw [rl1, rl2]; simp)
        · --
          by_cases hk32 : i3 * N + j3 = (i10 * N + i11)
          · --
            show own_Go _ _ _ _ (T207.setTop (mkF m 191 #[.val (.int p1), .val (.int p2), .val (.int p3), .val (.int p4), .val (.int p5), .val (.int p6), .val (.int v6_1), .val (.int v7_2), .val (.int v8_3), .val (.int v9_4), .val (.int v10_5), .val (.int v11_6), .val (.int v12_7), .val (.int v13_8), .val (.int v14_9), .val (.int v15_10), .val (.int v16_11), .val (.int v17_12), .val (.int v18_13), .val (.ref b14), .val (.ref b48), .unset, .unset, .unset, .unset, .unset, .unset, .unset, .unset, .unset] [(.int v15_10), (.ref b14), (.ref b48)]))
            refine own_callV X207 hx hZ hown (hw _ (List.mem_of_getElem? (i := 123) rfl)) (hw _ (List.mem_of_getElem? (i := 124) rfl)) (notFace_of_selects (args := #[]) (mvT hZ (hw _ (List.mem_of_getElem? (i := 126) rfl)))) (hw _ (List.mem_of_getElem? (i := 126) rfl)) (hw _ (List.mem_of_getElem? (i := 125) rfl)) (hw _ (List.mem_of_getElem? (i := 3) rfl)) (hw _ (List.mem_of_getElem? (i := 127) rfl)) (by decide) (rm18_r l Z a0 hw [] b48 b14 v15_10 no62 an62 ho62 bn207 ln N (N * N) v7_2 v6_1 fA fa62 F207 kf (i3 * N + j3) h207 n0 Z207 f212 f208 (own_ofNat hln) hin f210 f211 f214 RH207 hkf hkf1 hkl hz6 hk3.1 hk3.2 (by rw [hF207, hk32]; exact own_upd_eq _ _ _)) e207 b48 f209 (by rw [hml]; rfl) [(.ref b14), (.int v15_10)] [] rfl (lenOf own_pd12 rfl) rfl 0 (Nat.le_of_eq rfl) (by decide) (by decide) (Nat.le_of_ble_eq_true rfl) (Nat.le_of_ble_eq_true rfl) (hb hby at_191) ?_
            intro T281 Lc281 v281 X281 hQ281
            obtain ⟨rfl, N281q, e281⟩ := hQ281
            have N281 := Fr.app N207 N281q
            have rl1 : decide (i3 * N + j3 = (i8 * N + i9)) = false := decide_eq_false hk31
            have rl2 : decide (i3 * N + j3 = (i10 * N + i11)) = true := decide_eq_true hk32
            show own_Go _ _ _ _ (T281.setTop (mkF m 194 #[.val (.int p1), .val (.int p2), .val (.int p3), .val (.int p4), .val (.int p5), .val (.int p6), .val (.int v6_1), .val (.int v7_2), .val (.int v8_3), .val (.int v9_4), .val (.int v10_5), .val (.int v11_6), .val (.int v12_7), .val (.int v13_8), .val (.int v14_9), .val (.int v15_10), .val (.int v16_11), .val (.int v17_12), .val (.int v18_13), .val (.ref b14), .val (.ref b48), .unset, .unset, .unset, .unset, .unset, .unset, .unset, .unset, .unset] [(.ref bn207)]))
            exact tailI _ _ _ _ _ wn207 dn207 (fun y => (fun _ => false) y || decide (y = x13)) fA i3 j3 X281 e281 N281 Z207 BB207 hin f208 hi3 hj3 hq3 hkl (fun x => by rw [rl1, rl2]; simp)
          · --
            show own_Go _ _ _ _ (T207.setTop (mkF m 191 #[.val (.int p1), .val (.int p2), .val (.int p3), .val (.int p4), .val (.int p5), .val (.int p6), .val (.int v6_1), .val (.int v7_2), .val (.int v8_3), .val (.int v9_4), .val (.int v10_5), .val (.int v11_6), .val (.int v12_7), .val (.int v13_8), .val (.int v14_9), .val (.int v15_10), .val (.int v16_11), .val (.int v17_12), .val (.int v18_13), .val (.ref b14), .val (.ref b48), .unset, .unset, .unset, .unset, .unset, .unset, .unset, .unset, .unset] [(.int v15_10), (.ref b14), (.ref b48)]))
            refine own_callV X207 hx hZ hown (hw _ (List.mem_of_getElem? (i := 123) rfl)) (hw _ (List.mem_of_getElem? (i := 124) rfl)) (notFace_of_selects (args := #[]) (mvT hZ (hw _ (List.mem_of_getElem? (i := 126) rfl)))) (hw _ (List.mem_of_getElem? (i := 126) rfl)) (hw _ (List.mem_of_getElem? (i := 125) rfl)) (hw _ (List.mem_of_getElem? (i := 3) rfl)) (hw _ (List.mem_of_getElem? (i := 127) rfl)) (by decide) (rm18_n l Z a0 hw [] b48 b14 v15_10 no62 an62 ho62 no62 ln N (N * N) v7_2 v6_1 fA fa62 F207 kf (i3 * N + j3) h207 n0 Z207 f212 f208 (own_ofNat hln) hin f210 f211 f214 RH207 hkf hkf1 hkl hz6 hk3.1 hk3.2 (by rw [hF207, own_upd_ne _ _ hk32, hF106, own_upd_ne _ _ hk31])) e207 b48 f209 (by rw [hml]; rfl) [(.ref b14), (.int v15_10)] [] rfl (lenOf own_pd12 rfl) rfl 0 (Nat.le_of_eq rfl) (by decide) (by decide) (Nat.le_of_ble_eq_true rfl) (Nat.le_of_ble_eq_true rfl) (hb hby at_191) ?_
            intro T282 Lc282 v282 X282 hQ282
            obtain ⟨rfl, N282q, e282⟩ := hQ282
            have N282 := Fr.app N207 N282q
            have rl1 : decide (i3 * N + j3 = (i8 * N + i9)) = false := decide_eq_false hk31
            have rl2 : decide (i3 * N + j3 = (i10 * N + i11)) = false := decide_eq_false hk32
            show own_Go _ _ _ _ (T282.setTop (mkF m 194 #[.val (.int p1), .val (.int p2), .val (.int p3), .val (.int p4), .val (.int p5), .val (.int p6), .val (.int v6_1), .val (.int v7_2), .val (.int v8_3), .val (.int v9_4), .val (.int v10_5), .val (.int v11_6), .val (.int v12_7), .val (.int v13_8), .val (.int v14_9), .val (.int v15_10), .val (.int v16_11), .val (.int v17_12), .val (.int v18_13), .val (.ref b14), .val (.ref b48), .unset, .unset, .unset, .unset, .unset, .unset, .unset, .unset, .unset] [(.ref no62)]))
            exact tailI _ _ _ _ _ nw62 nd62 (fun _ => false) fA i3 j3 X282 e282 N282 Z207 f215 hin f208 hi3 hj3 hq3 hkl (fun x => by rw [rl1, rl2]; simp)
      · --
        show own_Go _ _ _ _ (T207.setTop (mkF m 191 #[.val (.int p1), .val (.int p2), .val (.int p3), .val (.int p4), .val (.int p5), .val (.int p6), .val (.int v6_1), .val (.int v7_2), .val (.int v8_3), .val (.int v9_4), .val (.int v10_5), .val (.int v11_6), .val (.int v12_7), .val (.int v13_8), .val (.int v14_9), .val (.int v15_10), .val (.int v16_11), .val (.int v17_12), .val (.int v18_13), .val (.ref b14), .val (.ref b48), .unset, .unset, .unset, .unset, .unset, .unset, .unset, .unset, .unset] [(.int v15_10), (.ref b14), (.ref b48)]))
        refine own_callV X207 hx hZ hown (hw _ (List.mem_of_getElem? (i := 123) rfl)) (hw _ (List.mem_of_getElem? (i := 124) rfl)) (notFace_of_selects (args := #[]) (mvT hZ (hw _ (List.mem_of_getElem? (i := 126) rfl)))) (hw _ (List.mem_of_getElem? (i := 126) rfl)) (hw _ (List.mem_of_getElem? (i := 125) rfl)) (hw _ (List.mem_of_getElem? (i := 3) rfl)) (hw _ (List.mem_of_getElem? (i := 127) rfl)) (by decide) (rm18_o l Z a0 hw [] b48 b14 v15_10 no62 ln v7_2 fA h207 n0 Z207 f212 f208 (own_ofNat hln) hin) e207 b48 f209 (by rw [hml]; rfl) [(.ref b14), (.int v15_10)] [] rfl (lenOf own_pd12 rfl) rfl 0 (Nat.le_of_eq rfl) (by decide) (by decide) (Nat.le_of_ble_eq_true rfl) (Nat.le_of_ble_eq_true rfl) (hb hby at_191) ?_
        intro T283 Lc283 v283 X283 hQ283
        obtain ⟨rfl, N283q, e283⟩ := hQ283
        have N283 := Fr.app N207 N283q
        show own_Go _ _ _ _ (T283.setTop (mkF m 194 #[.val (.int p1), .val (.int p2), .val (.int p3), .val (.int p4), .val (.int p5), .val (.int p6), .val (.int v6_1), .val (.int v7_2), .val (.int v8_3), .val (.int v9_4), .val (.int v10_5), .val (.int v11_6), .val (.int v12_7), .val (.int v13_8), .val (.int v14_9), .val (.int v15_10), .val (.int v16_11), .val (.int v17_12), .val (.int v18_13), .val (.ref b14), .val (.ref b48), .unset, .unset, .unset, .unset, .unset, .unset, .unset, .unset, .unset] [(.ref no62)]))
        exact tailO _ _ _ _ _ nw62 nd62 (fun _ => false) X283 e283 N283 Z207 f215 hin (fun x => rfl)
  refine own_by (fun _ k => XS.iload X14.here hx rfl (hb hby at_117) rfl k) ?_
  show own_Go _ _ _ _ (T14.setTop (mkF m 119 #[.val (.int p1), .val (.int p2), .val (.int p3), .val (.int p4), .val (.int p5), .val (.int p6), .val (.int v6_1), .val (.int v7_2), .val (.int v8_3), .val (.int v9_4), .val (.int v10_5), .val (.int v11_6), .val (.int v12_7), .val (.int v13_8), .val (.int v14_9), .val (.int v15_10), .val (.int v16_11), .val (.int v17_12), .val (.int v18_13), .val (.ref b14), .unset, .unset, .unset, .unset, .unset, .unset, .unset, .unset, .unset, .unset] [(.int v7_2)]))
  by_cases hc284 : (0 : Int32) < v7_2
  · --
    refine own_by (fun _ k => XS.ifNo X14.here hx rfl (hb hby at_119) rfl ((if0 _ _).trans (tlt hc284).2.2.2) k) ?_
    refine own_by (fun _ k => XS.aload X14.here hx rfl (hb hby at_122) rfl rfl k) ?_
    refine own_by (fun _ k => XS.iconst X14.here hx rfl (hb hby at_124) k) ?_
    show own_Go _ _ _ _ (T14.setTop (mkF m 125 #[.val (.int p1), .val (.int p2), .val (.int p3), .val (.int p4), .val (.int p5), .val (.int p6), .val (.int v6_1), .val (.int v7_2), .val (.int v8_3), .val (.int v9_4), .val (.int v10_5), .val (.int v11_6), .val (.int v12_7), .val (.int v13_8), .val (.int v14_9), .val (.int v15_10), .val (.int v16_11), .val (.int v17_12), .val (.int v18_13), .val (.ref b14), .unset, .unset, .unset, .unset, .unset, .unset, .unset, .unset, .unset, .unset] [(.int (0 : Int32)), (.ref b14)]))
    refine own_by (fun _ k => XS.iload X14.here hx rfl (hb hby at_125) rfl k) ?_
    show own_Go _ _ _ _ (T14.setTop (mkF m 127 #[.val (.int p1), .val (.int p2), .val (.int p3), .val (.int p4), .val (.int p5), .val (.int p6), .val (.int v6_1), .val (.int v7_2), .val (.int v8_3), .val (.int v9_4), .val (.int v10_5), .val (.int v11_6), .val (.int v12_7), .val (.int v13_8), .val (.int v14_9), .val (.int v15_10), .val (.int v16_11), .val (.int v17_12), .val (.int v18_13), .val (.ref b14), .unset, .unset, .unset, .unset, .unset, .unset, .unset, .unset, .unset, .unset] [(.int v16_11), (.int (0 : Int32)), (.ref b14)]))
    refine own_ias X14 hx hZ e14 f21 0 (by decide) (own_ltn hc284 hln (by decide) : 0 < ln) (hb hby at_127) ?_
    intro T285 h285 X285 e285 W285 A285
    have f286 := f17.wr W285 (Or.inr nw14)
    have f287 := f18.wr W285
    have f288 := f19.other W285 ne15
    have f289 := f20.wr W285
    have N285 := Fr.snoc X285 N0 ge14
    have Z285 := own_size_wr W285 Z14
    obtain ⟨fn285, hfn285⟩ : ∃ gf_ : Nat → Int32, gf_ = own_upd (fun _ => 0) 0 v16_11 := ⟨_, rfl⟩
    rw [← hfn285] at A285
    show own_Go _ _ _ _ (T285.setTop (mkF m 128 #[.val (.int p1), .val (.int p2), .val (.int p3), .val (.int p4), .val (.int p5), .val (.int p6), .val (.int v6_1), .val (.int v7_2), .val (.int v8_3), .val (.int v9_4), .val (.int v10_5), .val (.int v11_6), .val (.int v12_7), .val (.int v13_8), .val (.int v14_9), .val (.int v15_10), .val (.int v16_11), .val (.int v17_12), .val (.int v18_13), .val (.ref b14), .unset, .unset, .unset, .unset, .unset, .unset, .unset, .unset, .unset, .unset] []))
    refine own_by (fun _ k => XS.iload X285.here hx rfl (hb hby at_128) rfl k) ?_
    refine own_by (fun _ k => XS.iconst X285.here hx rfl (hb hby at_130) k) ?_
    show own_Go _ _ _ _ (T285.setTop (mkF m 131 #[.val (.int p1), .val (.int p2), .val (.int p3), .val (.int p4), .val (.int p5), .val (.int p6), .val (.int v6_1), .val (.int v7_2), .val (.int v8_3), .val (.int v9_4), .val (.int v10_5), .val (.int v11_6), .val (.int v12_7), .val (.int v13_8), .val (.int v14_9), .val (.int v15_10), .val (.int v16_11), .val (.int v17_12), .val (.int v18_13), .val (.ref b14), .unset, .unset, .unset, .unset, .unset, .unset, .unset, .unset, .unset, .unset] [(.int (1 : Int32)), (.int v7_2)]))
    by_cases hc290 : (1 : Int32) < v7_2
    · --
      refine own_by (fun _ k => XS.icmpNo X285.here hx rfl (hb hby at_131) rfl (tlt hc290).2.2.2 k) ?_
      refine own_by (fun _ k => XS.aload X285.here hx rfl (hb hby at_134) rfl rfl k) ?_
      refine own_by (fun _ k => XS.iconst X285.here hx rfl (hb hby at_136) k) ?_
      show own_Go _ _ _ _ (T285.setTop (mkF m 137 #[.val (.int p1), .val (.int p2), .val (.int p3), .val (.int p4), .val (.int p5), .val (.int p6), .val (.int v6_1), .val (.int v7_2), .val (.int v8_3), .val (.int v9_4), .val (.int v10_5), .val (.int v11_6), .val (.int v12_7), .val (.int v13_8), .val (.int v14_9), .val (.int v15_10), .val (.int v16_11), .val (.int v17_12), .val (.int v18_13), .val (.ref b14), .unset, .unset, .unset, .unset, .unset, .unset, .unset, .unset, .unset, .unset] [(.int (1 : Int32)), (.ref b14)]))
      refine own_by (fun _ k => XS.iload X285.here hx rfl (hb hby at_137) rfl k) ?_
      show own_Go _ _ _ _ (T285.setTop (mkF m 139 #[.val (.int p1), .val (.int p2), .val (.int p3), .val (.int p4), .val (.int p5), .val (.int p6), .val (.int v6_1), .val (.int v7_2), .val (.int v8_3), .val (.int v9_4), .val (.int v10_5), .val (.int v11_6), .val (.int v12_7), .val (.int v13_8), .val (.int v14_9), .val (.int v15_10), .val (.int v16_11), .val (.int v17_12), .val (.int v18_13), .val (.ref b14), .unset, .unset, .unset, .unset, .unset, .unset, .unset, .unset, .unset, .unset] [(.int v17_12), (.int (1 : Int32)), (.ref b14)]))
      refine own_ias X285 hx hZ e285 A285 1 (by decide) (own_ltn hc290 hln (by decide) : 1 < ln) (hb hby at_139) ?_
      intro T291 h291 X291 e291 W291 A291
      have f292 := f286.wr W291 (Or.inr nw14)
      have f293 := f287.wr W291
      have f294 := f288.other W291 ne15
      have f295 := f289.wr W291
      have N291 := Fr.snoc X291 N285 ge14
      have Z291 := own_size_wr W291 Z285
      obtain ⟨fn291, hfn291⟩ : ∃ gf_ : Nat → Int32, gf_ = own_upd fn285 1 v17_12 := ⟨_, rfl⟩
      rw [← hfn291] at A291
      show own_Go _ _ _ _ (T291.setTop (mkF m 140 #[.val (.int p1), .val (.int p2), .val (.int p3), .val (.int p4), .val (.int p5), .val (.int p6), .val (.int v6_1), .val (.int v7_2), .val (.int v8_3), .val (.int v9_4), .val (.int v10_5), .val (.int v11_6), .val (.int v12_7), .val (.int v13_8), .val (.int v14_9), .val (.int v15_10), .val (.int v16_11), .val (.int v17_12), .val (.int v18_13), .val (.ref b14), .unset, .unset, .unset, .unset, .unset, .unset, .unset, .unset, .unset, .unset] []))
      refine own_by (fun _ k => XS.iload X291.here hx rfl (hb hby at_140) rfl k) ?_
      refine own_by (fun _ k => XS.iconst X291.here hx rfl (hb hby at_142) k) ?_
      show own_Go _ _ _ _ (T291.setTop (mkF m 143 #[.val (.int p1), .val (.int p2), .val (.int p3), .val (.int p4), .val (.int p5), .val (.int p6), .val (.int v6_1), .val (.int v7_2), .val (.int v8_3), .val (.int v9_4), .val (.int v10_5), .val (.int v11_6), .val (.int v12_7), .val (.int v13_8), .val (.int v14_9), .val (.int v15_10), .val (.int v16_11), .val (.int v17_12), .val (.int v18_13), .val (.ref b14), .unset, .unset, .unset, .unset, .unset, .unset, .unset, .unset, .unset, .unset] [(.int (2 : Int32)), (.int v7_2)]))
      by_cases hc296 : (2 : Int32) < v7_2
      · --
        refine own_by (fun _ k => XS.icmpNo X291.here hx rfl (hb hby at_143) rfl (tlt hc296).2.2.2 k) ?_
        refine own_by (fun _ k => XS.aload X291.here hx rfl (hb hby at_146) rfl rfl k) ?_
        refine own_by (fun _ k => XS.iconst X291.here hx rfl (hb hby at_148) k) ?_
        show own_Go _ _ _ _ (T291.setTop (mkF m 149 #[.val (.int p1), .val (.int p2), .val (.int p3), .val (.int p4), .val (.int p5), .val (.int p6), .val (.int v6_1), .val (.int v7_2), .val (.int v8_3), .val (.int v9_4), .val (.int v10_5), .val (.int v11_6), .val (.int v12_7), .val (.int v13_8), .val (.int v14_9), .val (.int v15_10), .val (.int v16_11), .val (.int v17_12), .val (.int v18_13), .val (.ref b14), .unset, .unset, .unset, .unset, .unset, .unset, .unset, .unset, .unset, .unset] [(.int (2 : Int32)), (.ref b14)]))
        refine own_by (fun _ k => XS.iload X291.here hx rfl (hb hby at_149) rfl k) ?_
        show own_Go _ _ _ _ (T291.setTop (mkF m 151 #[.val (.int p1), .val (.int p2), .val (.int p3), .val (.int p4), .val (.int p5), .val (.int p6), .val (.int v6_1), .val (.int v7_2), .val (.int v8_3), .val (.int v9_4), .val (.int v10_5), .val (.int v11_6), .val (.int v12_7), .val (.int v13_8), .val (.int v14_9), .val (.int v15_10), .val (.int v16_11), .val (.int v17_12), .val (.int v18_13), .val (.ref b14), .unset, .unset, .unset, .unset, .unset, .unset, .unset, .unset, .unset, .unset] [(.int v18_13), (.int (2 : Int32)), (.ref b14)]))
        refine own_ias X291 hx hZ e291 A291 2 (by decide) (own_ltn hc296 hln (by decide) : 2 < ln) (hb hby at_151) ?_
        intro T297 h297 X297 e297 W297 A297
        have f298 := f292.wr W297 (Or.inr nw14)
        have f299 := f293.wr W297
        have f300 := f294.other W297 ne15
        have f301 := f295.wr W297
        have N297 := Fr.snoc X297 N291 ge14
        have Z297 := own_size_wr W297 Z291
        obtain ⟨fn297, hfn297⟩ : ∃ gf_ : Nat → Int32, gf_ = own_upd fn291 2 v18_13 := ⟨_, rfl⟩
        rw [← hfn297] at A297
        show own_Go _ _ _ _ (T297.setTop (mkF m 152 #[.val (.int p1), .val (.int p2), .val (.int p3), .val (.int p4), .val (.int p5), .val (.int p6), .val (.int v6_1), .val (.int v7_2), .val (.int v8_3), .val (.int v9_4), .val (.int v10_5), .val (.int v11_6), .val (.int v12_7), .val (.int v13_8), .val (.int v14_9), .val (.int v15_10), .val (.int v16_11), .val (.int v17_12), .val (.int v18_13), .val (.ref b14), .unset, .unset, .unset, .unset, .unset, .unset, .unset, .unset, .unset, .unset] []))
        exact tail _ _ _ fn297 X297 e297 N297 Z297 f298 A297 (by rw [hfn297]; exact own_bd_upd (by rw [hfn291]; exact own_bd_upd (by rw [hfn285]; exact own_bd_upd (own_bd0 hN1) ⟨i16, hi16, hl16⟩) ⟨i17, hi17, hl17⟩) ⟨i18, hi18, hl18⟩) f299 f300 f301
      · --
        refine own_by (fun _ k => XS.icmpYes X291.here hx rfl (pc0 := 143) (pc' := 152) rfl (hb hby at_143) rfl (flt hc296).2.2.2 (by decide) (by decide) k) ?_
        show own_Go _ _ _ _ (T291.setTop (mkF m 152 #[.val (.int p1), .val (.int p2), .val (.int p3), .val (.int p4), .val (.int p5), .val (.int p6), .val (.int v6_1), .val (.int v7_2), .val (.int v8_3), .val (.int v9_4), .val (.int v10_5), .val (.int v11_6), .val (.int v12_7), .val (.int v13_8), .val (.int v14_9), .val (.int v15_10), .val (.int v16_11), .val (.int v17_12), .val (.int v18_13), .val (.ref b14), .unset, .unset, .unset, .unset, .unset, .unset, .unset, .unset, .unset, .unset] []))
        exact tail _ _ _ fn291 X291 e291 N291 Z291 f292 A291 (by rw [hfn291]; exact own_bd_upd (by rw [hfn285]; exact own_bd_upd (own_bd0 hN1) ⟨i16, hi16, hl16⟩) ⟨i17, hi17, hl17⟩) f293 f294 f295
    · --
      refine own_by (fun _ k => XS.icmpYes X285.here hx rfl (pc0 := 131) (pc' := 140) rfl (hb hby at_131) rfl (flt hc290).2.2.2 (by decide) (by decide) k) ?_
      refine own_by (fun _ k => XS.iload X285.here hx rfl (hb hby at_140) rfl k) ?_
      refine own_by (fun _ k => XS.iconst X285.here hx rfl (hb hby at_142) k) ?_
      show own_Go _ _ _ _ (T285.setTop (mkF m 143 #[.val (.int p1), .val (.int p2), .val (.int p3), .val (.int p4), .val (.int p5), .val (.int p6), .val (.int v6_1), .val (.int v7_2), .val (.int v8_3), .val (.int v9_4), .val (.int v10_5), .val (.int v11_6), .val (.int v12_7), .val (.int v13_8), .val (.int v14_9), .val (.int v15_10), .val (.int v16_11), .val (.int v17_12), .val (.int v18_13), .val (.ref b14), .unset, .unset, .unset, .unset, .unset, .unset, .unset, .unset, .unset, .unset] [(.int (2 : Int32)), (.int v7_2)]))
      by_cases hc302 : (2 : Int32) < v7_2
      · --
        refine own_by (fun _ k => XS.icmpNo X285.here hx rfl (hb hby at_143) rfl (tlt hc302).2.2.2 k) ?_
        refine own_by (fun _ k => XS.aload X285.here hx rfl (hb hby at_146) rfl rfl k) ?_
        refine own_by (fun _ k => XS.iconst X285.here hx rfl (hb hby at_148) k) ?_
        show own_Go _ _ _ _ (T285.setTop (mkF m 149 #[.val (.int p1), .val (.int p2), .val (.int p3), .val (.int p4), .val (.int p5), .val (.int p6), .val (.int v6_1), .val (.int v7_2), .val (.int v8_3), .val (.int v9_4), .val (.int v10_5), .val (.int v11_6), .val (.int v12_7), .val (.int v13_8), .val (.int v14_9), .val (.int v15_10), .val (.int v16_11), .val (.int v17_12), .val (.int v18_13), .val (.ref b14), .unset, .unset, .unset, .unset, .unset, .unset, .unset, .unset, .unset, .unset] [(.int (2 : Int32)), (.ref b14)]))
        refine own_by (fun _ k => XS.iload X285.here hx rfl (hb hby at_149) rfl k) ?_
        show own_Go _ _ _ _ (T285.setTop (mkF m 151 #[.val (.int p1), .val (.int p2), .val (.int p3), .val (.int p4), .val (.int p5), .val (.int p6), .val (.int v6_1), .val (.int v7_2), .val (.int v8_3), .val (.int v9_4), .val (.int v10_5), .val (.int v11_6), .val (.int v12_7), .val (.int v13_8), .val (.int v14_9), .val (.int v15_10), .val (.int v16_11), .val (.int v17_12), .val (.int v18_13), .val (.ref b14), .unset, .unset, .unset, .unset, .unset, .unset, .unset, .unset, .unset, .unset] [(.int v18_13), (.int (2 : Int32)), (.ref b14)]))
        refine own_ias X285 hx hZ e285 A285 2 (by decide) (own_ltn hc302 hln (by decide) : 2 < ln) (hb hby at_151) ?_
        intro T303 h303 X303 e303 W303 A303
        have f304 := f286.wr W303 (Or.inr nw14)
        have f305 := f287.wr W303
        have f306 := f288.other W303 ne15
        have f307 := f289.wr W303
        have N303 := Fr.snoc X303 N285 ge14
        have Z303 := own_size_wr W303 Z285
        obtain ⟨fn303, hfn303⟩ : ∃ gf_ : Nat → Int32, gf_ = own_upd fn285 2 v18_13 := ⟨_, rfl⟩
        rw [← hfn303] at A303
        show own_Go _ _ _ _ (T303.setTop (mkF m 152 #[.val (.int p1), .val (.int p2), .val (.int p3), .val (.int p4), .val (.int p5), .val (.int p6), .val (.int v6_1), .val (.int v7_2), .val (.int v8_3), .val (.int v9_4), .val (.int v10_5), .val (.int v11_6), .val (.int v12_7), .val (.int v13_8), .val (.int v14_9), .val (.int v15_10), .val (.int v16_11), .val (.int v17_12), .val (.int v18_13), .val (.ref b14), .unset, .unset, .unset, .unset, .unset, .unset, .unset, .unset, .unset, .unset] []))
        exact tail _ _ _ fn303 X303 e303 N303 Z303 f304 A303 (by rw [hfn303]; exact own_bd_upd (by rw [hfn285]; exact own_bd_upd (own_bd0 hN1) ⟨i16, hi16, hl16⟩) ⟨i18, hi18, hl18⟩) f305 f306 f307
      · --
        refine own_by (fun _ k => XS.icmpYes X285.here hx rfl (pc0 := 143) (pc' := 152) rfl (hb hby at_143) rfl (flt hc302).2.2.2 (by decide) (by decide) k) ?_
        show own_Go _ _ _ _ (T285.setTop (mkF m 152 #[.val (.int p1), .val (.int p2), .val (.int p3), .val (.int p4), .val (.int p5), .val (.int p6), .val (.int v6_1), .val (.int v7_2), .val (.int v8_3), .val (.int v9_4), .val (.int v10_5), .val (.int v11_6), .val (.int v12_7), .val (.int v13_8), .val (.int v14_9), .val (.int v15_10), .val (.int v16_11), .val (.int v17_12), .val (.int v18_13), .val (.ref b14), .unset, .unset, .unset, .unset, .unset, .unset, .unset, .unset, .unset, .unset] []))
        exact tail _ _ _ fn285 X285 e285 N285 Z285 f286 A285 (by rw [hfn285]; exact own_bd_upd (own_bd0 hN1) ⟨i16, hi16, hl16⟩) f287 f288 f289
  · --
    refine own_by (fun _ k => XS.ifYes X14.here hx rfl (pc0 := 119) (pc' := 128) rfl (hb hby at_119) rfl ((if0 _ _).trans (flt hc284).2.2.2) (by decide) (by decide) k) ?_
    refine own_by (fun _ k => XS.iload X14.here hx rfl (hb hby at_128) rfl k) ?_
    refine own_by (fun _ k => XS.iconst X14.here hx rfl (hb hby at_130) k) ?_
    show own_Go _ _ _ _ (T14.setTop (mkF m 131 #[.val (.int p1), .val (.int p2), .val (.int p3), .val (.int p4), .val (.int p5), .val (.int p6), .val (.int v6_1), .val (.int v7_2), .val (.int v8_3), .val (.int v9_4), .val (.int v10_5), .val (.int v11_6), .val (.int v12_7), .val (.int v13_8), .val (.int v14_9), .val (.int v15_10), .val (.int v16_11), .val (.int v17_12), .val (.int v18_13), .val (.ref b14), .unset, .unset, .unset, .unset, .unset, .unset, .unset, .unset, .unset, .unset] [(.int (1 : Int32)), (.int v7_2)]))
    by_cases hc308 : (1 : Int32) < v7_2
    · --
      refine own_by (fun _ k => XS.icmpNo X14.here hx rfl (hb hby at_131) rfl (tlt hc308).2.2.2 k) ?_
      refine own_by (fun _ k => XS.aload X14.here hx rfl (hb hby at_134) rfl rfl k) ?_
      refine own_by (fun _ k => XS.iconst X14.here hx rfl (hb hby at_136) k) ?_
      show own_Go _ _ _ _ (T14.setTop (mkF m 137 #[.val (.int p1), .val (.int p2), .val (.int p3), .val (.int p4), .val (.int p5), .val (.int p6), .val (.int v6_1), .val (.int v7_2), .val (.int v8_3), .val (.int v9_4), .val (.int v10_5), .val (.int v11_6), .val (.int v12_7), .val (.int v13_8), .val (.int v14_9), .val (.int v15_10), .val (.int v16_11), .val (.int v17_12), .val (.int v18_13), .val (.ref b14), .unset, .unset, .unset, .unset, .unset, .unset, .unset, .unset, .unset, .unset] [(.int (1 : Int32)), (.ref b14)]))
      refine own_by (fun _ k => XS.iload X14.here hx rfl (hb hby at_137) rfl k) ?_
      show own_Go _ _ _ _ (T14.setTop (mkF m 139 #[.val (.int p1), .val (.int p2), .val (.int p3), .val (.int p4), .val (.int p5), .val (.int p6), .val (.int v6_1), .val (.int v7_2), .val (.int v8_3), .val (.int v9_4), .val (.int v10_5), .val (.int v11_6), .val (.int v12_7), .val (.int v13_8), .val (.int v14_9), .val (.int v15_10), .val (.int v16_11), .val (.int v17_12), .val (.int v18_13), .val (.ref b14), .unset, .unset, .unset, .unset, .unset, .unset, .unset, .unset, .unset, .unset] [(.int v17_12), (.int (1 : Int32)), (.ref b14)]))
      refine own_ias X14 hx hZ e14 f21 1 (by decide) (own_ltn hc308 hln (by decide) : 1 < ln) (hb hby at_139) ?_
      intro T309 h309 X309 e309 W309 A309
      have f310 := f17.wr W309 (Or.inr nw14)
      have f311 := f18.wr W309
      have f312 := f19.other W309 ne15
      have f313 := f20.wr W309
      have N309 := Fr.snoc X309 N0 ge14
      have Z309 := own_size_wr W309 Z14
      obtain ⟨fn309, hfn309⟩ : ∃ gf_ : Nat → Int32, gf_ = own_upd (fun _ => 0) 1 v17_12 := ⟨_, rfl⟩
      rw [← hfn309] at A309
      show own_Go _ _ _ _ (T309.setTop (mkF m 140 #[.val (.int p1), .val (.int p2), .val (.int p3), .val (.int p4), .val (.int p5), .val (.int p6), .val (.int v6_1), .val (.int v7_2), .val (.int v8_3), .val (.int v9_4), .val (.int v10_5), .val (.int v11_6), .val (.int v12_7), .val (.int v13_8), .val (.int v14_9), .val (.int v15_10), .val (.int v16_11), .val (.int v17_12), .val (.int v18_13), .val (.ref b14), .unset, .unset, .unset, .unset, .unset, .unset, .unset, .unset, .unset, .unset] []))
      refine own_by (fun _ k => XS.iload X309.here hx rfl (hb hby at_140) rfl k) ?_
      refine own_by (fun _ k => XS.iconst X309.here hx rfl (hb hby at_142) k) ?_
      show own_Go _ _ _ _ (T309.setTop (mkF m 143 #[.val (.int p1), .val (.int p2), .val (.int p3), .val (.int p4), .val (.int p5), .val (.int p6), .val (.int v6_1), .val (.int v7_2), .val (.int v8_3), .val (.int v9_4), .val (.int v10_5), .val (.int v11_6), .val (.int v12_7), .val (.int v13_8), .val (.int v14_9), .val (.int v15_10), .val (.int v16_11), .val (.int v17_12), .val (.int v18_13), .val (.ref b14), .unset, .unset, .unset, .unset, .unset, .unset, .unset, .unset, .unset, .unset] [(.int (2 : Int32)), (.int v7_2)]))
      by_cases hc314 : (2 : Int32) < v7_2
      · --
        refine own_by (fun _ k => XS.icmpNo X309.here hx rfl (hb hby at_143) rfl (tlt hc314).2.2.2 k) ?_
        refine own_by (fun _ k => XS.aload X309.here hx rfl (hb hby at_146) rfl rfl k) ?_
        refine own_by (fun _ k => XS.iconst X309.here hx rfl (hb hby at_148) k) ?_
        show own_Go _ _ _ _ (T309.setTop (mkF m 149 #[.val (.int p1), .val (.int p2), .val (.int p3), .val (.int p4), .val (.int p5), .val (.int p6), .val (.int v6_1), .val (.int v7_2), .val (.int v8_3), .val (.int v9_4), .val (.int v10_5), .val (.int v11_6), .val (.int v12_7), .val (.int v13_8), .val (.int v14_9), .val (.int v15_10), .val (.int v16_11), .val (.int v17_12), .val (.int v18_13), .val (.ref b14), .unset, .unset, .unset, .unset, .unset, .unset, .unset, .unset, .unset, .unset] [(.int (2 : Int32)), (.ref b14)]))
        refine own_by (fun _ k => XS.iload X309.here hx rfl (hb hby at_149) rfl k) ?_
        show own_Go _ _ _ _ (T309.setTop (mkF m 151 #[.val (.int p1), .val (.int p2), .val (.int p3), .val (.int p4), .val (.int p5), .val (.int p6), .val (.int v6_1), .val (.int v7_2), .val (.int v8_3), .val (.int v9_4), .val (.int v10_5), .val (.int v11_6), .val (.int v12_7), .val (.int v13_8), .val (.int v14_9), .val (.int v15_10), .val (.int v16_11), .val (.int v17_12), .val (.int v18_13), .val (.ref b14), .unset, .unset, .unset, .unset, .unset, .unset, .unset, .unset, .unset, .unset] [(.int v18_13), (.int (2 : Int32)), (.ref b14)]))
        refine own_ias X309 hx hZ e309 A309 2 (by decide) (own_ltn hc314 hln (by decide) : 2 < ln) (hb hby at_151) ?_
        intro T315 h315 X315 e315 W315 A315
        have f316 := f310.wr W315 (Or.inr nw14)
        have f317 := f311.wr W315
        have f318 := f312.other W315 ne15
        have f319 := f313.wr W315
        have N315 := Fr.snoc X315 N309 ge14
        have Z315 := own_size_wr W315 Z309
        obtain ⟨fn315, hfn315⟩ : ∃ gf_ : Nat → Int32, gf_ = own_upd fn309 2 v18_13 := ⟨_, rfl⟩
        rw [← hfn315] at A315
        show own_Go _ _ _ _ (T315.setTop (mkF m 152 #[.val (.int p1), .val (.int p2), .val (.int p3), .val (.int p4), .val (.int p5), .val (.int p6), .val (.int v6_1), .val (.int v7_2), .val (.int v8_3), .val (.int v9_4), .val (.int v10_5), .val (.int v11_6), .val (.int v12_7), .val (.int v13_8), .val (.int v14_9), .val (.int v15_10), .val (.int v16_11), .val (.int v17_12), .val (.int v18_13), .val (.ref b14), .unset, .unset, .unset, .unset, .unset, .unset, .unset, .unset, .unset, .unset] []))
        exact tail _ _ _ fn315 X315 e315 N315 Z315 f316 A315 (by rw [hfn315]; exact own_bd_upd (by rw [hfn309]; exact own_bd_upd (own_bd0 hN1) ⟨i17, hi17, hl17⟩) ⟨i18, hi18, hl18⟩) f317 f318 f319
      · --
        refine own_by (fun _ k => XS.icmpYes X309.here hx rfl (pc0 := 143) (pc' := 152) rfl (hb hby at_143) rfl (flt hc314).2.2.2 (by decide) (by decide) k) ?_
        show own_Go _ _ _ _ (T309.setTop (mkF m 152 #[.val (.int p1), .val (.int p2), .val (.int p3), .val (.int p4), .val (.int p5), .val (.int p6), .val (.int v6_1), .val (.int v7_2), .val (.int v8_3), .val (.int v9_4), .val (.int v10_5), .val (.int v11_6), .val (.int v12_7), .val (.int v13_8), .val (.int v14_9), .val (.int v15_10), .val (.int v16_11), .val (.int v17_12), .val (.int v18_13), .val (.ref b14), .unset, .unset, .unset, .unset, .unset, .unset, .unset, .unset, .unset, .unset] []))
        exact tail _ _ _ fn309 X309 e309 N309 Z309 f310 A309 (by rw [hfn309]; exact own_bd_upd (own_bd0 hN1) ⟨i17, hi17, hl17⟩) f311 f312 f313
    · --
      refine own_by (fun _ k => XS.icmpYes X14.here hx rfl (pc0 := 131) (pc' := 140) rfl (hb hby at_131) rfl (flt hc308).2.2.2 (by decide) (by decide) k) ?_
      refine own_by (fun _ k => XS.iload X14.here hx rfl (hb hby at_140) rfl k) ?_
      refine own_by (fun _ k => XS.iconst X14.here hx rfl (hb hby at_142) k) ?_
      show own_Go _ _ _ _ (T14.setTop (mkF m 143 #[.val (.int p1), .val (.int p2), .val (.int p3), .val (.int p4), .val (.int p5), .val (.int p6), .val (.int v6_1), .val (.int v7_2), .val (.int v8_3), .val (.int v9_4), .val (.int v10_5), .val (.int v11_6), .val (.int v12_7), .val (.int v13_8), .val (.int v14_9), .val (.int v15_10), .val (.int v16_11), .val (.int v17_12), .val (.int v18_13), .val (.ref b14), .unset, .unset, .unset, .unset, .unset, .unset, .unset, .unset, .unset, .unset] [(.int (2 : Int32)), (.int v7_2)]))
      by_cases hc320 : (2 : Int32) < v7_2
      · --
        refine own_by (fun _ k => XS.icmpNo X14.here hx rfl (hb hby at_143) rfl (tlt hc320).2.2.2 k) ?_
        refine own_by (fun _ k => XS.aload X14.here hx rfl (hb hby at_146) rfl rfl k) ?_
        refine own_by (fun _ k => XS.iconst X14.here hx rfl (hb hby at_148) k) ?_
        show own_Go _ _ _ _ (T14.setTop (mkF m 149 #[.val (.int p1), .val (.int p2), .val (.int p3), .val (.int p4), .val (.int p5), .val (.int p6), .val (.int v6_1), .val (.int v7_2), .val (.int v8_3), .val (.int v9_4), .val (.int v10_5), .val (.int v11_6), .val (.int v12_7), .val (.int v13_8), .val (.int v14_9), .val (.int v15_10), .val (.int v16_11), .val (.int v17_12), .val (.int v18_13), .val (.ref b14), .unset, .unset, .unset, .unset, .unset, .unset, .unset, .unset, .unset, .unset] [(.int (2 : Int32)), (.ref b14)]))
        refine own_by (fun _ k => XS.iload X14.here hx rfl (hb hby at_149) rfl k) ?_
        show own_Go _ _ _ _ (T14.setTop (mkF m 151 #[.val (.int p1), .val (.int p2), .val (.int p3), .val (.int p4), .val (.int p5), .val (.int p6), .val (.int v6_1), .val (.int v7_2), .val (.int v8_3), .val (.int v9_4), .val (.int v10_5), .val (.int v11_6), .val (.int v12_7), .val (.int v13_8), .val (.int v14_9), .val (.int v15_10), .val (.int v16_11), .val (.int v17_12), .val (.int v18_13), .val (.ref b14), .unset, .unset, .unset, .unset, .unset, .unset, .unset, .unset, .unset, .unset] [(.int v18_13), (.int (2 : Int32)), (.ref b14)]))
        refine own_ias X14 hx hZ e14 f21 2 (by decide) (own_ltn hc320 hln (by decide) : 2 < ln) (hb hby at_151) ?_
        intro T321 h321 X321 e321 W321 A321
        have f322 := f17.wr W321 (Or.inr nw14)
        have f323 := f18.wr W321
        have f324 := f19.other W321 ne15
        have f325 := f20.wr W321
        have N321 := Fr.snoc X321 N0 ge14
        have Z321 := own_size_wr W321 Z14
        obtain ⟨fn321, hfn321⟩ : ∃ gf_ : Nat → Int32, gf_ = own_upd (fun _ => 0) 2 v18_13 := ⟨_, rfl⟩
        rw [← hfn321] at A321
        show own_Go _ _ _ _ (T321.setTop (mkF m 152 #[.val (.int p1), .val (.int p2), .val (.int p3), .val (.int p4), .val (.int p5), .val (.int p6), .val (.int v6_1), .val (.int v7_2), .val (.int v8_3), .val (.int v9_4), .val (.int v10_5), .val (.int v11_6), .val (.int v12_7), .val (.int v13_8), .val (.int v14_9), .val (.int v15_10), .val (.int v16_11), .val (.int v17_12), .val (.int v18_13), .val (.ref b14), .unset, .unset, .unset, .unset, .unset, .unset, .unset, .unset, .unset, .unset] []))
        exact tail _ _ _ fn321 X321 e321 N321 Z321 f322 A321 (by rw [hfn321]; exact own_bd_upd (own_bd0 hN1) ⟨i18, hi18, hl18⟩) f323 f324 f325
      · --
        refine own_by (fun _ k => XS.icmpYes X14.here hx rfl (pc0 := 143) (pc' := 152) rfl (hb hby at_143) rfl (flt hc320).2.2.2 (by decide) (by decide) k) ?_
        show own_Go _ _ _ _ (T14.setTop (mkF m 152 #[.val (.int p1), .val (.int p2), .val (.int p3), .val (.int p4), .val (.int p5), .val (.int p6), .val (.int v6_1), .val (.int v7_2), .val (.int v8_3), .val (.int v9_4), .val (.int v10_5), .val (.int v11_6), .val (.int v12_7), .val (.int v13_8), .val (.int v14_9), .val (.int v15_10), .val (.int v16_11), .val (.int v17_12), .val (.int v18_13), .val (.ref b14), .unset, .unset, .unset, .unset, .unset, .unset, .unset, .unset, .unset, .unset] []))
        exact tail _ _ _ (fun _ => 0) X14 e14 N0 Z14 f17 f21 (own_bd0 hN1) f18 f19 f20
theorem own_eqi {args : Array Value} {s : State} {t : Term} {k : Int32} (h : (Jvm.Cond.eq t (.int k)).value args s none s [] = some true) : t.eval args s none [] s = some (.int k) := by
  cases e : t.eval args s none [] s with
  | none => simp [Cond.value, e] at h
  | some v => cases v <;> simp [Cond.value, Term.eval, e] at h ⊢; exact h
theorem own_arr0 {s : State} {args : Array Value} {t : Term} {C : String} {a : Addr} (ev : t.eval args s none [] s = some (.ref a)) (h1 : (Jvm.Cond.arrayOf t (.object C)).value args s none s [] = some true) (h2 : (Jvm.Cond.eq (.length t) (.int 0)).value args s none s [] = some true) : ∃ f, own_Ar s s.heap a (.object C) 0 f := by
  obtain ⟨cl, A⟩ := Arr.start ev h1
  have e := own_eqi h2
  obtain ⟨x, c2, e1, e2, e3⟩ := Term.length_spec e
  cases ev.symm.trans e1
  obtain ⟨q, -⟩ := State.arrayAt?_spec e2
  cases A.1.symm.trans q
  have hl : cl.slots.size < 2 ^ 31 := Classical.byContradiction fun hn => by
    simp [Term.eval, ev, e2] at e; omega
  have z := len_toInt hl
  have e4 : (0 : Int32) = cl.slots.size.toInt32 := by injection e3
  have l0 : (0 : Int32).toInt = 0 := by decide
  rw [← e4, l0] at z
  exact ⟨fun _ => .null, cl, A, by omega, fun j hj => absurd hj (Nat.not_lt_zero _)⟩
set_option maxRecDepth 65536 in
set_option maxHeartbeats 40000000 in
theorem comes_1 {Post : Tables → Env → Array Value → State → Outcome → State → Prop} (hpost : ∀ tb e args s v u, (limb_1_1.after args s (.returned v) u = true ∧ limb_1_2.after args s (.returned v) u = true ∧ True) → FrameEnd s (.returned v) u (Jvm.fieldLocs frame_1_writes args s ++ Jvm.arrayLocs frame_1_arrays args s ++ Jvm.staticLocs frame_1_statics s) 88 256 → Post tb e args s (.returned v) u) :
    ArmFor flags0 classFile x code maxLocals ret World_1 tables_1 room_1 Calls_1 rest_1 Pre_1 Post := by
  intro l hfl _ _ p e ha hc hk s m args below hf hA hF happ hP
  obtain ⟨hcalls, hrest, hpre⟩ := hP
  obtain ⟨-, -, -, hnamed, -, -, -, hat⟩ := (Spec.applies_iff hf).mp happ
  obtain ⟨hg, hn⟩ := and_e (Cond.before_iff.mp (show (Jvm.Cond.and given_1 narrow_1).before args s = true from hpre))
  obtain ⟨g1, g2⟩ := and_e hg
  obtain ⟨g3, g4⟩ := and_e g2
  obtain ⟨g5, g6⟩ := and_e g4
  obtain ⟨g7, g8⟩ := and_e g6
  obtain ⟨g9, g10⟩ := and_e g8
  obtain ⟨g11, g12⟩ := and_e g10
  obtain ⟨w0, w1, w2, w3, w4, w5, rfl⟩ : ∃ w0 w1 w2 w3 w4 w5 : Value, args = #[w0, w1, w2, w3, w4, w5] := by
    have hs : args.size = 6 := by simpa [Cond.value, given_1] using g1
    obtain ⟨L⟩ := args
    match L, hs with
    | [w0, w1, w2, w3, w4, w5], _ => exact ⟨w0, w1, w2, w3, w4, w5, rfl⟩
  have hw := fun d (hd : d ∈ tables_1) => atoms_spec (ws := Jvm.Cond.code x code maxLocals ret :: tables_1) hat d (List.mem_cons_of_mem _ hd)
  have hfit : Fit s := fun {y c} hc i hi => by
    obtain ⟨ha, rfl⟩ := Array.getElem?_eq_some_iff.mp hc
    have q := List.all_eq_true.mp ((Array.all_eq_true_iff_forall_mem.mp hF) _ (Array.getElem_mem ha)) i (List.mem_range.mpr hi)
    simpa [Array.getElem?_eq_getElem hi] using q
  obtain ⟨hsets, hown0⟩ := atoms_of _ (rest_1_c_eq ▸ (show rest_1_c.before _ s = true from hrest))
  have hr0 := Cond.before_iff.mp hown0
  obtain ⟨i0, ei0⟩ := is_v g3
  obtain rfl : w0 = (.int i0) := Option.some.inj ei0
  obtain ⟨i1, ei1⟩ := is_v g5
  obtain rfl : w1 = (.int i1) := Option.some.inj ei1
  obtain ⟨i2, ei2⟩ := is_v g7
  obtain rfl : w2 = (.int i2) := Option.some.inj ei2
  obtain ⟨i3, ei3⟩ := is_v g9
  obtain rfl : w3 = (.int i3) := Option.some.inj ei3
  obtain ⟨i4, ei4⟩ := is_v g11
  obtain rfl : w4 = (.int i4) := Option.some.inj ei4
  obtain ⟨i5, ei5⟩ := is_v g12
  obtain rfl : w5 = (.int i5) := Option.some.inj ei5
  have j2 := hsets _ (List.mem_of_getElem? (i := 2) rfl)
  have j6 := Cond.before_iff.mp (hsets _ (List.mem_of_getElem? (i := 6) rfl))
  have j7 := Cond.before_iff.mp (hsets _ (List.mem_of_getElem? (i := 7) rfl))
  have j8 := Cond.before_iff.mp (hsets _ (List.mem_of_getElem? (i := 8) rfl))
  obtain ⟨dc, edc⟩ := exa_v j7
  have PS : Sta s s.heap "java/util/ArrayList" "DEFAULTCAPACITY_EMPTY_ELEMENTDATA" "[Ljava/lang/Object;" (.ref dc) := Sta.start edc (Or.inr ⟨(hw _ (List.mem_of_getElem? (i := 12) rfl)), j2⟩)
  obtain ⟨fd, PC⟩ := own_arr0 edc j6 j8
  obtain ⟨sa, cK, PSt⟩ := own_siteOf (x := (⟨"com/example/sonde/sonde/engine/AnswerSets", "<init>", "(I)V"⟩ : MethodName)) (pc := 49) (index := 30) (σ := own_sg) (hw _ (List.mem_of_getElem? (i := 55) rfl)) rfl
  obtain ⟨n, o, h1, h2, h3, _, L, rfl, ⟨rfl, N⟩, hq⟩ := rm0 l s _ hw tables_1 i0 i1 i2 i3 i4 i5 dc sa cK fd s.heap s.heap.size (Nat.le_refl _) PS PC PC.lt PSt.2.1 PSt p e ha hc hk s m _ below hf ((Spec.applies_iff_loose hf).mp happ).1 ⟨rfl, State.Warmed39.refl s, rfl, State.WarmedH.refl s⟩ trivial
  refine ⟨n, _, h1, h2, h3, hpost _ _ _ _ _ _ ⟨Cond.after_iff.mpr rfl, Cond.after_iff.mpr (eq_i res_at (Term.int_eval (1)) rfl), trivial⟩ ⟨hq.1, hq.2.1, (hq.2.2.sift fun y hy => Or.inr (N y hy)).mono (by decide) (by decide)⟩⟩
theorem main_1_1 : Claimed_1_1 := comes_1 fun _ _ _ _ _ _ h hF => ⟨h.1, Jvm.LamKit.wideOf hF⟩
theorem main_1_2 : Claimed_1_2 := comes_1 fun _ _ _ _ _ _ h hF => ⟨h.2.1, Jvm.LamKit.wideOf hF⟩
end Jvm.Pilot.@@N@@
namespace Jvm.Pilot.@@N@@
open Jvm Jvm.ClassFile Sem Op Lib Jvm.Free Jvm.Stand Jvm.Pilot.@@N@@.Jvm.D
/-! MADE BY PROGRAM (witnessworld.py) out of the Statement's table words and the real class files: 28 classes; the members and pool entries that the words name. The judged class is class 1, her method 2. -/
namespace start1
open Jvm.ClassFile
def u (s : String) : CpInfo := .utf8 (stringToUtf16 s)
/-- a pool by its gaps: so many unusable entries, then the entry; so many at the end -/
def gap : Nat → List CpInfo → List CpInfo
  | 0, r => r
  | n + 1, r => .unusable :: gap n r
def poolList (es : List (Nat × CpInfo)) (last : Nat) : List CpInfo := es.foldr (fun e r => gap e.1 (e.2 :: r)) (gap last [])
def pool (es : List (Nat × CpInfo)) (last : Nat) : Array CpInfo := ⟨poolList es last⟩
def fileOf (pool : Array CpInfo) (this : Nat) (attrs : Array Attribute := #[]) (ms : Array MethodInfo := #[]) (fl : Nat := 33) (sup : Nat := 0) (ifs : Array Nat := #[]) (fds : Array FieldInfo := #[]) : ClassFile where
  minorVersion := 0
  majorVersion := 65
  constantPool := pool
  accessFlags := fl
  thisClass := this
  superClass := sup
  interfaces := ifs
  fields := fds
  methods := ms
  attributes := attrs
def plain (name : String) (sup : Option ClassId) : Class where
  name := name
  kind := .ordinary
  loader := none
  accessFlags := 33
  super := sup
  interfaces := #[]
  cf := none
  fields := #[]
  methods := #[]
  instanceTypes := #[]
  staticTypes := #[]
  resolved := #[]
  callSites := []
  init := .initialized
  statics := none
  mirror := none

def pool0 : Array CpInfo := pool [(5, u "<init>"), (0, u "()V"), (1, .class_ 10), (1, u "java/lang/Object"), (85, u "clone"), (0, u "()Ljava/lang/Object;")] 26

def k0c0 : Code := { maxStack := 0, maxLocals := 1, code := object_method_1_code, exceptionTable := #[], attributes := #[] }
def k0m0 : Method := { name := "<init>", desc := "()V", sig := { parameters := [], returnType := none }, accessFlags := 1, code := some k0c0 }
def k0m1 : Method := { name := "clone", desc := "()Ljava/lang/Object;", sig := { parameters := [], returnType := some (.object "java/lang/Object") }, accessFlags := 260, code := none }
/-- java/lang/Object -/
def k0 : Class := { plain "java/lang/Object" none with
  accessFlags := 33
  interfaces := #[]
  cf := some (fileOf pool0 8 #[] #[{ accessFlags := 1, nameIndex := 5, descriptorIndex := 6, attributes := #[] }, { accessFlags := 260, nameIndex := 96, descriptorIndex := 97, attributes := #[] }] 33 0 #[] #[])
  fields := #[]
  methods := #[k0m0, k0m1]
  instanceTypes := #[]
  staticTypes := #[]
  resolved := Array.replicate 124 none
  statics := none }

def pool1 : Array CpInfo := pool [(2, .class_ 4), (1, u "java/lang/Object"), (0, u "<init>"), (0, u "()V"), (0, .class_ 8), (0, u "com/example/sonde/sonde/engine/AnswerSets"), (0, .methodref 7 10), (0, .nameAndType 5 11), (0, u "(I)V"), (0, .methodref 7 13), (0, .nameAndType 14 15), (0, u "noteHolding"), (0, u "(III)V"), (0, .methodref 7 17), (0, .nameAndType 18 19), (0, u "holding"), (0, u "([II)Lcom/example/sonde/sonde/engine/Bits;"), (0, .methodref 21 22), (0, .class_ 23), (0, .nameAndType 24 25), (0, u "com/example/sonde/sonde/engine/Bits"), (0, u "get"), (0, u "(I)Z"), (0, .methodref 27 28), (0, .class_ 29), (0, .nameAndType 30 31), (0, u "com/example/sonde/sonde/engine/AnswerSetsHoldingPinLaw"), (0, u "expect"), (0, u "(IIZIZ)Z"), (3, u "law"), (0, u "(IIIIII)Z")] 4

def k1m0 : Method := { name := "<init>", desc := "()V", sig := { parameters := [], returnType := none }, accessFlags := 1, code := none }
def k1c1 : Code := { maxStack := 2, maxLocals := 5, code := method_2_code, exceptionTable := #[], attributes := #[] }
def k1m1 : Method := { name := "expect", desc := "(IIZIZ)Z", sig := { parameters := [.int, .int, .boolean, .int, .boolean], returnType := some .boolean }, accessFlags := 10, code := some k1c1 }
def k1c2 : Code := { maxStack := 6, maxLocals := 30, code := code, exceptionTable := #[], attributes := #[] }
def k1m2 : Method := { name := "law", desc := "(IIIIII)Z", sig := { parameters := [.int, .int, .int, .int, .int, .int], returnType := some .boolean }, accessFlags := 9, code := some k1c2 }
/-- com/example/sonde/sonde/engine/AnswerSetsHoldingPinLaw -/
def k1 : Class := { plain "com/example/sonde/sonde/engine/AnswerSetsHoldingPinLaw" (some 0) with
  accessFlags := 49
  interfaces := #[]
  cf := some (fileOf pool1 27 #[] #[{ accessFlags := 1, nameIndex := 5, descriptorIndex := 6, attributes := #[] }, { accessFlags := 10, nameIndex := 30, descriptorIndex := 31, attributes := #[] }, { accessFlags := 9, nameIndex := 35, descriptorIndex := 36, attributes := #[] }] 49 2 #[] #[])
  fields := #[]
  methods := #[k1m0, k1m1, k1m2]
  instanceTypes := #[]
  staticTypes := #[]
  resolved := Array.replicate 41 none
  statics := none }

def pool2 : Array CpInfo := pool [(1, .methodref 2 3), (0, .class_ 4), (0, .nameAndType 5 6), (0, u "java/lang/Object"), (0, u "<init>"), (0, u "()V"), (0, .class_ 8), (0, u "java/util/ArrayList"), (0, .methodref 7 3), (0, .fieldref 11 12), (0, .class_ 13), (0, .nameAndType 14 15), (0, u "com/example/sonde/sonde/engine/AnswerSets"), (0, u "drawing"), (0, u "Ljava/util/List;"), (0, .class_ 17), (0, u "com/example/sonde/sonde/engine/Bits"), (0, .methodref 16 3), (0, .fieldref 11 20), (0, .nameAndType 21 22), (0, u "deep"), (0, u "Lcom/example/sonde/sonde/engine/Bits;"), (0, .fieldref 11 24), (0, .nameAndType 25 22), (0, u "none"), (0, .fieldref 11 27), (0, .nameAndType 28 29), (0, u "answering"), (0, u "[Lcom/example/sonde/sonde/engine/Bits;"), (0, .invokeDynamic 0 31), (0, .nameAndType 32 33), (0, u "apply"), (0, u "()Ljava/util/function/IntFunction;"), (0, .methodref 35 36), (0, .class_ 37), (0, .nameAndType 38 39), (0, u "java/util/Arrays"), (0, u "setAll"), (0, u "([Ljava/lang/Object;Ljava/util/function/IntFunction;)V"), (0, .fieldref 11 41), (0, .nameAndType 42 29), (0, u "holding"), (0, .interfaceMethodref 44 45), (0, .class_ 46), (0, .nameAndType 47 48), (0, u "java/util/List"), (0, u "add"), (0, u "(Ljava/lang/Object;)Z"), (0, .methodref 16 50), (0, .nameAndType 51 52), (0, u "set"), (0, u "(I)V"), (3, u "(I)Ljava/lang/Object;"), (20, u "(III)V"), (0, u "noteHolding"), (1, u "(I)Lcom/example/sonde/sonde/engine/Bits;"), (0, u "([II)Lcom/example/sonde/sonde/engine/Bits;"), (2, u "lambda$new$0"), (3, .methodType 56), (0, .methodHandle 6 90), (0, .methodref 11 91), (0, .nameAndType 84 80), (0, .methodType 80), (0, .methodHandle 6 94), (0, .methodref 95 96), (0, .class_ 97), (0, .nameAndType 98 99), (0, u "java/lang/invoke/LambdaMetafactory"), (0, u "metafactory"), (0, u "(Ljava/lang/invoke/MethodHandles$Lookup;Ljava/lang/String;Ljava/lang/invoke/MethodType;Ljava/lang/invoke/MethodType;Ljava/lang/invoke/MethodHandle;Ljava/lang/invoke/MethodType;)Ljava/lang/invoke/CallSite;")] 6

def k2c0 : Code := { maxStack := 3, maxLocals := 3, code := prog_86_method_1_code, exceptionTable := #[], attributes := #[] }
def k2m0 : Method := { name := "<init>", desc := "(I)V", sig := { parameters := [.int], returnType := none }, accessFlags := 0, code := some k2c0 }
def k2c1 : Code := { maxStack := 4, maxLocals := 5, code := prog_86_method_3_code, exceptionTable := #[], attributes := #[] }
def k2m1 : Method := { name := "noteHolding", desc := "(III)V", sig := { parameters := [.int, .int, .int], returnType := none }, accessFlags := 0, code := some k2c1 }
def k2c2 : Code := { maxStack := 5, maxLocals := 4, code := prog_86_method_7_code, exceptionTable := #[], attributes := #[] }
def k2m2 : Method := { name := "holding", desc := "([II)Lcom/example/sonde/sonde/engine/Bits;", sig := { parameters := [(.array .int), .int], returnType := some (.object "com/example/sonde/sonde/engine/Bits") }, accessFlags := 0, code := some k2c2 }
def k2c3 : Code := { maxStack := 2, maxLocals := 1, code := prog_86_method_9_code, exceptionTable := #[], attributes := #[] }
def k2m3 : Method := { name := "lambda$new$0", desc := "(I)Lcom/example/sonde/sonde/engine/Bits;", sig := { parameters := [.int], returnType := some (.object "com/example/sonde/sonde/engine/Bits") }, accessFlags := 4106, code := some k2c3 }
/-- com/example/sonde/sonde/engine/AnswerSets -/
def k2 : Class := { plain "com/example/sonde/sonde/engine/AnswerSets" (some 0) with
  accessFlags := 48
  interfaces := #[]
  cf := some (fileOf pool2 11 #[.bootstrapMethods #[⟨93, #[88, 89, 92]⟩]] #[{ accessFlags := 0, nameIndex := 5, descriptorIndex := 52, attributes := #[] }, { accessFlags := 0, nameIndex := 78, descriptorIndex := 77, attributes := #[] }, { accessFlags := 0, nameIndex := 42, descriptorIndex := 81, attributes := #[] }, { accessFlags := 4106, nameIndex := 84, descriptorIndex := 80, attributes := #[] }] 48 2 #[] #[{ accessFlags := 18, nameIndex := 28, descriptorIndex := 29, attributes := #[] }, { accessFlags := 18, nameIndex := 14, descriptorIndex := 15, attributes := #[] }, { accessFlags := 18, nameIndex := 42, descriptorIndex := 29, attributes := #[] }, { accessFlags := 18, nameIndex := 21, descriptorIndex := 22, attributes := #[] }, { accessFlags := 18, nameIndex := 25, descriptorIndex := 22, attributes := #[] }])
  fields := #[{ name := "answering", type := (.array (.object "com/example/sonde/sonde/engine/Bits")), accessFlags := 18, slot := 0, constantValue := 0 }, { name := "drawing", type := (.object "java/util/List"), accessFlags := 18, slot := 1, constantValue := 0 }, { name := "holding", type := (.array (.object "com/example/sonde/sonde/engine/Bits")), accessFlags := 18, slot := 2, constantValue := 0 }, { name := "deep", type := (.object "com/example/sonde/sonde/engine/Bits"), accessFlags := 18, slot := 3, constantValue := 0 }, { name := "none", type := (.object "com/example/sonde/sonde/engine/Bits"), accessFlags := 18, slot := 4, constantValue := 0 }]
  methods := #[k2m0, k2m1, k2m2, k2m3]
  instanceTypes := #[(.array (.object "com/example/sonde/sonde/engine/Bits")), (.object "java/util/List"), (.array (.object "com/example/sonde/sonde/engine/Bits")), (.object "com/example/sonde/sonde/engine/Bits"), (.object "com/example/sonde/sonde/engine/Bits")]
  staticTypes := #[]
  resolved := Array.replicate 106 none
  callSites := [(0, 49, .constant 1)]
  statics := none }

def pool3 : Array CpInfo := pool [(8, .class_ 10), (1, u "java/lang/Iterable"), (24, .class_ 36), (0, u "java/lang/Object")] 25

/-- java/lang/Iterable -/
def k3 : Class := { plain "java/lang/Iterable" (some 0) with
  accessFlags := 1537
  interfaces := #[]
  cf := some (fileOf pool3 8 #[] #[] 1537 35 #[] #[])
  fields := #[]
  methods := #[]
  instanceTypes := #[]
  staticTypes := #[]
  resolved := Array.replicate 62 none
  statics := none }

def pool4 : Array CpInfo := pool [(10, .class_ 12), (1, u "java/util/Collection"), (47, .class_ 61), (0, u "java/lang/Object"), (0, .class_ 63), (0, u "java/lang/Iterable")] 51

/-- java/util/Collection -/
def k4 : Class := { plain "java/util/Collection" (some 0) with
  accessFlags := 1537
  interfaces := #[3]
  cf := some (fileOf pool4 10 #[] #[] 1537 60 #[62] #[])
  fields := #[]
  methods := #[]
  instanceTypes := #[]
  staticTypes := #[]
  resolved := Array.replicate 115 none
  statics := none }

def pool5 : Array CpInfo := pool [(1, .methodref 2 3), (0, .class_ 4), (0, .nameAndType 5 6), (0, u "java/lang/Object"), (0, u "<init>"), (0, u "()V"), (1, .class_ 10), (1, u "java/util/AbstractCollection"), (66, .class_ 78), (0, u "java/util/Collection")] 81

def k5c0 : Code := { maxStack := 1, maxLocals := 1, code := jdk_22_method_1_code, exceptionTable := #[], attributes := #[] }
def k5m0 : Method := { name := "<init>", desc := "()V", sig := { parameters := [], returnType := none }, accessFlags := 4, code := some k5c0 }
/-- java/util/AbstractCollection -/
def k5 : Class := { plain "java/util/AbstractCollection" (some 0) with
  accessFlags := 1057
  interfaces := #[4]
  cf := some (fileOf pool5 8 #[] #[{ accessFlags := 4, nameIndex := 5, descriptorIndex := 6, attributes := #[] }] 1057 2 #[77] #[])
  fields := #[]
  methods := #[k5m0]
  instanceTypes := #[]
  staticTypes := #[]
  resolved := Array.replicate 160 none
  statics := none }

def pool6 : Array CpInfo := pool [(8, .class_ 10), (1, u "java/util/SequencedCollection"), (15, .class_ 27), (0, u "java/lang/Object"), (0, .class_ 29), (0, u "java/util/Collection")] 27

/-- java/util/SequencedCollection -/
def k6 : Class := { plain "java/util/SequencedCollection" (some 0) with
  accessFlags := 1537
  interfaces := #[4]
  cf := some (fileOf pool6 8 #[] #[] 1537 26 #[28] #[])
  fields := #[]
  methods := #[]
  instanceTypes := #[]
  staticTypes := #[]
  resolved := Array.replicate 57 none
  statics := none }

def pool7 : Array CpInfo := pool [(8, .class_ 10), (1, u "java/util/List"), (49, u "add"), (3, u "(Ljava/lang/Object;)Z"), (38, .class_ 104), (0, u "java/lang/Object"), (15, .class_ 121), (0, u "java/util/SequencedCollection")] 129

def k7m0 : Method := { name := "add", desc := "(Ljava/lang/Object;)Z", sig := { parameters := [(.object "java/lang/Object")], returnType := some .boolean }, accessFlags := 1025, code := none }
/-- java/util/List -/
def k7 : Class := { plain "java/util/List" (some 0) with
  accessFlags := 1537
  interfaces := #[6]
  cf := some (fileOf pool7 8 #[] #[{ accessFlags := 1025, nameIndex := 60, descriptorIndex := 64, attributes := #[] }] 1537 103 #[120] #[])
  fields := #[]
  methods := #[k7m0]
  instanceTypes := #[]
  staticTypes := #[]
  resolved := Array.replicate 251 none
  statics := none }

def pool8 : Array CpInfo := pool [(1, .methodref 2 3), (0, .class_ 4), (0, .nameAndType 5 6), (0, u "java/util/AbstractCollection"), (0, u "<init>"), (0, u "()V"), (0, .fieldref 8 9), (0, .class_ 10), (0, .nameAndType 11 12), (0, u "java/util/AbstractList"), (0, u "modCount"), (0, u "I"), (64, .class_ 78), (0, u "java/util/AbstractList$Itr"), (3, .class_ 83), (0, u "java/util/AbstractList$ListItr"), (9, .class_ 94), (0, u "java/util/AbstractList$RandomAccessSubList"), (3, .class_ 99), (0, u "java/util/AbstractList$SubList"), (33, .class_ 134), (0, u "java/util/List"), (73, .class_ 209), (0, u "java/util/AbstractList$SubList$1"), (0, .class_ 211), (0, u "java/util/AbstractList$RandomAccessSpliterator")] 6

def k8c0 : Code := { maxStack := 2, maxLocals := 1, code := jdk_39_method_1_code, exceptionTable := #[], attributes := #[] }
def k8m0 : Method := { name := "<init>", desc := "()V", sig := { parameters := [], returnType := none }, accessFlags := 4, code := some k8c0 }
/-- java/util/AbstractList -/
def k8 : Class := { plain "java/util/AbstractList" (some 5) with
  accessFlags := 1057
  interfaces := #[7]
  cf := some (fileOf pool8 8 #[.nestMembers #[93, 98, 208, 210, 82, 77]] #[{ accessFlags := 4, nameIndex := 5, descriptorIndex := 6, attributes := #[] }] 1057 2 #[133] #[{ accessFlags := 132, nameIndex := 11, descriptorIndex := 12, attributes := #[] }])
  fields := #[{ name := "modCount", type := .int, accessFlags := 132, slot := 0, constantValue := 0 }]
  methods := #[k8m0]
  instanceTypes := #[.int]
  staticTypes := #[]
  resolved := Array.replicate 218 none
  statics := none }

def pool9 : Array CpInfo := pool [(1, .class_ 2), (0, u "java/util/RandomAccess"), (0, .class_ 4), (0, u "java/lang/Object")] 2

/-- java/util/RandomAccess -/
def k9 : Class := { plain "java/util/RandomAccess" (some 0) with
  accessFlags := 1537
  interfaces := #[]
  cf := some (fileOf pool9 1 #[] #[] 1537 3 #[] #[])
  fields := #[]
  methods := #[]
  instanceTypes := #[]
  staticTypes := #[]
  resolved := Array.replicate 7 none
  statics := none }

def pool10 : Array CpInfo := pool [(1, .class_ 2), (0, u "java/lang/Cloneable"), (0, .class_ 4), (0, u "java/lang/Object")] 2

/-- java/lang/Cloneable -/
def k10 : Class := { plain "java/lang/Cloneable" (some 0) with
  accessFlags := 1537
  interfaces := #[]
  cf := some (fileOf pool10 1 #[] #[] 1537 3 #[] #[])
  fields := #[]
  methods := #[]
  instanceTypes := #[]
  staticTypes := #[]
  resolved := Array.replicate 7 none
  statics := none }

def pool11 : Array CpInfo := pool [(1, .class_ 2), (0, u "java/io/Serializable"), (0, .class_ 4), (0, u "java/lang/Object")] 2

/-- java/io/Serializable -/
def k11 : Class := { plain "java/io/Serializable" (some 0) with
  accessFlags := 1537
  interfaces := #[]
  cf := some (fileOf pool11 1 #[] #[] 1537 3 #[] #[])
  fields := #[]
  methods := #[]
  instanceTypes := #[]
  staticTypes := #[]
  resolved := Array.replicate 7 none
  statics := none }

def pool12 : Array CpInfo := pool [(1, .methodref 2 3), (0, .class_ 4), (0, .nameAndType 5 6), (0, u "java/util/AbstractList"), (0, u "<init>"), (0, u "()V"), (0, .class_ 8), (0, u "java/lang/Object"), (0, .fieldref 10 11), (0, .class_ 12), (0, .nameAndType 13 14), (0, u "java/util/ArrayList"), (0, u "elementData"), (0, u "[Ljava/lang/Object;"), (2, u "EMPTY_ELEMENTDATA"), (21, .fieldref 10 40), (0, .nameAndType 41 14), (0, u "DEFAULTCAPACITY_EMPTY_ELEMENTDATA"), (5, u "()[Ljava/lang/Object;"), (0, .fieldref 10 49), (0, .nameAndType 50 51), (0, u "size"), (0, u "I"), (11, .fieldref 10 64), (0, .nameAndType 65 51), (0, u "modCount"), (3, .methodref 10 70), (0, .nameAndType 71 72), (0, u "grow"), (0, u "(I)[Ljava/lang/Object;"), (6, .methodref 80 81), (0, .class_ 82), (0, .nameAndType 83 84), (0, u "java/lang/Math"), (0, u "max"), (0, u "(II)I"), (11, u "(Ljava/lang/Object;)Z"), (32, .methodref 10 130), (0, .nameAndType 71 47), (0, .methodref 10 132), (0, .nameAndType 133 134), (0, u "add"), (0, u "(Ljava/lang/Object;[Ljava/lang/Object;I)V"), (13, .class_ 149), (0, u "java/util/List"), (112, .class_ 263), (0, u "java/util/ArrayList$ListItr"), (3, .class_ 268), (0, u "java/util/ArrayList$Itr"), (7, .class_ 277), (0, u "java/util/ArrayList$SubList"), (12, .class_ 291), (0, u "java/util/ArrayList$ArrayListSpliterator"), (37, .class_ 330), (0, u "java/util/RandomAccess"), (0, .class_ 332), (0, u "java/lang/Cloneable"), (0, .class_ 334), (0, u "java/io/Serializable"), (0, u "serialVersionUID"), (0, u "J"), (3, u "DEFAULT_CAPACITY"), (159, .class_ 501), (0, u "java/util/ArrayList$SubList$2"), (0, .class_ 503), (0, u "java/util/ArrayList$SubList$1")] 5

def k12c0 : Code := { maxStack := 2, maxLocals := 1, code := jdk_38_method_2_code, exceptionTable := #[], attributes := #[] }
def k12m0 : Method := { name := "<init>", desc := "()V", sig := { parameters := [], returnType := none }, accessFlags := 1, code := some k12c0 }
def k12c1 : Code := { maxStack := 4, maxLocals := 4, code := jdk_38_method_6_code, exceptionTable := #[], attributes := #[] }
def k12m1 : Method := { name := "grow", desc := "(I)[Ljava/lang/Object;", sig := { parameters := [.int], returnType := some (.array (.object "java/lang/Object")) }, accessFlags := 2, code := some k12c1 }
def k12c2 : Code := { maxStack := 3, maxLocals := 1, code := jdk_38_method_7_code, exceptionTable := #[], attributes := #[] }
def k12m2 : Method := { name := "grow", desc := "()[Ljava/lang/Object;", sig := { parameters := [], returnType := some (.array (.object "java/lang/Object")) }, accessFlags := 2, code := some k12c2 }
def k12c3 : Code := { maxStack := 3, maxLocals := 4, code := jdk_38_method_24_code, exceptionTable := #[], attributes := #[] }
def k12m3 : Method := { name := "add", desc := "(Ljava/lang/Object;[Ljava/lang/Object;I)V", sig := { parameters := [(.object "java/lang/Object"), (.array (.object "java/lang/Object")), .int], returnType := none }, accessFlags := 2, code := some k12c3 }
def k12c4 : Code := { maxStack := 4, maxLocals := 2, code := jdk_38_method_25_code, exceptionTable := #[], attributes := #[] }
def k12m4 : Method := { name := "add", desc := "(Ljava/lang/Object;)Z", sig := { parameters := [(.object "java/lang/Object")], returnType := some .boolean }, accessFlags := 1, code := some k12c4 }
/-- java/util/ArrayList -/
def k12 : Class := { plain "java/util/ArrayList" (some 8) with
  accessFlags := 33
  interfaces := #[7, 9, 10, 11]
  cf := some (fileOf pool12 10 #[.nestMembers #[290, 276, 500, 502, 262, 267]] #[{ accessFlags := 1, nameIndex := 5, descriptorIndex := 6, attributes := #[] }, { accessFlags := 2, nameIndex := 71, descriptorIndex := 72, attributes := #[] }, { accessFlags := 2, nameIndex := 71, descriptorIndex := 47, attributes := #[] }, { accessFlags := 2, nameIndex := 133, descriptorIndex := 134, attributes := #[] }, { accessFlags := 1, nameIndex := 133, descriptorIndex := 96, attributes := #[] }] 33 2 #[148, 329, 331, 333] #[{ accessFlags := 26, nameIndex := 335, descriptorIndex := 336, attributes := #[] }, { accessFlags := 26, nameIndex := 340, descriptorIndex := 51, attributes := #[] }, { accessFlags := 26, nameIndex := 17, descriptorIndex := 14, attributes := #[] }, { accessFlags := 26, nameIndex := 41, descriptorIndex := 14, attributes := #[] }, { accessFlags := 128, nameIndex := 13, descriptorIndex := 14, attributes := #[] }, { accessFlags := 2, nameIndex := 50, descriptorIndex := 51, attributes := #[] }])
  fields := #[{ name := "serialVersionUID", type := .long, accessFlags := 26, slot := 0, constantValue := 0 }, { name := "DEFAULT_CAPACITY", type := .int, accessFlags := 26, slot := 1, constantValue := 0 }, { name := "EMPTY_ELEMENTDATA", type := (.array (.object "java/lang/Object")), accessFlags := 26, slot := 2, constantValue := 0 }, { name := "DEFAULTCAPACITY_EMPTY_ELEMENTDATA", type := (.array (.object "java/lang/Object")), accessFlags := 26, slot := 3, constantValue := 0 }, { name := "elementData", type := (.array (.object "java/lang/Object")), accessFlags := 128, slot := 1, constantValue := 0 }, { name := "size", type := .int, accessFlags := 2, slot := 2, constantValue := 0 }]
  methods := #[k12m0, k12m1, k12m2, k12m3, k12m4]
  instanceTypes := #[.int, (.array (.object "java/lang/Object")), .int]
  staticTypes := #[.long, .int, (.array (.object "java/lang/Object")), (.array (.object "java/lang/Object"))]
  resolved := Array.replicate 509 none
  statics := some 0 }

def pool13 : Array CpInfo := pool [(1, .methodref 2 3), (0, .class_ 4), (0, .nameAndType 5 6), (0, u "java/lang/Object"), (0, u "<init>"), (0, u "()V"), (0, .fieldref 8 9), (0, .class_ 10), (0, .nameAndType 11 12), (0, u "com/example/sonde/sonde/engine/Bits"), (0, u "words"), (0, u "[J"), (0, .fieldref 8 14), (0, .nameAndType 15 12), (0, u "held"), (0, .methodref 8 17), (0, .nameAndType 18 19), (0, u "roomFor"), (0, u "(I)V"), (6, .class_ 28), (1, u "java/util/Arrays"), (20, .class_ 51), (1, u "java/lang/Math"), (1, u "(II)I"), (0, .methodref 49 55), (0, .nameAndType 56 53), (0, u "max"), (0, .methodref 26 58), (0, .nameAndType 59 60), (0, u "copyOf"), (0, u "([JI)[J"), (2, u "get"), (0, u "(I)Z"), (1, u "set")] 16

def k13c0 : Code := { maxStack := 2, maxLocals := 1, code := prog_101_method_1_code, exceptionTable := #[], attributes := #[] }
def k13m0 : Method := { name := "<init>", desc := "()V", sig := { parameters := [], returnType := none }, accessFlags := 0, code := some k13c0 }
def k13c1 : Code := { maxStack := 5, maxLocals := 3, code := prog_101_method_2_code, exceptionTable := #[], attributes := #[] }
def k13m1 : Method := { name := "get", desc := "(I)Z", sig := { parameters := [.int], returnType := some .boolean }, accessFlags := 0, code := some k13c1 }
def k13c2 : Code := { maxStack := 7, maxLocals := 3, code := prog_101_method_3_code, exceptionTable := #[], attributes := #[] }
def k13m2 : Method := { name := "set", desc := "(I)V", sig := { parameters := [.int], returnType := none }, accessFlags := 0, code := some k13c2 }
def k13c3 : Code := { maxStack := 5, maxLocals := 2, code := prog_101_method_15_code, exceptionTable := #[], attributes := #[] }
def k13m3 : Method := { name := "roomFor", desc := "(I)V", sig := { parameters := [.int], returnType := none }, accessFlags := 2, code := some k13c3 }
/-- com/example/sonde/sonde/engine/Bits -/
def k13 : Class := { plain "com/example/sonde/sonde/engine/Bits" (some 0) with
  accessFlags := 48
  interfaces := #[]
  cf := some (fileOf pool13 8 #[] #[{ accessFlags := 0, nameIndex := 5, descriptorIndex := 6, attributes := #[] }, { accessFlags := 0, nameIndex := 63, descriptorIndex := 64, attributes := #[] }, { accessFlags := 0, nameIndex := 66, descriptorIndex := 19, attributes := #[] }, { accessFlags := 2, nameIndex := 18, descriptorIndex := 19, attributes := #[] }] 48 2 #[] #[{ accessFlags := 2, nameIndex := 11, descriptorIndex := 12, attributes := #[] }, { accessFlags := 2, nameIndex := 15, descriptorIndex := 12, attributes := #[] }])
  fields := #[{ name := "words", type := (.array .long), accessFlags := 2, slot := 0, constantValue := 0 }, { name := "held", type := (.array .long), accessFlags := 2, slot := 1, constantValue := 0 }]
  methods := #[k13m0, k13m1, k13m2, k13m3]
  instanceTypes := #[(.array .long), (.array .long)]
  staticTypes := #[]
  resolved := Array.replicate 83 none
  statics := none }

def pool14 : Array CpInfo := pool [(1, .class_ 2), (0, u "java/util/function/IntFunction"), (0, .class_ 4), (0, u "java/lang/Object"), (0, u "apply"), (0, u "(I)Ljava/lang/Object;")] 7

def k14m0 : Method := { name := "apply", desc := "(I)Ljava/lang/Object;", sig := { parameters := [.int], returnType := some (.object "java/lang/Object") }, accessFlags := 1025, code := none }
/-- java/util/function/IntFunction -/
def k14 : Class := { plain "java/util/function/IntFunction" (some 0) with
  accessFlags := 1537
  interfaces := #[]
  cf := some (fileOf pool14 1 #[] #[{ accessFlags := 1025, nameIndex := 5, descriptorIndex := 6, attributes := #[] }] 1537 3 #[] #[])
  fields := #[]
  methods := #[k14m0]
  instanceTypes := #[]
  staticTypes := #[]
  resolved := Array.replicate 14 none
  statics := none }

def pool15 : Array CpInfo := pool [(2, .class_ 4), (1, u "java/lang/Object"), (0, u "<init>"), (0, u "()V"), (7, .class_ 16), (1, u "java/util/Arrays"), (57, .class_ 76), (1, u "java/util/Arrays$NaturalOrder"), (32, u "()Ljava/lang/Object;"), (3, .class_ 115), (1, u "java/util/Arrays$LegacyMergeSort"), (1, u "Z"), (10, .nameAndType 129 109), (0, u "clone"), (20, .methodref 151 152), (0, .class_ 153), (0, .nameAndType 154 155), (0, u "java/lang/System"), (0, u "arraycopy"), (0, u "(Ljava/lang/Object;ILjava/lang/Object;II)V"), (19, .methodref 176 177), (0, .class_ 178), (0, .nameAndType 179 180), (0, u "java/util/Objects"), (0, u "requireNonNull"), (0, u "(Ljava/lang/Object;)Ljava/lang/Object;"), (121, u "copyOf"), (1, .methodref 305 306), (0, .class_ 307), (0, .nameAndType 308 309), (0, u "java/lang/Math"), (0, u "min"), (0, u "(II)I"), (9, .methodref 320 128), (0, .class_ 321), (0, u "[J"), (53, .class_ 376), (0, u "java/util/Arrays$ArrayList"), (68, u "$assertionsDisabled"), (112, .interfaceMethodref 559 560), (0, .class_ 561), (0, .nameAndType 562 563), (0, u "java/util/function/IntFunction"), (0, u "apply"), (0, u "(I)Ljava/lang/Object;"), (151, u "MIN_ARRAY_SORT_GRAN"), (0, u "I"), (2, u "INSERTIONSORT_THRESHOLD"), (152, u "([JI)[J"), (34, u "setAll"), (0, u "([Ljava/lang/Object;Ljava/util/function/IntFunction;)V"), (66, .class_ 976), (0, u "java/util/Arrays$ArrayItr")] 52

def k15m0 : Method := { name := "<init>", desc := "()V", sig := { parameters := [], returnType := none }, accessFlags := 2, code := none }
def k15c1 : Code := { maxStack := 6, maxLocals := 3, code := jdk_65_method_124_code, exceptionTable := #[], attributes := #[] }
def k15m1 : Method := { name := "copyOf", desc := "([JI)[J", sig := { parameters := [(.array .long), .int], returnType := some (.array .long) }, accessFlags := 9, code := some k15c1 }
def k15c2 : Code := { maxStack := 4, maxLocals := 3, code := jdk_65_method_173_code, exceptionTable := #[], attributes := #[] }
def k15m2 : Method := { name := "setAll", desc := "([Ljava/lang/Object;Ljava/util/function/IntFunction;)V", sig := { parameters := [(.array (.object "java/lang/Object")), (.object "java/util/function/IntFunction")], returnType := none }, accessFlags := 9, code := some k15c2 }
/-- java/util/Arrays -/
def k15 : Class := { plain "java/util/Arrays" (some 0) with
  accessFlags := 49
  interfaces := #[]
  cf := some (fileOf pool15 14 #[.nestMembers #[975, 375, 113, 74]] #[{ accessFlags := 2, nameIndex := 5, descriptorIndex := 6, attributes := #[] }, { accessFlags := 9, nameIndex := 302, descriptorIndex := 872, attributes := #[] }, { accessFlags := 9, nameIndex := 907, descriptorIndex := 908, attributes := #[] }] 49 2 #[] #[{ accessFlags := 26, nameIndex := 715, descriptorIndex := 716, attributes := #[] }, { accessFlags := 26, nameIndex := 719, descriptorIndex := 716, attributes := #[] }, { accessFlags := 4120, nameIndex := 445, descriptorIndex := 117, attributes := #[] }])
  fields := #[{ name := "MIN_ARRAY_SORT_GRAN", type := .int, accessFlags := 26, slot := 0, constantValue := 0 }, { name := "INSERTIONSORT_THRESHOLD", type := .int, accessFlags := 26, slot := 1, constantValue := 0 }, { name := "$assertionsDisabled", type := .boolean, accessFlags := 4120, slot := 2, constantValue := 0 }]
  methods := #[k15m0, k15m1, k15m2]
  instanceTypes := #[]
  staticTypes := #[.int, .int, .boolean]
  resolved := Array.replicate 1029 none
  statics := none }

def pool16 : Array CpInfo := pool [(2, .class_ 4), (1, u "java/lang/Object"), (0, u "<init>"), (0, u "()V"), (35, .class_ 44), (1, u "java/util/Objects"), (0, u "requireNonNull"), (0, u "(Ljava/lang/Object;)Ljava/lang/Object;")] 137

def k16m0 : Method := { name := "<init>", desc := "()V", sig := { parameters := [], returnType := none }, accessFlags := 2, code := none }
def k16c1 : Code := { maxStack := 2, maxLocals := 1, code := jdk_31_method_10_code, exceptionTable := #[], attributes := #[] }
def k16m1 : Method := { name := "requireNonNull", desc := "(Ljava/lang/Object;)Ljava/lang/Object;", sig := { parameters := [(.object "java/lang/Object")], returnType := some (.object "java/lang/Object") }, accessFlags := 9, code := some k16c1 }
/-- java/util/Objects -/
def k16 : Class := { plain "java/util/Objects" (some 0) with
  accessFlags := 49
  interfaces := #[]
  cf := some (fileOf pool16 42 #[] #[{ accessFlags := 2, nameIndex := 5, descriptorIndex := 6, attributes := #[] }, { accessFlags := 9, nameIndex := 45, descriptorIndex := 46, attributes := #[] }] 49 2 #[] #[])
  fields := #[]
  methods := #[k16m0, k16m1]
  instanceTypes := #[]
  staticTypes := #[]
  resolved := Array.replicate 184 none
  statics := none }

def pool17 : Array CpInfo := pool [(1, .class_ 2), (0, u "java/lang/Math"), (1, .class_ 6), (1, u "java/lang/Object"), (0, u "<init>"), (0, u "()V"), (89, .class_ 100), (1, u "java/lang/Math$RandomNumberGeneratorHolder"), (71, u "negativeZeroFloatBits"), (0, u "J"), (2, u "negativeZeroDoubleBits"), (21, u "max"), (2, u "min"), (43, u "$assertionsDisabled"), (0, u "Z"), (88, u "(II)I"), (2, u "twoToTheDoubleScaleDown"), (0, u "D"), (4, u "twoToTheDoubleScaleUp"), (9, u "E"), (3, u "PI"), (2, u "TAU"), (2, u "DEGREES_TO_RADIANS"), (0, u "RADIANS_TO_DEGREES")] 94

def k17m0 : Method := { name := "<init>", desc := "()V", sig := { parameters := [], returnType := none }, accessFlags := 2, code := none }
def k17c1 : Code := { maxStack := 2, maxLocals := 2, code := jdk_29_method_65_code, exceptionTable := #[], attributes := #[] }
def k17m1 : Method := { name := "max", desc := "(II)I", sig := { parameters := [.int, .int], returnType := some .int }, accessFlags := 9, code := some k17c1 }
def k17c2 : Code := { maxStack := 2, maxLocals := 2, code := jdk_29_method_69_code, exceptionTable := #[], attributes := #[] }
def k17m2 : Method := { name := "min", desc := "(II)I", sig := { parameters := [.int, .int], returnType := some .int }, accessFlags := 9, code := some k17c2 }
/-- java/lang/Math -/
def k17 : Class := { plain "java/lang/Math" (some 0) with
  accessFlags := 49
  interfaces := #[]
  cf := some (fileOf pool17 1 #[.nestMembers #[98]] #[{ accessFlags := 2, nameIndex := 7, descriptorIndex := 8, attributes := #[] }, { accessFlags := 9, nameIndex := 198, descriptorIndex := 335, attributes := #[] }, { accessFlags := 9, nameIndex := 201, descriptorIndex := 335, attributes := #[] }] 49 4 #[] #[{ accessFlags := 25, nameIndex := 354, descriptorIndex := 339, attributes := #[] }, { accessFlags := 25, nameIndex := 358, descriptorIndex := 339, attributes := #[] }, { accessFlags := 25, nameIndex := 361, descriptorIndex := 339, attributes := #[] }, { accessFlags := 26, nameIndex := 364, descriptorIndex := 339, attributes := #[] }, { accessFlags := 26, nameIndex := 365, descriptorIndex := 339, attributes := #[] }, { accessFlags := 26, nameIndex := 172, descriptorIndex := 173, attributes := #[] }, { accessFlags := 26, nameIndex := 176, descriptorIndex := 173, attributes := #[] }, { accessFlags := 8, nameIndex := 344, descriptorIndex := 339, attributes := #[] }, { accessFlags := 8, nameIndex := 338, descriptorIndex := 339, attributes := #[] }, { accessFlags := 4120, nameIndex := 245, descriptorIndex := 246, attributes := #[] }])
  fields := #[{ name := "E", type := .double, accessFlags := 25, slot := 0, constantValue := 0 }, { name := "PI", type := .double, accessFlags := 25, slot := 1, constantValue := 0 }, { name := "TAU", type := .double, accessFlags := 25, slot := 2, constantValue := 0 }, { name := "DEGREES_TO_RADIANS", type := .double, accessFlags := 26, slot := 3, constantValue := 0 }, { name := "RADIANS_TO_DEGREES", type := .double, accessFlags := 26, slot := 4, constantValue := 0 }, { name := "negativeZeroFloatBits", type := .long, accessFlags := 26, slot := 5, constantValue := 0 }, { name := "negativeZeroDoubleBits", type := .long, accessFlags := 26, slot := 6, constantValue := 0 }, { name := "twoToTheDoubleScaleUp", type := .double, accessFlags := 8, slot := 7, constantValue := 0 }, { name := "twoToTheDoubleScaleDown", type := .double, accessFlags := 8, slot := 8, constantValue := 0 }, { name := "$assertionsDisabled", type := .boolean, accessFlags := 4120, slot := 9, constantValue := 0 }]
  methods := #[k17m0, k17m1, k17m2]
  instanceTypes := #[]
  staticTypes := #[.double, .double, .double, .double, .double, .long, .long, .double, .double, .boolean]
  resolved := Array.replicate 460 none
  statics := none }

def pool18 : Array CpInfo := pool [(2, .class_ 4), (1, u "java/lang/Object"), (0, u "<init>"), (0, u "()V"), (1, .class_ 10), (1, u "java/lang/System"), (0, u "allowSecurityManager"), (0, u "I"), (16, u "cons"), (0, u "Ljava/io/Console;"), (77, .class_ 110), (1, u "java/lang/System$CallersHolder"), (43, u "initialErrStream"), (0, u "Ljava/io/PrintStream;"), (19, u "security"), (0, u "Ljava/lang/SecurityManager;"), (31, .class_ 209), (0, u "java/lang/System$1"), (7, u "props"), (0, u "Ljava/util/Properties;"), (2, u "lineSeparator"), (0, u "Ljava/lang/String;"), (96, .class_ 321), (1, u "java/lang/System$LoggerFinder"), (5, .class_ 328), (0, u "java/lang/System$Logger"), (67, u "err"), (2, u "out"), (91, u "notSupportedJnuEncoding"), (15, u "in"), (17, u "initialIn"), (0, u "Ljava/io/InputStream;"), (35, u "bootLayer"), (0, u "Ljava/lang/ModuleLayer;"), (99, .class_ 664), (0, u "java/lang/System$2"), (9, u "NEVER"), (2, u "MAYBE"), (49, u "arraycopy"), (0, u "(Ljava/lang/Object;ILjava/lang/Object;II)V"), (72, .class_ 802), (0, u "java/lang/System$Logger$Level")] 31

def k18m0 : Method := { name := "<init>", desc := "()V", sig := { parameters := [], returnType := none }, accessFlags := 2, code := none }
def k18m1 : Method := { name := "arraycopy", desc := "(Ljava/lang/Object;ILjava/lang/Object;II)V", sig := { parameters := [(.object "java/lang/Object"), .int, (.object "java/lang/Object"), .int, .int], returnType := none }, accessFlags := 265, code := none }
/-- java/lang/System -/
def k18 : Class := { plain "java/lang/System" (some 0) with
  accessFlags := 49
  interfaces := #[]
  cf := some (fileOf pool18 8 #[.nestMembers #[319, 327, 801, 108, 663, 208]] #[{ accessFlags := 2, nameIndex := 5, descriptorIndex := 6, attributes := #[] }, { accessFlags := 265, nameIndex := 727, descriptorIndex := 728, attributes := #[] }] 49 2 #[] #[{ accessFlags := 25, nameIndex := 507, descriptorIndex := 526, attributes := #[] }, { accessFlags := 25, nameIndex := 399, descriptorIndex := 155, attributes := #[] }, { accessFlags := 25, nameIndex := 396, descriptorIndex := 155, attributes := #[] }, { accessFlags := 10, nameIndex := 525, descriptorIndex := 526, attributes := #[] }, { accessFlags := 26, nameIndex := 674, descriptorIndex := 12, attributes := #[] }, { accessFlags := 26, nameIndex := 677, descriptorIndex := 12, attributes := #[] }, { accessFlags := 10, nameIndex := 11, descriptorIndex := 12, attributes := #[] }, { accessFlags := 74, nameIndex := 175, descriptorIndex := 176, attributes := #[] }, { accessFlags := 10, nameIndex := 491, descriptorIndex := 222, attributes := #[] }, { accessFlags := 74, nameIndex := 29, descriptorIndex := 30, attributes := #[] }, { accessFlags := 74, nameIndex := 154, descriptorIndex := 155, attributes := #[] }, { accessFlags := 10, nameIndex := 217, descriptorIndex := 218, attributes := #[] }, { accessFlags := 10, nameIndex := 221, descriptorIndex := 222, attributes := #[] }, { accessFlags := 8, nameIndex := 562, descriptorIndex := 563, attributes := #[] }])
  fields := #[{ name := "in", type := (.object "java/io/InputStream"), accessFlags := 25, slot := 0, constantValue := 0 }, { name := "out", type := (.object "java/io/PrintStream"), accessFlags := 25, slot := 1, constantValue := 0 }, { name := "err", type := (.object "java/io/PrintStream"), accessFlags := 25, slot := 2, constantValue := 0 }, { name := "initialIn", type := (.object "java/io/InputStream"), accessFlags := 10, slot := 3, constantValue := 0 }, { name := "NEVER", type := .int, accessFlags := 26, slot := 4, constantValue := 0 }, { name := "MAYBE", type := .int, accessFlags := 26, slot := 5, constantValue := 0 }, { name := "allowSecurityManager", type := .int, accessFlags := 10, slot := 6, constantValue := 0 }, { name := "security", type := (.object "java/lang/SecurityManager"), accessFlags := 74, slot := 7, constantValue := 0 }, { name := "notSupportedJnuEncoding", type := (.object "java/lang/String"), accessFlags := 10, slot := 8, constantValue := 0 }, { name := "cons", type := (.object "java/io/Console"), accessFlags := 74, slot := 9, constantValue := 0 }, { name := "initialErrStream", type := (.object "java/io/PrintStream"), accessFlags := 74, slot := 10, constantValue := 0 }, { name := "props", type := (.object "java/util/Properties"), accessFlags := 10, slot := 11, constantValue := 0 }, { name := "lineSeparator", type := (.object "java/lang/String"), accessFlags := 10, slot := 12, constantValue := 0 }, { name := "bootLayer", type := (.object "java/lang/ModuleLayer"), accessFlags := 8, slot := 13, constantValue := 0 }]
  methods := #[k18m0, k18m1]
  instanceTypes := #[]
  staticTypes := #[(.object "java/io/InputStream"), (.object "java/io/PrintStream"), (.object "java/io/PrintStream"), (.object "java/io/InputStream"), .int, .int, .int, (.object "java/lang/SecurityManager"), (.object "java/lang/String"), (.object "java/io/Console"), (.object "java/io/PrintStream"), (.object "java/util/Properties"), (.object "java/lang/String"), (.object "java/lang/ModuleLayer")]
  resolved := Array.replicate 834 none
  statics := none }

/-- the primitive byte -/
def k19 : Class := { plain "byte" none with kind := .primitive 'B', accessFlags := 0x411 }
/-- [B -/
def k20 : Class := { plain "[B" (some 0) with kind := .array 19 .byte, interfaces := #[10, 11], accessFlags := 1041 }

/-- the primitive int -/
def k21 : Class := { plain "int" none with kind := .primitive 'I', accessFlags := 0x411 }
/-- [I -/
def k22 : Class := { plain "[I" (some 0) with kind := .array 21 .int, interfaces := #[10, 11], accessFlags := 1041 }

/-- the primitive long -/
def k23 : Class := { plain "long" none with kind := .primitive 'J', accessFlags := 0x411 }
/-- [J -/
def k24 : Class := { plain "[J" (some 0) with kind := .array 23 .long, interfaces := #[10, 11], accessFlags := 1041 }

/-- [Lcom/example/sonde/sonde/engine/Bits; -/
def k25 : Class := { plain "[Lcom/example/sonde/sonde/engine/Bits;" (some 0) with kind := .array 13 (.object "com/example/sonde/sonde/engine/Bits"), interfaces := #[10, 11], accessFlags := 1041 }

/-- [Ljava/lang/Object; -/
def k26 : Class := { plain "[Ljava/lang/Object;" (some 0) with kind := .array 0 (.object "java/lang/Object"), interfaces := #[10, 11], accessFlags := 1041 }

def classes0 : Array Class := #[k0, k1, k2, k3, k4, k5, k6, k7, k8, k9, k10, k11, k12, k13, k14, k15, k16, k17, k18, k19, k20, k21, k22, k23, k24, k25, k26]
/-- the class that the rule has made for the site at 49 of com/example/sonde/sonde/engine/AnswerSets.<init> -/
def k27 : Class := Jvm.LamKit.madeRec { classes := classes0 } "com/example/sonde/sonde/engine/AnswerSets" (Jvm.Lambda.Shape.mk "java/util/function/IntFunction" "apply" (Jvm.ClassFile.MethodDescriptor.mk ([Jvm.ClassFile.FieldType.int] : List Jvm.ClassFile.FieldType) (Option.some (Jvm.ClassFile.FieldType.object "java/lang/Object"))) ([] : List Jvm.ClassFile.FieldType) (6 : Nat) "com/example/sonde/sonde/engine/AnswerSets" "lambda$new$0" (Jvm.ClassFile.MethodDescriptor.mk ([Jvm.ClassFile.FieldType.int] : List Jvm.ClassFile.FieldType) (Option.some (Jvm.ClassFile.FieldType.object "com/example/sonde/sonde/engine/Bits"))) false (Jvm.ClassFile.MethodDescriptor.mk ([Jvm.ClassFile.FieldType.int] : List Jvm.ClassFile.FieldType) (Option.some (Jvm.ClassFile.FieldType.object "com/example/sonde/sonde/engine/Bits")))) 27

def heap : Heap := #[{ cls := 12, slots := #[.long 0, .int 0, .ref 2, .ref 3], vm := .statics 12 },
  { cls := 27, slots := #[], vm := .none },
  { cls := 26, slots := #[], vm := .none },
  { cls := 26, slots := #[], vm := .none }]
def classes : Array Class := #[k0, k1, k2, k3, k4, k5, k6, k7, k8, k9, k10, k11, k12, k13, k14, k15, k16, k17, k18, k19, k20, k21, k22, k23, k24, k25, k26, k27]
def interned : List (Array UInt16 × Addr) := []
def slotsUsed : Nat := 4
def theMethod : MethodId := ⟨1, 2⟩
def args0 : Array Value := #[.int 1, .int 2, .int 3, .int 4, .int 5, .int 6]
def aboutOver (below : List Frame) : State where
  vm := { classes := classes, interned := interned.toArray }
  heap := heap
  slotsUsed := slotsUsed
  threads := #[{ frames := .invoking theMethod args0 :: below }]
def below0 : List Frame := [.native { method := ⟨0, 0⟩, args := #[] }]
def about1 : State := aboutOver below0
def p0 : Program := .bare "" "" ""
def e0 : Env := launch0.env 0 0 0
theorem w_frames : about1.frames = Frame.invoking theMethod args0 :: below0 := rfl
set_option maxRecDepth 65536 in
theorem w_args : argsFit about1.vm theMethod args0 = true := by decide +kernel
set_option maxRecDepth 65536 in
theorem w_heap : heapFits about1 = true := by decide +kernel
set_option maxRecDepth 65536 in
theorem w_runnable : about1.curStatus? = some .runnable := by decide +kernel
set_option maxRecDepth 65536 in
theorem w_alone : about1.alone = true := by decide +kernel
set_option maxRecDepth 65536 in
theorem w_named : about1.methodNamed? x = some theMethod := by decide +kernel
set_option maxRecDepth 65536 in
theorem w_hears : about1.hears theMethod below0 = true := by decide +kernel
set_option maxRecDepth 65536 in
theorem w_ripe : about1.ripe theMethod args0 below0 = true := by decide +kernel
theorem w_running : about1.status = .running := rfl
set_option maxRecDepth 65536 in
theorem w_room : about1.hasRoom e0.platform room_1 = true :=
  launch0.hasRoom_least _ room_1 (by decide +kernel) (by decide +kernel) (by decide +kernel) (by decide +kernel) (by decide +kernel) (by decide +kernel)
theorem allAtoms_all (ts : List Jvm.Cond) (a : Array Jvm.Value) (st : Jvm.State) : (allAtoms ts).before a st = ts.all (fun c => c.before a st) := by
  induction ts with
  | nil => rfl
  | cons c t ih =>
    show (Jvm.Cond.and c (allAtoms t)).before a st = _
    rw [Jvm.Cond.before_and, ih, List.all_cons]
def words1 : List Jvm.Cond := Jvm.Cond.code x code maxLocals ret :: tables_1
/-- a 'code' word, met by the world's own term for the bytes: nothing is compared byte by byte -/
theorem code_word {y : MethodName} {bytes : ByteArray} {mx : Nat} {rt : Option FieldType} {a : Array Value} {s : State} {m : MethodId} {meth : Method} {c : Code} (h1 : s.methodNamed? y = some m) (h2 : s.vm.method? m = some meth) (h3 : meth.code = some c) (h4 : c.code = bytes)
    (h5 : (c.maxLocals == mx && c.exceptionTable.isEmpty && decide (c.maxStack ≤ mostOperands) && decide (meth.sig.returnType = rt) && !meth.locks && decide (parseMethodDescriptor y.desc = some meth.sig)) = true) : (Jvm.Cond.code y bytes mx rt).before a s = true := by
  simp only [Bool.and_eq_true, beq_iff_eq, Bool.not_eq_true', decide_eq_true_eq] at h5
  obtain ⟨⟨⟨⟨⟨g1, g2⟩, g3⟩, g4⟩, g5⟩, g6⟩ := h5
  simp [Cond.before, Cond.holds, Cond.value, h1, h2, h3, h4, g1, g2, g3, g4, g5, g6]
def isCode : Jvm.Cond → Bool
  | .code _ _ _ _ => true
  | _ => false
theorem all_split {L : List Jvm.Cond} {P : Jvm.Cond → Bool} (h1 : L.all (fun c => isCode c || P c) = true) (h2 : ∀ c ∈ L.filter isCode, P c = true) : L.all P = true := by
  refine List.all_eq_true.mpr fun c hc => ?_
  have h := List.all_eq_true.mp h1 c hc
  rcases Bool.eq_false_or_eq_true (isCode c) with hi | hi
  · exact h2 c (List.mem_filter.mpr ⟨hc, hi⟩)
  · simpa [hi] using h
set_option maxRecDepth 65536 in
theorem w_c0 : (Jvm.Cond.code x code maxLocals ret).before args0 about1 = true := code_word (m := ⟨1, 2⟩) (meth := k1m2) (c := k1c2) (by decide +kernel) rfl rfl rfl (by decide +kernel)
set_option maxRecDepth 65536 in
theorem w_c1 : (Jvm.Cond.code ({ cls := "com/example/sonde/sonde/engine/AnswerSets", name := "<init>", desc := "(I)V" } : Jvm.MethodName) prog_86_method_1_code (3 : Nat) (Option.none : Option Jvm.ClassFile.FieldType)).before args0 about1 = true := code_word (m := ⟨2, 0⟩) (meth := k2m0) (c := k2c0) (by decide +kernel) rfl rfl rfl (by decide +kernel)
set_option maxRecDepth 65536 in
theorem w_c2 : (Jvm.Cond.code ({ cls := "java/lang/Object", name := "<init>", desc := "()V" } : Jvm.MethodName) object_method_1_code (1 : Nat) (Option.none : Option Jvm.ClassFile.FieldType)).before args0 about1 = true := code_word (m := ⟨0, 0⟩) (meth := k0m0) (c := k0c0) (by decide +kernel) rfl rfl rfl (by decide +kernel)
set_option maxRecDepth 65536 in
theorem w_c3 : (Jvm.Cond.code ({ cls := "java/util/ArrayList", name := "<init>", desc := "()V" } : Jvm.MethodName) jdk_38_method_2_code (1 : Nat) (Option.none : Option Jvm.ClassFile.FieldType)).before args0 about1 = true := code_word (m := ⟨12, 0⟩) (meth := k12m0) (c := k12c0) (by decide +kernel) rfl rfl rfl (by decide +kernel)
set_option maxRecDepth 65536 in
theorem w_c4 : (Jvm.Cond.code ({ cls := "java/util/AbstractList", name := "<init>", desc := "()V" } : Jvm.MethodName) jdk_39_method_1_code (1 : Nat) (Option.none : Option Jvm.ClassFile.FieldType)).before args0 about1 = true := code_word (m := ⟨8, 0⟩) (meth := k8m0) (c := k8c0) (by decide +kernel) rfl rfl rfl (by decide +kernel)
set_option maxRecDepth 65536 in
theorem w_c5 : (Jvm.Cond.code ({ cls := "java/util/AbstractCollection", name := "<init>", desc := "()V" } : Jvm.MethodName) jdk_22_method_1_code (1 : Nat) (Option.none : Option Jvm.ClassFile.FieldType)).before args0 about1 = true := code_word (m := ⟨5, 0⟩) (meth := k5m0) (c := k5c0) (by decide +kernel) rfl rfl rfl (by decide +kernel)
set_option maxRecDepth 65536 in
theorem w_c6 : (Jvm.Cond.code ({ cls := "com/example/sonde/sonde/engine/Bits", name := "<init>", desc := "()V" } : Jvm.MethodName) prog_101_method_1_code (1 : Nat) (Option.none : Option Jvm.ClassFile.FieldType)).before args0 about1 = true := code_word (m := ⟨13, 0⟩) (meth := k13m0) (c := k13c0) (by decide +kernel) rfl rfl rfl (by decide +kernel)
set_option maxRecDepth 65536 in
theorem w_c7 : (Jvm.Cond.code ({ cls := "java/util/Arrays", name := "setAll", desc := "([Ljava/lang/Object;Ljava/util/function/IntFunction;)V" } : Jvm.MethodName) jdk_65_method_173_code (3 : Nat) (Option.none : Option Jvm.ClassFile.FieldType)).before args0 about1 = true := code_word (m := ⟨15, 2⟩) (meth := k15m2) (c := k15c2) (by decide +kernel) rfl rfl rfl (by decide +kernel)
set_option maxRecDepth 65536 in
theorem w_c8 : (Jvm.Cond.code ({ cls := "java/util/Objects", name := "requireNonNull", desc := "(Ljava/lang/Object;)Ljava/lang/Object;" } : Jvm.MethodName) jdk_31_method_10_code (1 : Nat) (Option.some (Jvm.ClassFile.FieldType.object "java/lang/Object"))).before args0 about1 = true := code_word (m := ⟨16, 1⟩) (meth := k16m1) (c := k16c1) (by decide +kernel) rfl rfl rfl (by decide +kernel)
set_option maxRecDepth 65536 in
theorem w_c9 : (Jvm.Cond.code ({ cls := "com/example/sonde/sonde/engine/AnswerSets", name := "lambda$new$0", desc := "(I)Lcom/example/sonde/sonde/engine/Bits;" } : Jvm.MethodName) prog_86_method_9_code (1 : Nat) (Option.some (Jvm.ClassFile.FieldType.object "com/example/sonde/sonde/engine/Bits"))).before args0 about1 = true := code_word (m := ⟨2, 3⟩) (meth := k2m3) (c := k2c3) (by decide +kernel) rfl rfl rfl (by decide +kernel)
set_option maxRecDepth 65536 in
theorem w_c10 : (Jvm.Cond.code ({ cls := "java/util/ArrayList", name := "add", desc := "(Ljava/lang/Object;)Z" } : Jvm.MethodName) jdk_38_method_25_code (2 : Nat) (Option.some Jvm.ClassFile.FieldType.boolean)).before args0 about1 = true := code_word (m := ⟨12, 4⟩) (meth := k12m4) (c := k12c4) (by decide +kernel) rfl rfl rfl (by decide +kernel)
set_option maxRecDepth 65536 in
theorem w_c11 : (Jvm.Cond.code ({ cls := "java/util/ArrayList", name := "add", desc := "(Ljava/lang/Object;[Ljava/lang/Object;I)V" } : Jvm.MethodName) jdk_38_method_24_code (4 : Nat) (Option.none : Option Jvm.ClassFile.FieldType)).before args0 about1 = true := code_word (m := ⟨12, 3⟩) (meth := k12m3) (c := k12c3) (by decide +kernel) rfl rfl rfl (by decide +kernel)
set_option maxRecDepth 65536 in
theorem w_c12 : (Jvm.Cond.code ({ cls := "java/util/ArrayList", name := "grow", desc := "()[Ljava/lang/Object;" } : Jvm.MethodName) jdk_38_method_7_code (1 : Nat) (Option.some (Jvm.ClassFile.FieldType.array (Jvm.ClassFile.FieldType.object "java/lang/Object")))).before args0 about1 = true := code_word (m := ⟨12, 2⟩) (meth := k12m2) (c := k12c2) (by decide +kernel) rfl rfl rfl (by decide +kernel)
set_option maxRecDepth 65536 in
theorem w_c13 : (Jvm.Cond.code ({ cls := "java/util/ArrayList", name := "grow", desc := "(I)[Ljava/lang/Object;" } : Jvm.MethodName) jdk_38_method_6_code (4 : Nat) (Option.some (Jvm.ClassFile.FieldType.array (Jvm.ClassFile.FieldType.object "java/lang/Object")))).before args0 about1 = true := code_word (m := ⟨12, 1⟩) (meth := k12m1) (c := k12c1) (by decide +kernel) rfl rfl rfl (by decide +kernel)
set_option maxRecDepth 65536 in
theorem w_c14 : (Jvm.Cond.code ({ cls := "java/lang/Math", name := "max", desc := "(II)I" } : Jvm.MethodName) jdk_29_method_65_code (2 : Nat) (Option.some Jvm.ClassFile.FieldType.int)).before args0 about1 = true := code_word (m := ⟨17, 1⟩) (meth := k17m1) (c := k17c1) (by decide +kernel) rfl rfl rfl (by decide +kernel)
set_option maxRecDepth 65536 in
theorem w_c15 : (Jvm.Cond.code ({ cls := "com/example/sonde/sonde/engine/AnswerSets", name := "noteHolding", desc := "(III)V" } : Jvm.MethodName) prog_86_method_3_code (5 : Nat) (Option.none : Option Jvm.ClassFile.FieldType)).before args0 about1 = true := code_word (m := ⟨2, 1⟩) (meth := k2m1) (c := k2c1) (by decide +kernel) rfl rfl rfl (by decide +kernel)
set_option maxRecDepth 65536 in
theorem w_c16 : (Jvm.Cond.code ({ cls := "com/example/sonde/sonde/engine/Bits", name := "set", desc := "(I)V" } : Jvm.MethodName) prog_101_method_3_code (3 : Nat) (Option.none : Option Jvm.ClassFile.FieldType)).before args0 about1 = true := code_word (m := ⟨13, 2⟩) (meth := k13m2) (c := k13c2) (by decide +kernel) rfl rfl rfl (by decide +kernel)
set_option maxRecDepth 65536 in
theorem w_c17 : (Jvm.Cond.code ({ cls := "com/example/sonde/sonde/engine/Bits", name := "roomFor", desc := "(I)V" } : Jvm.MethodName) prog_101_method_15_code (2 : Nat) (Option.none : Option Jvm.ClassFile.FieldType)).before args0 about1 = true := code_word (m := ⟨13, 3⟩) (meth := k13m3) (c := k13c3) (by decide +kernel) rfl rfl rfl (by decide +kernel)
set_option maxRecDepth 65536 in
theorem w_c18 : (Jvm.Cond.code ({ cls := "com/example/sonde/sonde/engine/AnswerSets", name := "holding", desc := "([II)Lcom/example/sonde/sonde/engine/Bits;" } : Jvm.MethodName) prog_86_method_7_code (4 : Nat) (Option.some (Jvm.ClassFile.FieldType.object "com/example/sonde/sonde/engine/Bits"))).before args0 about1 = true := code_word (m := ⟨2, 2⟩) (meth := k2m2) (c := k2c2) (by decide +kernel) rfl rfl rfl (by decide +kernel)
set_option maxRecDepth 65536 in
theorem w_c19 : (Jvm.Cond.code ({ cls := "com/example/sonde/sonde/engine/Bits", name := "get", desc := "(I)Z" } : Jvm.MethodName) prog_101_method_2_code (3 : Nat) (Option.some Jvm.ClassFile.FieldType.boolean)).before args0 about1 = true := code_word (m := ⟨13, 1⟩) (meth := k13m1) (c := k13c1) (by decide +kernel) rfl rfl rfl (by decide +kernel)
set_option maxRecDepth 65536 in
theorem w_c20 : (Jvm.Cond.code ({ cls := "com/example/sonde/sonde/engine/AnswerSetsHoldingPinLaw", name := "expect", desc := "(IIZIZ)Z" } : Jvm.MethodName) method_2_code (5 : Nat) (Option.some Jvm.ClassFile.FieldType.boolean)).before args0 about1 = true := code_word (m := ⟨1, 1⟩) (meth := k1m1) (c := k1c1) (by decide +kernel) rfl rfl rfl (by decide +kernel)
set_option maxRecDepth 65536 in
theorem w_c21 : (Jvm.Cond.code ({ cls := "java/util/Arrays", name := "copyOf", desc := "([JI)[J" } : Jvm.MethodName) jdk_65_method_124_code (3 : Nat) (Option.some (Jvm.ClassFile.FieldType.array Jvm.ClassFile.FieldType.long))).before args0 about1 = true := code_word (m := ⟨15, 1⟩) (meth := k15m1) (c := k15c1) (by decide +kernel) rfl rfl rfl (by decide +kernel)
set_option maxRecDepth 65536 in
theorem w_c22 : (Jvm.Cond.code ({ cls := "java/lang/Math", name := "min", desc := "(II)I" } : Jvm.MethodName) jdk_29_method_69_code (2 : Nat) (Option.some Jvm.ClassFile.FieldType.int)).before args0 about1 = true := code_word (m := ⟨17, 2⟩) (meth := k17m2) (c := k17c2) (by decide +kernel) rfl rfl rfl (by decide +kernel)
def codes1 : List Jvm.Cond := [Jvm.Cond.code x code maxLocals ret, Jvm.Cond.code ({ cls := "com/example/sonde/sonde/engine/AnswerSets", name := "<init>", desc := "(I)V" } : Jvm.MethodName) prog_86_method_1_code (3 : Nat) (Option.none : Option Jvm.ClassFile.FieldType), Jvm.Cond.code ({ cls := "java/lang/Object", name := "<init>", desc := "()V" } : Jvm.MethodName) object_method_1_code (1 : Nat) (Option.none : Option Jvm.ClassFile.FieldType), Jvm.Cond.code ({ cls := "java/util/ArrayList", name := "<init>", desc := "()V" } : Jvm.MethodName) jdk_38_method_2_code (1 : Nat) (Option.none : Option Jvm.ClassFile.FieldType), Jvm.Cond.code ({ cls := "java/util/AbstractList", name := "<init>", desc := "()V" } : Jvm.MethodName) jdk_39_method_1_code (1 : Nat) (Option.none : Option Jvm.ClassFile.FieldType), Jvm.Cond.code ({ cls := "java/util/AbstractCollection", name := "<init>", desc := "()V" } : Jvm.MethodName) jdk_22_method_1_code (1 : Nat) (Option.none : Option Jvm.ClassFile.FieldType), Jvm.Cond.code ({ cls := "com/example/sonde/sonde/engine/Bits", name := "<init>", desc := "()V" } : Jvm.MethodName) prog_101_method_1_code (1 : Nat) (Option.none : Option Jvm.ClassFile.FieldType), Jvm.Cond.code ({ cls := "java/util/Arrays", name := "setAll", desc := "([Ljava/lang/Object;Ljava/util/function/IntFunction;)V" } : Jvm.MethodName) jdk_65_method_173_code (3 : Nat) (Option.none : Option Jvm.ClassFile.FieldType), Jvm.Cond.code ({ cls := "java/util/Objects", name := "requireNonNull", desc := "(Ljava/lang/Object;)Ljava/lang/Object;" } : Jvm.MethodName) jdk_31_method_10_code (1 : Nat) (Option.some (Jvm.ClassFile.FieldType.object "java/lang/Object")), Jvm.Cond.code ({ cls := "com/example/sonde/sonde/engine/AnswerSets", name := "lambda$new$0", desc := "(I)Lcom/example/sonde/sonde/engine/Bits;" } : Jvm.MethodName) prog_86_method_9_code (1 : Nat) (Option.some (Jvm.ClassFile.FieldType.object "com/example/sonde/sonde/engine/Bits")), Jvm.Cond.code ({ cls := "java/util/ArrayList", name := "add", desc := "(Ljava/lang/Object;)Z" } : Jvm.MethodName) jdk_38_method_25_code (2 : Nat) (Option.some Jvm.ClassFile.FieldType.boolean), Jvm.Cond.code ({ cls := "java/util/ArrayList", name := "add", desc := "(Ljava/lang/Object;[Ljava/lang/Object;I)V" } : Jvm.MethodName) jdk_38_method_24_code (4 : Nat) (Option.none : Option Jvm.ClassFile.FieldType), Jvm.Cond.code ({ cls := "java/util/ArrayList", name := "grow", desc := "()[Ljava/lang/Object;" } : Jvm.MethodName) jdk_38_method_7_code (1 : Nat) (Option.some (Jvm.ClassFile.FieldType.array (Jvm.ClassFile.FieldType.object "java/lang/Object"))), Jvm.Cond.code ({ cls := "java/util/ArrayList", name := "grow", desc := "(I)[Ljava/lang/Object;" } : Jvm.MethodName) jdk_38_method_6_code (4 : Nat) (Option.some (Jvm.ClassFile.FieldType.array (Jvm.ClassFile.FieldType.object "java/lang/Object"))), Jvm.Cond.code ({ cls := "java/lang/Math", name := "max", desc := "(II)I" } : Jvm.MethodName) jdk_29_method_65_code (2 : Nat) (Option.some Jvm.ClassFile.FieldType.int), Jvm.Cond.code ({ cls := "com/example/sonde/sonde/engine/AnswerSets", name := "noteHolding", desc := "(III)V" } : Jvm.MethodName) prog_86_method_3_code (5 : Nat) (Option.none : Option Jvm.ClassFile.FieldType), Jvm.Cond.code ({ cls := "com/example/sonde/sonde/engine/Bits", name := "set", desc := "(I)V" } : Jvm.MethodName) prog_101_method_3_code (3 : Nat) (Option.none : Option Jvm.ClassFile.FieldType), Jvm.Cond.code ({ cls := "com/example/sonde/sonde/engine/Bits", name := "roomFor", desc := "(I)V" } : Jvm.MethodName) prog_101_method_15_code (2 : Nat) (Option.none : Option Jvm.ClassFile.FieldType), Jvm.Cond.code ({ cls := "com/example/sonde/sonde/engine/AnswerSets", name := "holding", desc := "([II)Lcom/example/sonde/sonde/engine/Bits;" } : Jvm.MethodName) prog_86_method_7_code (4 : Nat) (Option.some (Jvm.ClassFile.FieldType.object "com/example/sonde/sonde/engine/Bits")), Jvm.Cond.code ({ cls := "com/example/sonde/sonde/engine/Bits", name := "get", desc := "(I)Z" } : Jvm.MethodName) prog_101_method_2_code (3 : Nat) (Option.some Jvm.ClassFile.FieldType.boolean), Jvm.Cond.code ({ cls := "com/example/sonde/sonde/engine/AnswerSetsHoldingPinLaw", name := "expect", desc := "(IIZIZ)Z" } : Jvm.MethodName) method_2_code (5 : Nat) (Option.some Jvm.ClassFile.FieldType.boolean), Jvm.Cond.code ({ cls := "java/util/Arrays", name := "copyOf", desc := "([JI)[J" } : Jvm.MethodName) jdk_65_method_124_code (3 : Nat) (Option.some (Jvm.ClassFile.FieldType.array Jvm.ClassFile.FieldType.long)), Jvm.Cond.code ({ cls := "java/lang/Math", name := "min", desc := "(II)I" } : Jvm.MethodName) jdk_29_method_69_code (2 : Nat) (Option.some Jvm.ClassFile.FieldType.int)]
set_option maxRecDepth 65536 in
theorem codes_eq : words1.filter isCode = codes1 := rfl
theorem w_codes : ∀ c ∈ words1.filter isCode, c.before args0 about1 = true := by
  rw [codes_eq]
  intro c hc
  simp only [codes1, List.mem_cons, List.not_mem_nil, or_false] at hc
  rcases hc with rfl | rfl | rfl | rfl | rfl | rfl | rfl | rfl | rfl | rfl | rfl | rfl | rfl | rfl | rfl | rfl | rfl | rfl | rfl | rfl | rfl | rfl | rfl
  · exact w_c0
  · exact w_c1
  · exact w_c2
  · exact w_c3
  · exact w_c4
  · exact w_c5
  · exact w_c6
  · exact w_c7
  · exact w_c8
  · exact w_c9
  · exact w_c10
  · exact w_c11
  · exact w_c12
  · exact w_c13
  · exact w_c14
  · exact w_c15
  · exact w_c16
  · exact w_c17
  · exact w_c18
  · exact w_c19
  · exact w_c20
  · exact w_c21
  · exact w_c22
set_option maxRecDepth 65536 in
theorem w_t1 : (words1.take 24).all (fun c => isCode c || c.before args0 about1) = true := by decide +kernel
set_option maxRecDepth 65536 in
theorem w_t2 : ((words1.drop 24).take 24).all (fun c => isCode c || c.before args0 about1) = true := by decide +kernel
set_option maxRecDepth 65536 in
theorem w_t3 : (((words1.drop 24).drop 24).take 24).all (fun c => isCode c || c.before args0 about1) = true := by decide +kernel
set_option maxRecDepth 65536 in
theorem w_t4 : ((((words1.drop 24).drop 24).drop 24).take 24).all (fun c => isCode c || c.before args0 about1) = true := by decide +kernel
set_option maxRecDepth 65536 in
theorem w_t5 : (((((words1.drop 24).drop 24).drop 24).drop 24).take 24).all (fun c => isCode c || c.before args0 about1) = true := by decide +kernel
set_option maxRecDepth 65536 in
theorem w_t6 : ((((((words1.drop 24).drop 24).drop 24).drop 24).drop 24).take 24).all (fun c => isCode c || c.before args0 about1) = true := by decide +kernel
set_option maxRecDepth 65536 in
theorem w_t7 : ((((((words1.drop 24).drop 24).drop 24).drop 24).drop 24).drop 24).all (fun c => isCode c || c.before args0 about1) = true := by decide +kernel
theorem w_tables : (allAtoms (Jvm.Cond.code x code maxLocals ret :: tables_1)).before args0 about1 = true := by
  rw [allAtoms_all]
  show words1.all (fun c => c.before args0 about1) = true
  refine all_split ?_ w_codes
  rw [← List.take_append_drop 24 words1, List.all_append, w_t1, ← List.take_append_drop 24 (words1.drop 24), List.all_append, w_t2, ← List.take_append_drop 24 ((words1.drop 24).drop 24), List.all_append, w_t3, ← List.take_append_drop 24 (((words1.drop 24).drop 24).drop 24), List.all_append, w_t4, ← List.take_append_drop 24 ((((words1.drop 24).drop 24).drop 24).drop 24), List.all_append, w_t5, ← List.take_append_drop 24 (((((words1.drop 24).drop 24).drop 24).drop 24).drop 24), List.all_append, w_t6, w_t7]
  rfl
set_option maxRecDepth 65536 in
theorem w_rest : rest_1_c.before args0 about1 = true := by decide +kernel
set_option maxRecDepth 65536 in
theorem w_case : (Jvm.Cond.and given_1 narrow_1).before args0 about1 = true := by decide +kernel
theorem w_applies : (headSpec (Jvm.Cond.code x code maxLocals ret :: tables_1) room_1).applies x e0.platform about1 = true :=
  (Spec.applies_iff w_frames).mpr ⟨w_running, w_runnable, w_alone, w_named, w_hears, w_ripe, w_room, w_tables⟩
theorem atStart : AtStart classFile x code maxLocals ret World_1 tables_1 room_1 Calls_1 rest_1 Pre_1 launch0 p0 e0 about1 theMethod args0 below0 :=
  ⟨lists_1, trivial, launch0.admits_env _ _ _, launch0.least_env, fairChoices_fair.cas, fairChoices_fair.clock, w_frames, w_args, w_heap, w_applies, trivial, w_rest, w_case⟩
end start1
theorem witness_1 : WitnessClaimed_1 := ⟨start1.p0, start1.e0, start1.about1, start1.theMethod, start1.args0, start1.below0, start1.atStart⟩
end Jvm.Pilot.@@N@@
