import JvmDerived
import JvmDerived.Pilot.@@N@@Statement
import JvmDerived.Pilot.@@N@@Code
set_option linter.unusedVariables false
set_option linter.unusedSimpArgs false
namespace Jvm.Pilot.@@N@@
open Jvm Jvm.ClassFile Sem Op Lib Jvm.Free Jvm.Stand Jvm.LawKit Jvm.RoadKit Bundle Jvm.Pilot.@@N@@.Jvm.D
section OwnGo
/-! a run that comes to its end: what a body's walk owes, of any state on the way -/
def own_Go (tb : Tables) (e : Env) (below : List Frame) (Q : Outcome → State → Prop) (U : State) : Prop := ∃ s₂ o, Steps tb e below U s₂ ∧ s₂.status = .running ∧ Ended s₂ below o ∧ Q o s₂
theorem own_by {tb : Tables} {e : Env} {below : List Frame} {Q : Outcome → State → Prop} {U V : State} (h : ∀ t, Steps tb e below V t → Steps tb e below U t) (k : own_Go tb e below Q V) : own_Go tb e below Q U := by
  obtain ⟨s2, o, h1, h2⟩ := k; exact ⟨s2, o, h _ h1, h2⟩
theorem own_tr {tb : Tables} {e : Env} {below : List Frame} {Q : Outcome → State → Prop} {U V : State} (h : Steps tb e below U V) (k : own_Go tb e below Q V) : own_Go tb e below Q U := own_by (fun _ q => h.trans q) k
theorem own_gen {α : Type} {x y : α} (h : x = y) {tb : Tables} {e : Env} {below : List Frame} {Q : Outcome → State → Prop} (F : α → State) (k : own_Go tb e below Q (F y)) : own_Go tb e below Q (F x) := h ▸ k
def own_ap (f : Option Value → Heap → List Loc → Prop) (v : Option Value) (h : Heap) (L : List Loc) : Prop := f v h L
/-- what a body's contract says of its end -/
def own_Q (s : State) (Qh : Option Value → Heap → List Loc → Prop) (C S : Nat) (o : Outcome) (U' : State) : Prop := ∃ v L, o = .returned v ∧ Qh v U'.heap L ∧ FrameEnd s o U' L C S
variable {p : Program} {l : Launch} {e : Env} {R : Room} {s : State} {m : MethodId} {args : Array Value} {below : List Frame} {meth : Method} {c : Code} {T : State} {locs : List Loc} {cells slots : Nat} {Z : State} {h : Heap} {a : Addr} {pc : Nat} {Ls : Array Slot} {rest : List Value} {Qh : Option Value → Heap → List Loc → Prop} {C S : Nat} {Q : Outcome → State → Prop}
theorem own_leave (X : Stand p l e R s m args below meth c T locs cells slots) (hlk : meth.locks = false) {v : Option Value} (hv : meth.sig.returnType = none → v = none) {f : JFrame}
    (hst : ∀ fs, (∀ (f : JFrame) (acts : List Action), f.method = m → f.locked = none → f.entered = [] → (doReturn e (T.setTop f) acts v).1 = T.setFrames fs) → Steps p.tables e below (T.setTop f) (T.setFrames fs))
    (hq : Qh v T.heap locs) (hC : cells ≤ C) (hS : slots ≤ S) : own_Go p.tables e below (own_Q s Qh C S) (T.setTop f) := by
  obtain ⟨fs, hr, hrun, hended, hW, hsame⟩ := X.leave (v := v) hv hlk
  exact ⟨_, _, hst fs hr, hrun, hended, _, _, rfl, hq, ⟨_, rfl⟩, hW, hsame.mono hC hS⟩
theorem own_retI (X : Stand p l e R s m args below meth c T locs cells slots) (hx : p.tables.exec = Jvm.exec) (hlk : meth.locks = false) (eT : T.heap = h) (hret : meth.sig.returnType = some .int) {z : Int32} (hd : decode c.code pc = .ok (.ireturn, 1))
    (hq : Qh (some (.int z)) h locs) (hC : cells ≤ C) (hS : slots ≤ S) : own_Go p.tables e below (own_Q s Qh C S) (T.setTop (mkF m pc Ls (.int z :: rest))) :=
  own_leave X hlk (v := some (.int z)) (fun q => by rw [hret] at q; cases q) (fun fs hr => retOut X hx hret rfl (Or.inl ⟨rfl, Or.inl rfl, z, rfl⟩) hd hr) (eT ▸ hq) hC hS
theorem own_retN (X : Stand p l e R s m args below meth c T locs cells slots) (hx : p.tables.exec = Jvm.exec) (hlk : meth.locks = false) (eT : T.heap = h) {t : FieldType} (hret : meth.sig.returnType = some t) (ht : t = .boolean ∨ t = .byte ∨ t = .char ∨ t = .short) {z : Int32} (hd : decode c.code pc = .ok (.ireturn, 1))
    (hq : Qh (some (.int (nar t z))) h locs) (hC : cells ≤ C) (hS : slots ≤ S) : own_Go p.tables e below (own_Q s Qh C S) (T.setTop (mkF m pc Ls (.int z :: rest))) :=
  own_leave X hlk (v := some (.int (nar t z))) (fun q => by rw [hret] at q; cases q) (fun fs hr => retN X hx hret ht hd hr) (eT ▸ hq) hC hS
theorem own_retJ (X : Stand p l e R s m args below meth c T locs cells slots) (hx : p.tables.exec = Jvm.exec) (hlk : meth.locks = false) (eT : T.heap = h) (hret : meth.sig.returnType = some .long) {z : Int64} (hd : decode c.code pc = .ok (.lreturn, 1))
    (hq : Qh (some (.long z)) h locs) (hC : cells ≤ C) (hS : slots ≤ S) : own_Go p.tables e below (own_Q s Qh C S) (T.setTop (mkF m pc Ls (.long z :: rest))) :=
  own_leave X hlk (v := some (.long z)) (fun q => by rw [hret] at q; cases q) (fun fs hr => retOut X hx hret rfl (Or.inr (Or.inl ⟨rfl, rfl, z, rfl⟩)) hd hr) (eT ▸ hq) hC hS
theorem own_retA (X : Stand p l e R s m args below meth c T locs cells slots) (hx : p.tables.exec = Jvm.exec) (hlk : meth.locks = false) (eT : T.heap = h) {t : FieldType} (hret : meth.sig.returnType = some t) (ht : t.isReference = true) {w : Value} (hn : narrow t w = w) (hw : w.isRef = true) (hd : decode c.code pc = .ok (.areturn, 1))
    (hq : Qh (some w) h locs) (hC : cells ≤ C) (hS : slots ≤ S) : own_Go p.tables e below (own_Q s Qh C S) (T.setTop (mkF m pc Ls (w :: rest))) :=
  own_leave X hlk (v := some w) (fun q => by rw [hret] at q; cases q) (fun fs hr => retOut X hx hret hn (Or.inr (Or.inr (Or.inr (Or.inr ⟨rfl, ht, hw⟩)))) hd hr) (eT ▸ hq) hC hS
theorem own_retV (X : Stand p l e R s m args below meth c T locs cells slots) (hx : p.tables.exec = Jvm.exec) (hlk : meth.locks = false) (eT : T.heap = h) (hret : meth.sig.returnType = none) (hd : decode c.code pc = .ok (.return_, 1))
    (hq : Qh none h locs) (hC : cells ≤ C) (hS : slots ≤ S) : own_Go p.tables e below (own_Q s Qh C S) (T.setTop (mkF m pc Ls [])) :=
  own_leave X hlk (v := none) (fun _ => rfl) (fun fs hr => X.returnOut hx hret hd hr) (eT ▸ hq) hC hS
/-! an array by its places -/
def own_upd {α : Type} (f : Nat → α) (k : Nat) (v : α) : Nat → α := fun j => if j = k then v else f j
theorem own_upd_eq {α : Type} (f : Nat → α) (k : Nat) (v : α) : own_upd f k v k = v := by simp [own_upd]
theorem own_upd_ne {α : Type} (f : Nat → α) {k j : Nat} (v : α) (q : j ≠ k) : own_upd f k v j = f j := by simp [own_upd, q]
def own_Ar (Z : State) (h : Heap) (a : Addr) (ty : FieldType) (n : Nat) (f : Nat → Value) : Prop := ∃ cl : Cell, Arr Z h a cl ty ∧ cl.slots.size = n ∧ ∀ j, j < n → cl.slots[j]? = some (f j)
/-- ints and what is kept as ints -/
abbrev own_AI (Z : State) (h : Heap) (a : Addr) (ty : FieldType) (n : Nat) (f : Nat → Int32) : Prop := own_Ar Z h a ty n (fun j => .int (f j))
abbrev own_AJ (Z : State) (h : Heap) (a : Addr) (n : Nat) (f : Nat → Int64) : Prop := own_Ar Z h a .long n (fun j => .long (f j))
section
variable {h' : Heap} {b : Addr} {ty : FieldType} {n : Nat} {f : Nat → Value} {v : Value} {sl : Nat} {ws : List Addr}
theorem own_Ar.lt (A : own_Ar Z h a ty n f) : a < h.size := by obtain ⟨cl, q, -⟩ := A; exact q.lt
theorem own_Ar.ext (A : own_Ar Z h a ty n f) (E : Ext h h') : own_Ar Z h' a ty n f := by obtain ⟨cl, q, r⟩ := A; exact ⟨cl, q.ext E, r⟩
theorem own_Ar.other (A : own_Ar Z h a ty n f) (W : Wr h h' b sl v) (q : a ≠ b) : own_Ar Z h' a ty n f := by obtain ⟨cl, r, r'⟩ := A; exact ⟨cl, r.other W q, r'⟩
theorem own_Ar.keep (A : own_Ar Z h a ty n f) (K : Keep h h' ws) (q : a ∉ ws) : own_Ar Z h' a ty n f := by obtain ⟨cl, r, r'⟩ := A; exact ⟨cl, ⟨K.2.1 _ _ r.1 q, r.2⟩, r'⟩
theorem own_Ar.congr (A : own_Ar Z h a ty n f) {g : Nat → Value} (q : ∀ j, j < n → f j = g j) : own_Ar Z h a ty n g := by obtain ⟨cl, r, r1, r2⟩ := A; exact ⟨cl, r, r1, fun j hj => by rw [r2 j hj, q j hj]⟩
theorem own_in {j : Int32} {k n : Nat} (hk : j.toInt = (k : Int)) (hn : k < n) {cl : Cell} (S : cl.slots.size = n) : ¬ (j < 0 ∨ cl.slots.size ≤ j.toNatClampNeg) ∧ j.toNatClampNeg = k := by
  have q : j.toNatClampNeg = k := by simp [Int32.toNatClampNeg, hk]
  refine ⟨fun r => ?_, q⟩
  rcases r with r | r
  · rw [Int32.lt_iff_toInt_lt] at r; simp only [Int32.reduceToInt] at r; omega
  · omega
theorem own_Ar.set (A : own_Ar Z h a ty n f) {k : Nat} (hk : k < n) (W : Wr h h' a k v) : own_Ar Z h' a ty n (own_upd f k v) := by
  obtain ⟨cl, r, r1, r2⟩ := A
  refine ⟨_, r.same W, by rw [sz_set]; exact r1, fun j hj => ?_⟩
  show (cl.slots.setIfInBounds k v)[j]? = _
  by_cases q : j = k
  · subst q; simp [own_upd, r1, hj]
  · rw [Array.getElem?_setIfInBounds_ne (fun y => q y.symm), r2 j hj, own_upd_ne _ _ q]
end
theorem own_bal (X : Stand p l e R s m args below meth c T locs cells slots) (hx : p.tables.exec = Jvm.exec) (hZ : Z.Warmed39 s.vm) (eT : T.heap = h) {n : Nat} {f : Nat → Value} (A : own_Ar Z h a .byte n f) {j : Int32} (k : Nat) (hk : j.toInt = (k : Int)) (hn : k < n) (hd : decode c.code pc = .ok (.baload, 1)) {t : State}
    (kt : Steps p.tables e below (T.setTop (mkF m (pc + 1) Ls (f k :: rest))) t) : Steps p.tables e below (T.setTop (mkF m pc Ls (.int j :: .ref a :: rest))) t := by
  obtain ⟨cl, r, r1, r2⟩ := A
  obtain ⟨q1, q2⟩ := own_in hk hn r1
  exact X.baloadBytes hx (j := j) (v := f k) (by rw [eT]; exact r.1) (State.isArrayOf_alike hZ.alike r.2.1) r.2.2 q1 (by rw [q2]; exact r2 k hn) (g := mkF m pc Ls (.int j :: .ref a :: rest)) rfl rfl hd _ kt
theorem own_ial (X : Stand p l e R s m args below meth c T locs cells slots) (hx : p.tables.exec = Jvm.exec) (hZ : Z.Warmed39 s.vm) (eT : T.heap = h) {n : Nat} {f : Nat → Value} (A : own_Ar Z h a .int n f) {j : Int32} (k : Nat) (hk : j.toInt = (k : Int)) (hn : k < n) (hd : decode c.code pc = .ok (.iaload, 1)) {t : State}
    (kt : Steps p.tables e below (T.setTop (mkF m (pc + 1) Ls (f k :: rest))) t) : Steps p.tables e below (T.setTop (mkF m pc Ls (.int j :: .ref a :: rest))) t := by
  obtain ⟨cl, r, r1, r2⟩ := A
  obtain ⟨q1, q2⟩ := own_in hk hn r1
  exact X.iaload hx (j := j) (v := f k) (by rw [eT]; exact r.1) (State.isArrayOf_alike hZ.alike r.2.1) r.2.2 q1 (by rw [q2]; exact r2 k hn) (g := mkF m pc Ls (.int j :: .ref a :: rest)) rfl rfl hd _ kt
theorem own_lal (X : Stand p l e R s m args below meth c T locs cells slots) (hx : p.tables.exec = Jvm.exec) (hZ : Z.Warmed39 s.vm) (eT : T.heap = h) {n : Nat} {f : Nat → Value} (A : own_Ar Z h a .long n f) {j : Int32} (k : Nat) (hk : j.toInt = (k : Int)) (hn : k < n) (hd : decode c.code pc = .ok (.laload, 1)) {t : State}
    (kt : Steps p.tables e below (T.setTop (mkF m (pc + 1) Ls (f k :: rest))) t) : Steps p.tables e below (T.setTop (mkF m pc Ls (.int j :: .ref a :: rest))) t := by
  obtain ⟨cl, r, r1, r2⟩ := A
  obtain ⟨q1, q2⟩ := own_in hk hn r1
  exact X.laload hx (j := j) (v := f k) (by rw [eT]; exact r.1) (State.isArrayOf_alike hZ.alike r.2.1) r.2.2 q1 (by rw [q2]; exact r2 k hn) (g := mkF m pc Ls (.int j :: .ref a :: rest)) rfl rfl hd _ kt
theorem own_len (X : Stand p l e R s m args below meth c T locs cells slots) (hx : p.tables.exec = Jvm.exec) (hZ : Z.Warmed39 s.vm) (eT : T.heap = h) {ty : FieldType} {n : Nat} {f : Nat → Value} (A : own_Ar Z h a ty n f) (z : Int32) (hz : z = n.toInt32) (hd : decode c.code pc = .ok (.arraylength, 1)) {t : State}
    (kt : Steps p.tables e below (T.setTop (mkF m (pc + 1) Ls (.int z :: rest))) t) : Steps p.tables e below (T.setTop (mkF m pc Ls (.ref a :: rest))) t := by
  obtain ⟨cl, r, r1, r2⟩ := A
  refine X.arraylength hx (by rw [eT]; exact r.1) (State.isArrayOf_alike hZ.alike r.2.1) (g := mkF m pc Ls (.ref a :: rest)) rfl rfl hd _ ?_
  rw [r1, ← hz]; exact kt
theorem own_bas (X : Stand p l e R s m args below meth c T locs cells slots) (hx : p.tables.exec = Jvm.exec) (hZ : Z.Warmed39 s.vm) (eT : T.heap = h) {n : Nat} {f : Nat → Int32} (A : own_AI Z h a .byte n f) {j x : Int32} (k : Nat) (hk : j.toInt = (k : Int)) (hn : k < n) (hd : decode c.code pc = .ok (.bastore, 1))
    (K : ∀ T' h', Stand p l e R s m args below meth c T' (locs ++ [⟨a, k⟩]) cells slots → T'.heap = h' → Wr h h' a k (.int (nar .byte x)) → own_AI Z h' a .byte n (own_upd f k (nar .byte x)) → own_Go p.tables e below Q (T'.setTop (mkF m (pc + 1) Ls rest))) :
    own_Go p.tables e below Q (T.setTop (mkF m pc Ls (.int x :: .int j :: .ref a :: rest))) := by
  obtain ⟨cl, r, r1, r2⟩ := id A
  obtain ⟨q1, q2⟩ := own_in hk hn r1
  obtain ⟨T', h', X', e', W, st⟩ := stB X hx hZ eT r (j := j) (x := x) q1 (g := mkF m pc Ls (.int x :: .int j :: .ref a :: rest)) rfl rfl hd
  rw [q2] at X' W
  exact own_by st (K T' h' X' e' W ((A.set hn W).congr fun i hi => by simp only [own_upd]; split <;> rfl))
theorem own_ias (X : Stand p l e R s m args below meth c T locs cells slots) (hx : p.tables.exec = Jvm.exec) (hZ : Z.Warmed39 s.vm) (eT : T.heap = h) {n : Nat} {f : Nat → Int32} (A : own_AI Z h a .int n f) {j x : Int32} (k : Nat) (hk : j.toInt = (k : Int)) (hn : k < n) (hd : decode c.code pc = .ok (.iastore, 1))
    (K : ∀ T' h', Stand p l e R s m args below meth c T' (locs ++ [⟨a, k⟩]) cells slots → T'.heap = h' → Wr h h' a k (.int x) → own_AI Z h' a .int n (own_upd f k x) → own_Go p.tables e below Q (T'.setTop (mkF m (pc + 1) Ls rest))) :
    own_Go p.tables e below Q (T.setTop (mkF m pc Ls (.int x :: .int j :: .ref a :: rest))) := by
  obtain ⟨cl, r, r1, r2⟩ := id A
  obtain ⟨q1, q2⟩ := own_in hk hn r1
  obtain ⟨T', h', X', e', W, st⟩ := stI X hx hZ eT r (j := j) (x := x) q1 (g := mkF m pc Ls (.int x :: .int j :: .ref a :: rest)) rfl rfl hd
  rw [q2] at X' W
  exact own_by st (K T' h' X' e' W ((A.set hn W).congr fun i hi => by simp only [own_upd]; split <;> rfl))
theorem own_las (X : Stand p l e R s m args below meth c T locs cells slots) (hx : p.tables.exec = Jvm.exec) (hZ : Z.Warmed39 s.vm) (eT : T.heap = h) {n : Nat} {f : Nat → Int64} (A : own_AJ Z h a n f) {j : Int32} {x : Int64} (k : Nat) (hk : j.toInt = (k : Int)) (hn : k < n) (hd : decode c.code pc = .ok (.lastore, 1))
    (K : ∀ T' h', Stand p l e R s m args below meth c T' (locs ++ [⟨a, k⟩]) cells slots → T'.heap = h' → Wr h h' a k (.long x) → own_AJ Z h' a n (own_upd f k x) → own_Go p.tables e below Q (T'.setTop (mkF m (pc + 1) Ls rest))) :
    own_Go p.tables e below Q (T.setTop (mkF m pc Ls (.long x :: .int j :: .ref a :: rest))) := by
  obtain ⟨cl, r, r1, r2⟩ := id A
  obtain ⟨q1, q2⟩ := own_in hk hn r1
  obtain ⟨T', h', X', e', W, st⟩ := stJ X hx hZ eT r (j := j) (x := x) q1 (g := mkF m pc Ls (.long x :: .int j :: .ref a :: rest)) rfl rfl hd
  rw [q2] at X' W
  exact own_by st (K T' h' X' e' W ((A.set hn W).congr fun i hi => by simp only [own_upd]; split <;> rfl))
theorem own_newP (X : Stand p l e R s m args below meth c T locs cells slots) (hx : p.tables.exec = Jvm.exec) (hZ : Z.Warmed39 s.vm) {a0 : Array Value} {aty : ArrayType} (w : (Cond.arrayClass (newarray.typeOf aty)).before a0 Z = true) (eT : T.heap = h) {n : Int32} (k : Nat) (hk : n.toInt = (k : Int)) (cap : Nat) (hcap : k ≤ cap) (hb : cap * 8 ≤ 536870912) (hc : cells + 1 ≤ R.cells) (hl : slots + cap ≤ R.slots)
    (hd : decode c.code pc = .ok (.newarray aty, 2))
    (K : ∀ T' h', Stand p l e R s m args below meth c T' locs (cells + 1) (slots + cap) → T'.heap = h' → Ext h h' → own_Ar Z h' h.size (newarray.typeOf aty) k (fun _ => defaultValue (newarray.typeOf aty)) → own_Go p.tables e below Q (T'.setTop (mkF m (pc + 2) Ls (.ref h.size :: rest)))) :
    own_Go p.tables e below Q (T.setTop (mkF m pc Ls (.int n :: rest))) := by
  have q : n.toNatClampNeg = k := by simp [Int32.toNatClampNeg, hk]
  have q0 : ¬ n < 0 := by rw [Int32.lt_iff_toInt_lt]; simp only [Int32.reduceToInt]; omega
  obtain ⟨T', h', kk, X', e', E, A, st⟩ := newP X hx hZ w eT (n := n) (g := mkF m pc Ls (.int n :: rest)) rfl hd rfl q0 (cap := cap) (by rw [q]; exact hcap) hb hc hl
  refine own_by st (K T' h' X' e' E ⟨_, A, by rw [sz_new, q], fun j hj => ?_⟩)
  simp [newA, q, hj]
theorem own_size_wr {h h' : Heap} {b : Addr} {sl : Nat} {v : Value} {n0 : Nat} (W : Wr h h' b sl v) (q : n0 ≤ h.size) : n0 ≤ h'.size := by rw [W.size]; exact q
end OwnGo
theorem own_eqi {args : Array Value} {s : State} {t : Term} {k : Int32} (h : (Jvm.Cond.eq t (.int k)).value args s none s [] = some true) : t.eval args s none [] s = some (.int k) := by
  cases e : t.eval args s none [] s with
  | none => simp [Cond.value, e] at h
  | some v => cases v <;> simp [Cond.value, Term.eval, e] at h ⊢; exact h
theorem own_k10 (x v : Int32) (h : (x &&& (2147483647 : Int32)) % (10 : Int32) = v) : v = 0 ∨ v = 1 ∨ v = 2 ∨ v = 3 ∨ v = 4 ∨ v = 5 ∨ v = 6 ∨ v = 7 ∨ v = 8 ∨ v = 9 := by
  have c1 := c_and x 2147483647 (by decide)
  have c2 := c_iremV (x &&& (2147483647 : Int32)) 10
  have l1 : (10 : Int32).toInt = 10 := by decide
  rw [h, l1] at c2
  have c3 := c2.1 c1.1 (by decide)
  have e : v.toInt = 0 ∨ v.toInt = 1 ∨ v.toInt = 2 ∨ v.toInt = 3 ∨ v.toInt = 4 ∨ v.toInt = 5 ∨ v.toInt = 6 ∨ v.toInt = 7 ∨ v.toInt = 8 ∨ v.toInt = 9 := by omega
  rcases e with e | e | e | e | e | e | e | e | e | e
  · exact Or.inl ((Int32.toInt_inj.mp (e.trans (by decide))))
  · exact Or.inr (Or.inl ((Int32.toInt_inj.mp (e.trans (by decide)))))
  · exact Or.inr (Or.inr (Or.inl ((Int32.toInt_inj.mp (e.trans (by decide))))))
  · exact Or.inr (Or.inr (Or.inr (Or.inl ((Int32.toInt_inj.mp (e.trans (by decide)))))))
  · exact Or.inr (Or.inr (Or.inr (Or.inr (Or.inl ((Int32.toInt_inj.mp (e.trans (by decide))))))))
  · exact Or.inr (Or.inr (Or.inr (Or.inr (Or.inr (Or.inl ((Int32.toInt_inj.mp (e.trans (by decide)))))))))
  · exact Or.inr (Or.inr (Or.inr (Or.inr (Or.inr (Or.inr (Or.inl ((Int32.toInt_inj.mp (e.trans (by decide))))))))))
  · exact Or.inr (Or.inr (Or.inr (Or.inr (Or.inr (Or.inr (Or.inr (Or.inl ((Int32.toInt_inj.mp (e.trans (by decide)))))))))))
  · exact Or.inr (Or.inr (Or.inr (Or.inr (Or.inr (Or.inr (Or.inr (Or.inr (Or.inl ((Int32.toInt_inj.mp (e.trans (by decide))))))))))))
  · exact Or.inr (Or.inr (Or.inr (Or.inr (Or.inr (Or.inr (Or.inr (Or.inr (Or.inr ((Int32.toInt_inj.mp (e.trans (by decide))))))))))))
def own_pick (p : Int32) (b_S b_N b_B b_BOOL b_NULL b_M b_L b_SS b_NS b_BS : Addr) : Addr := if p = 0 then b_S else if p = 1 then b_N else if p = 2 then b_B else if p = 3 then b_BOOL else if p = 4 then b_NULL else if p = 5 then b_M else if p = 6 then b_L else if p = 7 then b_SS else if p = 8 then b_NS else b_BS
theorem own_pd0 : parseMethodDescriptor "(I)Lcom/example/harvester_ant/harvesterant/model/AttributeValue$Type;" = some ⟨[.int], some (.object "com/example/harvester_ant/harvesterant/model/AttributeValue$Type")⟩ := by decide +kernel
theorem own_pd1 : parseMethodDescriptor "()Z" = some ⟨[], some .boolean⟩ := by decide +kernel
theorem d1_0 : decode method_3_code 0 = .ok (.iload_n 0, 1) := by decide +kernel
theorem d1_1 : decode method_3_code 1 = .ok (.ifCond .ne 7, 3) := by decide +kernel
theorem d1_4 : decode method_3_code 4 = .ok (.getstatic 20, 3) := by decide +kernel
theorem d1_7 : decode method_3_code 7 = .ok (.areturn, 1) := by decide +kernel
theorem d1_8 : decode method_3_code 8 = .ok (.iload_n 0, 1) := by decide +kernel
theorem d1_9 : decode method_3_code 9 = .ok (.iconst 1, 1) := by decide +kernel
theorem d1_10 : decode method_3_code 10 = .ok (.if_icmp .ne 7, 3) := by decide +kernel
theorem d1_13 : decode method_3_code 13 = .ok (.getstatic 24, 3) := by decide +kernel
theorem d1_16 : decode method_3_code 16 = .ok (.areturn, 1) := by decide +kernel
theorem d1_17 : decode method_3_code 17 = .ok (.iload_n 0, 1) := by decide +kernel
theorem d1_18 : decode method_3_code 18 = .ok (.iconst 2, 1) := by decide +kernel
theorem d1_19 : decode method_3_code 19 = .ok (.if_icmp .ne 7, 3) := by decide +kernel
theorem d1_22 : decode method_3_code 22 = .ok (.getstatic 27, 3) := by decide +kernel
theorem d1_25 : decode method_3_code 25 = .ok (.areturn, 1) := by decide +kernel
theorem d1_26 : decode method_3_code 26 = .ok (.iload_n 0, 1) := by decide +kernel
theorem d1_27 : decode method_3_code 27 = .ok (.iconst 3, 1) := by decide +kernel
theorem d1_28 : decode method_3_code 28 = .ok (.if_icmp .ne 7, 3) := by decide +kernel
theorem d1_31 : decode method_3_code 31 = .ok (.getstatic 30, 3) := by decide +kernel
theorem d1_34 : decode method_3_code 34 = .ok (.areturn, 1) := by decide +kernel
theorem d1_35 : decode method_3_code 35 = .ok (.iload_n 0, 1) := by decide +kernel
theorem d1_36 : decode method_3_code 36 = .ok (.iconst 4, 1) := by decide +kernel
theorem d1_37 : decode method_3_code 37 = .ok (.if_icmp .ne 7, 3) := by decide +kernel
theorem d1_40 : decode method_3_code 40 = .ok (.getstatic 33, 3) := by decide +kernel
theorem d1_43 : decode method_3_code 43 = .ok (.areturn, 1) := by decide +kernel
theorem d1_44 : decode method_3_code 44 = .ok (.iload_n 0, 1) := by decide +kernel
theorem d1_45 : decode method_3_code 45 = .ok (.iconst 5, 1) := by decide +kernel
theorem d1_46 : decode method_3_code 46 = .ok (.if_icmp .ne 7, 3) := by decide +kernel
theorem d1_49 : decode method_3_code 49 = .ok (.getstatic 36, 3) := by decide +kernel
theorem d1_52 : decode method_3_code 52 = .ok (.areturn, 1) := by decide +kernel
theorem d1_53 : decode method_3_code 53 = .ok (.iload_n 0, 1) := by decide +kernel
theorem d1_54 : decode method_3_code 54 = .ok (.bipush 6, 2) := by decide +kernel
theorem d1_56 : decode method_3_code 56 = .ok (.if_icmp .ne 7, 3) := by decide +kernel
theorem d1_59 : decode method_3_code 59 = .ok (.getstatic 39, 3) := by decide +kernel
theorem d1_62 : decode method_3_code 62 = .ok (.areturn, 1) := by decide +kernel
theorem d1_63 : decode method_3_code 63 = .ok (.iload_n 0, 1) := by decide +kernel
theorem d1_64 : decode method_3_code 64 = .ok (.bipush 7, 2) := by decide +kernel
theorem d1_66 : decode method_3_code 66 = .ok (.if_icmp .ne 7, 3) := by decide +kernel
theorem d1_69 : decode method_3_code 69 = .ok (.getstatic 42, 3) := by decide +kernel
theorem d1_72 : decode method_3_code 72 = .ok (.areturn, 1) := by decide +kernel
theorem d1_73 : decode method_3_code 73 = .ok (.iload_n 0, 1) := by decide +kernel
theorem d1_74 : decode method_3_code 74 = .ok (.bipush 8, 2) := by decide +kernel
theorem d1_76 : decode method_3_code 76 = .ok (.if_icmp .ne 7, 3) := by decide +kernel
theorem d1_79 : decode method_3_code 79 = .ok (.getstatic 45, 3) := by decide +kernel
theorem d1_82 : decode method_3_code 82 = .ok (.areturn, 1) := by decide +kernel
theorem d1_83 : decode method_3_code 83 = .ok (.getstatic 48, 3) := by decide +kernel
theorem d1_86 : decode method_3_code 86 = .ok (.areturn, 1) := by decide +kernel
theorem pn_1 : plainName "com/example/harvester_ant/harvesterant/model/TypeIsSetPinLaw" = true := by first | (simp [plainName, overriddenIn]; done) | decide +kernel
theorem d2_0 : decode prog_26_method_5_code 0 = .ok (.aload_n 0, 1) := by decide +kernel
theorem d2_1 : decode prog_26_method_5_code 1 = .ok (.getstatic 25, 3) := by decide +kernel
theorem d2_4 : decode prog_26_method_5_code 4 = .ok (.if_acmp .eq 17, 3) := by decide +kernel
theorem d2_7 : decode prog_26_method_5_code 7 = .ok (.aload_n 0, 1) := by decide +kernel
theorem d2_8 : decode prog_26_method_5_code 8 = .ok (.getstatic 28, 3) := by decide +kernel
theorem d2_11 : decode prog_26_method_5_code 11 = .ok (.if_acmp .eq 10, 3) := by decide +kernel
theorem d2_14 : decode prog_26_method_5_code 14 = .ok (.aload_n 0, 1) := by decide +kernel
theorem d2_15 : decode prog_26_method_5_code 15 = .ok (.getstatic 31, 3) := by decide +kernel
theorem d2_18 : decode prog_26_method_5_code 18 = .ok (.if_acmp .ne 7, 3) := by decide +kernel
theorem d2_21 : decode prog_26_method_5_code 21 = .ok (.iconst 1, 1) := by decide +kernel
theorem d2_22 : decode prog_26_method_5_code 22 = .ok (.goto 4, 3) := by decide +kernel
theorem d2_25 : decode prog_26_method_5_code 25 = .ok (.iconst 0, 1) := by decide +kernel
theorem d2_26 : decode prog_26_method_5_code 26 = .ok (.ireturn, 1) := by decide +kernel
theorem pn_2 : plainName "com/example/harvester_ant/harvesterant/model/AttributeValue$Type" = true := by first | (simp [plainName, overriddenIn]; done) | decide +kernel
theorem pn_0 : plainName "com/example/harvester_ant/harvesterant/model/TypeIsSetPinLaw" = true := by first | (simp [plainName, overriddenIn]; done) | decide +kernel
set_option maxRecDepth 65536 in
set_option maxHeartbeats 40000000 in
theorem rm1 (l : Launch) (Z : State) (a0 : Array Value) (hw : ∀ d ∈ tables_1, d.before a0 Z = true) (ws : List Jvm.Cond) (p1 : Int32) (b_S b_N b_B b_BOOL b_NULL b_M b_L b_SS b_NS b_BS r1 : Addr) (h0 : Heap) (n0 : Nat) (Z0 : n0 ≤ h0.size) (S_S : Sta Z h0 "com/example/harvester_ant/harvesterant/model/AttributeValue$Type" "S" "Lcom/example/harvester_ant/harvesterant/model/AttributeValue$Type;" (.ref b_S)) (S_N : Sta Z h0 "com/example/harvester_ant/harvesterant/model/AttributeValue$Type" "N" "Lcom/example/harvester_ant/harvesterant/model/AttributeValue$Type;" (.ref b_N)) (S_B : Sta Z h0 "com/example/harvester_ant/harvesterant/model/AttributeValue$Type" "B" "Lcom/example/harvester_ant/harvesterant/model/AttributeValue$Type;" (.ref b_B)) (S_BOOL : Sta Z h0 "com/example/harvester_ant/harvesterant/model/AttributeValue$Type" "BOOL" "Lcom/example/harvester_ant/harvesterant/model/AttributeValue$Type;" (.ref b_BOOL)) (S_NULL : Sta Z h0 "com/example/harvester_ant/harvesterant/model/AttributeValue$Type" "NULL" "Lcom/example/harvester_ant/harvesterant/model/AttributeValue$Type;" (.ref b_NULL)) (S_M : Sta Z h0 "com/example/harvester_ant/harvesterant/model/AttributeValue$Type" "M" "Lcom/example/harvester_ant/harvesterant/model/AttributeValue$Type;" (.ref b_M)) (S_L : Sta Z h0 "com/example/harvester_ant/harvesterant/model/AttributeValue$Type" "L" "Lcom/example/harvester_ant/harvesterant/model/AttributeValue$Type;" (.ref b_L)) (S_SS : Sta Z h0 "com/example/harvester_ant/harvesterant/model/AttributeValue$Type" "SS" "Lcom/example/harvester_ant/harvesterant/model/AttributeValue$Type;" (.ref b_SS)) (S_NS : Sta Z h0 "com/example/harvester_ant/harvesterant/model/AttributeValue$Type" "NS" "Lcom/example/harvester_ant/harvesterant/model/AttributeValue$Type;" (.ref b_NS)) (S_BS : Sta Z h0 "com/example/harvester_ant/harvesterant/model/AttributeValue$Type" "BS" "Lcom/example/harvester_ant/harvesterant/model/AttributeValue$Type;" (.ref b_BS)) (hr : own_pick p1 b_S b_N b_B b_BOOL b_NULL b_M b_L b_SS b_NS b_BS = r1) :
    MetFree l (⟨"com/example/harvester_ant/harvesterant/model/TypeIsSetPinLaw", "pick", "(I)Lcom/example/harvester_ant/harvesterant/model/AttributeValue$Type;"⟩ : MethodName) (head1 (Jvm.Cond.code (⟨"com/example/harvester_ant/harvesterant/model/TypeIsSetPinLaw", "pick", "(I)Lcom/example/harvester_ant/harvesterant/model/AttributeValue$Type;"⟩ : MethodName) method_3_code 1 (some (.object "com/example/harvester_ant/harvesterant/model/AttributeValue$Type")) :: ws) ({ frames := 0, cells := 0, slots := 0, locals := 0 } : Room)) (fun a U => a = #[(.int p1)] ∧ Z.Warmed39 U.vm ∧ U.heap = h0) (fun _ _ _ _ _ => True) (fun _ U o U' => ∃ v L, o = .returned v ∧ own_ap (fun v h L => v = some (.ref r1) ∧ Fr n0 L ∧ h = h0) v U'.heap L ∧ FrameEnd U o U' L 0 0) := by
  refine MetFree.of_bodySF (plainFor_of_name pn_1) hisR ?_
  intro p e s m args below meth c s₁ Bd hml0 hP hK
  obtain ⟨rfl, hZ, hh⟩ := hP
  have hx := Bd.exec
  have hby := Bd.bytes
  have hml : c.maxLocals = 1 := hml0
  have hown : s.vm.findClass "com/example/harvester_ant/harvesterant/model/TypeIsSetPinLaw" = some m.cls := findClass_of_methodNamed Bd.named
  have hnm := (name_of_methodNamed Bd.named Bd.method).1
  have X0 : Stand p l e ({ frames := 0, cells := 0, slots := 0, locals := 0 } : Room) s m #[(.int p1)] below meth c s₁ [] 0 0 := Stand.of_body Bd
  have e0 : s₁.heap = h0 := by rw [← hh, Bd.state]; rfl
  have N0 := Fr.nil n0
  show own_Go p.tables e below (own_Q s (fun v h L => v = some (.ref r1) ∧ Fr n0 L ∧ h = h0) 0 0) (s₁.setTop (entryFrame m #[(.int p1)] 1))
  rw [show entryFrame m #[(.int p1)] 1 = mkF m 0 #[.val (.int p1)] [] from by first | (simp [entryFrame, mkF, argsToLocals, Value.category]; done) | rfl]
  show own_Go _ _ _ _ (s₁.setTop (mkF m 0 #[.val (.int p1)] []))
  refine own_by (fun _ k => XS.iloadN X0.here hx rfl (hb hby d1_0) rfl k) ?_
  show own_Go _ _ _ _ (s₁.setTop (mkF m 1 #[.val (.int p1)] [(.int p1)]))
  by_cases hc1 : p1 = (0 : Int32)
  · --
    refine own_by (fun _ k => XS.ifNo X0.here hx rfl (hb hby d1_1) rfl ((if0 _ _).trans (teq hc1).2) k) ?_
    show own_Go _ _ _ _ (s₁.setTop (mkF m 4 #[.val (.int p1)] []))
    obtain ⟨T2, X2, e2, st2⟩ := getS2 X0 hx hZ hown (host := "") (Or.inl (hw _ (List.mem_of_getElem? (i := 5) rfl))) Via.refl e0 S_S (g := (mkF m 4 #[.val (.int p1)] [])) rfl (hb hby d1_4)
    refine own_by st2 ?_
    show own_Go _ _ _ _ (T2.setTop (mkF m 7 #[.val (.int p1)] [(.ref b_S)]))
    exact own_retA X2 hx Bd.notSynchronized e2 Bd.returns rfl rfl rfl (hb hby d1_7) (⟨by rw [← hr]; simp [own_pick, hc1], N0, rfl⟩) (by decide) (by decide)
  · --
    refine own_by (fun _ k => XS.ifYes X0.here hx rfl (pc0 := 1) (pc' := 8) rfl (hb hby d1_1) rfl ((if0 _ _).trans (feq hc1).2) (by decide) (by decide) k) ?_
    show own_Go _ _ _ _ (s₁.setTop (mkF m 8 #[.val (.int p1)] []))
    refine own_by (fun _ k => XS.iloadN X0.here hx rfl (hb hby d1_8) rfl k) ?_
    show own_Go _ _ _ _ (s₁.setTop (mkF m 9 #[.val (.int p1)] [(.int p1)]))
    refine own_by (fun _ k => XS.iconst X0.here hx rfl (hb hby d1_9) k) ?_
    show own_Go _ _ _ _ (s₁.setTop (mkF m 10 #[.val (.int p1)] [(.int (1 : Int32)), (.int p1)]))
    by_cases hc3 : p1 = (1 : Int32)
    · --
      refine own_by (fun _ k => XS.icmpNo X0.here hx rfl (hb hby d1_10) rfl (teq hc3).2 k) ?_
      show own_Go _ _ _ _ (s₁.setTop (mkF m 13 #[.val (.int p1)] []))
      obtain ⟨T4, X4, e4, st4⟩ := getS2 X0 hx hZ hown (host := "") (Or.inl (hw _ (List.mem_of_getElem? (i := 21) rfl))) Via.refl e0 S_N (g := (mkF m 13 #[.val (.int p1)] [])) rfl (hb hby d1_13)
      refine own_by st4 ?_
      show own_Go _ _ _ _ (T4.setTop (mkF m 16 #[.val (.int p1)] [(.ref b_N)]))
      exact own_retA X4 hx Bd.notSynchronized e4 Bd.returns rfl rfl rfl (hb hby d1_16) (⟨by rw [← hr]; simp [own_pick, hc1, hc3], N0, rfl⟩) (by decide) (by decide)
    · --
      refine own_by (fun _ k => XS.icmpYes X0.here hx rfl (pc0 := 10) (pc' := 17) rfl (hb hby d1_10) rfl (feq hc3).2 (by decide) (by decide) k) ?_
      show own_Go _ _ _ _ (s₁.setTop (mkF m 17 #[.val (.int p1)] []))
      refine own_by (fun _ k => XS.iloadN X0.here hx rfl (hb hby d1_17) rfl k) ?_
      show own_Go _ _ _ _ (s₁.setTop (mkF m 18 #[.val (.int p1)] [(.int p1)]))
      refine own_by (fun _ k => XS.iconst X0.here hx rfl (hb hby d1_18) k) ?_
      show own_Go _ _ _ _ (s₁.setTop (mkF m 19 #[.val (.int p1)] [(.int (2 : Int32)), (.int p1)]))
      by_cases hc5 : p1 = (2 : Int32)
      · --
        refine own_by (fun _ k => XS.icmpNo X0.here hx rfl (hb hby d1_19) rfl (teq hc5).2 k) ?_
        show own_Go _ _ _ _ (s₁.setTop (mkF m 22 #[.val (.int p1)] []))
        obtain ⟨T6, X6, e6, st6⟩ := getS2 X0 hx hZ hown (host := "") (Or.inl (hw _ (List.mem_of_getElem? (i := 26) rfl))) Via.refl e0 S_B (g := (mkF m 22 #[.val (.int p1)] [])) rfl (hb hby d1_22)
        refine own_by st6 ?_
        show own_Go _ _ _ _ (T6.setTop (mkF m 25 #[.val (.int p1)] [(.ref b_B)]))
        exact own_retA X6 hx Bd.notSynchronized e6 Bd.returns rfl rfl rfl (hb hby d1_25) (⟨by rw [← hr]; simp [own_pick, hc1, hc3, hc5], N0, rfl⟩) (by decide) (by decide)
      · --
        refine own_by (fun _ k => XS.icmpYes X0.here hx rfl (pc0 := 19) (pc' := 26) rfl (hb hby d1_19) rfl (feq hc5).2 (by decide) (by decide) k) ?_
        show own_Go _ _ _ _ (s₁.setTop (mkF m 26 #[.val (.int p1)] []))
        refine own_by (fun _ k => XS.iloadN X0.here hx rfl (hb hby d1_26) rfl k) ?_
        show own_Go _ _ _ _ (s₁.setTop (mkF m 27 #[.val (.int p1)] [(.int p1)]))
        refine own_by (fun _ k => XS.iconst X0.here hx rfl (hb hby d1_27) k) ?_
        show own_Go _ _ _ _ (s₁.setTop (mkF m 28 #[.val (.int p1)] [(.int (3 : Int32)), (.int p1)]))
        by_cases hc7 : p1 = (3 : Int32)
        · --
          refine own_by (fun _ k => XS.icmpNo X0.here hx rfl (hb hby d1_28) rfl (teq hc7).2 k) ?_
          show own_Go _ _ _ _ (s₁.setTop (mkF m 31 #[.val (.int p1)] []))
          obtain ⟨T8, X8, e8, st8⟩ := getS2 X0 hx hZ hown (host := "") (Or.inl (hw _ (List.mem_of_getElem? (i := 19) rfl))) Via.refl e0 S_BOOL (g := (mkF m 31 #[.val (.int p1)] [])) rfl (hb hby d1_31)
          refine own_by st8 ?_
          show own_Go _ _ _ _ (T8.setTop (mkF m 34 #[.val (.int p1)] [(.ref b_BOOL)]))
          exact own_retA X8 hx Bd.notSynchronized e8 Bd.returns rfl rfl rfl (hb hby d1_34) (⟨by rw [← hr]; simp [own_pick, hc1, hc3, hc5, hc7], N0, rfl⟩) (by decide) (by decide)
        · --
          refine own_by (fun _ k => XS.icmpYes X0.here hx rfl (pc0 := 28) (pc' := 35) rfl (hb hby d1_28) rfl (feq hc7).2 (by decide) (by decide) k) ?_
          show own_Go _ _ _ _ (s₁.setTop (mkF m 35 #[.val (.int p1)] []))
          refine own_by (fun _ k => XS.iloadN X0.here hx rfl (hb hby d1_35) rfl k) ?_
          show own_Go _ _ _ _ (s₁.setTop (mkF m 36 #[.val (.int p1)] [(.int p1)]))
          refine own_by (fun _ k => XS.iconst X0.here hx rfl (hb hby d1_36) k) ?_
          show own_Go _ _ _ _ (s₁.setTop (mkF m 37 #[.val (.int p1)] [(.int (4 : Int32)), (.int p1)]))
          by_cases hc9 : p1 = (4 : Int32)
          · --
            refine own_by (fun _ k => XS.icmpNo X0.here hx rfl (hb hby d1_37) rfl (teq hc9).2 k) ?_
            show own_Go _ _ _ _ (s₁.setTop (mkF m 40 #[.val (.int p1)] []))
            obtain ⟨T10, X10, e10, st10⟩ := getS2 X0 hx hZ hown (host := "") (Or.inl (hw _ (List.mem_of_getElem? (i := 23) rfl))) Via.refl e0 S_NULL (g := (mkF m 40 #[.val (.int p1)] [])) rfl (hb hby d1_40)
            refine own_by st10 ?_
            show own_Go _ _ _ _ (T10.setTop (mkF m 43 #[.val (.int p1)] [(.ref b_NULL)]))
            exact own_retA X10 hx Bd.notSynchronized e10 Bd.returns rfl rfl rfl (hb hby d1_43) (⟨by rw [← hr]; simp [own_pick, hc1, hc3, hc5, hc7, hc9], N0, rfl⟩) (by decide) (by decide)
          · --
            refine own_by (fun _ k => XS.icmpYes X0.here hx rfl (pc0 := 37) (pc' := 44) rfl (hb hby d1_37) rfl (feq hc9).2 (by decide) (by decide) k) ?_
            show own_Go _ _ _ _ (s₁.setTop (mkF m 44 #[.val (.int p1)] []))
            refine own_by (fun _ k => XS.iloadN X0.here hx rfl (hb hby d1_44) rfl k) ?_
            show own_Go _ _ _ _ (s₁.setTop (mkF m 45 #[.val (.int p1)] [(.int p1)]))
            refine own_by (fun _ k => XS.iconst X0.here hx rfl (hb hby d1_45) k) ?_
            show own_Go _ _ _ _ (s₁.setTop (mkF m 46 #[.val (.int p1)] [(.int (5 : Int32)), (.int p1)]))
            by_cases hc11 : p1 = (5 : Int32)
            · --
              refine own_by (fun _ k => XS.icmpNo X0.here hx rfl (hb hby d1_46) rfl (teq hc11).2 k) ?_
              show own_Go _ _ _ _ (s₁.setTop (mkF m 49 #[.val (.int p1)] []))
              obtain ⟨T12, X12, e12, st12⟩ := getS2 X0 hx hZ hown (host := "") (Or.inl (hw _ (List.mem_of_getElem? (i := 30) rfl))) Via.refl e0 S_M (g := (mkF m 49 #[.val (.int p1)] [])) rfl (hb hby d1_49)
              refine own_by st12 ?_
              show own_Go _ _ _ _ (T12.setTop (mkF m 52 #[.val (.int p1)] [(.ref b_M)]))
              exact own_retA X12 hx Bd.notSynchronized e12 Bd.returns rfl rfl rfl (hb hby d1_52) (⟨by rw [← hr]; simp [own_pick, hc1, hc3, hc5, hc7, hc9, hc11], N0, rfl⟩) (by decide) (by decide)
            · --
              refine own_by (fun _ k => XS.icmpYes X0.here hx rfl (pc0 := 46) (pc' := 53) rfl (hb hby d1_46) rfl (feq hc11).2 (by decide) (by decide) k) ?_
              show own_Go _ _ _ _ (s₁.setTop (mkF m 53 #[.val (.int p1)] []))
              refine own_by (fun _ k => XS.iloadN X0.here hx rfl (hb hby d1_53) rfl k) ?_
              show own_Go _ _ _ _ (s₁.setTop (mkF m 54 #[.val (.int p1)] [(.int p1)]))
              refine own_by (fun _ k => XS.bipush X0.here hx rfl (hb hby d1_54) k) ?_
              show own_Go _ _ _ _ (s₁.setTop (mkF m 56 #[.val (.int p1)] [(.int (6 : Int32)), (.int p1)]))
              by_cases hc13 : p1 = (6 : Int32)
              · --
                refine own_by (fun _ k => XS.icmpNo X0.here hx rfl (hb hby d1_56) rfl (teq hc13).2 k) ?_
                show own_Go _ _ _ _ (s₁.setTop (mkF m 59 #[.val (.int p1)] []))
                obtain ⟨T14, X14, e14, st14⟩ := getS2 X0 hx hZ hown (host := "") (Or.inl (hw _ (List.mem_of_getElem? (i := 32) rfl))) Via.refl e0 S_L (g := (mkF m 59 #[.val (.int p1)] [])) rfl (hb hby d1_59)
                refine own_by st14 ?_
                show own_Go _ _ _ _ (T14.setTop (mkF m 62 #[.val (.int p1)] [(.ref b_L)]))
                exact own_retA X14 hx Bd.notSynchronized e14 Bd.returns rfl rfl rfl (hb hby d1_62) (⟨by rw [← hr]; simp [own_pick, hc1, hc3, hc5, hc7, hc9, hc11, hc13], N0, rfl⟩) (by decide) (by decide)
              · --
                refine own_by (fun _ k => XS.icmpYes X0.here hx rfl (pc0 := 56) (pc' := 63) rfl (hb hby d1_56) rfl (feq hc13).2 (by decide) (by decide) k) ?_
                show own_Go _ _ _ _ (s₁.setTop (mkF m 63 #[.val (.int p1)] []))
                refine own_by (fun _ k => XS.iloadN X0.here hx rfl (hb hby d1_63) rfl k) ?_
                show own_Go _ _ _ _ (s₁.setTop (mkF m 64 #[.val (.int p1)] [(.int p1)]))
                refine own_by (fun _ k => XS.bipush X0.here hx rfl (hb hby d1_64) k) ?_
                show own_Go _ _ _ _ (s₁.setTop (mkF m 66 #[.val (.int p1)] [(.int (7 : Int32)), (.int p1)]))
                by_cases hc15 : p1 = (7 : Int32)
                · --
                  refine own_by (fun _ k => XS.icmpNo X0.here hx rfl (hb hby d1_66) rfl (teq hc15).2 k) ?_
                  show own_Go _ _ _ _ (s₁.setTop (mkF m 69 #[.val (.int p1)] []))
                  obtain ⟨T16, X16, e16, st16⟩ := getS2 X0 hx hZ hown (host := "") (Or.inl (hw _ (List.mem_of_getElem? (i := 25) rfl))) Via.refl e0 S_SS (g := (mkF m 69 #[.val (.int p1)] [])) rfl (hb hby d1_69)
                  refine own_by st16 ?_
                  show own_Go _ _ _ _ (T16.setTop (mkF m 72 #[.val (.int p1)] [(.ref b_SS)]))
                  exact own_retA X16 hx Bd.notSynchronized e16 Bd.returns rfl rfl rfl (hb hby d1_72) (⟨by rw [← hr]; simp [own_pick, hc1, hc3, hc5, hc7, hc9, hc11, hc13, hc15], N0, rfl⟩) (by decide) (by decide)
                · --
                  refine own_by (fun _ k => XS.icmpYes X0.here hx rfl (pc0 := 66) (pc' := 73) rfl (hb hby d1_66) rfl (feq hc15).2 (by decide) (by decide) k) ?_
                  show own_Go _ _ _ _ (s₁.setTop (mkF m 73 #[.val (.int p1)] []))
                  refine own_by (fun _ k => XS.iloadN X0.here hx rfl (hb hby d1_73) rfl k) ?_
                  show own_Go _ _ _ _ (s₁.setTop (mkF m 74 #[.val (.int p1)] [(.int p1)]))
                  refine own_by (fun _ k => XS.bipush X0.here hx rfl (hb hby d1_74) k) ?_
                  show own_Go _ _ _ _ (s₁.setTop (mkF m 76 #[.val (.int p1)] [(.int (8 : Int32)), (.int p1)]))
                  by_cases hc17 : p1 = (8 : Int32)
                  · --
                    refine own_by (fun _ k => XS.icmpNo X0.here hx rfl (hb hby d1_76) rfl (teq hc17).2 k) ?_
                    show own_Go _ _ _ _ (s₁.setTop (mkF m 79 #[.val (.int p1)] []))
                    obtain ⟨T18, X18, e18, st18⟩ := getS2 X0 hx hZ hown (host := "") (Or.inl (hw _ (List.mem_of_getElem? (i := 28) rfl))) Via.refl e0 S_NS (g := (mkF m 79 #[.val (.int p1)] [])) rfl (hb hby d1_79)
                    refine own_by st18 ?_
                    show own_Go _ _ _ _ (T18.setTop (mkF m 82 #[.val (.int p1)] [(.ref b_NS)]))
                    exact own_retA X18 hx Bd.notSynchronized e18 Bd.returns rfl rfl rfl (hb hby d1_82) (⟨by rw [← hr]; simp [own_pick, hc1, hc3, hc5, hc7, hc9, hc11, hc13, hc15, hc17], N0, rfl⟩) (by decide) (by decide)
                  · --
                    refine own_by (fun _ k => XS.icmpYes X0.here hx rfl (pc0 := 76) (pc' := 83) rfl (hb hby d1_76) rfl (feq hc17).2 (by decide) (by decide) k) ?_
                    show own_Go _ _ _ _ (s₁.setTop (mkF m 83 #[.val (.int p1)] []))
                    obtain ⟨T19, X19, e19, st19⟩ := getS2 X0 hx hZ hown (host := "") (Or.inl (hw _ (List.mem_of_getElem? (i := 29) rfl))) Via.refl e0 S_BS (g := (mkF m 83 #[.val (.int p1)] [])) rfl (hb hby d1_83)
                    refine own_by st19 ?_
                    show own_Go _ _ _ _ (T19.setTop (mkF m 86 #[.val (.int p1)] [(.ref b_BS)]))
                    exact own_retA X19 hx Bd.notSynchronized e19 Bd.returns rfl rfl rfl (hb hby d1_86) (⟨by rw [← hr]; simp [own_pick, hc1, hc3, hc5, hc7, hc9, hc11, hc13, hc15, hc17], N0, rfl⟩) (by decide) (by decide)
set_option maxRecDepth 65536 in
set_option maxHeartbeats 40000000 in
theorem rm2 (l : Launch) (Z : State) (a0 : Array Value) (hw : ∀ d ∈ tables_1, d.before a0 Z = true) (ws : List Jvm.Cond) (a1 : Addr) (b_SS b_NS b_BS : Addr) (z1 : Int32) (h0 : Heap) (n0 : Nat) (Z0 : n0 ≤ h0.size) (S_SS : Sta Z h0 "com/example/harvester_ant/harvesterant/model/AttributeValue$Type" "SS" "Lcom/example/harvester_ant/harvesterant/model/AttributeValue$Type;" (.ref b_SS)) (S_NS : Sta Z h0 "com/example/harvester_ant/harvesterant/model/AttributeValue$Type" "NS" "Lcom/example/harvester_ant/harvesterant/model/AttributeValue$Type;" (.ref b_NS)) (S_BS : Sta Z h0 "com/example/harvester_ant/harvesterant/model/AttributeValue$Type" "BS" "Lcom/example/harvester_ant/harvesterant/model/AttributeValue$Type;" (.ref b_BS)) (hz : (if a1 = b_SS then 1 else if a1 = b_NS then 1 else if a1 = b_BS then 1 else 0) = z1) :
    MetFree l (⟨"com/example/harvester_ant/harvesterant/model/AttributeValue$Type", "isSet", "()Z"⟩ : MethodName) (head1 (Jvm.Cond.code (⟨"com/example/harvester_ant/harvesterant/model/AttributeValue$Type", "isSet", "()Z"⟩ : MethodName) prog_26_method_5_code 1 (some .boolean) :: ws) ({ frames := 0, cells := 0, slots := 0, locals := 0 } : Room)) (fun a U => a = #[(.ref a1)] ∧ Z.Warmed39 U.vm ∧ U.heap = h0) (fun _ _ _ _ _ => True) (fun _ U o U' => ∃ v L, o = .returned v ∧ own_ap (fun v h L => v = some (.int z1) ∧ Fr n0 L ∧ h = h0) v U'.heap L ∧ FrameEnd U o U' L 0 0) := by
  refine MetFree.of_bodySF (plainFor_of_name pn_2) hisR ?_
  intro p e s m args below meth c s₁ Bd hml0 hP hK
  obtain ⟨rfl, hZ, hh⟩ := hP
  have hx := Bd.exec
  have hby := Bd.bytes
  have hml : c.maxLocals = 1 := hml0
  have hown : s.vm.findClass "com/example/harvester_ant/harvesterant/model/AttributeValue$Type" = some m.cls := findClass_of_methodNamed Bd.named
  have hnm := (name_of_methodNamed Bd.named Bd.method).1
  have X0 : Stand p l e ({ frames := 0, cells := 0, slots := 0, locals := 0 } : Room) s m #[(.ref a1)] below meth c s₁ [] 0 0 := Stand.of_body Bd
  have e0 : s₁.heap = h0 := by rw [← hh, Bd.state]; rfl
  have N0 := Fr.nil n0
  show own_Go p.tables e below (own_Q s (fun v h L => v = some (.int z1) ∧ Fr n0 L ∧ h = h0) 0 0) (s₁.setTop (entryFrame m #[(.ref a1)] 1))
  rw [show entryFrame m #[(.ref a1)] 1 = mkF m 0 #[.val (.ref a1)] [] from by first | (simp [entryFrame, mkF, argsToLocals, Value.category]; done) | rfl]
  show own_Go _ _ _ _ (s₁.setTop (mkF m 0 #[.val (.ref a1)] []))
  refine own_by (fun _ k => XS.aloadN X0.here hx rfl (hb hby d2_0) rfl rfl k) ?_
  show own_Go _ _ _ _ (s₁.setTop (mkF m 1 #[.val (.ref a1)] [(.ref a1)]))
  obtain ⟨T1, X1, e1, st1⟩ := getS2 X0 hx hZ hown (host := "") (Or.inl (hw _ (List.mem_of_getElem? (i := 13) rfl))) Via.refl e0 S_SS (g := (mkF m 1 #[.val (.ref a1)] [(.ref a1)])) rfl (hb hby d2_1)
  refine own_by st1 ?_
  show own_Go _ _ _ _ (T1.setTop (mkF m 4 #[.val (.ref a1)] [(.ref b_SS), (.ref a1)]))
  by_cases ha2 : a1 = b_SS
  · --
    refine own_by (fun _ k => Jvm.RoadKit.acmp (g := (mkF m 4 #[.val (.ref a1)] [(.ref b_SS), (.ref a1)])) X1 hx rfl rfl rfl (pc0 := 4) (pc' := 21) (same := true) rfl (hb hby d2_4) rfl (decide_eq_true (congrArg Value.ref ha2)) (by decide) (by decide) k) ?_
    show own_Go _ _ _ _ (T1.setTop (mkF m 21 #[.val (.ref a1)] []))
    refine own_by (fun _ k => XS.iconst X1.here hx rfl (hb hby d2_21) k) ?_
    show own_Go _ _ _ _ (T1.setTop (mkF m 22 #[.val (.ref a1)] [(.int (1 : Int32))]))
    refine own_by (fun _ k => XS.goto X1.here hx rfl (pc0 := 22) (pc' := 26) rfl (hb hby d2_22) (by decide) (by decide) k) ?_
    show own_Go _ _ _ _ (T1.setTop (mkF m 26 #[.val (.ref a1)] [(.int (1 : Int32))]))
    exact own_retN X1 hx Bd.notSynchronized e1 Bd.returns (by simp) (hb hby d2_26) (⟨by rw [← hz]; simp [nar, ha2], N0, rfl⟩) (by decide) (by decide)
  · --
    refine own_by (fun _ k => Jvm.RoadKit.acmp (g := (mkF m 4 #[.val (.ref a1)] [(.ref b_SS), (.ref a1)])) X1 hx rfl rfl rfl (pc0 := 4) (pc' := 7) (same := false) rfl (hb hby d2_4) rfl (decide_eq_false fun q => ha2 (Value.ref.inj q)) (by decide) (by decide) k) ?_
    show own_Go _ _ _ _ (T1.setTop (mkF m 7 #[.val (.ref a1)] []))
    refine own_by (fun _ k => XS.aloadN X1.here hx rfl (hb hby d2_7) rfl rfl k) ?_
    show own_Go _ _ _ _ (T1.setTop (mkF m 8 #[.val (.ref a1)] [(.ref a1)]))
    obtain ⟨T3, X3, e3, st3⟩ := getS2 X1 hx hZ hown (host := "") (Or.inl (hw _ (List.mem_of_getElem? (i := 15) rfl))) Via.refl e1 S_NS (g := (mkF m 8 #[.val (.ref a1)] [(.ref a1)])) rfl (hb hby d2_8)
    refine own_by st3 ?_
    show own_Go _ _ _ _ (T3.setTop (mkF m 11 #[.val (.ref a1)] [(.ref b_NS), (.ref a1)]))
    by_cases ha4 : a1 = b_NS
    · --
      refine own_by (fun _ k => Jvm.RoadKit.acmp (g := (mkF m 11 #[.val (.ref a1)] [(.ref b_NS), (.ref a1)])) X3 hx rfl rfl rfl (pc0 := 11) (pc' := 21) (same := true) rfl (hb hby d2_11) rfl (decide_eq_true (congrArg Value.ref ha4)) (by decide) (by decide) k) ?_
      show own_Go _ _ _ _ (T3.setTop (mkF m 21 #[.val (.ref a1)] []))
      refine own_by (fun _ k => XS.iconst X3.here hx rfl (hb hby d2_21) k) ?_
      show own_Go _ _ _ _ (T3.setTop (mkF m 22 #[.val (.ref a1)] [(.int (1 : Int32))]))
      refine own_by (fun _ k => XS.goto X3.here hx rfl (pc0 := 22) (pc' := 26) rfl (hb hby d2_22) (by decide) (by decide) k) ?_
      show own_Go _ _ _ _ (T3.setTop (mkF m 26 #[.val (.ref a1)] [(.int (1 : Int32))]))
      exact own_retN X3 hx Bd.notSynchronized e3 Bd.returns (by simp) (hb hby d2_26) (⟨by rw [← hz]; simp [nar, ha2, ha4], N0, rfl⟩) (by decide) (by decide)
    · --
      refine own_by (fun _ k => Jvm.RoadKit.acmp (g := (mkF m 11 #[.val (.ref a1)] [(.ref b_NS), (.ref a1)])) X3 hx rfl rfl rfl (pc0 := 11) (pc' := 14) (same := false) rfl (hb hby d2_11) rfl (decide_eq_false fun q => ha4 (Value.ref.inj q)) (by decide) (by decide) k) ?_
      show own_Go _ _ _ _ (T3.setTop (mkF m 14 #[.val (.ref a1)] []))
      refine own_by (fun _ k => XS.aloadN X3.here hx rfl (hb hby d2_14) rfl rfl k) ?_
      show own_Go _ _ _ _ (T3.setTop (mkF m 15 #[.val (.ref a1)] [(.ref a1)]))
      obtain ⟨T5, X5, e5, st5⟩ := getS2 X3 hx hZ hown (host := "") (Or.inl (hw _ (List.mem_of_getElem? (i := 17) rfl))) Via.refl e3 S_BS (g := (mkF m 15 #[.val (.ref a1)] [(.ref a1)])) rfl (hb hby d2_15)
      refine own_by st5 ?_
      show own_Go _ _ _ _ (T5.setTop (mkF m 18 #[.val (.ref a1)] [(.ref b_BS), (.ref a1)]))
      by_cases ha6 : a1 = b_BS
      · --
        refine own_by (fun _ k => Jvm.RoadKit.acmp (g := (mkF m 18 #[.val (.ref a1)] [(.ref b_BS), (.ref a1)])) X5 hx rfl rfl rfl (pc0 := 18) (pc' := 21) (same := true) rfl (hb hby d2_18) rfl (decide_eq_true (congrArg Value.ref ha6)) (by decide) (by decide) k) ?_
        show own_Go _ _ _ _ (T5.setTop (mkF m 21 #[.val (.ref a1)] []))
        refine own_by (fun _ k => XS.iconst X5.here hx rfl (hb hby d2_21) k) ?_
        show own_Go _ _ _ _ (T5.setTop (mkF m 22 #[.val (.ref a1)] [(.int (1 : Int32))]))
        refine own_by (fun _ k => XS.goto X5.here hx rfl (pc0 := 22) (pc' := 26) rfl (hb hby d2_22) (by decide) (by decide) k) ?_
        show own_Go _ _ _ _ (T5.setTop (mkF m 26 #[.val (.ref a1)] [(.int (1 : Int32))]))
        exact own_retN X5 hx Bd.notSynchronized e5 Bd.returns (by simp) (hb hby d2_26) (⟨by rw [← hz]; simp [nar, ha2, ha4, ha6], N0, rfl⟩) (by decide) (by decide)
      · --
        refine own_by (fun _ k => Jvm.RoadKit.acmp (g := (mkF m 18 #[.val (.ref a1)] [(.ref b_BS), (.ref a1)])) X5 hx rfl rfl rfl (pc0 := 18) (pc' := 25) (same := false) rfl (hb hby d2_18) rfl (decide_eq_false fun q => ha6 (Value.ref.inj q)) (by decide) (by decide) k) ?_
        show own_Go _ _ _ _ (T5.setTop (mkF m 25 #[.val (.ref a1)] []))
        refine own_by (fun _ k => XS.iconst X5.here hx rfl (hb hby d2_25) k) ?_
        show own_Go _ _ _ _ (T5.setTop (mkF m 26 #[.val (.ref a1)] [(.int (0 : Int32))]))
        exact own_retN X5 hx Bd.notSynchronized e5 Bd.returns (by simp) (hb hby d2_26) (⟨by rw [← hz]; simp [nar, ha2, ha4, ha6], N0, rfl⟩) (by decide) (by decide)
set_option maxRecDepth 65536 in
set_option maxHeartbeats 40000000 in
theorem rm0 (l : Launch) (Z : State) (a0 : Array Value) (hw : ∀ d ∈ tables_1, d.before a0 Z = true) (ws : List Jvm.Cond) (p1 : Int32) (b_S b_N b_B b_BOOL b_NULL b_M b_L b_SS b_NS b_BS : Addr) (h0 : Heap) (n0 : Nat) (Z0 : n0 ≤ h0.size) (E_S : Exa Z h0 b_S "com/example/harvester_ant/harvesterant/model/AttributeValue$Type") (S_S : Sta Z h0 "com/example/harvester_ant/harvesterant/model/AttributeValue$Type" "S" "Lcom/example/harvester_ant/harvesterant/model/AttributeValue$Type;" (.ref b_S)) (F_S : Fld Z h0 b_S "java/lang/Enum" "ordinal" "I" (.int (0 : Int32))) (E_N : Exa Z h0 b_N "com/example/harvester_ant/harvesterant/model/AttributeValue$Type") (S_N : Sta Z h0 "com/example/harvester_ant/harvesterant/model/AttributeValue$Type" "N" "Lcom/example/harvester_ant/harvesterant/model/AttributeValue$Type;" (.ref b_N)) (F_N : Fld Z h0 b_N "java/lang/Enum" "ordinal" "I" (.int (1 : Int32))) (E_B : Exa Z h0 b_B "com/example/harvester_ant/harvesterant/model/AttributeValue$Type") (S_B : Sta Z h0 "com/example/harvester_ant/harvesterant/model/AttributeValue$Type" "B" "Lcom/example/harvester_ant/harvesterant/model/AttributeValue$Type;" (.ref b_B)) (F_B : Fld Z h0 b_B "java/lang/Enum" "ordinal" "I" (.int (2 : Int32))) (E_BOOL : Exa Z h0 b_BOOL "com/example/harvester_ant/harvesterant/model/AttributeValue$Type") (S_BOOL : Sta Z h0 "com/example/harvester_ant/harvesterant/model/AttributeValue$Type" "BOOL" "Lcom/example/harvester_ant/harvesterant/model/AttributeValue$Type;" (.ref b_BOOL)) (F_BOOL : Fld Z h0 b_BOOL "java/lang/Enum" "ordinal" "I" (.int (3 : Int32))) (E_NULL : Exa Z h0 b_NULL "com/example/harvester_ant/harvesterant/model/AttributeValue$Type") (S_NULL : Sta Z h0 "com/example/harvester_ant/harvesterant/model/AttributeValue$Type" "NULL" "Lcom/example/harvester_ant/harvesterant/model/AttributeValue$Type;" (.ref b_NULL)) (F_NULL : Fld Z h0 b_NULL "java/lang/Enum" "ordinal" "I" (.int (4 : Int32))) (E_M : Exa Z h0 b_M "com/example/harvester_ant/harvesterant/model/AttributeValue$Type") (S_M : Sta Z h0 "com/example/harvester_ant/harvesterant/model/AttributeValue$Type" "M" "Lcom/example/harvester_ant/harvesterant/model/AttributeValue$Type;" (.ref b_M)) (F_M : Fld Z h0 b_M "java/lang/Enum" "ordinal" "I" (.int (5 : Int32))) (E_L : Exa Z h0 b_L "com/example/harvester_ant/harvesterant/model/AttributeValue$Type") (S_L : Sta Z h0 "com/example/harvester_ant/harvesterant/model/AttributeValue$Type" "L" "Lcom/example/harvester_ant/harvesterant/model/AttributeValue$Type;" (.ref b_L)) (F_L : Fld Z h0 b_L "java/lang/Enum" "ordinal" "I" (.int (6 : Int32))) (E_SS : Exa Z h0 b_SS "com/example/harvester_ant/harvesterant/model/AttributeValue$Type") (S_SS : Sta Z h0 "com/example/harvester_ant/harvesterant/model/AttributeValue$Type" "SS" "Lcom/example/harvester_ant/harvesterant/model/AttributeValue$Type;" (.ref b_SS)) (F_SS : Fld Z h0 b_SS "java/lang/Enum" "ordinal" "I" (.int (7 : Int32))) (E_NS : Exa Z h0 b_NS "com/example/harvester_ant/harvesterant/model/AttributeValue$Type") (S_NS : Sta Z h0 "com/example/harvester_ant/harvesterant/model/AttributeValue$Type" "NS" "Lcom/example/harvester_ant/harvesterant/model/AttributeValue$Type;" (.ref b_NS)) (F_NS : Fld Z h0 b_NS "java/lang/Enum" "ordinal" "I" (.int (8 : Int32))) (E_BS : Exa Z h0 b_BS "com/example/harvester_ant/harvesterant/model/AttributeValue$Type") (S_BS : Sta Z h0 "com/example/harvester_ant/harvesterant/model/AttributeValue$Type" "BS" "Lcom/example/harvester_ant/harvesterant/model/AttributeValue$Type;" (.ref b_BS)) (F_BS : Fld Z h0 b_BS "java/lang/Enum" "ordinal" "I" (.int (9 : Int32))) :
    MetFree l x (head1 (Jvm.Cond.code x code maxLocals ret :: ws) room_1) (fun a U => a = #[(.int p1)] ∧ Z.Warmed39 U.vm ∧ U.heap = h0) (fun _ _ _ _ _ => True) (fun _ U o U' => ∃ v L, o = .returned v ∧ own_ap (fun v h L => v = some (.int 1) ∧ Fr n0 L) v U'.heap L ∧ FrameEnd U o U' L 0 0) := by
  refine MetFree.of_bodySF (plainFor_of_name pn_0) hisR ?_
  intro p e s m args below meth c s₁ Bd hml0 hP hK
  obtain ⟨rfl, hZ, hh⟩ := hP
  have hx := Bd.exec
  have hby := Bd.bytes
  have hml : c.maxLocals = 4 := hml0
  have hown : s.vm.findClass "com/example/harvester_ant/harvesterant/model/TypeIsSetPinLaw" = some m.cls := findClass_of_methodNamed Bd.named
  have hnm := (name_of_methodNamed Bd.named Bd.method).1
  have X0 : Stand p l e room_1 s m #[(.int p1)] below meth c s₁ [] 0 0 := Stand.of_body Bd
  have e0 : s₁.heap = h0 := by rw [← hh, Bd.state]; rfl
  have N0 := Fr.nil n0
  show own_Go p.tables e below (own_Q s (fun v h L => v = some (.int 1) ∧ Fr n0 L) 0 0) (s₁.setTop (entryFrame m #[(.int p1)] maxLocals))
  rw [show entryFrame m #[(.int p1)] maxLocals = mkF m 0 #[.val (.int p1), .unset, .unset, .unset] [] from by first | (simp [entryFrame, mkF, argsToLocals, Value.category, maxLocals]; done) | rfl]
  show own_Go _ _ _ _ (s₁.setTop (mkF m 0 #[.val (.int p1), .unset, .unset, .unset] []))
  refine own_by (fun _ k => XS.iloadN X0.here hx rfl (hb hby at_0) rfl k) ?_
  show own_Go _ _ _ _ (s₁.setTop (mkF m 1 #[.val (.int p1), .unset, .unset, .unset] [(.int p1)]))
  refine own_by (fun _ k => X0.ldcInt hx hown (mvT hZ (hw _ (List.mem_of_getElem? (i := 0) rfl))) (g := (mkF m 1 #[.val (.int p1), .unset, .unset, .unset] [(.int p1)])) rfl (hb hby at_1) _ k) ?_
  show own_Go _ _ _ _ (s₁.setTop (mkF m 3 #[.val (.int p1), .unset, .unset, .unset] [(.int (2147483647 : Int32)), (.int p1)]))
  refine own_by (fun _ k => XS.iand X0.here hx rfl (hb hby at_3) rfl k) ?_
  show own_Go _ _ _ _ (s₁.setTop (mkF m 4 #[.val (.int p1), .unset, .unset, .unset] [(.int (p1 &&& (2147483647 : Int32)))]))
  refine own_by (fun _ k => XS.bipush X0.here hx rfl (hb hby at_4) k) ?_
  show own_Go _ _ _ _ (s₁.setTop (mkF m 6 #[.val (.int p1), .unset, .unset, .unset] [(.int (10 : Int32)), (.int (p1 &&& (2147483647 : Int32)))]))
  refine own_by (fun _ k => iremM X0 hx rfl (hb hby at_6) rfl (by decide) k) ?_
  show own_Go _ _ _ _ (s₁.setTop (mkF m 7 #[.val (.int p1), .unset, .unset, .unset] [(.int ((p1 &&& (2147483647 : Int32)) % (10 : Int32)))]))
  obtain ⟨v1_1, hv1_1⟩ : ∃ z_ : Int32, ((p1 &&& (2147483647 : Int32)) % (10 : Int32)) = z_ := ⟨_, rfl⟩
  refine own_gen hv1_1 (fun z_ => s₁.setTop (mkF m 7 #[.val (.int p1), .unset, .unset, .unset] [(.int z_)])) ?_
  refine own_by (fun _ k => XS.istoreN X0.here hx rfl (hb hby at_7) rfl (l' := #[.val (.int p1), .val (.int v1_1), .unset, .unset]) rfl k) ?_
  rcases own_k10 p1 v1_1 hv1_1 with rfl | rfl | rfl | rfl | rfl | rfl | rfl | rfl | rfl | rfl
  · --
    show own_Go _ _ _ _ (s₁.setTop (mkF m 8 #[.val (.int p1), .val (.int (0 : Int32)), .unset, .unset] []))
    refine own_by (fun _ k => XS.iloadN X0.here hx rfl (hb hby at_8) rfl k) ?_
    show own_Go _ _ _ _ (s₁.setTop (mkF m 9 #[.val (.int p1), .val (.int (0 : Int32)), .unset, .unset] [(.int (0 : Int32))]))
    obtain ⟨_, _, ⟨T2, L2, k2, n2⟩, -, X2, ⟨Lc2, hQ2, l2, y2, z2⟩, st2⟩ := Jvm.LawKit.callS X0 hx (y := (⟨"com/example/harvester_ant/harvesterant/model/TypeIsSetPinLaw", "pick", "(I)Lcom/example/harvester_ant/harvesterant/model/AttributeValue$Type;"⟩ : MethodName)) hown (mvT hZ (hw _ (List.mem_of_getElem? (i := 1) rfl))) (mvT hZ (hw _ (List.mem_of_getElem? (i := 2) rfl))) (mvT hZ (hw _ (List.mem_of_getElem? (i := 3) rfl))) (mvT hZ (hw _ (List.mem_of_getElem? (i := 4) rfl))) (by decide) (backOf (W := 0) (rm1 l Z a0 hw [] (0 : Int32) b_S b_N b_B b_BOOL b_NULL b_M b_L b_SS b_NS b_BS b_S h0 n0 Z0 S_S S_N S_B S_BOOL S_NULL S_M S_L S_SS S_NS S_BS (by simp [own_pick])) hZ (hw _ (List.mem_of_getElem? (i := 4) rfl)) (hw _ (List.mem_of_getElem? (i := 3) rfl)) (by decide) (by decide)) (g := (mkF m 9 #[.val (.int p1), .val (.int (0 : Int32)), .unset, .unset] [(.int (0 : Int32))])) rfl (by rw [hml]; rfl) (argsL := [(.int (0 : Int32))]) (rest := []) (lenOf own_pd0 rfl) rfl (by show 2 * 0 + _ ≤ _; exact Nat.le_of_eq rfl) (hb hby at_9) (fun _ _ => ⟨rfl, e0, Nat.le_of_ble_eq_true rfl, Nat.le_of_ble_eq_true rfl⟩)
    dsimp only [Pt.U, Pt.locs, Pt.cells, Pt.slots] at X2 l2 y2 z2 st2 hQ2
    subst l2 y2 z2
    obtain ⟨rfl, N2q, e2⟩ := hQ2
    have N2 := Fr.app N0 N2q
    refine own_by st2 ?_
    show own_Go _ _ _ _ (T2.setTop (mkF m 12 #[.val (.int p1), .val (.int (0 : Int32)), .unset, .unset] [(.ref b_S)]))
    refine own_by (fun _ k => XS.astoreN X2.here hx rfl (hb hby at_12) rfl rfl (l' := #[.val (.int p1), .val (.int (0 : Int32)), .val (.ref b_S), .unset]) rfl k) ?_
    show own_Go _ _ _ _ (T2.setTop (mkF m 13 #[.val (.int p1), .val (.int (0 : Int32)), .val (.ref b_S), .unset] []))
    refine own_by (fun _ k => XS.iloadN X2.here hx rfl (hb hby at_13) rfl k) ?_
    show own_Go _ _ _ _ (T2.setTop (mkF m 14 #[.val (.int p1), .val (.int (0 : Int32)), .val (.ref b_S), .unset] [(.int (0 : Int32))]))
    refine own_by (fun _ k => XS.bipush X2.here hx rfl (hb hby at_14) k) ?_
    show own_Go _ _ _ _ (T2.setTop (mkF m 16 #[.val (.int p1), .val (.int (0 : Int32)), .val (.ref b_S), .unset] [(.int (7 : Int32)), (.int (0 : Int32))]))
    refine own_by (fun _ k => XS.icmpYes X2.here hx rfl (pc0 := 16) (pc' := 23) rfl (hb hby at_16) rfl (tlt (by decide)).1 (by decide) (by decide) k) ?_
    show own_Go _ _ _ _ (T2.setTop (mkF m 23 #[.val (.int p1), .val (.int (0 : Int32)), .val (.ref b_S), .unset] []))
    refine own_by (fun _ k => XS.iconst X2.here hx rfl (hb hby at_23) k) ?_
    show own_Go _ _ _ _ (T2.setTop (mkF m 24 #[.val (.int p1), .val (.int (0 : Int32)), .val (.ref b_S), .unset] [(.int (0 : Int32))]))
    refine own_by (fun _ k => XS.istoreN X2.here hx rfl (hb hby at_24) rfl (l' := #[.val (.int p1), .val (.int (0 : Int32)), .val (.ref b_S), .val (.int (0 : Int32))]) rfl k) ?_
    show own_Go _ _ _ _ (T2.setTop (mkF m 25 #[.val (.int p1), .val (.int (0 : Int32)), .val (.ref b_S), .val (.int (0 : Int32))] []))
    refine own_by (fun _ k => XS.aloadN X2.here hx rfl (hb hby at_25) rfl rfl k) ?_
    show own_Go _ _ _ _ (T2.setTop (mkF m 26 #[.val (.int p1), .val (.int (0 : Int32)), .val (.ref b_S), .val (.int (0 : Int32))] [(.ref b_S)]))
    obtain ⟨cq3, kq3, q3a, q3b, q3c⟩ := isOf hZ e2 E_S
    obtain ⟨_, _, ⟨T3, L3, k3, n3⟩, -, X3, ⟨Lc3, hQ3, l3, y3, z3⟩, st3⟩ := X2.virtualBack hx (y := (⟨"com/example/harvester_ant/harvesterant/model/AttributeValue$Type", "isSet", "()Z"⟩ : MethodName)) (z := (⟨"com/example/harvester_ant/harvesterant/model/AttributeValue$Type", "isSet", "()Z"⟩ : MethodName)) hown (mvT hZ (hw _ (List.mem_of_getElem? (i := 8) rfl))) (mvT hZ (hw _ (List.mem_of_getElem? (i := 9) rfl))) (notFace_of_selects (args := #[]) (mvT hZ (hw _ (List.mem_of_getElem? (i := 11) rfl)))) (mvT hZ (hw _ (List.mem_of_getElem? (i := 11) rfl))) (mvT hZ (hw _ (List.mem_of_getElem? (i := 10) rfl))) (by decide) (backOf (W := 0) (rm2 l Z a0 hw [] b_S b_SS b_NS b_BS (0 : Int32) h0 n0 Z0 S_SS S_NS S_BS (by simp [Fld.ne F_S F_SS (by decide), Fld.ne F_S F_NS (by decide), Fld.ne F_S F_BS (by decide)])) hZ (hw _ (List.mem_of_getElem? (i := 12) rfl)) (hw _ (List.mem_of_getElem? (i := 6) rfl)) (by decide) (by decide)) q3a q3c (g := (mkF m 26 #[.val (.int p1), .val (.int (0 : Int32)), .val (.ref b_S), .val (.int (0 : Int32))] [(.ref b_S)])) rfl (by rw [hml]; rfl) (Steps.refl _) (argsL := []) (rest := []) (lenOf own_pd1 rfl) rfl (by show 2 * 0 + _ ≤ _; exact Nat.le_of_eq rfl) (hb hby at_26) (fun _ _ => ⟨rfl, e2, Nat.le_of_ble_eq_true rfl, Nat.le_of_ble_eq_true rfl⟩)
    dsimp only [Pt.U, Pt.locs, Pt.cells, Pt.slots] at X3 l3 y3 z3 st3 hQ3
    subst l3 y3 z3
    obtain ⟨rfl, N3q, e3⟩ := hQ3
    have N3 := Fr.app N2 N3q
    refine own_tr st3 ?_
    show own_Go _ _ _ _ (T3.setTop (mkF m 29 #[.val (.int p1), .val (.int (0 : Int32)), .val (.ref b_S), .val (.int (0 : Int32))] [(.int (0 : Int32))]))
    refine own_by (fun _ k => XS.iloadN X3.here hx rfl (hb hby at_29) rfl k) ?_
    show own_Go _ _ _ _ (T3.setTop (mkF m 30 #[.val (.int p1), .val (.int (0 : Int32)), .val (.ref b_S), .val (.int (0 : Int32))] [(.int (0 : Int32)), (.int (0 : Int32))]))
    refine own_by (fun _ k => XS.icmpNo X3.here hx rfl (hb hby at_30) rfl (teq (by decide)).2 k) ?_
    show own_Go _ _ _ _ (T3.setTop (mkF m 33 #[.val (.int p1), .val (.int (0 : Int32)), .val (.ref b_S), .val (.int (0 : Int32))] []))
    refine own_by (fun _ k => XS.iconst X3.here hx rfl (hb hby at_33) k) ?_
    show own_Go _ _ _ _ (T3.setTop (mkF m 34 #[.val (.int p1), .val (.int (0 : Int32)), .val (.ref b_S), .val (.int (0 : Int32))] [(.int (1 : Int32))]))
    refine own_by (fun _ k => XS.goto X3.here hx rfl (pc0 := 34) (pc' := 38) rfl (hb hby at_34) (by decide) (by decide) k) ?_
    show own_Go _ _ _ _ (T3.setTop (mkF m 38 #[.val (.int p1), .val (.int (0 : Int32)), .val (.ref b_S), .val (.int (0 : Int32))] [(.int (1 : Int32))]))
    exact own_retN X3 hx Bd.notSynchronized e3 Bd.returns (by simp) (hb hby at_38) (⟨rfl, N3⟩) (by decide) (by decide)
  · --
    show own_Go _ _ _ _ (s₁.setTop (mkF m 8 #[.val (.int p1), .val (.int (1 : Int32)), .unset, .unset] []))
    refine own_by (fun _ k => XS.iloadN X0.here hx rfl (hb hby at_8) rfl k) ?_
    show own_Go _ _ _ _ (s₁.setTop (mkF m 9 #[.val (.int p1), .val (.int (1 : Int32)), .unset, .unset] [(.int (1 : Int32))]))
    obtain ⟨_, _, ⟨T4, L4, k4, n4⟩, -, X4, ⟨Lc4, hQ4, l4, y4, z4⟩, st4⟩ := Jvm.LawKit.callS X0 hx (y := (⟨"com/example/harvester_ant/harvesterant/model/TypeIsSetPinLaw", "pick", "(I)Lcom/example/harvester_ant/harvesterant/model/AttributeValue$Type;"⟩ : MethodName)) hown (mvT hZ (hw _ (List.mem_of_getElem? (i := 1) rfl))) (mvT hZ (hw _ (List.mem_of_getElem? (i := 2) rfl))) (mvT hZ (hw _ (List.mem_of_getElem? (i := 3) rfl))) (mvT hZ (hw _ (List.mem_of_getElem? (i := 4) rfl))) (by decide) (backOf (W := 0) (rm1 l Z a0 hw [] (1 : Int32) b_S b_N b_B b_BOOL b_NULL b_M b_L b_SS b_NS b_BS b_N h0 n0 Z0 S_S S_N S_B S_BOOL S_NULL S_M S_L S_SS S_NS S_BS (by simp [own_pick])) hZ (hw _ (List.mem_of_getElem? (i := 4) rfl)) (hw _ (List.mem_of_getElem? (i := 3) rfl)) (by decide) (by decide)) (g := (mkF m 9 #[.val (.int p1), .val (.int (1 : Int32)), .unset, .unset] [(.int (1 : Int32))])) rfl (by rw [hml]; rfl) (argsL := [(.int (1 : Int32))]) (rest := []) (lenOf own_pd0 rfl) rfl (by show 2 * 0 + _ ≤ _; exact Nat.le_of_eq rfl) (hb hby at_9) (fun _ _ => ⟨rfl, e0, Nat.le_of_ble_eq_true rfl, Nat.le_of_ble_eq_true rfl⟩)
    dsimp only [Pt.U, Pt.locs, Pt.cells, Pt.slots] at X4 l4 y4 z4 st4 hQ4
    subst l4 y4 z4
    obtain ⟨rfl, N4q, e4⟩ := hQ4
    have N4 := Fr.app N0 N4q
    refine own_by st4 ?_
    show own_Go _ _ _ _ (T4.setTop (mkF m 12 #[.val (.int p1), .val (.int (1 : Int32)), .unset, .unset] [(.ref b_N)]))
    refine own_by (fun _ k => XS.astoreN X4.here hx rfl (hb hby at_12) rfl rfl (l' := #[.val (.int p1), .val (.int (1 : Int32)), .val (.ref b_N), .unset]) rfl k) ?_
    show own_Go _ _ _ _ (T4.setTop (mkF m 13 #[.val (.int p1), .val (.int (1 : Int32)), .val (.ref b_N), .unset] []))
    refine own_by (fun _ k => XS.iloadN X4.here hx rfl (hb hby at_13) rfl k) ?_
    show own_Go _ _ _ _ (T4.setTop (mkF m 14 #[.val (.int p1), .val (.int (1 : Int32)), .val (.ref b_N), .unset] [(.int (1 : Int32))]))
    refine own_by (fun _ k => XS.bipush X4.here hx rfl (hb hby at_14) k) ?_
    show own_Go _ _ _ _ (T4.setTop (mkF m 16 #[.val (.int p1), .val (.int (1 : Int32)), .val (.ref b_N), .unset] [(.int (7 : Int32)), (.int (1 : Int32))]))
    refine own_by (fun _ k => XS.icmpYes X4.here hx rfl (pc0 := 16) (pc' := 23) rfl (hb hby at_16) rfl (tlt (by decide)).1 (by decide) (by decide) k) ?_
    show own_Go _ _ _ _ (T4.setTop (mkF m 23 #[.val (.int p1), .val (.int (1 : Int32)), .val (.ref b_N), .unset] []))
    refine own_by (fun _ k => XS.iconst X4.here hx rfl (hb hby at_23) k) ?_
    show own_Go _ _ _ _ (T4.setTop (mkF m 24 #[.val (.int p1), .val (.int (1 : Int32)), .val (.ref b_N), .unset] [(.int (0 : Int32))]))
    refine own_by (fun _ k => XS.istoreN X4.here hx rfl (hb hby at_24) rfl (l' := #[.val (.int p1), .val (.int (1 : Int32)), .val (.ref b_N), .val (.int (0 : Int32))]) rfl k) ?_
    show own_Go _ _ _ _ (T4.setTop (mkF m 25 #[.val (.int p1), .val (.int (1 : Int32)), .val (.ref b_N), .val (.int (0 : Int32))] []))
    refine own_by (fun _ k => XS.aloadN X4.here hx rfl (hb hby at_25) rfl rfl k) ?_
    show own_Go _ _ _ _ (T4.setTop (mkF m 26 #[.val (.int p1), .val (.int (1 : Int32)), .val (.ref b_N), .val (.int (0 : Int32))] [(.ref b_N)]))
    obtain ⟨cq5, kq5, q5a, q5b, q5c⟩ := isOf hZ e4 E_N
    obtain ⟨_, _, ⟨T5, L5, k5, n5⟩, -, X5, ⟨Lc5, hQ5, l5, y5, z5⟩, st5⟩ := X4.virtualBack hx (y := (⟨"com/example/harvester_ant/harvesterant/model/AttributeValue$Type", "isSet", "()Z"⟩ : MethodName)) (z := (⟨"com/example/harvester_ant/harvesterant/model/AttributeValue$Type", "isSet", "()Z"⟩ : MethodName)) hown (mvT hZ (hw _ (List.mem_of_getElem? (i := 8) rfl))) (mvT hZ (hw _ (List.mem_of_getElem? (i := 9) rfl))) (notFace_of_selects (args := #[]) (mvT hZ (hw _ (List.mem_of_getElem? (i := 11) rfl)))) (mvT hZ (hw _ (List.mem_of_getElem? (i := 11) rfl))) (mvT hZ (hw _ (List.mem_of_getElem? (i := 10) rfl))) (by decide) (backOf (W := 0) (rm2 l Z a0 hw [] b_N b_SS b_NS b_BS (0 : Int32) h0 n0 Z0 S_SS S_NS S_BS (by simp [Fld.ne F_N F_SS (by decide), Fld.ne F_N F_NS (by decide), Fld.ne F_N F_BS (by decide)])) hZ (hw _ (List.mem_of_getElem? (i := 12) rfl)) (hw _ (List.mem_of_getElem? (i := 6) rfl)) (by decide) (by decide)) q5a q5c (g := (mkF m 26 #[.val (.int p1), .val (.int (1 : Int32)), .val (.ref b_N), .val (.int (0 : Int32))] [(.ref b_N)])) rfl (by rw [hml]; rfl) (Steps.refl _) (argsL := []) (rest := []) (lenOf own_pd1 rfl) rfl (by show 2 * 0 + _ ≤ _; exact Nat.le_of_eq rfl) (hb hby at_26) (fun _ _ => ⟨rfl, e4, Nat.le_of_ble_eq_true rfl, Nat.le_of_ble_eq_true rfl⟩)
    dsimp only [Pt.U, Pt.locs, Pt.cells, Pt.slots] at X5 l5 y5 z5 st5 hQ5
    subst l5 y5 z5
    obtain ⟨rfl, N5q, e5⟩ := hQ5
    have N5 := Fr.app N4 N5q
    refine own_tr st5 ?_
    show own_Go _ _ _ _ (T5.setTop (mkF m 29 #[.val (.int p1), .val (.int (1 : Int32)), .val (.ref b_N), .val (.int (0 : Int32))] [(.int (0 : Int32))]))
    refine own_by (fun _ k => XS.iloadN X5.here hx rfl (hb hby at_29) rfl k) ?_
    show own_Go _ _ _ _ (T5.setTop (mkF m 30 #[.val (.int p1), .val (.int (1 : Int32)), .val (.ref b_N), .val (.int (0 : Int32))] [(.int (0 : Int32)), (.int (0 : Int32))]))
    refine own_by (fun _ k => XS.icmpNo X5.here hx rfl (hb hby at_30) rfl (teq (by decide)).2 k) ?_
    show own_Go _ _ _ _ (T5.setTop (mkF m 33 #[.val (.int p1), .val (.int (1 : Int32)), .val (.ref b_N), .val (.int (0 : Int32))] []))
    refine own_by (fun _ k => XS.iconst X5.here hx rfl (hb hby at_33) k) ?_
    show own_Go _ _ _ _ (T5.setTop (mkF m 34 #[.val (.int p1), .val (.int (1 : Int32)), .val (.ref b_N), .val (.int (0 : Int32))] [(.int (1 : Int32))]))
    refine own_by (fun _ k => XS.goto X5.here hx rfl (pc0 := 34) (pc' := 38) rfl (hb hby at_34) (by decide) (by decide) k) ?_
    show own_Go _ _ _ _ (T5.setTop (mkF m 38 #[.val (.int p1), .val (.int (1 : Int32)), .val (.ref b_N), .val (.int (0 : Int32))] [(.int (1 : Int32))]))
    exact own_retN X5 hx Bd.notSynchronized e5 Bd.returns (by simp) (hb hby at_38) (⟨rfl, N5⟩) (by decide) (by decide)
  · --
    show own_Go _ _ _ _ (s₁.setTop (mkF m 8 #[.val (.int p1), .val (.int (2 : Int32)), .unset, .unset] []))
    refine own_by (fun _ k => XS.iloadN X0.here hx rfl (hb hby at_8) rfl k) ?_
    show own_Go _ _ _ _ (s₁.setTop (mkF m 9 #[.val (.int p1), .val (.int (2 : Int32)), .unset, .unset] [(.int (2 : Int32))]))
    obtain ⟨_, _, ⟨T6, L6, k6, n6⟩, -, X6, ⟨Lc6, hQ6, l6, y6, z6⟩, st6⟩ := Jvm.LawKit.callS X0 hx (y := (⟨"com/example/harvester_ant/harvesterant/model/TypeIsSetPinLaw", "pick", "(I)Lcom/example/harvester_ant/harvesterant/model/AttributeValue$Type;"⟩ : MethodName)) hown (mvT hZ (hw _ (List.mem_of_getElem? (i := 1) rfl))) (mvT hZ (hw _ (List.mem_of_getElem? (i := 2) rfl))) (mvT hZ (hw _ (List.mem_of_getElem? (i := 3) rfl))) (mvT hZ (hw _ (List.mem_of_getElem? (i := 4) rfl))) (by decide) (backOf (W := 0) (rm1 l Z a0 hw [] (2 : Int32) b_S b_N b_B b_BOOL b_NULL b_M b_L b_SS b_NS b_BS b_B h0 n0 Z0 S_S S_N S_B S_BOOL S_NULL S_M S_L S_SS S_NS S_BS (by simp [own_pick])) hZ (hw _ (List.mem_of_getElem? (i := 4) rfl)) (hw _ (List.mem_of_getElem? (i := 3) rfl)) (by decide) (by decide)) (g := (mkF m 9 #[.val (.int p1), .val (.int (2 : Int32)), .unset, .unset] [(.int (2 : Int32))])) rfl (by rw [hml]; rfl) (argsL := [(.int (2 : Int32))]) (rest := []) (lenOf own_pd0 rfl) rfl (by show 2 * 0 + _ ≤ _; exact Nat.le_of_eq rfl) (hb hby at_9) (fun _ _ => ⟨rfl, e0, Nat.le_of_ble_eq_true rfl, Nat.le_of_ble_eq_true rfl⟩)
    dsimp only [Pt.U, Pt.locs, Pt.cells, Pt.slots] at X6 l6 y6 z6 st6 hQ6
    subst l6 y6 z6
    obtain ⟨rfl, N6q, e6⟩ := hQ6
    have N6 := Fr.app N0 N6q
    refine own_by st6 ?_
    show own_Go _ _ _ _ (T6.setTop (mkF m 12 #[.val (.int p1), .val (.int (2 : Int32)), .unset, .unset] [(.ref b_B)]))
    refine own_by (fun _ k => XS.astoreN X6.here hx rfl (hb hby at_12) rfl rfl (l' := #[.val (.int p1), .val (.int (2 : Int32)), .val (.ref b_B), .unset]) rfl k) ?_
    show own_Go _ _ _ _ (T6.setTop (mkF m 13 #[.val (.int p1), .val (.int (2 : Int32)), .val (.ref b_B), .unset] []))
    refine own_by (fun _ k => XS.iloadN X6.here hx rfl (hb hby at_13) rfl k) ?_
    show own_Go _ _ _ _ (T6.setTop (mkF m 14 #[.val (.int p1), .val (.int (2 : Int32)), .val (.ref b_B), .unset] [(.int (2 : Int32))]))
    refine own_by (fun _ k => XS.bipush X6.here hx rfl (hb hby at_14) k) ?_
    show own_Go _ _ _ _ (T6.setTop (mkF m 16 #[.val (.int p1), .val (.int (2 : Int32)), .val (.ref b_B), .unset] [(.int (7 : Int32)), (.int (2 : Int32))]))
    refine own_by (fun _ k => XS.icmpYes X6.here hx rfl (pc0 := 16) (pc' := 23) rfl (hb hby at_16) rfl (tlt (by decide)).1 (by decide) (by decide) k) ?_
    show own_Go _ _ _ _ (T6.setTop (mkF m 23 #[.val (.int p1), .val (.int (2 : Int32)), .val (.ref b_B), .unset] []))
    refine own_by (fun _ k => XS.iconst X6.here hx rfl (hb hby at_23) k) ?_
    show own_Go _ _ _ _ (T6.setTop (mkF m 24 #[.val (.int p1), .val (.int (2 : Int32)), .val (.ref b_B), .unset] [(.int (0 : Int32))]))
    refine own_by (fun _ k => XS.istoreN X6.here hx rfl (hb hby at_24) rfl (l' := #[.val (.int p1), .val (.int (2 : Int32)), .val (.ref b_B), .val (.int (0 : Int32))]) rfl k) ?_
    show own_Go _ _ _ _ (T6.setTop (mkF m 25 #[.val (.int p1), .val (.int (2 : Int32)), .val (.ref b_B), .val (.int (0 : Int32))] []))
    refine own_by (fun _ k => XS.aloadN X6.here hx rfl (hb hby at_25) rfl rfl k) ?_
    show own_Go _ _ _ _ (T6.setTop (mkF m 26 #[.val (.int p1), .val (.int (2 : Int32)), .val (.ref b_B), .val (.int (0 : Int32))] [(.ref b_B)]))
    obtain ⟨cq7, kq7, q7a, q7b, q7c⟩ := isOf hZ e6 E_B
    obtain ⟨_, _, ⟨T7, L7, k7, n7⟩, -, X7, ⟨Lc7, hQ7, l7, y7, z7⟩, st7⟩ := X6.virtualBack hx (y := (⟨"com/example/harvester_ant/harvesterant/model/AttributeValue$Type", "isSet", "()Z"⟩ : MethodName)) (z := (⟨"com/example/harvester_ant/harvesterant/model/AttributeValue$Type", "isSet", "()Z"⟩ : MethodName)) hown (mvT hZ (hw _ (List.mem_of_getElem? (i := 8) rfl))) (mvT hZ (hw _ (List.mem_of_getElem? (i := 9) rfl))) (notFace_of_selects (args := #[]) (mvT hZ (hw _ (List.mem_of_getElem? (i := 11) rfl)))) (mvT hZ (hw _ (List.mem_of_getElem? (i := 11) rfl))) (mvT hZ (hw _ (List.mem_of_getElem? (i := 10) rfl))) (by decide) (backOf (W := 0) (rm2 l Z a0 hw [] b_B b_SS b_NS b_BS (0 : Int32) h0 n0 Z0 S_SS S_NS S_BS (by simp [Fld.ne F_B F_SS (by decide), Fld.ne F_B F_NS (by decide), Fld.ne F_B F_BS (by decide)])) hZ (hw _ (List.mem_of_getElem? (i := 12) rfl)) (hw _ (List.mem_of_getElem? (i := 6) rfl)) (by decide) (by decide)) q7a q7c (g := (mkF m 26 #[.val (.int p1), .val (.int (2 : Int32)), .val (.ref b_B), .val (.int (0 : Int32))] [(.ref b_B)])) rfl (by rw [hml]; rfl) (Steps.refl _) (argsL := []) (rest := []) (lenOf own_pd1 rfl) rfl (by show 2 * 0 + _ ≤ _; exact Nat.le_of_eq rfl) (hb hby at_26) (fun _ _ => ⟨rfl, e6, Nat.le_of_ble_eq_true rfl, Nat.le_of_ble_eq_true rfl⟩)
    dsimp only [Pt.U, Pt.locs, Pt.cells, Pt.slots] at X7 l7 y7 z7 st7 hQ7
    subst l7 y7 z7
    obtain ⟨rfl, N7q, e7⟩ := hQ7
    have N7 := Fr.app N6 N7q
    refine own_tr st7 ?_
    show own_Go _ _ _ _ (T7.setTop (mkF m 29 #[.val (.int p1), .val (.int (2 : Int32)), .val (.ref b_B), .val (.int (0 : Int32))] [(.int (0 : Int32))]))
    refine own_by (fun _ k => XS.iloadN X7.here hx rfl (hb hby at_29) rfl k) ?_
    show own_Go _ _ _ _ (T7.setTop (mkF m 30 #[.val (.int p1), .val (.int (2 : Int32)), .val (.ref b_B), .val (.int (0 : Int32))] [(.int (0 : Int32)), (.int (0 : Int32))]))
    refine own_by (fun _ k => XS.icmpNo X7.here hx rfl (hb hby at_30) rfl (teq (by decide)).2 k) ?_
    show own_Go _ _ _ _ (T7.setTop (mkF m 33 #[.val (.int p1), .val (.int (2 : Int32)), .val (.ref b_B), .val (.int (0 : Int32))] []))
    refine own_by (fun _ k => XS.iconst X7.here hx rfl (hb hby at_33) k) ?_
    show own_Go _ _ _ _ (T7.setTop (mkF m 34 #[.val (.int p1), .val (.int (2 : Int32)), .val (.ref b_B), .val (.int (0 : Int32))] [(.int (1 : Int32))]))
    refine own_by (fun _ k => XS.goto X7.here hx rfl (pc0 := 34) (pc' := 38) rfl (hb hby at_34) (by decide) (by decide) k) ?_
    show own_Go _ _ _ _ (T7.setTop (mkF m 38 #[.val (.int p1), .val (.int (2 : Int32)), .val (.ref b_B), .val (.int (0 : Int32))] [(.int (1 : Int32))]))
    exact own_retN X7 hx Bd.notSynchronized e7 Bd.returns (by simp) (hb hby at_38) (⟨rfl, N7⟩) (by decide) (by decide)
  · --
    show own_Go _ _ _ _ (s₁.setTop (mkF m 8 #[.val (.int p1), .val (.int (3 : Int32)), .unset, .unset] []))
    refine own_by (fun _ k => XS.iloadN X0.here hx rfl (hb hby at_8) rfl k) ?_
    show own_Go _ _ _ _ (s₁.setTop (mkF m 9 #[.val (.int p1), .val (.int (3 : Int32)), .unset, .unset] [(.int (3 : Int32))]))
    obtain ⟨_, _, ⟨T8, L8, k8, n8⟩, -, X8, ⟨Lc8, hQ8, l8, y8, z8⟩, st8⟩ := Jvm.LawKit.callS X0 hx (y := (⟨"com/example/harvester_ant/harvesterant/model/TypeIsSetPinLaw", "pick", "(I)Lcom/example/harvester_ant/harvesterant/model/AttributeValue$Type;"⟩ : MethodName)) hown (mvT hZ (hw _ (List.mem_of_getElem? (i := 1) rfl))) (mvT hZ (hw _ (List.mem_of_getElem? (i := 2) rfl))) (mvT hZ (hw _ (List.mem_of_getElem? (i := 3) rfl))) (mvT hZ (hw _ (List.mem_of_getElem? (i := 4) rfl))) (by decide) (backOf (W := 0) (rm1 l Z a0 hw [] (3 : Int32) b_S b_N b_B b_BOOL b_NULL b_M b_L b_SS b_NS b_BS b_BOOL h0 n0 Z0 S_S S_N S_B S_BOOL S_NULL S_M S_L S_SS S_NS S_BS (by simp [own_pick])) hZ (hw _ (List.mem_of_getElem? (i := 4) rfl)) (hw _ (List.mem_of_getElem? (i := 3) rfl)) (by decide) (by decide)) (g := (mkF m 9 #[.val (.int p1), .val (.int (3 : Int32)), .unset, .unset] [(.int (3 : Int32))])) rfl (by rw [hml]; rfl) (argsL := [(.int (3 : Int32))]) (rest := []) (lenOf own_pd0 rfl) rfl (by show 2 * 0 + _ ≤ _; exact Nat.le_of_eq rfl) (hb hby at_9) (fun _ _ => ⟨rfl, e0, Nat.le_of_ble_eq_true rfl, Nat.le_of_ble_eq_true rfl⟩)
    dsimp only [Pt.U, Pt.locs, Pt.cells, Pt.slots] at X8 l8 y8 z8 st8 hQ8
    subst l8 y8 z8
    obtain ⟨rfl, N8q, e8⟩ := hQ8
    have N8 := Fr.app N0 N8q
    refine own_by st8 ?_
    show own_Go _ _ _ _ (T8.setTop (mkF m 12 #[.val (.int p1), .val (.int (3 : Int32)), .unset, .unset] [(.ref b_BOOL)]))
    refine own_by (fun _ k => XS.astoreN X8.here hx rfl (hb hby at_12) rfl rfl (l' := #[.val (.int p1), .val (.int (3 : Int32)), .val (.ref b_BOOL), .unset]) rfl k) ?_
    show own_Go _ _ _ _ (T8.setTop (mkF m 13 #[.val (.int p1), .val (.int (3 : Int32)), .val (.ref b_BOOL), .unset] []))
    refine own_by (fun _ k => XS.iloadN X8.here hx rfl (hb hby at_13) rfl k) ?_
    show own_Go _ _ _ _ (T8.setTop (mkF m 14 #[.val (.int p1), .val (.int (3 : Int32)), .val (.ref b_BOOL), .unset] [(.int (3 : Int32))]))
    refine own_by (fun _ k => XS.bipush X8.here hx rfl (hb hby at_14) k) ?_
    show own_Go _ _ _ _ (T8.setTop (mkF m 16 #[.val (.int p1), .val (.int (3 : Int32)), .val (.ref b_BOOL), .unset] [(.int (7 : Int32)), (.int (3 : Int32))]))
    refine own_by (fun _ k => XS.icmpYes X8.here hx rfl (pc0 := 16) (pc' := 23) rfl (hb hby at_16) rfl (tlt (by decide)).1 (by decide) (by decide) k) ?_
    show own_Go _ _ _ _ (T8.setTop (mkF m 23 #[.val (.int p1), .val (.int (3 : Int32)), .val (.ref b_BOOL), .unset] []))
    refine own_by (fun _ k => XS.iconst X8.here hx rfl (hb hby at_23) k) ?_
    show own_Go _ _ _ _ (T8.setTop (mkF m 24 #[.val (.int p1), .val (.int (3 : Int32)), .val (.ref b_BOOL), .unset] [(.int (0 : Int32))]))
    refine own_by (fun _ k => XS.istoreN X8.here hx rfl (hb hby at_24) rfl (l' := #[.val (.int p1), .val (.int (3 : Int32)), .val (.ref b_BOOL), .val (.int (0 : Int32))]) rfl k) ?_
    show own_Go _ _ _ _ (T8.setTop (mkF m 25 #[.val (.int p1), .val (.int (3 : Int32)), .val (.ref b_BOOL), .val (.int (0 : Int32))] []))
    refine own_by (fun _ k => XS.aloadN X8.here hx rfl (hb hby at_25) rfl rfl k) ?_
    show own_Go _ _ _ _ (T8.setTop (mkF m 26 #[.val (.int p1), .val (.int (3 : Int32)), .val (.ref b_BOOL), .val (.int (0 : Int32))] [(.ref b_BOOL)]))
    obtain ⟨cq9, kq9, q9a, q9b, q9c⟩ := isOf hZ e8 E_BOOL
    obtain ⟨_, _, ⟨T9, L9, k9, n9⟩, -, X9, ⟨Lc9, hQ9, l9, y9, z9⟩, st9⟩ := X8.virtualBack hx (y := (⟨"com/example/harvester_ant/harvesterant/model/AttributeValue$Type", "isSet", "()Z"⟩ : MethodName)) (z := (⟨"com/example/harvester_ant/harvesterant/model/AttributeValue$Type", "isSet", "()Z"⟩ : MethodName)) hown (mvT hZ (hw _ (List.mem_of_getElem? (i := 8) rfl))) (mvT hZ (hw _ (List.mem_of_getElem? (i := 9) rfl))) (notFace_of_selects (args := #[]) (mvT hZ (hw _ (List.mem_of_getElem? (i := 11) rfl)))) (mvT hZ (hw _ (List.mem_of_getElem? (i := 11) rfl))) (mvT hZ (hw _ (List.mem_of_getElem? (i := 10) rfl))) (by decide) (backOf (W := 0) (rm2 l Z a0 hw [] b_BOOL b_SS b_NS b_BS (0 : Int32) h0 n0 Z0 S_SS S_NS S_BS (by simp [Fld.ne F_BOOL F_SS (by decide), Fld.ne F_BOOL F_NS (by decide), Fld.ne F_BOOL F_BS (by decide)])) hZ (hw _ (List.mem_of_getElem? (i := 12) rfl)) (hw _ (List.mem_of_getElem? (i := 6) rfl)) (by decide) (by decide)) q9a q9c (g := (mkF m 26 #[.val (.int p1), .val (.int (3 : Int32)), .val (.ref b_BOOL), .val (.int (0 : Int32))] [(.ref b_BOOL)])) rfl (by rw [hml]; rfl) (Steps.refl _) (argsL := []) (rest := []) (lenOf own_pd1 rfl) rfl (by show 2 * 0 + _ ≤ _; exact Nat.le_of_eq rfl) (hb hby at_26) (fun _ _ => ⟨rfl, e8, Nat.le_of_ble_eq_true rfl, Nat.le_of_ble_eq_true rfl⟩)
    dsimp only [Pt.U, Pt.locs, Pt.cells, Pt.slots] at X9 l9 y9 z9 st9 hQ9
    subst l9 y9 z9
    obtain ⟨rfl, N9q, e9⟩ := hQ9
    have N9 := Fr.app N8 N9q
    refine own_tr st9 ?_
    show own_Go _ _ _ _ (T9.setTop (mkF m 29 #[.val (.int p1), .val (.int (3 : Int32)), .val (.ref b_BOOL), .val (.int (0 : Int32))] [(.int (0 : Int32))]))
    refine own_by (fun _ k => XS.iloadN X9.here hx rfl (hb hby at_29) rfl k) ?_
    show own_Go _ _ _ _ (T9.setTop (mkF m 30 #[.val (.int p1), .val (.int (3 : Int32)), .val (.ref b_BOOL), .val (.int (0 : Int32))] [(.int (0 : Int32)), (.int (0 : Int32))]))
    refine own_by (fun _ k => XS.icmpNo X9.here hx rfl (hb hby at_30) rfl (teq (by decide)).2 k) ?_
    show own_Go _ _ _ _ (T9.setTop (mkF m 33 #[.val (.int p1), .val (.int (3 : Int32)), .val (.ref b_BOOL), .val (.int (0 : Int32))] []))
    refine own_by (fun _ k => XS.iconst X9.here hx rfl (hb hby at_33) k) ?_
    show own_Go _ _ _ _ (T9.setTop (mkF m 34 #[.val (.int p1), .val (.int (3 : Int32)), .val (.ref b_BOOL), .val (.int (0 : Int32))] [(.int (1 : Int32))]))
    refine own_by (fun _ k => XS.goto X9.here hx rfl (pc0 := 34) (pc' := 38) rfl (hb hby at_34) (by decide) (by decide) k) ?_
    show own_Go _ _ _ _ (T9.setTop (mkF m 38 #[.val (.int p1), .val (.int (3 : Int32)), .val (.ref b_BOOL), .val (.int (0 : Int32))] [(.int (1 : Int32))]))
    exact own_retN X9 hx Bd.notSynchronized e9 Bd.returns (by simp) (hb hby at_38) (⟨rfl, N9⟩) (by decide) (by decide)
  · --
    show own_Go _ _ _ _ (s₁.setTop (mkF m 8 #[.val (.int p1), .val (.int (4 : Int32)), .unset, .unset] []))
    refine own_by (fun _ k => XS.iloadN X0.here hx rfl (hb hby at_8) rfl k) ?_
    show own_Go _ _ _ _ (s₁.setTop (mkF m 9 #[.val (.int p1), .val (.int (4 : Int32)), .unset, .unset] [(.int (4 : Int32))]))
    obtain ⟨_, _, ⟨T10, L10, k10, n10⟩, -, X10, ⟨Lc10, hQ10, l10, y10, z10⟩, st10⟩ := Jvm.LawKit.callS X0 hx (y := (⟨"com/example/harvester_ant/harvesterant/model/TypeIsSetPinLaw", "pick", "(I)Lcom/example/harvester_ant/harvesterant/model/AttributeValue$Type;"⟩ : MethodName)) hown (mvT hZ (hw _ (List.mem_of_getElem? (i := 1) rfl))) (mvT hZ (hw _ (List.mem_of_getElem? (i := 2) rfl))) (mvT hZ (hw _ (List.mem_of_getElem? (i := 3) rfl))) (mvT hZ (hw _ (List.mem_of_getElem? (i := 4) rfl))) (by decide) (backOf (W := 0) (rm1 l Z a0 hw [] (4 : Int32) b_S b_N b_B b_BOOL b_NULL b_M b_L b_SS b_NS b_BS b_NULL h0 n0 Z0 S_S S_N S_B S_BOOL S_NULL S_M S_L S_SS S_NS S_BS (by simp [own_pick])) hZ (hw _ (List.mem_of_getElem? (i := 4) rfl)) (hw _ (List.mem_of_getElem? (i := 3) rfl)) (by decide) (by decide)) (g := (mkF m 9 #[.val (.int p1), .val (.int (4 : Int32)), .unset, .unset] [(.int (4 : Int32))])) rfl (by rw [hml]; rfl) (argsL := [(.int (4 : Int32))]) (rest := []) (lenOf own_pd0 rfl) rfl (by show 2 * 0 + _ ≤ _; exact Nat.le_of_eq rfl) (hb hby at_9) (fun _ _ => ⟨rfl, e0, Nat.le_of_ble_eq_true rfl, Nat.le_of_ble_eq_true rfl⟩)
    dsimp only [Pt.U, Pt.locs, Pt.cells, Pt.slots] at X10 l10 y10 z10 st10 hQ10
    subst l10 y10 z10
    obtain ⟨rfl, N10q, e10⟩ := hQ10
    have N10 := Fr.app N0 N10q
    refine own_by st10 ?_
    show own_Go _ _ _ _ (T10.setTop (mkF m 12 #[.val (.int p1), .val (.int (4 : Int32)), .unset, .unset] [(.ref b_NULL)]))
    refine own_by (fun _ k => XS.astoreN X10.here hx rfl (hb hby at_12) rfl rfl (l' := #[.val (.int p1), .val (.int (4 : Int32)), .val (.ref b_NULL), .unset]) rfl k) ?_
    show own_Go _ _ _ _ (T10.setTop (mkF m 13 #[.val (.int p1), .val (.int (4 : Int32)), .val (.ref b_NULL), .unset] []))
    refine own_by (fun _ k => XS.iloadN X10.here hx rfl (hb hby at_13) rfl k) ?_
    show own_Go _ _ _ _ (T10.setTop (mkF m 14 #[.val (.int p1), .val (.int (4 : Int32)), .val (.ref b_NULL), .unset] [(.int (4 : Int32))]))
    refine own_by (fun _ k => XS.bipush X10.here hx rfl (hb hby at_14) k) ?_
    show own_Go _ _ _ _ (T10.setTop (mkF m 16 #[.val (.int p1), .val (.int (4 : Int32)), .val (.ref b_NULL), .unset] [(.int (7 : Int32)), (.int (4 : Int32))]))
    refine own_by (fun _ k => XS.icmpYes X10.here hx rfl (pc0 := 16) (pc' := 23) rfl (hb hby at_16) rfl (tlt (by decide)).1 (by decide) (by decide) k) ?_
    show own_Go _ _ _ _ (T10.setTop (mkF m 23 #[.val (.int p1), .val (.int (4 : Int32)), .val (.ref b_NULL), .unset] []))
    refine own_by (fun _ k => XS.iconst X10.here hx rfl (hb hby at_23) k) ?_
    show own_Go _ _ _ _ (T10.setTop (mkF m 24 #[.val (.int p1), .val (.int (4 : Int32)), .val (.ref b_NULL), .unset] [(.int (0 : Int32))]))
    refine own_by (fun _ k => XS.istoreN X10.here hx rfl (hb hby at_24) rfl (l' := #[.val (.int p1), .val (.int (4 : Int32)), .val (.ref b_NULL), .val (.int (0 : Int32))]) rfl k) ?_
    show own_Go _ _ _ _ (T10.setTop (mkF m 25 #[.val (.int p1), .val (.int (4 : Int32)), .val (.ref b_NULL), .val (.int (0 : Int32))] []))
    refine own_by (fun _ k => XS.aloadN X10.here hx rfl (hb hby at_25) rfl rfl k) ?_
    show own_Go _ _ _ _ (T10.setTop (mkF m 26 #[.val (.int p1), .val (.int (4 : Int32)), .val (.ref b_NULL), .val (.int (0 : Int32))] [(.ref b_NULL)]))
    obtain ⟨cq11, kq11, q11a, q11b, q11c⟩ := isOf hZ e10 E_NULL
    obtain ⟨_, _, ⟨T11, L11, k11, n11⟩, -, X11, ⟨Lc11, hQ11, l11, y11, z11⟩, st11⟩ := X10.virtualBack hx (y := (⟨"com/example/harvester_ant/harvesterant/model/AttributeValue$Type", "isSet", "()Z"⟩ : MethodName)) (z := (⟨"com/example/harvester_ant/harvesterant/model/AttributeValue$Type", "isSet", "()Z"⟩ : MethodName)) hown (mvT hZ (hw _ (List.mem_of_getElem? (i := 8) rfl))) (mvT hZ (hw _ (List.mem_of_getElem? (i := 9) rfl))) (notFace_of_selects (args := #[]) (mvT hZ (hw _ (List.mem_of_getElem? (i := 11) rfl)))) (mvT hZ (hw _ (List.mem_of_getElem? (i := 11) rfl))) (mvT hZ (hw _ (List.mem_of_getElem? (i := 10) rfl))) (by decide) (backOf (W := 0) (rm2 l Z a0 hw [] b_NULL b_SS b_NS b_BS (0 : Int32) h0 n0 Z0 S_SS S_NS S_BS (by simp [Fld.ne F_NULL F_SS (by decide), Fld.ne F_NULL F_NS (by decide), Fld.ne F_NULL F_BS (by decide)])) hZ (hw _ (List.mem_of_getElem? (i := 12) rfl)) (hw _ (List.mem_of_getElem? (i := 6) rfl)) (by decide) (by decide)) q11a q11c (g := (mkF m 26 #[.val (.int p1), .val (.int (4 : Int32)), .val (.ref b_NULL), .val (.int (0 : Int32))] [(.ref b_NULL)])) rfl (by rw [hml]; rfl) (Steps.refl _) (argsL := []) (rest := []) (lenOf own_pd1 rfl) rfl (by show 2 * 0 + _ ≤ _; exact Nat.le_of_eq rfl) (hb hby at_26) (fun _ _ => ⟨rfl, e10, Nat.le_of_ble_eq_true rfl, Nat.le_of_ble_eq_true rfl⟩)
    dsimp only [Pt.U, Pt.locs, Pt.cells, Pt.slots] at X11 l11 y11 z11 st11 hQ11
    subst l11 y11 z11
    obtain ⟨rfl, N11q, e11⟩ := hQ11
    have N11 := Fr.app N10 N11q
    refine own_tr st11 ?_
    show own_Go _ _ _ _ (T11.setTop (mkF m 29 #[.val (.int p1), .val (.int (4 : Int32)), .val (.ref b_NULL), .val (.int (0 : Int32))] [(.int (0 : Int32))]))
    refine own_by (fun _ k => XS.iloadN X11.here hx rfl (hb hby at_29) rfl k) ?_
    show own_Go _ _ _ _ (T11.setTop (mkF m 30 #[.val (.int p1), .val (.int (4 : Int32)), .val (.ref b_NULL), .val (.int (0 : Int32))] [(.int (0 : Int32)), (.int (0 : Int32))]))
    refine own_by (fun _ k => XS.icmpNo X11.here hx rfl (hb hby at_30) rfl (teq (by decide)).2 k) ?_
    show own_Go _ _ _ _ (T11.setTop (mkF m 33 #[.val (.int p1), .val (.int (4 : Int32)), .val (.ref b_NULL), .val (.int (0 : Int32))] []))
    refine own_by (fun _ k => XS.iconst X11.here hx rfl (hb hby at_33) k) ?_
    show own_Go _ _ _ _ (T11.setTop (mkF m 34 #[.val (.int p1), .val (.int (4 : Int32)), .val (.ref b_NULL), .val (.int (0 : Int32))] [(.int (1 : Int32))]))
    refine own_by (fun _ k => XS.goto X11.here hx rfl (pc0 := 34) (pc' := 38) rfl (hb hby at_34) (by decide) (by decide) k) ?_
    show own_Go _ _ _ _ (T11.setTop (mkF m 38 #[.val (.int p1), .val (.int (4 : Int32)), .val (.ref b_NULL), .val (.int (0 : Int32))] [(.int (1 : Int32))]))
    exact own_retN X11 hx Bd.notSynchronized e11 Bd.returns (by simp) (hb hby at_38) (⟨rfl, N11⟩) (by decide) (by decide)
  · --
    show own_Go _ _ _ _ (s₁.setTop (mkF m 8 #[.val (.int p1), .val (.int (5 : Int32)), .unset, .unset] []))
    refine own_by (fun _ k => XS.iloadN X0.here hx rfl (hb hby at_8) rfl k) ?_
    show own_Go _ _ _ _ (s₁.setTop (mkF m 9 #[.val (.int p1), .val (.int (5 : Int32)), .unset, .unset] [(.int (5 : Int32))]))
    obtain ⟨_, _, ⟨T12, L12, k12, n12⟩, -, X12, ⟨Lc12, hQ12, l12, y12, z12⟩, st12⟩ := Jvm.LawKit.callS X0 hx (y := (⟨"com/example/harvester_ant/harvesterant/model/TypeIsSetPinLaw", "pick", "(I)Lcom/example/harvester_ant/harvesterant/model/AttributeValue$Type;"⟩ : MethodName)) hown (mvT hZ (hw _ (List.mem_of_getElem? (i := 1) rfl))) (mvT hZ (hw _ (List.mem_of_getElem? (i := 2) rfl))) (mvT hZ (hw _ (List.mem_of_getElem? (i := 3) rfl))) (mvT hZ (hw _ (List.mem_of_getElem? (i := 4) rfl))) (by decide) (backOf (W := 0) (rm1 l Z a0 hw [] (5 : Int32) b_S b_N b_B b_BOOL b_NULL b_M b_L b_SS b_NS b_BS b_M h0 n0 Z0 S_S S_N S_B S_BOOL S_NULL S_M S_L S_SS S_NS S_BS (by simp [own_pick])) hZ (hw _ (List.mem_of_getElem? (i := 4) rfl)) (hw _ (List.mem_of_getElem? (i := 3) rfl)) (by decide) (by decide)) (g := (mkF m 9 #[.val (.int p1), .val (.int (5 : Int32)), .unset, .unset] [(.int (5 : Int32))])) rfl (by rw [hml]; rfl) (argsL := [(.int (5 : Int32))]) (rest := []) (lenOf own_pd0 rfl) rfl (by show 2 * 0 + _ ≤ _; exact Nat.le_of_eq rfl) (hb hby at_9) (fun _ _ => ⟨rfl, e0, Nat.le_of_ble_eq_true rfl, Nat.le_of_ble_eq_true rfl⟩)
    dsimp only [Pt.U, Pt.locs, Pt.cells, Pt.slots] at X12 l12 y12 z12 st12 hQ12
    subst l12 y12 z12
    obtain ⟨rfl, N12q, e12⟩ := hQ12
    have N12 := Fr.app N0 N12q
    refine own_by st12 ?_
    show own_Go _ _ _ _ (T12.setTop (mkF m 12 #[.val (.int p1), .val (.int (5 : Int32)), .unset, .unset] [(.ref b_M)]))
    refine own_by (fun _ k => XS.astoreN X12.here hx rfl (hb hby at_12) rfl rfl (l' := #[.val (.int p1), .val (.int (5 : Int32)), .val (.ref b_M), .unset]) rfl k) ?_
    show own_Go _ _ _ _ (T12.setTop (mkF m 13 #[.val (.int p1), .val (.int (5 : Int32)), .val (.ref b_M), .unset] []))
    refine own_by (fun _ k => XS.iloadN X12.here hx rfl (hb hby at_13) rfl k) ?_
    show own_Go _ _ _ _ (T12.setTop (mkF m 14 #[.val (.int p1), .val (.int (5 : Int32)), .val (.ref b_M), .unset] [(.int (5 : Int32))]))
    refine own_by (fun _ k => XS.bipush X12.here hx rfl (hb hby at_14) k) ?_
    show own_Go _ _ _ _ (T12.setTop (mkF m 16 #[.val (.int p1), .val (.int (5 : Int32)), .val (.ref b_M), .unset] [(.int (7 : Int32)), (.int (5 : Int32))]))
    refine own_by (fun _ k => XS.icmpYes X12.here hx rfl (pc0 := 16) (pc' := 23) rfl (hb hby at_16) rfl (tlt (by decide)).1 (by decide) (by decide) k) ?_
    show own_Go _ _ _ _ (T12.setTop (mkF m 23 #[.val (.int p1), .val (.int (5 : Int32)), .val (.ref b_M), .unset] []))
    refine own_by (fun _ k => XS.iconst X12.here hx rfl (hb hby at_23) k) ?_
    show own_Go _ _ _ _ (T12.setTop (mkF m 24 #[.val (.int p1), .val (.int (5 : Int32)), .val (.ref b_M), .unset] [(.int (0 : Int32))]))
    refine own_by (fun _ k => XS.istoreN X12.here hx rfl (hb hby at_24) rfl (l' := #[.val (.int p1), .val (.int (5 : Int32)), .val (.ref b_M), .val (.int (0 : Int32))]) rfl k) ?_
    show own_Go _ _ _ _ (T12.setTop (mkF m 25 #[.val (.int p1), .val (.int (5 : Int32)), .val (.ref b_M), .val (.int (0 : Int32))] []))
    refine own_by (fun _ k => XS.aloadN X12.here hx rfl (hb hby at_25) rfl rfl k) ?_
    show own_Go _ _ _ _ (T12.setTop (mkF m 26 #[.val (.int p1), .val (.int (5 : Int32)), .val (.ref b_M), .val (.int (0 : Int32))] [(.ref b_M)]))
    obtain ⟨cq13, kq13, q13a, q13b, q13c⟩ := isOf hZ e12 E_M
    obtain ⟨_, _, ⟨T13, L13, k13, n13⟩, -, X13, ⟨Lc13, hQ13, l13, y13, z13⟩, st13⟩ := X12.virtualBack hx (y := (⟨"com/example/harvester_ant/harvesterant/model/AttributeValue$Type", "isSet", "()Z"⟩ : MethodName)) (z := (⟨"com/example/harvester_ant/harvesterant/model/AttributeValue$Type", "isSet", "()Z"⟩ : MethodName)) hown (mvT hZ (hw _ (List.mem_of_getElem? (i := 8) rfl))) (mvT hZ (hw _ (List.mem_of_getElem? (i := 9) rfl))) (notFace_of_selects (args := #[]) (mvT hZ (hw _ (List.mem_of_getElem? (i := 11) rfl)))) (mvT hZ (hw _ (List.mem_of_getElem? (i := 11) rfl))) (mvT hZ (hw _ (List.mem_of_getElem? (i := 10) rfl))) (by decide) (backOf (W := 0) (rm2 l Z a0 hw [] b_M b_SS b_NS b_BS (0 : Int32) h0 n0 Z0 S_SS S_NS S_BS (by simp [Fld.ne F_M F_SS (by decide), Fld.ne F_M F_NS (by decide), Fld.ne F_M F_BS (by decide)])) hZ (hw _ (List.mem_of_getElem? (i := 12) rfl)) (hw _ (List.mem_of_getElem? (i := 6) rfl)) (by decide) (by decide)) q13a q13c (g := (mkF m 26 #[.val (.int p1), .val (.int (5 : Int32)), .val (.ref b_M), .val (.int (0 : Int32))] [(.ref b_M)])) rfl (by rw [hml]; rfl) (Steps.refl _) (argsL := []) (rest := []) (lenOf own_pd1 rfl) rfl (by show 2 * 0 + _ ≤ _; exact Nat.le_of_eq rfl) (hb hby at_26) (fun _ _ => ⟨rfl, e12, Nat.le_of_ble_eq_true rfl, Nat.le_of_ble_eq_true rfl⟩)
    dsimp only [Pt.U, Pt.locs, Pt.cells, Pt.slots] at X13 l13 y13 z13 st13 hQ13
    subst l13 y13 z13
    obtain ⟨rfl, N13q, e13⟩ := hQ13
    have N13 := Fr.app N12 N13q
    refine own_tr st13 ?_
    show own_Go _ _ _ _ (T13.setTop (mkF m 29 #[.val (.int p1), .val (.int (5 : Int32)), .val (.ref b_M), .val (.int (0 : Int32))] [(.int (0 : Int32))]))
    refine own_by (fun _ k => XS.iloadN X13.here hx rfl (hb hby at_29) rfl k) ?_
    show own_Go _ _ _ _ (T13.setTop (mkF m 30 #[.val (.int p1), .val (.int (5 : Int32)), .val (.ref b_M), .val (.int (0 : Int32))] [(.int (0 : Int32)), (.int (0 : Int32))]))
    refine own_by (fun _ k => XS.icmpNo X13.here hx rfl (hb hby at_30) rfl (teq (by decide)).2 k) ?_
    show own_Go _ _ _ _ (T13.setTop (mkF m 33 #[.val (.int p1), .val (.int (5 : Int32)), .val (.ref b_M), .val (.int (0 : Int32))] []))
    refine own_by (fun _ k => XS.iconst X13.here hx rfl (hb hby at_33) k) ?_
    show own_Go _ _ _ _ (T13.setTop (mkF m 34 #[.val (.int p1), .val (.int (5 : Int32)), .val (.ref b_M), .val (.int (0 : Int32))] [(.int (1 : Int32))]))
    refine own_by (fun _ k => XS.goto X13.here hx rfl (pc0 := 34) (pc' := 38) rfl (hb hby at_34) (by decide) (by decide) k) ?_
    show own_Go _ _ _ _ (T13.setTop (mkF m 38 #[.val (.int p1), .val (.int (5 : Int32)), .val (.ref b_M), .val (.int (0 : Int32))] [(.int (1 : Int32))]))
    exact own_retN X13 hx Bd.notSynchronized e13 Bd.returns (by simp) (hb hby at_38) (⟨rfl, N13⟩) (by decide) (by decide)
  · --
    show own_Go _ _ _ _ (s₁.setTop (mkF m 8 #[.val (.int p1), .val (.int (6 : Int32)), .unset, .unset] []))
    refine own_by (fun _ k => XS.iloadN X0.here hx rfl (hb hby at_8) rfl k) ?_
    show own_Go _ _ _ _ (s₁.setTop (mkF m 9 #[.val (.int p1), .val (.int (6 : Int32)), .unset, .unset] [(.int (6 : Int32))]))
    obtain ⟨_, _, ⟨T14, L14, k14, n14⟩, -, X14, ⟨Lc14, hQ14, l14, y14, z14⟩, st14⟩ := Jvm.LawKit.callS X0 hx (y := (⟨"com/example/harvester_ant/harvesterant/model/TypeIsSetPinLaw", "pick", "(I)Lcom/example/harvester_ant/harvesterant/model/AttributeValue$Type;"⟩ : MethodName)) hown (mvT hZ (hw _ (List.mem_of_getElem? (i := 1) rfl))) (mvT hZ (hw _ (List.mem_of_getElem? (i := 2) rfl))) (mvT hZ (hw _ (List.mem_of_getElem? (i := 3) rfl))) (mvT hZ (hw _ (List.mem_of_getElem? (i := 4) rfl))) (by decide) (backOf (W := 0) (rm1 l Z a0 hw [] (6 : Int32) b_S b_N b_B b_BOOL b_NULL b_M b_L b_SS b_NS b_BS b_L h0 n0 Z0 S_S S_N S_B S_BOOL S_NULL S_M S_L S_SS S_NS S_BS (by simp [own_pick])) hZ (hw _ (List.mem_of_getElem? (i := 4) rfl)) (hw _ (List.mem_of_getElem? (i := 3) rfl)) (by decide) (by decide)) (g := (mkF m 9 #[.val (.int p1), .val (.int (6 : Int32)), .unset, .unset] [(.int (6 : Int32))])) rfl (by rw [hml]; rfl) (argsL := [(.int (6 : Int32))]) (rest := []) (lenOf own_pd0 rfl) rfl (by show 2 * 0 + _ ≤ _; exact Nat.le_of_eq rfl) (hb hby at_9) (fun _ _ => ⟨rfl, e0, Nat.le_of_ble_eq_true rfl, Nat.le_of_ble_eq_true rfl⟩)
    dsimp only [Pt.U, Pt.locs, Pt.cells, Pt.slots] at X14 l14 y14 z14 st14 hQ14
    subst l14 y14 z14
    obtain ⟨rfl, N14q, e14⟩ := hQ14
    have N14 := Fr.app N0 N14q
    refine own_by st14 ?_
    show own_Go _ _ _ _ (T14.setTop (mkF m 12 #[.val (.int p1), .val (.int (6 : Int32)), .unset, .unset] [(.ref b_L)]))
    refine own_by (fun _ k => XS.astoreN X14.here hx rfl (hb hby at_12) rfl rfl (l' := #[.val (.int p1), .val (.int (6 : Int32)), .val (.ref b_L), .unset]) rfl k) ?_
    show own_Go _ _ _ _ (T14.setTop (mkF m 13 #[.val (.int p1), .val (.int (6 : Int32)), .val (.ref b_L), .unset] []))
    refine own_by (fun _ k => XS.iloadN X14.here hx rfl (hb hby at_13) rfl k) ?_
    show own_Go _ _ _ _ (T14.setTop (mkF m 14 #[.val (.int p1), .val (.int (6 : Int32)), .val (.ref b_L), .unset] [(.int (6 : Int32))]))
    refine own_by (fun _ k => XS.bipush X14.here hx rfl (hb hby at_14) k) ?_
    show own_Go _ _ _ _ (T14.setTop (mkF m 16 #[.val (.int p1), .val (.int (6 : Int32)), .val (.ref b_L), .unset] [(.int (7 : Int32)), (.int (6 : Int32))]))
    refine own_by (fun _ k => XS.icmpYes X14.here hx rfl (pc0 := 16) (pc' := 23) rfl (hb hby at_16) rfl (tlt (by decide)).1 (by decide) (by decide) k) ?_
    show own_Go _ _ _ _ (T14.setTop (mkF m 23 #[.val (.int p1), .val (.int (6 : Int32)), .val (.ref b_L), .unset] []))
    refine own_by (fun _ k => XS.iconst X14.here hx rfl (hb hby at_23) k) ?_
    show own_Go _ _ _ _ (T14.setTop (mkF m 24 #[.val (.int p1), .val (.int (6 : Int32)), .val (.ref b_L), .unset] [(.int (0 : Int32))]))
    refine own_by (fun _ k => XS.istoreN X14.here hx rfl (hb hby at_24) rfl (l' := #[.val (.int p1), .val (.int (6 : Int32)), .val (.ref b_L), .val (.int (0 : Int32))]) rfl k) ?_
    show own_Go _ _ _ _ (T14.setTop (mkF m 25 #[.val (.int p1), .val (.int (6 : Int32)), .val (.ref b_L), .val (.int (0 : Int32))] []))
    refine own_by (fun _ k => XS.aloadN X14.here hx rfl (hb hby at_25) rfl rfl k) ?_
    show own_Go _ _ _ _ (T14.setTop (mkF m 26 #[.val (.int p1), .val (.int (6 : Int32)), .val (.ref b_L), .val (.int (0 : Int32))] [(.ref b_L)]))
    obtain ⟨cq15, kq15, q15a, q15b, q15c⟩ := isOf hZ e14 E_L
    obtain ⟨_, _, ⟨T15, L15, k15, n15⟩, -, X15, ⟨Lc15, hQ15, l15, y15, z15⟩, st15⟩ := X14.virtualBack hx (y := (⟨"com/example/harvester_ant/harvesterant/model/AttributeValue$Type", "isSet", "()Z"⟩ : MethodName)) (z := (⟨"com/example/harvester_ant/harvesterant/model/AttributeValue$Type", "isSet", "()Z"⟩ : MethodName)) hown (mvT hZ (hw _ (List.mem_of_getElem? (i := 8) rfl))) (mvT hZ (hw _ (List.mem_of_getElem? (i := 9) rfl))) (notFace_of_selects (args := #[]) (mvT hZ (hw _ (List.mem_of_getElem? (i := 11) rfl)))) (mvT hZ (hw _ (List.mem_of_getElem? (i := 11) rfl))) (mvT hZ (hw _ (List.mem_of_getElem? (i := 10) rfl))) (by decide) (backOf (W := 0) (rm2 l Z a0 hw [] b_L b_SS b_NS b_BS (0 : Int32) h0 n0 Z0 S_SS S_NS S_BS (by simp [Fld.ne F_L F_SS (by decide), Fld.ne F_L F_NS (by decide), Fld.ne F_L F_BS (by decide)])) hZ (hw _ (List.mem_of_getElem? (i := 12) rfl)) (hw _ (List.mem_of_getElem? (i := 6) rfl)) (by decide) (by decide)) q15a q15c (g := (mkF m 26 #[.val (.int p1), .val (.int (6 : Int32)), .val (.ref b_L), .val (.int (0 : Int32))] [(.ref b_L)])) rfl (by rw [hml]; rfl) (Steps.refl _) (argsL := []) (rest := []) (lenOf own_pd1 rfl) rfl (by show 2 * 0 + _ ≤ _; exact Nat.le_of_eq rfl) (hb hby at_26) (fun _ _ => ⟨rfl, e14, Nat.le_of_ble_eq_true rfl, Nat.le_of_ble_eq_true rfl⟩)
    dsimp only [Pt.U, Pt.locs, Pt.cells, Pt.slots] at X15 l15 y15 z15 st15 hQ15
    subst l15 y15 z15
    obtain ⟨rfl, N15q, e15⟩ := hQ15
    have N15 := Fr.app N14 N15q
    refine own_tr st15 ?_
    show own_Go _ _ _ _ (T15.setTop (mkF m 29 #[.val (.int p1), .val (.int (6 : Int32)), .val (.ref b_L), .val (.int (0 : Int32))] [(.int (0 : Int32))]))
    refine own_by (fun _ k => XS.iloadN X15.here hx rfl (hb hby at_29) rfl k) ?_
    show own_Go _ _ _ _ (T15.setTop (mkF m 30 #[.val (.int p1), .val (.int (6 : Int32)), .val (.ref b_L), .val (.int (0 : Int32))] [(.int (0 : Int32)), (.int (0 : Int32))]))
    refine own_by (fun _ k => XS.icmpNo X15.here hx rfl (hb hby at_30) rfl (teq (by decide)).2 k) ?_
    show own_Go _ _ _ _ (T15.setTop (mkF m 33 #[.val (.int p1), .val (.int (6 : Int32)), .val (.ref b_L), .val (.int (0 : Int32))] []))
    refine own_by (fun _ k => XS.iconst X15.here hx rfl (hb hby at_33) k) ?_
    show own_Go _ _ _ _ (T15.setTop (mkF m 34 #[.val (.int p1), .val (.int (6 : Int32)), .val (.ref b_L), .val (.int (0 : Int32))] [(.int (1 : Int32))]))
    refine own_by (fun _ k => XS.goto X15.here hx rfl (pc0 := 34) (pc' := 38) rfl (hb hby at_34) (by decide) (by decide) k) ?_
    show own_Go _ _ _ _ (T15.setTop (mkF m 38 #[.val (.int p1), .val (.int (6 : Int32)), .val (.ref b_L), .val (.int (0 : Int32))] [(.int (1 : Int32))]))
    exact own_retN X15 hx Bd.notSynchronized e15 Bd.returns (by simp) (hb hby at_38) (⟨rfl, N15⟩) (by decide) (by decide)
  · --
    show own_Go _ _ _ _ (s₁.setTop (mkF m 8 #[.val (.int p1), .val (.int (7 : Int32)), .unset, .unset] []))
    refine own_by (fun _ k => XS.iloadN X0.here hx rfl (hb hby at_8) rfl k) ?_
    show own_Go _ _ _ _ (s₁.setTop (mkF m 9 #[.val (.int p1), .val (.int (7 : Int32)), .unset, .unset] [(.int (7 : Int32))]))
    obtain ⟨_, _, ⟨T16, L16, k16, n16⟩, -, X16, ⟨Lc16, hQ16, l16, y16, z16⟩, st16⟩ := Jvm.LawKit.callS X0 hx (y := (⟨"com/example/harvester_ant/harvesterant/model/TypeIsSetPinLaw", "pick", "(I)Lcom/example/harvester_ant/harvesterant/model/AttributeValue$Type;"⟩ : MethodName)) hown (mvT hZ (hw _ (List.mem_of_getElem? (i := 1) rfl))) (mvT hZ (hw _ (List.mem_of_getElem? (i := 2) rfl))) (mvT hZ (hw _ (List.mem_of_getElem? (i := 3) rfl))) (mvT hZ (hw _ (List.mem_of_getElem? (i := 4) rfl))) (by decide) (backOf (W := 0) (rm1 l Z a0 hw [] (7 : Int32) b_S b_N b_B b_BOOL b_NULL b_M b_L b_SS b_NS b_BS b_SS h0 n0 Z0 S_S S_N S_B S_BOOL S_NULL S_M S_L S_SS S_NS S_BS (by simp [own_pick])) hZ (hw _ (List.mem_of_getElem? (i := 4) rfl)) (hw _ (List.mem_of_getElem? (i := 3) rfl)) (by decide) (by decide)) (g := (mkF m 9 #[.val (.int p1), .val (.int (7 : Int32)), .unset, .unset] [(.int (7 : Int32))])) rfl (by rw [hml]; rfl) (argsL := [(.int (7 : Int32))]) (rest := []) (lenOf own_pd0 rfl) rfl (by show 2 * 0 + _ ≤ _; exact Nat.le_of_eq rfl) (hb hby at_9) (fun _ _ => ⟨rfl, e0, Nat.le_of_ble_eq_true rfl, Nat.le_of_ble_eq_true rfl⟩)
    dsimp only [Pt.U, Pt.locs, Pt.cells, Pt.slots] at X16 l16 y16 z16 st16 hQ16
    subst l16 y16 z16
    obtain ⟨rfl, N16q, e16⟩ := hQ16
    have N16 := Fr.app N0 N16q
    refine own_by st16 ?_
    show own_Go _ _ _ _ (T16.setTop (mkF m 12 #[.val (.int p1), .val (.int (7 : Int32)), .unset, .unset] [(.ref b_SS)]))
    refine own_by (fun _ k => XS.astoreN X16.here hx rfl (hb hby at_12) rfl rfl (l' := #[.val (.int p1), .val (.int (7 : Int32)), .val (.ref b_SS), .unset]) rfl k) ?_
    show own_Go _ _ _ _ (T16.setTop (mkF m 13 #[.val (.int p1), .val (.int (7 : Int32)), .val (.ref b_SS), .unset] []))
    refine own_by (fun _ k => XS.iloadN X16.here hx rfl (hb hby at_13) rfl k) ?_
    show own_Go _ _ _ _ (T16.setTop (mkF m 14 #[.val (.int p1), .val (.int (7 : Int32)), .val (.ref b_SS), .unset] [(.int (7 : Int32))]))
    refine own_by (fun _ k => XS.bipush X16.here hx rfl (hb hby at_14) k) ?_
    show own_Go _ _ _ _ (T16.setTop (mkF m 16 #[.val (.int p1), .val (.int (7 : Int32)), .val (.ref b_SS), .unset] [(.int (7 : Int32)), (.int (7 : Int32))]))
    refine own_by (fun _ k => XS.icmpNo X16.here hx rfl (hb hby at_16) rfl (flt (by decide)).1 k) ?_
    show own_Go _ _ _ _ (T16.setTop (mkF m 19 #[.val (.int p1), .val (.int (7 : Int32)), .val (.ref b_SS), .unset] []))
    refine own_by (fun _ k => XS.iconst X16.here hx rfl (hb hby at_19) k) ?_
    show own_Go _ _ _ _ (T16.setTop (mkF m 20 #[.val (.int p1), .val (.int (7 : Int32)), .val (.ref b_SS), .unset] [(.int (1 : Int32))]))
    refine own_by (fun _ k => XS.goto X16.here hx rfl (pc0 := 20) (pc' := 24) rfl (hb hby at_20) (by decide) (by decide) k) ?_
    show own_Go _ _ _ _ (T16.setTop (mkF m 24 #[.val (.int p1), .val (.int (7 : Int32)), .val (.ref b_SS), .unset] [(.int (1 : Int32))]))
    refine own_by (fun _ k => XS.istoreN X16.here hx rfl (hb hby at_24) rfl (l' := #[.val (.int p1), .val (.int (7 : Int32)), .val (.ref b_SS), .val (.int (1 : Int32))]) rfl k) ?_
    show own_Go _ _ _ _ (T16.setTop (mkF m 25 #[.val (.int p1), .val (.int (7 : Int32)), .val (.ref b_SS), .val (.int (1 : Int32))] []))
    refine own_by (fun _ k => XS.aloadN X16.here hx rfl (hb hby at_25) rfl rfl k) ?_
    show own_Go _ _ _ _ (T16.setTop (mkF m 26 #[.val (.int p1), .val (.int (7 : Int32)), .val (.ref b_SS), .val (.int (1 : Int32))] [(.ref b_SS)]))
    obtain ⟨cq17, kq17, q17a, q17b, q17c⟩ := isOf hZ e16 E_SS
    obtain ⟨_, _, ⟨T17, L17, k17, n17⟩, -, X17, ⟨Lc17, hQ17, l17, y17, z17⟩, st17⟩ := X16.virtualBack hx (y := (⟨"com/example/harvester_ant/harvesterant/model/AttributeValue$Type", "isSet", "()Z"⟩ : MethodName)) (z := (⟨"com/example/harvester_ant/harvesterant/model/AttributeValue$Type", "isSet", "()Z"⟩ : MethodName)) hown (mvT hZ (hw _ (List.mem_of_getElem? (i := 8) rfl))) (mvT hZ (hw _ (List.mem_of_getElem? (i := 9) rfl))) (notFace_of_selects (args := #[]) (mvT hZ (hw _ (List.mem_of_getElem? (i := 11) rfl)))) (mvT hZ (hw _ (List.mem_of_getElem? (i := 11) rfl))) (mvT hZ (hw _ (List.mem_of_getElem? (i := 10) rfl))) (by decide) (backOf (W := 0) (rm2 l Z a0 hw [] b_SS b_SS b_NS b_BS (1 : Int32) h0 n0 Z0 S_SS S_NS S_BS (by simp [Fld.ne F_SS F_NS (by decide), Fld.ne F_SS F_BS (by decide)])) hZ (hw _ (List.mem_of_getElem? (i := 12) rfl)) (hw _ (List.mem_of_getElem? (i := 6) rfl)) (by decide) (by decide)) q17a q17c (g := (mkF m 26 #[.val (.int p1), .val (.int (7 : Int32)), .val (.ref b_SS), .val (.int (1 : Int32))] [(.ref b_SS)])) rfl (by rw [hml]; rfl) (Steps.refl _) (argsL := []) (rest := []) (lenOf own_pd1 rfl) rfl (by show 2 * 0 + _ ≤ _; exact Nat.le_of_eq rfl) (hb hby at_26) (fun _ _ => ⟨rfl, e16, Nat.le_of_ble_eq_true rfl, Nat.le_of_ble_eq_true rfl⟩)
    dsimp only [Pt.U, Pt.locs, Pt.cells, Pt.slots] at X17 l17 y17 z17 st17 hQ17
    subst l17 y17 z17
    obtain ⟨rfl, N17q, e17⟩ := hQ17
    have N17 := Fr.app N16 N17q
    refine own_tr st17 ?_
    show own_Go _ _ _ _ (T17.setTop (mkF m 29 #[.val (.int p1), .val (.int (7 : Int32)), .val (.ref b_SS), .val (.int (1 : Int32))] [(.int (1 : Int32))]))
    refine own_by (fun _ k => XS.iloadN X17.here hx rfl (hb hby at_29) rfl k) ?_
    show own_Go _ _ _ _ (T17.setTop (mkF m 30 #[.val (.int p1), .val (.int (7 : Int32)), .val (.ref b_SS), .val (.int (1 : Int32))] [(.int (1 : Int32)), (.int (1 : Int32))]))
    refine own_by (fun _ k => XS.icmpNo X17.here hx rfl (hb hby at_30) rfl (teq (by decide)).2 k) ?_
    show own_Go _ _ _ _ (T17.setTop (mkF m 33 #[.val (.int p1), .val (.int (7 : Int32)), .val (.ref b_SS), .val (.int (1 : Int32))] []))
    refine own_by (fun _ k => XS.iconst X17.here hx rfl (hb hby at_33) k) ?_
    show own_Go _ _ _ _ (T17.setTop (mkF m 34 #[.val (.int p1), .val (.int (7 : Int32)), .val (.ref b_SS), .val (.int (1 : Int32))] [(.int (1 : Int32))]))
    refine own_by (fun _ k => XS.goto X17.here hx rfl (pc0 := 34) (pc' := 38) rfl (hb hby at_34) (by decide) (by decide) k) ?_
    show own_Go _ _ _ _ (T17.setTop (mkF m 38 #[.val (.int p1), .val (.int (7 : Int32)), .val (.ref b_SS), .val (.int (1 : Int32))] [(.int (1 : Int32))]))
    exact own_retN X17 hx Bd.notSynchronized e17 Bd.returns (by simp) (hb hby at_38) (⟨rfl, N17⟩) (by decide) (by decide)
  · --
    show own_Go _ _ _ _ (s₁.setTop (mkF m 8 #[.val (.int p1), .val (.int (8 : Int32)), .unset, .unset] []))
    refine own_by (fun _ k => XS.iloadN X0.here hx rfl (hb hby at_8) rfl k) ?_
    show own_Go _ _ _ _ (s₁.setTop (mkF m 9 #[.val (.int p1), .val (.int (8 : Int32)), .unset, .unset] [(.int (8 : Int32))]))
    obtain ⟨_, _, ⟨T18, L18, k18, n18⟩, -, X18, ⟨Lc18, hQ18, l18, y18, z18⟩, st18⟩ := Jvm.LawKit.callS X0 hx (y := (⟨"com/example/harvester_ant/harvesterant/model/TypeIsSetPinLaw", "pick", "(I)Lcom/example/harvester_ant/harvesterant/model/AttributeValue$Type;"⟩ : MethodName)) hown (mvT hZ (hw _ (List.mem_of_getElem? (i := 1) rfl))) (mvT hZ (hw _ (List.mem_of_getElem? (i := 2) rfl))) (mvT hZ (hw _ (List.mem_of_getElem? (i := 3) rfl))) (mvT hZ (hw _ (List.mem_of_getElem? (i := 4) rfl))) (by decide) (backOf (W := 0) (rm1 l Z a0 hw [] (8 : Int32) b_S b_N b_B b_BOOL b_NULL b_M b_L b_SS b_NS b_BS b_NS h0 n0 Z0 S_S S_N S_B S_BOOL S_NULL S_M S_L S_SS S_NS S_BS (by simp [own_pick])) hZ (hw _ (List.mem_of_getElem? (i := 4) rfl)) (hw _ (List.mem_of_getElem? (i := 3) rfl)) (by decide) (by decide)) (g := (mkF m 9 #[.val (.int p1), .val (.int (8 : Int32)), .unset, .unset] [(.int (8 : Int32))])) rfl (by rw [hml]; rfl) (argsL := [(.int (8 : Int32))]) (rest := []) (lenOf own_pd0 rfl) rfl (by show 2 * 0 + _ ≤ _; exact Nat.le_of_eq rfl) (hb hby at_9) (fun _ _ => ⟨rfl, e0, Nat.le_of_ble_eq_true rfl, Nat.le_of_ble_eq_true rfl⟩)
    dsimp only [Pt.U, Pt.locs, Pt.cells, Pt.slots] at X18 l18 y18 z18 st18 hQ18
    subst l18 y18 z18
    obtain ⟨rfl, N18q, e18⟩ := hQ18
    have N18 := Fr.app N0 N18q
    refine own_by st18 ?_
    show own_Go _ _ _ _ (T18.setTop (mkF m 12 #[.val (.int p1), .val (.int (8 : Int32)), .unset, .unset] [(.ref b_NS)]))
    refine own_by (fun _ k => XS.astoreN X18.here hx rfl (hb hby at_12) rfl rfl (l' := #[.val (.int p1), .val (.int (8 : Int32)), .val (.ref b_NS), .unset]) rfl k) ?_
    show own_Go _ _ _ _ (T18.setTop (mkF m 13 #[.val (.int p1), .val (.int (8 : Int32)), .val (.ref b_NS), .unset] []))
    refine own_by (fun _ k => XS.iloadN X18.here hx rfl (hb hby at_13) rfl k) ?_
    show own_Go _ _ _ _ (T18.setTop (mkF m 14 #[.val (.int p1), .val (.int (8 : Int32)), .val (.ref b_NS), .unset] [(.int (8 : Int32))]))
    refine own_by (fun _ k => XS.bipush X18.here hx rfl (hb hby at_14) k) ?_
    show own_Go _ _ _ _ (T18.setTop (mkF m 16 #[.val (.int p1), .val (.int (8 : Int32)), .val (.ref b_NS), .unset] [(.int (7 : Int32)), (.int (8 : Int32))]))
    refine own_by (fun _ k => XS.icmpNo X18.here hx rfl (hb hby at_16) rfl (flt (by decide)).1 k) ?_
    show own_Go _ _ _ _ (T18.setTop (mkF m 19 #[.val (.int p1), .val (.int (8 : Int32)), .val (.ref b_NS), .unset] []))
    refine own_by (fun _ k => XS.iconst X18.here hx rfl (hb hby at_19) k) ?_
    show own_Go _ _ _ _ (T18.setTop (mkF m 20 #[.val (.int p1), .val (.int (8 : Int32)), .val (.ref b_NS), .unset] [(.int (1 : Int32))]))
    refine own_by (fun _ k => XS.goto X18.here hx rfl (pc0 := 20) (pc' := 24) rfl (hb hby at_20) (by decide) (by decide) k) ?_
    show own_Go _ _ _ _ (T18.setTop (mkF m 24 #[.val (.int p1), .val (.int (8 : Int32)), .val (.ref b_NS), .unset] [(.int (1 : Int32))]))
    refine own_by (fun _ k => XS.istoreN X18.here hx rfl (hb hby at_24) rfl (l' := #[.val (.int p1), .val (.int (8 : Int32)), .val (.ref b_NS), .val (.int (1 : Int32))]) rfl k) ?_
    show own_Go _ _ _ _ (T18.setTop (mkF m 25 #[.val (.int p1), .val (.int (8 : Int32)), .val (.ref b_NS), .val (.int (1 : Int32))] []))
    refine own_by (fun _ k => XS.aloadN X18.here hx rfl (hb hby at_25) rfl rfl k) ?_
    show own_Go _ _ _ _ (T18.setTop (mkF m 26 #[.val (.int p1), .val (.int (8 : Int32)), .val (.ref b_NS), .val (.int (1 : Int32))] [(.ref b_NS)]))
    obtain ⟨cq19, kq19, q19a, q19b, q19c⟩ := isOf hZ e18 E_NS
    obtain ⟨_, _, ⟨T19, L19, k19, n19⟩, -, X19, ⟨Lc19, hQ19, l19, y19, z19⟩, st19⟩ := X18.virtualBack hx (y := (⟨"com/example/harvester_ant/harvesterant/model/AttributeValue$Type", "isSet", "()Z"⟩ : MethodName)) (z := (⟨"com/example/harvester_ant/harvesterant/model/AttributeValue$Type", "isSet", "()Z"⟩ : MethodName)) hown (mvT hZ (hw _ (List.mem_of_getElem? (i := 8) rfl))) (mvT hZ (hw _ (List.mem_of_getElem? (i := 9) rfl))) (notFace_of_selects (args := #[]) (mvT hZ (hw _ (List.mem_of_getElem? (i := 11) rfl)))) (mvT hZ (hw _ (List.mem_of_getElem? (i := 11) rfl))) (mvT hZ (hw _ (List.mem_of_getElem? (i := 10) rfl))) (by decide) (backOf (W := 0) (rm2 l Z a0 hw [] b_NS b_SS b_NS b_BS (1 : Int32) h0 n0 Z0 S_SS S_NS S_BS (by simp [Fld.ne F_NS F_SS (by decide), Fld.ne F_NS F_BS (by decide)])) hZ (hw _ (List.mem_of_getElem? (i := 12) rfl)) (hw _ (List.mem_of_getElem? (i := 6) rfl)) (by decide) (by decide)) q19a q19c (g := (mkF m 26 #[.val (.int p1), .val (.int (8 : Int32)), .val (.ref b_NS), .val (.int (1 : Int32))] [(.ref b_NS)])) rfl (by rw [hml]; rfl) (Steps.refl _) (argsL := []) (rest := []) (lenOf own_pd1 rfl) rfl (by show 2 * 0 + _ ≤ _; exact Nat.le_of_eq rfl) (hb hby at_26) (fun _ _ => ⟨rfl, e18, Nat.le_of_ble_eq_true rfl, Nat.le_of_ble_eq_true rfl⟩)
    dsimp only [Pt.U, Pt.locs, Pt.cells, Pt.slots] at X19 l19 y19 z19 st19 hQ19
    subst l19 y19 z19
    obtain ⟨rfl, N19q, e19⟩ := hQ19
    have N19 := Fr.app N18 N19q
    refine own_tr st19 ?_
    show own_Go _ _ _ _ (T19.setTop (mkF m 29 #[.val (.int p1), .val (.int (8 : Int32)), .val (.ref b_NS), .val (.int (1 : Int32))] [(.int (1 : Int32))]))
    refine own_by (fun _ k => XS.iloadN X19.here hx rfl (hb hby at_29) rfl k) ?_
    show own_Go _ _ _ _ (T19.setTop (mkF m 30 #[.val (.int p1), .val (.int (8 : Int32)), .val (.ref b_NS), .val (.int (1 : Int32))] [(.int (1 : Int32)), (.int (1 : Int32))]))
    refine own_by (fun _ k => XS.icmpNo X19.here hx rfl (hb hby at_30) rfl (teq (by decide)).2 k) ?_
    show own_Go _ _ _ _ (T19.setTop (mkF m 33 #[.val (.int p1), .val (.int (8 : Int32)), .val (.ref b_NS), .val (.int (1 : Int32))] []))
    refine own_by (fun _ k => XS.iconst X19.here hx rfl (hb hby at_33) k) ?_
    show own_Go _ _ _ _ (T19.setTop (mkF m 34 #[.val (.int p1), .val (.int (8 : Int32)), .val (.ref b_NS), .val (.int (1 : Int32))] [(.int (1 : Int32))]))
    refine own_by (fun _ k => XS.goto X19.here hx rfl (pc0 := 34) (pc' := 38) rfl (hb hby at_34) (by decide) (by decide) k) ?_
    show own_Go _ _ _ _ (T19.setTop (mkF m 38 #[.val (.int p1), .val (.int (8 : Int32)), .val (.ref b_NS), .val (.int (1 : Int32))] [(.int (1 : Int32))]))
    exact own_retN X19 hx Bd.notSynchronized e19 Bd.returns (by simp) (hb hby at_38) (⟨rfl, N19⟩) (by decide) (by decide)
  · --
    show own_Go _ _ _ _ (s₁.setTop (mkF m 8 #[.val (.int p1), .val (.int (9 : Int32)), .unset, .unset] []))
    refine own_by (fun _ k => XS.iloadN X0.here hx rfl (hb hby at_8) rfl k) ?_
    show own_Go _ _ _ _ (s₁.setTop (mkF m 9 #[.val (.int p1), .val (.int (9 : Int32)), .unset, .unset] [(.int (9 : Int32))]))
    obtain ⟨_, _, ⟨T20, L20, k20, n20⟩, -, X20, ⟨Lc20, hQ20, l20, y20, z20⟩, st20⟩ := Jvm.LawKit.callS X0 hx (y := (⟨"com/example/harvester_ant/harvesterant/model/TypeIsSetPinLaw", "pick", "(I)Lcom/example/harvester_ant/harvesterant/model/AttributeValue$Type;"⟩ : MethodName)) hown (mvT hZ (hw _ (List.mem_of_getElem? (i := 1) rfl))) (mvT hZ (hw _ (List.mem_of_getElem? (i := 2) rfl))) (mvT hZ (hw _ (List.mem_of_getElem? (i := 3) rfl))) (mvT hZ (hw _ (List.mem_of_getElem? (i := 4) rfl))) (by decide) (backOf (W := 0) (rm1 l Z a0 hw [] (9 : Int32) b_S b_N b_B b_BOOL b_NULL b_M b_L b_SS b_NS b_BS b_BS h0 n0 Z0 S_S S_N S_B S_BOOL S_NULL S_M S_L S_SS S_NS S_BS (by simp [own_pick])) hZ (hw _ (List.mem_of_getElem? (i := 4) rfl)) (hw _ (List.mem_of_getElem? (i := 3) rfl)) (by decide) (by decide)) (g := (mkF m 9 #[.val (.int p1), .val (.int (9 : Int32)), .unset, .unset] [(.int (9 : Int32))])) rfl (by rw [hml]; rfl) (argsL := [(.int (9 : Int32))]) (rest := []) (lenOf own_pd0 rfl) rfl (by show 2 * 0 + _ ≤ _; exact Nat.le_of_eq rfl) (hb hby at_9) (fun _ _ => ⟨rfl, e0, Nat.le_of_ble_eq_true rfl, Nat.le_of_ble_eq_true rfl⟩)
    dsimp only [Pt.U, Pt.locs, Pt.cells, Pt.slots] at X20 l20 y20 z20 st20 hQ20
    subst l20 y20 z20
    obtain ⟨rfl, N20q, e20⟩ := hQ20
    have N20 := Fr.app N0 N20q
    refine own_by st20 ?_
    show own_Go _ _ _ _ (T20.setTop (mkF m 12 #[.val (.int p1), .val (.int (9 : Int32)), .unset, .unset] [(.ref b_BS)]))
    refine own_by (fun _ k => XS.astoreN X20.here hx rfl (hb hby at_12) rfl rfl (l' := #[.val (.int p1), .val (.int (9 : Int32)), .val (.ref b_BS), .unset]) rfl k) ?_
    show own_Go _ _ _ _ (T20.setTop (mkF m 13 #[.val (.int p1), .val (.int (9 : Int32)), .val (.ref b_BS), .unset] []))
    refine own_by (fun _ k => XS.iloadN X20.here hx rfl (hb hby at_13) rfl k) ?_
    show own_Go _ _ _ _ (T20.setTop (mkF m 14 #[.val (.int p1), .val (.int (9 : Int32)), .val (.ref b_BS), .unset] [(.int (9 : Int32))]))
    refine own_by (fun _ k => XS.bipush X20.here hx rfl (hb hby at_14) k) ?_
    show own_Go _ _ _ _ (T20.setTop (mkF m 16 #[.val (.int p1), .val (.int (9 : Int32)), .val (.ref b_BS), .unset] [(.int (7 : Int32)), (.int (9 : Int32))]))
    refine own_by (fun _ k => XS.icmpNo X20.here hx rfl (hb hby at_16) rfl (flt (by decide)).1 k) ?_
    show own_Go _ _ _ _ (T20.setTop (mkF m 19 #[.val (.int p1), .val (.int (9 : Int32)), .val (.ref b_BS), .unset] []))
    refine own_by (fun _ k => XS.iconst X20.here hx rfl (hb hby at_19) k) ?_
    show own_Go _ _ _ _ (T20.setTop (mkF m 20 #[.val (.int p1), .val (.int (9 : Int32)), .val (.ref b_BS), .unset] [(.int (1 : Int32))]))
    refine own_by (fun _ k => XS.goto X20.here hx rfl (pc0 := 20) (pc' := 24) rfl (hb hby at_20) (by decide) (by decide) k) ?_
    show own_Go _ _ _ _ (T20.setTop (mkF m 24 #[.val (.int p1), .val (.int (9 : Int32)), .val (.ref b_BS), .unset] [(.int (1 : Int32))]))
    refine own_by (fun _ k => XS.istoreN X20.here hx rfl (hb hby at_24) rfl (l' := #[.val (.int p1), .val (.int (9 : Int32)), .val (.ref b_BS), .val (.int (1 : Int32))]) rfl k) ?_
    show own_Go _ _ _ _ (T20.setTop (mkF m 25 #[.val (.int p1), .val (.int (9 : Int32)), .val (.ref b_BS), .val (.int (1 : Int32))] []))
    refine own_by (fun _ k => XS.aloadN X20.here hx rfl (hb hby at_25) rfl rfl k) ?_
    show own_Go _ _ _ _ (T20.setTop (mkF m 26 #[.val (.int p1), .val (.int (9 : Int32)), .val (.ref b_BS), .val (.int (1 : Int32))] [(.ref b_BS)]))
    obtain ⟨cq21, kq21, q21a, q21b, q21c⟩ := isOf hZ e20 E_BS
    obtain ⟨_, _, ⟨T21, L21, k21, n21⟩, -, X21, ⟨Lc21, hQ21, l21, y21, z21⟩, st21⟩ := X20.virtualBack hx (y := (⟨"com/example/harvester_ant/harvesterant/model/AttributeValue$Type", "isSet", "()Z"⟩ : MethodName)) (z := (⟨"com/example/harvester_ant/harvesterant/model/AttributeValue$Type", "isSet", "()Z"⟩ : MethodName)) hown (mvT hZ (hw _ (List.mem_of_getElem? (i := 8) rfl))) (mvT hZ (hw _ (List.mem_of_getElem? (i := 9) rfl))) (notFace_of_selects (args := #[]) (mvT hZ (hw _ (List.mem_of_getElem? (i := 11) rfl)))) (mvT hZ (hw _ (List.mem_of_getElem? (i := 11) rfl))) (mvT hZ (hw _ (List.mem_of_getElem? (i := 10) rfl))) (by decide) (backOf (W := 0) (rm2 l Z a0 hw [] b_BS b_SS b_NS b_BS (1 : Int32) h0 n0 Z0 S_SS S_NS S_BS (by simp [Fld.ne F_BS F_SS (by decide), Fld.ne F_BS F_NS (by decide)])) hZ (hw _ (List.mem_of_getElem? (i := 12) rfl)) (hw _ (List.mem_of_getElem? (i := 6) rfl)) (by decide) (by decide)) q21a q21c (g := (mkF m 26 #[.val (.int p1), .val (.int (9 : Int32)), .val (.ref b_BS), .val (.int (1 : Int32))] [(.ref b_BS)])) rfl (by rw [hml]; rfl) (Steps.refl _) (argsL := []) (rest := []) (lenOf own_pd1 rfl) rfl (by show 2 * 0 + _ ≤ _; exact Nat.le_of_eq rfl) (hb hby at_26) (fun _ _ => ⟨rfl, e20, Nat.le_of_ble_eq_true rfl, Nat.le_of_ble_eq_true rfl⟩)
    dsimp only [Pt.U, Pt.locs, Pt.cells, Pt.slots] at X21 l21 y21 z21 st21 hQ21
    subst l21 y21 z21
    obtain ⟨rfl, N21q, e21⟩ := hQ21
    have N21 := Fr.app N20 N21q
    refine own_tr st21 ?_
    show own_Go _ _ _ _ (T21.setTop (mkF m 29 #[.val (.int p1), .val (.int (9 : Int32)), .val (.ref b_BS), .val (.int (1 : Int32))] [(.int (1 : Int32))]))
    refine own_by (fun _ k => XS.iloadN X21.here hx rfl (hb hby at_29) rfl k) ?_
    show own_Go _ _ _ _ (T21.setTop (mkF m 30 #[.val (.int p1), .val (.int (9 : Int32)), .val (.ref b_BS), .val (.int (1 : Int32))] [(.int (1 : Int32)), (.int (1 : Int32))]))
    refine own_by (fun _ k => XS.icmpNo X21.here hx rfl (hb hby at_30) rfl (teq (by decide)).2 k) ?_
    show own_Go _ _ _ _ (T21.setTop (mkF m 33 #[.val (.int p1), .val (.int (9 : Int32)), .val (.ref b_BS), .val (.int (1 : Int32))] []))
    refine own_by (fun _ k => XS.iconst X21.here hx rfl (hb hby at_33) k) ?_
    show own_Go _ _ _ _ (T21.setTop (mkF m 34 #[.val (.int p1), .val (.int (9 : Int32)), .val (.ref b_BS), .val (.int (1 : Int32))] [(.int (1 : Int32))]))
    refine own_by (fun _ k => XS.goto X21.here hx rfl (pc0 := 34) (pc' := 38) rfl (hb hby at_34) (by decide) (by decide) k) ?_
    show own_Go _ _ _ _ (T21.setTop (mkF m 38 #[.val (.int p1), .val (.int (9 : Int32)), .val (.ref b_BS), .val (.int (1 : Int32))] [(.int (1 : Int32))]))
    exact own_retN X21 hx Bd.notSynchronized e21 Bd.returns (by simp) (hb hby at_38) (⟨rfl, N21⟩) (by decide) (by decide)
set_option maxRecDepth 65536 in
set_option maxHeartbeats 40000000 in
theorem comes_1 {Post : Tables → Env → Array Value → State → Outcome → State → Prop} (hpost : ∀ tb e args s v u, (limb_1_1.after args s (.returned v) u = true ∧ limb_1_2.after args s (.returned v) u = true ∧ True) → FrameEnd s (.returned v) u (Jvm.fieldLocs frame_1_writes args s ++ Jvm.arrayLocs frame_1_arrays args s ++ Jvm.staticLocs frame_1_statics s) 0 0 → Post tb e args s (.returned v) u) :
    ArmFor flags0 classFile x code maxLocals ret World_1 tables_1 room_1 Calls_1 rest_1 Pre_1 Post := by
  intro l hfl _ _ p e ha hc hk s m args below hf hA hF happ hP
  obtain ⟨hcalls, hrest, hpre⟩ := hP
  obtain ⟨-, -, -, hnamed, -, -, -, hat⟩ := (Spec.applies_iff hf).mp happ
  obtain ⟨hg, hn⟩ := and_e (Cond.before_iff.mp (show (Jvm.Cond.and given_1 narrow_1).before args s = true from hpre))
  obtain ⟨g1, g2⟩ := and_e hg
  obtain ⟨w0, rfl⟩ : ∃ w0 : Value, args = #[w0] := by
    have hs : args.size = 1 := by simpa [Cond.value, given_1] using g1
    obtain ⟨L⟩ := args
    match L, hs with
    | [w0], _ => exact ⟨w0, rfl⟩
  have hw := fun d (hd : d ∈ tables_1) => atoms_spec (ws := Jvm.Cond.code x code maxLocals ret :: tables_1) hat d (List.mem_cons_of_mem _ hd)
  have hfit : Fit s := fun {y c} hc i hi => by
    obtain ⟨ha, rfl⟩ := Array.getElem?_eq_some_iff.mp hc
    have q := List.all_eq_true.mp ((Array.all_eq_true_iff_forall_mem.mp hF) _ (Array.getElem_mem ha)) i (List.mem_range.mpr hi)
    simpa [Array.getElem?_eq_getElem hi] using q
  obtain ⟨i0, ei0⟩ := is_v g2
  obtain rfl : w0 = (.int i0) := Option.some.inj ei0
  obtain ⟨u1, u2⟩ := and_e hn
  obtain ⟨u3, u4⟩ := and_e u2
  obtain ⟨u5, u6⟩ := and_e u4
  obtain ⟨u7, u8⟩ := and_e u6
  obtain ⟨u9, u10⟩ := and_e u8
  obtain ⟨u11, u12⟩ := and_e u10
  obtain ⟨u13, u14⟩ := and_e u12
  obtain ⟨u15, u16⟩ := and_e u14
  obtain ⟨u17, u18⟩ := and_e u16
  obtain ⟨u19, u20⟩ := and_e u18
  obtain ⟨u21, u22⟩ := and_e u20
  obtain ⟨u23, u24⟩ := and_e u22
  obtain ⟨u25, u26⟩ := and_e u24
  obtain ⟨u27, u28⟩ := and_e u26
  obtain ⟨u29, u30⟩ := and_e u28
  obtain ⟨u31, u32⟩ := and_e u30
  obtain ⟨u33, u34⟩ := and_e u32
  obtain ⟨u35, u36⟩ := and_e u34
  obtain ⟨u37, u38⟩ := and_e u36
  obtain ⟨b_S, eb_S⟩ := exa_v u1
  have E_S : Exa s s.heap b_S "com/example/harvester_ant/harvesterant/model/AttributeValue$Type" := Exa.start eb_S u1
  have S_S : Sta s s.heap "com/example/harvester_ant/harvesterant/model/AttributeValue$Type" "S" "Lcom/example/harvester_ant/harvesterant/model/AttributeValue$Type;" (.ref b_S) := Sta.start eb_S (Or.inr ⟨(hw _ (List.mem_of_getElem? (i := 6) rfl)), (hw _ (List.mem_of_getElem? (i := 7) rfl))⟩)
  obtain ⟨b_SS, eb_SS⟩ := exa_v u3
  have E_SS : Exa s s.heap b_SS "com/example/harvester_ant/harvesterant/model/AttributeValue$Type" := Exa.start eb_SS u3
  have S_SS : Sta s s.heap "com/example/harvester_ant/harvesterant/model/AttributeValue$Type" "SS" "Lcom/example/harvester_ant/harvesterant/model/AttributeValue$Type;" (.ref b_SS) := Sta.start eb_SS (Or.inr ⟨(hw _ (List.mem_of_getElem? (i := 6) rfl)), (hw _ (List.mem_of_getElem? (i := 14) rfl))⟩)
  obtain ⟨b_NS, eb_NS⟩ := exa_v u9
  have E_NS : Exa s s.heap b_NS "com/example/harvester_ant/harvesterant/model/AttributeValue$Type" := Exa.start eb_NS u9
  have S_NS : Sta s s.heap "com/example/harvester_ant/harvesterant/model/AttributeValue$Type" "NS" "Lcom/example/harvester_ant/harvesterant/model/AttributeValue$Type;" (.ref b_NS) := Sta.start eb_NS (Or.inr ⟨(hw _ (List.mem_of_getElem? (i := 6) rfl)), (hw _ (List.mem_of_getElem? (i := 16) rfl))⟩)
  obtain ⟨b_BS, eb_BS⟩ := exa_v u13
  have E_BS : Exa s s.heap b_BS "com/example/harvester_ant/harvesterant/model/AttributeValue$Type" := Exa.start eb_BS u13
  have S_BS : Sta s s.heap "com/example/harvester_ant/harvesterant/model/AttributeValue$Type" "BS" "Lcom/example/harvester_ant/harvesterant/model/AttributeValue$Type;" (.ref b_BS) := Sta.start eb_BS (Or.inr ⟨(hw _ (List.mem_of_getElem? (i := 6) rfl)), (hw _ (List.mem_of_getElem? (i := 18) rfl))⟩)
  obtain ⟨b_BOOL, eb_BOOL⟩ := exa_v u17
  have E_BOOL : Exa s s.heap b_BOOL "com/example/harvester_ant/harvesterant/model/AttributeValue$Type" := Exa.start eb_BOOL u17
  have S_BOOL : Sta s s.heap "com/example/harvester_ant/harvesterant/model/AttributeValue$Type" "BOOL" "Lcom/example/harvester_ant/harvesterant/model/AttributeValue$Type;" (.ref b_BOOL) := Sta.start eb_BOOL (Or.inr ⟨(hw _ (List.mem_of_getElem? (i := 6) rfl)), (hw _ (List.mem_of_getElem? (i := 20) rfl))⟩)
  obtain ⟨b_N, eb_N⟩ := exa_v u21
  have E_N : Exa s s.heap b_N "com/example/harvester_ant/harvesterant/model/AttributeValue$Type" := Exa.start eb_N u21
  have S_N : Sta s s.heap "com/example/harvester_ant/harvesterant/model/AttributeValue$Type" "N" "Lcom/example/harvester_ant/harvesterant/model/AttributeValue$Type;" (.ref b_N) := Sta.start eb_N (Or.inr ⟨(hw _ (List.mem_of_getElem? (i := 6) rfl)), (hw _ (List.mem_of_getElem? (i := 22) rfl))⟩)
  obtain ⟨b_NULL, eb_NULL⟩ := exa_v u25
  have E_NULL : Exa s s.heap b_NULL "com/example/harvester_ant/harvesterant/model/AttributeValue$Type" := Exa.start eb_NULL u25
  have S_NULL : Sta s s.heap "com/example/harvester_ant/harvesterant/model/AttributeValue$Type" "NULL" "Lcom/example/harvester_ant/harvesterant/model/AttributeValue$Type;" (.ref b_NULL) := Sta.start eb_NULL (Or.inr ⟨(hw _ (List.mem_of_getElem? (i := 6) rfl)), (hw _ (List.mem_of_getElem? (i := 24) rfl))⟩)
  obtain ⟨b_B, eb_B⟩ := exa_v u29
  have E_B : Exa s s.heap b_B "com/example/harvester_ant/harvesterant/model/AttributeValue$Type" := Exa.start eb_B u29
  have S_B : Sta s s.heap "com/example/harvester_ant/harvesterant/model/AttributeValue$Type" "B" "Lcom/example/harvester_ant/harvesterant/model/AttributeValue$Type;" (.ref b_B) := Sta.start eb_B (Or.inr ⟨(hw _ (List.mem_of_getElem? (i := 6) rfl)), (hw _ (List.mem_of_getElem? (i := 27) rfl))⟩)
  obtain ⟨b_M, eb_M⟩ := exa_v u33
  have E_M : Exa s s.heap b_M "com/example/harvester_ant/harvesterant/model/AttributeValue$Type" := Exa.start eb_M u33
  have S_M : Sta s s.heap "com/example/harvester_ant/harvesterant/model/AttributeValue$Type" "M" "Lcom/example/harvester_ant/harvesterant/model/AttributeValue$Type;" (.ref b_M) := Sta.start eb_M (Or.inr ⟨(hw _ (List.mem_of_getElem? (i := 6) rfl)), (hw _ (List.mem_of_getElem? (i := 31) rfl))⟩)
  obtain ⟨b_L, eb_L⟩ := exa_v u37
  have E_L : Exa s s.heap b_L "com/example/harvester_ant/harvesterant/model/AttributeValue$Type" := Exa.start eb_L u37
  have S_L : Sta s s.heap "com/example/harvester_ant/harvesterant/model/AttributeValue$Type" "L" "Lcom/example/harvester_ant/harvesterant/model/AttributeValue$Type;" (.ref b_L) := Sta.start eb_L (Or.inr ⟨(hw _ (List.mem_of_getElem? (i := 6) rfl)), (hw _ (List.mem_of_getElem? (i := 33) rfl))⟩)
  have F_S_ordinal : Fld s s.heap b_S "java/lang/Enum" "ordinal" "I" (.int (0 : Int32)) := Fld.start ((fld_at eb_S).symm.trans (own_eqi u5))
  have F_SS_ordinal : Fld s s.heap b_SS "java/lang/Enum" "ordinal" "I" (.int (7 : Int32)) := Fld.start ((fld_at eb_SS).symm.trans (own_eqi u7))
  have F_NS_ordinal : Fld s s.heap b_NS "java/lang/Enum" "ordinal" "I" (.int (8 : Int32)) := Fld.start ((fld_at eb_NS).symm.trans (own_eqi u11))
  have F_BS_ordinal : Fld s s.heap b_BS "java/lang/Enum" "ordinal" "I" (.int (9 : Int32)) := Fld.start ((fld_at eb_BS).symm.trans (own_eqi u15))
  have F_BOOL_ordinal : Fld s s.heap b_BOOL "java/lang/Enum" "ordinal" "I" (.int (3 : Int32)) := Fld.start ((fld_at eb_BOOL).symm.trans (own_eqi u19))
  have F_N_ordinal : Fld s s.heap b_N "java/lang/Enum" "ordinal" "I" (.int (1 : Int32)) := Fld.start ((fld_at eb_N).symm.trans (own_eqi u23))
  have F_NULL_ordinal : Fld s s.heap b_NULL "java/lang/Enum" "ordinal" "I" (.int (4 : Int32)) := Fld.start ((fld_at eb_NULL).symm.trans (own_eqi u27))
  have F_B_ordinal : Fld s s.heap b_B "java/lang/Enum" "ordinal" "I" (.int (2 : Int32)) := Fld.start ((fld_at eb_B).symm.trans (own_eqi u31))
  have F_M_ordinal : Fld s s.heap b_M "java/lang/Enum" "ordinal" "I" (.int (5 : Int32)) := Fld.start ((fld_at eb_M).symm.trans (own_eqi u35))
  have F_L_ordinal : Fld s s.heap b_L "java/lang/Enum" "ordinal" "I" (.int (6 : Int32)) := Fld.start ((fld_at eb_L).symm.trans (own_eqi u38))
  obtain ⟨n, o, h1, h2, h3, _, L, rfl, ⟨rfl, N⟩, hq⟩ := rm0 l s _ hw tables_1 i0 b_S b_N b_B b_BOOL b_NULL b_M b_L b_SS b_NS b_BS s.heap s.heap.size (Nat.le_refl _) E_S S_S F_S_ordinal E_N S_N F_N_ordinal E_B S_B F_B_ordinal E_BOOL S_BOOL F_BOOL_ordinal E_NULL S_NULL F_NULL_ordinal E_M S_M F_M_ordinal E_L S_L F_L_ordinal E_SS S_SS F_SS_ordinal E_NS S_NS F_NS_ordinal E_BS S_BS F_BS_ordinal p e ha hc hk s m _ below hf ((Spec.applies_iff_loose hf).mp happ).1 ⟨rfl, State.Warmed39.refl s, rfl⟩ trivial
  refine ⟨n, _, h1, h2, h3, hpost _ _ _ _ _ _ ⟨Cond.after_iff.mpr rfl, Cond.after_iff.mpr (eq_i res_at (Term.int_eval (1)) rfl), trivial⟩ ⟨hq.1, hq.2.1, (hq.2.2.sift fun y hy => Or.inr (N y hy)).mono (by decide) (by decide)⟩⟩
theorem main_1_1 : Claimed_1_1 := comes_1 fun _ _ _ _ _ _ h hF => ⟨h.1, hF⟩
theorem main_1_2 : Claimed_1_2 := comes_1 fun _ _ _ _ _ _ h hF => ⟨h.2.1, hF⟩
end Jvm.Pilot.@@N@@
namespace Jvm.Pilot.@@N@@
open Jvm Jvm.ClassFile Sem Op Lib Jvm.Free Jvm.Stand Jvm.Pilot.@@N@@.Jvm.D
/-! MADE BY PROGRAM (witnessworld.py) out of the Statement's table words and the real class files: 12 classes; the members and pool entries that the words name. The judged class is class 1, her method 1. -/
namespace start1
open Jvm.ClassFile
def u (s : String) : CpInfo := .utf8 (stringToUtf16 s)
/-- a pool by its gaps: so many unusable entries, then the entry; so many at the end -/
def gap : Nat → List CpInfo → List CpInfo
  | 0, r => r
  | n + 1, r => .unusable :: gap n r
def poolList (es : List (Nat × CpInfo)) (last : Nat) : List CpInfo := es.foldr (fun e r => gap e.1 (e.2 :: r)) (gap last [])
def pool (es : List (Nat × CpInfo)) (last : Nat) : Array CpInfo := ⟨poolList es last⟩
def fileOf (pool : Array CpInfo) (this : Nat) (attrs : Array Attribute := #[]) (ms : Array MethodInfo := #[]) (fl : Nat := 33) (sup : Nat := 0) (ifs : Array Nat := #[]) (fds : Array FieldInfo := #[]) : ClassFile where
  minorVersion := 0
  majorVersion := 65
  constantPool := pool
  accessFlags := fl
  thisClass := this
  superClass := sup
  interfaces := ifs
  fields := fds
  methods := ms
  attributes := attrs
def plain (name : String) (sup : Option ClassId) : Class where
  name := name
  kind := .ordinary
  loader := none
  accessFlags := 33
  super := sup
  interfaces := #[]
  cf := none
  fields := #[]
  methods := #[]
  instanceTypes := #[]
  staticTypes := #[]
  resolved := #[]
  callSites := []
  init := .initialized
  statics := none
  mirror := none

def pool0 : Array CpInfo := pool [(5, u "<init>"), (0, u "()V"), (1, .class_ 10), (1, u "java/lang/Object")] 113

def k0m0 : Method := { name := "<init>", desc := "()V", sig := { parameters := [], returnType := none }, accessFlags := 1, code := none }
/-- java/lang/Object -/
def k0 : Class := { plain "java/lang/Object" none with
  accessFlags := 33
  interfaces := #[]
  cf := some (fileOf pool0 8 #[] #[{ accessFlags := 1, nameIndex := 5, descriptorIndex := 6, attributes := #[] }] 33 0 #[] #[])
  fields := #[]
  methods := #[k0m0]
  instanceTypes := #[]
  staticTypes := #[]
  resolved := Array.replicate 124 none
  statics := none }

def pool1 : Array CpInfo := pool [(2, .class_ 4), (1, u "java/lang/Object"), (0, u "<init>"), (0, u "()V"), (0, .integer 2147483647), (0, .methodref 9 10), (0, .class_ 11), (0, .nameAndType 12 13), (0, u "com/example/harvester_ant/harvesterant/model/TypeIsSetPinLaw"), (0, u "pick"), (0, u "(I)Lcom/example/harvester_ant/harvesterant/model/AttributeValue$Type;"), (0, .methodref 15 16), (0, .class_ 17), (0, .nameAndType 18 19), (0, u "com/example/harvester_ant/harvesterant/model/AttributeValue$Type"), (0, u "isSet"), (0, u "()Z"), (0, .fieldref 15 21), (0, .nameAndType 22 23), (0, u "S"), (0, u "Lcom/example/harvester_ant/harvesterant/model/AttributeValue$Type;"), (0, .fieldref 15 25), (0, .nameAndType 26 23), (0, u "N"), (0, .fieldref 15 28), (0, .nameAndType 29 23), (0, u "B"), (0, .fieldref 15 31), (0, .nameAndType 32 23), (0, u "BOOL"), (0, .fieldref 15 34), (0, .nameAndType 35 23), (0, u "NULL"), (0, .fieldref 15 37), (0, .nameAndType 38 23), (0, u "M"), (0, .fieldref 15 40), (0, .nameAndType 41 23), (0, u "L"), (0, .fieldref 15 43), (0, .nameAndType 44 23), (0, u "SS"), (0, .fieldref 15 46), (0, .nameAndType 47 23), (0, u "NS"), (0, .fieldref 15 49), (0, .nameAndType 50 23), (0, u "BS"), (2, u "law"), (0, u "(I)Z")] 7

def k1m0 : Method := { name := "<init>", desc := "()V", sig := { parameters := [], returnType := none }, accessFlags := 1, code := none }
def k1c1 : Code := { maxStack := 2, maxLocals := 4, code := code, exceptionTable := #[], attributes := #[] }
def k1m1 : Method := { name := "law", desc := "(I)Z", sig := { parameters := [.int], returnType := some .boolean }, accessFlags := 9, code := some k1c1 }
def k1c2 : Code := { maxStack := 2, maxLocals := 1, code := method_3_code, exceptionTable := #[], attributes := #[] }
def k1m2 : Method := { name := "pick", desc := "(I)Lcom/example/harvester_ant/harvesterant/model/AttributeValue$Type;", sig := { parameters := [.int], returnType := some (.object "com/example/harvester_ant/harvesterant/model/AttributeValue$Type") }, accessFlags := 10, code := some k1c2 }
/-- com/example/harvester_ant/harvesterant/model/TypeIsSetPinLaw -/
def k1 : Class := { plain "com/example/harvester_ant/harvesterant/model/TypeIsSetPinLaw" (some 0) with
  accessFlags := 49
  interfaces := #[]
  cf := some (fileOf pool1 9 #[] #[{ accessFlags := 1, nameIndex := 5, descriptorIndex := 6, attributes := #[] }, { accessFlags := 9, nameIndex := 53, descriptorIndex := 54, attributes := #[] }, { accessFlags := 10, nameIndex := 12, descriptorIndex := 13, attributes := #[] }] 49 2 #[] #[])
  fields := #[]
  methods := #[k1m0, k1m1, k1m2]
  instanceTypes := #[]
  staticTypes := #[]
  resolved := Array.replicate 62 none
  statics := none }

def pool2 : Array CpInfo := pool [(1, .class_ 2), (0, u "java/lang/constant/Constable"), (0, .class_ 4), (0, u "java/lang/Object")] 6

/-- java/lang/constant/Constable -/
def k2 : Class := { plain "java/lang/constant/Constable" (some 0) with
  accessFlags := 1537
  interfaces := #[]
  cf := some (fileOf pool2 1 #[] #[] 1537 3 #[] #[])
  fields := #[]
  methods := #[]
  instanceTypes := #[]
  staticTypes := #[]
  resolved := Array.replicate 11 none
  statics := none }

def pool3 : Array CpInfo := pool [(1, .class_ 2), (0, u "java/lang/Comparable"), (0, .class_ 4), (0, u "java/lang/Object")] 7

/-- java/lang/Comparable -/
def k3 : Class := { plain "java/lang/Comparable" (some 0) with
  accessFlags := 1537
  interfaces := #[]
  cf := some (fileOf pool3 1 #[] #[] 1537 3 #[] #[])
  fields := #[]
  methods := #[]
  instanceTypes := #[]
  staticTypes := #[]
  resolved := Array.replicate 12 none
  statics := none }

def pool4 : Array CpInfo := pool [(1, .class_ 2), (0, u "java/io/Serializable"), (0, .class_ 4), (0, u "java/lang/Object")] 2

/-- java/io/Serializable -/
def k4 : Class := { plain "java/io/Serializable" (some 0) with
  accessFlags := 1537
  interfaces := #[]
  cf := some (fileOf pool4 1 #[] #[] 1537 3 #[] #[])
  fields := #[]
  methods := #[]
  instanceTypes := #[]
  staticTypes := #[]
  resolved := Array.replicate 7 none
  statics := none }

def pool5 : Array CpInfo := pool [(2, .class_ 4), (1, u "java/lang/Enum"), (0, u "name"), (0, u "Ljava/lang/String;"), (2, u "ordinal"), (0, u "I"), (1, .class_ 14), (1, u "java/lang/Object"), (4, u "hash"), (86, .class_ 108), (1, u "java/lang/Enum$EnumDesc"), (2, .class_ 112), (0, u "java/lang/constant/Constable"), (0, .class_ 114), (0, u "java/lang/Comparable"), (0, .class_ 116), (0, u "java/io/Serializable")] 87

/-- java/lang/Enum -/
def k5 : Class := { plain "java/lang/Enum" (some 0) with
  accessFlags := 1057
  interfaces := #[2, 3, 4]
  cf := some (fileOf pool5 2 #[.nestMembers #[106]] #[] 1057 12 #[111, 113, 115] #[{ accessFlags := 18, nameIndex := 5, descriptorIndex := 6, attributes := #[] }, { accessFlags := 18, nameIndex := 9, descriptorIndex := 10, attributes := #[] }, { accessFlags := 2, nameIndex := 19, descriptorIndex := 10, attributes := #[] }])
  fields := #[{ name := "name", type := (.object "java/lang/String"), accessFlags := 18, slot := 0, constantValue := 0 }, { name := "ordinal", type := .int, accessFlags := 18, slot := 1, constantValue := 0 }, { name := "hash", type := .int, accessFlags := 2, slot := 2, constantValue := 0 }]
  methods := #[]
  instanceTypes := #[(.object "java/lang/String"), .int, .int]
  staticTypes := #[]
  resolved := Array.replicate 204 none
  statics := none }

def pool6 : Array CpInfo := pool [(1, .class_ 2), (0, u "com/example/harvester_ant/harvesterant/model/AttributeValue$Type"), (2, u "S"), (0, u "Lcom/example/harvester_ant/harvesterant/model/AttributeValue$Type;"), (2, u "N"), (2, u "B"), (2, u "BOOL"), (2, u "NULL"), (2, u "M"), (2, u "L"), (0, .fieldref 1 26), (0, .nameAndType 27 6), (0, u "SS"), (0, .fieldref 1 29), (0, .nameAndType 30 6), (0, u "NS"), (0, .fieldref 1 32), (0, .nameAndType 33 6), (0, u "BS"), (2, u "$VALUES"), (0, u "[Lcom/example/harvester_ant/harvesterant/model/AttributeValue$Type;"), (6, .class_ 46), (1, u "java/lang/Enum"), (8, u "key"), (0, u "Z"), (25, u "()Z"), (0, u "isSet"), (7, .class_ 92), (0, u "com/example/harvester_ant/harvesterant/model/AttributeValue")] 2

def k6c0 : Code := { maxStack := 2, maxLocals := 1, code := prog_26_method_5_code, exceptionTable := #[], attributes := #[] }
def k6m0 : Method := { name := "isSet", desc := "()Z", sig := { parameters := [], returnType := some .boolean }, accessFlags := 1, code := some k6c0 }
/-- com/example/harvester_ant/harvesterant/model/AttributeValue$Type -/
def k6 : Class := { plain "com/example/harvester_ant/harvesterant/model/AttributeValue$Type" (some 5) with
  accessFlags := 16433
  interfaces := #[]
  cf := some (fileOf pool6 1 #[.nestHost 91] #[{ accessFlags := 1, nameIndex := 83, descriptorIndex := 82, attributes := #[] }] 16433 44 #[] #[{ accessFlags := 16409, nameIndex := 5, descriptorIndex := 6, attributes := #[] }, { accessFlags := 16409, nameIndex := 9, descriptorIndex := 6, attributes := #[] }, { accessFlags := 16409, nameIndex := 12, descriptorIndex := 6, attributes := #[] }, { accessFlags := 16409, nameIndex := 15, descriptorIndex := 6, attributes := #[] }, { accessFlags := 16409, nameIndex := 18, descriptorIndex := 6, attributes := #[] }, { accessFlags := 16409, nameIndex := 21, descriptorIndex := 6, attributes := #[] }, { accessFlags := 16409, nameIndex := 24, descriptorIndex := 6, attributes := #[] }, { accessFlags := 16409, nameIndex := 27, descriptorIndex := 6, attributes := #[] }, { accessFlags := 16409, nameIndex := 30, descriptorIndex := 6, attributes := #[] }, { accessFlags := 16409, nameIndex := 33, descriptorIndex := 6, attributes := #[] }, { accessFlags := 18, nameIndex := 55, descriptorIndex := 56, attributes := #[] }, { accessFlags := 4122, nameIndex := 36, descriptorIndex := 37, attributes := #[] }])
  fields := #[{ name := "S", type := (.object "com/example/harvester_ant/harvesterant/model/AttributeValue$Type"), accessFlags := 16409, slot := 0, constantValue := 0 }, { name := "N", type := (.object "com/example/harvester_ant/harvesterant/model/AttributeValue$Type"), accessFlags := 16409, slot := 1, constantValue := 0 }, { name := "B", type := (.object "com/example/harvester_ant/harvesterant/model/AttributeValue$Type"), accessFlags := 16409, slot := 2, constantValue := 0 }, { name := "BOOL", type := (.object "com/example/harvester_ant/harvesterant/model/AttributeValue$Type"), accessFlags := 16409, slot := 3, constantValue := 0 }, { name := "NULL", type := (.object "com/example/harvester_ant/harvesterant/model/AttributeValue$Type"), accessFlags := 16409, slot := 4, constantValue := 0 }, { name := "M", type := (.object "com/example/harvester_ant/harvesterant/model/AttributeValue$Type"), accessFlags := 16409, slot := 5, constantValue := 0 }, { name := "L", type := (.object "com/example/harvester_ant/harvesterant/model/AttributeValue$Type"), accessFlags := 16409, slot := 6, constantValue := 0 }, { name := "SS", type := (.object "com/example/harvester_ant/harvesterant/model/AttributeValue$Type"), accessFlags := 16409, slot := 7, constantValue := 0 }, { name := "NS", type := (.object "com/example/harvester_ant/harvesterant/model/AttributeValue$Type"), accessFlags := 16409, slot := 8, constantValue := 0 }, { name := "BS", type := (.object "com/example/harvester_ant/harvesterant/model/AttributeValue$Type"), accessFlags := 16409, slot := 9, constantValue := 0 }, { name := "key", type := .boolean, accessFlags := 18, slot := 3, constantValue := 0 }, { name := "$VALUES", type := (.array (.object "com/example/harvester_ant/harvesterant/model/AttributeValue$Type")), accessFlags := 4122, slot := 10, constantValue := 0 }]
  methods := #[k6m0]
  instanceTypes := #[(.object "java/lang/String"), .int, .int, .boolean]
  staticTypes := #[(.object "com/example/harvester_ant/harvesterant/model/AttributeValue$Type"), (.object "com/example/harvester_ant/harvesterant/model/AttributeValue$Type"), (.object "com/example/harvester_ant/harvesterant/model/AttributeValue$Type"), (.object "com/example/harvester_ant/harvesterant/model/AttributeValue$Type"), (.object "com/example/harvester_ant/harvesterant/model/AttributeValue$Type"), (.object "com/example/harvester_ant/harvesterant/model/AttributeValue$Type"), (.object "com/example/harvester_ant/harvesterant/model/AttributeValue$Type"), (.object "com/example/harvester_ant/harvesterant/model/AttributeValue$Type"), (.object "com/example/harvester_ant/harvesterant/model/AttributeValue$Type"), (.object "com/example/harvester_ant/harvesterant/model/AttributeValue$Type"), (.array (.object "com/example/harvester_ant/harvesterant/model/AttributeValue$Type"))]
  resolved := Array.replicate 95 none
  statics := some 0 }

def pool7 : Array CpInfo := pool [(1, u "java/lang/Cloneable"), (0, .class_ 1), (0, u "java/lang/Object"), (0, .class_ 3)] 3

/-- java/lang/Cloneable -/
def k7 : Class := { plain "java/lang/Cloneable" (some 0) with
  accessFlags := 1537
  interfaces := #[]
  cf := some (fileOf pool7 2 #[] #[] 1537 4 #[] #[])
  fields := #[]
  methods := #[]
  instanceTypes := #[]
  staticTypes := #[]
  resolved := Array.replicate 8 none
  statics := none }

/-- the primitive byte -/
def k8 : Class := { plain "byte" none with kind := .primitive 'B', accessFlags := 0x411 }
/-- [B -/
def k9 : Class := { plain "[B" (some 0) with kind := .array 8 .byte, interfaces := #[7, 4], accessFlags := 1041 }

/-- the primitive int -/
def k10 : Class := { plain "int" none with kind := .primitive 'I', accessFlags := 0x411 }
/-- [I -/
def k11 : Class := { plain "[I" (some 0) with kind := .array 10 .int, interfaces := #[7, 4], accessFlags := 1041 }

def heap : Heap := #[{ cls := 6, slots := #[.ref 1, .ref 2, .ref 3, .ref 4, .ref 5, .ref 6, .ref 7, .ref 8, .ref 9, .ref 10, .null], vm := .statics 6 },
  { cls := 6, slots := #[.null, .int 0, .int 0, .int 1], vm := .none },
  { cls := 6, slots := #[.null, .int 1, .int 0, .int 1], vm := .none },
  { cls := 6, slots := #[.null, .int 2, .int 0, .int 1], vm := .none },
  { cls := 6, slots := #[.null, .int 3, .int 0, .int 0], vm := .none },
  { cls := 6, slots := #[.null, .int 4, .int 0, .int 0], vm := .none },
  { cls := 6, slots := #[.null, .int 5, .int 0, .int 0], vm := .none },
  { cls := 6, slots := #[.null, .int 6, .int 0, .int 0], vm := .none },
  { cls := 6, slots := #[.null, .int 7, .int 0, .int 0], vm := .none },
  { cls := 6, slots := #[.null, .int 8, .int 0, .int 0], vm := .none },
  { cls := 6, slots := #[.null, .int 9, .int 0, .int 0], vm := .none }]
def classes : Array Class := #[k0, k1, k2, k3, k4, k5, k6, k7, k8, k9, k10, k11]
def interned : List (Array UInt16 × Addr) := []
def slotsUsed : Nat := 51
def theMethod : MethodId := ⟨1, 1⟩
def args0 : Array Value := #[.int 5]
def aboutOver (below : List Frame) : State where
  vm := { classes := classes, interned := interned.toArray }
  heap := heap
  slotsUsed := slotsUsed
  threads := #[{ frames := .invoking theMethod args0 :: below }]
def below0 : List Frame := [.native { method := ⟨0, 0⟩, args := #[] }]
def about1 : State := aboutOver below0
def p0 : Program := .bare "" "" ""
def e0 : Env := launch0.env 0 0 0
theorem w_frames : about1.frames = Frame.invoking theMethod args0 :: below0 := rfl
set_option maxRecDepth 65536 in
theorem w_args : argsFit about1.vm theMethod args0 = true := by decide +kernel
set_option maxRecDepth 65536 in
theorem w_heap : heapFits about1 = true := by decide +kernel
set_option maxRecDepth 65536 in
theorem w_runnable : about1.curStatus? = some .runnable := by decide +kernel
set_option maxRecDepth 65536 in
theorem w_alone : about1.alone = true := by decide +kernel
set_option maxRecDepth 65536 in
theorem w_named : about1.methodNamed? x = some theMethod := by decide +kernel
set_option maxRecDepth 65536 in
theorem w_hears : about1.hears theMethod below0 = true := by decide +kernel
set_option maxRecDepth 65536 in
theorem w_ripe : about1.ripe theMethod args0 below0 = true := by decide +kernel
theorem w_running : about1.status = .running := rfl
set_option maxRecDepth 65536 in
theorem w_room : about1.hasRoom e0.platform room_1 = true :=
  launch0.hasRoom_least _ room_1 (by decide +kernel) (by decide +kernel) (by decide +kernel) (by decide +kernel) (by decide +kernel) (by decide +kernel)
theorem allAtoms_all (ts : List Jvm.Cond) (a : Array Jvm.Value) (st : Jvm.State) : (allAtoms ts).before a st = ts.all (fun c => c.before a st) := by
  induction ts with
  | nil => rfl
  | cons c t ih =>
    show (Jvm.Cond.and c (allAtoms t)).before a st = _
    rw [Jvm.Cond.before_and, ih, List.all_cons]
def words1 : List Jvm.Cond := Jvm.Cond.code x code maxLocals ret :: tables_1
/-- a 'code' word, met by the world's own term for the bytes: nothing is compared byte by byte -/
theorem code_word {y : MethodName} {bytes : ByteArray} {mx : Nat} {rt : Option FieldType} {a : Array Value} {s : State} {m : MethodId} {meth : Method} {c : Code} (h1 : s.methodNamed? y = some m) (h2 : s.vm.method? m = some meth) (h3 : meth.code = some c) (h4 : c.code = bytes)
    (h5 : (c.maxLocals == mx && c.exceptionTable.isEmpty && decide (c.maxStack ≤ mostOperands) && decide (meth.sig.returnType = rt) && !meth.locks && decide (parseMethodDescriptor y.desc = some meth.sig)) = true) : (Jvm.Cond.code y bytes mx rt).before a s = true := by
  simp only [Bool.and_eq_true, beq_iff_eq, Bool.not_eq_true', decide_eq_true_eq] at h5
  obtain ⟨⟨⟨⟨⟨g1, g2⟩, g3⟩, g4⟩, g5⟩, g6⟩ := h5
  simp [Cond.before, Cond.holds, Cond.value, h1, h2, h3, h4, g1, g2, g3, g4, g5, g6]
def isCode : Jvm.Cond → Bool
  | .code _ _ _ _ => true
  | _ => false
theorem all_split {L : List Jvm.Cond} {P : Jvm.Cond → Bool} (h1 : L.all (fun c => isCode c || P c) = true) (h2 : ∀ c ∈ L.filter isCode, P c = true) : L.all P = true := by
  refine List.all_eq_true.mpr fun c hc => ?_
  have h := List.all_eq_true.mp h1 c hc
  rcases Bool.eq_false_or_eq_true (isCode c) with hi | hi
  · exact h2 c (List.mem_filter.mpr ⟨hc, hi⟩)
  · simpa [hi] using h
set_option maxRecDepth 65536 in
theorem w_c0 : (Jvm.Cond.code x code maxLocals ret).before args0 about1 = true := code_word (m := ⟨1, 1⟩) (meth := k1m1) (c := k1c1) (by decide +kernel) rfl rfl rfl (by decide +kernel)
set_option maxRecDepth 65536 in
theorem w_c1 : (Jvm.Cond.code ({ cls := "com/example/harvester_ant/harvesterant/model/TypeIsSetPinLaw", name := "pick", desc := "(I)Lcom/example/harvester_ant/harvesterant/model/AttributeValue$Type;" } : Jvm.MethodName) method_3_code (1 : Nat) (Option.some (Jvm.ClassFile.FieldType.object "com/example/harvester_ant/harvesterant/model/AttributeValue$Type"))).before args0 about1 = true := code_word (m := ⟨1, 2⟩) (meth := k1m2) (c := k1c2) (by decide +kernel) rfl rfl rfl (by decide +kernel)
set_option maxRecDepth 65536 in
theorem w_c2 : (Jvm.Cond.code ({ cls := "com/example/harvester_ant/harvesterant/model/AttributeValue$Type", name := "isSet", desc := "()Z" } : Jvm.MethodName) prog_26_method_5_code (1 : Nat) (Option.some Jvm.ClassFile.FieldType.boolean)).before args0 about1 = true := code_word (m := ⟨6, 0⟩) (meth := k6m0) (c := k6c0) (by decide +kernel) rfl rfl rfl (by decide +kernel)
def codes1 : List Jvm.Cond := [Jvm.Cond.code x code maxLocals ret, Jvm.Cond.code ({ cls := "com/example/harvester_ant/harvesterant/model/TypeIsSetPinLaw", name := "pick", desc := "(I)Lcom/example/harvester_ant/harvesterant/model/AttributeValue$Type;" } : Jvm.MethodName) method_3_code (1 : Nat) (Option.some (Jvm.ClassFile.FieldType.object "com/example/harvester_ant/harvesterant/model/AttributeValue$Type")), Jvm.Cond.code ({ cls := "com/example/harvester_ant/harvesterant/model/AttributeValue$Type", name := "isSet", desc := "()Z" } : Jvm.MethodName) prog_26_method_5_code (1 : Nat) (Option.some Jvm.ClassFile.FieldType.boolean)]
set_option maxRecDepth 65536 in
theorem codes_eq : words1.filter isCode = codes1 := rfl
theorem w_codes : ∀ c ∈ words1.filter isCode, c.before args0 about1 = true := by
  rw [codes_eq]
  intro c hc
  simp only [codes1, List.mem_cons, List.not_mem_nil, or_false] at hc
  rcases hc with rfl | rfl | rfl
  · exact w_c0
  · exact w_c1
  · exact w_c2
set_option maxRecDepth 65536 in
theorem w_t1 : (words1.take 24).all (fun c => isCode c || c.before args0 about1) = true := by decide +kernel
set_option maxRecDepth 65536 in
theorem w_t2 : (words1.drop 24).all (fun c => isCode c || c.before args0 about1) = true := by decide +kernel
theorem w_tables : (allAtoms (Jvm.Cond.code x code maxLocals ret :: tables_1)).before args0 about1 = true := by
  rw [allAtoms_all]
  show words1.all (fun c => c.before args0 about1) = true
  refine all_split ?_ w_codes
  rw [← List.take_append_drop 24 words1, List.all_append, w_t1, w_t2]
  rfl
set_option maxRecDepth 65536 in
theorem w_case : (Jvm.Cond.and given_1 narrow_1).before args0 about1 = true := by decide +kernel
theorem w_applies : (headSpec (Jvm.Cond.code x code maxLocals ret :: tables_1) room_1).applies x e0.platform about1 = true :=
  (Spec.applies_iff w_frames).mpr ⟨w_running, w_runnable, w_alone, w_named, w_hears, w_ripe, w_room, w_tables⟩
theorem atStart : AtStart classFile x code maxLocals ret World_1 tables_1 room_1 Calls_1 rest_1 Pre_1 launch0 p0 e0 about1 theMethod args0 below0 :=
  ⟨lists_1, trivial, launch0.admits_env _ _ _, launch0.least_env, fairChoices_fair.cas, fairChoices_fair.clock, w_frames, w_args, w_heap, w_applies, trivial, trivial, w_case⟩
end start1
theorem witness_1 : WitnessClaimed_1 := ⟨start1.p0, start1.e0, start1.about1, start1.theMethod, start1.args0, start1.below0, start1.atStart⟩
end Jvm.Pilot.@@N@@
