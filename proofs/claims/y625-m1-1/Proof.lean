import JvmDerived
import JvmDerived.Pilot.@@N@@Statement
import JvmDerived.Pilot.@@N@@Code
set_option linter.unusedVariables false
set_option linter.unusedSimpArgs false
namespace Jvm.Pilot.@@N@@
open Jvm Jvm.ClassFile Sem Op Lib Jvm.Free Jvm.Stand Jvm.LawKit Jvm.RoadKit Bundle Jvm.Pilot.@@N@@.Jvm.D
section OwnGo
/-! a run that comes to its end: what a body's walk owes, of any state on the way -/
def own_Go (tb : Tables) (e : Env) (below : List Frame) (Q : Outcome → State → Prop) (U : State) : Prop := ∃ s₂ o, Steps tb e below U s₂ ∧ s₂.status = .running ∧ Ended s₂ below o ∧ Q o s₂
theorem own_by {tb : Tables} {e : Env} {below : List Frame} {Q : Outcome → State → Prop} {U V : State} (h : ∀ t, Steps tb e below V t → Steps tb e below U t) (k : own_Go tb e below Q V) : own_Go tb e below Q U := by
  obtain ⟨s2, o, h1, h2⟩ := k; exact ⟨s2, o, h _ h1, h2⟩
theorem own_tr {tb : Tables} {e : Env} {below : List Frame} {Q : Outcome → State → Prop} {U V : State} (h : Steps tb e below U V) (k : own_Go tb e below Q V) : own_Go tb e below Q U := own_by (fun _ q => h.trans q) k
theorem own_gen {α : Type} {x y : α} (h : x = y) {tb : Tables} {e : Env} {below : List Frame} {Q : Outcome → State → Prop} (F : α → State) (k : own_Go tb e below Q (F y)) : own_Go tb e below Q (F x) := h ▸ k
def own_ap (f : Option Value → Heap → List Loc → Prop) (v : Option Value) (h : Heap) (L : List Loc) : Prop := f v h L
/-- what a body's contract says of its end -/
def own_Q (s : State) (Qh : Option Value → Heap → List Loc → Prop) (C S : Nat) (o : Outcome) (U' : State) : Prop := ∃ v L, o = .returned v ∧ Qh v U'.heap L ∧ FrameEnd s o U' L C S
variable {p : Program} {l : Launch} {e : Env} {R : Room} {s : State} {m : MethodId} {args : Array Value} {below : List Frame} {meth : Method} {c : Code} {T : State} {locs : List Loc} {cells slots : Nat} {Z : State} {h : Heap} {a : Addr} {pc : Nat} {Ls : Array Slot} {rest : List Value} {Qh : Option Value → Heap → List Loc → Prop} {C S : Nat} {Q : Outcome → State → Prop}
theorem own_leave (X : Stand p l e R s m args below meth c T locs cells slots) (hlk : meth.locks = false) {v : Option Value} (hv : meth.sig.returnType = none → v = none) {f : JFrame}
    (hst : ∀ fs, (∀ (f : JFrame) (acts : List Action), f.method = m → f.locked = none → f.entered = [] → (doReturn e (T.setTop f) acts v).1 = T.setFrames fs) → Steps p.tables e below (T.setTop f) (T.setFrames fs))
    (hq : Qh v T.heap locs) (hC : cells ≤ C) (hS : slots ≤ S) : own_Go p.tables e below (own_Q s Qh C S) (T.setTop f) := by
  obtain ⟨fs, hr, hrun, hended, hW, hsame⟩ := X.leave (v := v) hv hlk
  exact ⟨_, _, hst fs hr, hrun, hended, _, _, rfl, hq, ⟨_, rfl⟩, hW, hsame.mono hC hS⟩
theorem own_retI (X : Stand p l e R s m args below meth c T locs cells slots) (hx : p.tables.exec = Jvm.exec) (hlk : meth.locks = false) (eT : T.heap = h) (hret : meth.sig.returnType = some .int) {z : Int32} (hd : decode c.code pc = .ok (.ireturn, 1))
    (hq : Qh (some (.int z)) h locs) (hC : cells ≤ C) (hS : slots ≤ S) : own_Go p.tables e below (own_Q s Qh C S) (T.setTop (mkF m pc Ls (.int z :: rest))) :=
  own_leave X hlk (v := some (.int z)) (fun q => by rw [hret] at q; cases q) (fun fs hr => retOut X hx hret rfl (Or.inl ⟨rfl, Or.inl rfl, z, rfl⟩) hd hr) (eT ▸ hq) hC hS
theorem own_retN (X : Stand p l e R s m args below meth c T locs cells slots) (hx : p.tables.exec = Jvm.exec) (hlk : meth.locks = false) (eT : T.heap = h) {t : FieldType} (hret : meth.sig.returnType = some t) (ht : t = .boolean ∨ t = .byte ∨ t = .char ∨ t = .short) {z : Int32} (hd : decode c.code pc = .ok (.ireturn, 1))
    (hq : Qh (some (.int (nar t z))) h locs) (hC : cells ≤ C) (hS : slots ≤ S) : own_Go p.tables e below (own_Q s Qh C S) (T.setTop (mkF m pc Ls (.int z :: rest))) :=
  own_leave X hlk (v := some (.int (nar t z))) (fun q => by rw [hret] at q; cases q) (fun fs hr => retN X hx hret ht hd hr) (eT ▸ hq) hC hS
theorem own_retJ (X : Stand p l e R s m args below meth c T locs cells slots) (hx : p.tables.exec = Jvm.exec) (hlk : meth.locks = false) (eT : T.heap = h) (hret : meth.sig.returnType = some .long) {z : Int64} (hd : decode c.code pc = .ok (.lreturn, 1))
    (hq : Qh (some (.long z)) h locs) (hC : cells ≤ C) (hS : slots ≤ S) : own_Go p.tables e below (own_Q s Qh C S) (T.setTop (mkF m pc Ls (.long z :: rest))) :=
  own_leave X hlk (v := some (.long z)) (fun q => by rw [hret] at q; cases q) (fun fs hr => retOut X hx hret rfl (Or.inr (Or.inl ⟨rfl, rfl, z, rfl⟩)) hd hr) (eT ▸ hq) hC hS
theorem own_retA (X : Stand p l e R s m args below meth c T locs cells slots) (hx : p.tables.exec = Jvm.exec) (hlk : meth.locks = false) (eT : T.heap = h) {t : FieldType} (hret : meth.sig.returnType = some t) (ht : t.isReference = true) {w : Value} (hn : narrow t w = w) (hw : w.isRef = true) (hd : decode c.code pc = .ok (.areturn, 1))
    (hq : Qh (some w) h locs) (hC : cells ≤ C) (hS : slots ≤ S) : own_Go p.tables e below (own_Q s Qh C S) (T.setTop (mkF m pc Ls (w :: rest))) :=
  own_leave X hlk (v := some w) (fun q => by rw [hret] at q; cases q) (fun fs hr => retOut X hx hret hn (Or.inr (Or.inr (Or.inr (Or.inr ⟨rfl, ht, hw⟩)))) hd hr) (eT ▸ hq) hC hS
theorem own_retV (X : Stand p l e R s m args below meth c T locs cells slots) (hx : p.tables.exec = Jvm.exec) (hlk : meth.locks = false) (eT : T.heap = h) (hret : meth.sig.returnType = none) (hd : decode c.code pc = .ok (.return_, 1))
    (hq : Qh none h locs) (hC : cells ≤ C) (hS : slots ≤ S) : own_Go p.tables e below (own_Q s Qh C S) (T.setTop (mkF m pc Ls [])) :=
  own_leave X hlk (v := none) (fun _ => rfl) (fun fs hr => X.returnOut hx hret hd hr) (eT ▸ hq) hC hS
/-! an array by its places -/
def own_upd {α : Type} (f : Nat → α) (k : Nat) (v : α) : Nat → α := fun j => if j = k then v else f j
theorem own_upd_eq {α : Type} (f : Nat → α) (k : Nat) (v : α) : own_upd f k v k = v := by simp [own_upd]
theorem own_upd_ne {α : Type} (f : Nat → α) {k j : Nat} (v : α) (q : j ≠ k) : own_upd f k v j = f j := by simp [own_upd, q]
def own_Ar (Z : State) (h : Heap) (a : Addr) (ty : FieldType) (n : Nat) (f : Nat → Value) : Prop := ∃ cl : Cell, Arr Z h a cl ty ∧ cl.slots.size = n ∧ ∀ j, j < n → cl.slots[j]? = some (f j)
/-- ints and what is kept as ints -/
abbrev own_AI (Z : State) (h : Heap) (a : Addr) (ty : FieldType) (n : Nat) (f : Nat → Int32) : Prop := own_Ar Z h a ty n (fun j => .int (f j))
abbrev own_AJ (Z : State) (h : Heap) (a : Addr) (n : Nat) (f : Nat → Int64) : Prop := own_Ar Z h a .long n (fun j => .long (f j))
section
variable {h' : Heap} {b : Addr} {ty : FieldType} {n : Nat} {f : Nat → Value} {v : Value} {sl : Nat} {ws : List Addr}
theorem own_Ar.lt (A : own_Ar Z h a ty n f) : a < h.size := by obtain ⟨cl, q, -⟩ := A; exact q.lt
theorem own_Ar.ext (A : own_Ar Z h a ty n f) (E : Ext h h') : own_Ar Z h' a ty n f := by obtain ⟨cl, q, r⟩ := A; exact ⟨cl, q.ext E, r⟩
theorem own_Ar.other (A : own_Ar Z h a ty n f) (W : Wr h h' b sl v) (q : a ≠ b) : own_Ar Z h' a ty n f := by obtain ⟨cl, r, r'⟩ := A; exact ⟨cl, r.other W q, r'⟩
theorem own_Ar.keep (A : own_Ar Z h a ty n f) (K : Keep h h' ws) (q : a ∉ ws) : own_Ar Z h' a ty n f := by obtain ⟨cl, r, r'⟩ := A; exact ⟨cl, ⟨K.2.1 _ _ r.1 q, r.2⟩, r'⟩
theorem own_Ar.congr (A : own_Ar Z h a ty n f) {g : Nat → Value} (q : ∀ j, j < n → f j = g j) : own_Ar Z h a ty n g := by obtain ⟨cl, r, r1, r2⟩ := A; exact ⟨cl, r, r1, fun j hj => by rw [r2 j hj, q j hj]⟩
theorem own_in {j : Int32} {k n : Nat} (hk : j.toInt = (k : Int)) (hn : k < n) {cl : Cell} (S : cl.slots.size = n) : ¬ (j < 0 ∨ cl.slots.size ≤ j.toNatClampNeg) ∧ j.toNatClampNeg = k := by
  have q : j.toNatClampNeg = k := by simp [Int32.toNatClampNeg, hk]
  refine ⟨fun r => ?_, q⟩
  rcases r with r | r
  · rw [Int32.lt_iff_toInt_lt] at r; simp only [Int32.reduceToInt] at r; omega
  · omega
theorem own_Ar.set (A : own_Ar Z h a ty n f) {k : Nat} (hk : k < n) (W : Wr h h' a k v) : own_Ar Z h' a ty n (own_upd f k v) := by
  obtain ⟨cl, r, r1, r2⟩ := A
  refine ⟨_, r.same W, by rw [sz_set]; exact r1, fun j hj => ?_⟩
  show (cl.slots.setIfInBounds k v)[j]? = _
  by_cases q : j = k
  · subst q; simp [own_upd, r1, hj]
  · rw [Array.getElem?_setIfInBounds_ne (fun y => q y.symm), r2 j hj, own_upd_ne _ _ q]
end
theorem own_bal (X : Stand p l e R s m args below meth c T locs cells slots) (hx : p.tables.exec = Jvm.exec) (hZ : Z.Warmed39 s.vm) (eT : T.heap = h) {n : Nat} {f : Nat → Value} (A : own_Ar Z h a .byte n f) {j : Int32} (k : Nat) (hk : j.toInt = (k : Int)) (hn : k < n) (hd : decode c.code pc = .ok (.baload, 1)) {t : State}
    (kt : Steps p.tables e below (T.setTop (mkF m (pc + 1) Ls (f k :: rest))) t) : Steps p.tables e below (T.setTop (mkF m pc Ls (.int j :: .ref a :: rest))) t := by
  obtain ⟨cl, r, r1, r2⟩ := A
  obtain ⟨q1, q2⟩ := own_in hk hn r1
  exact X.baloadBytes hx (j := j) (v := f k) (by rw [eT]; exact r.1) (State.isArrayOf_alike hZ.alike r.2.1) r.2.2 q1 (by rw [q2]; exact r2 k hn) (g := mkF m pc Ls (.int j :: .ref a :: rest)) rfl rfl hd _ kt
theorem own_ial (X : Stand p l e R s m args below meth c T locs cells slots) (hx : p.tables.exec = Jvm.exec) (hZ : Z.Warmed39 s.vm) (eT : T.heap = h) {n : Nat} {f : Nat → Value} (A : own_Ar Z h a .int n f) {j : Int32} (k : Nat) (hk : j.toInt = (k : Int)) (hn : k < n) (hd : decode c.code pc = .ok (.iaload, 1)) {t : State}
    (kt : Steps p.tables e below (T.setTop (mkF m (pc + 1) Ls (f k :: rest))) t) : Steps p.tables e below (T.setTop (mkF m pc Ls (.int j :: .ref a :: rest))) t := by
  obtain ⟨cl, r, r1, r2⟩ := A
  obtain ⟨q1, q2⟩ := own_in hk hn r1
  exact X.iaload hx (j := j) (v := f k) (by rw [eT]; exact r.1) (State.isArrayOf_alike hZ.alike r.2.1) r.2.2 q1 (by rw [q2]; exact r2 k hn) (g := mkF m pc Ls (.int j :: .ref a :: rest)) rfl rfl hd _ kt
theorem own_lal (X : Stand p l e R s m args below meth c T locs cells slots) (hx : p.tables.exec = Jvm.exec) (hZ : Z.Warmed39 s.vm) (eT : T.heap = h) {n : Nat} {f : Nat → Value} (A : own_Ar Z h a .long n f) {j : Int32} (k : Nat) (hk : j.toInt = (k : Int)) (hn : k < n) (hd : decode c.code pc = .ok (.laload, 1)) {t : State}
    (kt : Steps p.tables e below (T.setTop (mkF m (pc + 1) Ls (f k :: rest))) t) : Steps p.tables e below (T.setTop (mkF m pc Ls (.int j :: .ref a :: rest))) t := by
  obtain ⟨cl, r, r1, r2⟩ := A
  obtain ⟨q1, q2⟩ := own_in hk hn r1
  exact X.laload hx (j := j) (v := f k) (by rw [eT]; exact r.1) (State.isArrayOf_alike hZ.alike r.2.1) r.2.2 q1 (by rw [q2]; exact r2 k hn) (g := mkF m pc Ls (.int j :: .ref a :: rest)) rfl rfl hd _ kt
theorem own_len (X : Stand p l e R s m args below meth c T locs cells slots) (hx : p.tables.exec = Jvm.exec) (hZ : Z.Warmed39 s.vm) (eT : T.heap = h) {ty : FieldType} {n : Nat} {f : Nat → Value} (A : own_Ar Z h a ty n f) (z : Int32) (hz : z = n.toInt32) (hd : decode c.code pc = .ok (.arraylength, 1)) {t : State}
    (kt : Steps p.tables e below (T.setTop (mkF m (pc + 1) Ls (.int z :: rest))) t) : Steps p.tables e below (T.setTop (mkF m pc Ls (.ref a :: rest))) t := by
  obtain ⟨cl, r, r1, r2⟩ := A
  refine X.arraylength hx (by rw [eT]; exact r.1) (State.isArrayOf_alike hZ.alike r.2.1) (g := mkF m pc Ls (.ref a :: rest)) rfl rfl hd _ ?_
  rw [r1, ← hz]; exact kt
theorem own_bas (X : Stand p l e R s m args below meth c T locs cells slots) (hx : p.tables.exec = Jvm.exec) (hZ : Z.Warmed39 s.vm) (eT : T.heap = h) {n : Nat} {f : Nat → Int32} (A : own_AI Z h a .byte n f) {j x : Int32} (k : Nat) (hk : j.toInt = (k : Int)) (hn : k < n) (hd : decode c.code pc = .ok (.bastore, 1))
    (K : ∀ T' h', Stand p l e R s m args below meth c T' (locs ++ [⟨a, k⟩]) cells slots → T'.heap = h' → Wr h h' a k (.int (nar .byte x)) → own_AI Z h' a .byte n (own_upd f k (nar .byte x)) → own_Go p.tables e below Q (T'.setTop (mkF m (pc + 1) Ls rest))) :
    own_Go p.tables e below Q (T.setTop (mkF m pc Ls (.int x :: .int j :: .ref a :: rest))) := by
  obtain ⟨cl, r, r1, r2⟩ := id A
  obtain ⟨q1, q2⟩ := own_in hk hn r1
  obtain ⟨T', h', X', e', W, st⟩ := stB X hx hZ eT r (j := j) (x := x) q1 (g := mkF m pc Ls (.int x :: .int j :: .ref a :: rest)) rfl rfl hd
  rw [q2] at X' W
  exact own_by st (K T' h' X' e' W ((A.set hn W).congr fun i hi => by simp only [own_upd]; split <;> rfl))
theorem own_ias (X : Stand p l e R s m args below meth c T locs cells slots) (hx : p.tables.exec = Jvm.exec) (hZ : Z.Warmed39 s.vm) (eT : T.heap = h) {n : Nat} {f : Nat → Int32} (A : own_AI Z h a .int n f) {j x : Int32} (k : Nat) (hk : j.toInt = (k : Int)) (hn : k < n) (hd : decode c.code pc = .ok (.iastore, 1))
    (K : ∀ T' h', Stand p l e R s m args below meth c T' (locs ++ [⟨a, k⟩]) cells slots → T'.heap = h' → Wr h h' a k (.int x) → own_AI Z h' a .int n (own_upd f k x) → own_Go p.tables e below Q (T'.setTop (mkF m (pc + 1) Ls rest))) :
    own_Go p.tables e below Q (T.setTop (mkF m pc Ls (.int x :: .int j :: .ref a :: rest))) := by
  obtain ⟨cl, r, r1, r2⟩ := id A
  obtain ⟨q1, q2⟩ := own_in hk hn r1
  obtain ⟨T', h', X', e', W, st⟩ := stI X hx hZ eT r (j := j) (x := x) q1 (g := mkF m pc Ls (.int x :: .int j :: .ref a :: rest)) rfl rfl hd
  rw [q2] at X' W
  exact own_by st (K T' h' X' e' W ((A.set hn W).congr fun i hi => by simp only [own_upd]; split <;> rfl))
theorem own_las (X : Stand p l e R s m args below meth c T locs cells slots) (hx : p.tables.exec = Jvm.exec) (hZ : Z.Warmed39 s.vm) (eT : T.heap = h) {n : Nat} {f : Nat → Int64} (A : own_AJ Z h a n f) {j : Int32} {x : Int64} (k : Nat) (hk : j.toInt = (k : Int)) (hn : k < n) (hd : decode c.code pc = .ok (.lastore, 1))
    (K : ∀ T' h', Stand p l e R s m args below meth c T' (locs ++ [⟨a, k⟩]) cells slots → T'.heap = h' → Wr h h' a k (.long x) → own_AJ Z h' a n (own_upd f k x) → own_Go p.tables e below Q (T'.setTop (mkF m (pc + 1) Ls rest))) :
    own_Go p.tables e below Q (T.setTop (mkF m pc Ls (.long x :: .int j :: .ref a :: rest))) := by
  obtain ⟨cl, r, r1, r2⟩ := id A
  obtain ⟨q1, q2⟩ := own_in hk hn r1
  obtain ⟨T', h', X', e', W, st⟩ := stJ X hx hZ eT r (j := j) (x := x) q1 (g := mkF m pc Ls (.long x :: .int j :: .ref a :: rest)) rfl rfl hd
  rw [q2] at X' W
  exact own_by st (K T' h' X' e' W ((A.set hn W).congr fun i hi => by simp only [own_upd]; split <;> rfl))
theorem own_newP (X : Stand p l e R s m args below meth c T locs cells slots) (hx : p.tables.exec = Jvm.exec) (hZ : Z.Warmed39 s.vm) {a0 : Array Value} {aty : ArrayType} (w : (Cond.arrayClass (newarray.typeOf aty)).before a0 Z = true) (eT : T.heap = h) {n : Int32} (k : Nat) (hk : n.toInt = (k : Int)) (cap : Nat) (hcap : k ≤ cap) (hb : cap * 8 ≤ 536870912) (hc : cells + 1 ≤ R.cells) (hl : slots + cap ≤ R.slots)
    (hd : decode c.code pc = .ok (.newarray aty, 2))
    (K : ∀ T' h', Stand p l e R s m args below meth c T' locs (cells + 1) (slots + cap) → T'.heap = h' → Ext h h' → own_Ar Z h' h.size (newarray.typeOf aty) k (fun _ => defaultValue (newarray.typeOf aty)) → own_Go p.tables e below Q (T'.setTop (mkF m (pc + 2) Ls (.ref h.size :: rest)))) :
    own_Go p.tables e below Q (T.setTop (mkF m pc Ls (.int n :: rest))) := by
  have q : n.toNatClampNeg = k := by simp [Int32.toNatClampNeg, hk]
  have q0 : ¬ n < 0 := by rw [Int32.lt_iff_toInt_lt]; simp only [Int32.reduceToInt]; omega
  obtain ⟨T', h', kk, X', e', E, A, st⟩ := newP X hx hZ w eT (n := n) (g := mkF m pc Ls (.int n :: rest)) rfl hd rfl q0 (cap := cap) (by rw [q]; exact hcap) hb hc hl
  refine own_by st (K T' h' X' e' E ⟨_, A, by rw [sz_new, q], fun j hj => ?_⟩)
  simp [newA, q, hj]
theorem own_size_wr {h h' : Heap} {b : Addr} {sl : Nat} {v : Value} {n0 : Nat} (W : Wr h h' b sl v) (q : n0 ≤ h.size) : n0 ≤ h'.size := by rw [W.size]; exact q
end OwnGo
def own_H (f l d : Int64) : Int32 := if d < f then 0 else if l < d then 0 else 1
theorem own_l0 : (0 : Int64).toInt = 0 := by decide
theorem own_l1 : (1 : Int64).toInt = 1 := by decide
theorem own_e2 : ((2 ^ 1 : Nat) : Int) = 2 := by decide
theorem own_fl (a b f l : Int64) (hf : (if b < a then b else a) = f) (hl : (if a < b then b else a) = l) : ¬ l < f := by
  subst hf; subst hl
  simp only [Int64.lt_iff_toInt_lt]
  split <;> split <;> omega
theorem own_h1 (f l : Int64) (h : ¬ l < f) : own_H f l f = 1 := by simp [own_H, h, Int64.lt_irrefl]
theorem own_h2 (f l : Int64) (h : ¬ l < f) : own_H f l l = 1 := by simp [own_H, h, Int64.lt_irrefl]
theorem own_h3 (f l : Int64) (h : ¬ f = -9223372036854775808) : own_H f l (f - 1) = 0 := by
  have h1 : ¬ f.toInt = -9223372036854775808 := fun e => h (Int64.toInt_inj.mp (e.trans (by decide)))
  have c := c_lsub f 1
  have r := rng64 f
  have r2 := rng64 (f - 1)
  rw [own_l1] at c
  have q : f - 1 < f := by rw [Int64.lt_iff_toInt_lt]; omega
  simp [own_H, q]
theorem own_h4 (f l : Int64) (h : ¬ l = 9223372036854775807) : own_H f l (l + 1) = 0 := by
  have h1 : ¬ l.toInt = 9223372036854775807 := fun e => h (Int64.toInt_inj.mp (e.trans (by decide)))
  have c := c_ladd l 1
  have r := rng64 l
  have r2 := rng64 (l + 1)
  rw [own_l1] at c
  have q : l < l + 1 := by rw [Int64.lt_iff_toInt_lt]; omega
  simp [own_H, q]
theorem own_h5 (f l m : Int64) (h : ¬ l < f) (hm : ((f >>> ((1 : Int32) &&& 0x3f).toInt64) + (l >>> ((1 : Int32) &&& 0x3f).toInt64)) + ((f &&& l) &&& (1 : Int64)) = m) : own_H f l m = 1 := by
  have a1 := c_lshr f 1 1 (by decide)
  have a2 := c_lshr l 1 1 (by decide)
  have a3 := c_maskL (f &&& l) 1 1 (by decide) (by decide)
  have a4 := c_ladd (f >>> ((1 : Int32) &&& 0x3f).toInt64) (l >>> ((1 : Int32) &&& 0x3f).toInt64)
  have a5 := c_ladd ((f >>> ((1 : Int32) &&& 0x3f).toInt64) + (l >>> ((1 : Int32) &&& 0x3f).toInt64)) ((f &&& l) &&& (1 : Int64))
  have r1 := rng64 f
  have r2 := rng64 l
  have r3 := rng64 ((f >>> ((1 : Int32) &&& 0x3f).toInt64) + (l >>> ((1 : Int32) &&& 0x3f).toInt64))
  have r4 := rng64 m
  rw [hm] at a5
  have r5 : f.toInt ≤ l.toInt := by rw [Int64.lt_iff_toInt_lt] at h; omega
  have key : f.toInt ≤ m.toInt ∧ m.toInt ≤ l.toInt := by
    by_cases e : f = l
    · subst e
      rw [Int64.and_self] at a3 a5
      rw [own_e2] at a1 a3
      omega
    · have e' : ¬ f.toInt = l.toInt := fun q => e (Int64.toInt_inj.mp q)
      rw [own_e2] at a1 a2 a3
      omega
  have q1 : ¬ m < f := by rw [Int64.lt_iff_toInt_lt]; omega
  have q2 : ¬ l < m := by rw [Int64.lt_iff_toInt_lt]; omega
  simp [own_H, q1, q2]
theorem own_pd0 : parseMethodDescriptor "(JJ)J" = some ⟨[.long, .long], some .long⟩ := by decide +kernel
theorem own_pd1 : parseMethodDescriptor "(JJ)V" = some ⟨[.long, .long], none⟩ := by decide +kernel
theorem own_pd2 : parseMethodDescriptor "()V" = some ⟨[], none⟩ := by decide +kernel
theorem own_pd3 : parseMethodDescriptor "(J)Z" = some ⟨[.long], some .boolean⟩ := by decide +kernel
theorem d1_0 : decode jdk_29_method_70_code 0 = .ok (.lload_n 0, 1) := by decide +kernel
theorem d1_1 : decode jdk_29_method_70_code 1 = .ok (.lload_n 2, 1) := by decide +kernel
theorem d1_2 : decode jdk_29_method_70_code 2 = .ok (.lcmp, 1) := by decide +kernel
theorem d1_3 : decode jdk_29_method_70_code 3 = .ok (.ifCond .gt 7, 3) := by decide +kernel
theorem d1_6 : decode jdk_29_method_70_code 6 = .ok (.lload_n 0, 1) := by decide +kernel
theorem d1_7 : decode jdk_29_method_70_code 7 = .ok (.goto 4, 3) := by decide +kernel
theorem d1_10 : decode jdk_29_method_70_code 10 = .ok (.lload_n 2, 1) := by decide +kernel
theorem d1_11 : decode jdk_29_method_70_code 11 = .ok (.lreturn, 1) := by decide +kernel
theorem d2_0 : decode jdk_29_method_66_code 0 = .ok (.lload_n 0, 1) := by decide +kernel
theorem d2_1 : decode jdk_29_method_66_code 1 = .ok (.lload_n 2, 1) := by decide +kernel
theorem d2_2 : decode jdk_29_method_66_code 2 = .ok (.lcmp, 1) := by decide +kernel
theorem d2_3 : decode jdk_29_method_66_code 3 = .ok (.ifCond .lt 7, 3) := by decide +kernel
theorem d2_6 : decode jdk_29_method_66_code 6 = .ok (.lload_n 0, 1) := by decide +kernel
theorem d2_7 : decode jdk_29_method_66_code 7 = .ok (.goto 4, 3) := by decide +kernel
theorem d2_10 : decode jdk_29_method_66_code 10 = .ok (.lload_n 2, 1) := by decide +kernel
theorem d2_11 : decode jdk_29_method_66_code 11 = .ok (.lreturn, 1) := by decide +kernel
theorem d3_0 : decode prog_29_method_1_code 0 = .ok (.aload_n 0, 1) := by decide +kernel
theorem d3_1 : decode prog_29_method_1_code 1 = .ok (.invokespecial 1, 3) := by decide +kernel
theorem d3_4 : decode prog_29_method_1_code 4 = .ok (.lload_n 1, 1) := by decide +kernel
theorem d3_5 : decode prog_29_method_1_code 5 = .ok (.lconst 0, 1) := by decide +kernel
theorem d3_6 : decode prog_29_method_1_code 6 = .ok (.lcmp, 1) := by decide +kernel
theorem d3_7 : decode prog_29_method_1_code 7 = .ok (.ifCond .eq 15, 3) := by decide +kernel
theorem d3_10 : decode prog_29_method_1_code 10 = .ok (.lload_n 3, 1) := by decide +kernel
theorem d3_11 : decode prog_29_method_1_code 11 = .ok (.lconst 0, 1) := by decide +kernel
theorem d3_12 : decode prog_29_method_1_code 12 = .ok (.lcmp, 1) := by decide +kernel
theorem d3_13 : decode prog_29_method_1_code 13 = .ok (.ifCond .eq 9, 3) := by decide +kernel
theorem d3_16 : decode prog_29_method_1_code 16 = .ok (.lload_n 3, 1) := by decide +kernel
theorem d3_17 : decode prog_29_method_1_code 17 = .ok (.lload_n 1, 1) := by decide +kernel
theorem d3_18 : decode prog_29_method_1_code 18 = .ok (.lcmp, 1) := by decide +kernel
theorem d3_19 : decode prog_29_method_1_code 19 = .ok (.ifCond .ge 18, 3) := by decide +kernel
theorem d3_22 : decode prog_29_method_1_code 22 = .ok (.new 7, 3) := by decide +kernel
theorem d3_25 : decode prog_29_method_1_code 25 = .ok (.dup, 1) := by decide +kernel
theorem d3_26 : decode prog_29_method_1_code 26 = .ok (.lload_n 1, 1) := by decide +kernel
theorem d3_27 : decode prog_29_method_1_code 27 = .ok (.lload_n 3, 1) := by decide +kernel
theorem d3_33 : decode prog_29_method_1_code 33 = .ok (.invokespecial 13, 3) := by decide +kernel
theorem d3_36 : decode prog_29_method_1_code 36 = .ok (.athrow, 1) := by decide +kernel
theorem d3_37 : decode prog_29_method_1_code 37 = .ok (.aload_n 0, 1) := by decide +kernel
theorem d3_38 : decode prog_29_method_1_code 38 = .ok (.lload_n 1, 1) := by decide +kernel
theorem d3_39 : decode prog_29_method_1_code 39 = .ok (.putfield 16, 3) := by decide +kernel
theorem d3_42 : decode prog_29_method_1_code 42 = .ok (.aload_n 0, 1) := by decide +kernel
theorem d3_43 : decode prog_29_method_1_code 43 = .ok (.lload_n 3, 1) := by decide +kernel
theorem d3_44 : decode prog_29_method_1_code 44 = .ok (.putfield 22, 3) := by decide +kernel
theorem d3_47 : decode prog_29_method_1_code 47 = .ok (.return_, 1) := by decide +kernel
theorem pn_3 : plainName "com/example/time_for_trials/timefortrials/protocol/Workflow$DayWindow" = true := by first | (simp [plainName, overriddenIn]; done) | decide +kernel
theorem d4_0 : decode jdk_30_method_1_code 0 = .ok (.aload_n 0, 1) := by decide +kernel
theorem d4_1 : decode jdk_30_method_1_code 1 = .ok (.invokespecial 1, 3) := by decide +kernel
theorem d4_4 : decode jdk_30_method_1_code 4 = .ok (.return_, 1) := by decide +kernel
theorem pn_4 : plainName "java/lang/Record" = true := by first | (simp [plainName, overriddenIn]; done) | decide +kernel
theorem d6_0 : decode prog_29_method_2_code 0 = .ok (.aload_n 0, 1) := by decide +kernel
theorem d6_1 : decode prog_29_method_2_code 1 = .ok (.getfield 16, 3) := by decide +kernel
theorem d6_4 : decode prog_29_method_2_code 4 = .ok (.lload_n 1, 1) := by decide +kernel
theorem d6_5 : decode prog_29_method_2_code 5 = .ok (.lcmp, 1) := by decide +kernel
theorem d6_6 : decode prog_29_method_2_code 6 = .ok (.ifCond .gt 16, 3) := by decide +kernel
theorem d6_9 : decode prog_29_method_2_code 9 = .ok (.lload_n 1, 1) := by decide +kernel
theorem d6_10 : decode prog_29_method_2_code 10 = .ok (.aload_n 0, 1) := by decide +kernel
theorem d6_11 : decode prog_29_method_2_code 11 = .ok (.getfield 22, 3) := by decide +kernel
theorem d6_14 : decode prog_29_method_2_code 14 = .ok (.lcmp, 1) := by decide +kernel
theorem d6_15 : decode prog_29_method_2_code 15 = .ok (.ifCond .gt 7, 3) := by decide +kernel
theorem d6_18 : decode prog_29_method_2_code 18 = .ok (.iconst 1, 1) := by decide +kernel
theorem d6_19 : decode prog_29_method_2_code 19 = .ok (.goto 4, 3) := by decide +kernel
theorem d6_22 : decode prog_29_method_2_code 22 = .ok (.iconst 0, 1) := by decide +kernel
theorem d6_23 : decode prog_29_method_2_code 23 = .ok (.ireturn, 1) := by decide +kernel
theorem pn_6 : plainName "com/example/time_for_trials/timefortrials/protocol/Workflow$DayWindow" = true := by first | (simp [plainName, overriddenIn]; done) | decide +kernel
theorem pn_0 : plainName "com/example/time_for_trials/timefortrials/protocol/DayWindowHoldsPinLaw" = true := by first | (simp [plainName, overriddenIn]; done) | decide +kernel
set_option maxRecDepth 65536 in
set_option maxHeartbeats 40000000 in
theorem rm1 (l : Launch) (Z : State) (a0 : Array Value) (hw : ∀ d ∈ tables_1, d.before a0 Z = true) (ws : List Jvm.Cond) (q1 : Int64) (q2 : Int64)  (h0 : Heap) (n0 : Nat) (Z0 : n0 ≤ h0.size) :
    MetFree l (⟨"java/lang/Math", "min", "(JJ)J"⟩ : MethodName) (head1 (Jvm.Cond.code (⟨"java/lang/Math", "min", "(JJ)J"⟩ : MethodName) jdk_29_method_70_code 4 (some .long) :: ws) ({ frames := 0, cells := 0, slots := 0, locals := 0 } : Room)) (fun a U => a = #[(.long q1), (.long q2)] ∧ Z.Warmed39 U.vm ∧ U.heap = h0) (fun _ _ _ _ _ => True) (fun _ U o U' => ∃ v L, o = .returned v ∧ own_ap (fun v h L => v = some (.long (if q2 < q1 then q2 else q1)) ∧ Fr n0 L ∧ h = h0) v U'.heap L ∧ FrameEnd U o U' L 0 0) := by
  refine MetFree.of_bodySF (Jvm.Free.JP.mathPlain rfl (by decide +kernel)) hisR ?_
  intro p e s m args below meth c s₁ Bd hml0 hP hK
  obtain ⟨rfl, hZ, hh⟩ := hP
  have hx := Bd.exec
  have hby := Bd.bytes
  have hml : c.maxLocals = 4 := hml0
  have hown : s.vm.findClass "java/lang/Math" = some m.cls := findClass_of_methodNamed Bd.named
  have hnm := (name_of_methodNamed Bd.named Bd.method).1
  have X0 : Stand p l e ({ frames := 0, cells := 0, slots := 0, locals := 0 } : Room) s m #[(.long q1), (.long q2)] below meth c s₁ [] 0 0 := Stand.of_body Bd
  have e0 : s₁.heap = h0 := by rw [← hh, Bd.state]; rfl
  have N0 := Fr.nil n0
  show own_Go p.tables e below (own_Q s (fun v h L => v = some (.long (if q2 < q1 then q2 else q1)) ∧ Fr n0 L ∧ h = h0) 0 0) (s₁.setTop (entryFrame m #[(.long q1), (.long q2)] 4))
  rw [show entryFrame m #[(.long q1), (.long q2)] 4 = mkF m 0 #[.val (.long q1), .second, .val (.long q2), .second] [] from by first | (simp [entryFrame, mkF, argsToLocals, Value.category]; done) | rfl]
  show own_Go _ _ _ _ (s₁.setTop (mkF m 0 #[.val (.long q1), .second, .val (.long q2), .second] []))
  refine own_by (fun _ k => XS.lloadN X0.here hx rfl (hb hby d1_0) rfl k) ?_
  show own_Go _ _ _ _ (s₁.setTop (mkF m 1 #[.val (.long q1), .second, .val (.long q2), .second] [(.long q1)]))
  refine own_by (fun _ k => XS.lloadN X0.here hx rfl (hb hby d1_1) rfl k) ?_
  show own_Go _ _ _ _ (s₁.setTop (mkF m 2 #[.val (.long q1), .second, .val (.long q2), .second] [(.long q2), (.long q1)]))
  refine own_by (fun _ k => XS.lcmp X0.here hx rfl (hb hby d1_2) rfl k) ?_
  show own_Go _ _ _ _ (s₁.setTop (mkF m 3 #[.val (.long q1), .second, .val (.long q2), .second] [(.int (lcmpW q1 q2))]))
  by_cases hc1 : q2 < q1
  · --
    refine own_by (fun _ k => XS.ifYes X0.here hx rfl (pc0 := 3) (pc' := 10) rfl (hb hby d1_3) rfl ((if0 _ _).trans (tlt ((lw_gt _ _).mpr hc1)).2.2.1) (by decide) (by decide) k) ?_
    show own_Go _ _ _ _ (s₁.setTop (mkF m 10 #[.val (.long q1), .second, .val (.long q2), .second] []))
    refine own_by (fun _ k => XS.lloadN X0.here hx rfl (hb hby d1_10) rfl k) ?_
    show own_Go _ _ _ _ (s₁.setTop (mkF m 11 #[.val (.long q1), .second, .val (.long q2), .second] [(.long q2)]))
    exact own_retJ X0 hx Bd.notSynchronized e0 Bd.returns (hb hby d1_11) (⟨by simp [hc1], N0, rfl⟩) (by decide) (by decide)
  · --
    refine own_by (fun _ k => XS.ifNo X0.here hx rfl (hb hby d1_3) rfl ((if0 _ _).trans (flt (mt (lw_gt _ _).mp hc1)).2.2.1) k) ?_
    show own_Go _ _ _ _ (s₁.setTop (mkF m 6 #[.val (.long q1), .second, .val (.long q2), .second] []))
    refine own_by (fun _ k => XS.lloadN X0.here hx rfl (hb hby d1_6) rfl k) ?_
    show own_Go _ _ _ _ (s₁.setTop (mkF m 7 #[.val (.long q1), .second, .val (.long q2), .second] [(.long q1)]))
    refine own_by (fun _ k => XS.goto X0.here hx rfl (pc0 := 7) (pc' := 11) rfl (hb hby d1_7) (by decide) (by decide) k) ?_
    show own_Go _ _ _ _ (s₁.setTop (mkF m 11 #[.val (.long q1), .second, .val (.long q2), .second] [(.long q1)]))
    exact own_retJ X0 hx Bd.notSynchronized e0 Bd.returns (hb hby d1_11) (⟨by simp [hc1], N0, rfl⟩) (by decide) (by decide)
set_option maxRecDepth 65536 in
set_option maxHeartbeats 40000000 in
theorem rm2 (l : Launch) (Z : State) (a0 : Array Value) (hw : ∀ d ∈ tables_1, d.before a0 Z = true) (ws : List Jvm.Cond) (q1 : Int64) (q2 : Int64)  (h0 : Heap) (n0 : Nat) (Z0 : n0 ≤ h0.size) :
    MetFree l (⟨"java/lang/Math", "max", "(JJ)J"⟩ : MethodName) (head1 (Jvm.Cond.code (⟨"java/lang/Math", "max", "(JJ)J"⟩ : MethodName) jdk_29_method_66_code 4 (some .long) :: ws) ({ frames := 0, cells := 0, slots := 0, locals := 0 } : Room)) (fun a U => a = #[(.long q1), (.long q2)] ∧ Z.Warmed39 U.vm ∧ U.heap = h0) (fun _ _ _ _ _ => True) (fun _ U o U' => ∃ v L, o = .returned v ∧ own_ap (fun v h L => v = some (.long (if q1 < q2 then q2 else q1)) ∧ Fr n0 L ∧ h = h0) v U'.heap L ∧ FrameEnd U o U' L 0 0) := by
  refine MetFree.of_bodySF (Jvm.Free.JP.mathPlain rfl (by decide +kernel)) hisR ?_
  intro p e s m args below meth c s₁ Bd hml0 hP hK
  obtain ⟨rfl, hZ, hh⟩ := hP
  have hx := Bd.exec
  have hby := Bd.bytes
  have hml : c.maxLocals = 4 := hml0
  have hown : s.vm.findClass "java/lang/Math" = some m.cls := findClass_of_methodNamed Bd.named
  have hnm := (name_of_methodNamed Bd.named Bd.method).1
  have X0 : Stand p l e ({ frames := 0, cells := 0, slots := 0, locals := 0 } : Room) s m #[(.long q1), (.long q2)] below meth c s₁ [] 0 0 := Stand.of_body Bd
  have e0 : s₁.heap = h0 := by rw [← hh, Bd.state]; rfl
  have N0 := Fr.nil n0
  show own_Go p.tables e below (own_Q s (fun v h L => v = some (.long (if q1 < q2 then q2 else q1)) ∧ Fr n0 L ∧ h = h0) 0 0) (s₁.setTop (entryFrame m #[(.long q1), (.long q2)] 4))
  rw [show entryFrame m #[(.long q1), (.long q2)] 4 = mkF m 0 #[.val (.long q1), .second, .val (.long q2), .second] [] from by first | (simp [entryFrame, mkF, argsToLocals, Value.category]; done) | rfl]
  show own_Go _ _ _ _ (s₁.setTop (mkF m 0 #[.val (.long q1), .second, .val (.long q2), .second] []))
  refine own_by (fun _ k => XS.lloadN X0.here hx rfl (hb hby d2_0) rfl k) ?_
  show own_Go _ _ _ _ (s₁.setTop (mkF m 1 #[.val (.long q1), .second, .val (.long q2), .second] [(.long q1)]))
  refine own_by (fun _ k => XS.lloadN X0.here hx rfl (hb hby d2_1) rfl k) ?_
  show own_Go _ _ _ _ (s₁.setTop (mkF m 2 #[.val (.long q1), .second, .val (.long q2), .second] [(.long q2), (.long q1)]))
  refine own_by (fun _ k => XS.lcmp X0.here hx rfl (hb hby d2_2) rfl k) ?_
  show own_Go _ _ _ _ (s₁.setTop (mkF m 3 #[.val (.long q1), .second, .val (.long q2), .second] [(.int (lcmpW q1 q2))]))
  by_cases hc1 : q1 < q2
  · --
    refine own_by (fun _ k => XS.ifYes X0.here hx rfl (pc0 := 3) (pc' := 10) rfl (hb hby d2_3) rfl ((if0 _ _).trans (tlt ((lw_lt _ _).mpr hc1)).1) (by decide) (by decide) k) ?_
    show own_Go _ _ _ _ (s₁.setTop (mkF m 10 #[.val (.long q1), .second, .val (.long q2), .second] []))
    refine own_by (fun _ k => XS.lloadN X0.here hx rfl (hb hby d2_10) rfl k) ?_
    show own_Go _ _ _ _ (s₁.setTop (mkF m 11 #[.val (.long q1), .second, .val (.long q2), .second] [(.long q2)]))
    exact own_retJ X0 hx Bd.notSynchronized e0 Bd.returns (hb hby d2_11) (⟨by simp [hc1], N0, rfl⟩) (by decide) (by decide)
  · --
    refine own_by (fun _ k => XS.ifNo X0.here hx rfl (hb hby d2_3) rfl ((if0 _ _).trans (flt (mt (lw_lt _ _).mp hc1)).1) k) ?_
    show own_Go _ _ _ _ (s₁.setTop (mkF m 6 #[.val (.long q1), .second, .val (.long q2), .second] []))
    refine own_by (fun _ k => XS.lloadN X0.here hx rfl (hb hby d2_6) rfl k) ?_
    show own_Go _ _ _ _ (s₁.setTop (mkF m 7 #[.val (.long q1), .second, .val (.long q2), .second] [(.long q1)]))
    refine own_by (fun _ k => XS.goto X0.here hx rfl (pc0 := 7) (pc' := 11) rfl (hb hby d2_7) (by decide) (by decide) k) ?_
    show own_Go _ _ _ _ (s₁.setTop (mkF m 11 #[.val (.long q1), .second, .val (.long q2), .second] [(.long q1)]))
    exact own_retJ X0 hx Bd.notSynchronized e0 Bd.returns (hb hby d2_11) (⟨by simp [hc1], N0, rfl⟩) (by decide) (by decide)
set_option maxRecDepth 65536 in
set_option maxHeartbeats 40000000 in
theorem rm4 (l : Launch) (Z : State) (a0 : Array Value) (hw : ∀ d ∈ tables_1, d.before a0 Z = true) (ws : List Jvm.Cond) (a1 : Addr)  (h0 : Heap) (n0 : Nat) (Z0 : n0 ≤ h0.size) :
    MetFree l (⟨"java/lang/Record", "<init>", "()V"⟩ : MethodName) (head1 (Jvm.Cond.code (⟨"java/lang/Record", "<init>", "()V"⟩ : MethodName) jdk_30_method_1_code 1 none :: ws) ({ frames := 1, cells := 0, slots := 0, locals := 12 } : Room)) (fun a U => a = #[(.ref a1)] ∧ Z.Warmed39 U.vm ∧ U.heap = h0) (fun _ _ _ _ _ => True) (fun _ U o U' => ∃ v L, o = .returned v ∧ own_ap (fun v h L => v = none ∧ Fr n0 L ∧ h = h0) v U'.heap L ∧ FrameEnd U o U' L 0 0) := by
  refine MetFree.of_bodySF (plainFor_of_name pn_4) hisR ?_
  intro p e s m args below meth c s₁ Bd hml0 hP hK
  obtain ⟨rfl, hZ, hh⟩ := hP
  have hx := Bd.exec
  have hby := Bd.bytes
  have hml : c.maxLocals = 1 := hml0
  have hown : s.vm.findClass "java/lang/Record" = some m.cls := findClass_of_methodNamed Bd.named
  have hnm := (name_of_methodNamed Bd.named Bd.method).1
  have X0 : Stand p l e ({ frames := 1, cells := 0, slots := 0, locals := 12 } : Room) s m #[(.ref a1)] below meth c s₁ [] 0 0 := Stand.of_body Bd
  have e0 : s₁.heap = h0 := by rw [← hh, Bd.state]; rfl
  have N0 := Fr.nil n0
  show own_Go p.tables e below (own_Q s (fun v h L => v = none ∧ Fr n0 L ∧ h = h0) 0 0) (s₁.setTop (entryFrame m #[(.ref a1)] 1))
  rw [show entryFrame m #[(.ref a1)] 1 = mkF m 0 #[.val (.ref a1)] [] from by first | (simp [entryFrame, mkF, argsToLocals, Value.category]; done) | rfl]
  show own_Go _ _ _ _ (s₁.setTop (mkF m 0 #[.val (.ref a1)] []))
  refine own_by (fun _ k => XS.aloadN X0.here hx rfl (hb hby d4_0) rfl rfl k) ?_
  show own_Go _ _ _ _ (s₁.setTop (mkF m 1 #[.val (.ref a1)] [(.ref a1)]))
  obtain ⟨T1, X1, e1, st1⟩ := initO X0 hx hZ hown (hw _ (List.mem_of_getElem? (i := 18) rfl)) (hw _ (List.mem_of_getElem? (i := 19) rfl)) (hw _ (List.mem_of_getElem? (i := 20) rfl)) e0 (g := (mkF m 1 #[.val (.ref a1)] [(.ref a1)])) rfl (by rw [hml]; rfl) rfl (hb hby d4_1) (by decide) (W := 0) (by show 2 * 0 + _ ≤ _; exact Nat.le_of_eq rfl) (by decide)
  refine own_by st1 ?_
  show own_Go _ _ _ _ (T1.setTop (mkF m 4 #[.val (.ref a1)] []))
  exact own_retV X1 hx Bd.notSynchronized e1 Bd.returns (hb hby d4_4) (⟨rfl, N0, rfl⟩) (by decide) (by decide)
set_option maxRecDepth 65536 in
set_option maxHeartbeats 40000000 in
theorem rm3 (l : Launch) (Z : State) (a0 : Array Value) (hw : ∀ d ∈ tables_1, d.before a0 Z = true) (ws : List Jvm.Cond) (a1 : Addr) (q1 : Int64) (q2 : Int64)  (h0 : Heap) (n0 : Nat) (Z0 : n0 ≤ h0.size) (E1 : Exa Z h0 a1 "com/example/time_for_trials/timefortrials/protocol/Workflow$DayWindow") (F1 : Fld Z h0 a1 "com/example/time_for_trials/timefortrials/protocol/Workflow$DayWindow" "first" "J" (.long 0)) (F2 : Fld Z h0 a1 "com/example/time_for_trials/timefortrials/protocol/Workflow$DayWindow" "last" "J" (.long 0)) (g1 : n0 ≤ a1) (hf : ¬ q1 = 0) (hl : ¬ q2 = 0) (hlf : ¬ q2 < q1) :
    MetFree l (⟨"com/example/time_for_trials/timefortrials/protocol/Workflow$DayWindow", "<init>", "(JJ)V"⟩ : MethodName) (head1 (Jvm.Cond.code (⟨"com/example/time_for_trials/timefortrials/protocol/Workflow$DayWindow", "<init>", "(JJ)V"⟩ : MethodName) prog_29_method_1_code 5 none :: ws) ({ frames := 2, cells := 0, slots := 0, locals := 24 } : Room)) (fun a U => a = #[(.ref a1), (.long q1), (.long q2)] ∧ Z.Warmed39 U.vm ∧ U.heap = h0) (fun _ _ _ _ _ => True) (fun _ U o U' => ∃ v L, o = .returned v ∧ own_ap (fun v h L => v = none ∧ Fr n0 L ∧ Keep h0 h [a1] ∧ Fld Z h a1 "com/example/time_for_trials/timefortrials/protocol/Workflow$DayWindow" "first" "J" (.long q1) ∧ Fld Z h a1 "com/example/time_for_trials/timefortrials/protocol/Workflow$DayWindow" "last" "J" (.long q2)) v U'.heap L ∧ FrameEnd U o U' L 0 0) := by
  refine MetFree.of_bodySF (plainFor_of_name pn_3) hisR ?_
  intro p e s m args below meth c s₁ Bd hml0 hP hK
  obtain ⟨rfl, hZ, hh⟩ := hP
  have hx := Bd.exec
  have hby := Bd.bytes
  have hml : c.maxLocals = 5 := hml0
  have hown : s.vm.findClass "com/example/time_for_trials/timefortrials/protocol/Workflow$DayWindow" = some m.cls := findClass_of_methodNamed Bd.named
  have hnm := (name_of_methodNamed Bd.named Bd.method).1
  have X0 : Stand p l e ({ frames := 2, cells := 0, slots := 0, locals := 24 } : Room) s m #[(.ref a1), (.long q1), (.long q2)] below meth c s₁ [] 0 0 := Stand.of_body Bd
  have e0 : s₁.heap = h0 := by rw [← hh, Bd.state]; rfl
  have N0 := Fr.nil n0
  show own_Go p.tables e below (own_Q s (fun v h L => v = none ∧ Fr n0 L ∧ Keep h0 h [a1] ∧ Fld Z h a1 "com/example/time_for_trials/timefortrials/protocol/Workflow$DayWindow" "first" "J" (.long q1) ∧ Fld Z h a1 "com/example/time_for_trials/timefortrials/protocol/Workflow$DayWindow" "last" "J" (.long q2)) 0 0) (s₁.setTop (entryFrame m #[(.ref a1), (.long q1), (.long q2)] 5))
  rw [show entryFrame m #[(.ref a1), (.long q1), (.long q2)] 5 = mkF m 0 #[.val (.ref a1), .val (.long q1), .second, .val (.long q2), .second] [] from by first | (simp [entryFrame, mkF, argsToLocals, Value.category]; done) | rfl]
  show own_Go _ _ _ _ (s₁.setTop (mkF m 0 #[.val (.ref a1), .val (.long q1), .second, .val (.long q2), .second] []))
  refine own_by (fun _ k => XS.aloadN X0.here hx rfl (hb hby d3_0) rfl rfl k) ?_
  show own_Go _ _ _ _ (s₁.setTop (mkF m 1 #[.val (.ref a1), .val (.long q1), .second, .val (.long q2), .second] [(.ref a1)]))
  obtain ⟨_, _, ⟨T1, L1, k1, n1⟩, -, X1, ⟨Lc1, hQ1, l1, y1, z1⟩, st1⟩ := X0.specialBack hx (y := (⟨"java/lang/Record", "<init>", "()V"⟩ : MethodName)) rfl hown (mvT hZ (hw _ (List.mem_of_getElem? (i := 13) rfl))) (mvT hZ (hw _ (List.mem_of_getElem? (i := 14) rfl))) (mvT hZ (hw _ (List.mem_of_getElem? (i := 17) rfl))) (by decide) (backOf (W := 0) (rm4 l Z a0 hw [] a1 h0 n0 Z0) hZ (hw _ (List.mem_of_getElem? (i := 17) rfl)) (hw _ (List.mem_of_getElem? (i := 16) rfl)) (by decide) (by decide)) (g := (mkF m 1 #[.val (.ref a1), .val (.long q1), .second, .val (.long q2), .second] [(.ref a1)])) rfl (by rw [hml]; rfl) (Steps.refl _) (a := a1) (argsL := []) (rest := []) (lenOf own_pd2 rfl) rfl (by show 2 * 0 + _ ≤ _; exact Nat.le_of_eq rfl) (hb hby d3_1) (fun _ _ => ⟨rfl, e0, Nat.le_of_ble_eq_true rfl, Nat.le_of_ble_eq_true rfl⟩)
  dsimp only [Pt.U, Pt.locs, Pt.cells, Pt.slots] at X1 l1 y1 z1 st1 hQ1
  subst l1 y1 z1
  obtain ⟨rfl, N1q, e1⟩ := hQ1
  have N1 := Fr.app N0 N1q
  refine own_tr st1 ?_
  show own_Go _ _ _ _ (T1.setTop (mkF m 4 #[.val (.ref a1), .val (.long q1), .second, .val (.long q2), .second] []))
  refine own_by (fun _ k => XS.lloadN X1.here hx rfl (hb hby d3_4) rfl k) ?_
  show own_Go _ _ _ _ (T1.setTop (mkF m 5 #[.val (.ref a1), .val (.long q1), .second, .val (.long q2), .second] [(.long q1)]))
  refine own_by (fun _ k => XS.lconst X1.here hx rfl (hb hby d3_5) k) ?_
  show own_Go _ _ _ _ (T1.setTop (mkF m 6 #[.val (.ref a1), .val (.long q1), .second, .val (.long q2), .second] [(.long (0 : Int64)), (.long q1)]))
  refine own_by (fun _ k => XS.lcmp X1.here hx rfl (hb hby d3_6) rfl k) ?_
  show own_Go _ _ _ _ (T1.setTop (mkF m 7 #[.val (.ref a1), .val (.long q1), .second, .val (.long q2), .second] [(.int (lcmpW q1 (0 : Int64)))]))
  refine own_by (fun _ k => XS.ifNo X1.here hx rfl (hb hby d3_7) rfl ((if0 _ _).trans (feq (mt (lw_eq _ _).mp hf)).1) k) ?_
  show own_Go _ _ _ _ (T1.setTop (mkF m 10 #[.val (.ref a1), .val (.long q1), .second, .val (.long q2), .second] []))
  refine own_by (fun _ k => XS.lloadN X1.here hx rfl (hb hby d3_10) rfl k) ?_
  show own_Go _ _ _ _ (T1.setTop (mkF m 11 #[.val (.ref a1), .val (.long q1), .second, .val (.long q2), .second] [(.long q2)]))
  refine own_by (fun _ k => XS.lconst X1.here hx rfl (hb hby d3_11) k) ?_
  show own_Go _ _ _ _ (T1.setTop (mkF m 12 #[.val (.ref a1), .val (.long q1), .second, .val (.long q2), .second] [(.long (0 : Int64)), (.long q2)]))
  refine own_by (fun _ k => XS.lcmp X1.here hx rfl (hb hby d3_12) rfl k) ?_
  show own_Go _ _ _ _ (T1.setTop (mkF m 13 #[.val (.ref a1), .val (.long q1), .second, .val (.long q2), .second] [(.int (lcmpW q2 (0 : Int64)))]))
  refine own_by (fun _ k => XS.ifNo X1.here hx rfl (hb hby d3_13) rfl ((if0 _ _).trans (feq (mt (lw_eq _ _).mp hl)).1) k) ?_
  show own_Go _ _ _ _ (T1.setTop (mkF m 16 #[.val (.ref a1), .val (.long q1), .second, .val (.long q2), .second] []))
  refine own_by (fun _ k => XS.lloadN X1.here hx rfl (hb hby d3_16) rfl k) ?_
  show own_Go _ _ _ _ (T1.setTop (mkF m 17 #[.val (.ref a1), .val (.long q1), .second, .val (.long q2), .second] [(.long q2)]))
  refine own_by (fun _ k => XS.lloadN X1.here hx rfl (hb hby d3_17) rfl k) ?_
  show own_Go _ _ _ _ (T1.setTop (mkF m 18 #[.val (.ref a1), .val (.long q1), .second, .val (.long q2), .second] [(.long q1), (.long q2)]))
  refine own_by (fun _ k => XS.lcmp X1.here hx rfl (hb hby d3_18) rfl k) ?_
  show own_Go _ _ _ _ (T1.setTop (mkF m 19 #[.val (.ref a1), .val (.long q1), .second, .val (.long q2), .second] [(.int (lcmpW q2 q1))]))
  refine own_by (fun _ k => XS.ifYes X1.here hx rfl (pc0 := 19) (pc' := 37) rfl (hb hby d3_19) rfl ((if0 _ _).trans (flt (mt (lw_lt _ _).mp hlf)).2.1) (by decide) (by decide) k) ?_
  show own_Go _ _ _ _ (T1.setTop (mkF m 37 #[.val (.ref a1), .val (.long q1), .second, .val (.long q2), .second] []))
  refine own_by (fun _ k => XS.aloadN X1.here hx rfl (hb hby d3_37) rfl rfl k) ?_
  show own_Go _ _ _ _ (T1.setTop (mkF m 38 #[.val (.ref a1), .val (.long q1), .second, .val (.long q2), .second] [(.ref a1)]))
  refine own_by (fun _ k => XS.lloadN X1.here hx rfl (hb hby d3_38) rfl k) ?_
  show own_Go _ _ _ _ (T1.setTop (mkF m 39 #[.val (.ref a1), .val (.long q1), .second, .val (.long q2), .second] [(.long q1), (.ref a1)]))
  obtain ⟨T2, h2, X2, e2, W2, st2⟩ := putF X1 hx hZ hown (host := "") (Or.inl (hw _ (List.mem_of_getElem? (i := 21) rfl))) Via.refl e1 F1 E1 (Or.inr ⟨(hw _ (List.mem_of_getElem? (i := 22) rfl)), rfl, hnm⟩) (hw _ (List.mem_of_getElem? (i := 8) rfl)) (ty := .long) (by decide) rfl rfl (g := (mkF m 39 #[.val (.ref a1), .val (.long q1), .second, .val (.long q2), .second] [(.long q1), (.ref a1)])) rfl rfl (hb hby d3_39)
  refine own_by st2 ?_
  have f3 := F1.same W2
  have f4 := E1.wr W2
  have f5 := F2.other W2 (Or.inr (slot_ne (Or.inr (hw _ (List.mem_of_getElem? (i := 24) rfl))) (Or.inr (hw _ (List.mem_of_getElem? (i := 22) rfl))) (by decide) (t := .long) (t' := .long) (by decide) (by decide)))
  have f6 := (Keep.refl h0 [a1]).wr W2 (Or.inl (List.mem_of_getElem? (i := 0) rfl))
  have N2 := Fr.snoc X2 N1 g1
  have Z2 := own_size_wr W2 Z0
  show own_Go _ _ _ _ (T2.setTop (mkF m 42 #[.val (.ref a1), .val (.long q1), .second, .val (.long q2), .second] []))
  refine own_by (fun _ k => XS.aloadN X2.here hx rfl (hb hby d3_42) rfl rfl k) ?_
  show own_Go _ _ _ _ (T2.setTop (mkF m 43 #[.val (.ref a1), .val (.long q1), .second, .val (.long q2), .second] [(.ref a1)]))
  refine own_by (fun _ k => XS.lloadN X2.here hx rfl (hb hby d3_43) rfl k) ?_
  show own_Go _ _ _ _ (T2.setTop (mkF m 44 #[.val (.ref a1), .val (.long q1), .second, .val (.long q2), .second] [(.long q2), (.ref a1)]))
  obtain ⟨T7, h7, X7, e7, W7, st7⟩ := putF X2 hx hZ hown (host := "") (Or.inl (hw _ (List.mem_of_getElem? (i := 23) rfl))) Via.refl e2 f5 f4 (Or.inr ⟨(hw _ (List.mem_of_getElem? (i := 24) rfl)), rfl, hnm⟩) (hw _ (List.mem_of_getElem? (i := 8) rfl)) (ty := .long) (by decide) rfl rfl (g := (mkF m 44 #[.val (.ref a1), .val (.long q1), .second, .val (.long q2), .second] [(.long q2), (.ref a1)])) rfl rfl (hb hby d3_44)
  refine own_by st7 ?_
  have f8 := f5.same W7
  have f9 := f4.wr W7
  have f10 := f3.other W7 (Or.inr (slot_ne (Or.inr (hw _ (List.mem_of_getElem? (i := 22) rfl))) (Or.inr (hw _ (List.mem_of_getElem? (i := 24) rfl))) (by decide) (t := .long) (t' := .long) (by decide) (by decide)))
  have f11 := f6.wr W7 (Or.inl (List.mem_of_getElem? (i := 0) rfl))
  have N7 := Fr.snoc X7 N2 g1
  have Z7 := own_size_wr W7 Z2
  show own_Go _ _ _ _ (T7.setTop (mkF m 47 #[.val (.ref a1), .val (.long q1), .second, .val (.long q2), .second] []))
  exact own_retV X7 hx Bd.notSynchronized e7 Bd.returns (hb hby d3_47) (⟨rfl, N7, f11, f10, f8⟩) (by decide) (by decide)
set_option maxRecDepth 65536 in
set_option maxHeartbeats 40000000 in
theorem rm6 (l : Launch) (Z : State) (a0 : Array Value) (hw : ∀ d ∈ tables_1, d.before a0 Z = true) (ws : List Jvm.Cond) (a1 : Addr) (q1 : Int64) (f1 l1 : Int64) (z1 : Int32) (h0 : Heap) (n0 : Nat) (Z0 : n0 ≤ h0.size) (F1 : Fld Z h0 a1 "com/example/time_for_trials/timefortrials/protocol/Workflow$DayWindow" "first" "J" (.long f1)) (F2 : Fld Z h0 a1 "com/example/time_for_trials/timefortrials/protocol/Workflow$DayWindow" "last" "J" (.long l1)) (hz : own_H f1 l1 q1 = z1) :
    MetFree l (⟨"com/example/time_for_trials/timefortrials/protocol/Workflow$DayWindow", "holds", "(J)Z"⟩ : MethodName) (head1 (Jvm.Cond.code (⟨"com/example/time_for_trials/timefortrials/protocol/Workflow$DayWindow", "holds", "(J)Z"⟩ : MethodName) prog_29_method_2_code 3 (some .boolean) :: ws) ({ frames := 0, cells := 0, slots := 0, locals := 0 } : Room)) (fun a U => a = #[(.ref a1), (.long q1)] ∧ Z.Warmed39 U.vm ∧ U.heap = h0) (fun _ _ _ _ _ => True) (fun _ U o U' => ∃ v L, o = .returned v ∧ own_ap (fun v h L => v = some (.int z1) ∧ Fr n0 L ∧ h = h0) v U'.heap L ∧ FrameEnd U o U' L 0 0) := by
  refine MetFree.of_bodySF (plainFor_of_name pn_6) hisR ?_
  intro p e s m args below meth c s₁ Bd hml0 hP hK
  obtain ⟨rfl, hZ, hh⟩ := hP
  have hx := Bd.exec
  have hby := Bd.bytes
  have hml : c.maxLocals = 3 := hml0
  have hown : s.vm.findClass "com/example/time_for_trials/timefortrials/protocol/Workflow$DayWindow" = some m.cls := findClass_of_methodNamed Bd.named
  have hnm := (name_of_methodNamed Bd.named Bd.method).1
  have X0 : Stand p l e ({ frames := 0, cells := 0, slots := 0, locals := 0 } : Room) s m #[(.ref a1), (.long q1)] below meth c s₁ [] 0 0 := Stand.of_body Bd
  have e0 : s₁.heap = h0 := by rw [← hh, Bd.state]; rfl
  have N0 := Fr.nil n0
  show own_Go p.tables e below (own_Q s (fun v h L => v = some (.int z1) ∧ Fr n0 L ∧ h = h0) 0 0) (s₁.setTop (entryFrame m #[(.ref a1), (.long q1)] 3))
  rw [show entryFrame m #[(.ref a1), (.long q1)] 3 = mkF m 0 #[.val (.ref a1), .val (.long q1), .second] [] from by first | (simp [entryFrame, mkF, argsToLocals, Value.category]; done) | rfl]
  show own_Go _ _ _ _ (s₁.setTop (mkF m 0 #[.val (.ref a1), .val (.long q1), .second] []))
  refine own_by (fun _ k => XS.aloadN X0.here hx rfl (hb hby d6_0) rfl rfl k) ?_
  show own_Go _ _ _ _ (s₁.setTop (mkF m 1 #[.val (.ref a1), .val (.long q1), .second] [(.ref a1)]))
  obtain ⟨T1, X1, e1, st1⟩ := getF X0 hx hZ hown (host := "") (Or.inl (hw _ (List.mem_of_getElem? (i := 21) rfl))) Via.refl e0 F1 (g := (mkF m 1 #[.val (.ref a1), .val (.long q1), .second] [(.ref a1)])) rfl rfl (hb hby d6_1)
  refine own_by st1 ?_
  show own_Go _ _ _ _ (T1.setTop (mkF m 4 #[.val (.ref a1), .val (.long q1), .second] [(.long f1)]))
  refine own_by (fun _ k => XS.lloadN X1.here hx rfl (hb hby d6_4) rfl k) ?_
  show own_Go _ _ _ _ (T1.setTop (mkF m 5 #[.val (.ref a1), .val (.long q1), .second] [(.long q1), (.long f1)]))
  refine own_by (fun _ k => XS.lcmp X1.here hx rfl (hb hby d6_5) rfl k) ?_
  show own_Go _ _ _ _ (T1.setTop (mkF m 6 #[.val (.ref a1), .val (.long q1), .second] [(.int (lcmpW f1 q1))]))
  by_cases hc2 : q1 < f1
  · --
    refine own_by (fun _ k => XS.ifYes X1.here hx rfl (pc0 := 6) (pc' := 22) rfl (hb hby d6_6) rfl ((if0 _ _).trans (tlt ((lw_gt _ _).mpr hc2)).2.2.1) (by decide) (by decide) k) ?_
    show own_Go _ _ _ _ (T1.setTop (mkF m 22 #[.val (.ref a1), .val (.long q1), .second] []))
    refine own_by (fun _ k => XS.iconst X1.here hx rfl (hb hby d6_22) k) ?_
    show own_Go _ _ _ _ (T1.setTop (mkF m 23 #[.val (.ref a1), .val (.long q1), .second] [(.int (0 : Int32))]))
    exact own_retN X1 hx Bd.notSynchronized e1 Bd.returns (by simp) (hb hby d6_23) (⟨by rw [← hz]; simp [nar, own_H, hc2], N0, rfl⟩) (by decide) (by decide)
  · --
    refine own_by (fun _ k => XS.ifNo X1.here hx rfl (hb hby d6_6) rfl ((if0 _ _).trans (flt (mt (lw_gt _ _).mp hc2)).2.2.1) k) ?_
    show own_Go _ _ _ _ (T1.setTop (mkF m 9 #[.val (.ref a1), .val (.long q1), .second] []))
    refine own_by (fun _ k => XS.lloadN X1.here hx rfl (hb hby d6_9) rfl k) ?_
    show own_Go _ _ _ _ (T1.setTop (mkF m 10 #[.val (.ref a1), .val (.long q1), .second] [(.long q1)]))
    refine own_by (fun _ k => XS.aloadN X1.here hx rfl (hb hby d6_10) rfl rfl k) ?_
    show own_Go _ _ _ _ (T1.setTop (mkF m 11 #[.val (.ref a1), .val (.long q1), .second] [(.ref a1), (.long q1)]))
    obtain ⟨T3, X3, e3, st3⟩ := getF X1 hx hZ hown (host := "") (Or.inl (hw _ (List.mem_of_getElem? (i := 23) rfl))) Via.refl e1 F2 (g := (mkF m 11 #[.val (.ref a1), .val (.long q1), .second] [(.ref a1), (.long q1)])) rfl rfl (hb hby d6_11)
    refine own_by st3 ?_
    show own_Go _ _ _ _ (T3.setTop (mkF m 14 #[.val (.ref a1), .val (.long q1), .second] [(.long l1), (.long q1)]))
    refine own_by (fun _ k => XS.lcmp X3.here hx rfl (hb hby d6_14) rfl k) ?_
    show own_Go _ _ _ _ (T3.setTop (mkF m 15 #[.val (.ref a1), .val (.long q1), .second] [(.int (lcmpW q1 l1))]))
    by_cases hc4 : l1 < q1
    · --
      refine own_by (fun _ k => XS.ifYes X3.here hx rfl (pc0 := 15) (pc' := 22) rfl (hb hby d6_15) rfl ((if0 _ _).trans (tlt ((lw_gt _ _).mpr hc4)).2.2.1) (by decide) (by decide) k) ?_
      show own_Go _ _ _ _ (T3.setTop (mkF m 22 #[.val (.ref a1), .val (.long q1), .second] []))
      refine own_by (fun _ k => XS.iconst X3.here hx rfl (hb hby d6_22) k) ?_
      show own_Go _ _ _ _ (T3.setTop (mkF m 23 #[.val (.ref a1), .val (.long q1), .second] [(.int (0 : Int32))]))
      exact own_retN X3 hx Bd.notSynchronized e3 Bd.returns (by simp) (hb hby d6_23) (⟨by rw [← hz]; simp [nar, own_H, hc2, hc4], N0, rfl⟩) (by decide) (by decide)
    · --
      refine own_by (fun _ k => XS.ifNo X3.here hx rfl (hb hby d6_15) rfl ((if0 _ _).trans (flt (mt (lw_gt _ _).mp hc4)).2.2.1) k) ?_
      show own_Go _ _ _ _ (T3.setTop (mkF m 18 #[.val (.ref a1), .val (.long q1), .second] []))
      refine own_by (fun _ k => XS.iconst X3.here hx rfl (hb hby d6_18) k) ?_
      show own_Go _ _ _ _ (T3.setTop (mkF m 19 #[.val (.ref a1), .val (.long q1), .second] [(.int (1 : Int32))]))
      refine own_by (fun _ k => XS.goto X3.here hx rfl (pc0 := 19) (pc' := 23) rfl (hb hby d6_19) (by decide) (by decide) k) ?_
      show own_Go _ _ _ _ (T3.setTop (mkF m 23 #[.val (.ref a1), .val (.long q1), .second] [(.int (1 : Int32))]))
      exact own_retN X3 hx Bd.notSynchronized e3 Bd.returns (by simp) (hb hby d6_23) (⟨by rw [← hz]; simp [nar, own_H, hc2, hc4], N0, rfl⟩) (by decide) (by decide)
set_option maxRecDepth 65536 in
set_option maxHeartbeats 40000000 in
theorem rm0 (l : Launch) (Z : State) (a0 : Array Value) (hw : ∀ d ∈ tables_1, d.before a0 Z = true) (ws : List Jvm.Cond) (q1 : Int64) (q2 : Int64) (q3 : Int64)  (h0 : Heap) (n0 : Nat) (Z0 : n0 ≤ h0.size) :
    MetFree l x (head1 (Jvm.Cond.code x code maxLocals ret :: ws) room_1) (fun a U => a = #[(.long q1), (.long q2), (.long q3)] ∧ Z.Warmed39 U.vm ∧ U.heap = h0) (fun _ _ _ _ _ => True) (fun _ U o U' => ∃ v L, o = .returned v ∧ own_ap (fun v h L => v = some (.int 1) ∧ Fr n0 L) v U'.heap L ∧ FrameEnd U o U' L 16 128) := by
  refine MetFree.of_bodySF (plainFor_of_name pn_0) hisR ?_
  intro p e s m args below meth c s₁ Bd hml0 hP hK
  obtain ⟨rfl, hZ, hh⟩ := hP
  have hx := Bd.exec
  have hby := Bd.bytes
  have hml : c.maxLocals = 15 := hml0
  have hown : s.vm.findClass "com/example/time_for_trials/timefortrials/protocol/DayWindowHoldsPinLaw" = some m.cls := findClass_of_methodNamed Bd.named
  have hnm := (name_of_methodNamed Bd.named Bd.method).1
  have X0 : Stand p l e room_1 s m #[(.long q1), (.long q2), (.long q3)] below meth c s₁ [] 0 0 := Stand.of_body Bd
  have e0 : s₁.heap = h0 := by rw [← hh, Bd.state]; rfl
  have N0 := Fr.nil n0
  show own_Go p.tables e below (own_Q s (fun v h L => v = some (.int 1) ∧ Fr n0 L) 16 128) (s₁.setTop (entryFrame m #[(.long q1), (.long q2), (.long q3)] maxLocals))
  rw [show entryFrame m #[(.long q1), (.long q2), (.long q3)] maxLocals = mkF m 0 #[.val (.long q1), .second, .val (.long q2), .second, .val (.long q3), .second, .unset, .unset, .unset, .unset, .unset, .unset, .unset, .unset, .unset] [] from by first | (simp [entryFrame, mkF, argsToLocals, Value.category, maxLocals]; done) | rfl]
  show own_Go _ _ _ _ (s₁.setTop (mkF m 0 #[.val (.long q1), .second, .val (.long q2), .second, .val (.long q3), .second, .unset, .unset, .unset, .unset, .unset, .unset, .unset, .unset, .unset] []))
  refine own_by (fun _ k => XS.lloadN X0.here hx rfl (hb hby at_0) rfl k) ?_
  show own_Go _ _ _ _ (s₁.setTop (mkF m 1 #[.val (.long q1), .second, .val (.long q2), .second, .val (.long q3), .second, .unset, .unset, .unset, .unset, .unset, .unset, .unset, .unset, .unset] [(.long q1)]))
  refine own_by (fun _ k => XS.lloadN X0.here hx rfl (hb hby at_1) rfl k) ?_
  show own_Go _ _ _ _ (s₁.setTop (mkF m 2 #[.val (.long q1), .second, .val (.long q2), .second, .val (.long q3), .second, .unset, .unset, .unset, .unset, .unset, .unset, .unset, .unset, .unset] [(.long q2), (.long q1)]))
  obtain ⟨_, _, ⟨T1, L1, k1, n1⟩, -, X1, ⟨Lc1, hQ1, l1, y1, z1⟩, st1⟩ := Jvm.LawKit.callS X0 hx (y := (⟨"java/lang/Math", "min", "(JJ)J"⟩ : MethodName)) hown (mvT hZ (hw _ (List.mem_of_getElem? (i := 0) rfl))) (mvT hZ (hw _ (List.mem_of_getElem? (i := 1) rfl))) (mvT hZ (hw _ (List.mem_of_getElem? (i := 2) rfl))) (mvT hZ (hw _ (List.mem_of_getElem? (i := 3) rfl))) (by decide) (backOf (W := 0) (rm1 l Z a0 hw [] q1 q2 h0 n0 Z0) hZ (hw _ (List.mem_of_getElem? (i := 3) rfl)) (hw _ (List.mem_of_getElem? (i := 2) rfl)) (by decide) (by decide)) (g := (mkF m 2 #[.val (.long q1), .second, .val (.long q2), .second, .val (.long q3), .second, .unset, .unset, .unset, .unset, .unset, .unset, .unset, .unset, .unset] [(.long q2), (.long q1)])) rfl (by rw [hml]; rfl) (argsL := [(.long q1), (.long q2)]) (rest := []) (lenOf own_pd0 rfl) rfl (by show 2 * 0 + _ ≤ _; exact Nat.le_of_eq rfl) (hb hby at_2) (fun _ _ => ⟨rfl, e0, Nat.le_of_ble_eq_true rfl, Nat.le_of_ble_eq_true rfl⟩)
  dsimp only [Pt.U, Pt.locs, Pt.cells, Pt.slots] at X1 l1 y1 z1 st1 hQ1
  subst l1 y1 z1
  obtain ⟨rfl, N1q, e1⟩ := hQ1
  have N1 := Fr.app N0 N1q
  refine own_by st1 ?_
  show own_Go _ _ _ _ (T1.setTop (mkF m 5 #[.val (.long q1), .second, .val (.long q2), .second, .val (.long q3), .second, .unset, .unset, .unset, .unset, .unset, .unset, .unset, .unset, .unset] [(.long (if q2 < q1 then q2 else q1))]))
  obtain ⟨v6_2, hv6_2⟩ : ∃ z_ : Int64, (if q2 < q1 then q2 else q1) = z_ := ⟨_, rfl⟩
  refine own_gen hv6_2 (fun z_ => T1.setTop (mkF m 5 #[.val (.long q1), .second, .val (.long q2), .second, .val (.long q3), .second, .unset, .unset, .unset, .unset, .unset, .unset, .unset, .unset, .unset] [(.long z_)])) ?_
  refine own_by (fun _ k => XS.lstore X1.here hx rfl (hb hby at_5) rfl (l' := #[.val (.long q1), .second, .val (.long q2), .second, .val (.long q3), .second, .val (.long v6_2), .second, .unset, .unset, .unset, .unset, .unset, .unset, .unset]) rfl k) ?_
  show own_Go _ _ _ _ (T1.setTop (mkF m 7 #[.val (.long q1), .second, .val (.long q2), .second, .val (.long q3), .second, .val (.long v6_2), .second, .unset, .unset, .unset, .unset, .unset, .unset, .unset] []))
  refine own_by (fun _ k => XS.lloadN X1.here hx rfl (hb hby at_7) rfl k) ?_
  show own_Go _ _ _ _ (T1.setTop (mkF m 8 #[.val (.long q1), .second, .val (.long q2), .second, .val (.long q3), .second, .val (.long v6_2), .second, .unset, .unset, .unset, .unset, .unset, .unset, .unset] [(.long q1)]))
  refine own_by (fun _ k => XS.lloadN X1.here hx rfl (hb hby at_8) rfl k) ?_
  show own_Go _ _ _ _ (T1.setTop (mkF m 9 #[.val (.long q1), .second, .val (.long q2), .second, .val (.long q3), .second, .val (.long v6_2), .second, .unset, .unset, .unset, .unset, .unset, .unset, .unset] [(.long q2), (.long q1)]))
  obtain ⟨_, _, ⟨T3, L3, k3, n3⟩, -, X3, ⟨Lc3, hQ3, l3, y3, z3⟩, st3⟩ := Jvm.LawKit.callS X1 hx (y := (⟨"java/lang/Math", "max", "(JJ)J"⟩ : MethodName)) hown (mvT hZ (hw _ (List.mem_of_getElem? (i := 4) rfl))) (mvT hZ (hw _ (List.mem_of_getElem? (i := 5) rfl))) (mvT hZ (hw _ (List.mem_of_getElem? (i := 2) rfl))) (mvT hZ (hw _ (List.mem_of_getElem? (i := 6) rfl))) (by decide) (backOf (W := 0) (rm2 l Z a0 hw [] q1 q2 h0 n0 Z0) hZ (hw _ (List.mem_of_getElem? (i := 6) rfl)) (hw _ (List.mem_of_getElem? (i := 2) rfl)) (by decide) (by decide)) (g := (mkF m 9 #[.val (.long q1), .second, .val (.long q2), .second, .val (.long q3), .second, .val (.long v6_2), .second, .unset, .unset, .unset, .unset, .unset, .unset, .unset] [(.long q2), (.long q1)])) rfl (by rw [hml]; rfl) (argsL := [(.long q1), (.long q2)]) (rest := []) (lenOf own_pd0 rfl) rfl (by show 2 * 0 + _ ≤ _; exact Nat.le_of_eq rfl) (hb hby at_9) (fun _ _ => ⟨rfl, e1, Nat.le_of_ble_eq_true rfl, Nat.le_of_ble_eq_true rfl⟩)
  dsimp only [Pt.U, Pt.locs, Pt.cells, Pt.slots] at X3 l3 y3 z3 st3 hQ3
  subst l3 y3 z3
  obtain ⟨rfl, N3q, e3⟩ := hQ3
  have N3 := Fr.app N1 N3q
  refine own_by st3 ?_
  show own_Go _ _ _ _ (T3.setTop (mkF m 12 #[.val (.long q1), .second, .val (.long q2), .second, .val (.long q3), .second, .val (.long v6_2), .second, .unset, .unset, .unset, .unset, .unset, .unset, .unset] [(.long (if q1 < q2 then q2 else q1))]))
  obtain ⟨v8_4, hv8_4⟩ : ∃ z_ : Int64, (if q1 < q2 then q2 else q1) = z_ := ⟨_, rfl⟩
  refine own_gen hv8_4 (fun z_ => T3.setTop (mkF m 12 #[.val (.long q1), .second, .val (.long q2), .second, .val (.long q3), .second, .val (.long v6_2), .second, .unset, .unset, .unset, .unset, .unset, .unset, .unset] [(.long z_)])) ?_
  refine own_by (fun _ k => XS.lstore X3.here hx rfl (hb hby at_12) rfl (l' := #[.val (.long q1), .second, .val (.long q2), .second, .val (.long q3), .second, .val (.long v6_2), .second, .val (.long v8_4), .second, .unset, .unset, .unset, .unset, .unset]) rfl k) ?_
  show own_Go _ _ _ _ (T3.setTop (mkF m 14 #[.val (.long q1), .second, .val (.long q2), .second, .val (.long q3), .second, .val (.long v6_2), .second, .val (.long v8_4), .second, .unset, .unset, .unset, .unset, .unset] []))
  refine own_by (fun _ k => XS.lload X3.here hx rfl (hb hby at_14) rfl k) ?_
  show own_Go _ _ _ _ (T3.setTop (mkF m 16 #[.val (.long q1), .second, .val (.long q2), .second, .val (.long q3), .second, .val (.long v6_2), .second, .val (.long v8_4), .second, .unset, .unset, .unset, .unset, .unset] [(.long v6_2)]))
  refine own_by (fun _ k => XS.lconst X3.here hx rfl (hb hby at_16) k) ?_
  show own_Go _ _ _ _ (T3.setTop (mkF m 17 #[.val (.long q1), .second, .val (.long q2), .second, .val (.long q3), .second, .val (.long v6_2), .second, .val (.long v8_4), .second, .unset, .unset, .unset, .unset, .unset] [(.long (0 : Int64)), (.long v6_2)]))
  refine own_by (fun _ k => XS.lcmp X3.here hx rfl (hb hby at_17) rfl k) ?_
  show own_Go _ _ _ _ (T3.setTop (mkF m 18 #[.val (.long q1), .second, .val (.long q2), .second, .val (.long q3), .second, .val (.long v6_2), .second, .val (.long v8_4), .second, .unset, .unset, .unset, .unset, .unset] [(.int (lcmpW v6_2 (0 : Int64)))]))
  by_cases hc5 : v6_2 = (0 : Int64)
  · --
    refine own_by (fun _ k => XS.ifYes X3.here hx rfl (pc0 := 18) (pc' := 28) rfl (hb hby at_18) rfl ((if0 _ _).trans (teq ((lw_eq _ _).mpr hc5)).1) (by decide) (by decide) k) ?_
    show own_Go _ _ _ _ (T3.setTop (mkF m 28 #[.val (.long q1), .second, .val (.long q2), .second, .val (.long q3), .second, .val (.long v6_2), .second, .val (.long v8_4), .second, .unset, .unset, .unset, .unset, .unset] []))
    refine own_by (fun _ k => XS.iconst X3.here hx rfl (hb hby at_28) k) ?_
    show own_Go _ _ _ _ (T3.setTop (mkF m 29 #[.val (.long q1), .second, .val (.long q2), .second, .val (.long q3), .second, .val (.long v6_2), .second, .val (.long v8_4), .second, .unset, .unset, .unset, .unset, .unset] [(.int (1 : Int32))]))
    exact own_retN X3 hx Bd.notSynchronized e3 Bd.returns (by simp) (hb hby at_29) (⟨rfl, N3⟩) (by decide) (by decide)
  · --
    refine own_by (fun _ k => XS.ifNo X3.here hx rfl (hb hby at_18) rfl ((if0 _ _).trans (feq (mt (lw_eq _ _).mp hc5)).1) k) ?_
    show own_Go _ _ _ _ (T3.setTop (mkF m 21 #[.val (.long q1), .second, .val (.long q2), .second, .val (.long q3), .second, .val (.long v6_2), .second, .val (.long v8_4), .second, .unset, .unset, .unset, .unset, .unset] []))
    refine own_by (fun _ k => XS.lload X3.here hx rfl (hb hby at_21) rfl k) ?_
    show own_Go _ _ _ _ (T3.setTop (mkF m 23 #[.val (.long q1), .second, .val (.long q2), .second, .val (.long q3), .second, .val (.long v6_2), .second, .val (.long v8_4), .second, .unset, .unset, .unset, .unset, .unset] [(.long v8_4)]))
    refine own_by (fun _ k => XS.lconst X3.here hx rfl (hb hby at_23) k) ?_
    show own_Go _ _ _ _ (T3.setTop (mkF m 24 #[.val (.long q1), .second, .val (.long q2), .second, .val (.long q3), .second, .val (.long v6_2), .second, .val (.long v8_4), .second, .unset, .unset, .unset, .unset, .unset] [(.long (0 : Int64)), (.long v8_4)]))
    refine own_by (fun _ k => XS.lcmp X3.here hx rfl (hb hby at_24) rfl k) ?_
    show own_Go _ _ _ _ (T3.setTop (mkF m 25 #[.val (.long q1), .second, .val (.long q2), .second, .val (.long q3), .second, .val (.long v6_2), .second, .val (.long v8_4), .second, .unset, .unset, .unset, .unset, .unset] [(.int (lcmpW v8_4 (0 : Int64)))]))
    by_cases hc6 : v8_4 = (0 : Int64)
    · --
      refine own_by (fun _ k => XS.ifNo X3.here hx rfl (hb hby at_25) rfl ((if0 _ _).trans (teq ((lw_eq _ _).mpr hc6)).2) k) ?_
      show own_Go _ _ _ _ (T3.setTop (mkF m 28 #[.val (.long q1), .second, .val (.long q2), .second, .val (.long q3), .second, .val (.long v6_2), .second, .val (.long v8_4), .second, .unset, .unset, .unset, .unset, .unset] []))
      refine own_by (fun _ k => XS.iconst X3.here hx rfl (hb hby at_28) k) ?_
      show own_Go _ _ _ _ (T3.setTop (mkF m 29 #[.val (.long q1), .second, .val (.long q2), .second, .val (.long q3), .second, .val (.long v6_2), .second, .val (.long v8_4), .second, .unset, .unset, .unset, .unset, .unset] [(.int (1 : Int32))]))
      exact own_retN X3 hx Bd.notSynchronized e3 Bd.returns (by simp) (hb hby at_29) (⟨rfl, N3⟩) (by decide) (by decide)
    · --
      refine own_by (fun _ k => XS.ifYes X3.here hx rfl (pc0 := 25) (pc' := 30) rfl (hb hby at_25) rfl ((if0 _ _).trans (feq (mt (lw_eq _ _).mp hc6)).2) (by decide) (by decide) k) ?_
      show own_Go _ _ _ _ (T3.setTop (mkF m 30 #[.val (.long q1), .second, .val (.long q2), .second, .val (.long q3), .second, .val (.long v6_2), .second, .val (.long v8_4), .second, .unset, .unset, .unset, .unset, .unset] []))
      obtain ⟨T7, h7, X7, e7, E7, A7, D7, -, st7⟩ := newO X3 hx hZ hown (hw _ (List.mem_of_getElem? (i := 7) rfl)) (hw _ (List.mem_of_getElem? (i := 8) rfl)) (hw _ (List.mem_of_getElem? (i := 9) rfl)) e3 (g := (mkF m 30 #[.val (.long q1), .second, .val (.long q2), .second, .val (.long q3), .second, .val (.long v6_2), .second, .val (.long v8_4), .second, .unset, .unset, .unset, .unset, .unset] [])) rfl (hb hby at_30) (by decide) (by decide)
      refine own_by st7 ?_
      show own_Go _ _ _ _ (T7.setTop (mkF m 33 #[.val (.long q1), .second, .val (.long q2), .second, .val (.long q3), .second, .val (.long v6_2), .second, .val (.long v8_4), .second, .unset, .unset, .unset, .unset, .unset] [.ref h0.size]))
      obtain ⟨b7, g7⟩ : ∃ z, z = h0.size := ⟨_, rfl⟩
      rw [← g7] at A7 D7
      refine own_gen g7.symm (fun z_ => T7.setTop (mkF m 33 #[.val (.long q1), .second, .val (.long q2), .second, .val (.long q3), .second, .val (.long v6_2), .second, .val (.long v8_4), .second, .unset, .unset, .unset, .unset, .unset] [.ref z_])) ?_
      have ge7 : n0 ≤ b7 := Nat.le_trans Z0 (Nat.le_of_eq g7.symm)
      have Z7 := Nat.le_trans Z0 E7.1
      have f8 : Fld Z h7 b7 "com/example/time_for_trials/timefortrials/protocol/Workflow$DayWindow" "first" "J" (.long (0 : Int64)) := D7 (Or.inr (hw _ (List.mem_of_getElem? (i := 22) rfl))) (ty := .long) (by decide)
      have f9 : Fld Z h7 b7 "com/example/time_for_trials/timefortrials/protocol/Workflow$DayWindow" "last" "J" (.long (0 : Int64)) := D7 (Or.inr (hw _ (List.mem_of_getElem? (i := 24) rfl))) (ty := .long) (by decide)
      show own_Go _ _ _ _ (T7.setTop (mkF m 33 #[.val (.long q1), .second, .val (.long q2), .second, .val (.long q3), .second, .val (.long v6_2), .second, .val (.long v8_4), .second, .unset, .unset, .unset, .unset, .unset] [(.ref b7)]))
      refine own_by (fun _ k => XS.dup X7.here hx rfl (hb hby at_33) rfl rfl k) ?_
      show own_Go _ _ _ _ (T7.setTop (mkF m 34 #[.val (.long q1), .second, .val (.long q2), .second, .val (.long q3), .second, .val (.long v6_2), .second, .val (.long v8_4), .second, .unset, .unset, .unset, .unset, .unset] [(.ref b7), (.ref b7)]))
      refine own_by (fun _ k => XS.lload X7.here hx rfl (hb hby at_34) rfl k) ?_
      show own_Go _ _ _ _ (T7.setTop (mkF m 36 #[.val (.long q1), .second, .val (.long q2), .second, .val (.long q3), .second, .val (.long v6_2), .second, .val (.long v8_4), .second, .unset, .unset, .unset, .unset, .unset] [(.long v6_2), (.ref b7), (.ref b7)]))
      refine own_by (fun _ k => XS.lload X7.here hx rfl (hb hby at_36) rfl k) ?_
      show own_Go _ _ _ _ (T7.setTop (mkF m 38 #[.val (.long q1), .second, .val (.long q2), .second, .val (.long q3), .second, .val (.long v6_2), .second, .val (.long v8_4), .second, .unset, .unset, .unset, .unset, .unset] [(.long v8_4), (.long v6_2), (.ref b7), (.ref b7)]))
      obtain ⟨_, _, ⟨T10, L10, k10, n10⟩, -, X10, ⟨Lc10, hQ10, l10, y10, z10⟩, st10⟩ := X7.specialBack hx (y := (⟨"com/example/time_for_trials/timefortrials/protocol/Workflow$DayWindow", "<init>", "(JJ)V"⟩ : MethodName)) rfl hown (mvT hZ (hw _ (List.mem_of_getElem? (i := 10) rfl))) (mvT hZ (hw _ (List.mem_of_getElem? (i := 11) rfl))) (mvT hZ (hw _ (List.mem_of_getElem? (i := 12) rfl))) (by decide) (backOf (W := 1) (rm3 l Z a0 hw [] b7 v6_2 v8_4 h7 n0 Z7 A7 f8 f9 ge7 hc5 hc6 (own_fl q1 q2 v6_2 v8_4 hv6_2 hv8_4)) hZ (hw _ (List.mem_of_getElem? (i := 12) rfl)) (hw _ (List.mem_of_getElem? (i := 9) rfl)) (by decide) (by decide)) (g := (mkF m 38 #[.val (.long q1), .second, .val (.long q2), .second, .val (.long q3), .second, .val (.long v6_2), .second, .val (.long v8_4), .second, .unset, .unset, .unset, .unset, .unset] [(.long v8_4), (.long v6_2), (.ref b7), (.ref b7)])) rfl (by rw [hml]; rfl) (Steps.refl _) (a := b7) (argsL := [(.long v6_2), (.long v8_4)]) (rest := [(.ref b7)]) (lenOf own_pd1 rfl) rfl (by show 2 * 0 + _ ≤ _; exact Nat.le_of_eq rfl) (hb hby at_38) (fun _ _ => ⟨rfl, e7, Nat.le_of_ble_eq_true rfl, Nat.le_of_ble_eq_true rfl⟩)
      dsimp only [Pt.U, Pt.locs, Pt.cells, Pt.slots] at X10 l10 y10 z10 st10 hQ10
      subst l10 y10 z10
      obtain ⟨h10, e10⟩ : ∃ h, T10.heap = h := ⟨_, rfl⟩
      rw [e10] at hQ10
      obtain ⟨rfl, N10q, K10, F10a, F10b⟩ := hQ10
      have N10 := Fr.app N3 N10q
      refine own_tr st10 ?_
      have f11 := A7.keep K10
      have Z10 := Nat.le_trans Z7 K10.1
      show own_Go _ _ _ _ (T10.setTop (mkF m 41 #[.val (.long q1), .second, .val (.long q2), .second, .val (.long q3), .second, .val (.long v6_2), .second, .val (.long v8_4), .second, .unset, .unset, .unset, .unset, .unset] [(.ref b7)]))
      refine own_by (fun _ k => XS.astore X10.here hx rfl (hb hby at_41) rfl rfl (l' := #[.val (.long q1), .second, .val (.long q2), .second, .val (.long q3), .second, .val (.long v6_2), .second, .val (.long v8_4), .second, .val (.ref b7), .unset, .unset, .unset, .unset]) rfl k) ?_
      show own_Go _ _ _ _ (T10.setTop (mkF m 43 #[.val (.long q1), .second, .val (.long q2), .second, .val (.long q3), .second, .val (.long v6_2), .second, .val (.long v8_4), .second, .val (.ref b7), .unset, .unset, .unset, .unset] []))
      refine own_by (fun _ k => XS.aload X10.here hx rfl (hb hby at_43) rfl rfl k) ?_
      show own_Go _ _ _ _ (T10.setTop (mkF m 45 #[.val (.long q1), .second, .val (.long q2), .second, .val (.long q3), .second, .val (.long v6_2), .second, .val (.long v8_4), .second, .val (.ref b7), .unset, .unset, .unset, .unset] [(.ref b7)]))
      refine own_by (fun _ k => XS.lload X10.here hx rfl (hb hby at_45) rfl k) ?_
      show own_Go _ _ _ _ (T10.setTop (mkF m 47 #[.val (.long q1), .second, .val (.long q2), .second, .val (.long q3), .second, .val (.long v6_2), .second, .val (.long v8_4), .second, .val (.ref b7), .unset, .unset, .unset, .unset] [(.long v6_2), (.ref b7)]))
      obtain ⟨cq14, kq14, q14a, q14b, q14c⟩ := isOf hZ e10 f11
      obtain ⟨_, _, ⟨T14, L14, k14, n14⟩, -, X14, ⟨Lc14, hQ14, l14, y14, z14⟩, st14⟩ := X10.virtualBack hx (y := (⟨"com/example/time_for_trials/timefortrials/protocol/Workflow$DayWindow", "holds", "(J)Z"⟩ : MethodName)) (z := (⟨"com/example/time_for_trials/timefortrials/protocol/Workflow$DayWindow", "holds", "(J)Z"⟩ : MethodName)) hown (mvT hZ (hw _ (List.mem_of_getElem? (i := 25) rfl))) (mvT hZ (hw _ (List.mem_of_getElem? (i := 26) rfl))) (notFace_of_selects (args := #[]) (mvT hZ (hw _ (List.mem_of_getElem? (i := 28) rfl)))) (mvT hZ (hw _ (List.mem_of_getElem? (i := 28) rfl))) (mvT hZ (hw _ (List.mem_of_getElem? (i := 27) rfl))) (by decide) (backOf (W := 0) (rm6 l Z a0 hw [] b7 v6_2 v6_2 v8_4 (1 : Int32) h10 n0 Z10 F10a F10b (own_h1 v6_2 v8_4 (own_fl q1 q2 v6_2 v8_4 hv6_2 hv8_4))) hZ (hw _ (List.mem_of_getElem? (i := 29) rfl)) (hw _ (List.mem_of_getElem? (i := 9) rfl)) (by decide) (by decide)) q14a q14c (g := (mkF m 47 #[.val (.long q1), .second, .val (.long q2), .second, .val (.long q3), .second, .val (.long v6_2), .second, .val (.long v8_4), .second, .val (.ref b7), .unset, .unset, .unset, .unset] [(.long v6_2), (.ref b7)])) rfl (by rw [hml]; rfl) (Steps.refl _) (argsL := [(.long v6_2)]) (rest := []) (lenOf own_pd3 rfl) rfl (by show 2 * 0 + _ ≤ _; exact Nat.le_of_eq rfl) (hb hby at_47) (fun _ _ => ⟨rfl, e10, Nat.le_of_ble_eq_true rfl, Nat.le_of_ble_eq_true rfl⟩)
      dsimp only [Pt.U, Pt.locs, Pt.cells, Pt.slots] at X14 l14 y14 z14 st14 hQ14
      subst l14 y14 z14
      obtain ⟨rfl, N14q, e14⟩ := hQ14
      have N14 := Fr.app N10 N14q
      refine own_tr st14 ?_
      show own_Go _ _ _ _ (T14.setTop (mkF m 50 #[.val (.long q1), .second, .val (.long q2), .second, .val (.long q3), .second, .val (.long v6_2), .second, .val (.long v8_4), .second, .val (.ref b7), .unset, .unset, .unset, .unset] [(.int (1 : Int32))]))
      refine own_by (fun _ k => XS.ifNo X14.here hx rfl (hb hby at_50) rfl ((if0 _ _).trans (feq (by decide)).1) k) ?_
      show own_Go _ _ _ _ (T14.setTop (mkF m 53 #[.val (.long q1), .second, .val (.long q2), .second, .val (.long q3), .second, .val (.long v6_2), .second, .val (.long v8_4), .second, .val (.ref b7), .unset, .unset, .unset, .unset] []))
      refine own_by (fun _ k => XS.aload X14.here hx rfl (hb hby at_53) rfl rfl k) ?_
      show own_Go _ _ _ _ (T14.setTop (mkF m 55 #[.val (.long q1), .second, .val (.long q2), .second, .val (.long q3), .second, .val (.long v6_2), .second, .val (.long v8_4), .second, .val (.ref b7), .unset, .unset, .unset, .unset] [(.ref b7)]))
      refine own_by (fun _ k => XS.lload X14.here hx rfl (hb hby at_55) rfl k) ?_
      show own_Go _ _ _ _ (T14.setTop (mkF m 57 #[.val (.long q1), .second, .val (.long q2), .second, .val (.long q3), .second, .val (.long v6_2), .second, .val (.long v8_4), .second, .val (.ref b7), .unset, .unset, .unset, .unset] [(.long v8_4), (.ref b7)]))
      obtain ⟨cq15, kq15, q15a, q15b, q15c⟩ := isOf hZ e14 f11
      obtain ⟨_, _, ⟨T15, L15, k15, n15⟩, -, X15, ⟨Lc15, hQ15, l15, y15, z15⟩, st15⟩ := X14.virtualBack hx (y := (⟨"com/example/time_for_trials/timefortrials/protocol/Workflow$DayWindow", "holds", "(J)Z"⟩ : MethodName)) (z := (⟨"com/example/time_for_trials/timefortrials/protocol/Workflow$DayWindow", "holds", "(J)Z"⟩ : MethodName)) hown (mvT hZ (hw _ (List.mem_of_getElem? (i := 25) rfl))) (mvT hZ (hw _ (List.mem_of_getElem? (i := 26) rfl))) (notFace_of_selects (args := #[]) (mvT hZ (hw _ (List.mem_of_getElem? (i := 28) rfl)))) (mvT hZ (hw _ (List.mem_of_getElem? (i := 28) rfl))) (mvT hZ (hw _ (List.mem_of_getElem? (i := 27) rfl))) (by decide) (backOf (W := 0) (rm6 l Z a0 hw [] b7 v8_4 v6_2 v8_4 (1 : Int32) h10 n0 Z10 F10a F10b (own_h2 v6_2 v8_4 (own_fl q1 q2 v6_2 v8_4 hv6_2 hv8_4))) hZ (hw _ (List.mem_of_getElem? (i := 29) rfl)) (hw _ (List.mem_of_getElem? (i := 9) rfl)) (by decide) (by decide)) q15a q15c (g := (mkF m 57 #[.val (.long q1), .second, .val (.long q2), .second, .val (.long q3), .second, .val (.long v6_2), .second, .val (.long v8_4), .second, .val (.ref b7), .unset, .unset, .unset, .unset] [(.long v8_4), (.ref b7)])) rfl (by rw [hml]; rfl) (Steps.refl _) (argsL := [(.long v8_4)]) (rest := []) (lenOf own_pd3 rfl) rfl (by show 2 * 0 + _ ≤ _; exact Nat.le_of_eq rfl) (hb hby at_57) (fun _ _ => ⟨rfl, e14, Nat.le_of_ble_eq_true rfl, Nat.le_of_ble_eq_true rfl⟩)
      dsimp only [Pt.U, Pt.locs, Pt.cells, Pt.slots] at X15 l15 y15 z15 st15 hQ15
      subst l15 y15 z15
      obtain ⟨rfl, N15q, e15⟩ := hQ15
      have N15 := Fr.app N14 N15q
      refine own_tr st15 ?_
      show own_Go _ _ _ _ (T15.setTop (mkF m 60 #[.val (.long q1), .second, .val (.long q2), .second, .val (.long q3), .second, .val (.long v6_2), .second, .val (.long v8_4), .second, .val (.ref b7), .unset, .unset, .unset, .unset] [(.int (1 : Int32))]))
      refine own_by (fun _ k => XS.ifNo X15.here hx rfl (hb hby at_60) rfl ((if0 _ _).trans (feq (by decide)).1) k) ?_
      show own_Go _ _ _ _ (T15.setTop (mkF m 63 #[.val (.long q1), .second, .val (.long q2), .second, .val (.long q3), .second, .val (.long v6_2), .second, .val (.long v8_4), .second, .val (.ref b7), .unset, .unset, .unset, .unset] []))
      refine own_by (fun _ k => XS.iconst X15.here hx rfl (hb hby at_63) k) ?_
      show own_Go _ _ _ _ (T15.setTop (mkF m 64 #[.val (.long q1), .second, .val (.long q2), .second, .val (.long q3), .second, .val (.long v6_2), .second, .val (.long v8_4), .second, .val (.ref b7), .unset, .unset, .unset, .unset] [(.int (1 : Int32))]))
      refine own_by (fun _ k => XS.goto X15.here hx rfl (pc0 := 64) (pc' := 68) rfl (hb hby at_64) (by decide) (by decide) k) ?_
      show own_Go _ _ _ _ (T15.setTop (mkF m 68 #[.val (.long q1), .second, .val (.long q2), .second, .val (.long q3), .second, .val (.long v6_2), .second, .val (.long v8_4), .second, .val (.ref b7), .unset, .unset, .unset, .unset] [(.int (1 : Int32))]))
      refine own_by (fun _ k => XS.istore X15.here hx rfl (hb hby at_68) rfl (l' := #[.val (.long q1), .second, .val (.long q2), .second, .val (.long q3), .second, .val (.long v6_2), .second, .val (.long v8_4), .second, .val (.ref b7), .val (.int (1 : Int32)), .unset, .unset, .unset]) rfl k) ?_
      show own_Go _ _ _ _ (T15.setTop (mkF m 70 #[.val (.long q1), .second, .val (.long q2), .second, .val (.long q3), .second, .val (.long v6_2), .second, .val (.long v8_4), .second, .val (.ref b7), .val (.int (1 : Int32)), .unset, .unset, .unset] []))
      refine own_by (fun _ k => XS.lload X15.here hx rfl (hb hby at_70) rfl k) ?_
      show own_Go _ _ _ _ (T15.setTop (mkF m 72 #[.val (.long q1), .second, .val (.long q2), .second, .val (.long q3), .second, .val (.long v6_2), .second, .val (.long v8_4), .second, .val (.ref b7), .val (.int (1 : Int32)), .unset, .unset, .unset] [(.long v6_2)]))
      refine own_by (fun _ k => X15.ldc2Long hx hown (mvT hZ (hw _ (List.mem_of_getElem? (i := 30) rfl))) (g := (mkF m 72 #[.val (.long q1), .second, .val (.long q2), .second, .val (.long q3), .second, .val (.long v6_2), .second, .val (.long v8_4), .second, .val (.ref b7), .val (.int (1 : Int32)), .unset, .unset, .unset] [(.long v6_2)])) rfl (hb hby at_72) _ k) ?_
      show own_Go _ _ _ _ (T15.setTop (mkF m 75 #[.val (.long q1), .second, .val (.long q2), .second, .val (.long q3), .second, .val (.long v6_2), .second, .val (.long v8_4), .second, .val (.ref b7), .val (.int (1 : Int32)), .unset, .unset, .unset] [(.long (-9223372036854775808 : Int64)), (.long v6_2)]))
      refine own_by (fun _ k => XS.lcmp X15.here hx rfl (hb hby at_75) rfl k) ?_
      show own_Go _ _ _ _ (T15.setTop (mkF m 76 #[.val (.long q1), .second, .val (.long q2), .second, .val (.long q3), .second, .val (.long v6_2), .second, .val (.long v8_4), .second, .val (.ref b7), .val (.int (1 : Int32)), .unset, .unset, .unset] [(.int (lcmpW v6_2 (-9223372036854775808 : Int64)))]))
      by_cases hc16 : v6_2 = (-9223372036854775808 : Int64)
      · --
        refine own_by (fun _ k => XS.ifYes X15.here hx rfl (pc0 := 76) (pc' := 103) rfl (hb hby at_76) rfl ((if0 _ _).trans (teq ((lw_eq _ _).mpr hc16)).1) (by decide) (by decide) k) ?_
        show own_Go _ _ _ _ (T15.setTop (mkF m 103 #[.val (.long q1), .second, .val (.long q2), .second, .val (.long q3), .second, .val (.long v6_2), .second, .val (.long v8_4), .second, .val (.ref b7), .val (.int (1 : Int32)), .unset, .unset, .unset] []))
        refine own_by (fun _ k => XS.lload X15.here hx rfl (hb hby at_103) rfl k) ?_
        show own_Go _ _ _ _ (T15.setTop (mkF m 105 #[.val (.long q1), .second, .val (.long q2), .second, .val (.long q3), .second, .val (.long v6_2), .second, .val (.long v8_4), .second, .val (.ref b7), .val (.int (1 : Int32)), .unset, .unset, .unset] [(.long v8_4)]))
        refine own_by (fun _ k => X15.ldc2Long hx hown (mvT hZ (hw _ (List.mem_of_getElem? (i := 31) rfl))) (g := (mkF m 105 #[.val (.long q1), .second, .val (.long q2), .second, .val (.long q3), .second, .val (.long v6_2), .second, .val (.long v8_4), .second, .val (.ref b7), .val (.int (1 : Int32)), .unset, .unset, .unset] [(.long v8_4)])) rfl (hb hby at_105) _ k) ?_
        show own_Go _ _ _ _ (T15.setTop (mkF m 108 #[.val (.long q1), .second, .val (.long q2), .second, .val (.long q3), .second, .val (.long v6_2), .second, .val (.long v8_4), .second, .val (.ref b7), .val (.int (1 : Int32)), .unset, .unset, .unset] [(.long (9223372036854775807 : Int64)), (.long v8_4)]))
        refine own_by (fun _ k => XS.lcmp X15.here hx rfl (hb hby at_108) rfl k) ?_
        show own_Go _ _ _ _ (T15.setTop (mkF m 109 #[.val (.long q1), .second, .val (.long q2), .second, .val (.long q3), .second, .val (.long v6_2), .second, .val (.long v8_4), .second, .val (.ref b7), .val (.int (1 : Int32)), .unset, .unset, .unset] [(.int (lcmpW v8_4 (9223372036854775807 : Int64)))]))
        by_cases hc17 : v8_4 = (9223372036854775807 : Int64)
        · --
          refine own_by (fun _ k => XS.ifYes X15.here hx rfl (pc0 := 109) (pc' := 136) rfl (hb hby at_109) rfl ((if0 _ _).trans (teq ((lw_eq _ _).mpr hc17)).1) (by decide) (by decide) k) ?_
          show own_Go _ _ _ _ (T15.setTop (mkF m 136 #[.val (.long q1), .second, .val (.long q2), .second, .val (.long q3), .second, .val (.long v6_2), .second, .val (.long v8_4), .second, .val (.ref b7), .val (.int (1 : Int32)), .unset, .unset, .unset] []))
          refine own_by (fun _ k => XS.lload X15.here hx rfl (hb hby at_136) rfl k) ?_
          show own_Go _ _ _ _ (T15.setTop (mkF m 138 #[.val (.long q1), .second, .val (.long q2), .second, .val (.long q3), .second, .val (.long v6_2), .second, .val (.long v8_4), .second, .val (.ref b7), .val (.int (1 : Int32)), .unset, .unset, .unset] [(.long v6_2)]))
          refine own_by (fun _ k => XS.iconst X15.here hx rfl (hb hby at_138) k) ?_
          show own_Go _ _ _ _ (T15.setTop (mkF m 139 #[.val (.long q1), .second, .val (.long q2), .second, .val (.long q3), .second, .val (.long v6_2), .second, .val (.long v8_4), .second, .val (.ref b7), .val (.int (1 : Int32)), .unset, .unset, .unset] [(.int (1 : Int32)), (.long v6_2)]))
          refine own_by (fun _ k => XS.lshr X15.here hx rfl (hb hby at_139) rfl k) ?_
          show own_Go _ _ _ _ (T15.setTop (mkF m 140 #[.val (.long q1), .second, .val (.long q2), .second, .val (.long q3), .second, .val (.long v6_2), .second, .val (.long v8_4), .second, .val (.ref b7), .val (.int (1 : Int32)), .unset, .unset, .unset] [(.long (v6_2 >>> ((1 : Int32) &&& 0x3f).toInt64))]))
          refine own_by (fun _ k => XS.lload X15.here hx rfl (hb hby at_140) rfl k) ?_
          show own_Go _ _ _ _ (T15.setTop (mkF m 142 #[.val (.long q1), .second, .val (.long q2), .second, .val (.long q3), .second, .val (.long v6_2), .second, .val (.long v8_4), .second, .val (.ref b7), .val (.int (1 : Int32)), .unset, .unset, .unset] [(.long v8_4), (.long (v6_2 >>> ((1 : Int32) &&& 0x3f).toInt64))]))
          refine own_by (fun _ k => XS.iconst X15.here hx rfl (hb hby at_142) k) ?_
          show own_Go _ _ _ _ (T15.setTop (mkF m 143 #[.val (.long q1), .second, .val (.long q2), .second, .val (.long q3), .second, .val (.long v6_2), .second, .val (.long v8_4), .second, .val (.ref b7), .val (.int (1 : Int32)), .unset, .unset, .unset] [(.int (1 : Int32)), (.long v8_4), (.long (v6_2 >>> ((1 : Int32) &&& 0x3f).toInt64))]))
          refine own_by (fun _ k => XS.lshr X15.here hx rfl (hb hby at_143) rfl k) ?_
          show own_Go _ _ _ _ (T15.setTop (mkF m 144 #[.val (.long q1), .second, .val (.long q2), .second, .val (.long q3), .second, .val (.long v6_2), .second, .val (.long v8_4), .second, .val (.ref b7), .val (.int (1 : Int32)), .unset, .unset, .unset] [(.long (v8_4 >>> ((1 : Int32) &&& 0x3f).toInt64)), (.long (v6_2 >>> ((1 : Int32) &&& 0x3f).toInt64))]))
          refine own_by (fun _ k => XS.ladd X15.here hx rfl (hb hby at_144) rfl k) ?_
          show own_Go _ _ _ _ (T15.setTop (mkF m 145 #[.val (.long q1), .second, .val (.long q2), .second, .val (.long q3), .second, .val (.long v6_2), .second, .val (.long v8_4), .second, .val (.ref b7), .val (.int (1 : Int32)), .unset, .unset, .unset] [(.long ((v6_2 >>> ((1 : Int32) &&& 0x3f).toInt64) + (v8_4 >>> ((1 : Int32) &&& 0x3f).toInt64)))]))
          refine own_by (fun _ k => XS.lload X15.here hx rfl (hb hby at_145) rfl k) ?_
          show own_Go _ _ _ _ (T15.setTop (mkF m 147 #[.val (.long q1), .second, .val (.long q2), .second, .val (.long q3), .second, .val (.long v6_2), .second, .val (.long v8_4), .second, .val (.ref b7), .val (.int (1 : Int32)), .unset, .unset, .unset] [(.long v6_2), (.long ((v6_2 >>> ((1 : Int32) &&& 0x3f).toInt64) + (v8_4 >>> ((1 : Int32) &&& 0x3f).toInt64)))]))
          refine own_by (fun _ k => XS.lload X15.here hx rfl (hb hby at_147) rfl k) ?_
          show own_Go _ _ _ _ (T15.setTop (mkF m 149 #[.val (.long q1), .second, .val (.long q2), .second, .val (.long q3), .second, .val (.long v6_2), .second, .val (.long v8_4), .second, .val (.ref b7), .val (.int (1 : Int32)), .unset, .unset, .unset] [(.long v8_4), (.long v6_2), (.long ((v6_2 >>> ((1 : Int32) &&& 0x3f).toInt64) + (v8_4 >>> ((1 : Int32) &&& 0x3f).toInt64)))]))
          refine own_by (fun _ k => XS.land X15.here hx rfl (hb hby at_149) rfl k) ?_
          show own_Go _ _ _ _ (T15.setTop (mkF m 150 #[.val (.long q1), .second, .val (.long q2), .second, .val (.long q3), .second, .val (.long v6_2), .second, .val (.long v8_4), .second, .val (.ref b7), .val (.int (1 : Int32)), .unset, .unset, .unset] [(.long (v6_2 &&& v8_4)), (.long ((v6_2 >>> ((1 : Int32) &&& 0x3f).toInt64) + (v8_4 >>> ((1 : Int32) &&& 0x3f).toInt64)))]))
          refine own_by (fun _ k => XS.lconst X15.here hx rfl (hb hby at_150) k) ?_
          show own_Go _ _ _ _ (T15.setTop (mkF m 151 #[.val (.long q1), .second, .val (.long q2), .second, .val (.long q3), .second, .val (.long v6_2), .second, .val (.long v8_4), .second, .val (.ref b7), .val (.int (1 : Int32)), .unset, .unset, .unset] [(.long (1 : Int64)), (.long (v6_2 &&& v8_4)), (.long ((v6_2 >>> ((1 : Int32) &&& 0x3f).toInt64) + (v8_4 >>> ((1 : Int32) &&& 0x3f).toInt64)))]))
          refine own_by (fun _ k => XS.land X15.here hx rfl (hb hby at_151) rfl k) ?_
          show own_Go _ _ _ _ (T15.setTop (mkF m 152 #[.val (.long q1), .second, .val (.long q2), .second, .val (.long q3), .second, .val (.long v6_2), .second, .val (.long v8_4), .second, .val (.ref b7), .val (.int (1 : Int32)), .unset, .unset, .unset] [(.long ((v6_2 &&& v8_4) &&& (1 : Int64))), (.long ((v6_2 >>> ((1 : Int32) &&& 0x3f).toInt64) + (v8_4 >>> ((1 : Int32) &&& 0x3f).toInt64)))]))
          refine own_by (fun _ k => XS.ladd X15.here hx rfl (hb hby at_152) rfl k) ?_
          show own_Go _ _ _ _ (T15.setTop (mkF m 153 #[.val (.long q1), .second, .val (.long q2), .second, .val (.long q3), .second, .val (.long v6_2), .second, .val (.long v8_4), .second, .val (.ref b7), .val (.int (1 : Int32)), .unset, .unset, .unset] [(.long (((v6_2 >>> ((1 : Int32) &&& 0x3f).toInt64) + (v8_4 >>> ((1 : Int32) &&& 0x3f).toInt64)) + ((v6_2 &&& v8_4) &&& (1 : Int64))))]))
          obtain ⟨v12_18, hv12_18⟩ : ∃ z_ : Int64, (((v6_2 >>> ((1 : Int32) &&& 0x3f).toInt64) + (v8_4 >>> ((1 : Int32) &&& 0x3f).toInt64)) + ((v6_2 &&& v8_4) &&& (1 : Int64))) = z_ := ⟨_, rfl⟩
          refine own_gen hv12_18 (fun z_ => T15.setTop (mkF m 153 #[.val (.long q1), .second, .val (.long q2), .second, .val (.long q3), .second, .val (.long v6_2), .second, .val (.long v8_4), .second, .val (.ref b7), .val (.int (1 : Int32)), .unset, .unset, .unset] [(.long z_)])) ?_
          refine own_by (fun _ k => XS.lstore X15.here hx rfl (hb hby at_153) rfl (l' := #[.val (.long q1), .second, .val (.long q2), .second, .val (.long q3), .second, .val (.long v6_2), .second, .val (.long v8_4), .second, .val (.ref b7), .val (.int (1 : Int32)), .val (.long v12_18), .second, .unset]) rfl k) ?_
          show own_Go _ _ _ _ (T15.setTop (mkF m 155 #[.val (.long q1), .second, .val (.long q2), .second, .val (.long q3), .second, .val (.long v6_2), .second, .val (.long v8_4), .second, .val (.ref b7), .val (.int (1 : Int32)), .val (.long v12_18), .second, .unset] []))
          refine own_by (fun _ k => XS.iload X15.here hx rfl (hb hby at_155) rfl k) ?_
          show own_Go _ _ _ _ (T15.setTop (mkF m 157 #[.val (.long q1), .second, .val (.long q2), .second, .val (.long q3), .second, .val (.long v6_2), .second, .val (.long v8_4), .second, .val (.ref b7), .val (.int (1 : Int32)), .val (.long v12_18), .second, .unset] [(.int (1 : Int32))]))
          refine own_by (fun _ k => XS.ifNo X15.here hx rfl (hb hby at_157) rfl ((if0 _ _).trans (feq (by decide)).1) k) ?_
          show own_Go _ _ _ _ (T15.setTop (mkF m 160 #[.val (.long q1), .second, .val (.long q2), .second, .val (.long q3), .second, .val (.long v6_2), .second, .val (.long v8_4), .second, .val (.ref b7), .val (.int (1 : Int32)), .val (.long v12_18), .second, .unset] []))
          refine own_by (fun _ k => XS.aload X15.here hx rfl (hb hby at_160) rfl rfl k) ?_
          show own_Go _ _ _ _ (T15.setTop (mkF m 162 #[.val (.long q1), .second, .val (.long q2), .second, .val (.long q3), .second, .val (.long v6_2), .second, .val (.long v8_4), .second, .val (.ref b7), .val (.int (1 : Int32)), .val (.long v12_18), .second, .unset] [(.ref b7)]))
          refine own_by (fun _ k => XS.lload X15.here hx rfl (hb hby at_162) rfl k) ?_
          show own_Go _ _ _ _ (T15.setTop (mkF m 164 #[.val (.long q1), .second, .val (.long q2), .second, .val (.long q3), .second, .val (.long v6_2), .second, .val (.long v8_4), .second, .val (.ref b7), .val (.int (1 : Int32)), .val (.long v12_18), .second, .unset] [(.long v12_18), (.ref b7)]))
          obtain ⟨cq19, kq19, q19a, q19b, q19c⟩ := isOf hZ e15 f11
          obtain ⟨_, _, ⟨T19, L19, k19, n19⟩, -, X19, ⟨Lc19, hQ19, l19, y19, z19⟩, st19⟩ := X15.virtualBack hx (y := (⟨"com/example/time_for_trials/timefortrials/protocol/Workflow$DayWindow", "holds", "(J)Z"⟩ : MethodName)) (z := (⟨"com/example/time_for_trials/timefortrials/protocol/Workflow$DayWindow", "holds", "(J)Z"⟩ : MethodName)) hown (mvT hZ (hw _ (List.mem_of_getElem? (i := 25) rfl))) (mvT hZ (hw _ (List.mem_of_getElem? (i := 26) rfl))) (notFace_of_selects (args := #[]) (mvT hZ (hw _ (List.mem_of_getElem? (i := 28) rfl)))) (mvT hZ (hw _ (List.mem_of_getElem? (i := 28) rfl))) (mvT hZ (hw _ (List.mem_of_getElem? (i := 27) rfl))) (by decide) (backOf (W := 0) (rm6 l Z a0 hw [] b7 v12_18 v6_2 v8_4 (1 : Int32) h10 n0 Z10 F10a F10b (own_h5 v6_2 v8_4 v12_18 (own_fl q1 q2 v6_2 v8_4 hv6_2 hv8_4) hv12_18)) hZ (hw _ (List.mem_of_getElem? (i := 29) rfl)) (hw _ (List.mem_of_getElem? (i := 9) rfl)) (by decide) (by decide)) q19a q19c (g := (mkF m 164 #[.val (.long q1), .second, .val (.long q2), .second, .val (.long q3), .second, .val (.long v6_2), .second, .val (.long v8_4), .second, .val (.ref b7), .val (.int (1 : Int32)), .val (.long v12_18), .second, .unset] [(.long v12_18), (.ref b7)])) rfl (by rw [hml]; rfl) (Steps.refl _) (argsL := [(.long v12_18)]) (rest := []) (lenOf own_pd3 rfl) rfl (by show 2 * 0 + _ ≤ _; exact Nat.le_of_eq rfl) (hb hby at_164) (fun _ _ => ⟨rfl, e15, Nat.le_of_ble_eq_true rfl, Nat.le_of_ble_eq_true rfl⟩)
          dsimp only [Pt.U, Pt.locs, Pt.cells, Pt.slots] at X19 l19 y19 z19 st19 hQ19
          subst l19 y19 z19
          obtain ⟨rfl, N19q, e19⟩ := hQ19
          have N19 := Fr.app N15 N19q
          refine own_tr st19 ?_
          show own_Go _ _ _ _ (T19.setTop (mkF m 167 #[.val (.long q1), .second, .val (.long q2), .second, .val (.long q3), .second, .val (.long v6_2), .second, .val (.long v8_4), .second, .val (.ref b7), .val (.int (1 : Int32)), .val (.long v12_18), .second, .unset] [(.int (1 : Int32))]))
          refine own_by (fun _ k => XS.ifNo X19.here hx rfl (hb hby at_167) rfl ((if0 _ _).trans (feq (by decide)).1) k) ?_
          show own_Go _ _ _ _ (T19.setTop (mkF m 170 #[.val (.long q1), .second, .val (.long q2), .second, .val (.long q3), .second, .val (.long v6_2), .second, .val (.long v8_4), .second, .val (.ref b7), .val (.int (1 : Int32)), .val (.long v12_18), .second, .unset] []))
          refine own_by (fun _ k => XS.iconst X19.here hx rfl (hb hby at_170) k) ?_
          show own_Go _ _ _ _ (T19.setTop (mkF m 171 #[.val (.long q1), .second, .val (.long q2), .second, .val (.long q3), .second, .val (.long v6_2), .second, .val (.long v8_4), .second, .val (.ref b7), .val (.int (1 : Int32)), .val (.long v12_18), .second, .unset] [(.int (1 : Int32))]))
          refine own_by (fun _ k => XS.goto X19.here hx rfl (pc0 := 171) (pc' := 175) rfl (hb hby at_171) (by decide) (by decide) k) ?_
          show own_Go _ _ _ _ (T19.setTop (mkF m 175 #[.val (.long q1), .second, .val (.long q2), .second, .val (.long q3), .second, .val (.long v6_2), .second, .val (.long v8_4), .second, .val (.ref b7), .val (.int (1 : Int32)), .val (.long v12_18), .second, .unset] [(.int (1 : Int32))]))
          refine own_by (fun _ k => XS.istore X19.here hx rfl (hb hby at_175) rfl (l' := #[.val (.long q1), .second, .val (.long q2), .second, .val (.long q3), .second, .val (.long v6_2), .second, .val (.long v8_4), .second, .val (.ref b7), .val (.int (1 : Int32)), .val (.long v12_18), .second, .unset]) rfl k) ?_
          show own_Go _ _ _ _ (T19.setTop (mkF m 177 #[.val (.long q1), .second, .val (.long q2), .second, .val (.long q3), .second, .val (.long v6_2), .second, .val (.long v8_4), .second, .val (.ref b7), .val (.int (1 : Int32)), .val (.long v12_18), .second, .unset] []))
          refine own_by (fun _ k => XS.lload X19.here hx rfl (hb hby at_177) rfl k) ?_
          show own_Go _ _ _ _ (T19.setTop (mkF m 179 #[.val (.long q1), .second, .val (.long q2), .second, .val (.long q3), .second, .val (.long v6_2), .second, .val (.long v8_4), .second, .val (.ref b7), .val (.int (1 : Int32)), .val (.long v12_18), .second, .unset] [(.long q3)]))
          refine own_by (fun _ k => XS.lload X19.here hx rfl (hb hby at_179) rfl k) ?_
          show own_Go _ _ _ _ (T19.setTop (mkF m 181 #[.val (.long q1), .second, .val (.long q2), .second, .val (.long q3), .second, .val (.long v6_2), .second, .val (.long v8_4), .second, .val (.ref b7), .val (.int (1 : Int32)), .val (.long v12_18), .second, .unset] [(.long v6_2), (.long q3)]))
          refine own_by (fun _ k => XS.lcmp X19.here hx rfl (hb hby at_181) rfl k) ?_
          show own_Go _ _ _ _ (T19.setTop (mkF m 182 #[.val (.long q1), .second, .val (.long q2), .second, .val (.long q3), .second, .val (.long v6_2), .second, .val (.long v8_4), .second, .val (.ref b7), .val (.int (1 : Int32)), .val (.long v12_18), .second, .unset] [(.int (lcmpW q3 v6_2))]))
          by_cases hc20 : q3 < v6_2
          · --
            refine own_by (fun _ k => XS.ifNo X19.here hx rfl (hb hby at_182) rfl ((if0 _ _).trans (tlt ((lw_lt _ _).mpr hc20)).2.1) k) ?_
            show own_Go _ _ _ _ (T19.setTop (mkF m 185 #[.val (.long q1), .second, .val (.long q2), .second, .val (.long q3), .second, .val (.long v6_2), .second, .val (.long v8_4), .second, .val (.ref b7), .val (.int (1 : Int32)), .val (.long v12_18), .second, .unset] []))
            refine own_by (fun _ k => XS.iconst X19.here hx rfl (hb hby at_185) k) ?_
            show own_Go _ _ _ _ (T19.setTop (mkF m 186 #[.val (.long q1), .second, .val (.long q2), .second, .val (.long q3), .second, .val (.long v6_2), .second, .val (.long v8_4), .second, .val (.ref b7), .val (.int (1 : Int32)), .val (.long v12_18), .second, .unset] [(.int (0 : Int32))]))
            refine own_by (fun _ k => XS.istore X19.here hx rfl (hb hby at_186) rfl (l' := #[.val (.long q1), .second, .val (.long q2), .second, .val (.long q3), .second, .val (.long v6_2), .second, .val (.long v8_4), .second, .val (.ref b7), .val (.int (1 : Int32)), .val (.long v12_18), .second, .val (.int (0 : Int32))]) rfl k) ?_
            show own_Go _ _ _ _ (T19.setTop (mkF m 188 #[.val (.long q1), .second, .val (.long q2), .second, .val (.long q3), .second, .val (.long v6_2), .second, .val (.long v8_4), .second, .val (.ref b7), .val (.int (1 : Int32)), .val (.long v12_18), .second, .val (.int (0 : Int32))] []))
            refine own_by (fun _ k => XS.goto X19.here hx rfl (pc0 := 188) (pc' := 208) rfl (hb hby at_188) (by decide) (by decide) k) ?_
            show own_Go _ _ _ _ (T19.setTop (mkF m 208 #[.val (.long q1), .second, .val (.long q2), .second, .val (.long q3), .second, .val (.long v6_2), .second, .val (.long v8_4), .second, .val (.ref b7), .val (.int (1 : Int32)), .val (.long v12_18), .second, .val (.int (0 : Int32))] []))
            refine own_by (fun _ k => XS.iload X19.here hx rfl (hb hby at_208) rfl k) ?_
            show own_Go _ _ _ _ (T19.setTop (mkF m 210 #[.val (.long q1), .second, .val (.long q2), .second, .val (.long q3), .second, .val (.long v6_2), .second, .val (.long v8_4), .second, .val (.ref b7), .val (.int (1 : Int32)), .val (.long v12_18), .second, .val (.int (0 : Int32))] [(.int (1 : Int32))]))
            refine own_by (fun _ k => XS.ifNo X19.here hx rfl (hb hby at_210) rfl ((if0 _ _).trans (feq (by decide)).1) k) ?_
            show own_Go _ _ _ _ (T19.setTop (mkF m 213 #[.val (.long q1), .second, .val (.long q2), .second, .val (.long q3), .second, .val (.long v6_2), .second, .val (.long v8_4), .second, .val (.ref b7), .val (.int (1 : Int32)), .val (.long v12_18), .second, .val (.int (0 : Int32))] []))
            refine own_by (fun _ k => XS.aload X19.here hx rfl (hb hby at_213) rfl rfl k) ?_
            show own_Go _ _ _ _ (T19.setTop (mkF m 215 #[.val (.long q1), .second, .val (.long q2), .second, .val (.long q3), .second, .val (.long v6_2), .second, .val (.long v8_4), .second, .val (.ref b7), .val (.int (1 : Int32)), .val (.long v12_18), .second, .val (.int (0 : Int32))] [(.ref b7)]))
            refine own_by (fun _ k => XS.lload X19.here hx rfl (hb hby at_215) rfl k) ?_
            show own_Go _ _ _ _ (T19.setTop (mkF m 217 #[.val (.long q1), .second, .val (.long q2), .second, .val (.long q3), .second, .val (.long v6_2), .second, .val (.long v8_4), .second, .val (.ref b7), .val (.int (1 : Int32)), .val (.long v12_18), .second, .val (.int (0 : Int32))] [(.long q3), (.ref b7)]))
            obtain ⟨cq21, kq21, q21a, q21b, q21c⟩ := isOf hZ e19 f11
            obtain ⟨_, _, ⟨T21, L21, k21, n21⟩, -, X21, ⟨Lc21, hQ21, l21, y21, z21⟩, st21⟩ := X19.virtualBack hx (y := (⟨"com/example/time_for_trials/timefortrials/protocol/Workflow$DayWindow", "holds", "(J)Z"⟩ : MethodName)) (z := (⟨"com/example/time_for_trials/timefortrials/protocol/Workflow$DayWindow", "holds", "(J)Z"⟩ : MethodName)) hown (mvT hZ (hw _ (List.mem_of_getElem? (i := 25) rfl))) (mvT hZ (hw _ (List.mem_of_getElem? (i := 26) rfl))) (notFace_of_selects (args := #[]) (mvT hZ (hw _ (List.mem_of_getElem? (i := 28) rfl)))) (mvT hZ (hw _ (List.mem_of_getElem? (i := 28) rfl))) (mvT hZ (hw _ (List.mem_of_getElem? (i := 27) rfl))) (by decide) (backOf (W := 0) (rm6 l Z a0 hw [] b7 q3 v6_2 v8_4 (0 : Int32) h10 n0 Z10 F10a F10b (by simp [own_H, hc20])) hZ (hw _ (List.mem_of_getElem? (i := 29) rfl)) (hw _ (List.mem_of_getElem? (i := 9) rfl)) (by decide) (by decide)) q21a q21c (g := (mkF m 217 #[.val (.long q1), .second, .val (.long q2), .second, .val (.long q3), .second, .val (.long v6_2), .second, .val (.long v8_4), .second, .val (.ref b7), .val (.int (1 : Int32)), .val (.long v12_18), .second, .val (.int (0 : Int32))] [(.long q3), (.ref b7)])) rfl (by rw [hml]; rfl) (Steps.refl _) (argsL := [(.long q3)]) (rest := []) (lenOf own_pd3 rfl) rfl (by show 2 * 0 + _ ≤ _; exact Nat.le_of_eq rfl) (hb hby at_217) (fun _ _ => ⟨rfl, e19, Nat.le_of_ble_eq_true rfl, Nat.le_of_ble_eq_true rfl⟩)
            dsimp only [Pt.U, Pt.locs, Pt.cells, Pt.slots] at X21 l21 y21 z21 st21 hQ21
            subst l21 y21 z21
            obtain ⟨rfl, N21q, e21⟩ := hQ21
            have N21 := Fr.app N19 N21q
            refine own_tr st21 ?_
            show own_Go _ _ _ _ (T21.setTop (mkF m 220 #[.val (.long q1), .second, .val (.long q2), .second, .val (.long q3), .second, .val (.long v6_2), .second, .val (.long v8_4), .second, .val (.ref b7), .val (.int (1 : Int32)), .val (.long v12_18), .second, .val (.int (0 : Int32))] [(.int (0 : Int32))]))
            refine own_by (fun _ k => XS.iload X21.here hx rfl (hb hby at_220) rfl k) ?_
            show own_Go _ _ _ _ (T21.setTop (mkF m 222 #[.val (.long q1), .second, .val (.long q2), .second, .val (.long q3), .second, .val (.long v6_2), .second, .val (.long v8_4), .second, .val (.ref b7), .val (.int (1 : Int32)), .val (.long v12_18), .second, .val (.int (0 : Int32))] [(.int (0 : Int32)), (.int (0 : Int32))]))
            refine own_by (fun _ k => XS.icmpNo X21.here hx rfl (hb hby at_222) rfl (teq (by decide)).2 k) ?_
            show own_Go _ _ _ _ (T21.setTop (mkF m 225 #[.val (.long q1), .second, .val (.long q2), .second, .val (.long q3), .second, .val (.long v6_2), .second, .val (.long v8_4), .second, .val (.ref b7), .val (.int (1 : Int32)), .val (.long v12_18), .second, .val (.int (0 : Int32))] []))
            refine own_by (fun _ k => XS.iconst X21.here hx rfl (hb hby at_225) k) ?_
            show own_Go _ _ _ _ (T21.setTop (mkF m 226 #[.val (.long q1), .second, .val (.long q2), .second, .val (.long q3), .second, .val (.long v6_2), .second, .val (.long v8_4), .second, .val (.ref b7), .val (.int (1 : Int32)), .val (.long v12_18), .second, .val (.int (0 : Int32))] [(.int (1 : Int32))]))
            refine own_by (fun _ k => XS.goto X21.here hx rfl (pc0 := 226) (pc' := 230) rfl (hb hby at_226) (by decide) (by decide) k) ?_
            show own_Go _ _ _ _ (T21.setTop (mkF m 230 #[.val (.long q1), .second, .val (.long q2), .second, .val (.long q3), .second, .val (.long v6_2), .second, .val (.long v8_4), .second, .val (.ref b7), .val (.int (1 : Int32)), .val (.long v12_18), .second, .val (.int (0 : Int32))] [(.int (1 : Int32))]))
            exact own_retN X21 hx Bd.notSynchronized e21 Bd.returns (by simp) (hb hby at_230) (⟨rfl, N21⟩) (by decide) (by decide)
          · --
            refine own_by (fun _ k => XS.ifYes X19.here hx rfl (pc0 := 182) (pc' := 191) rfl (hb hby at_182) rfl ((if0 _ _).trans (flt (mt (lw_lt _ _).mp hc20)).2.1) (by decide) (by decide) k) ?_
            show own_Go _ _ _ _ (T19.setTop (mkF m 191 #[.val (.long q1), .second, .val (.long q2), .second, .val (.long q3), .second, .val (.long v6_2), .second, .val (.long v8_4), .second, .val (.ref b7), .val (.int (1 : Int32)), .val (.long v12_18), .second, .unset] []))
            refine own_by (fun _ k => XS.lload X19.here hx rfl (hb hby at_191) rfl k) ?_
            show own_Go _ _ _ _ (T19.setTop (mkF m 193 #[.val (.long q1), .second, .val (.long q2), .second, .val (.long q3), .second, .val (.long v6_2), .second, .val (.long v8_4), .second, .val (.ref b7), .val (.int (1 : Int32)), .val (.long v12_18), .second, .unset] [(.long q3)]))
            refine own_by (fun _ k => XS.lload X19.here hx rfl (hb hby at_193) rfl k) ?_
            show own_Go _ _ _ _ (T19.setTop (mkF m 195 #[.val (.long q1), .second, .val (.long q2), .second, .val (.long q3), .second, .val (.long v6_2), .second, .val (.long v8_4), .second, .val (.ref b7), .val (.int (1 : Int32)), .val (.long v12_18), .second, .unset] [(.long v8_4), (.long q3)]))
            refine own_by (fun _ k => XS.lcmp X19.here hx rfl (hb hby at_195) rfl k) ?_
            show own_Go _ _ _ _ (T19.setTop (mkF m 196 #[.val (.long q1), .second, .val (.long q2), .second, .val (.long q3), .second, .val (.long v6_2), .second, .val (.long v8_4), .second, .val (.ref b7), .val (.int (1 : Int32)), .val (.long v12_18), .second, .unset] [(.int (lcmpW q3 v8_4))]))
            by_cases hc22 : v8_4 < q3
            · --
              refine own_by (fun _ k => XS.ifNo X19.here hx rfl (hb hby at_196) rfl ((if0 _ _).trans (tlt ((lw_gt _ _).mpr hc22)).2.2.2) k) ?_
              show own_Go _ _ _ _ (T19.setTop (mkF m 199 #[.val (.long q1), .second, .val (.long q2), .second, .val (.long q3), .second, .val (.long v6_2), .second, .val (.long v8_4), .second, .val (.ref b7), .val (.int (1 : Int32)), .val (.long v12_18), .second, .unset] []))
              refine own_by (fun _ k => XS.iconst X19.here hx rfl (hb hby at_199) k) ?_
              show own_Go _ _ _ _ (T19.setTop (mkF m 200 #[.val (.long q1), .second, .val (.long q2), .second, .val (.long q3), .second, .val (.long v6_2), .second, .val (.long v8_4), .second, .val (.ref b7), .val (.int (1 : Int32)), .val (.long v12_18), .second, .unset] [(.int (0 : Int32))]))
              refine own_by (fun _ k => XS.istore X19.here hx rfl (hb hby at_200) rfl (l' := #[.val (.long q1), .second, .val (.long q2), .second, .val (.long q3), .second, .val (.long v6_2), .second, .val (.long v8_4), .second, .val (.ref b7), .val (.int (1 : Int32)), .val (.long v12_18), .second, .val (.int (0 : Int32))]) rfl k) ?_
              show own_Go _ _ _ _ (T19.setTop (mkF m 202 #[.val (.long q1), .second, .val (.long q2), .second, .val (.long q3), .second, .val (.long v6_2), .second, .val (.long v8_4), .second, .val (.ref b7), .val (.int (1 : Int32)), .val (.long v12_18), .second, .val (.int (0 : Int32))] []))
              refine own_by (fun _ k => XS.goto X19.here hx rfl (pc0 := 202) (pc' := 208) rfl (hb hby at_202) (by decide) (by decide) k) ?_
              show own_Go _ _ _ _ (T19.setTop (mkF m 208 #[.val (.long q1), .second, .val (.long q2), .second, .val (.long q3), .second, .val (.long v6_2), .second, .val (.long v8_4), .second, .val (.ref b7), .val (.int (1 : Int32)), .val (.long v12_18), .second, .val (.int (0 : Int32))] []))
              refine own_by (fun _ k => XS.iload X19.here hx rfl (hb hby at_208) rfl k) ?_
              show own_Go _ _ _ _ (T19.setTop (mkF m 210 #[.val (.long q1), .second, .val (.long q2), .second, .val (.long q3), .second, .val (.long v6_2), .second, .val (.long v8_4), .second, .val (.ref b7), .val (.int (1 : Int32)), .val (.long v12_18), .second, .val (.int (0 : Int32))] [(.int (1 : Int32))]))
              refine own_by (fun _ k => XS.ifNo X19.here hx rfl (hb hby at_210) rfl ((if0 _ _).trans (feq (by decide)).1) k) ?_
              show own_Go _ _ _ _ (T19.setTop (mkF m 213 #[.val (.long q1), .second, .val (.long q2), .second, .val (.long q3), .second, .val (.long v6_2), .second, .val (.long v8_4), .second, .val (.ref b7), .val (.int (1 : Int32)), .val (.long v12_18), .second, .val (.int (0 : Int32))] []))
              refine own_by (fun _ k => XS.aload X19.here hx rfl (hb hby at_213) rfl rfl k) ?_
              show own_Go _ _ _ _ (T19.setTop (mkF m 215 #[.val (.long q1), .second, .val (.long q2), .second, .val (.long q3), .second, .val (.long v6_2), .second, .val (.long v8_4), .second, .val (.ref b7), .val (.int (1 : Int32)), .val (.long v12_18), .second, .val (.int (0 : Int32))] [(.ref b7)]))
              refine own_by (fun _ k => XS.lload X19.here hx rfl (hb hby at_215) rfl k) ?_
              show own_Go _ _ _ _ (T19.setTop (mkF m 217 #[.val (.long q1), .second, .val (.long q2), .second, .val (.long q3), .second, .val (.long v6_2), .second, .val (.long v8_4), .second, .val (.ref b7), .val (.int (1 : Int32)), .val (.long v12_18), .second, .val (.int (0 : Int32))] [(.long q3), (.ref b7)]))
              obtain ⟨cq23, kq23, q23a, q23b, q23c⟩ := isOf hZ e19 f11
              obtain ⟨_, _, ⟨T23, L23, k23, n23⟩, -, X23, ⟨Lc23, hQ23, l23, y23, z23⟩, st23⟩ := X19.virtualBack hx (y := (⟨"com/example/time_for_trials/timefortrials/protocol/Workflow$DayWindow", "holds", "(J)Z"⟩ : MethodName)) (z := (⟨"com/example/time_for_trials/timefortrials/protocol/Workflow$DayWindow", "holds", "(J)Z"⟩ : MethodName)) hown (mvT hZ (hw _ (List.mem_of_getElem? (i := 25) rfl))) (mvT hZ (hw _ (List.mem_of_getElem? (i := 26) rfl))) (notFace_of_selects (args := #[]) (mvT hZ (hw _ (List.mem_of_getElem? (i := 28) rfl)))) (mvT hZ (hw _ (List.mem_of_getElem? (i := 28) rfl))) (mvT hZ (hw _ (List.mem_of_getElem? (i := 27) rfl))) (by decide) (backOf (W := 0) (rm6 l Z a0 hw [] b7 q3 v6_2 v8_4 (0 : Int32) h10 n0 Z10 F10a F10b (by simp [own_H, hc20, hc22])) hZ (hw _ (List.mem_of_getElem? (i := 29) rfl)) (hw _ (List.mem_of_getElem? (i := 9) rfl)) (by decide) (by decide)) q23a q23c (g := (mkF m 217 #[.val (.long q1), .second, .val (.long q2), .second, .val (.long q3), .second, .val (.long v6_2), .second, .val (.long v8_4), .second, .val (.ref b7), .val (.int (1 : Int32)), .val (.long v12_18), .second, .val (.int (0 : Int32))] [(.long q3), (.ref b7)])) rfl (by rw [hml]; rfl) (Steps.refl _) (argsL := [(.long q3)]) (rest := []) (lenOf own_pd3 rfl) rfl (by show 2 * 0 + _ ≤ _; exact Nat.le_of_eq rfl) (hb hby at_217) (fun _ _ => ⟨rfl, e19, Nat.le_of_ble_eq_true rfl, Nat.le_of_ble_eq_true rfl⟩)
              dsimp only [Pt.U, Pt.locs, Pt.cells, Pt.slots] at X23 l23 y23 z23 st23 hQ23
              subst l23 y23 z23
              obtain ⟨rfl, N23q, e23⟩ := hQ23
              have N23 := Fr.app N19 N23q
              refine own_tr st23 ?_
              show own_Go _ _ _ _ (T23.setTop (mkF m 220 #[.val (.long q1), .second, .val (.long q2), .second, .val (.long q3), .second, .val (.long v6_2), .second, .val (.long v8_4), .second, .val (.ref b7), .val (.int (1 : Int32)), .val (.long v12_18), .second, .val (.int (0 : Int32))] [(.int (0 : Int32))]))
              refine own_by (fun _ k => XS.iload X23.here hx rfl (hb hby at_220) rfl k) ?_
              show own_Go _ _ _ _ (T23.setTop (mkF m 222 #[.val (.long q1), .second, .val (.long q2), .second, .val (.long q3), .second, .val (.long v6_2), .second, .val (.long v8_4), .second, .val (.ref b7), .val (.int (1 : Int32)), .val (.long v12_18), .second, .val (.int (0 : Int32))] [(.int (0 : Int32)), (.int (0 : Int32))]))
              refine own_by (fun _ k => XS.icmpNo X23.here hx rfl (hb hby at_222) rfl (teq (by decide)).2 k) ?_
              show own_Go _ _ _ _ (T23.setTop (mkF m 225 #[.val (.long q1), .second, .val (.long q2), .second, .val (.long q3), .second, .val (.long v6_2), .second, .val (.long v8_4), .second, .val (.ref b7), .val (.int (1 : Int32)), .val (.long v12_18), .second, .val (.int (0 : Int32))] []))
              refine own_by (fun _ k => XS.iconst X23.here hx rfl (hb hby at_225) k) ?_
              show own_Go _ _ _ _ (T23.setTop (mkF m 226 #[.val (.long q1), .second, .val (.long q2), .second, .val (.long q3), .second, .val (.long v6_2), .second, .val (.long v8_4), .second, .val (.ref b7), .val (.int (1 : Int32)), .val (.long v12_18), .second, .val (.int (0 : Int32))] [(.int (1 : Int32))]))
              refine own_by (fun _ k => XS.goto X23.here hx rfl (pc0 := 226) (pc' := 230) rfl (hb hby at_226) (by decide) (by decide) k) ?_
              show own_Go _ _ _ _ (T23.setTop (mkF m 230 #[.val (.long q1), .second, .val (.long q2), .second, .val (.long q3), .second, .val (.long v6_2), .second, .val (.long v8_4), .second, .val (.ref b7), .val (.int (1 : Int32)), .val (.long v12_18), .second, .val (.int (0 : Int32))] [(.int (1 : Int32))]))
              exact own_retN X23 hx Bd.notSynchronized e23 Bd.returns (by simp) (hb hby at_230) (⟨rfl, N23⟩) (by decide) (by decide)
            · --
              refine own_by (fun _ k => XS.ifYes X19.here hx rfl (pc0 := 196) (pc' := 205) rfl (hb hby at_196) rfl ((if0 _ _).trans (flt (mt (lw_gt _ _).mp hc22)).2.2.2) (by decide) (by decide) k) ?_
              show own_Go _ _ _ _ (T19.setTop (mkF m 205 #[.val (.long q1), .second, .val (.long q2), .second, .val (.long q3), .second, .val (.long v6_2), .second, .val (.long v8_4), .second, .val (.ref b7), .val (.int (1 : Int32)), .val (.long v12_18), .second, .unset] []))
              refine own_by (fun _ k => XS.iconst X19.here hx rfl (hb hby at_205) k) ?_
              show own_Go _ _ _ _ (T19.setTop (mkF m 206 #[.val (.long q1), .second, .val (.long q2), .second, .val (.long q3), .second, .val (.long v6_2), .second, .val (.long v8_4), .second, .val (.ref b7), .val (.int (1 : Int32)), .val (.long v12_18), .second, .unset] [(.int (1 : Int32))]))
              refine own_by (fun _ k => XS.istore X19.here hx rfl (hb hby at_206) rfl (l' := #[.val (.long q1), .second, .val (.long q2), .second, .val (.long q3), .second, .val (.long v6_2), .second, .val (.long v8_4), .second, .val (.ref b7), .val (.int (1 : Int32)), .val (.long v12_18), .second, .val (.int (1 : Int32))]) rfl k) ?_
              show own_Go _ _ _ _ (T19.setTop (mkF m 208 #[.val (.long q1), .second, .val (.long q2), .second, .val (.long q3), .second, .val (.long v6_2), .second, .val (.long v8_4), .second, .val (.ref b7), .val (.int (1 : Int32)), .val (.long v12_18), .second, .val (.int (1 : Int32))] []))
              refine own_by (fun _ k => XS.iload X19.here hx rfl (hb hby at_208) rfl k) ?_
              show own_Go _ _ _ _ (T19.setTop (mkF m 210 #[.val (.long q1), .second, .val (.long q2), .second, .val (.long q3), .second, .val (.long v6_2), .second, .val (.long v8_4), .second, .val (.ref b7), .val (.int (1 : Int32)), .val (.long v12_18), .second, .val (.int (1 : Int32))] [(.int (1 : Int32))]))
              refine own_by (fun _ k => XS.ifNo X19.here hx rfl (hb hby at_210) rfl ((if0 _ _).trans (feq (by decide)).1) k) ?_
              show own_Go _ _ _ _ (T19.setTop (mkF m 213 #[.val (.long q1), .second, .val (.long q2), .second, .val (.long q3), .second, .val (.long v6_2), .second, .val (.long v8_4), .second, .val (.ref b7), .val (.int (1 : Int32)), .val (.long v12_18), .second, .val (.int (1 : Int32))] []))
              refine own_by (fun _ k => XS.aload X19.here hx rfl (hb hby at_213) rfl rfl k) ?_
              show own_Go _ _ _ _ (T19.setTop (mkF m 215 #[.val (.long q1), .second, .val (.long q2), .second, .val (.long q3), .second, .val (.long v6_2), .second, .val (.long v8_4), .second, .val (.ref b7), .val (.int (1 : Int32)), .val (.long v12_18), .second, .val (.int (1 : Int32))] [(.ref b7)]))
              refine own_by (fun _ k => XS.lload X19.here hx rfl (hb hby at_215) rfl k) ?_
              show own_Go _ _ _ _ (T19.setTop (mkF m 217 #[.val (.long q1), .second, .val (.long q2), .second, .val (.long q3), .second, .val (.long v6_2), .second, .val (.long v8_4), .second, .val (.ref b7), .val (.int (1 : Int32)), .val (.long v12_18), .second, .val (.int (1 : Int32))] [(.long q3), (.ref b7)]))
              obtain ⟨cq24, kq24, q24a, q24b, q24c⟩ := isOf hZ e19 f11
              obtain ⟨_, _, ⟨T24, L24, k24, n24⟩, -, X24, ⟨Lc24, hQ24, l24, y24, z24⟩, st24⟩ := X19.virtualBack hx (y := (⟨"com/example/time_for_trials/timefortrials/protocol/Workflow$DayWindow", "holds", "(J)Z"⟩ : MethodName)) (z := (⟨"com/example/time_for_trials/timefortrials/protocol/Workflow$DayWindow", "holds", "(J)Z"⟩ : MethodName)) hown (mvT hZ (hw _ (List.mem_of_getElem? (i := 25) rfl))) (mvT hZ (hw _ (List.mem_of_getElem? (i := 26) rfl))) (notFace_of_selects (args := #[]) (mvT hZ (hw _ (List.mem_of_getElem? (i := 28) rfl)))) (mvT hZ (hw _ (List.mem_of_getElem? (i := 28) rfl))) (mvT hZ (hw _ (List.mem_of_getElem? (i := 27) rfl))) (by decide) (backOf (W := 0) (rm6 l Z a0 hw [] b7 q3 v6_2 v8_4 (1 : Int32) h10 n0 Z10 F10a F10b (by simp [own_H, hc20, hc22])) hZ (hw _ (List.mem_of_getElem? (i := 29) rfl)) (hw _ (List.mem_of_getElem? (i := 9) rfl)) (by decide) (by decide)) q24a q24c (g := (mkF m 217 #[.val (.long q1), .second, .val (.long q2), .second, .val (.long q3), .second, .val (.long v6_2), .second, .val (.long v8_4), .second, .val (.ref b7), .val (.int (1 : Int32)), .val (.long v12_18), .second, .val (.int (1 : Int32))] [(.long q3), (.ref b7)])) rfl (by rw [hml]; rfl) (Steps.refl _) (argsL := [(.long q3)]) (rest := []) (lenOf own_pd3 rfl) rfl (by show 2 * 0 + _ ≤ _; exact Nat.le_of_eq rfl) (hb hby at_217) (fun _ _ => ⟨rfl, e19, Nat.le_of_ble_eq_true rfl, Nat.le_of_ble_eq_true rfl⟩)
              dsimp only [Pt.U, Pt.locs, Pt.cells, Pt.slots] at X24 l24 y24 z24 st24 hQ24
              subst l24 y24 z24
              obtain ⟨rfl, N24q, e24⟩ := hQ24
              have N24 := Fr.app N19 N24q
              refine own_tr st24 ?_
              show own_Go _ _ _ _ (T24.setTop (mkF m 220 #[.val (.long q1), .second, .val (.long q2), .second, .val (.long q3), .second, .val (.long v6_2), .second, .val (.long v8_4), .second, .val (.ref b7), .val (.int (1 : Int32)), .val (.long v12_18), .second, .val (.int (1 : Int32))] [(.int (1 : Int32))]))
              refine own_by (fun _ k => XS.iload X24.here hx rfl (hb hby at_220) rfl k) ?_
              show own_Go _ _ _ _ (T24.setTop (mkF m 222 #[.val (.long q1), .second, .val (.long q2), .second, .val (.long q3), .second, .val (.long v6_2), .second, .val (.long v8_4), .second, .val (.ref b7), .val (.int (1 : Int32)), .val (.long v12_18), .second, .val (.int (1 : Int32))] [(.int (1 : Int32)), (.int (1 : Int32))]))
              refine own_by (fun _ k => XS.icmpNo X24.here hx rfl (hb hby at_222) rfl (teq (by decide)).2 k) ?_
              show own_Go _ _ _ _ (T24.setTop (mkF m 225 #[.val (.long q1), .second, .val (.long q2), .second, .val (.long q3), .second, .val (.long v6_2), .second, .val (.long v8_4), .second, .val (.ref b7), .val (.int (1 : Int32)), .val (.long v12_18), .second, .val (.int (1 : Int32))] []))
              refine own_by (fun _ k => XS.iconst X24.here hx rfl (hb hby at_225) k) ?_
              show own_Go _ _ _ _ (T24.setTop (mkF m 226 #[.val (.long q1), .second, .val (.long q2), .second, .val (.long q3), .second, .val (.long v6_2), .second, .val (.long v8_4), .second, .val (.ref b7), .val (.int (1 : Int32)), .val (.long v12_18), .second, .val (.int (1 : Int32))] [(.int (1 : Int32))]))
              refine own_by (fun _ k => XS.goto X24.here hx rfl (pc0 := 226) (pc' := 230) rfl (hb hby at_226) (by decide) (by decide) k) ?_
              show own_Go _ _ _ _ (T24.setTop (mkF m 230 #[.val (.long q1), .second, .val (.long q2), .second, .val (.long q3), .second, .val (.long v6_2), .second, .val (.long v8_4), .second, .val (.ref b7), .val (.int (1 : Int32)), .val (.long v12_18), .second, .val (.int (1 : Int32))] [(.int (1 : Int32))]))
              exact own_retN X24 hx Bd.notSynchronized e24 Bd.returns (by simp) (hb hby at_230) (⟨rfl, N24⟩) (by decide) (by decide)
        · --
          refine own_by (fun _ k => XS.ifNo X15.here hx rfl (hb hby at_109) rfl ((if0 _ _).trans (feq (mt (lw_eq _ _).mp hc17)).1) k) ?_
          show own_Go _ _ _ _ (T15.setTop (mkF m 112 #[.val (.long q1), .second, .val (.long q2), .second, .val (.long q3), .second, .val (.long v6_2), .second, .val (.long v8_4), .second, .val (.ref b7), .val (.int (1 : Int32)), .unset, .unset, .unset] []))
          refine own_by (fun _ k => XS.iload X15.here hx rfl (hb hby at_112) rfl k) ?_
          show own_Go _ _ _ _ (T15.setTop (mkF m 114 #[.val (.long q1), .second, .val (.long q2), .second, .val (.long q3), .second, .val (.long v6_2), .second, .val (.long v8_4), .second, .val (.ref b7), .val (.int (1 : Int32)), .unset, .unset, .unset] [(.int (1 : Int32))]))
          refine own_by (fun _ k => XS.ifNo X15.here hx rfl (hb hby at_114) rfl ((if0 _ _).trans (feq (by decide)).1) k) ?_
          show own_Go _ _ _ _ (T15.setTop (mkF m 117 #[.val (.long q1), .second, .val (.long q2), .second, .val (.long q3), .second, .val (.long v6_2), .second, .val (.long v8_4), .second, .val (.ref b7), .val (.int (1 : Int32)), .unset, .unset, .unset] []))
          refine own_by (fun _ k => XS.aload X15.here hx rfl (hb hby at_117) rfl rfl k) ?_
          show own_Go _ _ _ _ (T15.setTop (mkF m 119 #[.val (.long q1), .second, .val (.long q2), .second, .val (.long q3), .second, .val (.long v6_2), .second, .val (.long v8_4), .second, .val (.ref b7), .val (.int (1 : Int32)), .unset, .unset, .unset] [(.ref b7)]))
          refine own_by (fun _ k => XS.lload X15.here hx rfl (hb hby at_119) rfl k) ?_
          show own_Go _ _ _ _ (T15.setTop (mkF m 121 #[.val (.long q1), .second, .val (.long q2), .second, .val (.long q3), .second, .val (.long v6_2), .second, .val (.long v8_4), .second, .val (.ref b7), .val (.int (1 : Int32)), .unset, .unset, .unset] [(.long v8_4), (.ref b7)]))
          refine own_by (fun _ k => XS.lconst X15.here hx rfl (hb hby at_121) k) ?_
          show own_Go _ _ _ _ (T15.setTop (mkF m 122 #[.val (.long q1), .second, .val (.long q2), .second, .val (.long q3), .second, .val (.long v6_2), .second, .val (.long v8_4), .second, .val (.ref b7), .val (.int (1 : Int32)), .unset, .unset, .unset] [(.long (1 : Int64)), (.long v8_4), (.ref b7)]))
          refine own_by (fun _ k => XS.ladd X15.here hx rfl (hb hby at_122) rfl k) ?_
          show own_Go _ _ _ _ (T15.setTop (mkF m 123 #[.val (.long q1), .second, .val (.long q2), .second, .val (.long q3), .second, .val (.long v6_2), .second, .val (.long v8_4), .second, .val (.ref b7), .val (.int (1 : Int32)), .unset, .unset, .unset] [(.long (v8_4 + (1 : Int64))), (.ref b7)]))
          obtain ⟨cq25, kq25, q25a, q25b, q25c⟩ := isOf hZ e15 f11
          obtain ⟨_, _, ⟨T25, L25, k25, n25⟩, -, X25, ⟨Lc25, hQ25, l25, y25, z25⟩, st25⟩ := X15.virtualBack hx (y := (⟨"com/example/time_for_trials/timefortrials/protocol/Workflow$DayWindow", "holds", "(J)Z"⟩ : MethodName)) (z := (⟨"com/example/time_for_trials/timefortrials/protocol/Workflow$DayWindow", "holds", "(J)Z"⟩ : MethodName)) hown (mvT hZ (hw _ (List.mem_of_getElem? (i := 25) rfl))) (mvT hZ (hw _ (List.mem_of_getElem? (i := 26) rfl))) (notFace_of_selects (args := #[]) (mvT hZ (hw _ (List.mem_of_getElem? (i := 28) rfl)))) (mvT hZ (hw _ (List.mem_of_getElem? (i := 28) rfl))) (mvT hZ (hw _ (List.mem_of_getElem? (i := 27) rfl))) (by decide) (backOf (W := 0) (rm6 l Z a0 hw [] b7 (v8_4 + (1 : Int64)) v6_2 v8_4 (0 : Int32) h10 n0 Z10 F10a F10b (own_h4 v6_2 v8_4 hc17)) hZ (hw _ (List.mem_of_getElem? (i := 29) rfl)) (hw _ (List.mem_of_getElem? (i := 9) rfl)) (by decide) (by decide)) q25a q25c (g := (mkF m 123 #[.val (.long q1), .second, .val (.long q2), .second, .val (.long q3), .second, .val (.long v6_2), .second, .val (.long v8_4), .second, .val (.ref b7), .val (.int (1 : Int32)), .unset, .unset, .unset] [(.long (v8_4 + (1 : Int64))), (.ref b7)])) rfl (by rw [hml]; rfl) (Steps.refl _) (argsL := [(.long (v8_4 + (1 : Int64)))]) (rest := []) (lenOf own_pd3 rfl) rfl (by show 2 * 0 + _ ≤ _; exact Nat.le_of_eq rfl) (hb hby at_123) (fun _ _ => ⟨rfl, e15, Nat.le_of_ble_eq_true rfl, Nat.le_of_ble_eq_true rfl⟩)
          dsimp only [Pt.U, Pt.locs, Pt.cells, Pt.slots] at X25 l25 y25 z25 st25 hQ25
          subst l25 y25 z25
          obtain ⟨rfl, N25q, e25⟩ := hQ25
          have N25 := Fr.app N15 N25q
          refine own_tr st25 ?_
          show own_Go _ _ _ _ (T25.setTop (mkF m 126 #[.val (.long q1), .second, .val (.long q2), .second, .val (.long q3), .second, .val (.long v6_2), .second, .val (.long v8_4), .second, .val (.ref b7), .val (.int (1 : Int32)), .unset, .unset, .unset] [(.int (0 : Int32))]))
          refine own_by (fun _ k => XS.ifNo X25.here hx rfl (hb hby at_126) rfl ((if0 _ _).trans (teq (by decide)).2) k) ?_
          show own_Go _ _ _ _ (T25.setTop (mkF m 129 #[.val (.long q1), .second, .val (.long q2), .second, .val (.long q3), .second, .val (.long v6_2), .second, .val (.long v8_4), .second, .val (.ref b7), .val (.int (1 : Int32)), .unset, .unset, .unset] []))
          refine own_by (fun _ k => XS.iconst X25.here hx rfl (hb hby at_129) k) ?_
          show own_Go _ _ _ _ (T25.setTop (mkF m 130 #[.val (.long q1), .second, .val (.long q2), .second, .val (.long q3), .second, .val (.long v6_2), .second, .val (.long v8_4), .second, .val (.ref b7), .val (.int (1 : Int32)), .unset, .unset, .unset] [(.int (1 : Int32))]))
          refine own_by (fun _ k => XS.goto X25.here hx rfl (pc0 := 130) (pc' := 134) rfl (hb hby at_130) (by decide) (by decide) k) ?_
          show own_Go _ _ _ _ (T25.setTop (mkF m 134 #[.val (.long q1), .second, .val (.long q2), .second, .val (.long q3), .second, .val (.long v6_2), .second, .val (.long v8_4), .second, .val (.ref b7), .val (.int (1 : Int32)), .unset, .unset, .unset] [(.int (1 : Int32))]))
          refine own_by (fun _ k => XS.istore X25.here hx rfl (hb hby at_134) rfl (l' := #[.val (.long q1), .second, .val (.long q2), .second, .val (.long q3), .second, .val (.long v6_2), .second, .val (.long v8_4), .second, .val (.ref b7), .val (.int (1 : Int32)), .unset, .unset, .unset]) rfl k) ?_
          show own_Go _ _ _ _ (T25.setTop (mkF m 136 #[.val (.long q1), .second, .val (.long q2), .second, .val (.long q3), .second, .val (.long v6_2), .second, .val (.long v8_4), .second, .val (.ref b7), .val (.int (1 : Int32)), .unset, .unset, .unset] []))
          refine own_by (fun _ k => XS.lload X25.here hx rfl (hb hby at_136) rfl k) ?_
          show own_Go _ _ _ _ (T25.setTop (mkF m 138 #[.val (.long q1), .second, .val (.long q2), .second, .val (.long q3), .second, .val (.long v6_2), .second, .val (.long v8_4), .second, .val (.ref b7), .val (.int (1 : Int32)), .unset, .unset, .unset] [(.long v6_2)]))
          refine own_by (fun _ k => XS.iconst X25.here hx rfl (hb hby at_138) k) ?_
          show own_Go _ _ _ _ (T25.setTop (mkF m 139 #[.val (.long q1), .second, .val (.long q2), .second, .val (.long q3), .second, .val (.long v6_2), .second, .val (.long v8_4), .second, .val (.ref b7), .val (.int (1 : Int32)), .unset, .unset, .unset] [(.int (1 : Int32)), (.long v6_2)]))
          refine own_by (fun _ k => XS.lshr X25.here hx rfl (hb hby at_139) rfl k) ?_
          show own_Go _ _ _ _ (T25.setTop (mkF m 140 #[.val (.long q1), .second, .val (.long q2), .second, .val (.long q3), .second, .val (.long v6_2), .second, .val (.long v8_4), .second, .val (.ref b7), .val (.int (1 : Int32)), .unset, .unset, .unset] [(.long (v6_2 >>> ((1 : Int32) &&& 0x3f).toInt64))]))
          refine own_by (fun _ k => XS.lload X25.here hx rfl (hb hby at_140) rfl k) ?_
          show own_Go _ _ _ _ (T25.setTop (mkF m 142 #[.val (.long q1), .second, .val (.long q2), .second, .val (.long q3), .second, .val (.long v6_2), .second, .val (.long v8_4), .second, .val (.ref b7), .val (.int (1 : Int32)), .unset, .unset, .unset] [(.long v8_4), (.long (v6_2 >>> ((1 : Int32) &&& 0x3f).toInt64))]))
          refine own_by (fun _ k => XS.iconst X25.here hx rfl (hb hby at_142) k) ?_
          show own_Go _ _ _ _ (T25.setTop (mkF m 143 #[.val (.long q1), .second, .val (.long q2), .second, .val (.long q3), .second, .val (.long v6_2), .second, .val (.long v8_4), .second, .val (.ref b7), .val (.int (1 : Int32)), .unset, .unset, .unset] [(.int (1 : Int32)), (.long v8_4), (.long (v6_2 >>> ((1 : Int32) &&& 0x3f).toInt64))]))
          refine own_by (fun _ k => XS.lshr X25.here hx rfl (hb hby at_143) rfl k) ?_
          show own_Go _ _ _ _ (T25.setTop (mkF m 144 #[.val (.long q1), .second, .val (.long q2), .second, .val (.long q3), .second, .val (.long v6_2), .second, .val (.long v8_4), .second, .val (.ref b7), .val (.int (1 : Int32)), .unset, .unset, .unset] [(.long (v8_4 >>> ((1 : Int32) &&& 0x3f).toInt64)), (.long (v6_2 >>> ((1 : Int32) &&& 0x3f).toInt64))]))
          refine own_by (fun _ k => XS.ladd X25.here hx rfl (hb hby at_144) rfl k) ?_
          show own_Go _ _ _ _ (T25.setTop (mkF m 145 #[.val (.long q1), .second, .val (.long q2), .second, .val (.long q3), .second, .val (.long v6_2), .second, .val (.long v8_4), .second, .val (.ref b7), .val (.int (1 : Int32)), .unset, .unset, .unset] [(.long ((v6_2 >>> ((1 : Int32) &&& 0x3f).toInt64) + (v8_4 >>> ((1 : Int32) &&& 0x3f).toInt64)))]))
          refine own_by (fun _ k => XS.lload X25.here hx rfl (hb hby at_145) rfl k) ?_
          show own_Go _ _ _ _ (T25.setTop (mkF m 147 #[.val (.long q1), .second, .val (.long q2), .second, .val (.long q3), .second, .val (.long v6_2), .second, .val (.long v8_4), .second, .val (.ref b7), .val (.int (1 : Int32)), .unset, .unset, .unset] [(.long v6_2), (.long ((v6_2 >>> ((1 : Int32) &&& 0x3f).toInt64) + (v8_4 >>> ((1 : Int32) &&& 0x3f).toInt64)))]))
          refine own_by (fun _ k => XS.lload X25.here hx rfl (hb hby at_147) rfl k) ?_
          show own_Go _ _ _ _ (T25.setTop (mkF m 149 #[.val (.long q1), .second, .val (.long q2), .second, .val (.long q3), .second, .val (.long v6_2), .second, .val (.long v8_4), .second, .val (.ref b7), .val (.int (1 : Int32)), .unset, .unset, .unset] [(.long v8_4), (.long v6_2), (.long ((v6_2 >>> ((1 : Int32) &&& 0x3f).toInt64) + (v8_4 >>> ((1 : Int32) &&& 0x3f).toInt64)))]))
          refine own_by (fun _ k => XS.land X25.here hx rfl (hb hby at_149) rfl k) ?_
          show own_Go _ _ _ _ (T25.setTop (mkF m 150 #[.val (.long q1), .second, .val (.long q2), .second, .val (.long q3), .second, .val (.long v6_2), .second, .val (.long v8_4), .second, .val (.ref b7), .val (.int (1 : Int32)), .unset, .unset, .unset] [(.long (v6_2 &&& v8_4)), (.long ((v6_2 >>> ((1 : Int32) &&& 0x3f).toInt64) + (v8_4 >>> ((1 : Int32) &&& 0x3f).toInt64)))]))
          refine own_by (fun _ k => XS.lconst X25.here hx rfl (hb hby at_150) k) ?_
          show own_Go _ _ _ _ (T25.setTop (mkF m 151 #[.val (.long q1), .second, .val (.long q2), .second, .val (.long q3), .second, .val (.long v6_2), .second, .val (.long v8_4), .second, .val (.ref b7), .val (.int (1 : Int32)), .unset, .unset, .unset] [(.long (1 : Int64)), (.long (v6_2 &&& v8_4)), (.long ((v6_2 >>> ((1 : Int32) &&& 0x3f).toInt64) + (v8_4 >>> ((1 : Int32) &&& 0x3f).toInt64)))]))
          refine own_by (fun _ k => XS.land X25.here hx rfl (hb hby at_151) rfl k) ?_
          show own_Go _ _ _ _ (T25.setTop (mkF m 152 #[.val (.long q1), .second, .val (.long q2), .second, .val (.long q3), .second, .val (.long v6_2), .second, .val (.long v8_4), .second, .val (.ref b7), .val (.int (1 : Int32)), .unset, .unset, .unset] [(.long ((v6_2 &&& v8_4) &&& (1 : Int64))), (.long ((v6_2 >>> ((1 : Int32) &&& 0x3f).toInt64) + (v8_4 >>> ((1 : Int32) &&& 0x3f).toInt64)))]))
          refine own_by (fun _ k => XS.ladd X25.here hx rfl (hb hby at_152) rfl k) ?_
          show own_Go _ _ _ _ (T25.setTop (mkF m 153 #[.val (.long q1), .second, .val (.long q2), .second, .val (.long q3), .second, .val (.long v6_2), .second, .val (.long v8_4), .second, .val (.ref b7), .val (.int (1 : Int32)), .unset, .unset, .unset] [(.long (((v6_2 >>> ((1 : Int32) &&& 0x3f).toInt64) + (v8_4 >>> ((1 : Int32) &&& 0x3f).toInt64)) + ((v6_2 &&& v8_4) &&& (1 : Int64))))]))
          obtain ⟨v12_26, hv12_26⟩ : ∃ z_ : Int64, (((v6_2 >>> ((1 : Int32) &&& 0x3f).toInt64) + (v8_4 >>> ((1 : Int32) &&& 0x3f).toInt64)) + ((v6_2 &&& v8_4) &&& (1 : Int64))) = z_ := ⟨_, rfl⟩
          refine own_gen hv12_26 (fun z_ => T25.setTop (mkF m 153 #[.val (.long q1), .second, .val (.long q2), .second, .val (.long q3), .second, .val (.long v6_2), .second, .val (.long v8_4), .second, .val (.ref b7), .val (.int (1 : Int32)), .unset, .unset, .unset] [(.long z_)])) ?_
          refine own_by (fun _ k => XS.lstore X25.here hx rfl (hb hby at_153) rfl (l' := #[.val (.long q1), .second, .val (.long q2), .second, .val (.long q3), .second, .val (.long v6_2), .second, .val (.long v8_4), .second, .val (.ref b7), .val (.int (1 : Int32)), .val (.long v12_26), .second, .unset]) rfl k) ?_
          show own_Go _ _ _ _ (T25.setTop (mkF m 155 #[.val (.long q1), .second, .val (.long q2), .second, .val (.long q3), .second, .val (.long v6_2), .second, .val (.long v8_4), .second, .val (.ref b7), .val (.int (1 : Int32)), .val (.long v12_26), .second, .unset] []))
          refine own_by (fun _ k => XS.iload X25.here hx rfl (hb hby at_155) rfl k) ?_
          show own_Go _ _ _ _ (T25.setTop (mkF m 157 #[.val (.long q1), .second, .val (.long q2), .second, .val (.long q3), .second, .val (.long v6_2), .second, .val (.long v8_4), .second, .val (.ref b7), .val (.int (1 : Int32)), .val (.long v12_26), .second, .unset] [(.int (1 : Int32))]))
          refine own_by (fun _ k => XS.ifNo X25.here hx rfl (hb hby at_157) rfl ((if0 _ _).trans (feq (by decide)).1) k) ?_
          show own_Go _ _ _ _ (T25.setTop (mkF m 160 #[.val (.long q1), .second, .val (.long q2), .second, .val (.long q3), .second, .val (.long v6_2), .second, .val (.long v8_4), .second, .val (.ref b7), .val (.int (1 : Int32)), .val (.long v12_26), .second, .unset] []))
          refine own_by (fun _ k => XS.aload X25.here hx rfl (hb hby at_160) rfl rfl k) ?_
          show own_Go _ _ _ _ (T25.setTop (mkF m 162 #[.val (.long q1), .second, .val (.long q2), .second, .val (.long q3), .second, .val (.long v6_2), .second, .val (.long v8_4), .second, .val (.ref b7), .val (.int (1 : Int32)), .val (.long v12_26), .second, .unset] [(.ref b7)]))
          refine own_by (fun _ k => XS.lload X25.here hx rfl (hb hby at_162) rfl k) ?_
          show own_Go _ _ _ _ (T25.setTop (mkF m 164 #[.val (.long q1), .second, .val (.long q2), .second, .val (.long q3), .second, .val (.long v6_2), .second, .val (.long v8_4), .second, .val (.ref b7), .val (.int (1 : Int32)), .val (.long v12_26), .second, .unset] [(.long v12_26), (.ref b7)]))
          obtain ⟨cq27, kq27, q27a, q27b, q27c⟩ := isOf hZ e25 f11
          obtain ⟨_, _, ⟨T27, L27, k27, n27⟩, -, X27, ⟨Lc27, hQ27, l27, y27, z27⟩, st27⟩ := X25.virtualBack hx (y := (⟨"com/example/time_for_trials/timefortrials/protocol/Workflow$DayWindow", "holds", "(J)Z"⟩ : MethodName)) (z := (⟨"com/example/time_for_trials/timefortrials/protocol/Workflow$DayWindow", "holds", "(J)Z"⟩ : MethodName)) hown (mvT hZ (hw _ (List.mem_of_getElem? (i := 25) rfl))) (mvT hZ (hw _ (List.mem_of_getElem? (i := 26) rfl))) (notFace_of_selects (args := #[]) (mvT hZ (hw _ (List.mem_of_getElem? (i := 28) rfl)))) (mvT hZ (hw _ (List.mem_of_getElem? (i := 28) rfl))) (mvT hZ (hw _ (List.mem_of_getElem? (i := 27) rfl))) (by decide) (backOf (W := 0) (rm6 l Z a0 hw [] b7 v12_26 v6_2 v8_4 (1 : Int32) h10 n0 Z10 F10a F10b (own_h5 v6_2 v8_4 v12_26 (own_fl q1 q2 v6_2 v8_4 hv6_2 hv8_4) hv12_26)) hZ (hw _ (List.mem_of_getElem? (i := 29) rfl)) (hw _ (List.mem_of_getElem? (i := 9) rfl)) (by decide) (by decide)) q27a q27c (g := (mkF m 164 #[.val (.long q1), .second, .val (.long q2), .second, .val (.long q3), .second, .val (.long v6_2), .second, .val (.long v8_4), .second, .val (.ref b7), .val (.int (1 : Int32)), .val (.long v12_26), .second, .unset] [(.long v12_26), (.ref b7)])) rfl (by rw [hml]; rfl) (Steps.refl _) (argsL := [(.long v12_26)]) (rest := []) (lenOf own_pd3 rfl) rfl (by show 2 * 0 + _ ≤ _; exact Nat.le_of_eq rfl) (hb hby at_164) (fun _ _ => ⟨rfl, e25, Nat.le_of_ble_eq_true rfl, Nat.le_of_ble_eq_true rfl⟩)
          dsimp only [Pt.U, Pt.locs, Pt.cells, Pt.slots] at X27 l27 y27 z27 st27 hQ27
          subst l27 y27 z27
          obtain ⟨rfl, N27q, e27⟩ := hQ27
          have N27 := Fr.app N25 N27q
          refine own_tr st27 ?_
          show own_Go _ _ _ _ (T27.setTop (mkF m 167 #[.val (.long q1), .second, .val (.long q2), .second, .val (.long q3), .second, .val (.long v6_2), .second, .val (.long v8_4), .second, .val (.ref b7), .val (.int (1 : Int32)), .val (.long v12_26), .second, .unset] [(.int (1 : Int32))]))
          refine own_by (fun _ k => XS.ifNo X27.here hx rfl (hb hby at_167) rfl ((if0 _ _).trans (feq (by decide)).1) k) ?_
          show own_Go _ _ _ _ (T27.setTop (mkF m 170 #[.val (.long q1), .second, .val (.long q2), .second, .val (.long q3), .second, .val (.long v6_2), .second, .val (.long v8_4), .second, .val (.ref b7), .val (.int (1 : Int32)), .val (.long v12_26), .second, .unset] []))
          refine own_by (fun _ k => XS.iconst X27.here hx rfl (hb hby at_170) k) ?_
          show own_Go _ _ _ _ (T27.setTop (mkF m 171 #[.val (.long q1), .second, .val (.long q2), .second, .val (.long q3), .second, .val (.long v6_2), .second, .val (.long v8_4), .second, .val (.ref b7), .val (.int (1 : Int32)), .val (.long v12_26), .second, .unset] [(.int (1 : Int32))]))
          refine own_by (fun _ k => XS.goto X27.here hx rfl (pc0 := 171) (pc' := 175) rfl (hb hby at_171) (by decide) (by decide) k) ?_
          show own_Go _ _ _ _ (T27.setTop (mkF m 175 #[.val (.long q1), .second, .val (.long q2), .second, .val (.long q3), .second, .val (.long v6_2), .second, .val (.long v8_4), .second, .val (.ref b7), .val (.int (1 : Int32)), .val (.long v12_26), .second, .unset] [(.int (1 : Int32))]))
          refine own_by (fun _ k => XS.istore X27.here hx rfl (hb hby at_175) rfl (l' := #[.val (.long q1), .second, .val (.long q2), .second, .val (.long q3), .second, .val (.long v6_2), .second, .val (.long v8_4), .second, .val (.ref b7), .val (.int (1 : Int32)), .val (.long v12_26), .second, .unset]) rfl k) ?_
          show own_Go _ _ _ _ (T27.setTop (mkF m 177 #[.val (.long q1), .second, .val (.long q2), .second, .val (.long q3), .second, .val (.long v6_2), .second, .val (.long v8_4), .second, .val (.ref b7), .val (.int (1 : Int32)), .val (.long v12_26), .second, .unset] []))
          refine own_by (fun _ k => XS.lload X27.here hx rfl (hb hby at_177) rfl k) ?_
          show own_Go _ _ _ _ (T27.setTop (mkF m 179 #[.val (.long q1), .second, .val (.long q2), .second, .val (.long q3), .second, .val (.long v6_2), .second, .val (.long v8_4), .second, .val (.ref b7), .val (.int (1 : Int32)), .val (.long v12_26), .second, .unset] [(.long q3)]))
          refine own_by (fun _ k => XS.lload X27.here hx rfl (hb hby at_179) rfl k) ?_
          show own_Go _ _ _ _ (T27.setTop (mkF m 181 #[.val (.long q1), .second, .val (.long q2), .second, .val (.long q3), .second, .val (.long v6_2), .second, .val (.long v8_4), .second, .val (.ref b7), .val (.int (1 : Int32)), .val (.long v12_26), .second, .unset] [(.long v6_2), (.long q3)]))
          refine own_by (fun _ k => XS.lcmp X27.here hx rfl (hb hby at_181) rfl k) ?_
          show own_Go _ _ _ _ (T27.setTop (mkF m 182 #[.val (.long q1), .second, .val (.long q2), .second, .val (.long q3), .second, .val (.long v6_2), .second, .val (.long v8_4), .second, .val (.ref b7), .val (.int (1 : Int32)), .val (.long v12_26), .second, .unset] [(.int (lcmpW q3 v6_2))]))
          by_cases hc28 : q3 < v6_2
          · --
            refine own_by (fun _ k => XS.ifNo X27.here hx rfl (hb hby at_182) rfl ((if0 _ _).trans (tlt ((lw_lt _ _).mpr hc28)).2.1) k) ?_
            show own_Go _ _ _ _ (T27.setTop (mkF m 185 #[.val (.long q1), .second, .val (.long q2), .second, .val (.long q3), .second, .val (.long v6_2), .second, .val (.long v8_4), .second, .val (.ref b7), .val (.int (1 : Int32)), .val (.long v12_26), .second, .unset] []))
            refine own_by (fun _ k => XS.iconst X27.here hx rfl (hb hby at_185) k) ?_
            show own_Go _ _ _ _ (T27.setTop (mkF m 186 #[.val (.long q1), .second, .val (.long q2), .second, .val (.long q3), .second, .val (.long v6_2), .second, .val (.long v8_4), .second, .val (.ref b7), .val (.int (1 : Int32)), .val (.long v12_26), .second, .unset] [(.int (0 : Int32))]))
            refine own_by (fun _ k => XS.istore X27.here hx rfl (hb hby at_186) rfl (l' := #[.val (.long q1), .second, .val (.long q2), .second, .val (.long q3), .second, .val (.long v6_2), .second, .val (.long v8_4), .second, .val (.ref b7), .val (.int (1 : Int32)), .val (.long v12_26), .second, .val (.int (0 : Int32))]) rfl k) ?_
            show own_Go _ _ _ _ (T27.setTop (mkF m 188 #[.val (.long q1), .second, .val (.long q2), .second, .val (.long q3), .second, .val (.long v6_2), .second, .val (.long v8_4), .second, .val (.ref b7), .val (.int (1 : Int32)), .val (.long v12_26), .second, .val (.int (0 : Int32))] []))
            refine own_by (fun _ k => XS.goto X27.here hx rfl (pc0 := 188) (pc' := 208) rfl (hb hby at_188) (by decide) (by decide) k) ?_
            show own_Go _ _ _ _ (T27.setTop (mkF m 208 #[.val (.long q1), .second, .val (.long q2), .second, .val (.long q3), .second, .val (.long v6_2), .second, .val (.long v8_4), .second, .val (.ref b7), .val (.int (1 : Int32)), .val (.long v12_26), .second, .val (.int (0 : Int32))] []))
            refine own_by (fun _ k => XS.iload X27.here hx rfl (hb hby at_208) rfl k) ?_
            show own_Go _ _ _ _ (T27.setTop (mkF m 210 #[.val (.long q1), .second, .val (.long q2), .second, .val (.long q3), .second, .val (.long v6_2), .second, .val (.long v8_4), .second, .val (.ref b7), .val (.int (1 : Int32)), .val (.long v12_26), .second, .val (.int (0 : Int32))] [(.int (1 : Int32))]))
            refine own_by (fun _ k => XS.ifNo X27.here hx rfl (hb hby at_210) rfl ((if0 _ _).trans (feq (by decide)).1) k) ?_
            show own_Go _ _ _ _ (T27.setTop (mkF m 213 #[.val (.long q1), .second, .val (.long q2), .second, .val (.long q3), .second, .val (.long v6_2), .second, .val (.long v8_4), .second, .val (.ref b7), .val (.int (1 : Int32)), .val (.long v12_26), .second, .val (.int (0 : Int32))] []))
            refine own_by (fun _ k => XS.aload X27.here hx rfl (hb hby at_213) rfl rfl k) ?_
            show own_Go _ _ _ _ (T27.setTop (mkF m 215 #[.val (.long q1), .second, .val (.long q2), .second, .val (.long q3), .second, .val (.long v6_2), .second, .val (.long v8_4), .second, .val (.ref b7), .val (.int (1 : Int32)), .val (.long v12_26), .second, .val (.int (0 : Int32))] [(.ref b7)]))
            refine own_by (fun _ k => XS.lload X27.here hx rfl (hb hby at_215) rfl k) ?_
            show own_Go _ _ _ _ (T27.setTop (mkF m 217 #[.val (.long q1), .second, .val (.long q2), .second, .val (.long q3), .second, .val (.long v6_2), .second, .val (.long v8_4), .second, .val (.ref b7), .val (.int (1 : Int32)), .val (.long v12_26), .second, .val (.int (0 : Int32))] [(.long q3), (.ref b7)]))
            obtain ⟨cq29, kq29, q29a, q29b, q29c⟩ := isOf hZ e27 f11
            obtain ⟨_, _, ⟨T29, L29, k29, n29⟩, -, X29, ⟨Lc29, hQ29, l29, y29, z29⟩, st29⟩ := X27.virtualBack hx (y := (⟨"com/example/time_for_trials/timefortrials/protocol/Workflow$DayWindow", "holds", "(J)Z"⟩ : MethodName)) (z := (⟨"com/example/time_for_trials/timefortrials/protocol/Workflow$DayWindow", "holds", "(J)Z"⟩ : MethodName)) hown (mvT hZ (hw _ (List.mem_of_getElem? (i := 25) rfl))) (mvT hZ (hw _ (List.mem_of_getElem? (i := 26) rfl))) (notFace_of_selects (args := #[]) (mvT hZ (hw _ (List.mem_of_getElem? (i := 28) rfl)))) (mvT hZ (hw _ (List.mem_of_getElem? (i := 28) rfl))) (mvT hZ (hw _ (List.mem_of_getElem? (i := 27) rfl))) (by decide) (backOf (W := 0) (rm6 l Z a0 hw [] b7 q3 v6_2 v8_4 (0 : Int32) h10 n0 Z10 F10a F10b (by simp [own_H, hc28])) hZ (hw _ (List.mem_of_getElem? (i := 29) rfl)) (hw _ (List.mem_of_getElem? (i := 9) rfl)) (by decide) (by decide)) q29a q29c (g := (mkF m 217 #[.val (.long q1), .second, .val (.long q2), .second, .val (.long q3), .second, .val (.long v6_2), .second, .val (.long v8_4), .second, .val (.ref b7), .val (.int (1 : Int32)), .val (.long v12_26), .second, .val (.int (0 : Int32))] [(.long q3), (.ref b7)])) rfl (by rw [hml]; rfl) (Steps.refl _) (argsL := [(.long q3)]) (rest := []) (lenOf own_pd3 rfl) rfl (by show 2 * 0 + _ ≤ _; exact Nat.le_of_eq rfl) (hb hby at_217) (fun _ _ => ⟨rfl, e27, Nat.le_of_ble_eq_true rfl, Nat.le_of_ble_eq_true rfl⟩)
            dsimp only [Pt.U, Pt.locs, Pt.cells, Pt.slots] at X29 l29 y29 z29 st29 hQ29
            subst l29 y29 z29
            obtain ⟨rfl, N29q, e29⟩ := hQ29
            have N29 := Fr.app N27 N29q
            refine own_tr st29 ?_
            show own_Go _ _ _ _ (T29.setTop (mkF m 220 #[.val (.long q1), .second, .val (.long q2), .second, .val (.long q3), .second, .val (.long v6_2), .second, .val (.long v8_4), .second, .val (.ref b7), .val (.int (1 : Int32)), .val (.long v12_26), .second, .val (.int (0 : Int32))] [(.int (0 : Int32))]))
            refine own_by (fun _ k => XS.iload X29.here hx rfl (hb hby at_220) rfl k) ?_
            show own_Go _ _ _ _ (T29.setTop (mkF m 222 #[.val (.long q1), .second, .val (.long q2), .second, .val (.long q3), .second, .val (.long v6_2), .second, .val (.long v8_4), .second, .val (.ref b7), .val (.int (1 : Int32)), .val (.long v12_26), .second, .val (.int (0 : Int32))] [(.int (0 : Int32)), (.int (0 : Int32))]))
            refine own_by (fun _ k => XS.icmpNo X29.here hx rfl (hb hby at_222) rfl (teq (by decide)).2 k) ?_
            show own_Go _ _ _ _ (T29.setTop (mkF m 225 #[.val (.long q1), .second, .val (.long q2), .second, .val (.long q3), .second, .val (.long v6_2), .second, .val (.long v8_4), .second, .val (.ref b7), .val (.int (1 : Int32)), .val (.long v12_26), .second, .val (.int (0 : Int32))] []))
            refine own_by (fun _ k => XS.iconst X29.here hx rfl (hb hby at_225) k) ?_
            show own_Go _ _ _ _ (T29.setTop (mkF m 226 #[.val (.long q1), .second, .val (.long q2), .second, .val (.long q3), .second, .val (.long v6_2), .second, .val (.long v8_4), .second, .val (.ref b7), .val (.int (1 : Int32)), .val (.long v12_26), .second, .val (.int (0 : Int32))] [(.int (1 : Int32))]))
            refine own_by (fun _ k => XS.goto X29.here hx rfl (pc0 := 226) (pc' := 230) rfl (hb hby at_226) (by decide) (by decide) k) ?_
            show own_Go _ _ _ _ (T29.setTop (mkF m 230 #[.val (.long q1), .second, .val (.long q2), .second, .val (.long q3), .second, .val (.long v6_2), .second, .val (.long v8_4), .second, .val (.ref b7), .val (.int (1 : Int32)), .val (.long v12_26), .second, .val (.int (0 : Int32))] [(.int (1 : Int32))]))
            exact own_retN X29 hx Bd.notSynchronized e29 Bd.returns (by simp) (hb hby at_230) (⟨rfl, N29⟩) (by decide) (by decide)
          · --
            refine own_by (fun _ k => XS.ifYes X27.here hx rfl (pc0 := 182) (pc' := 191) rfl (hb hby at_182) rfl ((if0 _ _).trans (flt (mt (lw_lt _ _).mp hc28)).2.1) (by decide) (by decide) k) ?_
            show own_Go _ _ _ _ (T27.setTop (mkF m 191 #[.val (.long q1), .second, .val (.long q2), .second, .val (.long q3), .second, .val (.long v6_2), .second, .val (.long v8_4), .second, .val (.ref b7), .val (.int (1 : Int32)), .val (.long v12_26), .second, .unset] []))
            refine own_by (fun _ k => XS.lload X27.here hx rfl (hb hby at_191) rfl k) ?_
            show own_Go _ _ _ _ (T27.setTop (mkF m 193 #[.val (.long q1), .second, .val (.long q2), .second, .val (.long q3), .second, .val (.long v6_2), .second, .val (.long v8_4), .second, .val (.ref b7), .val (.int (1 : Int32)), .val (.long v12_26), .second, .unset] [(.long q3)]))
            refine own_by (fun _ k => XS.lload X27.here hx rfl (hb hby at_193) rfl k) ?_
            show own_Go _ _ _ _ (T27.setTop (mkF m 195 #[.val (.long q1), .second, .val (.long q2), .second, .val (.long q3), .second, .val (.long v6_2), .second, .val (.long v8_4), .second, .val (.ref b7), .val (.int (1 : Int32)), .val (.long v12_26), .second, .unset] [(.long v8_4), (.long q3)]))
            refine own_by (fun _ k => XS.lcmp X27.here hx rfl (hb hby at_195) rfl k) ?_
            show own_Go _ _ _ _ (T27.setTop (mkF m 196 #[.val (.long q1), .second, .val (.long q2), .second, .val (.long q3), .second, .val (.long v6_2), .second, .val (.long v8_4), .second, .val (.ref b7), .val (.int (1 : Int32)), .val (.long v12_26), .second, .unset] [(.int (lcmpW q3 v8_4))]))
            by_cases hc30 : v8_4 < q3
            · --
              refine own_by (fun _ k => XS.ifNo X27.here hx rfl (hb hby at_196) rfl ((if0 _ _).trans (tlt ((lw_gt _ _).mpr hc30)).2.2.2) k) ?_
              show own_Go _ _ _ _ (T27.setTop (mkF m 199 #[.val (.long q1), .second, .val (.long q2), .second, .val (.long q3), .second, .val (.long v6_2), .second, .val (.long v8_4), .second, .val (.ref b7), .val (.int (1 : Int32)), .val (.long v12_26), .second, .unset] []))
              refine own_by (fun _ k => XS.iconst X27.here hx rfl (hb hby at_199) k) ?_
              show own_Go _ _ _ _ (T27.setTop (mkF m 200 #[.val (.long q1), .second, .val (.long q2), .second, .val (.long q3), .second, .val (.long v6_2), .second, .val (.long v8_4), .second, .val (.ref b7), .val (.int (1 : Int32)), .val (.long v12_26), .second, .unset] [(.int (0 : Int32))]))
              refine own_by (fun _ k => XS.istore X27.here hx rfl (hb hby at_200) rfl (l' := #[.val (.long q1), .second, .val (.long q2), .second, .val (.long q3), .second, .val (.long v6_2), .second, .val (.long v8_4), .second, .val (.ref b7), .val (.int (1 : Int32)), .val (.long v12_26), .second, .val (.int (0 : Int32))]) rfl k) ?_
              show own_Go _ _ _ _ (T27.setTop (mkF m 202 #[.val (.long q1), .second, .val (.long q2), .second, .val (.long q3), .second, .val (.long v6_2), .second, .val (.long v8_4), .second, .val (.ref b7), .val (.int (1 : Int32)), .val (.long v12_26), .second, .val (.int (0 : Int32))] []))
              refine own_by (fun _ k => XS.goto X27.here hx rfl (pc0 := 202) (pc' := 208) rfl (hb hby at_202) (by decide) (by decide) k) ?_
              show own_Go _ _ _ _ (T27.setTop (mkF m 208 #[.val (.long q1), .second, .val (.long q2), .second, .val (.long q3), .second, .val (.long v6_2), .second, .val (.long v8_4), .second, .val (.ref b7), .val (.int (1 : Int32)), .val (.long v12_26), .second, .val (.int (0 : Int32))] []))
              refine own_by (fun _ k => XS.iload X27.here hx rfl (hb hby at_208) rfl k) ?_
              show own_Go _ _ _ _ (T27.setTop (mkF m 210 #[.val (.long q1), .second, .val (.long q2), .second, .val (.long q3), .second, .val (.long v6_2), .second, .val (.long v8_4), .second, .val (.ref b7), .val (.int (1 : Int32)), .val (.long v12_26), .second, .val (.int (0 : Int32))] [(.int (1 : Int32))]))
              refine own_by (fun _ k => XS.ifNo X27.here hx rfl (hb hby at_210) rfl ((if0 _ _).trans (feq (by decide)).1) k) ?_
              show own_Go _ _ _ _ (T27.setTop (mkF m 213 #[.val (.long q1), .second, .val (.long q2), .second, .val (.long q3), .second, .val (.long v6_2), .second, .val (.long v8_4), .second, .val (.ref b7), .val (.int (1 : Int32)), .val (.long v12_26), .second, .val (.int (0 : Int32))] []))
              refine own_by (fun _ k => XS.aload X27.here hx rfl (hb hby at_213) rfl rfl k) ?_
              show own_Go _ _ _ _ (T27.setTop (mkF m 215 #[.val (.long q1), .second, .val (.long q2), .second, .val (.long q3), .second, .val (.long v6_2), .second, .val (.long v8_4), .second, .val (.ref b7), .val (.int (1 : Int32)), .val (.long v12_26), .second, .val (.int (0 : Int32))] [(.ref b7)]))
              refine own_by (fun _ k => XS.lload X27.here hx rfl (hb hby at_215) rfl k) ?_
              show own_Go _ _ _ _ (T27.setTop (mkF m 217 #[.val (.long q1), .second, .val (.long q2), .second, .val (.long q3), .second, .val (.long v6_2), .second, .val (.long v8_4), .second, .val (.ref b7), .val (.int (1 : Int32)), .val (.long v12_26), .second, .val (.int (0 : Int32))] [(.long q3), (.ref b7)]))
              obtain ⟨cq31, kq31, q31a, q31b, q31c⟩ := isOf hZ e27 f11
              obtain ⟨_, _, ⟨T31, L31, k31, n31⟩, -, X31, ⟨Lc31, hQ31, l31, y31, z31⟩, st31⟩ := X27.virtualBack hx (y := (⟨"com/example/time_for_trials/timefortrials/protocol/Workflow$DayWindow", "holds", "(J)Z"⟩ : MethodName)) (z := (⟨"com/example/time_for_trials/timefortrials/protocol/Workflow$DayWindow", "holds", "(J)Z"⟩ : MethodName)) hown (mvT hZ (hw _ (List.mem_of_getElem? (i := 25) rfl))) (mvT hZ (hw _ (List.mem_of_getElem? (i := 26) rfl))) (notFace_of_selects (args := #[]) (mvT hZ (hw _ (List.mem_of_getElem? (i := 28) rfl)))) (mvT hZ (hw _ (List.mem_of_getElem? (i := 28) rfl))) (mvT hZ (hw _ (List.mem_of_getElem? (i := 27) rfl))) (by decide) (backOf (W := 0) (rm6 l Z a0 hw [] b7 q3 v6_2 v8_4 (0 : Int32) h10 n0 Z10 F10a F10b (by simp [own_H, hc28, hc30])) hZ (hw _ (List.mem_of_getElem? (i := 29) rfl)) (hw _ (List.mem_of_getElem? (i := 9) rfl)) (by decide) (by decide)) q31a q31c (g := (mkF m 217 #[.val (.long q1), .second, .val (.long q2), .second, .val (.long q3), .second, .val (.long v6_2), .second, .val (.long v8_4), .second, .val (.ref b7), .val (.int (1 : Int32)), .val (.long v12_26), .second, .val (.int (0 : Int32))] [(.long q3), (.ref b7)])) rfl (by rw [hml]; rfl) (Steps.refl _) (argsL := [(.long q3)]) (rest := []) (lenOf own_pd3 rfl) rfl (by show 2 * 0 + _ ≤ _; exact Nat.le_of_eq rfl) (hb hby at_217) (fun _ _ => ⟨rfl, e27, Nat.le_of_ble_eq_true rfl, Nat.le_of_ble_eq_true rfl⟩)
              dsimp only [Pt.U, Pt.locs, Pt.cells, Pt.slots] at X31 l31 y31 z31 st31 hQ31
              subst l31 y31 z31
              obtain ⟨rfl, N31q, e31⟩ := hQ31
              have N31 := Fr.app N27 N31q
              refine own_tr st31 ?_
              show own_Go _ _ _ _ (T31.setTop (mkF m 220 #[.val (.long q1), .second, .val (.long q2), .second, .val (.long q3), .second, .val (.long v6_2), .second, .val (.long v8_4), .second, .val (.ref b7), .val (.int (1 : Int32)), .val (.long v12_26), .second, .val (.int (0 : Int32))] [(.int (0 : Int32))]))
              refine own_by (fun _ k => XS.iload X31.here hx rfl (hb hby at_220) rfl k) ?_
              show own_Go _ _ _ _ (T31.setTop (mkF m 222 #[.val (.long q1), .second, .val (.long q2), .second, .val (.long q3), .second, .val (.long v6_2), .second, .val (.long v8_4), .second, .val (.ref b7), .val (.int (1 : Int32)), .val (.long v12_26), .second, .val (.int (0 : Int32))] [(.int (0 : Int32)), (.int (0 : Int32))]))
              refine own_by (fun _ k => XS.icmpNo X31.here hx rfl (hb hby at_222) rfl (teq (by decide)).2 k) ?_
              show own_Go _ _ _ _ (T31.setTop (mkF m 225 #[.val (.long q1), .second, .val (.long q2), .second, .val (.long q3), .second, .val (.long v6_2), .second, .val (.long v8_4), .second, .val (.ref b7), .val (.int (1 : Int32)), .val (.long v12_26), .second, .val (.int (0 : Int32))] []))
              refine own_by (fun _ k => XS.iconst X31.here hx rfl (hb hby at_225) k) ?_
              show own_Go _ _ _ _ (T31.setTop (mkF m 226 #[.val (.long q1), .second, .val (.long q2), .second, .val (.long q3), .second, .val (.long v6_2), .second, .val (.long v8_4), .second, .val (.ref b7), .val (.int (1 : Int32)), .val (.long v12_26), .second, .val (.int (0 : Int32))] [(.int (1 : Int32))]))
              refine own_by (fun _ k => XS.goto X31.here hx rfl (pc0 := 226) (pc' := 230) rfl (hb hby at_226) (by decide) (by decide) k) ?_
              show own_Go _ _ _ _ (T31.setTop (mkF m 230 #[.val (.long q1), .second, .val (.long q2), .second, .val (.long q3), .second, .val (.long v6_2), .second, .val (.long v8_4), .second, .val (.ref b7), .val (.int (1 : Int32)), .val (.long v12_26), .second, .val (.int (0 : Int32))] [(.int (1 : Int32))]))
              exact own_retN X31 hx Bd.notSynchronized e31 Bd.returns (by simp) (hb hby at_230) (⟨rfl, N31⟩) (by decide) (by decide)
            · --
              refine own_by (fun _ k => XS.ifYes X27.here hx rfl (pc0 := 196) (pc' := 205) rfl (hb hby at_196) rfl ((if0 _ _).trans (flt (mt (lw_gt _ _).mp hc30)).2.2.2) (by decide) (by decide) k) ?_
              show own_Go _ _ _ _ (T27.setTop (mkF m 205 #[.val (.long q1), .second, .val (.long q2), .second, .val (.long q3), .second, .val (.long v6_2), .second, .val (.long v8_4), .second, .val (.ref b7), .val (.int (1 : Int32)), .val (.long v12_26), .second, .unset] []))
              refine own_by (fun _ k => XS.iconst X27.here hx rfl (hb hby at_205) k) ?_
              show own_Go _ _ _ _ (T27.setTop (mkF m 206 #[.val (.long q1), .second, .val (.long q2), .second, .val (.long q3), .second, .val (.long v6_2), .second, .val (.long v8_4), .second, .val (.ref b7), .val (.int (1 : Int32)), .val (.long v12_26), .second, .unset] [(.int (1 : Int32))]))
              refine own_by (fun _ k => XS.istore X27.here hx rfl (hb hby at_206) rfl (l' := #[.val (.long q1), .second, .val (.long q2), .second, .val (.long q3), .second, .val (.long v6_2), .second, .val (.long v8_4), .second, .val (.ref b7), .val (.int (1 : Int32)), .val (.long v12_26), .second, .val (.int (1 : Int32))]) rfl k) ?_
              show own_Go _ _ _ _ (T27.setTop (mkF m 208 #[.val (.long q1), .second, .val (.long q2), .second, .val (.long q3), .second, .val (.long v6_2), .second, .val (.long v8_4), .second, .val (.ref b7), .val (.int (1 : Int32)), .val (.long v12_26), .second, .val (.int (1 : Int32))] []))
              refine own_by (fun _ k => XS.iload X27.here hx rfl (hb hby at_208) rfl k) ?_
              show own_Go _ _ _ _ (T27.setTop (mkF m 210 #[.val (.long q1), .second, .val (.long q2), .second, .val (.long q3), .second, .val (.long v6_2), .second, .val (.long v8_4), .second, .val (.ref b7), .val (.int (1 : Int32)), .val (.long v12_26), .second, .val (.int (1 : Int32))] [(.int (1 : Int32))]))
              refine own_by (fun _ k => XS.ifNo X27.here hx rfl (hb hby at_210) rfl ((if0 _ _).trans (feq (by decide)).1) k) ?_
              show own_Go _ _ _ _ (T27.setTop (mkF m 213 #[.val (.long q1), .second, .val (.long q2), .second, .val (.long q3), .second, .val (.long v6_2), .second, .val (.long v8_4), .second, .val (.ref b7), .val (.int (1 : Int32)), .val (.long v12_26), .second, .val (.int (1 : Int32))] []))
              refine own_by (fun _ k => XS.aload X27.here hx rfl (hb hby at_213) rfl rfl k) ?_
              show own_Go _ _ _ _ (T27.setTop (mkF m 215 #[.val (.long q1), .second, .val (.long q2), .second, .val (.long q3), .second, .val (.long v6_2), .second, .val (.long v8_4), .second, .val (.ref b7), .val (.int (1 : Int32)), .val (.long v12_26), .second, .val (.int (1 : Int32))] [(.ref b7)]))
              refine own_by (fun _ k => XS.lload X27.here hx rfl (hb hby at_215) rfl k) ?_
              show own_Go _ _ _ _ (T27.setTop (mkF m 217 #[.val (.long q1), .second, .val (.long q2), .second, .val (.long q3), .second, .val (.long v6_2), .second, .val (.long v8_4), .second, .val (.ref b7), .val (.int (1 : Int32)), .val (.long v12_26), .second, .val (.int (1 : Int32))] [(.long q3), (.ref b7)]))
              obtain ⟨cq32, kq32, q32a, q32b, q32c⟩ := isOf hZ e27 f11
              obtain ⟨_, _, ⟨T32, L32, k32, n32⟩, -, X32, ⟨Lc32, hQ32, l32, y32, z32⟩, st32⟩ := X27.virtualBack hx (y := (⟨"com/example/time_for_trials/timefortrials/protocol/Workflow$DayWindow", "holds", "(J)Z"⟩ : MethodName)) (z := (⟨"com/example/time_for_trials/timefortrials/protocol/Workflow$DayWindow", "holds", "(J)Z"⟩ : MethodName)) hown (mvT hZ (hw _ (List.mem_of_getElem? (i := 25) rfl))) (mvT hZ (hw _ (List.mem_of_getElem? (i := 26) rfl))) (notFace_of_selects (args := #[]) (mvT hZ (hw _ (List.mem_of_getElem? (i := 28) rfl)))) (mvT hZ (hw _ (List.mem_of_getElem? (i := 28) rfl))) (mvT hZ (hw _ (List.mem_of_getElem? (i := 27) rfl))) (by decide) (backOf (W := 0) (rm6 l Z a0 hw [] b7 q3 v6_2 v8_4 (1 : Int32) h10 n0 Z10 F10a F10b (by simp [own_H, hc28, hc30])) hZ (hw _ (List.mem_of_getElem? (i := 29) rfl)) (hw _ (List.mem_of_getElem? (i := 9) rfl)) (by decide) (by decide)) q32a q32c (g := (mkF m 217 #[.val (.long q1), .second, .val (.long q2), .second, .val (.long q3), .second, .val (.long v6_2), .second, .val (.long v8_4), .second, .val (.ref b7), .val (.int (1 : Int32)), .val (.long v12_26), .second, .val (.int (1 : Int32))] [(.long q3), (.ref b7)])) rfl (by rw [hml]; rfl) (Steps.refl _) (argsL := [(.long q3)]) (rest := []) (lenOf own_pd3 rfl) rfl (by show 2 * 0 + _ ≤ _; exact Nat.le_of_eq rfl) (hb hby at_217) (fun _ _ => ⟨rfl, e27, Nat.le_of_ble_eq_true rfl, Nat.le_of_ble_eq_true rfl⟩)
              dsimp only [Pt.U, Pt.locs, Pt.cells, Pt.slots] at X32 l32 y32 z32 st32 hQ32
              subst l32 y32 z32
              obtain ⟨rfl, N32q, e32⟩ := hQ32
              have N32 := Fr.app N27 N32q
              refine own_tr st32 ?_
              show own_Go _ _ _ _ (T32.setTop (mkF m 220 #[.val (.long q1), .second, .val (.long q2), .second, .val (.long q3), .second, .val (.long v6_2), .second, .val (.long v8_4), .second, .val (.ref b7), .val (.int (1 : Int32)), .val (.long v12_26), .second, .val (.int (1 : Int32))] [(.int (1 : Int32))]))
              refine own_by (fun _ k => XS.iload X32.here hx rfl (hb hby at_220) rfl k) ?_
              show own_Go _ _ _ _ (T32.setTop (mkF m 222 #[.val (.long q1), .second, .val (.long q2), .second, .val (.long q3), .second, .val (.long v6_2), .second, .val (.long v8_4), .second, .val (.ref b7), .val (.int (1 : Int32)), .val (.long v12_26), .second, .val (.int (1 : Int32))] [(.int (1 : Int32)), (.int (1 : Int32))]))
              refine own_by (fun _ k => XS.icmpNo X32.here hx rfl (hb hby at_222) rfl (teq (by decide)).2 k) ?_
              show own_Go _ _ _ _ (T32.setTop (mkF m 225 #[.val (.long q1), .second, .val (.long q2), .second, .val (.long q3), .second, .val (.long v6_2), .second, .val (.long v8_4), .second, .val (.ref b7), .val (.int (1 : Int32)), .val (.long v12_26), .second, .val (.int (1 : Int32))] []))
              refine own_by (fun _ k => XS.iconst X32.here hx rfl (hb hby at_225) k) ?_
              show own_Go _ _ _ _ (T32.setTop (mkF m 226 #[.val (.long q1), .second, .val (.long q2), .second, .val (.long q3), .second, .val (.long v6_2), .second, .val (.long v8_4), .second, .val (.ref b7), .val (.int (1 : Int32)), .val (.long v12_26), .second, .val (.int (1 : Int32))] [(.int (1 : Int32))]))
              refine own_by (fun _ k => XS.goto X32.here hx rfl (pc0 := 226) (pc' := 230) rfl (hb hby at_226) (by decide) (by decide) k) ?_
              show own_Go _ _ _ _ (T32.setTop (mkF m 230 #[.val (.long q1), .second, .val (.long q2), .second, .val (.long q3), .second, .val (.long v6_2), .second, .val (.long v8_4), .second, .val (.ref b7), .val (.int (1 : Int32)), .val (.long v12_26), .second, .val (.int (1 : Int32))] [(.int (1 : Int32))]))
              exact own_retN X32 hx Bd.notSynchronized e32 Bd.returns (by simp) (hb hby at_230) (⟨rfl, N32⟩) (by decide) (by decide)
      · --
        refine own_by (fun _ k => XS.ifNo X15.here hx rfl (hb hby at_76) rfl ((if0 _ _).trans (feq (mt (lw_eq _ _).mp hc16)).1) k) ?_
        show own_Go _ _ _ _ (T15.setTop (mkF m 79 #[.val (.long q1), .second, .val (.long q2), .second, .val (.long q3), .second, .val (.long v6_2), .second, .val (.long v8_4), .second, .val (.ref b7), .val (.int (1 : Int32)), .unset, .unset, .unset] []))
        refine own_by (fun _ k => XS.iload X15.here hx rfl (hb hby at_79) rfl k) ?_
        show own_Go _ _ _ _ (T15.setTop (mkF m 81 #[.val (.long q1), .second, .val (.long q2), .second, .val (.long q3), .second, .val (.long v6_2), .second, .val (.long v8_4), .second, .val (.ref b7), .val (.int (1 : Int32)), .unset, .unset, .unset] [(.int (1 : Int32))]))
        refine own_by (fun _ k => XS.ifNo X15.here hx rfl (hb hby at_81) rfl ((if0 _ _).trans (feq (by decide)).1) k) ?_
        show own_Go _ _ _ _ (T15.setTop (mkF m 84 #[.val (.long q1), .second, .val (.long q2), .second, .val (.long q3), .second, .val (.long v6_2), .second, .val (.long v8_4), .second, .val (.ref b7), .val (.int (1 : Int32)), .unset, .unset, .unset] []))
        refine own_by (fun _ k => XS.aload X15.here hx rfl (hb hby at_84) rfl rfl k) ?_
        show own_Go _ _ _ _ (T15.setTop (mkF m 86 #[.val (.long q1), .second, .val (.long q2), .second, .val (.long q3), .second, .val (.long v6_2), .second, .val (.long v8_4), .second, .val (.ref b7), .val (.int (1 : Int32)), .unset, .unset, .unset] [(.ref b7)]))
        refine own_by (fun _ k => XS.lload X15.here hx rfl (hb hby at_86) rfl k) ?_
        show own_Go _ _ _ _ (T15.setTop (mkF m 88 #[.val (.long q1), .second, .val (.long q2), .second, .val (.long q3), .second, .val (.long v6_2), .second, .val (.long v8_4), .second, .val (.ref b7), .val (.int (1 : Int32)), .unset, .unset, .unset] [(.long v6_2), (.ref b7)]))
        refine own_by (fun _ k => XS.lconst X15.here hx rfl (hb hby at_88) k) ?_
        show own_Go _ _ _ _ (T15.setTop (mkF m 89 #[.val (.long q1), .second, .val (.long q2), .second, .val (.long q3), .second, .val (.long v6_2), .second, .val (.long v8_4), .second, .val (.ref b7), .val (.int (1 : Int32)), .unset, .unset, .unset] [(.long (1 : Int64)), (.long v6_2), (.ref b7)]))
        refine own_by (fun _ k => XS.lsub X15.here hx rfl (hb hby at_89) rfl k) ?_
        show own_Go _ _ _ _ (T15.setTop (mkF m 90 #[.val (.long q1), .second, .val (.long q2), .second, .val (.long q3), .second, .val (.long v6_2), .second, .val (.long v8_4), .second, .val (.ref b7), .val (.int (1 : Int32)), .unset, .unset, .unset] [(.long (v6_2 - (1 : Int64))), (.ref b7)]))
        obtain ⟨cq33, kq33, q33a, q33b, q33c⟩ := isOf hZ e15 f11
        obtain ⟨_, _, ⟨T33, L33, k33, n33⟩, -, X33, ⟨Lc33, hQ33, l33, y33, z33⟩, st33⟩ := X15.virtualBack hx (y := (⟨"com/example/time_for_trials/timefortrials/protocol/Workflow$DayWindow", "holds", "(J)Z"⟩ : MethodName)) (z := (⟨"com/example/time_for_trials/timefortrials/protocol/Workflow$DayWindow", "holds", "(J)Z"⟩ : MethodName)) hown (mvT hZ (hw _ (List.mem_of_getElem? (i := 25) rfl))) (mvT hZ (hw _ (List.mem_of_getElem? (i := 26) rfl))) (notFace_of_selects (args := #[]) (mvT hZ (hw _ (List.mem_of_getElem? (i := 28) rfl)))) (mvT hZ (hw _ (List.mem_of_getElem? (i := 28) rfl))) (mvT hZ (hw _ (List.mem_of_getElem? (i := 27) rfl))) (by decide) (backOf (W := 0) (rm6 l Z a0 hw [] b7 (v6_2 - (1 : Int64)) v6_2 v8_4 (0 : Int32) h10 n0 Z10 F10a F10b (own_h3 v6_2 v8_4 hc16)) hZ (hw _ (List.mem_of_getElem? (i := 29) rfl)) (hw _ (List.mem_of_getElem? (i := 9) rfl)) (by decide) (by decide)) q33a q33c (g := (mkF m 90 #[.val (.long q1), .second, .val (.long q2), .second, .val (.long q3), .second, .val (.long v6_2), .second, .val (.long v8_4), .second, .val (.ref b7), .val (.int (1 : Int32)), .unset, .unset, .unset] [(.long (v6_2 - (1 : Int64))), (.ref b7)])) rfl (by rw [hml]; rfl) (Steps.refl _) (argsL := [(.long (v6_2 - (1 : Int64)))]) (rest := []) (lenOf own_pd3 rfl) rfl (by show 2 * 0 + _ ≤ _; exact Nat.le_of_eq rfl) (hb hby at_90) (fun _ _ => ⟨rfl, e15, Nat.le_of_ble_eq_true rfl, Nat.le_of_ble_eq_true rfl⟩)
        dsimp only [Pt.U, Pt.locs, Pt.cells, Pt.slots] at X33 l33 y33 z33 st33 hQ33
        subst l33 y33 z33
        obtain ⟨rfl, N33q, e33⟩ := hQ33
        have N33 := Fr.app N15 N33q
        refine own_tr st33 ?_
        show own_Go _ _ _ _ (T33.setTop (mkF m 93 #[.val (.long q1), .second, .val (.long q2), .second, .val (.long q3), .second, .val (.long v6_2), .second, .val (.long v8_4), .second, .val (.ref b7), .val (.int (1 : Int32)), .unset, .unset, .unset] [(.int (0 : Int32))]))
        refine own_by (fun _ k => XS.ifNo X33.here hx rfl (hb hby at_93) rfl ((if0 _ _).trans (teq (by decide)).2) k) ?_
        show own_Go _ _ _ _ (T33.setTop (mkF m 96 #[.val (.long q1), .second, .val (.long q2), .second, .val (.long q3), .second, .val (.long v6_2), .second, .val (.long v8_4), .second, .val (.ref b7), .val (.int (1 : Int32)), .unset, .unset, .unset] []))
        refine own_by (fun _ k => XS.iconst X33.here hx rfl (hb hby at_96) k) ?_
        show own_Go _ _ _ _ (T33.setTop (mkF m 97 #[.val (.long q1), .second, .val (.long q2), .second, .val (.long q3), .second, .val (.long v6_2), .second, .val (.long v8_4), .second, .val (.ref b7), .val (.int (1 : Int32)), .unset, .unset, .unset] [(.int (1 : Int32))]))
        refine own_by (fun _ k => XS.goto X33.here hx rfl (pc0 := 97) (pc' := 101) rfl (hb hby at_97) (by decide) (by decide) k) ?_
        show own_Go _ _ _ _ (T33.setTop (mkF m 101 #[.val (.long q1), .second, .val (.long q2), .second, .val (.long q3), .second, .val (.long v6_2), .second, .val (.long v8_4), .second, .val (.ref b7), .val (.int (1 : Int32)), .unset, .unset, .unset] [(.int (1 : Int32))]))
        refine own_by (fun _ k => XS.istore X33.here hx rfl (hb hby at_101) rfl (l' := #[.val (.long q1), .second, .val (.long q2), .second, .val (.long q3), .second, .val (.long v6_2), .second, .val (.long v8_4), .second, .val (.ref b7), .val (.int (1 : Int32)), .unset, .unset, .unset]) rfl k) ?_
        show own_Go _ _ _ _ (T33.setTop (mkF m 103 #[.val (.long q1), .second, .val (.long q2), .second, .val (.long q3), .second, .val (.long v6_2), .second, .val (.long v8_4), .second, .val (.ref b7), .val (.int (1 : Int32)), .unset, .unset, .unset] []))
        refine own_by (fun _ k => XS.lload X33.here hx rfl (hb hby at_103) rfl k) ?_
        show own_Go _ _ _ _ (T33.setTop (mkF m 105 #[.val (.long q1), .second, .val (.long q2), .second, .val (.long q3), .second, .val (.long v6_2), .second, .val (.long v8_4), .second, .val (.ref b7), .val (.int (1 : Int32)), .unset, .unset, .unset] [(.long v8_4)]))
        refine own_by (fun _ k => X33.ldc2Long hx hown (mvT hZ (hw _ (List.mem_of_getElem? (i := 31) rfl))) (g := (mkF m 105 #[.val (.long q1), .second, .val (.long q2), .second, .val (.long q3), .second, .val (.long v6_2), .second, .val (.long v8_4), .second, .val (.ref b7), .val (.int (1 : Int32)), .unset, .unset, .unset] [(.long v8_4)])) rfl (hb hby at_105) _ k) ?_
        show own_Go _ _ _ _ (T33.setTop (mkF m 108 #[.val (.long q1), .second, .val (.long q2), .second, .val (.long q3), .second, .val (.long v6_2), .second, .val (.long v8_4), .second, .val (.ref b7), .val (.int (1 : Int32)), .unset, .unset, .unset] [(.long (9223372036854775807 : Int64)), (.long v8_4)]))
        refine own_by (fun _ k => XS.lcmp X33.here hx rfl (hb hby at_108) rfl k) ?_
        show own_Go _ _ _ _ (T33.setTop (mkF m 109 #[.val (.long q1), .second, .val (.long q2), .second, .val (.long q3), .second, .val (.long v6_2), .second, .val (.long v8_4), .second, .val (.ref b7), .val (.int (1 : Int32)), .unset, .unset, .unset] [(.int (lcmpW v8_4 (9223372036854775807 : Int64)))]))
        by_cases hc34 : v8_4 = (9223372036854775807 : Int64)
        · --
          refine own_by (fun _ k => XS.ifYes X33.here hx rfl (pc0 := 109) (pc' := 136) rfl (hb hby at_109) rfl ((if0 _ _).trans (teq ((lw_eq _ _).mpr hc34)).1) (by decide) (by decide) k) ?_
          show own_Go _ _ _ _ (T33.setTop (mkF m 136 #[.val (.long q1), .second, .val (.long q2), .second, .val (.long q3), .second, .val (.long v6_2), .second, .val (.long v8_4), .second, .val (.ref b7), .val (.int (1 : Int32)), .unset, .unset, .unset] []))
          refine own_by (fun _ k => XS.lload X33.here hx rfl (hb hby at_136) rfl k) ?_
          show own_Go _ _ _ _ (T33.setTop (mkF m 138 #[.val (.long q1), .second, .val (.long q2), .second, .val (.long q3), .second, .val (.long v6_2), .second, .val (.long v8_4), .second, .val (.ref b7), .val (.int (1 : Int32)), .unset, .unset, .unset] [(.long v6_2)]))
          refine own_by (fun _ k => XS.iconst X33.here hx rfl (hb hby at_138) k) ?_
          show own_Go _ _ _ _ (T33.setTop (mkF m 139 #[.val (.long q1), .second, .val (.long q2), .second, .val (.long q3), .second, .val (.long v6_2), .second, .val (.long v8_4), .second, .val (.ref b7), .val (.int (1 : Int32)), .unset, .unset, .unset] [(.int (1 : Int32)), (.long v6_2)]))
          refine own_by (fun _ k => XS.lshr X33.here hx rfl (hb hby at_139) rfl k) ?_
          show own_Go _ _ _ _ (T33.setTop (mkF m 140 #[.val (.long q1), .second, .val (.long q2), .second, .val (.long q3), .second, .val (.long v6_2), .second, .val (.long v8_4), .second, .val (.ref b7), .val (.int (1 : Int32)), .unset, .unset, .unset] [(.long (v6_2 >>> ((1 : Int32) &&& 0x3f).toInt64))]))
          refine own_by (fun _ k => XS.lload X33.here hx rfl (hb hby at_140) rfl k) ?_
          show own_Go _ _ _ _ (T33.setTop (mkF m 142 #[.val (.long q1), .second, .val (.long q2), .second, .val (.long q3), .second, .val (.long v6_2), .second, .val (.long v8_4), .second, .val (.ref b7), .val (.int (1 : Int32)), .unset, .unset, .unset] [(.long v8_4), (.long (v6_2 >>> ((1 : Int32) &&& 0x3f).toInt64))]))
          refine own_by (fun _ k => XS.iconst X33.here hx rfl (hb hby at_142) k) ?_
          show own_Go _ _ _ _ (T33.setTop (mkF m 143 #[.val (.long q1), .second, .val (.long q2), .second, .val (.long q3), .second, .val (.long v6_2), .second, .val (.long v8_4), .second, .val (.ref b7), .val (.int (1 : Int32)), .unset, .unset, .unset] [(.int (1 : Int32)), (.long v8_4), (.long (v6_2 >>> ((1 : Int32) &&& 0x3f).toInt64))]))
          refine own_by (fun _ k => XS.lshr X33.here hx rfl (hb hby at_143) rfl k) ?_
          show own_Go _ _ _ _ (T33.setTop (mkF m 144 #[.val (.long q1), .second, .val (.long q2), .second, .val (.long q3), .second, .val (.long v6_2), .second, .val (.long v8_4), .second, .val (.ref b7), .val (.int (1 : Int32)), .unset, .unset, .unset] [(.long (v8_4 >>> ((1 : Int32) &&& 0x3f).toInt64)), (.long (v6_2 >>> ((1 : Int32) &&& 0x3f).toInt64))]))
          refine own_by (fun _ k => XS.ladd X33.here hx rfl (hb hby at_144) rfl k) ?_
          show own_Go _ _ _ _ (T33.setTop (mkF m 145 #[.val (.long q1), .second, .val (.long q2), .second, .val (.long q3), .second, .val (.long v6_2), .second, .val (.long v8_4), .second, .val (.ref b7), .val (.int (1 : Int32)), .unset, .unset, .unset] [(.long ((v6_2 >>> ((1 : Int32) &&& 0x3f).toInt64) + (v8_4 >>> ((1 : Int32) &&& 0x3f).toInt64)))]))
          refine own_by (fun _ k => XS.lload X33.here hx rfl (hb hby at_145) rfl k) ?_
          show own_Go _ _ _ _ (T33.setTop (mkF m 147 #[.val (.long q1), .second, .val (.long q2), .second, .val (.long q3), .second, .val (.long v6_2), .second, .val (.long v8_4), .second, .val (.ref b7), .val (.int (1 : Int32)), .unset, .unset, .unset] [(.long v6_2), (.long ((v6_2 >>> ((1 : Int32) &&& 0x3f).toInt64) + (v8_4 >>> ((1 : Int32) &&& 0x3f).toInt64)))]))
          refine own_by (fun _ k => XS.lload X33.here hx rfl (hb hby at_147) rfl k) ?_
          show own_Go _ _ _ _ (T33.setTop (mkF m 149 #[.val (.long q1), .second, .val (.long q2), .second, .val (.long q3), .second, .val (.long v6_2), .second, .val (.long v8_4), .second, .val (.ref b7), .val (.int (1 : Int32)), .unset, .unset, .unset] [(.long v8_4), (.long v6_2), (.long ((v6_2 >>> ((1 : Int32) &&& 0x3f).toInt64) + (v8_4 >>> ((1 : Int32) &&& 0x3f).toInt64)))]))
          refine own_by (fun _ k => XS.land X33.here hx rfl (hb hby at_149) rfl k) ?_
          show own_Go _ _ _ _ (T33.setTop (mkF m 150 #[.val (.long q1), .second, .val (.long q2), .second, .val (.long q3), .second, .val (.long v6_2), .second, .val (.long v8_4), .second, .val (.ref b7), .val (.int (1 : Int32)), .unset, .unset, .unset] [(.long (v6_2 &&& v8_4)), (.long ((v6_2 >>> ((1 : Int32) &&& 0x3f).toInt64) + (v8_4 >>> ((1 : Int32) &&& 0x3f).toInt64)))]))
          refine own_by (fun _ k => XS.lconst X33.here hx rfl (hb hby at_150) k) ?_
          show own_Go _ _ _ _ (T33.setTop (mkF m 151 #[.val (.long q1), .second, .val (.long q2), .second, .val (.long q3), .second, .val (.long v6_2), .second, .val (.long v8_4), .second, .val (.ref b7), .val (.int (1 : Int32)), .unset, .unset, .unset] [(.long (1 : Int64)), (.long (v6_2 &&& v8_4)), (.long ((v6_2 >>> ((1 : Int32) &&& 0x3f).toInt64) + (v8_4 >>> ((1 : Int32) &&& 0x3f).toInt64)))]))
          refine own_by (fun _ k => XS.land X33.here hx rfl (hb hby at_151) rfl k) ?_
          show own_Go _ _ _ _ (T33.setTop (mkF m 152 #[.val (.long q1), .second, .val (.long q2), .second, .val (.long q3), .second, .val (.long v6_2), .second, .val (.long v8_4), .second, .val (.ref b7), .val (.int (1 : Int32)), .unset, .unset, .unset] [(.long ((v6_2 &&& v8_4) &&& (1 : Int64))), (.long ((v6_2 >>> ((1 : Int32) &&& 0x3f).toInt64) + (v8_4 >>> ((1 : Int32) &&& 0x3f).toInt64)))]))
          refine own_by (fun _ k => XS.ladd X33.here hx rfl (hb hby at_152) rfl k) ?_
          show own_Go _ _ _ _ (T33.setTop (mkF m 153 #[.val (.long q1), .second, .val (.long q2), .second, .val (.long q3), .second, .val (.long v6_2), .second, .val (.long v8_4), .second, .val (.ref b7), .val (.int (1 : Int32)), .unset, .unset, .unset] [(.long (((v6_2 >>> ((1 : Int32) &&& 0x3f).toInt64) + (v8_4 >>> ((1 : Int32) &&& 0x3f).toInt64)) + ((v6_2 &&& v8_4) &&& (1 : Int64))))]))
          obtain ⟨v12_35, hv12_35⟩ : ∃ z_ : Int64, (((v6_2 >>> ((1 : Int32) &&& 0x3f).toInt64) + (v8_4 >>> ((1 : Int32) &&& 0x3f).toInt64)) + ((v6_2 &&& v8_4) &&& (1 : Int64))) = z_ := ⟨_, rfl⟩
          refine own_gen hv12_35 (fun z_ => T33.setTop (mkF m 153 #[.val (.long q1), .second, .val (.long q2), .second, .val (.long q3), .second, .val (.long v6_2), .second, .val (.long v8_4), .second, .val (.ref b7), .val (.int (1 : Int32)), .unset, .unset, .unset] [(.long z_)])) ?_
          refine own_by (fun _ k => XS.lstore X33.here hx rfl (hb hby at_153) rfl (l' := #[.val (.long q1), .second, .val (.long q2), .second, .val (.long q3), .second, .val (.long v6_2), .second, .val (.long v8_4), .second, .val (.ref b7), .val (.int (1 : Int32)), .val (.long v12_35), .second, .unset]) rfl k) ?_
          show own_Go _ _ _ _ (T33.setTop (mkF m 155 #[.val (.long q1), .second, .val (.long q2), .second, .val (.long q3), .second, .val (.long v6_2), .second, .val (.long v8_4), .second, .val (.ref b7), .val (.int (1 : Int32)), .val (.long v12_35), .second, .unset] []))
          refine own_by (fun _ k => XS.iload X33.here hx rfl (hb hby at_155) rfl k) ?_
          show own_Go _ _ _ _ (T33.setTop (mkF m 157 #[.val (.long q1), .second, .val (.long q2), .second, .val (.long q3), .second, .val (.long v6_2), .second, .val (.long v8_4), .second, .val (.ref b7), .val (.int (1 : Int32)), .val (.long v12_35), .second, .unset] [(.int (1 : Int32))]))
          refine own_by (fun _ k => XS.ifNo X33.here hx rfl (hb hby at_157) rfl ((if0 _ _).trans (feq (by decide)).1) k) ?_
          show own_Go _ _ _ _ (T33.setTop (mkF m 160 #[.val (.long q1), .second, .val (.long q2), .second, .val (.long q3), .second, .val (.long v6_2), .second, .val (.long v8_4), .second, .val (.ref b7), .val (.int (1 : Int32)), .val (.long v12_35), .second, .unset] []))
          refine own_by (fun _ k => XS.aload X33.here hx rfl (hb hby at_160) rfl rfl k) ?_
          show own_Go _ _ _ _ (T33.setTop (mkF m 162 #[.val (.long q1), .second, .val (.long q2), .second, .val (.long q3), .second, .val (.long v6_2), .second, .val (.long v8_4), .second, .val (.ref b7), .val (.int (1 : Int32)), .val (.long v12_35), .second, .unset] [(.ref b7)]))
          refine own_by (fun _ k => XS.lload X33.here hx rfl (hb hby at_162) rfl k) ?_
          show own_Go _ _ _ _ (T33.setTop (mkF m 164 #[.val (.long q1), .second, .val (.long q2), .second, .val (.long q3), .second, .val (.long v6_2), .second, .val (.long v8_4), .second, .val (.ref b7), .val (.int (1 : Int32)), .val (.long v12_35), .second, .unset] [(.long v12_35), (.ref b7)]))
          obtain ⟨cq36, kq36, q36a, q36b, q36c⟩ := isOf hZ e33 f11
          obtain ⟨_, _, ⟨T36, L36, k36, n36⟩, -, X36, ⟨Lc36, hQ36, l36, y36, z36⟩, st36⟩ := X33.virtualBack hx (y := (⟨"com/example/time_for_trials/timefortrials/protocol/Workflow$DayWindow", "holds", "(J)Z"⟩ : MethodName)) (z := (⟨"com/example/time_for_trials/timefortrials/protocol/Workflow$DayWindow", "holds", "(J)Z"⟩ : MethodName)) hown (mvT hZ (hw _ (List.mem_of_getElem? (i := 25) rfl))) (mvT hZ (hw _ (List.mem_of_getElem? (i := 26) rfl))) (notFace_of_selects (args := #[]) (mvT hZ (hw _ (List.mem_of_getElem? (i := 28) rfl)))) (mvT hZ (hw _ (List.mem_of_getElem? (i := 28) rfl))) (mvT hZ (hw _ (List.mem_of_getElem? (i := 27) rfl))) (by decide) (backOf (W := 0) (rm6 l Z a0 hw [] b7 v12_35 v6_2 v8_4 (1 : Int32) h10 n0 Z10 F10a F10b (own_h5 v6_2 v8_4 v12_35 (own_fl q1 q2 v6_2 v8_4 hv6_2 hv8_4) hv12_35)) hZ (hw _ (List.mem_of_getElem? (i := 29) rfl)) (hw _ (List.mem_of_getElem? (i := 9) rfl)) (by decide) (by decide)) q36a q36c (g := (mkF m 164 #[.val (.long q1), .second, .val (.long q2), .second, .val (.long q3), .second, .val (.long v6_2), .second, .val (.long v8_4), .second, .val (.ref b7), .val (.int (1 : Int32)), .val (.long v12_35), .second, .unset] [(.long v12_35), (.ref b7)])) rfl (by rw [hml]; rfl) (Steps.refl _) (argsL := [(.long v12_35)]) (rest := []) (lenOf own_pd3 rfl) rfl (by show 2 * 0 + _ ≤ _; exact Nat.le_of_eq rfl) (hb hby at_164) (fun _ _ => ⟨rfl, e33, Nat.le_of_ble_eq_true rfl, Nat.le_of_ble_eq_true rfl⟩)
          dsimp only [Pt.U, Pt.locs, Pt.cells, Pt.slots] at X36 l36 y36 z36 st36 hQ36
          subst l36 y36 z36
          obtain ⟨rfl, N36q, e36⟩ := hQ36
          have N36 := Fr.app N33 N36q
          refine own_tr st36 ?_
          show own_Go _ _ _ _ (T36.setTop (mkF m 167 #[.val (.long q1), .second, .val (.long q2), .second, .val (.long q3), .second, .val (.long v6_2), .second, .val (.long v8_4), .second, .val (.ref b7), .val (.int (1 : Int32)), .val (.long v12_35), .second, .unset] [(.int (1 : Int32))]))
          refine own_by (fun _ k => XS.ifNo X36.here hx rfl (hb hby at_167) rfl ((if0 _ _).trans (feq (by decide)).1) k) ?_
          show own_Go _ _ _ _ (T36.setTop (mkF m 170 #[.val (.long q1), .second, .val (.long q2), .second, .val (.long q3), .second, .val (.long v6_2), .second, .val (.long v8_4), .second, .val (.ref b7), .val (.int (1 : Int32)), .val (.long v12_35), .second, .unset] []))
          refine own_by (fun _ k => XS.iconst X36.here hx rfl (hb hby at_170) k) ?_
          show own_Go _ _ _ _ (T36.setTop (mkF m 171 #[.val (.long q1), .second, .val (.long q2), .second, .val (.long q3), .second, .val (.long v6_2), .second, .val (.long v8_4), .second, .val (.ref b7), .val (.int (1 : Int32)), .val (.long v12_35), .second, .unset] [(.int (1 : Int32))]))
          refine own_by (fun _ k => XS.goto X36.here hx rfl (pc0 := 171) (pc' := 175) rfl (hb hby at_171) (by decide) (by decide) k) ?_
          show own_Go _ _ _ _ (T36.setTop (mkF m 175 #[.val (.long q1), .second, .val (.long q2), .second, .val (.long q3), .second, .val (.long v6_2), .second, .val (.long v8_4), .second, .val (.ref b7), .val (.int (1 : Int32)), .val (.long v12_35), .second, .unset] [(.int (1 : Int32))]))
          refine own_by (fun _ k => XS.istore X36.here hx rfl (hb hby at_175) rfl (l' := #[.val (.long q1), .second, .val (.long q2), .second, .val (.long q3), .second, .val (.long v6_2), .second, .val (.long v8_4), .second, .val (.ref b7), .val (.int (1 : Int32)), .val (.long v12_35), .second, .unset]) rfl k) ?_
          show own_Go _ _ _ _ (T36.setTop (mkF m 177 #[.val (.long q1), .second, .val (.long q2), .second, .val (.long q3), .second, .val (.long v6_2), .second, .val (.long v8_4), .second, .val (.ref b7), .val (.int (1 : Int32)), .val (.long v12_35), .second, .unset] []))
          refine own_by (fun _ k => XS.lload X36.here hx rfl (hb hby at_177) rfl k) ?_
          show own_Go _ _ _ _ (T36.setTop (mkF m 179 #[.val (.long q1), .second, .val (.long q2), .second, .val (.long q3), .second, .val (.long v6_2), .second, .val (.long v8_4), .second, .val (.ref b7), .val (.int (1 : Int32)), .val (.long v12_35), .second, .unset] [(.long q3)]))
          refine own_by (fun _ k => XS.lload X36.here hx rfl (hb hby at_179) rfl k) ?_
          show own_Go _ _ _ _ (T36.setTop (mkF m 181 #[.val (.long q1), .second, .val (.long q2), .second, .val (.long q3), .second, .val (.long v6_2), .second, .val (.long v8_4), .second, .val (.ref b7), .val (.int (1 : Int32)), .val (.long v12_35), .second, .unset] [(.long v6_2), (.long q3)]))
          refine own_by (fun _ k => XS.lcmp X36.here hx rfl (hb hby at_181) rfl k) ?_
          show own_Go _ _ _ _ (T36.setTop (mkF m 182 #[.val (.long q1), .second, .val (.long q2), .second, .val (.long q3), .second, .val (.long v6_2), .second, .val (.long v8_4), .second, .val (.ref b7), .val (.int (1 : Int32)), .val (.long v12_35), .second, .unset] [(.int (lcmpW q3 v6_2))]))
          by_cases hc37 : q3 < v6_2
          · --
            refine own_by (fun _ k => XS.ifNo X36.here hx rfl (hb hby at_182) rfl ((if0 _ _).trans (tlt ((lw_lt _ _).mpr hc37)).2.1) k) ?_
            show own_Go _ _ _ _ (T36.setTop (mkF m 185 #[.val (.long q1), .second, .val (.long q2), .second, .val (.long q3), .second, .val (.long v6_2), .second, .val (.long v8_4), .second, .val (.ref b7), .val (.int (1 : Int32)), .val (.long v12_35), .second, .unset] []))
            refine own_by (fun _ k => XS.iconst X36.here hx rfl (hb hby at_185) k) ?_
            show own_Go _ _ _ _ (T36.setTop (mkF m 186 #[.val (.long q1), .second, .val (.long q2), .second, .val (.long q3), .second, .val (.long v6_2), .second, .val (.long v8_4), .second, .val (.ref b7), .val (.int (1 : Int32)), .val (.long v12_35), .second, .unset] [(.int (0 : Int32))]))
            refine own_by (fun _ k => XS.istore X36.here hx rfl (hb hby at_186) rfl (l' := #[.val (.long q1), .second, .val (.long q2), .second, .val (.long q3), .second, .val (.long v6_2), .second, .val (.long v8_4), .second, .val (.ref b7), .val (.int (1 : Int32)), .val (.long v12_35), .second, .val (.int (0 : Int32))]) rfl k) ?_
            show own_Go _ _ _ _ (T36.setTop (mkF m 188 #[.val (.long q1), .second, .val (.long q2), .second, .val (.long q3), .second, .val (.long v6_2), .second, .val (.long v8_4), .second, .val (.ref b7), .val (.int (1 : Int32)), .val (.long v12_35), .second, .val (.int (0 : Int32))] []))
            refine own_by (fun _ k => XS.goto X36.here hx rfl (pc0 := 188) (pc' := 208) rfl (hb hby at_188) (by decide) (by decide) k) ?_
            show own_Go _ _ _ _ (T36.setTop (mkF m 208 #[.val (.long q1), .second, .val (.long q2), .second, .val (.long q3), .second, .val (.long v6_2), .second, .val (.long v8_4), .second, .val (.ref b7), .val (.int (1 : Int32)), .val (.long v12_35), .second, .val (.int (0 : Int32))] []))
            refine own_by (fun _ k => XS.iload X36.here hx rfl (hb hby at_208) rfl k) ?_
            show own_Go _ _ _ _ (T36.setTop (mkF m 210 #[.val (.long q1), .second, .val (.long q2), .second, .val (.long q3), .second, .val (.long v6_2), .second, .val (.long v8_4), .second, .val (.ref b7), .val (.int (1 : Int32)), .val (.long v12_35), .second, .val (.int (0 : Int32))] [(.int (1 : Int32))]))
            refine own_by (fun _ k => XS.ifNo X36.here hx rfl (hb hby at_210) rfl ((if0 _ _).trans (feq (by decide)).1) k) ?_
            show own_Go _ _ _ _ (T36.setTop (mkF m 213 #[.val (.long q1), .second, .val (.long q2), .second, .val (.long q3), .second, .val (.long v6_2), .second, .val (.long v8_4), .second, .val (.ref b7), .val (.int (1 : Int32)), .val (.long v12_35), .second, .val (.int (0 : Int32))] []))
            refine own_by (fun _ k => XS.aload X36.here hx rfl (hb hby at_213) rfl rfl k) ?_
            show own_Go _ _ _ _ (T36.setTop (mkF m 215 #[.val (.long q1), .second, .val (.long q2), .second, .val (.long q3), .second, .val (.long v6_2), .second, .val (.long v8_4), .second, .val (.ref b7), .val (.int (1 : Int32)), .val (.long v12_35), .second, .val (.int (0 : Int32))] [(.ref b7)]))
            refine own_by (fun _ k => XS.lload X36.here hx rfl (hb hby at_215) rfl k) ?_
            show own_Go _ _ _ _ (T36.setTop (mkF m 217 #[.val (.long q1), .second, .val (.long q2), .second, .val (.long q3), .second, .val (.long v6_2), .second, .val (.long v8_4), .second, .val (.ref b7), .val (.int (1 : Int32)), .val (.long v12_35), .second, .val (.int (0 : Int32))] [(.long q3), (.ref b7)]))
            obtain ⟨cq38, kq38, q38a, q38b, q38c⟩ := isOf hZ e36 f11
            obtain ⟨_, _, ⟨T38, L38, k38, n38⟩, -, X38, ⟨Lc38, hQ38, l38, y38, z38⟩, st38⟩ := X36.virtualBack hx (y := (⟨"com/example/time_for_trials/timefortrials/protocol/Workflow$DayWindow", "holds", "(J)Z"⟩ : MethodName)) (z := (⟨"com/example/time_for_trials/timefortrials/protocol/Workflow$DayWindow", "holds", "(J)Z"⟩ : MethodName)) hown (mvT hZ (hw _ (List.mem_of_getElem? (i := 25) rfl))) (mvT hZ (hw _ (List.mem_of_getElem? (i := 26) rfl))) (notFace_of_selects (args := #[]) (mvT hZ (hw _ (List.mem_of_getElem? (i := 28) rfl)))) (mvT hZ (hw _ (List.mem_of_getElem? (i := 28) rfl))) (mvT hZ (hw _ (List.mem_of_getElem? (i := 27) rfl))) (by decide) (backOf (W := 0) (rm6 l Z a0 hw [] b7 q3 v6_2 v8_4 (0 : Int32) h10 n0 Z10 F10a F10b (by simp [own_H, hc37])) hZ (hw _ (List.mem_of_getElem? (i := 29) rfl)) (hw _ (List.mem_of_getElem? (i := 9) rfl)) (by decide) (by decide)) q38a q38c (g := (mkF m 217 #[.val (.long q1), .second, .val (.long q2), .second, .val (.long q3), .second, .val (.long v6_2), .second, .val (.long v8_4), .second, .val (.ref b7), .val (.int (1 : Int32)), .val (.long v12_35), .second, .val (.int (0 : Int32))] [(.long q3), (.ref b7)])) rfl (by rw [hml]; rfl) (Steps.refl _) (argsL := [(.long q3)]) (rest := []) (lenOf own_pd3 rfl) rfl (by show 2 * 0 + _ ≤ _; exact Nat.le_of_eq rfl) (hb hby at_217) (fun _ _ => ⟨rfl, e36, Nat.le_of_ble_eq_true rfl, Nat.le_of_ble_eq_true rfl⟩)
            dsimp only [Pt.U, Pt.locs, Pt.cells, Pt.slots] at X38 l38 y38 z38 st38 hQ38
            subst l38 y38 z38
            obtain ⟨rfl, N38q, e38⟩ := hQ38
            have N38 := Fr.app N36 N38q
            refine own_tr st38 ?_
            show own_Go _ _ _ _ (T38.setTop (mkF m 220 #[.val (.long q1), .second, .val (.long q2), .second, .val (.long q3), .second, .val (.long v6_2), .second, .val (.long v8_4), .second, .val (.ref b7), .val (.int (1 : Int32)), .val (.long v12_35), .second, .val (.int (0 : Int32))] [(.int (0 : Int32))]))
            refine own_by (fun _ k => XS.iload X38.here hx rfl (hb hby at_220) rfl k) ?_
            show own_Go _ _ _ _ (T38.setTop (mkF m 222 #[.val (.long q1), .second, .val (.long q2), .second, .val (.long q3), .second, .val (.long v6_2), .second, .val (.long v8_4), .second, .val (.ref b7), .val (.int (1 : Int32)), .val (.long v12_35), .second, .val (.int (0 : Int32))] [(.int (0 : Int32)), (.int (0 : Int32))]))
            refine own_by (fun _ k => XS.icmpNo X38.here hx rfl (hb hby at_222) rfl (teq (by decide)).2 k) ?_
            show own_Go _ _ _ _ (T38.setTop (mkF m 225 #[.val (.long q1), .second, .val (.long q2), .second, .val (.long q3), .second, .val (.long v6_2), .second, .val (.long v8_4), .second, .val (.ref b7), .val (.int (1 : Int32)), .val (.long v12_35), .second, .val (.int (0 : Int32))] []))
            refine own_by (fun _ k => XS.iconst X38.here hx rfl (hb hby at_225) k) ?_
            show own_Go _ _ _ _ (T38.setTop (mkF m 226 #[.val (.long q1), .second, .val (.long q2), .second, .val (.long q3), .second, .val (.long v6_2), .second, .val (.long v8_4), .second, .val (.ref b7), .val (.int (1 : Int32)), .val (.long v12_35), .second, .val (.int (0 : Int32))] [(.int (1 : Int32))]))
            refine own_by (fun _ k => XS.goto X38.here hx rfl (pc0 := 226) (pc' := 230) rfl (hb hby at_226) (by decide) (by decide) k) ?_
            show own_Go _ _ _ _ (T38.setTop (mkF m 230 #[.val (.long q1), .second, .val (.long q2), .second, .val (.long q3), .second, .val (.long v6_2), .second, .val (.long v8_4), .second, .val (.ref b7), .val (.int (1 : Int32)), .val (.long v12_35), .second, .val (.int (0 : Int32))] [(.int (1 : Int32))]))
            exact own_retN X38 hx Bd.notSynchronized e38 Bd.returns (by simp) (hb hby at_230) (⟨rfl, N38⟩) (by decide) (by decide)
          · --
            refine own_by (fun _ k => XS.ifYes X36.here hx rfl (pc0 := 182) (pc' := 191) rfl (hb hby at_182) rfl ((if0 _ _).trans (flt (mt (lw_lt _ _).mp hc37)).2.1) (by decide) (by decide) k) ?_
            show own_Go _ _ _ _ (T36.setTop (mkF m 191 #[.val (.long q1), .second, .val (.long q2), .second, .val (.long q3), .second, .val (.long v6_2), .second, .val (.long v8_4), .second, .val (.ref b7), .val (.int (1 : Int32)), .val (.long v12_35), .second, .unset] []))
            refine own_by (fun _ k => XS.lload X36.here hx rfl (hb hby at_191) rfl k) ?_
            show own_Go _ _ _ _ (T36.setTop (mkF m 193 #[.val (.long q1), .second, .val (.long q2), .second, .val (.long q3), .second, .val (.long v6_2), .second, .val (.long v8_4), .second, .val (.ref b7), .val (.int (1 : Int32)), .val (.long v12_35), .second, .unset] [(.long q3)]))
            refine own_by (fun _ k => XS.lload X36.here hx rfl (hb hby at_193) rfl k) ?_
            show own_Go _ _ _ _ (T36.setTop (mkF m 195 #[.val (.long q1), .second, .val (.long q2), .second, .val (.long q3), .second, .val (.long v6_2), .second, .val (.long v8_4), .second, .val (.ref b7), .val (.int (1 : Int32)), .val (.long v12_35), .second, .unset] [(.long v8_4), (.long q3)]))
            refine own_by (fun _ k => XS.lcmp X36.here hx rfl (hb hby at_195) rfl k) ?_
            show own_Go _ _ _ _ (T36.setTop (mkF m 196 #[.val (.long q1), .second, .val (.long q2), .second, .val (.long q3), .second, .val (.long v6_2), .second, .val (.long v8_4), .second, .val (.ref b7), .val (.int (1 : Int32)), .val (.long v12_35), .second, .unset] [(.int (lcmpW q3 v8_4))]))
            by_cases hc39 : v8_4 < q3
            · --
              refine own_by (fun _ k => XS.ifNo X36.here hx rfl (hb hby at_196) rfl ((if0 _ _).trans (tlt ((lw_gt _ _).mpr hc39)).2.2.2) k) ?_
              show own_Go _ _ _ _ (T36.setTop (mkF m 199 #[.val (.long q1), .second, .val (.long q2), .second, .val (.long q3), .second, .val (.long v6_2), .second, .val (.long v8_4), .second, .val (.ref b7), .val (.int (1 : Int32)), .val (.long v12_35), .second, .unset] []))
              refine own_by (fun _ k => XS.iconst X36.here hx rfl (hb hby at_199) k) ?_
              show own_Go _ _ _ _ (T36.setTop (mkF m 200 #[.val (.long q1), .second, .val (.long q2), .second, .val (.long q3), .second, .val (.long v6_2), .second, .val (.long v8_4), .second, .val (.ref b7), .val (.int (1 : Int32)), .val (.long v12_35), .second, .unset] [(.int (0 : Int32))]))
              refine own_by (fun _ k => XS.istore X36.here hx rfl (hb hby at_200) rfl (l' := #[.val (.long q1), .second, .val (.long q2), .second, .val (.long q3), .second, .val (.long v6_2), .second, .val (.long v8_4), .second, .val (.ref b7), .val (.int (1 : Int32)), .val (.long v12_35), .second, .val (.int (0 : Int32))]) rfl k) ?_
              show own_Go _ _ _ _ (T36.setTop (mkF m 202 #[.val (.long q1), .second, .val (.long q2), .second, .val (.long q3), .second, .val (.long v6_2), .second, .val (.long v8_4), .second, .val (.ref b7), .val (.int (1 : Int32)), .val (.long v12_35), .second, .val (.int (0 : Int32))] []))
              refine own_by (fun _ k => XS.goto X36.here hx rfl (pc0 := 202) (pc' := 208) rfl (hb hby at_202) (by decide) (by decide) k) ?_
              show own_Go _ _ _ _ (T36.setTop (mkF m 208 #[.val (.long q1), .second, .val (.long q2), .second, .val (.long q3), .second, .val (.long v6_2), .second, .val (.long v8_4), .second, .val (.ref b7), .val (.int (1 : Int32)), .val (.long v12_35), .second, .val (.int (0 : Int32))] []))
              refine own_by (fun _ k => XS.iload X36.here hx rfl (hb hby at_208) rfl k) ?_
              show own_Go _ _ _ _ (T36.setTop (mkF m 210 #[.val (.long q1), .second, .val (.long q2), .second, .val (.long q3), .second, .val (.long v6_2), .second, .val (.long v8_4), .second, .val (.ref b7), .val (.int (1 : Int32)), .val (.long v12_35), .second, .val (.int (0 : Int32))] [(.int (1 : Int32))]))
              refine own_by (fun _ k => XS.ifNo X36.here hx rfl (hb hby at_210) rfl ((if0 _ _).trans (feq (by decide)).1) k) ?_
              show own_Go _ _ _ _ (T36.setTop (mkF m 213 #[.val (.long q1), .second, .val (.long q2), .second, .val (.long q3), .second, .val (.long v6_2), .second, .val (.long v8_4), .second, .val (.ref b7), .val (.int (1 : Int32)), .val (.long v12_35), .second, .val (.int (0 : Int32))] []))
              refine own_by (fun _ k => XS.aload X36.here hx rfl (hb hby at_213) rfl rfl k) ?_
              show own_Go _ _ _ _ (T36.setTop (mkF m 215 #[.val (.long q1), .second, .val (.long q2), .second, .val (.long q3), .second, .val (.long v6_2), .second, .val (.long v8_4), .second, .val (.ref b7), .val (.int (1 : Int32)), .val (.long v12_35), .second, .val (.int (0 : Int32))] [(.ref b7)]))
              refine own_by (fun _ k => XS.lload X36.here hx rfl (hb hby at_215) rfl k) ?_
              show own_Go _ _ _ _ (T36.setTop (mkF m 217 #[.val (.long q1), .second, .val (.long q2), .second, .val (.long q3), .second, .val (.long v6_2), .second, .val (.long v8_4), .second, .val (.ref b7), .val (.int (1 : Int32)), .val (.long v12_35), .second, .val (.int (0 : Int32))] [(.long q3), (.ref b7)]))
              obtain ⟨cq40, kq40, q40a, q40b, q40c⟩ := isOf hZ e36 f11
              obtain ⟨_, _, ⟨T40, L40, k40, n40⟩, -, X40, ⟨Lc40, hQ40, l40, y40, z40⟩, st40⟩ := X36.virtualBack hx (y := (⟨"com/example/time_for_trials/timefortrials/protocol/Workflow$DayWindow", "holds", "(J)Z"⟩ : MethodName)) (z := (⟨"com/example/time_for_trials/timefortrials/protocol/Workflow$DayWindow", "holds", "(J)Z"⟩ : MethodName)) hown (mvT hZ (hw _ (List.mem_of_getElem? (i := 25) rfl))) (mvT hZ (hw _ (List.mem_of_getElem? (i := 26) rfl))) (notFace_of_selects (args := #[]) (mvT hZ (hw _ (List.mem_of_getElem? (i := 28) rfl)))) (mvT hZ (hw _ (List.mem_of_getElem? (i := 28) rfl))) (mvT hZ (hw _ (List.mem_of_getElem? (i := 27) rfl))) (by decide) (backOf (W := 0) (rm6 l Z a0 hw [] b7 q3 v6_2 v8_4 (0 : Int32) h10 n0 Z10 F10a F10b (by simp [own_H, hc37, hc39])) hZ (hw _ (List.mem_of_getElem? (i := 29) rfl)) (hw _ (List.mem_of_getElem? (i := 9) rfl)) (by decide) (by decide)) q40a q40c (g := (mkF m 217 #[.val (.long q1), .second, .val (.long q2), .second, .val (.long q3), .second, .val (.long v6_2), .second, .val (.long v8_4), .second, .val (.ref b7), .val (.int (1 : Int32)), .val (.long v12_35), .second, .val (.int (0 : Int32))] [(.long q3), (.ref b7)])) rfl (by rw [hml]; rfl) (Steps.refl _) (argsL := [(.long q3)]) (rest := []) (lenOf own_pd3 rfl) rfl (by show 2 * 0 + _ ≤ _; exact Nat.le_of_eq rfl) (hb hby at_217) (fun _ _ => ⟨rfl, e36, Nat.le_of_ble_eq_true rfl, Nat.le_of_ble_eq_true rfl⟩)
              dsimp only [Pt.U, Pt.locs, Pt.cells, Pt.slots] at X40 l40 y40 z40 st40 hQ40
              subst l40 y40 z40
              obtain ⟨rfl, N40q, e40⟩ := hQ40
              have N40 := Fr.app N36 N40q
              refine own_tr st40 ?_
              show own_Go _ _ _ _ (T40.setTop (mkF m 220 #[.val (.long q1), .second, .val (.long q2), .second, .val (.long q3), .second, .val (.long v6_2), .second, .val (.long v8_4), .second, .val (.ref b7), .val (.int (1 : Int32)), .val (.long v12_35), .second, .val (.int (0 : Int32))] [(.int (0 : Int32))]))
              refine own_by (fun _ k => XS.iload X40.here hx rfl (hb hby at_220) rfl k) ?_
              show own_Go _ _ _ _ (T40.setTop (mkF m 222 #[.val (.long q1), .second, .val (.long q2), .second, .val (.long q3), .second, .val (.long v6_2), .second, .val (.long v8_4), .second, .val (.ref b7), .val (.int (1 : Int32)), .val (.long v12_35), .second, .val (.int (0 : Int32))] [(.int (0 : Int32)), (.int (0 : Int32))]))
              refine own_by (fun _ k => XS.icmpNo X40.here hx rfl (hb hby at_222) rfl (teq (by decide)).2 k) ?_
              show own_Go _ _ _ _ (T40.setTop (mkF m 225 #[.val (.long q1), .second, .val (.long q2), .second, .val (.long q3), .second, .val (.long v6_2), .second, .val (.long v8_4), .second, .val (.ref b7), .val (.int (1 : Int32)), .val (.long v12_35), .second, .val (.int (0 : Int32))] []))
              refine own_by (fun _ k => XS.iconst X40.here hx rfl (hb hby at_225) k) ?_
              show own_Go _ _ _ _ (T40.setTop (mkF m 226 #[.val (.long q1), .second, .val (.long q2), .second, .val (.long q3), .second, .val (.long v6_2), .second, .val (.long v8_4), .second, .val (.ref b7), .val (.int (1 : Int32)), .val (.long v12_35), .second, .val (.int (0 : Int32))] [(.int (1 : Int32))]))
              refine own_by (fun _ k => XS.goto X40.here hx rfl (pc0 := 226) (pc' := 230) rfl (hb hby at_226) (by decide) (by decide) k) ?_
              show own_Go _ _ _ _ (T40.setTop (mkF m 230 #[.val (.long q1), .second, .val (.long q2), .second, .val (.long q3), .second, .val (.long v6_2), .second, .val (.long v8_4), .second, .val (.ref b7), .val (.int (1 : Int32)), .val (.long v12_35), .second, .val (.int (0 : Int32))] [(.int (1 : Int32))]))
              exact own_retN X40 hx Bd.notSynchronized e40 Bd.returns (by simp) (hb hby at_230) (⟨rfl, N40⟩) (by decide) (by decide)
            · --
              refine own_by (fun _ k => XS.ifYes X36.here hx rfl (pc0 := 196) (pc' := 205) rfl (hb hby at_196) rfl ((if0 _ _).trans (flt (mt (lw_gt _ _).mp hc39)).2.2.2) (by decide) (by decide) k) ?_
              show own_Go _ _ _ _ (T36.setTop (mkF m 205 #[.val (.long q1), .second, .val (.long q2), .second, .val (.long q3), .second, .val (.long v6_2), .second, .val (.long v8_4), .second, .val (.ref b7), .val (.int (1 : Int32)), .val (.long v12_35), .second, .unset] []))
              refine own_by (fun _ k => XS.iconst X36.here hx rfl (hb hby at_205) k) ?_
              show own_Go _ _ _ _ (T36.setTop (mkF m 206 #[.val (.long q1), .second, .val (.long q2), .second, .val (.long q3), .second, .val (.long v6_2), .second, .val (.long v8_4), .second, .val (.ref b7), .val (.int (1 : Int32)), .val (.long v12_35), .second, .unset] [(.int (1 : Int32))]))
              refine own_by (fun _ k => XS.istore X36.here hx rfl (hb hby at_206) rfl (l' := #[.val (.long q1), .second, .val (.long q2), .second, .val (.long q3), .second, .val (.long v6_2), .second, .val (.long v8_4), .second, .val (.ref b7), .val (.int (1 : Int32)), .val (.long v12_35), .second, .val (.int (1 : Int32))]) rfl k) ?_
              show own_Go _ _ _ _ (T36.setTop (mkF m 208 #[.val (.long q1), .second, .val (.long q2), .second, .val (.long q3), .second, .val (.long v6_2), .second, .val (.long v8_4), .second, .val (.ref b7), .val (.int (1 : Int32)), .val (.long v12_35), .second, .val (.int (1 : Int32))] []))
              refine own_by (fun _ k => XS.iload X36.here hx rfl (hb hby at_208) rfl k) ?_
              show own_Go _ _ _ _ (T36.setTop (mkF m 210 #[.val (.long q1), .second, .val (.long q2), .second, .val (.long q3), .second, .val (.long v6_2), .second, .val (.long v8_4), .second, .val (.ref b7), .val (.int (1 : Int32)), .val (.long v12_35), .second, .val (.int (1 : Int32))] [(.int (1 : Int32))]))
              refine own_by (fun _ k => XS.ifNo X36.here hx rfl (hb hby at_210) rfl ((if0 _ _).trans (feq (by decide)).1) k) ?_
              show own_Go _ _ _ _ (T36.setTop (mkF m 213 #[.val (.long q1), .second, .val (.long q2), .second, .val (.long q3), .second, .val (.long v6_2), .second, .val (.long v8_4), .second, .val (.ref b7), .val (.int (1 : Int32)), .val (.long v12_35), .second, .val (.int (1 : Int32))] []))
              refine own_by (fun _ k => XS.aload X36.here hx rfl (hb hby at_213) rfl rfl k) ?_
              show own_Go _ _ _ _ (T36.setTop (mkF m 215 #[.val (.long q1), .second, .val (.long q2), .second, .val (.long q3), .second, .val (.long v6_2), .second, .val (.long v8_4), .second, .val (.ref b7), .val (.int (1 : Int32)), .val (.long v12_35), .second, .val (.int (1 : Int32))] [(.ref b7)]))
              refine own_by (fun _ k => XS.lload X36.here hx rfl (hb hby at_215) rfl k) ?_
              show own_Go _ _ _ _ (T36.setTop (mkF m 217 #[.val (.long q1), .second, .val (.long q2), .second, .val (.long q3), .second, .val (.long v6_2), .second, .val (.long v8_4), .second, .val (.ref b7), .val (.int (1 : Int32)), .val (.long v12_35), .second, .val (.int (1 : Int32))] [(.long q3), (.ref b7)]))
              obtain ⟨cq41, kq41, q41a, q41b, q41c⟩ := isOf hZ e36 f11
              obtain ⟨_, _, ⟨T41, L41, k41, n41⟩, -, X41, ⟨Lc41, hQ41, l41, y41, z41⟩, st41⟩ := X36.virtualBack hx (y := (⟨"com/example/time_for_trials/timefortrials/protocol/Workflow$DayWindow", "holds", "(J)Z"⟩ : MethodName)) (z := (⟨"com/example/time_for_trials/timefortrials/protocol/Workflow$DayWindow", "holds", "(J)Z"⟩ : MethodName)) hown (mvT hZ (hw _ (List.mem_of_getElem? (i := 25) rfl))) (mvT hZ (hw _ (List.mem_of_getElem? (i := 26) rfl))) (notFace_of_selects (args := #[]) (mvT hZ (hw _ (List.mem_of_getElem? (i := 28) rfl)))) (mvT hZ (hw _ (List.mem_of_getElem? (i := 28) rfl))) (mvT hZ (hw _ (List.mem_of_getElem? (i := 27) rfl))) (by decide) (backOf (W := 0) (rm6 l Z a0 hw [] b7 q3 v6_2 v8_4 (1 : Int32) h10 n0 Z10 F10a F10b (by simp [own_H, hc37, hc39])) hZ (hw _ (List.mem_of_getElem? (i := 29) rfl)) (hw _ (List.mem_of_getElem? (i := 9) rfl)) (by decide) (by decide)) q41a q41c (g := (mkF m 217 #[.val (.long q1), .second, .val (.long q2), .second, .val (.long q3), .second, .val (.long v6_2), .second, .val (.long v8_4), .second, .val (.ref b7), .val (.int (1 : Int32)), .val (.long v12_35), .second, .val (.int (1 : Int32))] [(.long q3), (.ref b7)])) rfl (by rw [hml]; rfl) (Steps.refl _) (argsL := [(.long q3)]) (rest := []) (lenOf own_pd3 rfl) rfl (by show 2 * 0 + _ ≤ _; exact Nat.le_of_eq rfl) (hb hby at_217) (fun _ _ => ⟨rfl, e36, Nat.le_of_ble_eq_true rfl, Nat.le_of_ble_eq_true rfl⟩)
              dsimp only [Pt.U, Pt.locs, Pt.cells, Pt.slots] at X41 l41 y41 z41 st41 hQ41
              subst l41 y41 z41
              obtain ⟨rfl, N41q, e41⟩ := hQ41
              have N41 := Fr.app N36 N41q
              refine own_tr st41 ?_
              show own_Go _ _ _ _ (T41.setTop (mkF m 220 #[.val (.long q1), .second, .val (.long q2), .second, .val (.long q3), .second, .val (.long v6_2), .second, .val (.long v8_4), .second, .val (.ref b7), .val (.int (1 : Int32)), .val (.long v12_35), .second, .val (.int (1 : Int32))] [(.int (1 : Int32))]))
              refine own_by (fun _ k => XS.iload X41.here hx rfl (hb hby at_220) rfl k) ?_
              show own_Go _ _ _ _ (T41.setTop (mkF m 222 #[.val (.long q1), .second, .val (.long q2), .second, .val (.long q3), .second, .val (.long v6_2), .second, .val (.long v8_4), .second, .val (.ref b7), .val (.int (1 : Int32)), .val (.long v12_35), .second, .val (.int (1 : Int32))] [(.int (1 : Int32)), (.int (1 : Int32))]))
              refine own_by (fun _ k => XS.icmpNo X41.here hx rfl (hb hby at_222) rfl (teq (by decide)).2 k) ?_
              show own_Go _ _ _ _ (T41.setTop (mkF m 225 #[.val (.long q1), .second, .val (.long q2), .second, .val (.long q3), .second, .val (.long v6_2), .second, .val (.long v8_4), .second, .val (.ref b7), .val (.int (1 : Int32)), .val (.long v12_35), .second, .val (.int (1 : Int32))] []))
              refine own_by (fun _ k => XS.iconst X41.here hx rfl (hb hby at_225) k) ?_
              show own_Go _ _ _ _ (T41.setTop (mkF m 226 #[.val (.long q1), .second, .val (.long q2), .second, .val (.long q3), .second, .val (.long v6_2), .second, .val (.long v8_4), .second, .val (.ref b7), .val (.int (1 : Int32)), .val (.long v12_35), .second, .val (.int (1 : Int32))] [(.int (1 : Int32))]))
              refine own_by (fun _ k => XS.goto X41.here hx rfl (pc0 := 226) (pc' := 230) rfl (hb hby at_226) (by decide) (by decide) k) ?_
              show own_Go _ _ _ _ (T41.setTop (mkF m 230 #[.val (.long q1), .second, .val (.long q2), .second, .val (.long q3), .second, .val (.long v6_2), .second, .val (.long v8_4), .second, .val (.ref b7), .val (.int (1 : Int32)), .val (.long v12_35), .second, .val (.int (1 : Int32))] [(.int (1 : Int32))]))
              exact own_retN X41 hx Bd.notSynchronized e41 Bd.returns (by simp) (hb hby at_230) (⟨rfl, N41⟩) (by decide) (by decide)
        · --
          refine own_by (fun _ k => XS.ifNo X33.here hx rfl (hb hby at_109) rfl ((if0 _ _).trans (feq (mt (lw_eq _ _).mp hc34)).1) k) ?_
          show own_Go _ _ _ _ (T33.setTop (mkF m 112 #[.val (.long q1), .second, .val (.long q2), .second, .val (.long q3), .second, .val (.long v6_2), .second, .val (.long v8_4), .second, .val (.ref b7), .val (.int (1 : Int32)), .unset, .unset, .unset] []))
          refine own_by (fun _ k => XS.iload X33.here hx rfl (hb hby at_112) rfl k) ?_
          show own_Go _ _ _ _ (T33.setTop (mkF m 114 #[.val (.long q1), .second, .val (.long q2), .second, .val (.long q3), .second, .val (.long v6_2), .second, .val (.long v8_4), .second, .val (.ref b7), .val (.int (1 : Int32)), .unset, .unset, .unset] [(.int (1 : Int32))]))
          refine own_by (fun _ k => XS.ifNo X33.here hx rfl (hb hby at_114) rfl ((if0 _ _).trans (feq (by decide)).1) k) ?_
          show own_Go _ _ _ _ (T33.setTop (mkF m 117 #[.val (.long q1), .second, .val (.long q2), .second, .val (.long q3), .second, .val (.long v6_2), .second, .val (.long v8_4), .second, .val (.ref b7), .val (.int (1 : Int32)), .unset, .unset, .unset] []))
          refine own_by (fun _ k => XS.aload X33.here hx rfl (hb hby at_117) rfl rfl k) ?_
          show own_Go _ _ _ _ (T33.setTop (mkF m 119 #[.val (.long q1), .second, .val (.long q2), .second, .val (.long q3), .second, .val (.long v6_2), .second, .val (.long v8_4), .second, .val (.ref b7), .val (.int (1 : Int32)), .unset, .unset, .unset] [(.ref b7)]))
          refine own_by (fun _ k => XS.lload X33.here hx rfl (hb hby at_119) rfl k) ?_
          show own_Go _ _ _ _ (T33.setTop (mkF m 121 #[.val (.long q1), .second, .val (.long q2), .second, .val (.long q3), .second, .val (.long v6_2), .second, .val (.long v8_4), .second, .val (.ref b7), .val (.int (1 : Int32)), .unset, .unset, .unset] [(.long v8_4), (.ref b7)]))
          refine own_by (fun _ k => XS.lconst X33.here hx rfl (hb hby at_121) k) ?_
          show own_Go _ _ _ _ (T33.setTop (mkF m 122 #[.val (.long q1), .second, .val (.long q2), .second, .val (.long q3), .second, .val (.long v6_2), .second, .val (.long v8_4), .second, .val (.ref b7), .val (.int (1 : Int32)), .unset, .unset, .unset] [(.long (1 : Int64)), (.long v8_4), (.ref b7)]))
          refine own_by (fun _ k => XS.ladd X33.here hx rfl (hb hby at_122) rfl k) ?_
          show own_Go _ _ _ _ (T33.setTop (mkF m 123 #[.val (.long q1), .second, .val (.long q2), .second, .val (.long q3), .second, .val (.long v6_2), .second, .val (.long v8_4), .second, .val (.ref b7), .val (.int (1 : Int32)), .unset, .unset, .unset] [(.long (v8_4 + (1 : Int64))), (.ref b7)]))
          obtain ⟨cq42, kq42, q42a, q42b, q42c⟩ := isOf hZ e33 f11
          obtain ⟨_, _, ⟨T42, L42, k42, n42⟩, -, X42, ⟨Lc42, hQ42, l42, y42, z42⟩, st42⟩ := X33.virtualBack hx (y := (⟨"com/example/time_for_trials/timefortrials/protocol/Workflow$DayWindow", "holds", "(J)Z"⟩ : MethodName)) (z := (⟨"com/example/time_for_trials/timefortrials/protocol/Workflow$DayWindow", "holds", "(J)Z"⟩ : MethodName)) hown (mvT hZ (hw _ (List.mem_of_getElem? (i := 25) rfl))) (mvT hZ (hw _ (List.mem_of_getElem? (i := 26) rfl))) (notFace_of_selects (args := #[]) (mvT hZ (hw _ (List.mem_of_getElem? (i := 28) rfl)))) (mvT hZ (hw _ (List.mem_of_getElem? (i := 28) rfl))) (mvT hZ (hw _ (List.mem_of_getElem? (i := 27) rfl))) (by decide) (backOf (W := 0) (rm6 l Z a0 hw [] b7 (v8_4 + (1 : Int64)) v6_2 v8_4 (0 : Int32) h10 n0 Z10 F10a F10b (own_h4 v6_2 v8_4 hc34)) hZ (hw _ (List.mem_of_getElem? (i := 29) rfl)) (hw _ (List.mem_of_getElem? (i := 9) rfl)) (by decide) (by decide)) q42a q42c (g := (mkF m 123 #[.val (.long q1), .second, .val (.long q2), .second, .val (.long q3), .second, .val (.long v6_2), .second, .val (.long v8_4), .second, .val (.ref b7), .val (.int (1 : Int32)), .unset, .unset, .unset] [(.long (v8_4 + (1 : Int64))), (.ref b7)])) rfl (by rw [hml]; rfl) (Steps.refl _) (argsL := [(.long (v8_4 + (1 : Int64)))]) (rest := []) (lenOf own_pd3 rfl) rfl (by show 2 * 0 + _ ≤ _; exact Nat.le_of_eq rfl) (hb hby at_123) (fun _ _ => ⟨rfl, e33, Nat.le_of_ble_eq_true rfl, Nat.le_of_ble_eq_true rfl⟩)
          dsimp only [Pt.U, Pt.locs, Pt.cells, Pt.slots] at X42 l42 y42 z42 st42 hQ42
          subst l42 y42 z42
          obtain ⟨rfl, N42q, e42⟩ := hQ42
          have N42 := Fr.app N33 N42q
          refine own_tr st42 ?_
          show own_Go _ _ _ _ (T42.setTop (mkF m 126 #[.val (.long q1), .second, .val (.long q2), .second, .val (.long q3), .second, .val (.long v6_2), .second, .val (.long v8_4), .second, .val (.ref b7), .val (.int (1 : Int32)), .unset, .unset, .unset] [(.int (0 : Int32))]))
          refine own_by (fun _ k => XS.ifNo X42.here hx rfl (hb hby at_126) rfl ((if0 _ _).trans (teq (by decide)).2) k) ?_
          show own_Go _ _ _ _ (T42.setTop (mkF m 129 #[.val (.long q1), .second, .val (.long q2), .second, .val (.long q3), .second, .val (.long v6_2), .second, .val (.long v8_4), .second, .val (.ref b7), .val (.int (1 : Int32)), .unset, .unset, .unset] []))
          refine own_by (fun _ k => XS.iconst X42.here hx rfl (hb hby at_129) k) ?_
          show own_Go _ _ _ _ (T42.setTop (mkF m 130 #[.val (.long q1), .second, .val (.long q2), .second, .val (.long q3), .second, .val (.long v6_2), .second, .val (.long v8_4), .second, .val (.ref b7), .val (.int (1 : Int32)), .unset, .unset, .unset] [(.int (1 : Int32))]))
          refine own_by (fun _ k => XS.goto X42.here hx rfl (pc0 := 130) (pc' := 134) rfl (hb hby at_130) (by decide) (by decide) k) ?_
          show own_Go _ _ _ _ (T42.setTop (mkF m 134 #[.val (.long q1), .second, .val (.long q2), .second, .val (.long q3), .second, .val (.long v6_2), .second, .val (.long v8_4), .second, .val (.ref b7), .val (.int (1 : Int32)), .unset, .unset, .unset] [(.int (1 : Int32))]))
          refine own_by (fun _ k => XS.istore X42.here hx rfl (hb hby at_134) rfl (l' := #[.val (.long q1), .second, .val (.long q2), .second, .val (.long q3), .second, .val (.long v6_2), .second, .val (.long v8_4), .second, .val (.ref b7), .val (.int (1 : Int32)), .unset, .unset, .unset]) rfl k) ?_
          show own_Go _ _ _ _ (T42.setTop (mkF m 136 #[.val (.long q1), .second, .val (.long q2), .second, .val (.long q3), .second, .val (.long v6_2), .second, .val (.long v8_4), .second, .val (.ref b7), .val (.int (1 : Int32)), .unset, .unset, .unset] []))
          refine own_by (fun _ k => XS.lload X42.here hx rfl (hb hby at_136) rfl k) ?_
          show own_Go _ _ _ _ (T42.setTop (mkF m 138 #[.val (.long q1), .second, .val (.long q2), .second, .val (.long q3), .second, .val (.long v6_2), .second, .val (.long v8_4), .second, .val (.ref b7), .val (.int (1 : Int32)), .unset, .unset, .unset] [(.long v6_2)]))
          refine own_by (fun _ k => XS.iconst X42.here hx rfl (hb hby at_138) k) ?_
          show own_Go _ _ _ _ (T42.setTop (mkF m 139 #[.val (.long q1), .second, .val (.long q2), .second, .val (.long q3), .second, .val (.long v6_2), .second, .val (.long v8_4), .second, .val (.ref b7), .val (.int (1 : Int32)), .unset, .unset, .unset] [(.int (1 : Int32)), (.long v6_2)]))
          refine own_by (fun _ k => XS.lshr X42.here hx rfl (hb hby at_139) rfl k) ?_
          show own_Go _ _ _ _ (T42.setTop (mkF m 140 #[.val (.long q1), .second, .val (.long q2), .second, .val (.long q3), .second, .val (.long v6_2), .second, .val (.long v8_4), .second, .val (.ref b7), .val (.int (1 : Int32)), .unset, .unset, .unset] [(.long (v6_2 >>> ((1 : Int32) &&& 0x3f).toInt64))]))
          refine own_by (fun _ k => XS.lload X42.here hx rfl (hb hby at_140) rfl k) ?_
          show own_Go _ _ _ _ (T42.setTop (mkF m 142 #[.val (.long q1), .second, .val (.long q2), .second, .val (.long q3), .second, .val (.long v6_2), .second, .val (.long v8_4), .second, .val (.ref b7), .val (.int (1 : Int32)), .unset, .unset, .unset] [(.long v8_4), (.long (v6_2 >>> ((1 : Int32) &&& 0x3f).toInt64))]))
          refine own_by (fun _ k => XS.iconst X42.here hx rfl (hb hby at_142) k) ?_
          show own_Go _ _ _ _ (T42.setTop (mkF m 143 #[.val (.long q1), .second, .val (.long q2), .second, .val (.long q3), .second, .val (.long v6_2), .second, .val (.long v8_4), .second, .val (.ref b7), .val (.int (1 : Int32)), .unset, .unset, .unset] [(.int (1 : Int32)), (.long v8_4), (.long (v6_2 >>> ((1 : Int32) &&& 0x3f).toInt64))]))
          refine own_by (fun _ k => XS.lshr X42.here hx rfl (hb hby at_143) rfl k) ?_
          show own_Go _ _ _ _ (T42.setTop (mkF m 144 #[.val (.long q1), .second, .val (.long q2), .second, .val (.long q3), .second, .val (.long v6_2), .second, .val (.long v8_4), .second, .val (.ref b7), .val (.int (1 : Int32)), .unset, .unset, .unset] [(.long (v8_4 >>> ((1 : Int32) &&& 0x3f).toInt64)), (.long (v6_2 >>> ((1 : Int32) &&& 0x3f).toInt64))]))
          refine own_by (fun _ k => XS.ladd X42.here hx rfl (hb hby at_144) rfl k) ?_
          show own_Go _ _ _ _ (T42.setTop (mkF m 145 #[.val (.long q1), .second, .val (.long q2), .second, .val (.long q3), .second, .val (.long v6_2), .second, .val (.long v8_4), .second, .val (.ref b7), .val (.int (1 : Int32)), .unset, .unset, .unset] [(.long ((v6_2 >>> ((1 : Int32) &&& 0x3f).toInt64) + (v8_4 >>> ((1 : Int32) &&& 0x3f).toInt64)))]))
          refine own_by (fun _ k => XS.lload X42.here hx rfl (hb hby at_145) rfl k) ?_
          show own_Go _ _ _ _ (T42.setTop (mkF m 147 #[.val (.long q1), .second, .val (.long q2), .second, .val (.long q3), .second, .val (.long v6_2), .second, .val (.long v8_4), .second, .val (.ref b7), .val (.int (1 : Int32)), .unset, .unset, .unset] [(.long v6_2), (.long ((v6_2 >>> ((1 : Int32) &&& 0x3f).toInt64) + (v8_4 >>> ((1 : Int32) &&& 0x3f).toInt64)))]))
          refine own_by (fun _ k => XS.lload X42.here hx rfl (hb hby at_147) rfl k) ?_
          show own_Go _ _ _ _ (T42.setTop (mkF m 149 #[.val (.long q1), .second, .val (.long q2), .second, .val (.long q3), .second, .val (.long v6_2), .second, .val (.long v8_4), .second, .val (.ref b7), .val (.int (1 : Int32)), .unset, .unset, .unset] [(.long v8_4), (.long v6_2), (.long ((v6_2 >>> ((1 : Int32) &&& 0x3f).toInt64) + (v8_4 >>> ((1 : Int32) &&& 0x3f).toInt64)))]))
          refine own_by (fun _ k => XS.land X42.here hx rfl (hb hby at_149) rfl k) ?_
          show own_Go _ _ _ _ (T42.setTop (mkF m 150 #[.val (.long q1), .second, .val (.long q2), .second, .val (.long q3), .second, .val (.long v6_2), .second, .val (.long v8_4), .second, .val (.ref b7), .val (.int (1 : Int32)), .unset, .unset, .unset] [(.long (v6_2 &&& v8_4)), (.long ((v6_2 >>> ((1 : Int32) &&& 0x3f).toInt64) + (v8_4 >>> ((1 : Int32) &&& 0x3f).toInt64)))]))
          refine own_by (fun _ k => XS.lconst X42.here hx rfl (hb hby at_150) k) ?_
          show own_Go _ _ _ _ (T42.setTop (mkF m 151 #[.val (.long q1), .second, .val (.long q2), .second, .val (.long q3), .second, .val (.long v6_2), .second, .val (.long v8_4), .second, .val (.ref b7), .val (.int (1 : Int32)), .unset, .unset, .unset] [(.long (1 : Int64)), (.long (v6_2 &&& v8_4)), (.long ((v6_2 >>> ((1 : Int32) &&& 0x3f).toInt64) + (v8_4 >>> ((1 : Int32) &&& 0x3f).toInt64)))]))
          refine own_by (fun _ k => XS.land X42.here hx rfl (hb hby at_151) rfl k) ?_
          show own_Go _ _ _ _ (T42.setTop (mkF m 152 #[.val (.long q1), .second, .val (.long q2), .second, .val (.long q3), .second, .val (.long v6_2), .second, .val (.long v8_4), .second, .val (.ref b7), .val (.int (1 : Int32)), .unset, .unset, .unset] [(.long ((v6_2 &&& v8_4) &&& (1 : Int64))), (.long ((v6_2 >>> ((1 : Int32) &&& 0x3f).toInt64) + (v8_4 >>> ((1 : Int32) &&& 0x3f).toInt64)))]))
          refine own_by (fun _ k => XS.ladd X42.here hx rfl (hb hby at_152) rfl k) ?_
          show own_Go _ _ _ _ (T42.setTop (mkF m 153 #[.val (.long q1), .second, .val (.long q2), .second, .val (.long q3), .second, .val (.long v6_2), .second, .val (.long v8_4), .second, .val (.ref b7), .val (.int (1 : Int32)), .unset, .unset, .unset] [(.long (((v6_2 >>> ((1 : Int32) &&& 0x3f).toInt64) + (v8_4 >>> ((1 : Int32) &&& 0x3f).toInt64)) + ((v6_2 &&& v8_4) &&& (1 : Int64))))]))
          obtain ⟨v12_43, hv12_43⟩ : ∃ z_ : Int64, (((v6_2 >>> ((1 : Int32) &&& 0x3f).toInt64) + (v8_4 >>> ((1 : Int32) &&& 0x3f).toInt64)) + ((v6_2 &&& v8_4) &&& (1 : Int64))) = z_ := ⟨_, rfl⟩
          refine own_gen hv12_43 (fun z_ => T42.setTop (mkF m 153 #[.val (.long q1), .second, .val (.long q2), .second, .val (.long q3), .second, .val (.long v6_2), .second, .val (.long v8_4), .second, .val (.ref b7), .val (.int (1 : Int32)), .unset, .unset, .unset] [(.long z_)])) ?_
          refine own_by (fun _ k => XS.lstore X42.here hx rfl (hb hby at_153) rfl (l' := #[.val (.long q1), .second, .val (.long q2), .second, .val (.long q3), .second, .val (.long v6_2), .second, .val (.long v8_4), .second, .val (.ref b7), .val (.int (1 : Int32)), .val (.long v12_43), .second, .unset]) rfl k) ?_
          show own_Go _ _ _ _ (T42.setTop (mkF m 155 #[.val (.long q1), .second, .val (.long q2), .second, .val (.long q3), .second, .val (.long v6_2), .second, .val (.long v8_4), .second, .val (.ref b7), .val (.int (1 : Int32)), .val (.long v12_43), .second, .unset] []))
          refine own_by (fun _ k => XS.iload X42.here hx rfl (hb hby at_155) rfl k) ?_
          show own_Go _ _ _ _ (T42.setTop (mkF m 157 #[.val (.long q1), .second, .val (.long q2), .second, .val (.long q3), .second, .val (.long v6_2), .second, .val (.long v8_4), .second, .val (.ref b7), .val (.int (1 : Int32)), .val (.long v12_43), .second, .unset] [(.int (1 : Int32))]))
          refine own_by (fun _ k => XS.ifNo X42.here hx rfl (hb hby at_157) rfl ((if0 _ _).trans (feq (by decide)).1) k) ?_
          show own_Go _ _ _ _ (T42.setTop (mkF m 160 #[.val (.long q1), .second, .val (.long q2), .second, .val (.long q3), .second, .val (.long v6_2), .second, .val (.long v8_4), .second, .val (.ref b7), .val (.int (1 : Int32)), .val (.long v12_43), .second, .unset] []))
          refine own_by (fun _ k => XS.aload X42.here hx rfl (hb hby at_160) rfl rfl k) ?_
          show own_Go _ _ _ _ (T42.setTop (mkF m 162 #[.val (.long q1), .second, .val (.long q2), .second, .val (.long q3), .second, .val (.long v6_2), .second, .val (.long v8_4), .second, .val (.ref b7), .val (.int (1 : Int32)), .val (.long v12_43), .second, .unset] [(.ref b7)]))
          refine own_by (fun _ k => XS.lload X42.here hx rfl (hb hby at_162) rfl k) ?_
          show own_Go _ _ _ _ (T42.setTop (mkF m 164 #[.val (.long q1), .second, .val (.long q2), .second, .val (.long q3), .second, .val (.long v6_2), .second, .val (.long v8_4), .second, .val (.ref b7), .val (.int (1 : Int32)), .val (.long v12_43), .second, .unset] [(.long v12_43), (.ref b7)]))
          obtain ⟨cq44, kq44, q44a, q44b, q44c⟩ := isOf hZ e42 f11
          obtain ⟨_, _, ⟨T44, L44, k44, n44⟩, -, X44, ⟨Lc44, hQ44, l44, y44, z44⟩, st44⟩ := X42.virtualBack hx (y := (⟨"com/example/time_for_trials/timefortrials/protocol/Workflow$DayWindow", "holds", "(J)Z"⟩ : MethodName)) (z := (⟨"com/example/time_for_trials/timefortrials/protocol/Workflow$DayWindow", "holds", "(J)Z"⟩ : MethodName)) hown (mvT hZ (hw _ (List.mem_of_getElem? (i := 25) rfl))) (mvT hZ (hw _ (List.mem_of_getElem? (i := 26) rfl))) (notFace_of_selects (args := #[]) (mvT hZ (hw _ (List.mem_of_getElem? (i := 28) rfl)))) (mvT hZ (hw _ (List.mem_of_getElem? (i := 28) rfl))) (mvT hZ (hw _ (List.mem_of_getElem? (i := 27) rfl))) (by decide) (backOf (W := 0) (rm6 l Z a0 hw [] b7 v12_43 v6_2 v8_4 (1 : Int32) h10 n0 Z10 F10a F10b (own_h5 v6_2 v8_4 v12_43 (own_fl q1 q2 v6_2 v8_4 hv6_2 hv8_4) hv12_43)) hZ (hw _ (List.mem_of_getElem? (i := 29) rfl)) (hw _ (List.mem_of_getElem? (i := 9) rfl)) (by decide) (by decide)) q44a q44c (g := (mkF m 164 #[.val (.long q1), .second, .val (.long q2), .second, .val (.long q3), .second, .val (.long v6_2), .second, .val (.long v8_4), .second, .val (.ref b7), .val (.int (1 : Int32)), .val (.long v12_43), .second, .unset] [(.long v12_43), (.ref b7)])) rfl (by rw [hml]; rfl) (Steps.refl _) (argsL := [(.long v12_43)]) (rest := []) (lenOf own_pd3 rfl) rfl (by show 2 * 0 + _ ≤ _; exact Nat.le_of_eq rfl) (hb hby at_164) (fun _ _ => ⟨rfl, e42, Nat.le_of_ble_eq_true rfl, Nat.le_of_ble_eq_true rfl⟩)
          dsimp only [Pt.U, Pt.locs, Pt.cells, Pt.slots] at X44 l44 y44 z44 st44 hQ44
          subst l44 y44 z44
          obtain ⟨rfl, N44q, e44⟩ := hQ44
          have N44 := Fr.app N42 N44q
          refine own_tr st44 ?_
          show own_Go _ _ _ _ (T44.setTop (mkF m 167 #[.val (.long q1), .second, .val (.long q2), .second, .val (.long q3), .second, .val (.long v6_2), .second, .val (.long v8_4), .second, .val (.ref b7), .val (.int (1 : Int32)), .val (.long v12_43), .second, .unset] [(.int (1 : Int32))]))
          refine own_by (fun _ k => XS.ifNo X44.here hx rfl (hb hby at_167) rfl ((if0 _ _).trans (feq (by decide)).1) k) ?_
          show own_Go _ _ _ _ (T44.setTop (mkF m 170 #[.val (.long q1), .second, .val (.long q2), .second, .val (.long q3), .second, .val (.long v6_2), .second, .val (.long v8_4), .second, .val (.ref b7), .val (.int (1 : Int32)), .val (.long v12_43), .second, .unset] []))
          refine own_by (fun _ k => XS.iconst X44.here hx rfl (hb hby at_170) k) ?_
          show own_Go _ _ _ _ (T44.setTop (mkF m 171 #[.val (.long q1), .second, .val (.long q2), .second, .val (.long q3), .second, .val (.long v6_2), .second, .val (.long v8_4), .second, .val (.ref b7), .val (.int (1 : Int32)), .val (.long v12_43), .second, .unset] [(.int (1 : Int32))]))
          refine own_by (fun _ k => XS.goto X44.here hx rfl (pc0 := 171) (pc' := 175) rfl (hb hby at_171) (by decide) (by decide) k) ?_
          show own_Go _ _ _ _ (T44.setTop (mkF m 175 #[.val (.long q1), .second, .val (.long q2), .second, .val (.long q3), .second, .val (.long v6_2), .second, .val (.long v8_4), .second, .val (.ref b7), .val (.int (1 : Int32)), .val (.long v12_43), .second, .unset] [(.int (1 : Int32))]))
          refine own_by (fun _ k => XS.istore X44.here hx rfl (hb hby at_175) rfl (l' := #[.val (.long q1), .second, .val (.long q2), .second, .val (.long q3), .second, .val (.long v6_2), .second, .val (.long v8_4), .second, .val (.ref b7), .val (.int (1 : Int32)), .val (.long v12_43), .second, .unset]) rfl k) ?_
          show own_Go _ _ _ _ (T44.setTop (mkF m 177 #[.val (.long q1), .second, .val (.long q2), .second, .val (.long q3), .second, .val (.long v6_2), .second, .val (.long v8_4), .second, .val (.ref b7), .val (.int (1 : Int32)), .val (.long v12_43), .second, .unset] []))
          refine own_by (fun _ k => XS.lload X44.here hx rfl (hb hby at_177) rfl k) ?_
          show own_Go _ _ _ _ (T44.setTop (mkF m 179 #[.val (.long q1), .second, .val (.long q2), .second, .val (.long q3), .second, .val (.long v6_2), .second, .val (.long v8_4), .second, .val (.ref b7), .val (.int (1 : Int32)), .val (.long v12_43), .second, .unset] [(.long q3)]))
          refine own_by (fun _ k => XS.lload X44.here hx rfl (hb hby at_179) rfl k) ?_
          show own_Go _ _ _ _ (T44.setTop (mkF m 181 #[.val (.long q1), .second, .val (.long q2), .second, .val (.long q3), .second, .val (.long v6_2), .second, .val (.long v8_4), .second, .val (.ref b7), .val (.int (1 : Int32)), .val (.long v12_43), .second, .unset] [(.long v6_2), (.long q3)]))
          refine own_by (fun _ k => XS.lcmp X44.here hx rfl (hb hby at_181) rfl k) ?_
          show own_Go _ _ _ _ (T44.setTop (mkF m 182 #[.val (.long q1), .second, .val (.long q2), .second, .val (.long q3), .second, .val (.long v6_2), .second, .val (.long v8_4), .second, .val (.ref b7), .val (.int (1 : Int32)), .val (.long v12_43), .second, .unset] [(.int (lcmpW q3 v6_2))]))
          by_cases hc45 : q3 < v6_2
          · --
            refine own_by (fun _ k => XS.ifNo X44.here hx rfl (hb hby at_182) rfl ((if0 _ _).trans (tlt ((lw_lt _ _).mpr hc45)).2.1) k) ?_
            show own_Go _ _ _ _ (T44.setTop (mkF m 185 #[.val (.long q1), .second, .val (.long q2), .second, .val (.long q3), .second, .val (.long v6_2), .second, .val (.long v8_4), .second, .val (.ref b7), .val (.int (1 : Int32)), .val (.long v12_43), .second, .unset] []))
            refine own_by (fun _ k => XS.iconst X44.here hx rfl (hb hby at_185) k) ?_
            show own_Go _ _ _ _ (T44.setTop (mkF m 186 #[.val (.long q1), .second, .val (.long q2), .second, .val (.long q3), .second, .val (.long v6_2), .second, .val (.long v8_4), .second, .val (.ref b7), .val (.int (1 : Int32)), .val (.long v12_43), .second, .unset] [(.int (0 : Int32))]))
            refine own_by (fun _ k => XS.istore X44.here hx rfl (hb hby at_186) rfl (l' := #[.val (.long q1), .second, .val (.long q2), .second, .val (.long q3), .second, .val (.long v6_2), .second, .val (.long v8_4), .second, .val (.ref b7), .val (.int (1 : Int32)), .val (.long v12_43), .second, .val (.int (0 : Int32))]) rfl k) ?_
            show own_Go _ _ _ _ (T44.setTop (mkF m 188 #[.val (.long q1), .second, .val (.long q2), .second, .val (.long q3), .second, .val (.long v6_2), .second, .val (.long v8_4), .second, .val (.ref b7), .val (.int (1 : Int32)), .val (.long v12_43), .second, .val (.int (0 : Int32))] []))
            refine own_by (fun _ k => XS.goto X44.here hx rfl (pc0 := 188) (pc' := 208) rfl (hb hby at_188) (by decide) (by decide) k) ?_
            show own_Go _ _ _ _ (T44.setTop (mkF m 208 #[.val (.long q1), .second, .val (.long q2), .second, .val (.long q3), .second, .val (.long v6_2), .second, .val (.long v8_4), .second, .val (.ref b7), .val (.int (1 : Int32)), .val (.long v12_43), .second, .val (.int (0 : Int32))] []))
            refine own_by (fun _ k => XS.iload X44.here hx rfl (hb hby at_208) rfl k) ?_
            show own_Go _ _ _ _ (T44.setTop (mkF m 210 #[.val (.long q1), .second, .val (.long q2), .second, .val (.long q3), .second, .val (.long v6_2), .second, .val (.long v8_4), .second, .val (.ref b7), .val (.int (1 : Int32)), .val (.long v12_43), .second, .val (.int (0 : Int32))] [(.int (1 : Int32))]))
            refine own_by (fun _ k => XS.ifNo X44.here hx rfl (hb hby at_210) rfl ((if0 _ _).trans (feq (by decide)).1) k) ?_
            show own_Go _ _ _ _ (T44.setTop (mkF m 213 #[.val (.long q1), .second, .val (.long q2), .second, .val (.long q3), .second, .val (.long v6_2), .second, .val (.long v8_4), .second, .val (.ref b7), .val (.int (1 : Int32)), .val (.long v12_43), .second, .val (.int (0 : Int32))] []))
            refine own_by (fun _ k => XS.aload X44.here hx rfl (hb hby at_213) rfl rfl k) ?_
            show own_Go _ _ _ _ (T44.setTop (mkF m 215 #[.val (.long q1), .second, .val (.long q2), .second, .val (.long q3), .second, .val (.long v6_2), .second, .val (.long v8_4), .second, .val (.ref b7), .val (.int (1 : Int32)), .val (.long v12_43), .second, .val (.int (0 : Int32))] [(.ref b7)]))
            refine own_by (fun _ k => XS.lload X44.here hx rfl (hb hby at_215) rfl k) ?_
            show own_Go _ _ _ _ (T44.setTop (mkF m 217 #[.val (.long q1), .second, .val (.long q2), .second, .val (.long q3), .second, .val (.long v6_2), .second, .val (.long v8_4), .second, .val (.ref b7), .val (.int (1 : Int32)), .val (.long v12_43), .second, .val (.int (0 : Int32))] [(.long q3), (.ref b7)]))
            obtain ⟨cq46, kq46, q46a, q46b, q46c⟩ := isOf hZ e44 f11
            obtain ⟨_, _, ⟨T46, L46, k46, n46⟩, -, X46, ⟨Lc46, hQ46, l46, y46, z46⟩, st46⟩ := X44.virtualBack hx (y := (⟨"com/example/time_for_trials/timefortrials/protocol/Workflow$DayWindow", "holds", "(J)Z"⟩ : MethodName)) (z := (⟨"com/example/time_for_trials/timefortrials/protocol/Workflow$DayWindow", "holds", "(J)Z"⟩ : MethodName)) hown (mvT hZ (hw _ (List.mem_of_getElem? (i := 25) rfl))) (mvT hZ (hw _ (List.mem_of_getElem? (i := 26) rfl))) (notFace_of_selects (args := #[]) (mvT hZ (hw _ (List.mem_of_getElem? (i := 28) rfl)))) (mvT hZ (hw _ (List.mem_of_getElem? (i := 28) rfl))) (mvT hZ (hw _ (List.mem_of_getElem? (i := 27) rfl))) (by decide) (backOf (W := 0) (rm6 l Z a0 hw [] b7 q3 v6_2 v8_4 (0 : Int32) h10 n0 Z10 F10a F10b (by simp [own_H, hc45])) hZ (hw _ (List.mem_of_getElem? (i := 29) rfl)) (hw _ (List.mem_of_getElem? (i := 9) rfl)) (by decide) (by decide)) q46a q46c (g := (mkF m 217 #[.val (.long q1), .second, .val (.long q2), .second, .val (.long q3), .second, .val (.long v6_2), .second, .val (.long v8_4), .second, .val (.ref b7), .val (.int (1 : Int32)), .val (.long v12_43), .second, .val (.int (0 : Int32))] [(.long q3), (.ref b7)])) rfl (by rw [hml]; rfl) (Steps.refl _) (argsL := [(.long q3)]) (rest := []) (lenOf own_pd3 rfl) rfl (by show 2 * 0 + _ ≤ _; exact Nat.le_of_eq rfl) (hb hby at_217) (fun _ _ => ⟨rfl, e44, Nat.le_of_ble_eq_true rfl, Nat.le_of_ble_eq_true rfl⟩)
            dsimp only [Pt.U, Pt.locs, Pt.cells, Pt.slots] at X46 l46 y46 z46 st46 hQ46
            subst l46 y46 z46
            obtain ⟨rfl, N46q, e46⟩ := hQ46
            have N46 := Fr.app N44 N46q
            refine own_tr st46 ?_
            show own_Go _ _ _ _ (T46.setTop (mkF m 220 #[.val (.long q1), .second, .val (.long q2), .second, .val (.long q3), .second, .val (.long v6_2), .second, .val (.long v8_4), .second, .val (.ref b7), .val (.int (1 : Int32)), .val (.long v12_43), .second, .val (.int (0 : Int32))] [(.int (0 : Int32))]))
            refine own_by (fun _ k => XS.iload X46.here hx rfl (hb hby at_220) rfl k) ?_
            show own_Go _ _ _ _ (T46.setTop (mkF m 222 #[.val (.long q1), .second, .val (.long q2), .second, .val (.long q3), .second, .val (.long v6_2), .second, .val (.long v8_4), .second, .val (.ref b7), .val (.int (1 : Int32)), .val (.long v12_43), .second, .val (.int (0 : Int32))] [(.int (0 : Int32)), (.int (0 : Int32))]))
            refine own_by (fun _ k => XS.icmpNo X46.here hx rfl (hb hby at_222) rfl (teq (by decide)).2 k) ?_
            show own_Go _ _ _ _ (T46.setTop (mkF m 225 #[.val (.long q1), .second, .val (.long q2), .second, .val (.long q3), .second, .val (.long v6_2), .second, .val (.long v8_4), .second, .val (.ref b7), .val (.int (1 : Int32)), .val (.long v12_43), .second, .val (.int (0 : Int32))] []))
            refine own_by (fun _ k => XS.iconst X46.here hx rfl (hb hby at_225) k) ?_
            show own_Go _ _ _ _ (T46.setTop (mkF m 226 #[.val (.long q1), .second, .val (.long q2), .second, .val (.long q3), .second, .val (.long v6_2), .second, .val (.long v8_4), .second, .val (.ref b7), .val (.int (1 : Int32)), .val (.long v12_43), .second, .val (.int (0 : Int32))] [(.int (1 : Int32))]))
            refine own_by (fun _ k => XS.goto X46.here hx rfl (pc0 := 226) (pc' := 230) rfl (hb hby at_226) (by decide) (by decide) k) ?_
            show own_Go _ _ _ _ (T46.setTop (mkF m 230 #[.val (.long q1), .second, .val (.long q2), .second, .val (.long q3), .second, .val (.long v6_2), .second, .val (.long v8_4), .second, .val (.ref b7), .val (.int (1 : Int32)), .val (.long v12_43), .second, .val (.int (0 : Int32))] [(.int (1 : Int32))]))
            exact own_retN X46 hx Bd.notSynchronized e46 Bd.returns (by simp) (hb hby at_230) (⟨rfl, N46⟩) (by decide) (by decide)
          · --
            refine own_by (fun _ k => XS.ifYes X44.here hx rfl (pc0 := 182) (pc' := 191) rfl (hb hby at_182) rfl ((if0 _ _).trans (flt (mt (lw_lt _ _).mp hc45)).2.1) (by decide) (by decide) k) ?_
            show own_Go _ _ _ _ (T44.setTop (mkF m 191 #[.val (.long q1), .second, .val (.long q2), .second, .val (.long q3), .second, .val (.long v6_2), .second, .val (.long v8_4), .second, .val (.ref b7), .val (.int (1 : Int32)), .val (.long v12_43), .second, .unset] []))
            refine own_by (fun _ k => XS.lload X44.here hx rfl (hb hby at_191) rfl k) ?_
            show own_Go _ _ _ _ (T44.setTop (mkF m 193 #[.val (.long q1), .second, .val (.long q2), .second, .val (.long q3), .second, .val (.long v6_2), .second, .val (.long v8_4), .second, .val (.ref b7), .val (.int (1 : Int32)), .val (.long v12_43), .second, .unset] [(.long q3)]))
            refine own_by (fun _ k => XS.lload X44.here hx rfl (hb hby at_193) rfl k) ?_
            show own_Go _ _ _ _ (T44.setTop (mkF m 195 #[.val (.long q1), .second, .val (.long q2), .second, .val (.long q3), .second, .val (.long v6_2), .second, .val (.long v8_4), .second, .val (.ref b7), .val (.int (1 : Int32)), .val (.long v12_43), .second, .unset] [(.long v8_4), (.long q3)]))
            refine own_by (fun _ k => XS.lcmp X44.here hx rfl (hb hby at_195) rfl k) ?_
            show own_Go _ _ _ _ (T44.setTop (mkF m 196 #[.val (.long q1), .second, .val (.long q2), .second, .val (.long q3), .second, .val (.long v6_2), .second, .val (.long v8_4), .second, .val (.ref b7), .val (.int (1 : Int32)), .val (.long v12_43), .second, .unset] [(.int (lcmpW q3 v8_4))]))
            by_cases hc47 : v8_4 < q3
            · --
              refine own_by (fun _ k => XS.ifNo X44.here hx rfl (hb hby at_196) rfl ((if0 _ _).trans (tlt ((lw_gt _ _).mpr hc47)).2.2.2) k) ?_
              show own_Go _ _ _ _ (T44.setTop (mkF m 199 #[.val (.long q1), .second, .val (.long q2), .second, .val (.long q3), .second, .val (.long v6_2), .second, .val (.long v8_4), .second, .val (.ref b7), .val (.int (1 : Int32)), .val (.long v12_43), .second, .unset] []))
              refine own_by (fun _ k => XS.iconst X44.here hx rfl (hb hby at_199) k) ?_
              show own_Go _ _ _ _ (T44.setTop (mkF m 200 #[.val (.long q1), .second, .val (.long q2), .second, .val (.long q3), .second, .val (.long v6_2), .second, .val (.long v8_4), .second, .val (.ref b7), .val (.int (1 : Int32)), .val (.long v12_43), .second, .unset] [(.int (0 : Int32))]))
              refine own_by (fun _ k => XS.istore X44.here hx rfl (hb hby at_200) rfl (l' := #[.val (.long q1), .second, .val (.long q2), .second, .val (.long q3), .second, .val (.long v6_2), .second, .val (.long v8_4), .second, .val (.ref b7), .val (.int (1 : Int32)), .val (.long v12_43), .second, .val (.int (0 : Int32))]) rfl k) ?_
              show own_Go _ _ _ _ (T44.setTop (mkF m 202 #[.val (.long q1), .second, .val (.long q2), .second, .val (.long q3), .second, .val (.long v6_2), .second, .val (.long v8_4), .second, .val (.ref b7), .val (.int (1 : Int32)), .val (.long v12_43), .second, .val (.int (0 : Int32))] []))
              refine own_by (fun _ k => XS.goto X44.here hx rfl (pc0 := 202) (pc' := 208) rfl (hb hby at_202) (by decide) (by decide) k) ?_
              show own_Go _ _ _ _ (T44.setTop (mkF m 208 #[.val (.long q1), .second, .val (.long q2), .second, .val (.long q3), .second, .val (.long v6_2), .second, .val (.long v8_4), .second, .val (.ref b7), .val (.int (1 : Int32)), .val (.long v12_43), .second, .val (.int (0 : Int32))] []))
              refine own_by (fun _ k => XS.iload X44.here hx rfl (hb hby at_208) rfl k) ?_
              show own_Go _ _ _ _ (T44.setTop (mkF m 210 #[.val (.long q1), .second, .val (.long q2), .second, .val (.long q3), .second, .val (.long v6_2), .second, .val (.long v8_4), .second, .val (.ref b7), .val (.int (1 : Int32)), .val (.long v12_43), .second, .val (.int (0 : Int32))] [(.int (1 : Int32))]))
              refine own_by (fun _ k => XS.ifNo X44.here hx rfl (hb hby at_210) rfl ((if0 _ _).trans (feq (by decide)).1) k) ?_
              show own_Go _ _ _ _ (T44.setTop (mkF m 213 #[.val (.long q1), .second, .val (.long q2), .second, .val (.long q3), .second, .val (.long v6_2), .second, .val (.long v8_4), .second, .val (.ref b7), .val (.int (1 : Int32)), .val (.long v12_43), .second, .val (.int (0 : Int32))] []))
              refine own_by (fun _ k => XS.aload X44.here hx rfl (hb hby at_213) rfl rfl k) ?_
              show own_Go _ _ _ _ (T44.setTop (mkF m 215 #[.val (.long q1), .second, .val (.long q2), .second, .val (.long q3), .second, .val (.long v6_2), .second, .val (.long v8_4), .second, .val (.ref b7), .val (.int (1 : Int32)), .val (.long v12_43), .second, .val (.int (0 : Int32))] [(.ref b7)]))
              refine own_by (fun _ k => XS.lload X44.here hx rfl (hb hby at_215) rfl k) ?_
              show own_Go _ _ _ _ (T44.setTop (mkF m 217 #[.val (.long q1), .second, .val (.long q2), .second, .val (.long q3), .second, .val (.long v6_2), .second, .val (.long v8_4), .second, .val (.ref b7), .val (.int (1 : Int32)), .val (.long v12_43), .second, .val (.int (0 : Int32))] [(.long q3), (.ref b7)]))
              obtain ⟨cq48, kq48, q48a, q48b, q48c⟩ := isOf hZ e44 f11
              obtain ⟨_, _, ⟨T48, L48, k48, n48⟩, -, X48, ⟨Lc48, hQ48, l48, y48, z48⟩, st48⟩ := X44.virtualBack hx (y := (⟨"com/example/time_for_trials/timefortrials/protocol/Workflow$DayWindow", "holds", "(J)Z"⟩ : MethodName)) (z := (⟨"com/example/time_for_trials/timefortrials/protocol/Workflow$DayWindow", "holds", "(J)Z"⟩ : MethodName)) hown (mvT hZ (hw _ (List.mem_of_getElem? (i := 25) rfl))) (mvT hZ (hw _ (List.mem_of_getElem? (i := 26) rfl))) (notFace_of_selects (args := #[]) (mvT hZ (hw _ (List.mem_of_getElem? (i := 28) rfl)))) (mvT hZ (hw _ (List.mem_of_getElem? (i := 28) rfl))) (mvT hZ (hw _ (List.mem_of_getElem? (i := 27) rfl))) (by decide) (backOf (W := 0) (rm6 l Z a0 hw [] b7 q3 v6_2 v8_4 (0 : Int32) h10 n0 Z10 F10a F10b (by simp [own_H, hc45, hc47])) hZ (hw _ (List.mem_of_getElem? (i := 29) rfl)) (hw _ (List.mem_of_getElem? (i := 9) rfl)) (by decide) (by decide)) q48a q48c (g := (mkF m 217 #[.val (.long q1), .second, .val (.long q2), .second, .val (.long q3), .second, .val (.long v6_2), .second, .val (.long v8_4), .second, .val (.ref b7), .val (.int (1 : Int32)), .val (.long v12_43), .second, .val (.int (0 : Int32))] [(.long q3), (.ref b7)])) rfl (by rw [hml]; rfl) (Steps.refl _) (argsL := [(.long q3)]) (rest := []) (lenOf own_pd3 rfl) rfl (by show 2 * 0 + _ ≤ _; exact Nat.le_of_eq rfl) (hb hby at_217) (fun _ _ => ⟨rfl, e44, Nat.le_of_ble_eq_true rfl, Nat.le_of_ble_eq_true rfl⟩)
              dsimp only [Pt.U, Pt.locs, Pt.cells, Pt.slots] at X48 l48 y48 z48 st48 hQ48
              subst l48 y48 z48
              obtain ⟨rfl, N48q, e48⟩ := hQ48
              have N48 := Fr.app N44 N48q
              refine own_tr st48 ?_
              show own_Go _ _ _ _ (T48.setTop (mkF m 220 #[.val (.long q1), .second, .val (.long q2), .second, .val (.long q3), .second, .val (.long v6_2), .second, .val (.long v8_4), .second, .val (.ref b7), .val (.int (1 : Int32)), .val (.long v12_43), .second, .val (.int (0 : Int32))] [(.int (0 : Int32))]))
              refine own_by (fun _ k => XS.iload X48.here hx rfl (hb hby at_220) rfl k) ?_
              show own_Go _ _ _ _ (T48.setTop (mkF m 222 #[.val (.long q1), .second, .val (.long q2), .second, .val (.long q3), .second, .val (.long v6_2), .second, .val (.long v8_4), .second, .val (.ref b7), .val (.int (1 : Int32)), .val (.long v12_43), .second, .val (.int (0 : Int32))] [(.int (0 : Int32)), (.int (0 : Int32))]))
              refine own_by (fun _ k => XS.icmpNo X48.here hx rfl (hb hby at_222) rfl (teq (by decide)).2 k) ?_
              show own_Go _ _ _ _ (T48.setTop (mkF m 225 #[.val (.long q1), .second, .val (.long q2), .second, .val (.long q3), .second, .val (.long v6_2), .second, .val (.long v8_4), .second, .val (.ref b7), .val (.int (1 : Int32)), .val (.long v12_43), .second, .val (.int (0 : Int32))] []))
              refine own_by (fun _ k => XS.iconst X48.here hx rfl (hb hby at_225) k) ?_
              show own_Go _ _ _ _ (T48.setTop (mkF m 226 #[.val (.long q1), .second, .val (.long q2), .second, .val (.long q3), .second, .val (.long v6_2), .second, .val (.long v8_4), .second, .val (.ref b7), .val (.int (1 : Int32)), .val (.long v12_43), .second, .val (.int (0 : Int32))] [(.int (1 : Int32))]))
              refine own_by (fun _ k => XS.goto X48.here hx rfl (pc0 := 226) (pc' := 230) rfl (hb hby at_226) (by decide) (by decide) k) ?_
              show own_Go _ _ _ _ (T48.setTop (mkF m 230 #[.val (.long q1), .second, .val (.long q2), .second, .val (.long q3), .second, .val (.long v6_2), .second, .val (.long v8_4), .second, .val (.ref b7), .val (.int (1 : Int32)), .val (.long v12_43), .second, .val (.int (0 : Int32))] [(.int (1 : Int32))]))
              exact own_retN X48 hx Bd.notSynchronized e48 Bd.returns (by simp) (hb hby at_230) (⟨rfl, N48⟩) (by decide) (by decide)
            · --
              refine own_by (fun _ k => XS.ifYes X44.here hx rfl (pc0 := 196) (pc' := 205) rfl (hb hby at_196) rfl ((if0 _ _).trans (flt (mt (lw_gt _ _).mp hc47)).2.2.2) (by decide) (by decide) k) ?_
              show own_Go _ _ _ _ (T44.setTop (mkF m 205 #[.val (.long q1), .second, .val (.long q2), .second, .val (.long q3), .second, .val (.long v6_2), .second, .val (.long v8_4), .second, .val (.ref b7), .val (.int (1 : Int32)), .val (.long v12_43), .second, .unset] []))
              refine own_by (fun _ k => XS.iconst X44.here hx rfl (hb hby at_205) k) ?_
              show own_Go _ _ _ _ (T44.setTop (mkF m 206 #[.val (.long q1), .second, .val (.long q2), .second, .val (.long q3), .second, .val (.long v6_2), .second, .val (.long v8_4), .second, .val (.ref b7), .val (.int (1 : Int32)), .val (.long v12_43), .second, .unset] [(.int (1 : Int32))]))
              refine own_by (fun _ k => XS.istore X44.here hx rfl (hb hby at_206) rfl (l' := #[.val (.long q1), .second, .val (.long q2), .second, .val (.long q3), .second, .val (.long v6_2), .second, .val (.long v8_4), .second, .val (.ref b7), .val (.int (1 : Int32)), .val (.long v12_43), .second, .val (.int (1 : Int32))]) rfl k) ?_
              show own_Go _ _ _ _ (T44.setTop (mkF m 208 #[.val (.long q1), .second, .val (.long q2), .second, .val (.long q3), .second, .val (.long v6_2), .second, .val (.long v8_4), .second, .val (.ref b7), .val (.int (1 : Int32)), .val (.long v12_43), .second, .val (.int (1 : Int32))] []))
              refine own_by (fun _ k => XS.iload X44.here hx rfl (hb hby at_208) rfl k) ?_
              show own_Go _ _ _ _ (T44.setTop (mkF m 210 #[.val (.long q1), .second, .val (.long q2), .second, .val (.long q3), .second, .val (.long v6_2), .second, .val (.long v8_4), .second, .val (.ref b7), .val (.int (1 : Int32)), .val (.long v12_43), .second, .val (.int (1 : Int32))] [(.int (1 : Int32))]))
              refine own_by (fun _ k => XS.ifNo X44.here hx rfl (hb hby at_210) rfl ((if0 _ _).trans (feq (by decide)).1) k) ?_
              show own_Go _ _ _ _ (T44.setTop (mkF m 213 #[.val (.long q1), .second, .val (.long q2), .second, .val (.long q3), .second, .val (.long v6_2), .second, .val (.long v8_4), .second, .val (.ref b7), .val (.int (1 : Int32)), .val (.long v12_43), .second, .val (.int (1 : Int32))] []))
              refine own_by (fun _ k => XS.aload X44.here hx rfl (hb hby at_213) rfl rfl k) ?_
              show own_Go _ _ _ _ (T44.setTop (mkF m 215 #[.val (.long q1), .second, .val (.long q2), .second, .val (.long q3), .second, .val (.long v6_2), .second, .val (.long v8_4), .second, .val (.ref b7), .val (.int (1 : Int32)), .val (.long v12_43), .second, .val (.int (1 : Int32))] [(.ref b7)]))
              refine own_by (fun _ k => XS.lload X44.here hx rfl (hb hby at_215) rfl k) ?_
              show own_Go _ _ _ _ (T44.setTop (mkF m 217 #[.val (.long q1), .second, .val (.long q2), .second, .val (.long q3), .second, .val (.long v6_2), .second, .val (.long v8_4), .second, .val (.ref b7), .val (.int (1 : Int32)), .val (.long v12_43), .second, .val (.int (1 : Int32))] [(.long q3), (.ref b7)]))
              obtain ⟨cq49, kq49, q49a, q49b, q49c⟩ := isOf hZ e44 f11
              obtain ⟨_, _, ⟨T49, L49, k49, n49⟩, -, X49, ⟨Lc49, hQ49, l49, y49, z49⟩, st49⟩ := X44.virtualBack hx (y := (⟨"com/example/time_for_trials/timefortrials/protocol/Workflow$DayWindow", "holds", "(J)Z"⟩ : MethodName)) (z := (⟨"com/example/time_for_trials/timefortrials/protocol/Workflow$DayWindow", "holds", "(J)Z"⟩ : MethodName)) hown (mvT hZ (hw _ (List.mem_of_getElem? (i := 25) rfl))) (mvT hZ (hw _ (List.mem_of_getElem? (i := 26) rfl))) (notFace_of_selects (args := #[]) (mvT hZ (hw _ (List.mem_of_getElem? (i := 28) rfl)))) (mvT hZ (hw _ (List.mem_of_getElem? (i := 28) rfl))) (mvT hZ (hw _ (List.mem_of_getElem? (i := 27) rfl))) (by decide) (backOf (W := 0) (rm6 l Z a0 hw [] b7 q3 v6_2 v8_4 (1 : Int32) h10 n0 Z10 F10a F10b (by simp [own_H, hc45, hc47])) hZ (hw _ (List.mem_of_getElem? (i := 29) rfl)) (hw _ (List.mem_of_getElem? (i := 9) rfl)) (by decide) (by decide)) q49a q49c (g := (mkF m 217 #[.val (.long q1), .second, .val (.long q2), .second, .val (.long q3), .second, .val (.long v6_2), .second, .val (.long v8_4), .second, .val (.ref b7), .val (.int (1 : Int32)), .val (.long v12_43), .second, .val (.int (1 : Int32))] [(.long q3), (.ref b7)])) rfl (by rw [hml]; rfl) (Steps.refl _) (argsL := [(.long q3)]) (rest := []) (lenOf own_pd3 rfl) rfl (by show 2 * 0 + _ ≤ _; exact Nat.le_of_eq rfl) (hb hby at_217) (fun _ _ => ⟨rfl, e44, Nat.le_of_ble_eq_true rfl, Nat.le_of_ble_eq_true rfl⟩)
              dsimp only [Pt.U, Pt.locs, Pt.cells, Pt.slots] at X49 l49 y49 z49 st49 hQ49
              subst l49 y49 z49
              obtain ⟨rfl, N49q, e49⟩ := hQ49
              have N49 := Fr.app N44 N49q
              refine own_tr st49 ?_
              show own_Go _ _ _ _ (T49.setTop (mkF m 220 #[.val (.long q1), .second, .val (.long q2), .second, .val (.long q3), .second, .val (.long v6_2), .second, .val (.long v8_4), .second, .val (.ref b7), .val (.int (1 : Int32)), .val (.long v12_43), .second, .val (.int (1 : Int32))] [(.int (1 : Int32))]))
              refine own_by (fun _ k => XS.iload X49.here hx rfl (hb hby at_220) rfl k) ?_
              show own_Go _ _ _ _ (T49.setTop (mkF m 222 #[.val (.long q1), .second, .val (.long q2), .second, .val (.long q3), .second, .val (.long v6_2), .second, .val (.long v8_4), .second, .val (.ref b7), .val (.int (1 : Int32)), .val (.long v12_43), .second, .val (.int (1 : Int32))] [(.int (1 : Int32)), (.int (1 : Int32))]))
              refine own_by (fun _ k => XS.icmpNo X49.here hx rfl (hb hby at_222) rfl (teq (by decide)).2 k) ?_
              show own_Go _ _ _ _ (T49.setTop (mkF m 225 #[.val (.long q1), .second, .val (.long q2), .second, .val (.long q3), .second, .val (.long v6_2), .second, .val (.long v8_4), .second, .val (.ref b7), .val (.int (1 : Int32)), .val (.long v12_43), .second, .val (.int (1 : Int32))] []))
              refine own_by (fun _ k => XS.iconst X49.here hx rfl (hb hby at_225) k) ?_
              show own_Go _ _ _ _ (T49.setTop (mkF m 226 #[.val (.long q1), .second, .val (.long q2), .second, .val (.long q3), .second, .val (.long v6_2), .second, .val (.long v8_4), .second, .val (.ref b7), .val (.int (1 : Int32)), .val (.long v12_43), .second, .val (.int (1 : Int32))] [(.int (1 : Int32))]))
              refine own_by (fun _ k => XS.goto X49.here hx rfl (pc0 := 226) (pc' := 230) rfl (hb hby at_226) (by decide) (by decide) k) ?_
              show own_Go _ _ _ _ (T49.setTop (mkF m 230 #[.val (.long q1), .second, .val (.long q2), .second, .val (.long q3), .second, .val (.long v6_2), .second, .val (.long v8_4), .second, .val (.ref b7), .val (.int (1 : Int32)), .val (.long v12_43), .second, .val (.int (1 : Int32))] [(.int (1 : Int32))]))
              exact own_retN X49 hx Bd.notSynchronized e49 Bd.returns (by simp) (hb hby at_230) (⟨rfl, N49⟩) (by decide) (by decide)
set_option maxRecDepth 65536 in
set_option maxHeartbeats 40000000 in
theorem comes_1 {Post : Tables → Env → Array Value → State → Outcome → State → Prop} (hpost : ∀ tb e args s v u, (limb_1_1.after args s (.returned v) u = true ∧ limb_1_2.after args s (.returned v) u = true ∧ True) → FrameEnd s (.returned v) u (Jvm.fieldLocs frame_1_writes args s ++ Jvm.arrayLocs frame_1_arrays args s ++ Jvm.staticLocs frame_1_statics s) 16 128 → Post tb e args s (.returned v) u) :
    ArmFor flags0 classFile x code maxLocals ret World_1 tables_1 room_1 Calls_1 rest_1 Pre_1 Post := by
  intro l hfl _ _ p e ha hc hk s m args below hf hA hF happ hP
  obtain ⟨hcalls, hrest, hpre⟩ := hP
  obtain ⟨-, -, -, hnamed, -, -, -, hat⟩ := (Spec.applies_iff hf).mp happ
  obtain ⟨hg, hn⟩ := and_e (Cond.before_iff.mp (show (Jvm.Cond.and given_1 narrow_1).before args s = true from hpre))
  obtain ⟨g1, g2⟩ := and_e hg
  obtain ⟨g3, g4⟩ := and_e g2
  obtain ⟨g5, g6⟩ := and_e g4
  obtain ⟨w0, w1, w2, rfl⟩ : ∃ w0 w1 w2 : Value, args = #[w0, w1, w2] := by
    have hs : args.size = 3 := by simpa [Cond.value, given_1] using g1
    obtain ⟨L⟩ := args
    match L, hs with
    | [w0, w1, w2], _ => exact ⟨w0, w1, w2, rfl⟩
  have hw := fun d (hd : d ∈ tables_1) => atoms_spec (ws := Jvm.Cond.code x code maxLocals ret :: tables_1) hat d (List.mem_cons_of_mem _ hd)
  have hfit : Fit s := fun {y c} hc i hi => by
    obtain ⟨ha, rfl⟩ := Array.getElem?_eq_some_iff.mp hc
    have q := List.all_eq_true.mp ((Array.all_eq_true_iff_forall_mem.mp hF) _ (Array.getElem_mem ha)) i (List.mem_range.mpr hi)
    simpa [Array.getElem?_eq_getElem hi] using q
  obtain ⟨i0, ei0⟩ := isL_v g3
  obtain rfl : w0 = (.long i0) := Option.some.inj ei0
  obtain ⟨i1, ei1⟩ := isL_v g5
  obtain rfl : w1 = (.long i1) := Option.some.inj ei1
  obtain ⟨i2, ei2⟩ := isL_v g6
  obtain rfl : w2 = (.long i2) := Option.some.inj ei2
  obtain ⟨n, o, h1, h2, h3, _, L, rfl, ⟨rfl, N⟩, hq⟩ := rm0 l s _ hw tables_1 i0 i1 i2 s.heap s.heap.size (Nat.le_refl _) p e ha hc hk s m _ below hf ((Spec.applies_iff_loose hf).mp happ).1 ⟨rfl, State.Warmed39.refl s, rfl⟩ trivial
  refine ⟨n, _, h1, h2, h3, hpost _ _ _ _ _ _ ⟨Cond.after_iff.mpr rfl, Cond.after_iff.mpr (eq_i res_at (Term.int_eval (1)) rfl), trivial⟩ ⟨hq.1, hq.2.1, (hq.2.2.sift fun y hy => Or.inr (N y hy)).mono (by decide) (by decide)⟩⟩
theorem main_1_1 : Claimed_1_1 := comes_1 fun _ _ _ _ _ _ h hF => ⟨h.1, hF⟩
theorem main_1_2 : Claimed_1_2 := comes_1 fun _ _ _ _ _ _ h hF => ⟨h.2.1, hF⟩
end Jvm.Pilot.@@N@@
namespace Jvm.Pilot.@@N@@
open Jvm Jvm.ClassFile Sem Op Lib Jvm.Free Jvm.Stand Jvm.Pilot.@@N@@.Jvm.D
/-! MADE BY PROGRAM (witnessworld.py) out of the Statement's table words and the real class files: 11 classes; the members and pool entries that the words name. The judged class is class 1, her method 1. -/
namespace start1
open Jvm.ClassFile
def u (s : String) : CpInfo := .utf8 (stringToUtf16 s)
/-- a pool by its gaps: so many unusable entries, then the entry; so many at the end -/
def gap : Nat → List CpInfo → List CpInfo
  | 0, r => r
  | n + 1, r => .unusable :: gap n r
def poolList (es : List (Nat × CpInfo)) (last : Nat) : List CpInfo := es.foldr (fun e r => gap e.1 (e.2 :: r)) (gap last [])
def pool (es : List (Nat × CpInfo)) (last : Nat) : Array CpInfo := ⟨poolList es last⟩
def fileOf (pool : Array CpInfo) (this : Nat) (attrs : Array Attribute := #[]) (ms : Array MethodInfo := #[]) (fl : Nat := 33) (sup : Nat := 0) (ifs : Array Nat := #[]) (fds : Array FieldInfo := #[]) : ClassFile where
  minorVersion := 0
  majorVersion := 65
  constantPool := pool
  accessFlags := fl
  thisClass := this
  superClass := sup
  interfaces := ifs
  fields := fds
  methods := ms
  attributes := attrs
def plain (name : String) (sup : Option ClassId) : Class where
  name := name
  kind := .ordinary
  loader := none
  accessFlags := 33
  super := sup
  interfaces := #[]
  cf := none
  fields := #[]
  methods := #[]
  instanceTypes := #[]
  staticTypes := #[]
  resolved := #[]
  callSites := []
  init := .initialized
  statics := none
  mirror := none

def pool0 : Array CpInfo := pool [(5, u "<init>"), (0, u "()V"), (1, .class_ 10), (1, u "java/lang/Object")] 113

def k0c0 : Code := { maxStack := 0, maxLocals := 1, code := object_method_1_code, exceptionTable := #[], attributes := #[] }
def k0m0 : Method := { name := "<init>", desc := "()V", sig := { parameters := [], returnType := none }, accessFlags := 1, code := some k0c0 }
/-- java/lang/Object -/
def k0 : Class := { plain "java/lang/Object" none with
  accessFlags := 33
  interfaces := #[]
  cf := some (fileOf pool0 8 #[] #[{ accessFlags := 1, nameIndex := 5, descriptorIndex := 6, attributes := #[] }] 33 0 #[] #[])
  fields := #[]
  methods := #[k0m0]
  instanceTypes := #[]
  staticTypes := #[]
  resolved := Array.replicate 124 none
  statics := none }

def pool1 : Array CpInfo := pool [(2, .class_ 4), (1, u "java/lang/Object"), (0, u "<init>"), (0, u "()V"), (0, .methodref 8 9), (0, .class_ 10), (0, .nameAndType 11 12), (0, u "java/lang/Math"), (0, u "min"), (0, u "(JJ)J"), (0, .methodref 8 14), (0, .nameAndType 15 12), (0, u "max"), (0, .class_ 17), (0, u "com/example/time_for_trials/timefortrials/protocol/Workflow$DayWindow"), (0, .methodref 16 19), (0, .nameAndType 5 20), (0, u "(JJ)V"), (0, .methodref 16 22), (0, .nameAndType 23 24), (0, u "holds"), (0, u "(J)Z"), (2, .long 9223372036854775808), (1, .long 9223372036854775807), (1, .class_ 32), (0, u "com/example/time_for_trials/timefortrials/protocol/DayWindowHoldsPinLaw"), (2, u "law"), (0, u "(JJJ)Z")] 7

def k1m0 : Method := { name := "<init>", desc := "()V", sig := { parameters := [], returnType := none }, accessFlags := 1, code := none }
def k1c1 : Code := { maxStack := 6, maxLocals := 15, code := code, exceptionTable := #[], attributes := #[] }
def k1m1 : Method := { name := "law", desc := "(JJJ)Z", sig := { parameters := [.long, .long, .long], returnType := some .boolean }, accessFlags := 9, code := some k1c1 }
/-- com/example/time_for_trials/timefortrials/protocol/DayWindowHoldsPinLaw -/
def k1 : Class := { plain "com/example/time_for_trials/timefortrials/protocol/DayWindowHoldsPinLaw" (some 0) with
  accessFlags := 49
  interfaces := #[]
  cf := some (fileOf pool1 31 #[] #[{ accessFlags := 1, nameIndex := 5, descriptorIndex := 6, attributes := #[] }, { accessFlags := 9, nameIndex := 35, descriptorIndex := 36, attributes := #[] }] 49 2 #[] #[])
  fields := #[]
  methods := #[k1m0, k1m1]
  instanceTypes := #[]
  staticTypes := #[]
  resolved := Array.replicate 44 none
  statics := none }

def pool2 : Array CpInfo := pool [(1, .class_ 2), (0, u "java/lang/Math"), (1, .class_ 6), (1, u "java/lang/Object"), (0, u "<init>"), (0, u "()V"), (89, .class_ 100), (1, u "java/lang/Math$RandomNumberGeneratorHolder"), (20, u "(JJ)J"), (50, u "negativeZeroFloatBits"), (0, u "J"), (2, u "negativeZeroDoubleBits"), (21, u "max"), (2, u "min"), (43, u "$assertionsDisabled"), (0, u "Z"), (91, u "twoToTheDoubleScaleDown"), (0, u "D"), (4, u "twoToTheDoubleScaleUp"), (9, u "E"), (3, u "PI"), (2, u "TAU"), (2, u "DEGREES_TO_RADIANS"), (0, u "RADIANS_TO_DEGREES")] 94

def k2m0 : Method := { name := "<init>", desc := "()V", sig := { parameters := [], returnType := none }, accessFlags := 2, code := none }
def k2c1 : Code := { maxStack := 4, maxLocals := 4, code := jdk_29_method_66_code, exceptionTable := #[], attributes := #[] }
def k2m1 : Method := { name := "max", desc := "(JJ)J", sig := { parameters := [.long, .long], returnType := some .long }, accessFlags := 9, code := some k2c1 }
def k2c2 : Code := { maxStack := 4, maxLocals := 4, code := jdk_29_method_70_code, exceptionTable := #[], attributes := #[] }
def k2m2 : Method := { name := "min", desc := "(JJ)J", sig := { parameters := [.long, .long], returnType := some .long }, accessFlags := 9, code := some k2c2 }
/-- java/lang/Math -/
def k2 : Class := { plain "java/lang/Math" (some 0) with
  accessFlags := 49
  interfaces := #[]
  cf := some (fileOf pool2 1 #[.nestMembers #[98]] #[{ accessFlags := 2, nameIndex := 7, descriptorIndex := 8, attributes := #[] }, { accessFlags := 9, nameIndex := 198, descriptorIndex := 121, attributes := #[] }, { accessFlags := 9, nameIndex := 201, descriptorIndex := 121, attributes := #[] }] 49 4 #[] #[{ accessFlags := 25, nameIndex := 354, descriptorIndex := 339, attributes := #[] }, { accessFlags := 25, nameIndex := 358, descriptorIndex := 339, attributes := #[] }, { accessFlags := 25, nameIndex := 361, descriptorIndex := 339, attributes := #[] }, { accessFlags := 26, nameIndex := 364, descriptorIndex := 339, attributes := #[] }, { accessFlags := 26, nameIndex := 365, descriptorIndex := 339, attributes := #[] }, { accessFlags := 26, nameIndex := 172, descriptorIndex := 173, attributes := #[] }, { accessFlags := 26, nameIndex := 176, descriptorIndex := 173, attributes := #[] }, { accessFlags := 8, nameIndex := 344, descriptorIndex := 339, attributes := #[] }, { accessFlags := 8, nameIndex := 338, descriptorIndex := 339, attributes := #[] }, { accessFlags := 4120, nameIndex := 245, descriptorIndex := 246, attributes := #[] }])
  fields := #[{ name := "E", type := .double, accessFlags := 25, slot := 0, constantValue := 0 }, { name := "PI", type := .double, accessFlags := 25, slot := 1, constantValue := 0 }, { name := "TAU", type := .double, accessFlags := 25, slot := 2, constantValue := 0 }, { name := "DEGREES_TO_RADIANS", type := .double, accessFlags := 26, slot := 3, constantValue := 0 }, { name := "RADIANS_TO_DEGREES", type := .double, accessFlags := 26, slot := 4, constantValue := 0 }, { name := "negativeZeroFloatBits", type := .long, accessFlags := 26, slot := 5, constantValue := 0 }, { name := "negativeZeroDoubleBits", type := .long, accessFlags := 26, slot := 6, constantValue := 0 }, { name := "twoToTheDoubleScaleUp", type := .double, accessFlags := 8, slot := 7, constantValue := 0 }, { name := "twoToTheDoubleScaleDown", type := .double, accessFlags := 8, slot := 8, constantValue := 0 }, { name := "$assertionsDisabled", type := .boolean, accessFlags := 4120, slot := 9, constantValue := 0 }]
  methods := #[k2m0, k2m1, k2m2]
  instanceTypes := #[]
  staticTypes := #[.double, .double, .double, .double, .double, .long, .long, .double, .double, .boolean]
  resolved := Array.replicate 460 none
  statics := none }

def pool3 : Array CpInfo := pool [(1, .methodref 2 3), (0, .class_ 4), (0, .nameAndType 5 6), (0, u "java/lang/Object"), (0, u "<init>"), (0, u "()V"), (0, .class_ 8), (0, u "java/lang/Record")] 13

def k3c0 : Code := { maxStack := 1, maxLocals := 1, code := jdk_30_method_1_code, exceptionTable := #[], attributes := #[] }
def k3m0 : Method := { name := "<init>", desc := "()V", sig := { parameters := [], returnType := none }, accessFlags := 4, code := some k3c0 }
/-- java/lang/Record -/
def k3 : Class := { plain "java/lang/Record" (some 0) with
  accessFlags := 1057
  interfaces := #[]
  cf := some (fileOf pool3 7 #[] #[{ accessFlags := 4, nameIndex := 5, descriptorIndex := 6, attributes := #[] }] 1057 2 #[] #[])
  fields := #[]
  methods := #[k3m0]
  instanceTypes := #[]
  staticTypes := #[]
  resolved := Array.replicate 22 none
  statics := none }

def pool4 : Array CpInfo := pool [(1, .methodref 2 3), (0, .class_ 4), (0, .nameAndType 5 6), (0, u "java/lang/Record"), (0, u "<init>"), (0, u "()V"), (9, .fieldref 17 18), (0, .class_ 19), (0, .nameAndType 20 21), (0, u "com/example/time_for_trials/timefortrials/protocol/Workflow$DayWindow"), (0, u "first"), (0, u "J"), (0, .fieldref 17 23), (0, .nameAndType 24 21), (0, u "last"), (12, u "(JJ)V"), (4, u "holds"), (0, u "(J)Z"), (7, .class_ 52), (0, u "com/example/time_for_trials/timefortrials/protocol/Workflow")] 28

def k4c0 : Code := { maxStack := 6, maxLocals := 5, code := prog_29_method_1_code, exceptionTable := #[], attributes := #[] }
def k4m0 : Method := { name := "<init>", desc := "(JJ)V", sig := { parameters := [.long, .long], returnType := none }, accessFlags := 1, code := some k4c0 }
def k4c1 : Code := { maxStack := 4, maxLocals := 3, code := prog_29_method_2_code, exceptionTable := #[], attributes := #[] }
def k4m1 : Method := { name := "holds", desc := "(J)Z", sig := { parameters := [.long], returnType := some .boolean }, accessFlags := 0, code := some k4c1 }
/-- com/example/time_for_trials/timefortrials/protocol/Workflow$DayWindow -/
def k4 : Class := { plain "com/example/time_for_trials/timefortrials/protocol/Workflow$DayWindow" (some 3) with
  accessFlags := 49
  interfaces := #[]
  cf := some (fileOf pool4 17 #[.nestHost 51] #[{ accessFlags := 1, nameIndex := 5, descriptorIndex := 37, attributes := #[] }, { accessFlags := 0, nameIndex := 42, descriptorIndex := 43, attributes := #[] }] 49 2 #[] #[{ accessFlags := 18, nameIndex := 20, descriptorIndex := 21, attributes := #[] }, { accessFlags := 18, nameIndex := 24, descriptorIndex := 21, attributes := #[] }])
  fields := #[{ name := "first", type := .long, accessFlags := 18, slot := 0, constantValue := 0 }, { name := "last", type := .long, accessFlags := 18, slot := 1, constantValue := 0 }]
  methods := #[k4m0, k4m1]
  instanceTypes := #[.long, .long]
  staticTypes := #[]
  resolved := Array.replicate 81 none
  statics := none }

def pool5 : Array CpInfo := pool [(1, u "java/lang/Cloneable"), (0, .class_ 1), (0, u "java/lang/Object"), (0, .class_ 3)] 3

/-- java/lang/Cloneable -/
def k5 : Class := { plain "java/lang/Cloneable" (some 0) with
  accessFlags := 1537
  interfaces := #[]
  cf := some (fileOf pool5 2 #[] #[] 1537 4 #[] #[])
  fields := #[]
  methods := #[]
  instanceTypes := #[]
  staticTypes := #[]
  resolved := Array.replicate 8 none
  statics := none }

def pool6 : Array CpInfo := pool [(1, u "java/io/Serializable"), (0, .class_ 1), (0, u "java/lang/Object"), (0, .class_ 3)] 3

/-- java/io/Serializable -/
def k6 : Class := { plain "java/io/Serializable" (some 0) with
  accessFlags := 1537
  interfaces := #[]
  cf := some (fileOf pool6 2 #[] #[] 1537 4 #[] #[])
  fields := #[]
  methods := #[]
  instanceTypes := #[]
  staticTypes := #[]
  resolved := Array.replicate 8 none
  statics := none }

/-- the primitive byte -/
def k7 : Class := { plain "byte" none with kind := .primitive 'B', accessFlags := 0x411 }
/-- [B -/
def k8 : Class := { plain "[B" (some 0) with kind := .array 7 .byte, interfaces := #[5, 6], accessFlags := 1041 }

/-- the primitive int -/
def k9 : Class := { plain "int" none with kind := .primitive 'I', accessFlags := 0x411 }
/-- [I -/
def k10 : Class := { plain "[I" (some 0) with kind := .array 9 .int, interfaces := #[5, 6], accessFlags := 1041 }

def heap : Heap := #[]
def classes : Array Class := #[k0, k1, k2, k3, k4, k5, k6, k7, k8, k9, k10]
def interned : List (Array UInt16 × Addr) := []
def slotsUsed : Nat := 0
def theMethod : MethodId := ⟨1, 1⟩
def args0 : Array Value := #[.long 5, .long 9, .long 7]
def aboutOver (below : List Frame) : State where
  vm := { classes := classes, interned := interned.toArray }
  heap := heap
  slotsUsed := slotsUsed
  threads := #[{ frames := .invoking theMethod args0 :: below }]
def below0 : List Frame := [.native { method := ⟨0, 0⟩, args := #[] }]
def about1 : State := aboutOver below0
def p0 : Program := .bare "" "" ""
def e0 : Env := launch0.env 0 0 0
theorem w_frames : about1.frames = Frame.invoking theMethod args0 :: below0 := rfl
set_option maxRecDepth 65536 in
theorem w_args : argsFit about1.vm theMethod args0 = true := by decide +kernel
set_option maxRecDepth 65536 in
theorem w_heap : heapFits about1 = true := by decide +kernel
set_option maxRecDepth 65536 in
theorem w_runnable : about1.curStatus? = some .runnable := by decide +kernel
set_option maxRecDepth 65536 in
theorem w_alone : about1.alone = true := by decide +kernel
set_option maxRecDepth 65536 in
theorem w_named : about1.methodNamed? x = some theMethod := by decide +kernel
set_option maxRecDepth 65536 in
theorem w_hears : about1.hears theMethod below0 = true := by decide +kernel
set_option maxRecDepth 65536 in
theorem w_ripe : about1.ripe theMethod args0 below0 = true := by decide +kernel
theorem w_running : about1.status = .running := rfl
set_option maxRecDepth 65536 in
theorem w_room : about1.hasRoom e0.platform room_1 = true :=
  launch0.hasRoom_least _ room_1 (by decide +kernel) (by decide +kernel) (by decide +kernel) (by decide +kernel) (by decide +kernel) (by decide +kernel)
theorem allAtoms_all (ts : List Jvm.Cond) (a : Array Jvm.Value) (st : Jvm.State) : (allAtoms ts).before a st = ts.all (fun c => c.before a st) := by
  induction ts with
  | nil => rfl
  | cons c t ih =>
    show (Jvm.Cond.and c (allAtoms t)).before a st = _
    rw [Jvm.Cond.before_and, ih, List.all_cons]
def words1 : List Jvm.Cond := Jvm.Cond.code x code maxLocals ret :: tables_1
/-- a 'code' word, met by the world's own term for the bytes: nothing is compared byte by byte -/
theorem code_word {y : MethodName} {bytes : ByteArray} {mx : Nat} {rt : Option FieldType} {a : Array Value} {s : State} {m : MethodId} {meth : Method} {c : Code} (h1 : s.methodNamed? y = some m) (h2 : s.vm.method? m = some meth) (h3 : meth.code = some c) (h4 : c.code = bytes)
    (h5 : (c.maxLocals == mx && c.exceptionTable.isEmpty && decide (c.maxStack ≤ mostOperands) && decide (meth.sig.returnType = rt) && !meth.locks && decide (parseMethodDescriptor y.desc = some meth.sig)) = true) : (Jvm.Cond.code y bytes mx rt).before a s = true := by
  simp only [Bool.and_eq_true, beq_iff_eq, Bool.not_eq_true', decide_eq_true_eq] at h5
  obtain ⟨⟨⟨⟨⟨g1, g2⟩, g3⟩, g4⟩, g5⟩, g6⟩ := h5
  simp [Cond.before, Cond.holds, Cond.value, h1, h2, h3, h4, g1, g2, g3, g4, g5, g6]
def isCode : Jvm.Cond → Bool
  | .code _ _ _ _ => true
  | _ => false
theorem all_split {L : List Jvm.Cond} {P : Jvm.Cond → Bool} (h1 : L.all (fun c => isCode c || P c) = true) (h2 : ∀ c ∈ L.filter isCode, P c = true) : L.all P = true := by
  refine List.all_eq_true.mpr fun c hc => ?_
  have h := List.all_eq_true.mp h1 c hc
  rcases Bool.eq_false_or_eq_true (isCode c) with hi | hi
  · exact h2 c (List.mem_filter.mpr ⟨hc, hi⟩)
  · simpa [hi] using h
set_option maxRecDepth 65536 in
theorem w_c0 : (Jvm.Cond.code x code maxLocals ret).before args0 about1 = true := code_word (m := ⟨1, 1⟩) (meth := k1m1) (c := k1c1) (by decide +kernel) rfl rfl rfl (by decide +kernel)
set_option maxRecDepth 65536 in
theorem w_c1 : (Jvm.Cond.code ({ cls := "java/lang/Math", name := "min", desc := "(JJ)J" } : Jvm.MethodName) jdk_29_method_70_code (4 : Nat) (Option.some Jvm.ClassFile.FieldType.long)).before args0 about1 = true := code_word (m := ⟨2, 2⟩) (meth := k2m2) (c := k2c2) (by decide +kernel) rfl rfl rfl (by decide +kernel)
set_option maxRecDepth 65536 in
theorem w_c2 : (Jvm.Cond.code ({ cls := "java/lang/Math", name := "max", desc := "(JJ)J" } : Jvm.MethodName) jdk_29_method_66_code (4 : Nat) (Option.some Jvm.ClassFile.FieldType.long)).before args0 about1 = true := code_word (m := ⟨2, 1⟩) (meth := k2m1) (c := k2c1) (by decide +kernel) rfl rfl rfl (by decide +kernel)
set_option maxRecDepth 65536 in
theorem w_c3 : (Jvm.Cond.code ({ cls := "com/example/time_for_trials/timefortrials/protocol/Workflow$DayWindow", name := "<init>", desc := "(JJ)V" } : Jvm.MethodName) prog_29_method_1_code (5 : Nat) (Option.none : Option Jvm.ClassFile.FieldType)).before args0 about1 = true := code_word (m := ⟨4, 0⟩) (meth := k4m0) (c := k4c0) (by decide +kernel) rfl rfl rfl (by decide +kernel)
set_option maxRecDepth 65536 in
theorem w_c4 : (Jvm.Cond.code ({ cls := "java/lang/Record", name := "<init>", desc := "()V" } : Jvm.MethodName) jdk_30_method_1_code (1 : Nat) (Option.none : Option Jvm.ClassFile.FieldType)).before args0 about1 = true := code_word (m := ⟨3, 0⟩) (meth := k3m0) (c := k3c0) (by decide +kernel) rfl rfl rfl (by decide +kernel)
set_option maxRecDepth 65536 in
theorem w_c5 : (Jvm.Cond.code ({ cls := "java/lang/Object", name := "<init>", desc := "()V" } : Jvm.MethodName) object_method_1_code (1 : Nat) (Option.none : Option Jvm.ClassFile.FieldType)).before args0 about1 = true := code_word (m := ⟨0, 0⟩) (meth := k0m0) (c := k0c0) (by decide +kernel) rfl rfl rfl (by decide +kernel)
set_option maxRecDepth 65536 in
theorem w_c6 : (Jvm.Cond.code ({ cls := "com/example/time_for_trials/timefortrials/protocol/Workflow$DayWindow", name := "holds", desc := "(J)Z" } : Jvm.MethodName) prog_29_method_2_code (3 : Nat) (Option.some Jvm.ClassFile.FieldType.boolean)).before args0 about1 = true := code_word (m := ⟨4, 1⟩) (meth := k4m1) (c := k4c1) (by decide +kernel) rfl rfl rfl (by decide +kernel)
def codes1 : List Jvm.Cond := [Jvm.Cond.code x code maxLocals ret, Jvm.Cond.code ({ cls := "java/lang/Math", name := "min", desc := "(JJ)J" } : Jvm.MethodName) jdk_29_method_70_code (4 : Nat) (Option.some Jvm.ClassFile.FieldType.long), Jvm.Cond.code ({ cls := "java/lang/Math", name := "max", desc := "(JJ)J" } : Jvm.MethodName) jdk_29_method_66_code (4 : Nat) (Option.some Jvm.ClassFile.FieldType.long), Jvm.Cond.code ({ cls := "com/example/time_for_trials/timefortrials/protocol/Workflow$DayWindow", name := "<init>", desc := "(JJ)V" } : Jvm.MethodName) prog_29_method_1_code (5 : Nat) (Option.none : Option Jvm.ClassFile.FieldType), Jvm.Cond.code ({ cls := "java/lang/Record", name := "<init>", desc := "()V" } : Jvm.MethodName) jdk_30_method_1_code (1 : Nat) (Option.none : Option Jvm.ClassFile.FieldType), Jvm.Cond.code ({ cls := "java/lang/Object", name := "<init>", desc := "()V" } : Jvm.MethodName) object_method_1_code (1 : Nat) (Option.none : Option Jvm.ClassFile.FieldType), Jvm.Cond.code ({ cls := "com/example/time_for_trials/timefortrials/protocol/Workflow$DayWindow", name := "holds", desc := "(J)Z" } : Jvm.MethodName) prog_29_method_2_code (3 : Nat) (Option.some Jvm.ClassFile.FieldType.boolean)]
set_option maxRecDepth 65536 in
theorem codes_eq : words1.filter isCode = codes1 := rfl
theorem w_codes : ∀ c ∈ words1.filter isCode, c.before args0 about1 = true := by
  rw [codes_eq]
  intro c hc
  simp only [codes1, List.mem_cons, List.not_mem_nil, or_false] at hc
  rcases hc with rfl | rfl | rfl | rfl | rfl | rfl | rfl
  · exact w_c0
  · exact w_c1
  · exact w_c2
  · exact w_c3
  · exact w_c4
  · exact w_c5
  · exact w_c6
set_option maxRecDepth 65536 in
theorem w_t1 : (words1.take 24).all (fun c => isCode c || c.before args0 about1) = true := by decide +kernel
set_option maxRecDepth 65536 in
theorem w_t2 : (words1.drop 24).all (fun c => isCode c || c.before args0 about1) = true := by decide +kernel
theorem w_tables : (allAtoms (Jvm.Cond.code x code maxLocals ret :: tables_1)).before args0 about1 = true := by
  rw [allAtoms_all]
  show words1.all (fun c => c.before args0 about1) = true
  refine all_split ?_ w_codes
  rw [← List.take_append_drop 24 words1, List.all_append, w_t1, w_t2]
  rfl
set_option maxRecDepth 65536 in
theorem w_case : (Jvm.Cond.and given_1 narrow_1).before args0 about1 = true := by decide +kernel
theorem w_applies : (headSpec (Jvm.Cond.code x code maxLocals ret :: tables_1) room_1).applies x e0.platform about1 = true :=
  (Spec.applies_iff w_frames).mpr ⟨w_running, w_runnable, w_alone, w_named, w_hears, w_ripe, w_room, w_tables⟩
theorem atStart : AtStart classFile x code maxLocals ret World_1 tables_1 room_1 Calls_1 rest_1 Pre_1 launch0 p0 e0 about1 theMethod args0 below0 :=
  ⟨lists_1, trivial, launch0.admits_env _ _ _, launch0.least_env, fairChoices_fair.cas, fairChoices_fair.clock, w_frames, w_args, w_heap, w_applies, trivial, trivial, w_case⟩
end start1
theorem witness_1 : WitnessClaimed_1 := ⟨start1.p0, start1.e0, start1.about1, start1.theMethod, start1.args0, start1.below0, start1.atStart⟩
end Jvm.Pilot.@@N@@
