import JvmDerived
import JvmDerived.Pilot.@@N@@Statement
import JvmDerived.Pilot.@@N@@Code
set_option linter.unusedVariables false
set_option linter.unusedSimpArgs false
namespace Jvm.Pilot.@@N@@
open Jvm Jvm.ClassFile Sem Op Lib Jvm.Free Jvm.Stand Jvm.LawKit Jvm.RoadKit Bundle Jvm.Pilot.@@N@@.Jvm.D
section OwnGo
/-! a run that comes to its end: what a body's walk owes, of any state on the way -/
def own_Go (tb : Tables) (e : Env) (below : List Frame) (Q : Outcome → State → Prop) (U : State) : Prop := ∃ s₂ o, Steps tb e below U s₂ ∧ s₂.status = .running ∧ Ended s₂ below o ∧ Q o s₂
theorem own_by {tb : Tables} {e : Env} {below : List Frame} {Q : Outcome → State → Prop} {U V : State} (h : ∀ t, Steps tb e below V t → Steps tb e below U t) (k : own_Go tb e below Q V) : own_Go tb e below Q U := by
  obtain ⟨s2, o, h1, h2⟩ := k; exact ⟨s2, o, h _ h1, h2⟩
theorem own_tr {tb : Tables} {e : Env} {below : List Frame} {Q : Outcome → State → Prop} {U V : State} (h : Steps tb e below U V) (k : own_Go tb e below Q V) : own_Go tb e below Q U := own_by (fun _ q => h.trans q) k
theorem own_gen {α : Type} {x y : α} (h : x = y) {tb : Tables} {e : Env} {below : List Frame} {Q : Outcome → State → Prop} (F : α → State) (k : own_Go tb e below Q (F y)) : own_Go tb e below Q (F x) := h ▸ k
def own_ap (f : Option Value → Heap → List Loc → Prop) (v : Option Value) (h : Heap) (L : List Loc) : Prop := f v h L
/-- what a body's contract says of its end -/
def own_Q (s : State) (Qh : Option Value → Heap → List Loc → Prop) (C S : Nat) (o : Outcome) (U' : State) : Prop := ∃ v L, o = .returned v ∧ Qh v U'.heap L ∧ FrameEnd s o U' L C S
variable {p : Program} {l : Launch} {e : Env} {R : Room} {s : State} {m : MethodId} {args : Array Value} {below : List Frame} {meth : Method} {c : Code} {T : State} {locs : List Loc} {cells slots : Nat} {Z : State} {h : Heap} {a : Addr} {pc : Nat} {Ls : Array Slot} {rest : List Value} {Qh : Option Value → Heap → List Loc → Prop} {C S : Nat} {Q : Outcome → State → Prop}
theorem own_leave (X : Stand p l e R s m args below meth c T locs cells slots) (hlk : meth.locks = false) {v : Option Value} (hv : meth.sig.returnType = none → v = none) {f : JFrame}
    (hst : ∀ fs, (∀ (f : JFrame) (acts : List Action), f.method = m → f.locked = none → f.entered = [] → (doReturn e (T.setTop f) acts v).1 = T.setFrames fs) → Steps p.tables e below (T.setTop f) (T.setFrames fs))
    (hq : Qh v T.heap locs) (hC : cells ≤ C) (hS : slots ≤ S) : own_Go p.tables e below (own_Q s Qh C S) (T.setTop f) := by
  obtain ⟨fs, hr, hrun, hended, hW, hsame⟩ := X.leave (v := v) hv hlk
  exact ⟨_, _, hst fs hr, hrun, hended, _, _, rfl, hq, ⟨_, rfl⟩, hW, hsame.mono hC hS⟩
theorem own_retI (X : Stand p l e R s m args below meth c T locs cells slots) (hx : p.tables.exec = Jvm.exec) (hlk : meth.locks = false) (eT : T.heap = h) (hret : meth.sig.returnType = some .int) {z : Int32} (hd : decode c.code pc = .ok (.ireturn, 1))
    (hq : Qh (some (.int z)) h locs) (hC : cells ≤ C) (hS : slots ≤ S) : own_Go p.tables e below (own_Q s Qh C S) (T.setTop (mkF m pc Ls (.int z :: rest))) :=
  own_leave X hlk (v := some (.int z)) (fun q => by rw [hret] at q; cases q) (fun fs hr => retOut X hx hret rfl (Or.inl ⟨rfl, Or.inl rfl, z, rfl⟩) hd hr) (eT ▸ hq) hC hS
theorem own_retN (X : Stand p l e R s m args below meth c T locs cells slots) (hx : p.tables.exec = Jvm.exec) (hlk : meth.locks = false) (eT : T.heap = h) {t : FieldType} (hret : meth.sig.returnType = some t) (ht : t = .boolean ∨ t = .byte ∨ t = .char ∨ t = .short) {z : Int32} (hd : decode c.code pc = .ok (.ireturn, 1))
    (hq : Qh (some (.int (nar t z))) h locs) (hC : cells ≤ C) (hS : slots ≤ S) : own_Go p.tables e below (own_Q s Qh C S) (T.setTop (mkF m pc Ls (.int z :: rest))) :=
  own_leave X hlk (v := some (.int (nar t z))) (fun q => by rw [hret] at q; cases q) (fun fs hr => retN X hx hret ht hd hr) (eT ▸ hq) hC hS
theorem own_retJ (X : Stand p l e R s m args below meth c T locs cells slots) (hx : p.tables.exec = Jvm.exec) (hlk : meth.locks = false) (eT : T.heap = h) (hret : meth.sig.returnType = some .long) {z : Int64} (hd : decode c.code pc = .ok (.lreturn, 1))
    (hq : Qh (some (.long z)) h locs) (hC : cells ≤ C) (hS : slots ≤ S) : own_Go p.tables e below (own_Q s Qh C S) (T.setTop (mkF m pc Ls (.long z :: rest))) :=
  own_leave X hlk (v := some (.long z)) (fun q => by rw [hret] at q; cases q) (fun fs hr => retOut X hx hret rfl (Or.inr (Or.inl ⟨rfl, rfl, z, rfl⟩)) hd hr) (eT ▸ hq) hC hS
theorem own_retA (X : Stand p l e R s m args below meth c T locs cells slots) (hx : p.tables.exec = Jvm.exec) (hlk : meth.locks = false) (eT : T.heap = h) {t : FieldType} (hret : meth.sig.returnType = some t) (ht : t.isReference = true) {w : Value} (hn : narrow t w = w) (hw : w.isRef = true) (hd : decode c.code pc = .ok (.areturn, 1))
    (hq : Qh (some w) h locs) (hC : cells ≤ C) (hS : slots ≤ S) : own_Go p.tables e below (own_Q s Qh C S) (T.setTop (mkF m pc Ls (w :: rest))) :=
  own_leave X hlk (v := some w) (fun q => by rw [hret] at q; cases q) (fun fs hr => retOut X hx hret hn (Or.inr (Or.inr (Or.inr (Or.inr ⟨rfl, ht, hw⟩)))) hd hr) (eT ▸ hq) hC hS
theorem own_retV (X : Stand p l e R s m args below meth c T locs cells slots) (hx : p.tables.exec = Jvm.exec) (hlk : meth.locks = false) (eT : T.heap = h) (hret : meth.sig.returnType = none) (hd : decode c.code pc = .ok (.return_, 1))
    (hq : Qh none h locs) (hC : cells ≤ C) (hS : slots ≤ S) : own_Go p.tables e below (own_Q s Qh C S) (T.setTop (mkF m pc Ls [])) :=
  own_leave X hlk (v := none) (fun _ => rfl) (fun fs hr => X.returnOut hx hret hd hr) (eT ▸ hq) hC hS
/-! an array by its places -/
def own_upd {α : Type} (f : Nat → α) (k : Nat) (v : α) : Nat → α := fun j => if j = k then v else f j
theorem own_upd_eq {α : Type} (f : Nat → α) (k : Nat) (v : α) : own_upd f k v k = v := by simp [own_upd]
theorem own_upd_ne {α : Type} (f : Nat → α) {k j : Nat} (v : α) (q : j ≠ k) : own_upd f k v j = f j := by simp [own_upd, q]
def own_Ar (Z : State) (h : Heap) (a : Addr) (ty : FieldType) (n : Nat) (f : Nat → Value) : Prop := ∃ cl : Cell, Arr Z h a cl ty ∧ cl.slots.size = n ∧ ∀ j, j < n → cl.slots[j]? = some (f j)
/-- ints and what is kept as ints -/
abbrev own_AI (Z : State) (h : Heap) (a : Addr) (ty : FieldType) (n : Nat) (f : Nat → Int32) : Prop := own_Ar Z h a ty n (fun j => .int (f j))
abbrev own_AJ (Z : State) (h : Heap) (a : Addr) (n : Nat) (f : Nat → Int64) : Prop := own_Ar Z h a .long n (fun j => .long (f j))
section
variable {h' : Heap} {b : Addr} {ty : FieldType} {n : Nat} {f : Nat → Value} {v : Value} {sl : Nat} {ws : List Addr}
theorem own_Ar.lt (A : own_Ar Z h a ty n f) : a < h.size := by obtain ⟨cl, q, -⟩ := A; exact q.lt
theorem own_Ar.ext (A : own_Ar Z h a ty n f) (E : Ext h h') : own_Ar Z h' a ty n f := by obtain ⟨cl, q, r⟩ := A; exact ⟨cl, q.ext E, r⟩
theorem own_Ar.other (A : own_Ar Z h a ty n f) (W : Wr h h' b sl v) (q : a ≠ b) : own_Ar Z h' a ty n f := by obtain ⟨cl, r, r'⟩ := A; exact ⟨cl, r.other W q, r'⟩
theorem own_Ar.keep (A : own_Ar Z h a ty n f) (K : Keep h h' ws) (q : a ∉ ws) : own_Ar Z h' a ty n f := by obtain ⟨cl, r, r'⟩ := A; exact ⟨cl, ⟨K.2.1 _ _ r.1 q, r.2⟩, r'⟩
theorem own_Ar.congr (A : own_Ar Z h a ty n f) {g : Nat → Value} (q : ∀ j, j < n → f j = g j) : own_Ar Z h a ty n g := by obtain ⟨cl, r, r1, r2⟩ := A; exact ⟨cl, r, r1, fun j hj => by rw [r2 j hj, q j hj]⟩
theorem own_in {j : Int32} {k n : Nat} (hk : j.toInt = (k : Int)) (hn : k < n) {cl : Cell} (S : cl.slots.size = n) : ¬ (j < 0 ∨ cl.slots.size ≤ j.toNatClampNeg) ∧ j.toNatClampNeg = k := by
  have q : j.toNatClampNeg = k := by simp [Int32.toNatClampNeg, hk]
  refine ⟨fun r => ?_, q⟩
  rcases r with r | r
  · rw [Int32.lt_iff_toInt_lt] at r; simp only [Int32.reduceToInt] at r; omega
  · omega
theorem own_Ar.set (A : own_Ar Z h a ty n f) {k : Nat} (hk : k < n) (W : Wr h h' a k v) : own_Ar Z h' a ty n (own_upd f k v) := by
  obtain ⟨cl, r, r1, r2⟩ := A
  refine ⟨_, r.same W, by rw [sz_set]; exact r1, fun j hj => ?_⟩
  show (cl.slots.setIfInBounds k v)[j]? = _
  by_cases q : j = k
  · subst q; simp [own_upd, r1, hj]
  · rw [Array.getElem?_setIfInBounds_ne (fun y => q y.symm), r2 j hj, own_upd_ne _ _ q]
end
theorem own_bal (X : Stand p l e R s m args below meth c T locs cells slots) (hx : p.tables.exec = Jvm.exec) (hZ : Z.Warmed39 s.vm) (eT : T.heap = h) {n : Nat} {f : Nat → Value} (A : own_Ar Z h a .byte n f) {j : Int32} (k : Nat) (hk : j.toInt = (k : Int)) (hn : k < n) (hd : decode c.code pc = .ok (.baload, 1)) {t : State}
    (kt : Steps p.tables e below (T.setTop (mkF m (pc + 1) Ls (f k :: rest))) t) : Steps p.tables e below (T.setTop (mkF m pc Ls (.int j :: .ref a :: rest))) t := by
  obtain ⟨cl, r, r1, r2⟩ := A
  obtain ⟨q1, q2⟩ := own_in hk hn r1
  exact X.baloadBytes hx (j := j) (v := f k) (by rw [eT]; exact r.1) (State.isArrayOf_alike hZ.alike r.2.1) r.2.2 q1 (by rw [q2]; exact r2 k hn) (g := mkF m pc Ls (.int j :: .ref a :: rest)) rfl rfl hd _ kt
theorem own_ial (X : Stand p l e R s m args below meth c T locs cells slots) (hx : p.tables.exec = Jvm.exec) (hZ : Z.Warmed39 s.vm) (eT : T.heap = h) {n : Nat} {f : Nat → Value} (A : own_Ar Z h a .int n f) {j : Int32} (k : Nat) (hk : j.toInt = (k : Int)) (hn : k < n) (hd : decode c.code pc = .ok (.iaload, 1)) {t : State}
    (kt : Steps p.tables e below (T.setTop (mkF m (pc + 1) Ls (f k :: rest))) t) : Steps p.tables e below (T.setTop (mkF m pc Ls (.int j :: .ref a :: rest))) t := by
  obtain ⟨cl, r, r1, r2⟩ := A
  obtain ⟨q1, q2⟩ := own_in hk hn r1
  exact X.iaload hx (j := j) (v := f k) (by rw [eT]; exact r.1) (State.isArrayOf_alike hZ.alike r.2.1) r.2.2 q1 (by rw [q2]; exact r2 k hn) (g := mkF m pc Ls (.int j :: .ref a :: rest)) rfl rfl hd _ kt
theorem own_lal (X : Stand p l e R s m args below meth c T locs cells slots) (hx : p.tables.exec = Jvm.exec) (hZ : Z.Warmed39 s.vm) (eT : T.heap = h) {n : Nat} {f : Nat → Value} (A : own_Ar Z h a .long n f) {j : Int32} (k : Nat) (hk : j.toInt = (k : Int)) (hn : k < n) (hd : decode c.code pc = .ok (.laload, 1)) {t : State}
    (kt : Steps p.tables e below (T.setTop (mkF m (pc + 1) Ls (f k :: rest))) t) : Steps p.tables e below (T.setTop (mkF m pc Ls (.int j :: .ref a :: rest))) t := by
  obtain ⟨cl, r, r1, r2⟩ := A
  obtain ⟨q1, q2⟩ := own_in hk hn r1
  exact X.laload hx (j := j) (v := f k) (by rw [eT]; exact r.1) (State.isArrayOf_alike hZ.alike r.2.1) r.2.2 q1 (by rw [q2]; exact r2 k hn) (g := mkF m pc Ls (.int j :: .ref a :: rest)) rfl rfl hd _ kt
theorem own_len (X : Stand p l e R s m args below meth c T locs cells slots) (hx : p.tables.exec = Jvm.exec) (hZ : Z.Warmed39 s.vm) (eT : T.heap = h) {ty : FieldType} {n : Nat} {f : Nat → Value} (A : own_Ar Z h a ty n f) (z : Int32) (hz : z = n.toInt32) (hd : decode c.code pc = .ok (.arraylength, 1)) {t : State}
    (kt : Steps p.tables e below (T.setTop (mkF m (pc + 1) Ls (.int z :: rest))) t) : Steps p.tables e below (T.setTop (mkF m pc Ls (.ref a :: rest))) t := by
  obtain ⟨cl, r, r1, r2⟩ := A
  refine X.arraylength hx (by rw [eT]; exact r.1) (State.isArrayOf_alike hZ.alike r.2.1) (g := mkF m pc Ls (.ref a :: rest)) rfl rfl hd _ ?_
  rw [r1, ← hz]; exact kt
theorem own_bas (X : Stand p l e R s m args below meth c T locs cells slots) (hx : p.tables.exec = Jvm.exec) (hZ : Z.Warmed39 s.vm) (eT : T.heap = h) {n : Nat} {f : Nat → Int32} (A : own_AI Z h a .byte n f) {j x : Int32} (k : Nat) (hk : j.toInt = (k : Int)) (hn : k < n) (hd : decode c.code pc = .ok (.bastore, 1))
    (K : ∀ T' h', Stand p l e R s m args below meth c T' (locs ++ [⟨a, k⟩]) cells slots → T'.heap = h' → Wr h h' a k (.int (nar .byte x)) → own_AI Z h' a .byte n (own_upd f k (nar .byte x)) → own_Go p.tables e below Q (T'.setTop (mkF m (pc + 1) Ls rest))) :
    own_Go p.tables e below Q (T.setTop (mkF m pc Ls (.int x :: .int j :: .ref a :: rest))) := by
  obtain ⟨cl, r, r1, r2⟩ := id A
  obtain ⟨q1, q2⟩ := own_in hk hn r1
  obtain ⟨T', h', X', e', W, st⟩ := stB X hx hZ eT r (j := j) (x := x) q1 (g := mkF m pc Ls (.int x :: .int j :: .ref a :: rest)) rfl rfl hd
  rw [q2] at X' W
  exact own_by st (K T' h' X' e' W ((A.set hn W).congr fun i hi => by simp only [own_upd]; split <;> rfl))
theorem own_ias (X : Stand p l e R s m args below meth c T locs cells slots) (hx : p.tables.exec = Jvm.exec) (hZ : Z.Warmed39 s.vm) (eT : T.heap = h) {n : Nat} {f : Nat → Int32} (A : own_AI Z h a .int n f) {j x : Int32} (k : Nat) (hk : j.toInt = (k : Int)) (hn : k < n) (hd : decode c.code pc = .ok (.iastore, 1))
    (K : ∀ T' h', Stand p l e R s m args below meth c T' (locs ++ [⟨a, k⟩]) cells slots → T'.heap = h' → Wr h h' a k (.int x) → own_AI Z h' a .int n (own_upd f k x) → own_Go p.tables e below Q (T'.setTop (mkF m (pc + 1) Ls rest))) :
    own_Go p.tables e below Q (T.setTop (mkF m pc Ls (.int x :: .int j :: .ref a :: rest))) := by
  obtain ⟨cl, r, r1, r2⟩ := id A
  obtain ⟨q1, q2⟩ := own_in hk hn r1
  obtain ⟨T', h', X', e', W, st⟩ := stI X hx hZ eT r (j := j) (x := x) q1 (g := mkF m pc Ls (.int x :: .int j :: .ref a :: rest)) rfl rfl hd
  rw [q2] at X' W
  exact own_by st (K T' h' X' e' W ((A.set hn W).congr fun i hi => by simp only [own_upd]; split <;> rfl))
theorem own_las (X : Stand p l e R s m args below meth c T locs cells slots) (hx : p.tables.exec = Jvm.exec) (hZ : Z.Warmed39 s.vm) (eT : T.heap = h) {n : Nat} {f : Nat → Int64} (A : own_AJ Z h a n f) {j : Int32} {x : Int64} (k : Nat) (hk : j.toInt = (k : Int)) (hn : k < n) (hd : decode c.code pc = .ok (.lastore, 1))
    (K : ∀ T' h', Stand p l e R s m args below meth c T' (locs ++ [⟨a, k⟩]) cells slots → T'.heap = h' → Wr h h' a k (.long x) → own_AJ Z h' a n (own_upd f k x) → own_Go p.tables e below Q (T'.setTop (mkF m (pc + 1) Ls rest))) :
    own_Go p.tables e below Q (T.setTop (mkF m pc Ls (.long x :: .int j :: .ref a :: rest))) := by
  obtain ⟨cl, r, r1, r2⟩ := id A
  obtain ⟨q1, q2⟩ := own_in hk hn r1
  obtain ⟨T', h', X', e', W, st⟩ := stJ X hx hZ eT r (j := j) (x := x) q1 (g := mkF m pc Ls (.long x :: .int j :: .ref a :: rest)) rfl rfl hd
  rw [q2] at X' W
  exact own_by st (K T' h' X' e' W ((A.set hn W).congr fun i hi => by simp only [own_upd]; split <;> rfl))
theorem own_newP (X : Stand p l e R s m args below meth c T locs cells slots) (hx : p.tables.exec = Jvm.exec) (hZ : Z.Warmed39 s.vm) {a0 : Array Value} {aty : ArrayType} (w : (Cond.arrayClass (newarray.typeOf aty)).before a0 Z = true) (eT : T.heap = h) {n : Int32} (k : Nat) (hk : n.toInt = (k : Int)) (cap : Nat) (hcap : k ≤ cap) (hb : cap * 8 ≤ 536870912) (hc : cells + 1 ≤ R.cells) (hl : slots + cap ≤ R.slots)
    (hd : decode c.code pc = .ok (.newarray aty, 2))
    (K : ∀ T' h', Stand p l e R s m args below meth c T' locs (cells + 1) (slots + cap) → T'.heap = h' → Ext h h' → own_Ar Z h' h.size (newarray.typeOf aty) k (fun _ => defaultValue (newarray.typeOf aty)) → own_Go p.tables e below Q (T'.setTop (mkF m (pc + 2) Ls (.ref h.size :: rest)))) :
    own_Go p.tables e below Q (T.setTop (mkF m pc Ls (.int n :: rest))) := by
  have q : n.toNatClampNeg = k := by simp [Int32.toNatClampNeg, hk]
  have q0 : ¬ n < 0 := by rw [Int32.lt_iff_toInt_lt]; simp only [Int32.reduceToInt]; omega
  obtain ⟨T', h', kk, X', e', E, A, st⟩ := newP X hx hZ w eT (n := n) (g := mkF m pc Ls (.int n :: rest)) rfl hd rfl q0 (cap := cap) (by rw [q]; exact hcap) hb hc hl
  refine own_by st (K T' h' X' e' E ⟨_, A, by rw [sz_new, q], fun j hj => ?_⟩)
  simp [newA, q, hj]
theorem own_size_wr {h h' : Heap} {b : Addr} {sl : Nat} {v : Value} {n0 : Nat} (W : Wr h h' b sl v) (q : n0 ≤ h.size) : n0 ≤ h'.size := by rw [W.size]; exact q
end OwnGo
def own_last (f : Nat → Int32) (w : Int32) (F : Nat) : Nat → Int32
  | 0 => -1
  | e + 1 => if e < F then -1 else if f e = w then Int32.ofNat e else own_last f w F e
def own_hit (f : Nat → Int32) (k : Nat) (i from' end' w : Int32) : Int32 := if i < from' then 0 else if i < end' then (if f k = w then 1 else 0) else 0
def own_pk (d : Int64) (i mask w : Int32) : Int32 := nar .byte (if ((mask.toUInt32 >>> (i &&& 31).toUInt32).toInt32) &&& (1 : Int32) = (0 : Int32) then (((d.toUInt64 >>> (((8 : Int32) * i) &&& 0x3f).toInt64.toUInt64).toInt64).toInt32.toInt8.toInt32) else w)
theorem own_ofNat {i : Int32} {e : Nat} (h : i.toInt = (e : Int)) : i = Int32.ofNat e := by
  have r := rng32 i
  exact Int32.toInt_inj.mp (by rw [h, Int32.toInt_ofNat_small (by omega)])
theorem own_dec {i j : Int32} {e : Nat} (h : i.toInt = (e : Int)) (hj : i + (-1 : Int32) = j) : j.toInt = (e : Int) - 1 := by
  have c := c_iadd i (-1)
  have l : (-1 : Int32).toInt = -1 := by decide
  have r := rng32 i
  have r2 := rng32 j
  rw [hj, l] at c
  omega
theorem own_end {i p : Int32} {e : Nat} (h : p.toInt = (e : Int)) (he : e ≤ 5) (hj : p - (1 : Int32) = i) : i.toInt = (e : Int) - 1 := by
  have c := c_isub p 1
  have l : (1 : Int32).toInt = 1 := by decide
  have r2 := rng32 i
  rw [hj, l] at c
  omega
theorem own_rem6 (x v : Int32) (h : (x &&& (2147483647 : Int32)) % (6 : Int32) = v) : ∃ n : Nat, n ≤ 5 ∧ v.toInt = (n : Int) := by
  have c1 := c_and x 2147483647 (by decide)
  have c2 := c_iremV (x &&& (2147483647 : Int32)) 6
  have l1 : (6 : Int32).toInt = 6 := by decide
  rw [h, l1] at c2
  have c3 := c2.1 c1.1 (by decide)
  exact ⟨v.toInt.toNat, by omega, by omega⟩
/-- the law's own reckoning, up to the place j -/
def own_exp (f : Nat → Int32) (w : Int32) (F E : Nat) : Nat → Int32
  | 0 => -1
  | j + 1 => if F ≤ j ∧ j < E ∧ f j = w then Int32.ofNat j else own_exp f w F E j
theorem own_exp_low (f : Nat → Int32) (w : Int32) (F E : Nat) : ∀ j, j ≤ F → own_exp f w F E j = -1
  | 0, _ => rfl
  | j + 1, h => by rw [own_exp, if_neg (by omega), own_exp_low f w F E j (by omega)]
theorem own_exp_last (f : Nat → Int32) (w : Int32) (F E : Nat) : ∀ j, j ≤ E → own_exp f w F E j = own_last f w F j
  | 0, _ => rfl
  | j + 1, h => by
    rw [own_exp, own_last]
    by_cases h1 : j < F
    · rw [if_neg (by omega), if_pos h1, own_exp_low f w F E j (by omega)]
    · rw [if_neg h1]
      by_cases h2 : f j = w
      · rw [if_pos ⟨by omega, by omega, h2⟩, if_pos h2]
      · rw [if_neg (fun q => h2 q.2.2), if_neg h2, own_exp_last f w F E j (by omega)]
theorem own_exp_high (f : Nat → Int32) (w : Int32) (F E : Nat) : ∀ k, own_exp f w F E (E + k) = own_exp f w F E E
  | 0 => rfl
  | k + 1 => by rw [← Nat.add_assoc, own_exp, if_neg (by omega), own_exp_high f w F E k]
theorem own_turn (f : Nat → Int32) (w : Int32) (F E j : Nat) (i p1 p2 e e' z : Int32) (hi : i.toInt = (j : Int)) (h1 : p1.toInt = (F : Int)) (h2 : p2.toInt = (E : Int)) (hz : own_hit f j i p1 p2 w = z) (he : e = own_exp f w F E j) (he' : (if z = (0 : Int32) then e else i) = e') : e' = own_exp f w F E (j + 1) := by
  subst hz; subst he'; subst he
  have a1 : i < p1 ↔ j < F := by rw [Int32.lt_iff_toInt_lt, hi, h1]; omega
  have a2 : i < p2 ↔ j < E := by rw [Int32.lt_iff_toInt_lt, hi, h2]; omega
  rw [own_exp, own_hit]
  by_cases q1 : F ≤ j
  · rw [if_neg (c := i < p1) (fun q => by have := a1.mp q; omega)]
    by_cases q2 : j < E
    · rw [if_pos (a2.mpr q2)]
      by_cases q3 : f j = w
      · rw [if_pos q3, if_neg (by decide), if_pos ⟨q1, q2, q3⟩]; exact own_ofNat hi
      · rw [if_neg q3, if_pos rfl, if_neg (fun q => q3 q.2.2)]
    · rw [if_neg (c := i < p2) (fun q => q2 (a2.mp q)), if_pos rfl, if_neg (fun q => q2 q.2.1)]
  · rw [if_pos (a1.mpr (by omega)), if_pos rfl, if_neg (fun q => q1 q.1)]
theorem own_fin5 (f : Nat → Int32) (w : Int32) (F E : Nat) (hE : E ≤ 5) : own_exp f w F E 5 = own_last f w F E := by
  have q := own_exp_high f w F E (5 - E)
  rw [show E + (5 - E) = 5 by omega] at q
  exact q.trans (own_exp_last f w F E E (Nat.le_refl _))
theorem own_pd0 : parseMethodDescriptor "(JIIB)B" = some ⟨[.long, .int, .int, .byte], some .byte⟩ := by decide +kernel
theorem own_pd1 : parseMethodDescriptor "([BIIIB)Z" = some ⟨[(.array .byte), .int, .int, .int, .byte], some .boolean⟩ := by decide +kernel
theorem own_pd2 : parseMethodDescriptor "([BIIB)I" = some ⟨[(.array .byte), .int, .int, .byte], some .int⟩ := by decide +kernel
theorem d1_0 : decode method_3_code 0 = .ok (.iload_n 3, 1) := by decide +kernel
theorem d1_1 : decode method_3_code 1 = .ok (.iload_n 2, 1) := by decide +kernel
theorem d1_2 : decode method_3_code 2 = .ok (.iushr, 1) := by decide +kernel
theorem d1_3 : decode method_3_code 3 = .ok (.iconst 1, 1) := by decide +kernel
theorem d1_4 : decode method_3_code 4 = .ok (.iand, 1) := by decide +kernel
theorem d1_5 : decode method_3_code 5 = .ok (.ifCond .eq 6, 3) := by decide +kernel
theorem d1_8 : decode method_3_code 8 = .ok (.iload 4, 2) := by decide +kernel
theorem d1_10 : decode method_3_code 10 = .ok (.ireturn, 1) := by decide +kernel
theorem d1_11 : decode method_3_code 11 = .ok (.lload_n 0, 1) := by decide +kernel
theorem d1_12 : decode method_3_code 12 = .ok (.bipush 8, 2) := by decide +kernel
theorem d1_14 : decode method_3_code 14 = .ok (.iload_n 2, 1) := by decide +kernel
theorem d1_15 : decode method_3_code 15 = .ok (.imul, 1) := by decide +kernel
theorem d1_16 : decode method_3_code 16 = .ok (.lushr, 1) := by decide +kernel
theorem d1_17 : decode method_3_code 17 = .ok (.l2i, 1) := by decide +kernel
theorem d1_18 : decode method_3_code 18 = .ok (.i2b, 1) := by decide +kernel
theorem d1_19 : decode method_3_code 19 = .ok (.ireturn, 1) := by decide +kernel
theorem pn_1 : plainName "com/example/link_prestige/linkprestige/LinkLineLastIndexOfPinLaw" = true := by first | (simp [plainName, overriddenIn]; done) | decide +kernel
theorem d2_0 : decode method_4_code 0 = .ok (.iload_n 2, 1) := by decide +kernel
theorem d2_1 : decode method_4_code 1 = .ok (.iload_n 1, 1) := by decide +kernel
theorem d2_2 : decode method_4_code 2 = .ok (.if_icmp .gt 20, 3) := by decide +kernel
theorem d2_5 : decode method_4_code 5 = .ok (.iload_n 1, 1) := by decide +kernel
theorem d2_6 : decode method_4_code 6 = .ok (.iload_n 3, 1) := by decide +kernel
theorem d2_7 : decode method_4_code 7 = .ok (.if_icmp .ge 15, 3) := by decide +kernel
theorem d2_10 : decode method_4_code 10 = .ok (.aload_n 0, 1) := by decide +kernel
theorem d2_11 : decode method_4_code 11 = .ok (.iload_n 1, 1) := by decide +kernel
theorem d2_12 : decode method_4_code 12 = .ok (.baload, 1) := by decide +kernel
theorem d2_13 : decode method_4_code 13 = .ok (.iload 4, 2) := by decide +kernel
theorem d2_15 : decode method_4_code 15 = .ok (.if_icmp .ne 7, 3) := by decide +kernel
theorem d2_18 : decode method_4_code 18 = .ok (.iconst 1, 1) := by decide +kernel
theorem d2_19 : decode method_4_code 19 = .ok (.goto 4, 3) := by decide +kernel
theorem d2_22 : decode method_4_code 22 = .ok (.iconst 0, 1) := by decide +kernel
theorem d2_23 : decode method_4_code 23 = .ok (.ireturn, 1) := by decide +kernel
theorem pn_2 : plainName "com/example/link_prestige/linkprestige/LinkLineLastIndexOfPinLaw" = true := by first | (simp [plainName, overriddenIn]; done) | decide +kernel
theorem d3_0 : decode prog_18_method_15_code 0 = .ok (.iload_n 2, 1) := by decide +kernel
theorem d3_1 : decode prog_18_method_15_code 1 = .ok (.iconst 1, 1) := by decide +kernel
theorem d3_2 : decode prog_18_method_15_code 2 = .ok (.isub, 1) := by decide +kernel
theorem d3_3 : decode prog_18_method_15_code 3 = .ok (.istore 4, 2) := by decide +kernel
theorem d3_5 : decode prog_18_method_15_code 5 = .ok (.iload 4, 2) := by decide +kernel
theorem d3_7 : decode prog_18_method_15_code 7 = .ok (.iload_n 1, 1) := by decide +kernel
theorem d3_8 : decode prog_18_method_15_code 8 = .ok (.if_icmp .lt 20, 3) := by decide +kernel
theorem d3_11 : decode prog_18_method_15_code 11 = .ok (.aload_n 0, 1) := by decide +kernel
theorem d3_12 : decode prog_18_method_15_code 12 = .ok (.iload 4, 2) := by decide +kernel
theorem d3_14 : decode prog_18_method_15_code 14 = .ok (.baload, 1) := by decide +kernel
theorem d3_15 : decode prog_18_method_15_code 15 = .ok (.iload_n 3, 1) := by decide +kernel
theorem d3_16 : decode prog_18_method_15_code 16 = .ok (.if_icmp .ne 6, 3) := by decide +kernel
theorem d3_19 : decode prog_18_method_15_code 19 = .ok (.iload 4, 2) := by decide +kernel
theorem d3_21 : decode prog_18_method_15_code 21 = .ok (.ireturn, 1) := by decide +kernel
theorem d3_22 : decode prog_18_method_15_code 22 = .ok (.iinc 4 (-1), 3) := by decide +kernel
theorem d3_25 : decode prog_18_method_15_code 25 = .ok (.goto (-20), 3) := by decide +kernel
theorem d3_28 : decode prog_18_method_15_code 28 = .ok (.iconst (-1), 1) := by decide +kernel
theorem d3_29 : decode prog_18_method_15_code 29 = .ok (.ireturn, 1) := by decide +kernel
theorem pn_3 : plainName "com/example/link_prestige/linkprestige/LinkLine" = true := by first | (simp [plainName, overriddenIn]; done) | decide +kernel
theorem pn_0 : plainName "com/example/link_prestige/linkprestige/LinkLineLastIndexOfPinLaw" = true := by first | (simp [plainName, overriddenIn]; done) | decide +kernel
set_option maxRecDepth 65536 in
set_option maxHeartbeats 40000000 in
theorem rm1 (l : Launch) (Z : State) (a0 : Array Value) (hw : ∀ d ∈ tables_1, d.before a0 Z = true) (ws : List Jvm.Cond) (q1 : Int64) (p2 : Int32) (p3 : Int32) (p4 : Int32)  (h0 : Heap) (n0 : Nat) (Z0 : n0 ≤ h0.size) :
    MetFree l (⟨"com/example/link_prestige/linkprestige/LinkLineLastIndexOfPinLaw", "pick", "(JIIB)B"⟩ : MethodName) (head1 (Jvm.Cond.code (⟨"com/example/link_prestige/linkprestige/LinkLineLastIndexOfPinLaw", "pick", "(JIIB)B"⟩ : MethodName) method_3_code 5 (some .byte) :: ws) ({ frames := 0, cells := 0, slots := 0, locals := 0 } : Room)) (fun a U => a = #[(.long q1), (.int p2), (.int p3), (.int p4)] ∧ Z.Warmed39 U.vm ∧ U.heap = h0) (fun _ _ _ _ _ => True) (fun _ U o U' => ∃ v L, o = .returned v ∧ own_ap (fun v h L => v = some (.int (own_pk q1 p2 p3 p4)) ∧ Fr n0 L ∧ h = h0) v U'.heap L ∧ FrameEnd U o U' L 0 0) := by
  refine MetFree.of_bodySF (plainFor_of_name pn_1) hisR ?_
  intro p e s m args below meth c s₁ Bd hml0 hP hK
  obtain ⟨rfl, hZ, hh⟩ := hP
  have hx := Bd.exec
  have hby := Bd.bytes
  have hml : c.maxLocals = 5 := hml0
  have hown : s.vm.findClass "com/example/link_prestige/linkprestige/LinkLineLastIndexOfPinLaw" = some m.cls := findClass_of_methodNamed Bd.named
  have hnm := (name_of_methodNamed Bd.named Bd.method).1
  have X0 : Stand p l e ({ frames := 0, cells := 0, slots := 0, locals := 0 } : Room) s m #[(.long q1), (.int p2), (.int p3), (.int p4)] below meth c s₁ [] 0 0 := Stand.of_body Bd
  have e0 : s₁.heap = h0 := by rw [← hh, Bd.state]; rfl
  have N0 := Fr.nil n0
  show own_Go p.tables e below (own_Q s (fun v h L => v = some (.int (own_pk q1 p2 p3 p4)) ∧ Fr n0 L ∧ h = h0) 0 0) (s₁.setTop (entryFrame m #[(.long q1), (.int p2), (.int p3), (.int p4)] 5))
  rw [show entryFrame m #[(.long q1), (.int p2), (.int p3), (.int p4)] 5 = mkF m 0 #[.val (.long q1), .second, .val (.int p2), .val (.int p3), .val (.int p4)] [] from by first | (simp [entryFrame, mkF, argsToLocals, Value.category]; done) | rfl]
  show own_Go _ _ _ _ (s₁.setTop (mkF m 0 #[.val (.long q1), .second, .val (.int p2), .val (.int p3), .val (.int p4)] []))
  refine own_by (fun _ k => XS.iloadN X0.here hx rfl (hb hby d1_0) rfl k) ?_
  show own_Go _ _ _ _ (s₁.setTop (mkF m 1 #[.val (.long q1), .second, .val (.int p2), .val (.int p3), .val (.int p4)] [(.int p3)]))
  refine own_by (fun _ k => XS.iloadN X0.here hx rfl (hb hby d1_1) rfl k) ?_
  show own_Go _ _ _ _ (s₁.setTop (mkF m 2 #[.val (.long q1), .second, .val (.int p2), .val (.int p3), .val (.int p4)] [(.int p2), (.int p3)]))
  refine own_by (fun _ k => XS.iushr X0.here hx rfl (hb hby d1_2) rfl k) ?_
  show own_Go _ _ _ _ (s₁.setTop (mkF m 3 #[.val (.long q1), .second, .val (.int p2), .val (.int p3), .val (.int p4)] [(.int ((p3.toUInt32 >>> (p2 &&& 31).toUInt32).toInt32))]))
  refine own_by (fun _ k => XS.iconst X0.here hx rfl (hb hby d1_3) k) ?_
  show own_Go _ _ _ _ (s₁.setTop (mkF m 4 #[.val (.long q1), .second, .val (.int p2), .val (.int p3), .val (.int p4)] [(.int (1 : Int32)), (.int ((p3.toUInt32 >>> (p2 &&& 31).toUInt32).toInt32))]))
  refine own_by (fun _ k => XS.iand X0.here hx rfl (hb hby d1_4) rfl k) ?_
  show own_Go _ _ _ _ (s₁.setTop (mkF m 5 #[.val (.long q1), .second, .val (.int p2), .val (.int p3), .val (.int p4)] [(.int (((p3.toUInt32 >>> (p2 &&& 31).toUInt32).toInt32) &&& (1 : Int32)))]))
  by_cases hc1 : (((p3.toUInt32 >>> (p2 &&& 31).toUInt32).toInt32) &&& (1 : Int32)) = (0 : Int32)
  · --
    refine own_by (fun _ k => XS.ifYes X0.here hx rfl (pc0 := 5) (pc' := 11) rfl (hb hby d1_5) rfl ((if0 _ _).trans (teq hc1).1) (by decide) (by decide) k) ?_
    show own_Go _ _ _ _ (s₁.setTop (mkF m 11 #[.val (.long q1), .second, .val (.int p2), .val (.int p3), .val (.int p4)] []))
    refine own_by (fun _ k => XS.lloadN X0.here hx rfl (hb hby d1_11) rfl k) ?_
    show own_Go _ _ _ _ (s₁.setTop (mkF m 12 #[.val (.long q1), .second, .val (.int p2), .val (.int p3), .val (.int p4)] [(.long q1)]))
    refine own_by (fun _ k => XS.bipush X0.here hx rfl (hb hby d1_12) k) ?_
    show own_Go _ _ _ _ (s₁.setTop (mkF m 14 #[.val (.long q1), .second, .val (.int p2), .val (.int p3), .val (.int p4)] [(.int (8 : Int32)), (.long q1)]))
    refine own_by (fun _ k => XS.iloadN X0.here hx rfl (hb hby d1_14) rfl k) ?_
    show own_Go _ _ _ _ (s₁.setTop (mkF m 15 #[.val (.long q1), .second, .val (.int p2), .val (.int p3), .val (.int p4)] [(.int p2), (.int (8 : Int32)), (.long q1)]))
    refine own_by (fun _ k => XS.imul X0.here hx rfl (hb hby d1_15) rfl k) ?_
    show own_Go _ _ _ _ (s₁.setTop (mkF m 16 #[.val (.long q1), .second, .val (.int p2), .val (.int p3), .val (.int p4)] [(.int ((8 : Int32) * p2)), (.long q1)]))
    refine own_by (fun _ k => XS.lushr X0.here hx rfl (hb hby d1_16) rfl k) ?_
    show own_Go _ _ _ _ (s₁.setTop (mkF m 17 #[.val (.long q1), .second, .val (.int p2), .val (.int p3), .val (.int p4)] [(.long ((q1.toUInt64 >>> (((8 : Int32) * p2) &&& 0x3f).toInt64.toUInt64).toInt64))]))
    refine own_by (fun _ k => XS.l2i X0.here hx rfl (hb hby d1_17) rfl k) ?_
    show own_Go _ _ _ _ (s₁.setTop (mkF m 18 #[.val (.long q1), .second, .val (.int p2), .val (.int p3), .val (.int p4)] [(.int (((q1.toUInt64 >>> (((8 : Int32) * p2) &&& 0x3f).toInt64.toUInt64).toInt64).toInt32))]))
    refine own_by (fun _ k => XS.i2b X0.here hx rfl (hb hby d1_18) rfl k) ?_
    show own_Go _ _ _ _ (s₁.setTop (mkF m 19 #[.val (.long q1), .second, .val (.int p2), .val (.int p3), .val (.int p4)] [(.int ((((q1.toUInt64 >>> (((8 : Int32) * p2) &&& 0x3f).toInt64.toUInt64).toInt64).toInt32).toInt8.toInt32))]))
    exact own_retN X0 hx Bd.notSynchronized e0 Bd.returns (by simp) (hb hby d1_19) (⟨by rw [own_pk, if_pos hc1], N0, rfl⟩) (by decide) (by decide)
  · --
    refine own_by (fun _ k => XS.ifNo X0.here hx rfl (hb hby d1_5) rfl ((if0 _ _).trans (feq hc1).1) k) ?_
    show own_Go _ _ _ _ (s₁.setTop (mkF m 8 #[.val (.long q1), .second, .val (.int p2), .val (.int p3), .val (.int p4)] []))
    refine own_by (fun _ k => XS.iload X0.here hx rfl (hb hby d1_8) rfl k) ?_
    show own_Go _ _ _ _ (s₁.setTop (mkF m 10 #[.val (.long q1), .second, .val (.int p2), .val (.int p3), .val (.int p4)] [(.int p4)]))
    exact own_retN X0 hx Bd.notSynchronized e0 Bd.returns (by simp) (hb hby d1_10) (⟨by rw [own_pk, if_neg hc1], N0, rfl⟩) (by decide) (by decide)
set_option maxRecDepth 65536 in
set_option maxHeartbeats 40000000 in
theorem rm2 (l : Launch) (Z : State) (a0 : Array Value) (hw : ∀ d ∈ tables_1, d.before a0 Z = true) (ws : List Jvm.Cond) (a1 : Addr) (p1 : Int32) (p2 : Int32) (p3 : Int32) (p4 : Int32) (f : Nat → Int32) (k1 : Nat) (h0 : Heap) (n0 : Nat) (Z0 : n0 ≤ h0.size) (A1 : own_AI Z h0 a1 .byte 5 f) (hk : p1.toInt = (k1 : Int)) (hkn : k1 < 5) :
    MetFree l (⟨"com/example/link_prestige/linkprestige/LinkLineLastIndexOfPinLaw", "hit", "([BIIIB)Z"⟩ : MethodName) (head1 (Jvm.Cond.code (⟨"com/example/link_prestige/linkprestige/LinkLineLastIndexOfPinLaw", "hit", "([BIIIB)Z"⟩ : MethodName) method_4_code 5 (some .boolean) :: ws) ({ frames := 0, cells := 0, slots := 0, locals := 0 } : Room)) (fun a U => a = #[(.ref a1), (.int p1), (.int p2), (.int p3), (.int p4)] ∧ Z.Warmed39 U.vm ∧ U.heap = h0) (fun _ _ _ _ _ => True) (fun _ U o U' => ∃ v L, o = .returned v ∧ own_ap (fun v h L => v = some (.int (own_hit f k1 p1 p2 p3 p4)) ∧ Fr n0 L ∧ h = h0) v U'.heap L ∧ FrameEnd U o U' L 0 0) := by
  refine MetFree.of_bodySF (plainFor_of_name pn_2) hisR ?_
  intro p e s m args below meth c s₁ Bd hml0 hP hK
  obtain ⟨rfl, hZ, hh⟩ := hP
  have hx := Bd.exec
  have hby := Bd.bytes
  have hml : c.maxLocals = 5 := hml0
  have hown : s.vm.findClass "com/example/link_prestige/linkprestige/LinkLineLastIndexOfPinLaw" = some m.cls := findClass_of_methodNamed Bd.named
  have hnm := (name_of_methodNamed Bd.named Bd.method).1
  have X0 : Stand p l e ({ frames := 0, cells := 0, slots := 0, locals := 0 } : Room) s m #[(.ref a1), (.int p1), (.int p2), (.int p3), (.int p4)] below meth c s₁ [] 0 0 := Stand.of_body Bd
  have e0 : s₁.heap = h0 := by rw [← hh, Bd.state]; rfl
  have N0 := Fr.nil n0
  show own_Go p.tables e below (own_Q s (fun v h L => v = some (.int (own_hit f k1 p1 p2 p3 p4)) ∧ Fr n0 L ∧ h = h0) 0 0) (s₁.setTop (entryFrame m #[(.ref a1), (.int p1), (.int p2), (.int p3), (.int p4)] 5))
  rw [show entryFrame m #[(.ref a1), (.int p1), (.int p2), (.int p3), (.int p4)] 5 = mkF m 0 #[.val (.ref a1), .val (.int p1), .val (.int p2), .val (.int p3), .val (.int p4)] [] from by first | (simp [entryFrame, mkF, argsToLocals, Value.category]; done) | rfl]
  show own_Go _ _ _ _ (s₁.setTop (mkF m 0 #[.val (.ref a1), .val (.int p1), .val (.int p2), .val (.int p3), .val (.int p4)] []))
  refine own_by (fun _ k => XS.iloadN X0.here hx rfl (hb hby d2_0) rfl k) ?_
  show own_Go _ _ _ _ (s₁.setTop (mkF m 1 #[.val (.ref a1), .val (.int p1), .val (.int p2), .val (.int p3), .val (.int p4)] [(.int p2)]))
  refine own_by (fun _ k => XS.iloadN X0.here hx rfl (hb hby d2_1) rfl k) ?_
  show own_Go _ _ _ _ (s₁.setTop (mkF m 2 #[.val (.ref a1), .val (.int p1), .val (.int p2), .val (.int p3), .val (.int p4)] [(.int p1), (.int p2)]))
  by_cases hc1 : p1 < p2
  · --
    refine own_by (fun _ k => XS.icmpYes X0.here hx rfl (pc0 := 2) (pc' := 22) rfl (hb hby d2_2) rfl (tlt hc1).2.2.1 (by decide) (by decide) k) ?_
    show own_Go _ _ _ _ (s₁.setTop (mkF m 22 #[.val (.ref a1), .val (.int p1), .val (.int p2), .val (.int p3), .val (.int p4)] []))
    refine own_by (fun _ k => XS.iconst X0.here hx rfl (hb hby d2_22) k) ?_
    show own_Go _ _ _ _ (s₁.setTop (mkF m 23 #[.val (.ref a1), .val (.int p1), .val (.int p2), .val (.int p3), .val (.int p4)] [(.int (0 : Int32))]))
    exact own_retN X0 hx Bd.notSynchronized e0 Bd.returns (by simp) (hb hby d2_23) (⟨by simp [own_hit, nar, hc1], N0, rfl⟩) (by decide) (by decide)
  · --
    refine own_by (fun _ k => XS.icmpNo X0.here hx rfl (hb hby d2_2) rfl (flt hc1).2.2.1 k) ?_
    show own_Go _ _ _ _ (s₁.setTop (mkF m 5 #[.val (.ref a1), .val (.int p1), .val (.int p2), .val (.int p3), .val (.int p4)] []))
    refine own_by (fun _ k => XS.iloadN X0.here hx rfl (hb hby d2_5) rfl k) ?_
    show own_Go _ _ _ _ (s₁.setTop (mkF m 6 #[.val (.ref a1), .val (.int p1), .val (.int p2), .val (.int p3), .val (.int p4)] [(.int p1)]))
    refine own_by (fun _ k => XS.iloadN X0.here hx rfl (hb hby d2_6) rfl k) ?_
    show own_Go _ _ _ _ (s₁.setTop (mkF m 7 #[.val (.ref a1), .val (.int p1), .val (.int p2), .val (.int p3), .val (.int p4)] [(.int p3), (.int p1)]))
    by_cases hc2 : p1 < p3
    · --
      refine own_by (fun _ k => XS.icmpNo X0.here hx rfl (hb hby d2_7) rfl (tlt hc2).2.1 k) ?_
      show own_Go _ _ _ _ (s₁.setTop (mkF m 10 #[.val (.ref a1), .val (.int p1), .val (.int p2), .val (.int p3), .val (.int p4)] []))
      refine own_by (fun _ k => XS.aloadN X0.here hx rfl (hb hby d2_10) rfl rfl k) ?_
      show own_Go _ _ _ _ (s₁.setTop (mkF m 11 #[.val (.ref a1), .val (.int p1), .val (.int p2), .val (.int p3), .val (.int p4)] [(.ref a1)]))
      refine own_by (fun _ k => XS.iloadN X0.here hx rfl (hb hby d2_11) rfl k) ?_
      show own_Go _ _ _ _ (s₁.setTop (mkF m 12 #[.val (.ref a1), .val (.int p1), .val (.int p2), .val (.int p3), .val (.int p4)] [(.int p1), (.ref a1)]))
      refine own_by (fun _ k => own_bal X0 hx hZ e0 A1 k1 hk hkn (hb hby d2_12) k) ?_
      show own_Go _ _ _ _ (s₁.setTop (mkF m 13 #[.val (.ref a1), .val (.int p1), .val (.int p2), .val (.int p3), .val (.int p4)] [(.int (f k1))]))
      refine own_by (fun _ k => XS.iload X0.here hx rfl (hb hby d2_13) rfl k) ?_
      show own_Go _ _ _ _ (s₁.setTop (mkF m 15 #[.val (.ref a1), .val (.int p1), .val (.int p2), .val (.int p3), .val (.int p4)] [(.int p4), (.int (f k1))]))
      by_cases hc3 : (f k1) = p4
      · --
        refine own_by (fun _ k => XS.icmpNo X0.here hx rfl (hb hby d2_15) rfl (teq hc3).2 k) ?_
        show own_Go _ _ _ _ (s₁.setTop (mkF m 18 #[.val (.ref a1), .val (.int p1), .val (.int p2), .val (.int p3), .val (.int p4)] []))
        refine own_by (fun _ k => XS.iconst X0.here hx rfl (hb hby d2_18) k) ?_
        show own_Go _ _ _ _ (s₁.setTop (mkF m 19 #[.val (.ref a1), .val (.int p1), .val (.int p2), .val (.int p3), .val (.int p4)] [(.int (1 : Int32))]))
        refine own_by (fun _ k => XS.goto X0.here hx rfl (pc0 := 19) (pc' := 23) rfl (hb hby d2_19) (by decide) (by decide) k) ?_
        show own_Go _ _ _ _ (s₁.setTop (mkF m 23 #[.val (.ref a1), .val (.int p1), .val (.int p2), .val (.int p3), .val (.int p4)] [(.int (1 : Int32))]))
        exact own_retN X0 hx Bd.notSynchronized e0 Bd.returns (by simp) (hb hby d2_23) (⟨by simp [own_hit, nar, hc1, hc2, hc3], N0, rfl⟩) (by decide) (by decide)
      · --
        refine own_by (fun _ k => XS.icmpYes X0.here hx rfl (pc0 := 15) (pc' := 22) rfl (hb hby d2_15) rfl (feq hc3).2 (by decide) (by decide) k) ?_
        show own_Go _ _ _ _ (s₁.setTop (mkF m 22 #[.val (.ref a1), .val (.int p1), .val (.int p2), .val (.int p3), .val (.int p4)] []))
        refine own_by (fun _ k => XS.iconst X0.here hx rfl (hb hby d2_22) k) ?_
        show own_Go _ _ _ _ (s₁.setTop (mkF m 23 #[.val (.ref a1), .val (.int p1), .val (.int p2), .val (.int p3), .val (.int p4)] [(.int (0 : Int32))]))
        exact own_retN X0 hx Bd.notSynchronized e0 Bd.returns (by simp) (hb hby d2_23) (⟨by simp [own_hit, nar, hc1, hc2, hc3], N0, rfl⟩) (by decide) (by decide)
    · --
      refine own_by (fun _ k => XS.icmpYes X0.here hx rfl (pc0 := 7) (pc' := 22) rfl (hb hby d2_7) rfl (flt hc2).2.1 (by decide) (by decide) k) ?_
      show own_Go _ _ _ _ (s₁.setTop (mkF m 22 #[.val (.ref a1), .val (.int p1), .val (.int p2), .val (.int p3), .val (.int p4)] []))
      refine own_by (fun _ k => XS.iconst X0.here hx rfl (hb hby d2_22) k) ?_
      show own_Go _ _ _ _ (s₁.setTop (mkF m 23 #[.val (.ref a1), .val (.int p1), .val (.int p2), .val (.int p3), .val (.int p4)] [(.int (0 : Int32))]))
      exact own_retN X0 hx Bd.notSynchronized e0 Bd.returns (by simp) (hb hby d2_23) (⟨by simp [own_hit, nar, hc1, hc2], N0, rfl⟩) (by decide) (by decide)
set_option maxRecDepth 65536 in
set_option maxHeartbeats 40000000 in
theorem rm3 (l : Launch) (Z : State) (a0 : Array Value) (hw : ∀ d ∈ tables_1, d.before a0 Z = true) (ws : List Jvm.Cond) (a1 : Addr) (p1 : Int32) (p2 : Int32) (p3 : Int32) (f : Nat → Int32) (F E : Nat) (h0 : Heap) (n0 : Nat) (Z0 : n0 ≤ h0.size) (A1 : own_AI Z h0 a1 .byte 5 f) (hF : p1.toInt = (F : Int)) (hE : p2.toInt = (E : Int)) (hE5 : E ≤ 5) :
    MetFree l (⟨"com/example/link_prestige/linkprestige/LinkLine", "lastIndexOf", "([BIIB)I"⟩ : MethodName) (head1 (Jvm.Cond.code (⟨"com/example/link_prestige/linkprestige/LinkLine", "lastIndexOf", "([BIIB)I"⟩ : MethodName) prog_18_method_15_code 5 (some .int) :: ws) ({ frames := 0, cells := 0, slots := 0, locals := 0 } : Room)) (fun a U => a = #[(.ref a1), (.int p1), (.int p2), (.int p3)] ∧ Z.Warmed39 U.vm ∧ U.heap = h0) (fun _ _ _ _ _ => True) (fun _ U o U' => ∃ v L, o = .returned v ∧ own_ap (fun v h L => v = some (.int (own_last f p3 F E)) ∧ Fr n0 L ∧ h = h0) v U'.heap L ∧ FrameEnd U o U' L 0 0) := by
  refine MetFree.of_bodySF (plainFor_of_name pn_3) hisR ?_
  intro p e s m args below meth c s₁ Bd hml0 hP hK
  obtain ⟨rfl, hZ, hh⟩ := hP
  have hx := Bd.exec
  have hby := Bd.bytes
  have hml : c.maxLocals = 5 := hml0
  have hown : s.vm.findClass "com/example/link_prestige/linkprestige/LinkLine" = some m.cls := findClass_of_methodNamed Bd.named
  have hnm := (name_of_methodNamed Bd.named Bd.method).1
  have X0 : Stand p l e ({ frames := 0, cells := 0, slots := 0, locals := 0 } : Room) s m #[(.ref a1), (.int p1), (.int p2), (.int p3)] below meth c s₁ [] 0 0 := Stand.of_body Bd
  have e0 : s₁.heap = h0 := by rw [← hh, Bd.state]; rfl
  have N0 := Fr.nil n0
  show own_Go p.tables e below (own_Q s (fun v h L => v = some (.int (own_last f p3 F E)) ∧ Fr n0 L ∧ h = h0) 0 0) (s₁.setTop (entryFrame m #[(.ref a1), (.int p1), (.int p2), (.int p3)] 5))
  rw [show entryFrame m #[(.ref a1), (.int p1), (.int p2), (.int p3)] 5 = mkF m 0 #[.val (.ref a1), .val (.int p1), .val (.int p2), .val (.int p3), .unset] [] from by first | (simp [entryFrame, mkF, argsToLocals, Value.category]; done) | rfl]
  show own_Go _ _ _ _ (s₁.setTop (mkF m 0 #[.val (.ref a1), .val (.int p1), .val (.int p2), .val (.int p3), .unset] []))
  refine own_by (fun _ k => XS.iloadN X0.here hx rfl (hb hby d3_0) rfl k) ?_
  show own_Go _ _ _ _ (s₁.setTop (mkF m 1 #[.val (.ref a1), .val (.int p1), .val (.int p2), .val (.int p3), .unset] [(.int p2)]))
  refine own_by (fun _ k => XS.iconst X0.here hx rfl (hb hby d3_1) k) ?_
  show own_Go _ _ _ _ (s₁.setTop (mkF m 2 #[.val (.ref a1), .val (.int p1), .val (.int p2), .val (.int p3), .unset] [(.int (1 : Int32)), (.int p2)]))
  refine own_by (fun _ k => XS.isub X0.here hx rfl (hb hby d3_2) rfl k) ?_
  show own_Go _ _ _ _ (s₁.setTop (mkF m 3 #[.val (.ref a1), .val (.int p1), .val (.int p2), .val (.int p3), .unset] [(.int (p2 - (1 : Int32)))]))
  obtain ⟨v4_1, hv4_1⟩ : ∃ z_ : Int32, (p2 - (1 : Int32)) = z_ := ⟨_, rfl⟩
  refine own_gen hv4_1 (fun z_ => s₁.setTop (mkF m 3 #[.val (.ref a1), .val (.int p1), .val (.int p2), .val (.int p3), .unset] [(.int z_)])) ?_
  refine own_by (fun _ k => XS.istore X0.here hx rfl (hb hby d3_3) rfl (l' := #[.val (.ref a1), .val (.int p1), .val (.int p2), .val (.int p3), .val (.int v4_1)]) rfl k) ?_
  obtain ⟨r, hrr⟩ : ∃ r, own_last f p3 F E = r := ⟨_, rfl⟩
  rw [hrr]
  suffices H : ∀ (e' : Nat), e' ≤ 5 → own_last f p3 F e' = r → ∀ i : Int32, i.toInt = (e' : Int) - 1 → own_Go p.tables e below (own_Q s (fun v h L => v = some (.int r) ∧ Fr n0 L ∧ h = h0) 0 0) (s₁.setTop (mkF m 5 #[.val (.ref a1), .val (.int p1), .val (.int p2), .val (.int p3), .val (.int i)] [])) from H E hE5 hrr _ (own_end hE hE5 hv4_1)
  intro e'
  induction e' with
  | zero =>
    intro he hr i hi
    show own_Go _ _ _ _ (s₁.setTop (mkF m 5 #[.val (.ref a1), .val (.int p1), .val (.int p2), .val (.int p3), .val (.int i)] []))
    refine own_by (fun _ k => XS.iload X0.here hx rfl (hb hby d3_5) rfl k) ?_
    show own_Go _ _ _ _ (s₁.setTop (mkF m 7 #[.val (.ref a1), .val (.int p1), .val (.int p2), .val (.int p3), .val (.int i)] [(.int i)]))
    refine own_by (fun _ k => XS.iloadN X0.here hx rfl (hb hby d3_7) rfl k) ?_
    show own_Go _ _ _ _ (s₁.setTop (mkF m 8 #[.val (.ref a1), .val (.int p1), .val (.int p2), .val (.int p3), .val (.int i)] [(.int p1), (.int i)]))
    refine own_by (fun _ k => XS.icmpYes X0.here hx rfl (pc0 := 8) (pc' := 28) rfl (hb hby d3_8) rfl (tlt (by rw [Int32.lt_iff_toInt_lt, hi, hF]; omega)).1 (by decide) (by decide) k) ?_
    show own_Go _ _ _ _ (s₁.setTop (mkF m 28 #[.val (.ref a1), .val (.int p1), .val (.int p2), .val (.int p3), .val (.int i)] []))
    refine own_by (fun _ k => XS.iconst X0.here hx rfl (hb hby d3_28) k) ?_
    show own_Go _ _ _ _ (s₁.setTop (mkF m 29 #[.val (.ref a1), .val (.int p1), .val (.int p2), .val (.int p3), .val (.int i)] [(.int (-1 : Int32))]))
    exact own_retI X0 hx Bd.notSynchronized e0 Bd.returns (hb hby d3_29) (⟨by rw [← hr]; rfl, N0, rfl⟩) (by decide) (by decide)
  | succ e' ih =>
    intro he hr i hi'
    have hi : i.toInt = (e' : Int) := by omega
    show own_Go _ _ _ _ (s₁.setTop (mkF m 5 #[.val (.ref a1), .val (.int p1), .val (.int p2), .val (.int p3), .val (.int i)] []))
    refine own_by (fun _ k => XS.iload X0.here hx rfl (hb hby d3_5) rfl k) ?_
    show own_Go _ _ _ _ (s₁.setTop (mkF m 7 #[.val (.ref a1), .val (.int p1), .val (.int p2), .val (.int p3), .val (.int i)] [(.int i)]))
    refine own_by (fun _ k => XS.iloadN X0.here hx rfl (hb hby d3_7) rfl k) ?_
    show own_Go _ _ _ _ (s₁.setTop (mkF m 8 #[.val (.ref a1), .val (.int p1), .val (.int p2), .val (.int p3), .val (.int i)] [(.int p1), (.int i)]))
    by_cases hc2 : i < p1
    · --
      refine own_by (fun _ k => XS.icmpYes X0.here hx rfl (pc0 := 8) (pc' := 28) rfl (hb hby d3_8) rfl (tlt hc2).1 (by decide) (by decide) k) ?_
      show own_Go _ _ _ _ (s₁.setTop (mkF m 28 #[.val (.ref a1), .val (.int p1), .val (.int p2), .val (.int p3), .val (.int i)] []))
      refine own_by (fun _ k => XS.iconst X0.here hx rfl (hb hby d3_28) k) ?_
      show own_Go _ _ _ _ (s₁.setTop (mkF m 29 #[.val (.ref a1), .val (.int p1), .val (.int p2), .val (.int p3), .val (.int i)] [(.int (-1 : Int32))]))
      exact own_retI X0 hx Bd.notSynchronized e0 Bd.returns (hb hby d3_29) (⟨by rw [← hr, own_last, if_pos (by rw [Int32.lt_iff_toInt_lt, hi, hF] at hc2; omega)], N0, rfl⟩) (by decide) (by decide)
    · --
      refine own_by (fun _ k => XS.icmpNo X0.here hx rfl (hb hby d3_8) rfl (flt hc2).1 k) ?_
      show own_Go _ _ _ _ (s₁.setTop (mkF m 11 #[.val (.ref a1), .val (.int p1), .val (.int p2), .val (.int p3), .val (.int i)] []))
      refine own_by (fun _ k => XS.aloadN X0.here hx rfl (hb hby d3_11) rfl rfl k) ?_
      show own_Go _ _ _ _ (s₁.setTop (mkF m 12 #[.val (.ref a1), .val (.int p1), .val (.int p2), .val (.int p3), .val (.int i)] [(.ref a1)]))
      refine own_by (fun _ k => XS.iload X0.here hx rfl (hb hby d3_12) rfl k) ?_
      show own_Go _ _ _ _ (s₁.setTop (mkF m 14 #[.val (.ref a1), .val (.int p1), .val (.int p2), .val (.int p3), .val (.int i)] [(.int i), (.ref a1)]))
      refine own_by (fun _ k => own_bal X0 hx hZ e0 A1 e' hi (by omega) (hb hby d3_14) k) ?_
      show own_Go _ _ _ _ (s₁.setTop (mkF m 15 #[.val (.ref a1), .val (.int p1), .val (.int p2), .val (.int p3), .val (.int i)] [(.int (f e'))]))
      refine own_by (fun _ k => XS.iloadN X0.here hx rfl (hb hby d3_15) rfl k) ?_
      show own_Go _ _ _ _ (s₁.setTop (mkF m 16 #[.val (.ref a1), .val (.int p1), .val (.int p2), .val (.int p3), .val (.int i)] [(.int p3), (.int (f e'))]))
      by_cases hc3 : (f e') = p3
      · --
        refine own_by (fun _ k => XS.icmpNo X0.here hx rfl (hb hby d3_16) rfl (teq hc3).2 k) ?_
        show own_Go _ _ _ _ (s₁.setTop (mkF m 19 #[.val (.ref a1), .val (.int p1), .val (.int p2), .val (.int p3), .val (.int i)] []))
        refine own_by (fun _ k => XS.iload X0.here hx rfl (hb hby d3_19) rfl k) ?_
        show own_Go _ _ _ _ (s₁.setTop (mkF m 21 #[.val (.ref a1), .val (.int p1), .val (.int p2), .val (.int p3), .val (.int i)] [(.int i)]))
        exact own_retI X0 hx Bd.notSynchronized e0 Bd.returns (hb hby d3_21) (⟨by rw [← hr, own_last, if_neg (by rw [Int32.lt_iff_toInt_lt, hi, hF] at hc2; omega), if_pos hc3, own_ofNat hi], N0, rfl⟩) (by decide) (by decide)
      · --
        refine own_by (fun _ k => XS.icmpYes X0.here hx rfl (pc0 := 16) (pc' := 22) rfl (hb hby d3_16) rfl (feq hc3).2 (by decide) (by decide) k) ?_
        have hr' : own_last f p3 F e' = r := by rw [← hr, own_last, if_neg (by rw [Int32.lt_iff_toInt_lt, hi, hF] at hc2; omega), if_neg hc3]
        show own_Go _ _ _ _ (s₁.setTop (mkF m 22 #[.val (.ref a1), .val (.int p1), .val (.int p2), .val (.int p3), .val (.int i)] []))
        refine own_by (fun _ k => XS.iinc X0.here hx rfl (hb hby d3_22) rfl (l' := #[.val (.ref a1), .val (.int p1), .val (.int p2), .val (.int p3), .val (.int (i + (-1 : Int32)))]) rfl k) ?_
        obtain ⟨v4_4, hv4_4⟩ : ∃ z_ : Int32, (i + (-1 : Int32)) = z_ := ⟨_, rfl⟩
        refine own_gen hv4_4 (fun z_ => s₁.setTop (mkF m 25 #[.val (.ref a1), .val (.int p1), .val (.int p2), .val (.int p3), .val (.int z_)] [])) ?_
        show own_Go _ _ _ _ (s₁.setTop (mkF m 25 #[.val (.ref a1), .val (.int p1), .val (.int p2), .val (.int p3), .val (.int v4_4)] []))
        refine own_by (fun _ k => XS.goto X0.here hx rfl (pc0 := 25) (pc' := 5) rfl (hb hby d3_25) (by decide) (by decide) k) ?_
        exact ih (by omega) hr' _ (own_dec hi hv4_4)
set_option maxRecDepth 65536 in
set_option maxHeartbeats 40000000 in
theorem rm0 (l : Launch) (Z : State) (a0 : Array Value) (hw : ∀ d ∈ tables_1, d.before a0 Z = true) (ws : List Jvm.Cond) (q1 : Int64) (p2 : Int32) (p3 : Int32) (p4 : Int32) (p5 : Int32)  (h0 : Heap) (n0 : Nat) (Z0 : n0 ≤ h0.size) :
    MetFree l x (head1 (Jvm.Cond.code x code maxLocals ret :: ws) room_1) (fun a U => a = #[(.long q1), (.int p2), (.int p3), (.int p4), (.int p5)] ∧ Z.Warmed39 U.vm ∧ U.heap = h0) (fun _ _ _ _ _ => True) (fun _ U o U' => ∃ v L, o = .returned v ∧ own_ap (fun v h L => v = some (.int 1) ∧ Fr n0 L) v U'.heap L ∧ FrameEnd U o U' L 16 128) := by
  refine MetFree.of_bodySF (plainFor_of_name pn_0) hisR ?_
  intro p e s m args below meth c s₁ Bd hml0 hP hK
  obtain ⟨rfl, hZ, hh⟩ := hP
  have hx := Bd.exec
  have hby := Bd.bytes
  have hml : c.maxLocals = 11 := hml0
  have hown : s.vm.findClass "com/example/link_prestige/linkprestige/LinkLineLastIndexOfPinLaw" = some m.cls := findClass_of_methodNamed Bd.named
  have hnm := (name_of_methodNamed Bd.named Bd.method).1
  have X0 : Stand p l e room_1 s m #[(.long q1), (.int p2), (.int p3), (.int p4), (.int p5)] below meth c s₁ [] 0 0 := Stand.of_body Bd
  have e0 : s₁.heap = h0 := by rw [← hh, Bd.state]; rfl
  have N0 := Fr.nil n0
  show own_Go p.tables e below (own_Q s (fun v h L => v = some (.int 1) ∧ Fr n0 L) 16 128) (s₁.setTop (entryFrame m #[(.long q1), (.int p2), (.int p3), (.int p4), (.int p5)] maxLocals))
  rw [show entryFrame m #[(.long q1), (.int p2), (.int p3), (.int p4), (.int p5)] maxLocals = mkF m 0 #[.val (.long q1), .second, .val (.int p2), .val (.int p3), .val (.int p4), .val (.int p5), .unset, .unset, .unset, .unset, .unset] [] from by first | (simp [entryFrame, mkF, argsToLocals, Value.category, maxLocals]; done) | rfl]
  show own_Go _ _ _ _ (s₁.setTop (mkF m 0 #[.val (.long q1), .second, .val (.int p2), .val (.int p3), .val (.int p4), .val (.int p5), .unset, .unset, .unset, .unset, .unset] []))
  refine own_by (fun _ k => XS.iloadN X0.here hx rfl (hb hby at_0) rfl k) ?_
  show own_Go _ _ _ _ (s₁.setTop (mkF m 1 #[.val (.long q1), .second, .val (.int p2), .val (.int p3), .val (.int p4), .val (.int p5), .unset, .unset, .unset, .unset, .unset] [(.int p3)]))
  refine own_by (fun _ k => XS.i2b X0.here hx rfl (hb hby at_1) rfl k) ?_
  show own_Go _ _ _ _ (s₁.setTop (mkF m 2 #[.val (.long q1), .second, .val (.int p2), .val (.int p3), .val (.int p4), .val (.int p5), .unset, .unset, .unset, .unset, .unset] [(.int (p3.toInt8.toInt32))]))
  obtain ⟨v6_1, hv6_1⟩ : ∃ z_ : Int32, (p3.toInt8.toInt32) = z_ := ⟨_, rfl⟩
  refine own_gen hv6_1 (fun z_ => s₁.setTop (mkF m 2 #[.val (.long q1), .second, .val (.int p2), .val (.int p3), .val (.int p4), .val (.int p5), .unset, .unset, .unset, .unset, .unset] [(.int z_)])) ?_
  refine own_by (fun _ k => XS.istore X0.here hx rfl (hb hby at_2) rfl (l' := #[.val (.long q1), .second, .val (.int p2), .val (.int p3), .val (.int p4), .val (.int p5), .val (.int v6_1), .unset, .unset, .unset, .unset]) rfl k) ?_
  show own_Go _ _ _ _ (s₁.setTop (mkF m 4 #[.val (.long q1), .second, .val (.int p2), .val (.int p3), .val (.int p4), .val (.int p5), .val (.int v6_1), .unset, .unset, .unset, .unset] []))
  refine own_by (fun _ k => XS.iconst X0.here hx rfl (hb hby at_4) k) ?_
  show own_Go _ _ _ _ (s₁.setTop (mkF m 5 #[.val (.long q1), .second, .val (.int p2), .val (.int p3), .val (.int p4), .val (.int p5), .val (.int v6_1), .unset, .unset, .unset, .unset] [(.int (5 : Int32))]))
  refine own_newP X0 hx hZ (hw _ (List.mem_of_getElem? (i := 0) rfl)) e0 5 (by decide) 5 (by decide) (by decide) (by decide) (by decide) (hb hby at_5) ?_
  intro T2 h2 X2 e2 E2 A2
  show own_Go _ _ _ _ (T2.setTop (mkF m 7 #[.val (.long q1), .second, .val (.int p2), .val (.int p3), .val (.int p4), .val (.int p5), .val (.int v6_1), .unset, .unset, .unset, .unset] [.ref h0.size]))
  obtain ⟨b2, g2⟩ : ∃ z, z = h0.size := ⟨_, rfl⟩
  rw [← g2] at A2
  refine own_gen g2.symm (fun z_ => T2.setTop (mkF m 7 #[.val (.long q1), .second, .val (.int p2), .val (.int p3), .val (.int p4), .val (.int p5), .val (.int v6_1), .unset, .unset, .unset, .unset] [.ref z_])) ?_
  have ge2 : n0 ≤ b2 := Nat.le_trans Z0 (Nat.le_of_eq g2.symm)
  have Z2 := Nat.le_trans Z0 E2.1
  have f3 : own_AI Z h2 b2 .byte 5 (fun _ => 0) := A2
  show own_Go _ _ _ _ (T2.setTop (mkF m 7 #[.val (.long q1), .second, .val (.int p2), .val (.int p3), .val (.int p4), .val (.int p5), .val (.int v6_1), .unset, .unset, .unset, .unset] [(.ref b2)]))
  refine own_by (fun _ k => XS.astore X2.here hx rfl (hb hby at_7) rfl rfl (l' := #[.val (.long q1), .second, .val (.int p2), .val (.int p3), .val (.int p4), .val (.int p5), .val (.int v6_1), .val (.ref b2), .unset, .unset, .unset]) rfl k) ?_
  show own_Go _ _ _ _ (T2.setTop (mkF m 9 #[.val (.long q1), .second, .val (.int p2), .val (.int p3), .val (.int p4), .val (.int p5), .val (.int v6_1), .val (.ref b2), .unset, .unset, .unset] []))
  refine own_by (fun _ k => XS.aload X2.here hx rfl (hb hby at_9) rfl rfl k) ?_
  show own_Go _ _ _ _ (T2.setTop (mkF m 11 #[.val (.long q1), .second, .val (.int p2), .val (.int p3), .val (.int p4), .val (.int p5), .val (.int v6_1), .val (.ref b2), .unset, .unset, .unset] [(.ref b2)]))
  refine own_by (fun _ k => XS.iconst X2.here hx rfl (hb hby at_11) k) ?_
  show own_Go _ _ _ _ (T2.setTop (mkF m 12 #[.val (.long q1), .second, .val (.int p2), .val (.int p3), .val (.int p4), .val (.int p5), .val (.int v6_1), .val (.ref b2), .unset, .unset, .unset] [(.int (0 : Int32)), (.ref b2)]))
  refine own_by (fun _ k => XS.lloadN X2.here hx rfl (hb hby at_12) rfl k) ?_
  show own_Go _ _ _ _ (T2.setTop (mkF m 13 #[.val (.long q1), .second, .val (.int p2), .val (.int p3), .val (.int p4), .val (.int p5), .val (.int v6_1), .val (.ref b2), .unset, .unset, .unset] [(.long q1), (.int (0 : Int32)), (.ref b2)]))
  refine own_by (fun _ k => XS.iconst X2.here hx rfl (hb hby at_13) k) ?_
  show own_Go _ _ _ _ (T2.setTop (mkF m 14 #[.val (.long q1), .second, .val (.int p2), .val (.int p3), .val (.int p4), .val (.int p5), .val (.int v6_1), .val (.ref b2), .unset, .unset, .unset] [(.int (0 : Int32)), (.long q1), (.int (0 : Int32)), (.ref b2)]))
  refine own_by (fun _ k => XS.iloadN X2.here hx rfl (hb hby at_14) rfl k) ?_
  show own_Go _ _ _ _ (T2.setTop (mkF m 15 #[.val (.long q1), .second, .val (.int p2), .val (.int p3), .val (.int p4), .val (.int p5), .val (.int v6_1), .val (.ref b2), .unset, .unset, .unset] [(.int p2), (.int (0 : Int32)), (.long q1), (.int (0 : Int32)), (.ref b2)]))
  refine own_by (fun _ k => XS.iload X2.here hx rfl (hb hby at_15) rfl k) ?_
  show own_Go _ _ _ _ (T2.setTop (mkF m 17 #[.val (.long q1), .second, .val (.int p2), .val (.int p3), .val (.int p4), .val (.int p5), .val (.int v6_1), .val (.ref b2), .unset, .unset, .unset] [(.int v6_1), (.int p2), (.int (0 : Int32)), (.long q1), (.int (0 : Int32)), (.ref b2)]))
  obtain ⟨_, _, ⟨T4, L4, k4, n4⟩, -, X4, ⟨Lc4, hQ4, l4, y4, z4⟩, st4⟩ := Jvm.LawKit.callS X2 hx (y := (⟨"com/example/link_prestige/linkprestige/LinkLineLastIndexOfPinLaw", "pick", "(JIIB)B"⟩ : MethodName)) hown (mvT hZ (hw _ (List.mem_of_getElem? (i := 1) rfl))) (mvT hZ (hw _ (List.mem_of_getElem? (i := 2) rfl))) (mvT hZ (hw _ (List.mem_of_getElem? (i := 3) rfl))) (mvT hZ (hw _ (List.mem_of_getElem? (i := 4) rfl))) (by decide) (backOf (W := 2) (rm1 l Z a0 hw [] q1 (0 : Int32) p2 v6_1 h2 n0 Z2) hZ (hw _ (List.mem_of_getElem? (i := 4) rfl)) (hw _ (List.mem_of_getElem? (i := 3) rfl)) (by decide) (by decide)) (g := (mkF m 17 #[.val (.long q1), .second, .val (.int p2), .val (.int p3), .val (.int p4), .val (.int p5), .val (.int v6_1), .val (.ref b2), .unset, .unset, .unset] [(.int v6_1), (.int p2), (.int (0 : Int32)), (.long q1), (.int (0 : Int32)), (.ref b2)])) rfl (by rw [hml]; rfl) (argsL := [(.long q1), (.int (0 : Int32)), (.int p2), (.int v6_1)]) (rest := [(.int (0 : Int32)), (.ref b2)]) (lenOf own_pd0 rfl) rfl (by show 2 * 0 + _ ≤ _; exact Nat.le_of_eq rfl) (hb hby at_17) (fun _ _ => ⟨rfl, e2, Nat.le_of_ble_eq_true rfl, Nat.le_of_ble_eq_true rfl⟩)
  dsimp only [Pt.U, Pt.locs, Pt.cells, Pt.slots] at X4 l4 y4 z4 st4 hQ4
  subst l4 y4 z4
  obtain ⟨rfl, N4q, e4⟩ := hQ4
  have N4 := Fr.app N0 N4q
  refine own_by st4 ?_
  show own_Go _ _ _ _ (T4.setTop (mkF m 20 #[.val (.long q1), .second, .val (.int p2), .val (.int p3), .val (.int p4), .val (.int p5), .val (.int v6_1), .val (.ref b2), .unset, .unset, .unset] [(.int (own_pk q1 (0 : Int32) p2 v6_1)), (.int (0 : Int32)), (.ref b2)]))
  refine own_bas X4 hx hZ e4 f3 0 (by decide) (by decide) (hb hby at_20) ?_
  intro T5 h5 X5 e5 W5 A5
  have N5 := Fr.snoc X5 N4 ge2
  have Z5 := own_size_wr W5 Z2
  show own_Go _ _ _ _ (T5.setTop (mkF m 21 #[.val (.long q1), .second, .val (.int p2), .val (.int p3), .val (.int p4), .val (.int p5), .val (.int v6_1), .val (.ref b2), .unset, .unset, .unset] []))
  refine own_by (fun _ k => XS.aload X5.here hx rfl (hb hby at_21) rfl rfl k) ?_
  show own_Go _ _ _ _ (T5.setTop (mkF m 23 #[.val (.long q1), .second, .val (.int p2), .val (.int p3), .val (.int p4), .val (.int p5), .val (.int v6_1), .val (.ref b2), .unset, .unset, .unset] [(.ref b2)]))
  refine own_by (fun _ k => XS.iconst X5.here hx rfl (hb hby at_23) k) ?_
  show own_Go _ _ _ _ (T5.setTop (mkF m 24 #[.val (.long q1), .second, .val (.int p2), .val (.int p3), .val (.int p4), .val (.int p5), .val (.int v6_1), .val (.ref b2), .unset, .unset, .unset] [(.int (1 : Int32)), (.ref b2)]))
  refine own_by (fun _ k => XS.lloadN X5.here hx rfl (hb hby at_24) rfl k) ?_
  show own_Go _ _ _ _ (T5.setTop (mkF m 25 #[.val (.long q1), .second, .val (.int p2), .val (.int p3), .val (.int p4), .val (.int p5), .val (.int v6_1), .val (.ref b2), .unset, .unset, .unset] [(.long q1), (.int (1 : Int32)), (.ref b2)]))
  refine own_by (fun _ k => XS.iconst X5.here hx rfl (hb hby at_25) k) ?_
  show own_Go _ _ _ _ (T5.setTop (mkF m 26 #[.val (.long q1), .second, .val (.int p2), .val (.int p3), .val (.int p4), .val (.int p5), .val (.int v6_1), .val (.ref b2), .unset, .unset, .unset] [(.int (1 : Int32)), (.long q1), (.int (1 : Int32)), (.ref b2)]))
  refine own_by (fun _ k => XS.iloadN X5.here hx rfl (hb hby at_26) rfl k) ?_
  show own_Go _ _ _ _ (T5.setTop (mkF m 27 #[.val (.long q1), .second, .val (.int p2), .val (.int p3), .val (.int p4), .val (.int p5), .val (.int v6_1), .val (.ref b2), .unset, .unset, .unset] [(.int p2), (.int (1 : Int32)), (.long q1), (.int (1 : Int32)), (.ref b2)]))
  refine own_by (fun _ k => XS.iload X5.here hx rfl (hb hby at_27) rfl k) ?_
  show own_Go _ _ _ _ (T5.setTop (mkF m 29 #[.val (.long q1), .second, .val (.int p2), .val (.int p3), .val (.int p4), .val (.int p5), .val (.int v6_1), .val (.ref b2), .unset, .unset, .unset] [(.int v6_1), (.int p2), (.int (1 : Int32)), (.long q1), (.int (1 : Int32)), (.ref b2)]))
  obtain ⟨_, _, ⟨T6, L6, k6, n6⟩, -, X6, ⟨Lc6, hQ6, l6, y6, z6⟩, st6⟩ := Jvm.LawKit.callS X5 hx (y := (⟨"com/example/link_prestige/linkprestige/LinkLineLastIndexOfPinLaw", "pick", "(JIIB)B"⟩ : MethodName)) hown (mvT hZ (hw _ (List.mem_of_getElem? (i := 1) rfl))) (mvT hZ (hw _ (List.mem_of_getElem? (i := 2) rfl))) (mvT hZ (hw _ (List.mem_of_getElem? (i := 3) rfl))) (mvT hZ (hw _ (List.mem_of_getElem? (i := 4) rfl))) (by decide) (backOf (W := 2) (rm1 l Z a0 hw [] q1 (1 : Int32) p2 v6_1 h5 n0 Z5) hZ (hw _ (List.mem_of_getElem? (i := 4) rfl)) (hw _ (List.mem_of_getElem? (i := 3) rfl)) (by decide) (by decide)) (g := (mkF m 29 #[.val (.long q1), .second, .val (.int p2), .val (.int p3), .val (.int p4), .val (.int p5), .val (.int v6_1), .val (.ref b2), .unset, .unset, .unset] [(.int v6_1), (.int p2), (.int (1 : Int32)), (.long q1), (.int (1 : Int32)), (.ref b2)])) rfl (by rw [hml]; rfl) (argsL := [(.long q1), (.int (1 : Int32)), (.int p2), (.int v6_1)]) (rest := [(.int (1 : Int32)), (.ref b2)]) (lenOf own_pd0 rfl) rfl (by show 2 * 0 + _ ≤ _; exact Nat.le_of_eq rfl) (hb hby at_29) (fun _ _ => ⟨rfl, e5, Nat.le_of_ble_eq_true rfl, Nat.le_of_ble_eq_true rfl⟩)
  dsimp only [Pt.U, Pt.locs, Pt.cells, Pt.slots] at X6 l6 y6 z6 st6 hQ6
  subst l6 y6 z6
  obtain ⟨rfl, N6q, e6⟩ := hQ6
  have N6 := Fr.app N5 N6q
  refine own_by st6 ?_
  show own_Go _ _ _ _ (T6.setTop (mkF m 32 #[.val (.long q1), .second, .val (.int p2), .val (.int p3), .val (.int p4), .val (.int p5), .val (.int v6_1), .val (.ref b2), .unset, .unset, .unset] [(.int (own_pk q1 (1 : Int32) p2 v6_1)), (.int (1 : Int32)), (.ref b2)]))
  refine own_bas X6 hx hZ e6 A5 1 (by decide) (by decide) (hb hby at_32) ?_
  intro T7 h7 X7 e7 W7 A7
  have N7 := Fr.snoc X7 N6 ge2
  have Z7 := own_size_wr W7 Z5
  show own_Go _ _ _ _ (T7.setTop (mkF m 33 #[.val (.long q1), .second, .val (.int p2), .val (.int p3), .val (.int p4), .val (.int p5), .val (.int v6_1), .val (.ref b2), .unset, .unset, .unset] []))
  refine own_by (fun _ k => XS.aload X7.here hx rfl (hb hby at_33) rfl rfl k) ?_
  show own_Go _ _ _ _ (T7.setTop (mkF m 35 #[.val (.long q1), .second, .val (.int p2), .val (.int p3), .val (.int p4), .val (.int p5), .val (.int v6_1), .val (.ref b2), .unset, .unset, .unset] [(.ref b2)]))
  refine own_by (fun _ k => XS.iconst X7.here hx rfl (hb hby at_35) k) ?_
  show own_Go _ _ _ _ (T7.setTop (mkF m 36 #[.val (.long q1), .second, .val (.int p2), .val (.int p3), .val (.int p4), .val (.int p5), .val (.int v6_1), .val (.ref b2), .unset, .unset, .unset] [(.int (2 : Int32)), (.ref b2)]))
  refine own_by (fun _ k => XS.lloadN X7.here hx rfl (hb hby at_36) rfl k) ?_
  show own_Go _ _ _ _ (T7.setTop (mkF m 37 #[.val (.long q1), .second, .val (.int p2), .val (.int p3), .val (.int p4), .val (.int p5), .val (.int v6_1), .val (.ref b2), .unset, .unset, .unset] [(.long q1), (.int (2 : Int32)), (.ref b2)]))
  refine own_by (fun _ k => XS.iconst X7.here hx rfl (hb hby at_37) k) ?_
  show own_Go _ _ _ _ (T7.setTop (mkF m 38 #[.val (.long q1), .second, .val (.int p2), .val (.int p3), .val (.int p4), .val (.int p5), .val (.int v6_1), .val (.ref b2), .unset, .unset, .unset] [(.int (2 : Int32)), (.long q1), (.int (2 : Int32)), (.ref b2)]))
  refine own_by (fun _ k => XS.iloadN X7.here hx rfl (hb hby at_38) rfl k) ?_
  show own_Go _ _ _ _ (T7.setTop (mkF m 39 #[.val (.long q1), .second, .val (.int p2), .val (.int p3), .val (.int p4), .val (.int p5), .val (.int v6_1), .val (.ref b2), .unset, .unset, .unset] [(.int p2), (.int (2 : Int32)), (.long q1), (.int (2 : Int32)), (.ref b2)]))
  refine own_by (fun _ k => XS.iload X7.here hx rfl (hb hby at_39) rfl k) ?_
  show own_Go _ _ _ _ (T7.setTop (mkF m 41 #[.val (.long q1), .second, .val (.int p2), .val (.int p3), .val (.int p4), .val (.int p5), .val (.int v6_1), .val (.ref b2), .unset, .unset, .unset] [(.int v6_1), (.int p2), (.int (2 : Int32)), (.long q1), (.int (2 : Int32)), (.ref b2)]))
  obtain ⟨_, _, ⟨T8, L8, k8, n8⟩, -, X8, ⟨Lc8, hQ8, l8, y8, z8⟩, st8⟩ := Jvm.LawKit.callS X7 hx (y := (⟨"com/example/link_prestige/linkprestige/LinkLineLastIndexOfPinLaw", "pick", "(JIIB)B"⟩ : MethodName)) hown (mvT hZ (hw _ (List.mem_of_getElem? (i := 1) rfl))) (mvT hZ (hw _ (List.mem_of_getElem? (i := 2) rfl))) (mvT hZ (hw _ (List.mem_of_getElem? (i := 3) rfl))) (mvT hZ (hw _ (List.mem_of_getElem? (i := 4) rfl))) (by decide) (backOf (W := 2) (rm1 l Z a0 hw [] q1 (2 : Int32) p2 v6_1 h7 n0 Z7) hZ (hw _ (List.mem_of_getElem? (i := 4) rfl)) (hw _ (List.mem_of_getElem? (i := 3) rfl)) (by decide) (by decide)) (g := (mkF m 41 #[.val (.long q1), .second, .val (.int p2), .val (.int p3), .val (.int p4), .val (.int p5), .val (.int v6_1), .val (.ref b2), .unset, .unset, .unset] [(.int v6_1), (.int p2), (.int (2 : Int32)), (.long q1), (.int (2 : Int32)), (.ref b2)])) rfl (by rw [hml]; rfl) (argsL := [(.long q1), (.int (2 : Int32)), (.int p2), (.int v6_1)]) (rest := [(.int (2 : Int32)), (.ref b2)]) (lenOf own_pd0 rfl) rfl (by show 2 * 0 + _ ≤ _; exact Nat.le_of_eq rfl) (hb hby at_41) (fun _ _ => ⟨rfl, e7, Nat.le_of_ble_eq_true rfl, Nat.le_of_ble_eq_true rfl⟩)
  dsimp only [Pt.U, Pt.locs, Pt.cells, Pt.slots] at X8 l8 y8 z8 st8 hQ8
  subst l8 y8 z8
  obtain ⟨rfl, N8q, e8⟩ := hQ8
  have N8 := Fr.app N7 N8q
  refine own_by st8 ?_
  show own_Go _ _ _ _ (T8.setTop (mkF m 44 #[.val (.long q1), .second, .val (.int p2), .val (.int p3), .val (.int p4), .val (.int p5), .val (.int v6_1), .val (.ref b2), .unset, .unset, .unset] [(.int (own_pk q1 (2 : Int32) p2 v6_1)), (.int (2 : Int32)), (.ref b2)]))
  refine own_bas X8 hx hZ e8 A7 2 (by decide) (by decide) (hb hby at_44) ?_
  intro T9 h9 X9 e9 W9 A9
  have N9 := Fr.snoc X9 N8 ge2
  have Z9 := own_size_wr W9 Z7
  show own_Go _ _ _ _ (T9.setTop (mkF m 45 #[.val (.long q1), .second, .val (.int p2), .val (.int p3), .val (.int p4), .val (.int p5), .val (.int v6_1), .val (.ref b2), .unset, .unset, .unset] []))
  refine own_by (fun _ k => XS.aload X9.here hx rfl (hb hby at_45) rfl rfl k) ?_
  show own_Go _ _ _ _ (T9.setTop (mkF m 47 #[.val (.long q1), .second, .val (.int p2), .val (.int p3), .val (.int p4), .val (.int p5), .val (.int v6_1), .val (.ref b2), .unset, .unset, .unset] [(.ref b2)]))
  refine own_by (fun _ k => XS.iconst X9.here hx rfl (hb hby at_47) k) ?_
  show own_Go _ _ _ _ (T9.setTop (mkF m 48 #[.val (.long q1), .second, .val (.int p2), .val (.int p3), .val (.int p4), .val (.int p5), .val (.int v6_1), .val (.ref b2), .unset, .unset, .unset] [(.int (3 : Int32)), (.ref b2)]))
  refine own_by (fun _ k => XS.lloadN X9.here hx rfl (hb hby at_48) rfl k) ?_
  show own_Go _ _ _ _ (T9.setTop (mkF m 49 #[.val (.long q1), .second, .val (.int p2), .val (.int p3), .val (.int p4), .val (.int p5), .val (.int v6_1), .val (.ref b2), .unset, .unset, .unset] [(.long q1), (.int (3 : Int32)), (.ref b2)]))
  refine own_by (fun _ k => XS.iconst X9.here hx rfl (hb hby at_49) k) ?_
  show own_Go _ _ _ _ (T9.setTop (mkF m 50 #[.val (.long q1), .second, .val (.int p2), .val (.int p3), .val (.int p4), .val (.int p5), .val (.int v6_1), .val (.ref b2), .unset, .unset, .unset] [(.int (3 : Int32)), (.long q1), (.int (3 : Int32)), (.ref b2)]))
  refine own_by (fun _ k => XS.iloadN X9.here hx rfl (hb hby at_50) rfl k) ?_
  show own_Go _ _ _ _ (T9.setTop (mkF m 51 #[.val (.long q1), .second, .val (.int p2), .val (.int p3), .val (.int p4), .val (.int p5), .val (.int v6_1), .val (.ref b2), .unset, .unset, .unset] [(.int p2), (.int (3 : Int32)), (.long q1), (.int (3 : Int32)), (.ref b2)]))
  refine own_by (fun _ k => XS.iload X9.here hx rfl (hb hby at_51) rfl k) ?_
  show own_Go _ _ _ _ (T9.setTop (mkF m 53 #[.val (.long q1), .second, .val (.int p2), .val (.int p3), .val (.int p4), .val (.int p5), .val (.int v6_1), .val (.ref b2), .unset, .unset, .unset] [(.int v6_1), (.int p2), (.int (3 : Int32)), (.long q1), (.int (3 : Int32)), (.ref b2)]))
  obtain ⟨_, _, ⟨T10, L10, k10, n10⟩, -, X10, ⟨Lc10, hQ10, l10, y10, z10⟩, st10⟩ := Jvm.LawKit.callS X9 hx (y := (⟨"com/example/link_prestige/linkprestige/LinkLineLastIndexOfPinLaw", "pick", "(JIIB)B"⟩ : MethodName)) hown (mvT hZ (hw _ (List.mem_of_getElem? (i := 1) rfl))) (mvT hZ (hw _ (List.mem_of_getElem? (i := 2) rfl))) (mvT hZ (hw _ (List.mem_of_getElem? (i := 3) rfl))) (mvT hZ (hw _ (List.mem_of_getElem? (i := 4) rfl))) (by decide) (backOf (W := 2) (rm1 l Z a0 hw [] q1 (3 : Int32) p2 v6_1 h9 n0 Z9) hZ (hw _ (List.mem_of_getElem? (i := 4) rfl)) (hw _ (List.mem_of_getElem? (i := 3) rfl)) (by decide) (by decide)) (g := (mkF m 53 #[.val (.long q1), .second, .val (.int p2), .val (.int p3), .val (.int p4), .val (.int p5), .val (.int v6_1), .val (.ref b2), .unset, .unset, .unset] [(.int v6_1), (.int p2), (.int (3 : Int32)), (.long q1), (.int (3 : Int32)), (.ref b2)])) rfl (by rw [hml]; rfl) (argsL := [(.long q1), (.int (3 : Int32)), (.int p2), (.int v6_1)]) (rest := [(.int (3 : Int32)), (.ref b2)]) (lenOf own_pd0 rfl) rfl (by show 2 * 0 + _ ≤ _; exact Nat.le_of_eq rfl) (hb hby at_53) (fun _ _ => ⟨rfl, e9, Nat.le_of_ble_eq_true rfl, Nat.le_of_ble_eq_true rfl⟩)
  dsimp only [Pt.U, Pt.locs, Pt.cells, Pt.slots] at X10 l10 y10 z10 st10 hQ10
  subst l10 y10 z10
  obtain ⟨rfl, N10q, e10⟩ := hQ10
  have N10 := Fr.app N9 N10q
  refine own_by st10 ?_
  show own_Go _ _ _ _ (T10.setTop (mkF m 56 #[.val (.long q1), .second, .val (.int p2), .val (.int p3), .val (.int p4), .val (.int p5), .val (.int v6_1), .val (.ref b2), .unset, .unset, .unset] [(.int (own_pk q1 (3 : Int32) p2 v6_1)), (.int (3 : Int32)), (.ref b2)]))
  refine own_bas X10 hx hZ e10 A9 3 (by decide) (by decide) (hb hby at_56) ?_
  intro T11 h11 X11 e11 W11 A11
  have N11 := Fr.snoc X11 N10 ge2
  have Z11 := own_size_wr W11 Z9
  show own_Go _ _ _ _ (T11.setTop (mkF m 57 #[.val (.long q1), .second, .val (.int p2), .val (.int p3), .val (.int p4), .val (.int p5), .val (.int v6_1), .val (.ref b2), .unset, .unset, .unset] []))
  refine own_by (fun _ k => XS.aload X11.here hx rfl (hb hby at_57) rfl rfl k) ?_
  show own_Go _ _ _ _ (T11.setTop (mkF m 59 #[.val (.long q1), .second, .val (.int p2), .val (.int p3), .val (.int p4), .val (.int p5), .val (.int v6_1), .val (.ref b2), .unset, .unset, .unset] [(.ref b2)]))
  refine own_by (fun _ k => XS.iconst X11.here hx rfl (hb hby at_59) k) ?_
  show own_Go _ _ _ _ (T11.setTop (mkF m 60 #[.val (.long q1), .second, .val (.int p2), .val (.int p3), .val (.int p4), .val (.int p5), .val (.int v6_1), .val (.ref b2), .unset, .unset, .unset] [(.int (4 : Int32)), (.ref b2)]))
  refine own_by (fun _ k => XS.lloadN X11.here hx rfl (hb hby at_60) rfl k) ?_
  show own_Go _ _ _ _ (T11.setTop (mkF m 61 #[.val (.long q1), .second, .val (.int p2), .val (.int p3), .val (.int p4), .val (.int p5), .val (.int v6_1), .val (.ref b2), .unset, .unset, .unset] [(.long q1), (.int (4 : Int32)), (.ref b2)]))
  refine own_by (fun _ k => XS.iconst X11.here hx rfl (hb hby at_61) k) ?_
  show own_Go _ _ _ _ (T11.setTop (mkF m 62 #[.val (.long q1), .second, .val (.int p2), .val (.int p3), .val (.int p4), .val (.int p5), .val (.int v6_1), .val (.ref b2), .unset, .unset, .unset] [(.int (4 : Int32)), (.long q1), (.int (4 : Int32)), (.ref b2)]))
  refine own_by (fun _ k => XS.iloadN X11.here hx rfl (hb hby at_62) rfl k) ?_
  show own_Go _ _ _ _ (T11.setTop (mkF m 63 #[.val (.long q1), .second, .val (.int p2), .val (.int p3), .val (.int p4), .val (.int p5), .val (.int v6_1), .val (.ref b2), .unset, .unset, .unset] [(.int p2), (.int (4 : Int32)), (.long q1), (.int (4 : Int32)), (.ref b2)]))
  refine own_by (fun _ k => XS.iload X11.here hx rfl (hb hby at_63) rfl k) ?_
  show own_Go _ _ _ _ (T11.setTop (mkF m 65 #[.val (.long q1), .second, .val (.int p2), .val (.int p3), .val (.int p4), .val (.int p5), .val (.int v6_1), .val (.ref b2), .unset, .unset, .unset] [(.int v6_1), (.int p2), (.int (4 : Int32)), (.long q1), (.int (4 : Int32)), (.ref b2)]))
  obtain ⟨_, _, ⟨T12, L12, k12, n12⟩, -, X12, ⟨Lc12, hQ12, l12, y12, z12⟩, st12⟩ := Jvm.LawKit.callS X11 hx (y := (⟨"com/example/link_prestige/linkprestige/LinkLineLastIndexOfPinLaw", "pick", "(JIIB)B"⟩ : MethodName)) hown (mvT hZ (hw _ (List.mem_of_getElem? (i := 1) rfl))) (mvT hZ (hw _ (List.mem_of_getElem? (i := 2) rfl))) (mvT hZ (hw _ (List.mem_of_getElem? (i := 3) rfl))) (mvT hZ (hw _ (List.mem_of_getElem? (i := 4) rfl))) (by decide) (backOf (W := 2) (rm1 l Z a0 hw [] q1 (4 : Int32) p2 v6_1 h11 n0 Z11) hZ (hw _ (List.mem_of_getElem? (i := 4) rfl)) (hw _ (List.mem_of_getElem? (i := 3) rfl)) (by decide) (by decide)) (g := (mkF m 65 #[.val (.long q1), .second, .val (.int p2), .val (.int p3), .val (.int p4), .val (.int p5), .val (.int v6_1), .val (.ref b2), .unset, .unset, .unset] [(.int v6_1), (.int p2), (.int (4 : Int32)), (.long q1), (.int (4 : Int32)), (.ref b2)])) rfl (by rw [hml]; rfl) (argsL := [(.long q1), (.int (4 : Int32)), (.int p2), (.int v6_1)]) (rest := [(.int (4 : Int32)), (.ref b2)]) (lenOf own_pd0 rfl) rfl (by show 2 * 0 + _ ≤ _; exact Nat.le_of_eq rfl) (hb hby at_65) (fun _ _ => ⟨rfl, e11, Nat.le_of_ble_eq_true rfl, Nat.le_of_ble_eq_true rfl⟩)
  dsimp only [Pt.U, Pt.locs, Pt.cells, Pt.slots] at X12 l12 y12 z12 st12 hQ12
  subst l12 y12 z12
  obtain ⟨rfl, N12q, e12⟩ := hQ12
  have N12 := Fr.app N11 N12q
  refine own_by st12 ?_
  show own_Go _ _ _ _ (T12.setTop (mkF m 68 #[.val (.long q1), .second, .val (.int p2), .val (.int p3), .val (.int p4), .val (.int p5), .val (.int v6_1), .val (.ref b2), .unset, .unset, .unset] [(.int (own_pk q1 (4 : Int32) p2 v6_1)), (.int (4 : Int32)), (.ref b2)]))
  refine own_bas X12 hx hZ e12 A11 4 (by decide) (by decide) (hb hby at_68) ?_
  intro T13 h13 X13 e13 W13 A13
  have N13 := Fr.snoc X13 N12 ge2
  have Z13 := own_size_wr W13 Z11
  show own_Go _ _ _ _ (T13.setTop (mkF m 69 #[.val (.long q1), .second, .val (.int p2), .val (.int p3), .val (.int p4), .val (.int p5), .val (.int v6_1), .val (.ref b2), .unset, .unset, .unset] []))
  refine own_by (fun _ k => XS.iload X13.here hx rfl (hb hby at_69) rfl k) ?_
  show own_Go _ _ _ _ (T13.setTop (mkF m 71 #[.val (.long q1), .second, .val (.int p2), .val (.int p3), .val (.int p4), .val (.int p5), .val (.int v6_1), .val (.ref b2), .unset, .unset, .unset] [(.int p4)]))
  refine own_by (fun _ k => X13.ldcInt hx hown (mvT hZ (hw _ (List.mem_of_getElem? (i := 5) rfl))) (g := (mkF m 71 #[.val (.long q1), .second, .val (.int p2), .val (.int p3), .val (.int p4), .val (.int p5), .val (.int v6_1), .val (.ref b2), .unset, .unset, .unset] [(.int p4)])) rfl (hb hby at_71) _ k) ?_
  show own_Go _ _ _ _ (T13.setTop (mkF m 73 #[.val (.long q1), .second, .val (.int p2), .val (.int p3), .val (.int p4), .val (.int p5), .val (.int v6_1), .val (.ref b2), .unset, .unset, .unset] [(.int (2147483647 : Int32)), (.int p4)]))
  refine own_by (fun _ k => XS.iand X13.here hx rfl (hb hby at_73) rfl k) ?_
  show own_Go _ _ _ _ (T13.setTop (mkF m 74 #[.val (.long q1), .second, .val (.int p2), .val (.int p3), .val (.int p4), .val (.int p5), .val (.int v6_1), .val (.ref b2), .unset, .unset, .unset] [(.int (p4 &&& (2147483647 : Int32)))]))
  refine own_by (fun _ k => XS.bipush X13.here hx rfl (hb hby at_74) k) ?_
  show own_Go _ _ _ _ (T13.setTop (mkF m 76 #[.val (.long q1), .second, .val (.int p2), .val (.int p3), .val (.int p4), .val (.int p5), .val (.int v6_1), .val (.ref b2), .unset, .unset, .unset] [(.int (6 : Int32)), (.int (p4 &&& (2147483647 : Int32)))]))
  refine own_by (fun _ k => iremM X13 hx rfl (hb hby at_76) rfl (by decide) k) ?_
  show own_Go _ _ _ _ (T13.setTop (mkF m 77 #[.val (.long q1), .second, .val (.int p2), .val (.int p3), .val (.int p4), .val (.int p5), .val (.int v6_1), .val (.ref b2), .unset, .unset, .unset] [(.int ((p4 &&& (2147483647 : Int32)) % (6 : Int32)))]))
  obtain ⟨v8_14, hv8_14⟩ : ∃ z_ : Int32, ((p4 &&& (2147483647 : Int32)) % (6 : Int32)) = z_ := ⟨_, rfl⟩
  refine own_gen hv8_14 (fun z_ => T13.setTop (mkF m 77 #[.val (.long q1), .second, .val (.int p2), .val (.int p3), .val (.int p4), .val (.int p5), .val (.int v6_1), .val (.ref b2), .unset, .unset, .unset] [(.int z_)])) ?_
  refine own_by (fun _ k => XS.istore X13.here hx rfl (hb hby at_77) rfl (l' := #[.val (.long q1), .second, .val (.int p2), .val (.int p3), .val (.int p4), .val (.int p5), .val (.int v6_1), .val (.ref b2), .val (.int v8_14), .unset, .unset]) rfl k) ?_
  show own_Go _ _ _ _ (T13.setTop (mkF m 79 #[.val (.long q1), .second, .val (.int p2), .val (.int p3), .val (.int p4), .val (.int p5), .val (.int v6_1), .val (.ref b2), .val (.int v8_14), .unset, .unset] []))
  refine own_by (fun _ k => XS.iload X13.here hx rfl (hb hby at_79) rfl k) ?_
  show own_Go _ _ _ _ (T13.setTop (mkF m 81 #[.val (.long q1), .second, .val (.int p2), .val (.int p3), .val (.int p4), .val (.int p5), .val (.int v6_1), .val (.ref b2), .val (.int v8_14), .unset, .unset] [(.int p5)]))
  refine own_by (fun _ k => X13.ldcInt hx hown (mvT hZ (hw _ (List.mem_of_getElem? (i := 5) rfl))) (g := (mkF m 81 #[.val (.long q1), .second, .val (.int p2), .val (.int p3), .val (.int p4), .val (.int p5), .val (.int v6_1), .val (.ref b2), .val (.int v8_14), .unset, .unset] [(.int p5)])) rfl (hb hby at_81) _ k) ?_
  show own_Go _ _ _ _ (T13.setTop (mkF m 83 #[.val (.long q1), .second, .val (.int p2), .val (.int p3), .val (.int p4), .val (.int p5), .val (.int v6_1), .val (.ref b2), .val (.int v8_14), .unset, .unset] [(.int (2147483647 : Int32)), (.int p5)]))
  refine own_by (fun _ k => XS.iand X13.here hx rfl (hb hby at_83) rfl k) ?_
  show own_Go _ _ _ _ (T13.setTop (mkF m 84 #[.val (.long q1), .second, .val (.int p2), .val (.int p3), .val (.int p4), .val (.int p5), .val (.int v6_1), .val (.ref b2), .val (.int v8_14), .unset, .unset] [(.int (p5 &&& (2147483647 : Int32)))]))
  refine own_by (fun _ k => XS.bipush X13.here hx rfl (hb hby at_84) k) ?_
  show own_Go _ _ _ _ (T13.setTop (mkF m 86 #[.val (.long q1), .second, .val (.int p2), .val (.int p3), .val (.int p4), .val (.int p5), .val (.int v6_1), .val (.ref b2), .val (.int v8_14), .unset, .unset] [(.int (6 : Int32)), (.int (p5 &&& (2147483647 : Int32)))]))
  refine own_by (fun _ k => iremM X13 hx rfl (hb hby at_86) rfl (by decide) k) ?_
  show own_Go _ _ _ _ (T13.setTop (mkF m 87 #[.val (.long q1), .second, .val (.int p2), .val (.int p3), .val (.int p4), .val (.int p5), .val (.int v6_1), .val (.ref b2), .val (.int v8_14), .unset, .unset] [(.int ((p5 &&& (2147483647 : Int32)) % (6 : Int32)))]))
  obtain ⟨v9_15, hv9_15⟩ : ∃ z_ : Int32, ((p5 &&& (2147483647 : Int32)) % (6 : Int32)) = z_ := ⟨_, rfl⟩
  refine own_gen hv9_15 (fun z_ => T13.setTop (mkF m 87 #[.val (.long q1), .second, .val (.int p2), .val (.int p3), .val (.int p4), .val (.int p5), .val (.int v6_1), .val (.ref b2), .val (.int v8_14), .unset, .unset] [(.int z_)])) ?_
  refine own_by (fun _ k => XS.istore X13.here hx rfl (hb hby at_87) rfl (l' := #[.val (.long q1), .second, .val (.int p2), .val (.int p3), .val (.int p4), .val (.int p5), .val (.int v6_1), .val (.ref b2), .val (.int v8_14), .val (.int v9_15), .unset]) rfl k) ?_
  show own_Go _ _ _ _ (T13.setTop (mkF m 89 #[.val (.long q1), .second, .val (.int p2), .val (.int p3), .val (.int p4), .val (.int p5), .val (.int v6_1), .val (.ref b2), .val (.int v8_14), .val (.int v9_15), .unset] []))
  refine own_by (fun _ k => XS.iconst X13.here hx rfl (hb hby at_89) k) ?_
  show own_Go _ _ _ _ (T13.setTop (mkF m 90 #[.val (.long q1), .second, .val (.int p2), .val (.int p3), .val (.int p4), .val (.int p5), .val (.int v6_1), .val (.ref b2), .val (.int v8_14), .val (.int v9_15), .unset] [(.int (-1 : Int32))]))
  refine own_by (fun _ k => XS.istore X13.here hx rfl (hb hby at_90) rfl (l' := #[.val (.long q1), .second, .val (.int p2), .val (.int p3), .val (.int p4), .val (.int p5), .val (.int v6_1), .val (.ref b2), .val (.int v8_14), .val (.int v9_15), .val (.int (-1 : Int32))]) rfl k) ?_
  obtain ⟨ff, hff⟩ : ∃ g, g = (own_upd (own_upd (own_upd (own_upd (own_upd (fun _ => 0) 0 (nar .byte (own_pk q1 (0 : Int32) p2 v6_1))) 1 (nar .byte (own_pk q1 (1 : Int32) p2 v6_1))) 2 (nar .byte (own_pk q1 (2 : Int32) p2 v6_1))) 3 (nar .byte (own_pk q1 (3 : Int32) p2 v6_1))) 4 (nar .byte (own_pk q1 (4 : Int32) p2 v6_1))) := ⟨_, rfl⟩
  rw [← hff] at A13
  obtain ⟨F, hF5, hF⟩ := own_rem6 _ _ hv8_14
  obtain ⟨E, hE5, hE⟩ := own_rem6 _ _ hv9_15
  have t0 : (-1 : Int32) = own_exp ff v6_1 F E 0 := rfl
  show own_Go _ _ _ _ (T13.setTop (mkF m 92 #[.val (.long q1), .second, .val (.int p2), .val (.int p3), .val (.int p4), .val (.int p5), .val (.int v6_1), .val (.ref b2), .val (.int v8_14), .val (.int v9_15), .val (.int (-1 : Int32))] []))
  refine own_by (fun _ k => XS.aload X13.here hx rfl (hb hby at_92) rfl rfl k) ?_
  show own_Go _ _ _ _ (T13.setTop (mkF m 94 #[.val (.long q1), .second, .val (.int p2), .val (.int p3), .val (.int p4), .val (.int p5), .val (.int v6_1), .val (.ref b2), .val (.int v8_14), .val (.int v9_15), .val (.int (-1 : Int32))] [(.ref b2)]))
  refine own_by (fun _ k => XS.iconst X13.here hx rfl (hb hby at_94) k) ?_
  show own_Go _ _ _ _ (T13.setTop (mkF m 95 #[.val (.long q1), .second, .val (.int p2), .val (.int p3), .val (.int p4), .val (.int p5), .val (.int v6_1), .val (.ref b2), .val (.int v8_14), .val (.int v9_15), .val (.int (-1 : Int32))] [(.int (0 : Int32)), (.ref b2)]))
  refine own_by (fun _ k => XS.iload X13.here hx rfl (hb hby at_95) rfl k) ?_
  show own_Go _ _ _ _ (T13.setTop (mkF m 97 #[.val (.long q1), .second, .val (.int p2), .val (.int p3), .val (.int p4), .val (.int p5), .val (.int v6_1), .val (.ref b2), .val (.int v8_14), .val (.int v9_15), .val (.int (-1 : Int32))] [(.int v8_14), (.int (0 : Int32)), (.ref b2)]))
  refine own_by (fun _ k => XS.iload X13.here hx rfl (hb hby at_97) rfl k) ?_
  show own_Go _ _ _ _ (T13.setTop (mkF m 99 #[.val (.long q1), .second, .val (.int p2), .val (.int p3), .val (.int p4), .val (.int p5), .val (.int v6_1), .val (.ref b2), .val (.int v8_14), .val (.int v9_15), .val (.int (-1 : Int32))] [(.int v9_15), (.int v8_14), (.int (0 : Int32)), (.ref b2)]))
  refine own_by (fun _ k => XS.iload X13.here hx rfl (hb hby at_99) rfl k) ?_
  show own_Go _ _ _ _ (T13.setTop (mkF m 101 #[.val (.long q1), .second, .val (.int p2), .val (.int p3), .val (.int p4), .val (.int p5), .val (.int v6_1), .val (.ref b2), .val (.int v8_14), .val (.int v9_15), .val (.int (-1 : Int32))] [(.int v6_1), (.int v9_15), (.int v8_14), (.int (0 : Int32)), (.ref b2)]))
  obtain ⟨_, _, ⟨T16, L16, k16, n16⟩, -, X16, ⟨Lc16, hQ16, l16, y16, z16⟩, st16⟩ := Jvm.LawKit.callS X13 hx (y := (⟨"com/example/link_prestige/linkprestige/LinkLineLastIndexOfPinLaw", "hit", "([BIIIB)Z"⟩ : MethodName)) hown (mvT hZ (hw _ (List.mem_of_getElem? (i := 6) rfl))) (mvT hZ (hw _ (List.mem_of_getElem? (i := 7) rfl))) (mvT hZ (hw _ (List.mem_of_getElem? (i := 3) rfl))) (mvT hZ (hw _ (List.mem_of_getElem? (i := 8) rfl))) (by decide) (backOf (W := 0) (rm2 l Z a0 hw [] b2 (0 : Int32) v8_14 v9_15 v6_1 ff 0 h13 n0 Z13 A13 (by decide) (by decide)) hZ (hw _ (List.mem_of_getElem? (i := 8) rfl)) (hw _ (List.mem_of_getElem? (i := 3) rfl)) (by decide) (by decide)) (g := (mkF m 101 #[.val (.long q1), .second, .val (.int p2), .val (.int p3), .val (.int p4), .val (.int p5), .val (.int v6_1), .val (.ref b2), .val (.int v8_14), .val (.int v9_15), .val (.int (-1 : Int32))] [(.int v6_1), (.int v9_15), (.int v8_14), (.int (0 : Int32)), (.ref b2)])) rfl (by rw [hml]; rfl) (argsL := [(.ref b2), (.int (0 : Int32)), (.int v8_14), (.int v9_15), (.int v6_1)]) (rest := []) (lenOf own_pd1 rfl) rfl (by show 2 * 0 + _ ≤ _; exact Nat.le_of_eq rfl) (hb hby at_101) (fun _ _ => ⟨rfl, e13, Nat.le_of_ble_eq_true rfl, Nat.le_of_ble_eq_true rfl⟩)
  dsimp only [Pt.U, Pt.locs, Pt.cells, Pt.slots] at X16 l16 y16 z16 st16 hQ16
  subst l16 y16 z16
  obtain ⟨rfl, N16q, e16⟩ := hQ16
  have N16 := Fr.app N13 N16q
  refine own_by st16 ?_
  obtain ⟨z17, hz17⟩ : ∃ z_ : Int32, (own_hit ff 0 (0 : Int32) v8_14 v9_15 v6_1) = z_ := ⟨_, rfl⟩
  refine own_gen hz17 (fun z_ => T16.setTop (mkF m 104 #[.val (.long q1), .second, .val (.int p2), .val (.int p3), .val (.int p4), .val (.int p5), .val (.int v6_1), .val (.ref b2), .val (.int v8_14), .val (.int v9_15), .val (.int (-1 : Int32))] [(.int z_)])) ?_
  refine own_by (V := T16.setTop (mkF m 110 #[.val (.long q1), .second, .val (.int p2), .val (.int p3), .val (.int p4), .val (.int p5), .val (.int v6_1), .val (.ref b2), .val (.int v8_14), .val (.int v9_15), .val (.int (if z17 = (0 : Int32) then (-1 : Int32) else (0 : Int32)))] [])) (fun _ kk => ?_) ?_
  · --
    show Steps _ _ _ (T16.setTop (mkF m 104 #[.val (.long q1), .second, .val (.int p2), .val (.int p3), .val (.int p4), .val (.int p5), .val (.int v6_1), .val (.ref b2), .val (.int v8_14), .val (.int v9_15), .val (.int (-1 : Int32))] [(.int z17)])) _
    by_cases hc18 : z17 = (0 : Int32)
    · --
      refine XS.ifYes X16.here hx rfl (pc0 := 104) (pc' := 110) rfl (hb hby at_104) rfl ((if0 _ _).trans (teq hc18).1) (by decide) (by decide) ?_
      show Steps _ _ _ (T16.setTop (mkF m 110 #[.val (.long q1), .second, .val (.int p2), .val (.int p3), .val (.int p4), .val (.int p5), .val (.int v6_1), .val (.ref b2), .val (.int v8_14), .val (.int v9_15), .val (.int (-1 : Int32))] [])) _
      simp only [if_pos hc18] at kk
      exact kk
    · --
      refine XS.ifNo X16.here hx rfl (hb hby at_104) rfl ((if0 _ _).trans (feq hc18).1) ?_
      show Steps _ _ _ (T16.setTop (mkF m 107 #[.val (.long q1), .second, .val (.int p2), .val (.int p3), .val (.int p4), .val (.int p5), .val (.int v6_1), .val (.ref b2), .val (.int v8_14), .val (.int v9_15), .val (.int (-1 : Int32))] [])) _
      refine XS.iconst X16.here hx rfl (hb hby at_107) ?_
      show Steps _ _ _ (T16.setTop (mkF m 108 #[.val (.long q1), .second, .val (.int p2), .val (.int p3), .val (.int p4), .val (.int p5), .val (.int v6_1), .val (.ref b2), .val (.int v8_14), .val (.int v9_15), .val (.int (-1 : Int32))] [(.int (0 : Int32))])) _
      refine XS.istore X16.here hx rfl (hb hby at_108) rfl (l' := #[.val (.long q1), .second, .val (.int p2), .val (.int p3), .val (.int p4), .val (.int p5), .val (.int v6_1), .val (.ref b2), .val (.int v8_14), .val (.int v9_15), .val (.int (0 : Int32))]) rfl ?_
      show Steps _ _ _ (T16.setTop (mkF m 110 #[.val (.long q1), .second, .val (.int p2), .val (.int p3), .val (.int p4), .val (.int p5), .val (.int v6_1), .val (.ref b2), .val (.int v8_14), .val (.int v9_15), .val (.int (0 : Int32))] [])) _
      simp only [if_neg hc18] at kk
      exact kk
  obtain ⟨m19, hm19⟩ : ∃ z_ : Int32, (if z17 = (0 : Int32) then (-1 : Int32) else (0 : Int32)) = z_ := ⟨_, rfl⟩
  refine own_gen hm19 (fun z_ => T16.setTop (mkF m 110 #[.val (.long q1), .second, .val (.int p2), .val (.int p3), .val (.int p4), .val (.int p5), .val (.int v6_1), .val (.ref b2), .val (.int v8_14), .val (.int v9_15), .val (.int z_)] [])) ?_
  have t1 := own_turn ff v6_1 F E 0 (0 : Int32) v8_14 v9_15 _ _ _ (by decide) hF hE hz17 t0 hm19
  show own_Go _ _ _ _ (T16.setTop (mkF m 110 #[.val (.long q1), .second, .val (.int p2), .val (.int p3), .val (.int p4), .val (.int p5), .val (.int v6_1), .val (.ref b2), .val (.int v8_14), .val (.int v9_15), .val (.int m19)] []))
  refine own_by (fun _ k => XS.aload X16.here hx rfl (hb hby at_110) rfl rfl k) ?_
  show own_Go _ _ _ _ (T16.setTop (mkF m 112 #[.val (.long q1), .second, .val (.int p2), .val (.int p3), .val (.int p4), .val (.int p5), .val (.int v6_1), .val (.ref b2), .val (.int v8_14), .val (.int v9_15), .val (.int m19)] [(.ref b2)]))
  refine own_by (fun _ k => XS.iconst X16.here hx rfl (hb hby at_112) k) ?_
  show own_Go _ _ _ _ (T16.setTop (mkF m 113 #[.val (.long q1), .second, .val (.int p2), .val (.int p3), .val (.int p4), .val (.int p5), .val (.int v6_1), .val (.ref b2), .val (.int v8_14), .val (.int v9_15), .val (.int m19)] [(.int (1 : Int32)), (.ref b2)]))
  refine own_by (fun _ k => XS.iload X16.here hx rfl (hb hby at_113) rfl k) ?_
  show own_Go _ _ _ _ (T16.setTop (mkF m 115 #[.val (.long q1), .second, .val (.int p2), .val (.int p3), .val (.int p4), .val (.int p5), .val (.int v6_1), .val (.ref b2), .val (.int v8_14), .val (.int v9_15), .val (.int m19)] [(.int v8_14), (.int (1 : Int32)), (.ref b2)]))
  refine own_by (fun _ k => XS.iload X16.here hx rfl (hb hby at_115) rfl k) ?_
  show own_Go _ _ _ _ (T16.setTop (mkF m 117 #[.val (.long q1), .second, .val (.int p2), .val (.int p3), .val (.int p4), .val (.int p5), .val (.int v6_1), .val (.ref b2), .val (.int v8_14), .val (.int v9_15), .val (.int m19)] [(.int v9_15), (.int v8_14), (.int (1 : Int32)), (.ref b2)]))
  refine own_by (fun _ k => XS.iload X16.here hx rfl (hb hby at_117) rfl k) ?_
  show own_Go _ _ _ _ (T16.setTop (mkF m 119 #[.val (.long q1), .second, .val (.int p2), .val (.int p3), .val (.int p4), .val (.int p5), .val (.int v6_1), .val (.ref b2), .val (.int v8_14), .val (.int v9_15), .val (.int m19)] [(.int v6_1), (.int v9_15), (.int v8_14), (.int (1 : Int32)), (.ref b2)]))
  obtain ⟨_, _, ⟨T20, L20, k20, n20⟩, -, X20, ⟨Lc20, hQ20, l20, y20, z20⟩, st20⟩ := Jvm.LawKit.callS X16 hx (y := (⟨"com/example/link_prestige/linkprestige/LinkLineLastIndexOfPinLaw", "hit", "([BIIIB)Z"⟩ : MethodName)) hown (mvT hZ (hw _ (List.mem_of_getElem? (i := 6) rfl))) (mvT hZ (hw _ (List.mem_of_getElem? (i := 7) rfl))) (mvT hZ (hw _ (List.mem_of_getElem? (i := 3) rfl))) (mvT hZ (hw _ (List.mem_of_getElem? (i := 8) rfl))) (by decide) (backOf (W := 0) (rm2 l Z a0 hw [] b2 (1 : Int32) v8_14 v9_15 v6_1 ff 1 h13 n0 Z13 A13 (by decide) (by decide)) hZ (hw _ (List.mem_of_getElem? (i := 8) rfl)) (hw _ (List.mem_of_getElem? (i := 3) rfl)) (by decide) (by decide)) (g := (mkF m 119 #[.val (.long q1), .second, .val (.int p2), .val (.int p3), .val (.int p4), .val (.int p5), .val (.int v6_1), .val (.ref b2), .val (.int v8_14), .val (.int v9_15), .val (.int m19)] [(.int v6_1), (.int v9_15), (.int v8_14), (.int (1 : Int32)), (.ref b2)])) rfl (by rw [hml]; rfl) (argsL := [(.ref b2), (.int (1 : Int32)), (.int v8_14), (.int v9_15), (.int v6_1)]) (rest := []) (lenOf own_pd1 rfl) rfl (by show 2 * 0 + _ ≤ _; exact Nat.le_of_eq rfl) (hb hby at_119) (fun _ _ => ⟨rfl, e16, Nat.le_of_ble_eq_true rfl, Nat.le_of_ble_eq_true rfl⟩)
  dsimp only [Pt.U, Pt.locs, Pt.cells, Pt.slots] at X20 l20 y20 z20 st20 hQ20
  subst l20 y20 z20
  obtain ⟨rfl, N20q, e20⟩ := hQ20
  have N20 := Fr.app N16 N20q
  refine own_by st20 ?_
  obtain ⟨z21, hz21⟩ : ∃ z_ : Int32, (own_hit ff 1 (1 : Int32) v8_14 v9_15 v6_1) = z_ := ⟨_, rfl⟩
  refine own_gen hz21 (fun z_ => T20.setTop (mkF m 122 #[.val (.long q1), .second, .val (.int p2), .val (.int p3), .val (.int p4), .val (.int p5), .val (.int v6_1), .val (.ref b2), .val (.int v8_14), .val (.int v9_15), .val (.int m19)] [(.int z_)])) ?_
  refine own_by (V := T20.setTop (mkF m 128 #[.val (.long q1), .second, .val (.int p2), .val (.int p3), .val (.int p4), .val (.int p5), .val (.int v6_1), .val (.ref b2), .val (.int v8_14), .val (.int v9_15), .val (.int (if z21 = (0 : Int32) then m19 else (1 : Int32)))] [])) (fun _ kk => ?_) ?_
  · --
    show Steps _ _ _ (T20.setTop (mkF m 122 #[.val (.long q1), .second, .val (.int p2), .val (.int p3), .val (.int p4), .val (.int p5), .val (.int v6_1), .val (.ref b2), .val (.int v8_14), .val (.int v9_15), .val (.int m19)] [(.int z21)])) _
    by_cases hc22 : z21 = (0 : Int32)
    · --
      refine XS.ifYes X20.here hx rfl (pc0 := 122) (pc' := 128) rfl (hb hby at_122) rfl ((if0 _ _).trans (teq hc22).1) (by decide) (by decide) ?_
      show Steps _ _ _ (T20.setTop (mkF m 128 #[.val (.long q1), .second, .val (.int p2), .val (.int p3), .val (.int p4), .val (.int p5), .val (.int v6_1), .val (.ref b2), .val (.int v8_14), .val (.int v9_15), .val (.int m19)] [])) _
      simp only [if_pos hc22] at kk
      exact kk
    · --
      refine XS.ifNo X20.here hx rfl (hb hby at_122) rfl ((if0 _ _).trans (feq hc22).1) ?_
      show Steps _ _ _ (T20.setTop (mkF m 125 #[.val (.long q1), .second, .val (.int p2), .val (.int p3), .val (.int p4), .val (.int p5), .val (.int v6_1), .val (.ref b2), .val (.int v8_14), .val (.int v9_15), .val (.int m19)] [])) _
      refine XS.iconst X20.here hx rfl (hb hby at_125) ?_
      show Steps _ _ _ (T20.setTop (mkF m 126 #[.val (.long q1), .second, .val (.int p2), .val (.int p3), .val (.int p4), .val (.int p5), .val (.int v6_1), .val (.ref b2), .val (.int v8_14), .val (.int v9_15), .val (.int m19)] [(.int (1 : Int32))])) _
      refine XS.istore X20.here hx rfl (hb hby at_126) rfl (l' := #[.val (.long q1), .second, .val (.int p2), .val (.int p3), .val (.int p4), .val (.int p5), .val (.int v6_1), .val (.ref b2), .val (.int v8_14), .val (.int v9_15), .val (.int (1 : Int32))]) rfl ?_
      show Steps _ _ _ (T20.setTop (mkF m 128 #[.val (.long q1), .second, .val (.int p2), .val (.int p3), .val (.int p4), .val (.int p5), .val (.int v6_1), .val (.ref b2), .val (.int v8_14), .val (.int v9_15), .val (.int (1 : Int32))] [])) _
      simp only [if_neg hc22] at kk
      exact kk
  obtain ⟨m23, hm23⟩ : ∃ z_ : Int32, (if z21 = (0 : Int32) then m19 else (1 : Int32)) = z_ := ⟨_, rfl⟩
  refine own_gen hm23 (fun z_ => T20.setTop (mkF m 128 #[.val (.long q1), .second, .val (.int p2), .val (.int p3), .val (.int p4), .val (.int p5), .val (.int v6_1), .val (.ref b2), .val (.int v8_14), .val (.int v9_15), .val (.int z_)] [])) ?_
  have t2 := own_turn ff v6_1 F E 1 (1 : Int32) v8_14 v9_15 _ _ _ (by decide) hF hE hz21 t1 hm23
  show own_Go _ _ _ _ (T20.setTop (mkF m 128 #[.val (.long q1), .second, .val (.int p2), .val (.int p3), .val (.int p4), .val (.int p5), .val (.int v6_1), .val (.ref b2), .val (.int v8_14), .val (.int v9_15), .val (.int m23)] []))
  refine own_by (fun _ k => XS.aload X20.here hx rfl (hb hby at_128) rfl rfl k) ?_
  show own_Go _ _ _ _ (T20.setTop (mkF m 130 #[.val (.long q1), .second, .val (.int p2), .val (.int p3), .val (.int p4), .val (.int p5), .val (.int v6_1), .val (.ref b2), .val (.int v8_14), .val (.int v9_15), .val (.int m23)] [(.ref b2)]))
  refine own_by (fun _ k => XS.iconst X20.here hx rfl (hb hby at_130) k) ?_
  show own_Go _ _ _ _ (T20.setTop (mkF m 131 #[.val (.long q1), .second, .val (.int p2), .val (.int p3), .val (.int p4), .val (.int p5), .val (.int v6_1), .val (.ref b2), .val (.int v8_14), .val (.int v9_15), .val (.int m23)] [(.int (2 : Int32)), (.ref b2)]))
  refine own_by (fun _ k => XS.iload X20.here hx rfl (hb hby at_131) rfl k) ?_
  show own_Go _ _ _ _ (T20.setTop (mkF m 133 #[.val (.long q1), .second, .val (.int p2), .val (.int p3), .val (.int p4), .val (.int p5), .val (.int v6_1), .val (.ref b2), .val (.int v8_14), .val (.int v9_15), .val (.int m23)] [(.int v8_14), (.int (2 : Int32)), (.ref b2)]))
  refine own_by (fun _ k => XS.iload X20.here hx rfl (hb hby at_133) rfl k) ?_
  show own_Go _ _ _ _ (T20.setTop (mkF m 135 #[.val (.long q1), .second, .val (.int p2), .val (.int p3), .val (.int p4), .val (.int p5), .val (.int v6_1), .val (.ref b2), .val (.int v8_14), .val (.int v9_15), .val (.int m23)] [(.int v9_15), (.int v8_14), (.int (2 : Int32)), (.ref b2)]))
  refine own_by (fun _ k => XS.iload X20.here hx rfl (hb hby at_135) rfl k) ?_
  show own_Go _ _ _ _ (T20.setTop (mkF m 137 #[.val (.long q1), .second, .val (.int p2), .val (.int p3), .val (.int p4), .val (.int p5), .val (.int v6_1), .val (.ref b2), .val (.int v8_14), .val (.int v9_15), .val (.int m23)] [(.int v6_1), (.int v9_15), (.int v8_14), (.int (2 : Int32)), (.ref b2)]))
  obtain ⟨_, _, ⟨T24, L24, k24, n24⟩, -, X24, ⟨Lc24, hQ24, l24, y24, z24⟩, st24⟩ := Jvm.LawKit.callS X20 hx (y := (⟨"com/example/link_prestige/linkprestige/LinkLineLastIndexOfPinLaw", "hit", "([BIIIB)Z"⟩ : MethodName)) hown (mvT hZ (hw _ (List.mem_of_getElem? (i := 6) rfl))) (mvT hZ (hw _ (List.mem_of_getElem? (i := 7) rfl))) (mvT hZ (hw _ (List.mem_of_getElem? (i := 3) rfl))) (mvT hZ (hw _ (List.mem_of_getElem? (i := 8) rfl))) (by decide) (backOf (W := 0) (rm2 l Z a0 hw [] b2 (2 : Int32) v8_14 v9_15 v6_1 ff 2 h13 n0 Z13 A13 (by decide) (by decide)) hZ (hw _ (List.mem_of_getElem? (i := 8) rfl)) (hw _ (List.mem_of_getElem? (i := 3) rfl)) (by decide) (by decide)) (g := (mkF m 137 #[.val (.long q1), .second, .val (.int p2), .val (.int p3), .val (.int p4), .val (.int p5), .val (.int v6_1), .val (.ref b2), .val (.int v8_14), .val (.int v9_15), .val (.int m23)] [(.int v6_1), (.int v9_15), (.int v8_14), (.int (2 : Int32)), (.ref b2)])) rfl (by rw [hml]; rfl) (argsL := [(.ref b2), (.int (2 : Int32)), (.int v8_14), (.int v9_15), (.int v6_1)]) (rest := []) (lenOf own_pd1 rfl) rfl (by show 2 * 0 + _ ≤ _; exact Nat.le_of_eq rfl) (hb hby at_137) (fun _ _ => ⟨rfl, e20, Nat.le_of_ble_eq_true rfl, Nat.le_of_ble_eq_true rfl⟩)
  dsimp only [Pt.U, Pt.locs, Pt.cells, Pt.slots] at X24 l24 y24 z24 st24 hQ24
  subst l24 y24 z24
  obtain ⟨rfl, N24q, e24⟩ := hQ24
  have N24 := Fr.app N20 N24q
  refine own_by st24 ?_
  obtain ⟨z25, hz25⟩ : ∃ z_ : Int32, (own_hit ff 2 (2 : Int32) v8_14 v9_15 v6_1) = z_ := ⟨_, rfl⟩
  refine own_gen hz25 (fun z_ => T24.setTop (mkF m 140 #[.val (.long q1), .second, .val (.int p2), .val (.int p3), .val (.int p4), .val (.int p5), .val (.int v6_1), .val (.ref b2), .val (.int v8_14), .val (.int v9_15), .val (.int m23)] [(.int z_)])) ?_
  refine own_by (V := T24.setTop (mkF m 146 #[.val (.long q1), .second, .val (.int p2), .val (.int p3), .val (.int p4), .val (.int p5), .val (.int v6_1), .val (.ref b2), .val (.int v8_14), .val (.int v9_15), .val (.int (if z25 = (0 : Int32) then m23 else (2 : Int32)))] [])) (fun _ kk => ?_) ?_
  · --
    show Steps _ _ _ (T24.setTop (mkF m 140 #[.val (.long q1), .second, .val (.int p2), .val (.int p3), .val (.int p4), .val (.int p5), .val (.int v6_1), .val (.ref b2), .val (.int v8_14), .val (.int v9_15), .val (.int m23)] [(.int z25)])) _
    by_cases hc26 : z25 = (0 : Int32)
    · --
      refine XS.ifYes X24.here hx rfl (pc0 := 140) (pc' := 146) rfl (hb hby at_140) rfl ((if0 _ _).trans (teq hc26).1) (by decide) (by decide) ?_
      show Steps _ _ _ (T24.setTop (mkF m 146 #[.val (.long q1), .second, .val (.int p2), .val (.int p3), .val (.int p4), .val (.int p5), .val (.int v6_1), .val (.ref b2), .val (.int v8_14), .val (.int v9_15), .val (.int m23)] [])) _
      simp only [if_pos hc26] at kk
      exact kk
    · --
      refine XS.ifNo X24.here hx rfl (hb hby at_140) rfl ((if0 _ _).trans (feq hc26).1) ?_
      show Steps _ _ _ (T24.setTop (mkF m 143 #[.val (.long q1), .second, .val (.int p2), .val (.int p3), .val (.int p4), .val (.int p5), .val (.int v6_1), .val (.ref b2), .val (.int v8_14), .val (.int v9_15), .val (.int m23)] [])) _
      refine XS.iconst X24.here hx rfl (hb hby at_143) ?_
      show Steps _ _ _ (T24.setTop (mkF m 144 #[.val (.long q1), .second, .val (.int p2), .val (.int p3), .val (.int p4), .val (.int p5), .val (.int v6_1), .val (.ref b2), .val (.int v8_14), .val (.int v9_15), .val (.int m23)] [(.int (2 : Int32))])) _
      refine XS.istore X24.here hx rfl (hb hby at_144) rfl (l' := #[.val (.long q1), .second, .val (.int p2), .val (.int p3), .val (.int p4), .val (.int p5), .val (.int v6_1), .val (.ref b2), .val (.int v8_14), .val (.int v9_15), .val (.int (2 : Int32))]) rfl ?_
      show Steps _ _ _ (T24.setTop (mkF m 146 #[.val (.long q1), .second, .val (.int p2), .val (.int p3), .val (.int p4), .val (.int p5), .val (.int v6_1), .val (.ref b2), .val (.int v8_14), .val (.int v9_15), .val (.int (2 : Int32))] [])) _
      simp only [if_neg hc26] at kk
      exact kk
  obtain ⟨m27, hm27⟩ : ∃ z_ : Int32, (if z25 = (0 : Int32) then m23 else (2 : Int32)) = z_ := ⟨_, rfl⟩
  refine own_gen hm27 (fun z_ => T24.setTop (mkF m 146 #[.val (.long q1), .second, .val (.int p2), .val (.int p3), .val (.int p4), .val (.int p5), .val (.int v6_1), .val (.ref b2), .val (.int v8_14), .val (.int v9_15), .val (.int z_)] [])) ?_
  have t3 := own_turn ff v6_1 F E 2 (2 : Int32) v8_14 v9_15 _ _ _ (by decide) hF hE hz25 t2 hm27
  show own_Go _ _ _ _ (T24.setTop (mkF m 146 #[.val (.long q1), .second, .val (.int p2), .val (.int p3), .val (.int p4), .val (.int p5), .val (.int v6_1), .val (.ref b2), .val (.int v8_14), .val (.int v9_15), .val (.int m27)] []))
  refine own_by (fun _ k => XS.aload X24.here hx rfl (hb hby at_146) rfl rfl k) ?_
  show own_Go _ _ _ _ (T24.setTop (mkF m 148 #[.val (.long q1), .second, .val (.int p2), .val (.int p3), .val (.int p4), .val (.int p5), .val (.int v6_1), .val (.ref b2), .val (.int v8_14), .val (.int v9_15), .val (.int m27)] [(.ref b2)]))
  refine own_by (fun _ k => XS.iconst X24.here hx rfl (hb hby at_148) k) ?_
  show own_Go _ _ _ _ (T24.setTop (mkF m 149 #[.val (.long q1), .second, .val (.int p2), .val (.int p3), .val (.int p4), .val (.int p5), .val (.int v6_1), .val (.ref b2), .val (.int v8_14), .val (.int v9_15), .val (.int m27)] [(.int (3 : Int32)), (.ref b2)]))
  refine own_by (fun _ k => XS.iload X24.here hx rfl (hb hby at_149) rfl k) ?_
  show own_Go _ _ _ _ (T24.setTop (mkF m 151 #[.val (.long q1), .second, .val (.int p2), .val (.int p3), .val (.int p4), .val (.int p5), .val (.int v6_1), .val (.ref b2), .val (.int v8_14), .val (.int v9_15), .val (.int m27)] [(.int v8_14), (.int (3 : Int32)), (.ref b2)]))
  refine own_by (fun _ k => XS.iload X24.here hx rfl (hb hby at_151) rfl k) ?_
  show own_Go _ _ _ _ (T24.setTop (mkF m 153 #[.val (.long q1), .second, .val (.int p2), .val (.int p3), .val (.int p4), .val (.int p5), .val (.int v6_1), .val (.ref b2), .val (.int v8_14), .val (.int v9_15), .val (.int m27)] [(.int v9_15), (.int v8_14), (.int (3 : Int32)), (.ref b2)]))
  refine own_by (fun _ k => XS.iload X24.here hx rfl (hb hby at_153) rfl k) ?_
  show own_Go _ _ _ _ (T24.setTop (mkF m 155 #[.val (.long q1), .second, .val (.int p2), .val (.int p3), .val (.int p4), .val (.int p5), .val (.int v6_1), .val (.ref b2), .val (.int v8_14), .val (.int v9_15), .val (.int m27)] [(.int v6_1), (.int v9_15), (.int v8_14), (.int (3 : Int32)), (.ref b2)]))
  obtain ⟨_, _, ⟨T28, L28, k28, n28⟩, -, X28, ⟨Lc28, hQ28, l28, y28, z28⟩, st28⟩ := Jvm.LawKit.callS X24 hx (y := (⟨"com/example/link_prestige/linkprestige/LinkLineLastIndexOfPinLaw", "hit", "([BIIIB)Z"⟩ : MethodName)) hown (mvT hZ (hw _ (List.mem_of_getElem? (i := 6) rfl))) (mvT hZ (hw _ (List.mem_of_getElem? (i := 7) rfl))) (mvT hZ (hw _ (List.mem_of_getElem? (i := 3) rfl))) (mvT hZ (hw _ (List.mem_of_getElem? (i := 8) rfl))) (by decide) (backOf (W := 0) (rm2 l Z a0 hw [] b2 (3 : Int32) v8_14 v9_15 v6_1 ff 3 h13 n0 Z13 A13 (by decide) (by decide)) hZ (hw _ (List.mem_of_getElem? (i := 8) rfl)) (hw _ (List.mem_of_getElem? (i := 3) rfl)) (by decide) (by decide)) (g := (mkF m 155 #[.val (.long q1), .second, .val (.int p2), .val (.int p3), .val (.int p4), .val (.int p5), .val (.int v6_1), .val (.ref b2), .val (.int v8_14), .val (.int v9_15), .val (.int m27)] [(.int v6_1), (.int v9_15), (.int v8_14), (.int (3 : Int32)), (.ref b2)])) rfl (by rw [hml]; rfl) (argsL := [(.ref b2), (.int (3 : Int32)), (.int v8_14), (.int v9_15), (.int v6_1)]) (rest := []) (lenOf own_pd1 rfl) rfl (by show 2 * 0 + _ ≤ _; exact Nat.le_of_eq rfl) (hb hby at_155) (fun _ _ => ⟨rfl, e24, Nat.le_of_ble_eq_true rfl, Nat.le_of_ble_eq_true rfl⟩)
  dsimp only [Pt.U, Pt.locs, Pt.cells, Pt.slots] at X28 l28 y28 z28 st28 hQ28
  subst l28 y28 z28
  obtain ⟨rfl, N28q, e28⟩ := hQ28
  have N28 := Fr.app N24 N28q
  refine own_by st28 ?_
  obtain ⟨z29, hz29⟩ : ∃ z_ : Int32, (own_hit ff 3 (3 : Int32) v8_14 v9_15 v6_1) = z_ := ⟨_, rfl⟩
  refine own_gen hz29 (fun z_ => T28.setTop (mkF m 158 #[.val (.long q1), .second, .val (.int p2), .val (.int p3), .val (.int p4), .val (.int p5), .val (.int v6_1), .val (.ref b2), .val (.int v8_14), .val (.int v9_15), .val (.int m27)] [(.int z_)])) ?_
  refine own_by (V := T28.setTop (mkF m 164 #[.val (.long q1), .second, .val (.int p2), .val (.int p3), .val (.int p4), .val (.int p5), .val (.int v6_1), .val (.ref b2), .val (.int v8_14), .val (.int v9_15), .val (.int (if z29 = (0 : Int32) then m27 else (3 : Int32)))] [])) (fun _ kk => ?_) ?_
  · --
    show Steps _ _ _ (T28.setTop (mkF m 158 #[.val (.long q1), .second, .val (.int p2), .val (.int p3), .val (.int p4), .val (.int p5), .val (.int v6_1), .val (.ref b2), .val (.int v8_14), .val (.int v9_15), .val (.int m27)] [(.int z29)])) _
    by_cases hc30 : z29 = (0 : Int32)
    · --
      refine XS.ifYes X28.here hx rfl (pc0 := 158) (pc' := 164) rfl (hb hby at_158) rfl ((if0 _ _).trans (teq hc30).1) (by decide) (by decide) ?_
      show Steps _ _ _ (T28.setTop (mkF m 164 #[.val (.long q1), .second, .val (.int p2), .val (.int p3), .val (.int p4), .val (.int p5), .val (.int v6_1), .val (.ref b2), .val (.int v8_14), .val (.int v9_15), .val (.int m27)] [])) _
      simp only [if_pos hc30] at kk
      exact kk
    · --
      refine XS.ifNo X28.here hx rfl (hb hby at_158) rfl ((if0 _ _).trans (feq hc30).1) ?_
      show Steps _ _ _ (T28.setTop (mkF m 161 #[.val (.long q1), .second, .val (.int p2), .val (.int p3), .val (.int p4), .val (.int p5), .val (.int v6_1), .val (.ref b2), .val (.int v8_14), .val (.int v9_15), .val (.int m27)] [])) _
      refine XS.iconst X28.here hx rfl (hb hby at_161) ?_
      show Steps _ _ _ (T28.setTop (mkF m 162 #[.val (.long q1), .second, .val (.int p2), .val (.int p3), .val (.int p4), .val (.int p5), .val (.int v6_1), .val (.ref b2), .val (.int v8_14), .val (.int v9_15), .val (.int m27)] [(.int (3 : Int32))])) _
      refine XS.istore X28.here hx rfl (hb hby at_162) rfl (l' := #[.val (.long q1), .second, .val (.int p2), .val (.int p3), .val (.int p4), .val (.int p5), .val (.int v6_1), .val (.ref b2), .val (.int v8_14), .val (.int v9_15), .val (.int (3 : Int32))]) rfl ?_
      show Steps _ _ _ (T28.setTop (mkF m 164 #[.val (.long q1), .second, .val (.int p2), .val (.int p3), .val (.int p4), .val (.int p5), .val (.int v6_1), .val (.ref b2), .val (.int v8_14), .val (.int v9_15), .val (.int (3 : Int32))] [])) _
      simp only [if_neg hc30] at kk
      exact kk
  obtain ⟨m31, hm31⟩ : ∃ z_ : Int32, (if z29 = (0 : Int32) then m27 else (3 : Int32)) = z_ := ⟨_, rfl⟩
  refine own_gen hm31 (fun z_ => T28.setTop (mkF m 164 #[.val (.long q1), .second, .val (.int p2), .val (.int p3), .val (.int p4), .val (.int p5), .val (.int v6_1), .val (.ref b2), .val (.int v8_14), .val (.int v9_15), .val (.int z_)] [])) ?_
  have t4 := own_turn ff v6_1 F E 3 (3 : Int32) v8_14 v9_15 _ _ _ (by decide) hF hE hz29 t3 hm31
  show own_Go _ _ _ _ (T28.setTop (mkF m 164 #[.val (.long q1), .second, .val (.int p2), .val (.int p3), .val (.int p4), .val (.int p5), .val (.int v6_1), .val (.ref b2), .val (.int v8_14), .val (.int v9_15), .val (.int m31)] []))
  refine own_by (fun _ k => XS.aload X28.here hx rfl (hb hby at_164) rfl rfl k) ?_
  show own_Go _ _ _ _ (T28.setTop (mkF m 166 #[.val (.long q1), .second, .val (.int p2), .val (.int p3), .val (.int p4), .val (.int p5), .val (.int v6_1), .val (.ref b2), .val (.int v8_14), .val (.int v9_15), .val (.int m31)] [(.ref b2)]))
  refine own_by (fun _ k => XS.iconst X28.here hx rfl (hb hby at_166) k) ?_
  show own_Go _ _ _ _ (T28.setTop (mkF m 167 #[.val (.long q1), .second, .val (.int p2), .val (.int p3), .val (.int p4), .val (.int p5), .val (.int v6_1), .val (.ref b2), .val (.int v8_14), .val (.int v9_15), .val (.int m31)] [(.int (4 : Int32)), (.ref b2)]))
  refine own_by (fun _ k => XS.iload X28.here hx rfl (hb hby at_167) rfl k) ?_
  show own_Go _ _ _ _ (T28.setTop (mkF m 169 #[.val (.long q1), .second, .val (.int p2), .val (.int p3), .val (.int p4), .val (.int p5), .val (.int v6_1), .val (.ref b2), .val (.int v8_14), .val (.int v9_15), .val (.int m31)] [(.int v8_14), (.int (4 : Int32)), (.ref b2)]))
  refine own_by (fun _ k => XS.iload X28.here hx rfl (hb hby at_169) rfl k) ?_
  show own_Go _ _ _ _ (T28.setTop (mkF m 171 #[.val (.long q1), .second, .val (.int p2), .val (.int p3), .val (.int p4), .val (.int p5), .val (.int v6_1), .val (.ref b2), .val (.int v8_14), .val (.int v9_15), .val (.int m31)] [(.int v9_15), (.int v8_14), (.int (4 : Int32)), (.ref b2)]))
  refine own_by (fun _ k => XS.iload X28.here hx rfl (hb hby at_171) rfl k) ?_
  show own_Go _ _ _ _ (T28.setTop (mkF m 173 #[.val (.long q1), .second, .val (.int p2), .val (.int p3), .val (.int p4), .val (.int p5), .val (.int v6_1), .val (.ref b2), .val (.int v8_14), .val (.int v9_15), .val (.int m31)] [(.int v6_1), (.int v9_15), (.int v8_14), (.int (4 : Int32)), (.ref b2)]))
  obtain ⟨_, _, ⟨T32, L32, k32, n32⟩, -, X32, ⟨Lc32, hQ32, l32, y32, z32⟩, st32⟩ := Jvm.LawKit.callS X28 hx (y := (⟨"com/example/link_prestige/linkprestige/LinkLineLastIndexOfPinLaw", "hit", "([BIIIB)Z"⟩ : MethodName)) hown (mvT hZ (hw _ (List.mem_of_getElem? (i := 6) rfl))) (mvT hZ (hw _ (List.mem_of_getElem? (i := 7) rfl))) (mvT hZ (hw _ (List.mem_of_getElem? (i := 3) rfl))) (mvT hZ (hw _ (List.mem_of_getElem? (i := 8) rfl))) (by decide) (backOf (W := 0) (rm2 l Z a0 hw [] b2 (4 : Int32) v8_14 v9_15 v6_1 ff 4 h13 n0 Z13 A13 (by decide) (by decide)) hZ (hw _ (List.mem_of_getElem? (i := 8) rfl)) (hw _ (List.mem_of_getElem? (i := 3) rfl)) (by decide) (by decide)) (g := (mkF m 173 #[.val (.long q1), .second, .val (.int p2), .val (.int p3), .val (.int p4), .val (.int p5), .val (.int v6_1), .val (.ref b2), .val (.int v8_14), .val (.int v9_15), .val (.int m31)] [(.int v6_1), (.int v9_15), (.int v8_14), (.int (4 : Int32)), (.ref b2)])) rfl (by rw [hml]; rfl) (argsL := [(.ref b2), (.int (4 : Int32)), (.int v8_14), (.int v9_15), (.int v6_1)]) (rest := []) (lenOf own_pd1 rfl) rfl (by show 2 * 0 + _ ≤ _; exact Nat.le_of_eq rfl) (hb hby at_173) (fun _ _ => ⟨rfl, e28, Nat.le_of_ble_eq_true rfl, Nat.le_of_ble_eq_true rfl⟩)
  dsimp only [Pt.U, Pt.locs, Pt.cells, Pt.slots] at X32 l32 y32 z32 st32 hQ32
  subst l32 y32 z32
  obtain ⟨rfl, N32q, e32⟩ := hQ32
  have N32 := Fr.app N28 N32q
  refine own_by st32 ?_
  obtain ⟨z33, hz33⟩ : ∃ z_ : Int32, (own_hit ff 4 (4 : Int32) v8_14 v9_15 v6_1) = z_ := ⟨_, rfl⟩
  refine own_gen hz33 (fun z_ => T32.setTop (mkF m 176 #[.val (.long q1), .second, .val (.int p2), .val (.int p3), .val (.int p4), .val (.int p5), .val (.int v6_1), .val (.ref b2), .val (.int v8_14), .val (.int v9_15), .val (.int m31)] [(.int z_)])) ?_
  refine own_by (V := T32.setTop (mkF m 182 #[.val (.long q1), .second, .val (.int p2), .val (.int p3), .val (.int p4), .val (.int p5), .val (.int v6_1), .val (.ref b2), .val (.int v8_14), .val (.int v9_15), .val (.int (if z33 = (0 : Int32) then m31 else (4 : Int32)))] [])) (fun _ kk => ?_) ?_
  · --
    show Steps _ _ _ (T32.setTop (mkF m 176 #[.val (.long q1), .second, .val (.int p2), .val (.int p3), .val (.int p4), .val (.int p5), .val (.int v6_1), .val (.ref b2), .val (.int v8_14), .val (.int v9_15), .val (.int m31)] [(.int z33)])) _
    by_cases hc34 : z33 = (0 : Int32)
    · --
      refine XS.ifYes X32.here hx rfl (pc0 := 176) (pc' := 182) rfl (hb hby at_176) rfl ((if0 _ _).trans (teq hc34).1) (by decide) (by decide) ?_
      show Steps _ _ _ (T32.setTop (mkF m 182 #[.val (.long q1), .second, .val (.int p2), .val (.int p3), .val (.int p4), .val (.int p5), .val (.int v6_1), .val (.ref b2), .val (.int v8_14), .val (.int v9_15), .val (.int m31)] [])) _
      simp only [if_pos hc34] at kk
      exact kk
    · --
      refine XS.ifNo X32.here hx rfl (hb hby at_176) rfl ((if0 _ _).trans (feq hc34).1) ?_
      show Steps _ _ _ (T32.setTop (mkF m 179 #[.val (.long q1), .second, .val (.int p2), .val (.int p3), .val (.int p4), .val (.int p5), .val (.int v6_1), .val (.ref b2), .val (.int v8_14), .val (.int v9_15), .val (.int m31)] [])) _
      refine XS.iconst X32.here hx rfl (hb hby at_179) ?_
      show Steps _ _ _ (T32.setTop (mkF m 180 #[.val (.long q1), .second, .val (.int p2), .val (.int p3), .val (.int p4), .val (.int p5), .val (.int v6_1), .val (.ref b2), .val (.int v8_14), .val (.int v9_15), .val (.int m31)] [(.int (4 : Int32))])) _
      refine XS.istore X32.here hx rfl (hb hby at_180) rfl (l' := #[.val (.long q1), .second, .val (.int p2), .val (.int p3), .val (.int p4), .val (.int p5), .val (.int v6_1), .val (.ref b2), .val (.int v8_14), .val (.int v9_15), .val (.int (4 : Int32))]) rfl ?_
      show Steps _ _ _ (T32.setTop (mkF m 182 #[.val (.long q1), .second, .val (.int p2), .val (.int p3), .val (.int p4), .val (.int p5), .val (.int v6_1), .val (.ref b2), .val (.int v8_14), .val (.int v9_15), .val (.int (4 : Int32))] [])) _
      simp only [if_neg hc34] at kk
      exact kk
  obtain ⟨m35, hm35⟩ : ∃ z_ : Int32, (if z33 = (0 : Int32) then m31 else (4 : Int32)) = z_ := ⟨_, rfl⟩
  refine own_gen hm35 (fun z_ => T32.setTop (mkF m 182 #[.val (.long q1), .second, .val (.int p2), .val (.int p3), .val (.int p4), .val (.int p5), .val (.int v6_1), .val (.ref b2), .val (.int v8_14), .val (.int v9_15), .val (.int z_)] [])) ?_
  have t5 := own_turn ff v6_1 F E 4 (4 : Int32) v8_14 v9_15 _ _ _ (by decide) hF hE hz33 t4 hm35
  show own_Go _ _ _ _ (T32.setTop (mkF m 182 #[.val (.long q1), .second, .val (.int p2), .val (.int p3), .val (.int p4), .val (.int p5), .val (.int v6_1), .val (.ref b2), .val (.int v8_14), .val (.int v9_15), .val (.int m35)] []))
  refine own_by (fun _ k => XS.aload X32.here hx rfl (hb hby at_182) rfl rfl k) ?_
  show own_Go _ _ _ _ (T32.setTop (mkF m 184 #[.val (.long q1), .second, .val (.int p2), .val (.int p3), .val (.int p4), .val (.int p5), .val (.int v6_1), .val (.ref b2), .val (.int v8_14), .val (.int v9_15), .val (.int m35)] [(.ref b2)]))
  refine own_by (fun _ k => XS.iload X32.here hx rfl (hb hby at_184) rfl k) ?_
  show own_Go _ _ _ _ (T32.setTop (mkF m 186 #[.val (.long q1), .second, .val (.int p2), .val (.int p3), .val (.int p4), .val (.int p5), .val (.int v6_1), .val (.ref b2), .val (.int v8_14), .val (.int v9_15), .val (.int m35)] [(.int v8_14), (.ref b2)]))
  refine own_by (fun _ k => XS.iload X32.here hx rfl (hb hby at_186) rfl k) ?_
  show own_Go _ _ _ _ (T32.setTop (mkF m 188 #[.val (.long q1), .second, .val (.int p2), .val (.int p3), .val (.int p4), .val (.int p5), .val (.int v6_1), .val (.ref b2), .val (.int v8_14), .val (.int v9_15), .val (.int m35)] [(.int v9_15), (.int v8_14), (.ref b2)]))
  refine own_by (fun _ k => XS.iload X32.here hx rfl (hb hby at_188) rfl k) ?_
  show own_Go _ _ _ _ (T32.setTop (mkF m 190 #[.val (.long q1), .second, .val (.int p2), .val (.int p3), .val (.int p4), .val (.int p5), .val (.int v6_1), .val (.ref b2), .val (.int v8_14), .val (.int v9_15), .val (.int m35)] [(.int v6_1), (.int v9_15), (.int v8_14), (.ref b2)]))
  obtain ⟨_, _, ⟨T36, L36, k36, n36⟩, -, X36, ⟨Lc36, hQ36, l36, y36, z36⟩, st36⟩ := Jvm.LawKit.callS X32 hx (y := (⟨"com/example/link_prestige/linkprestige/LinkLine", "lastIndexOf", "([BIIB)I"⟩ : MethodName)) hown (mvT hZ (hw _ (List.mem_of_getElem? (i := 9) rfl))) (mvT hZ (hw _ (List.mem_of_getElem? (i := 10) rfl))) (mvT hZ (hw _ (List.mem_of_getElem? (i := 11) rfl))) (mvT hZ (hw _ (List.mem_of_getElem? (i := 12) rfl))) (by decide) (backOf (W := 0) (rm3 l Z a0 hw [] b2 v8_14 v9_15 v6_1 ff F E h13 n0 Z13 A13 hF hE hE5) hZ (hw _ (List.mem_of_getElem? (i := 12) rfl)) (hw _ (List.mem_of_getElem? (i := 11) rfl)) (by decide) (by decide)) (g := (mkF m 190 #[.val (.long q1), .second, .val (.int p2), .val (.int p3), .val (.int p4), .val (.int p5), .val (.int v6_1), .val (.ref b2), .val (.int v8_14), .val (.int v9_15), .val (.int m35)] [(.int v6_1), (.int v9_15), (.int v8_14), (.ref b2)])) rfl (by rw [hml]; rfl) (argsL := [(.ref b2), (.int v8_14), (.int v9_15), (.int v6_1)]) (rest := []) (lenOf own_pd2 rfl) rfl (by show 2 * 0 + _ ≤ _; exact Nat.le_of_eq rfl) (hb hby at_190) (fun _ _ => ⟨rfl, e32, Nat.le_of_ble_eq_true rfl, Nat.le_of_ble_eq_true rfl⟩)
  dsimp only [Pt.U, Pt.locs, Pt.cells, Pt.slots] at X36 l36 y36 z36 st36 hQ36
  subst l36 y36 z36
  obtain ⟨rfl, N36q, e36⟩ := hQ36
  have N36 := Fr.app N32 N36q
  refine own_by st36 ?_
  show own_Go _ _ _ _ (T36.setTop (mkF m 193 #[.val (.long q1), .second, .val (.int p2), .val (.int p3), .val (.int p4), .val (.int p5), .val (.int v6_1), .val (.ref b2), .val (.int v8_14), .val (.int v9_15), .val (.int m35)] [(.int (own_last ff v6_1 F E))]))
  refine own_by (fun _ k => XS.iload X36.here hx rfl (hb hby at_193) rfl k) ?_
  show own_Go _ _ _ _ (T36.setTop (mkF m 195 #[.val (.long q1), .second, .val (.int p2), .val (.int p3), .val (.int p4), .val (.int p5), .val (.int v6_1), .val (.ref b2), .val (.int v8_14), .val (.int v9_15), .val (.int m35)] [(.int m35), (.int (own_last ff v6_1 F E))]))
  refine own_by (fun _ k => XS.icmpNo X36.here hx rfl (hb hby at_195) rfl (teq (t5.trans (own_fin5 ff v6_1 F E hE5)).symm).2 k) ?_
  show own_Go _ _ _ _ (T36.setTop (mkF m 198 #[.val (.long q1), .second, .val (.int p2), .val (.int p3), .val (.int p4), .val (.int p5), .val (.int v6_1), .val (.ref b2), .val (.int v8_14), .val (.int v9_15), .val (.int m35)] []))
  refine own_by (fun _ k => XS.iconst X36.here hx rfl (hb hby at_198) k) ?_
  show own_Go _ _ _ _ (T36.setTop (mkF m 199 #[.val (.long q1), .second, .val (.int p2), .val (.int p3), .val (.int p4), .val (.int p5), .val (.int v6_1), .val (.ref b2), .val (.int v8_14), .val (.int v9_15), .val (.int m35)] [(.int (1 : Int32))]))
  refine own_by (fun _ k => XS.goto X36.here hx rfl (pc0 := 199) (pc' := 203) rfl (hb hby at_199) (by decide) (by decide) k) ?_
  show own_Go _ _ _ _ (T36.setTop (mkF m 203 #[.val (.long q1), .second, .val (.int p2), .val (.int p3), .val (.int p4), .val (.int p5), .val (.int v6_1), .val (.ref b2), .val (.int v8_14), .val (.int v9_15), .val (.int m35)] [(.int (1 : Int32))]))
  exact own_retN X36 hx Bd.notSynchronized e36 Bd.returns (by simp) (hb hby at_203) (⟨rfl, N36⟩) (by decide) (by decide)
set_option maxRecDepth 65536 in
set_option maxHeartbeats 40000000 in
theorem comes_1 {Post : Tables → Env → Array Value → State → Outcome → State → Prop} (hpost : ∀ tb e args s v u, (limb_1_1.after args s (.returned v) u = true ∧ limb_1_2.after args s (.returned v) u = true ∧ True) → FrameEnd s (.returned v) u (Jvm.fieldLocs frame_1_writes args s ++ Jvm.arrayLocs frame_1_arrays args s ++ Jvm.staticLocs frame_1_statics s) 16 128 → Post tb e args s (.returned v) u) :
    ArmFor flags0 classFile x code maxLocals ret World_1 tables_1 room_1 Calls_1 rest_1 Pre_1 Post := by
  intro l hfl _ _ p e ha hc hk s m args below hf hA hF happ hP
  obtain ⟨hcalls, hrest, hpre⟩ := hP
  obtain ⟨-, -, -, hnamed, -, -, -, hat⟩ := (Spec.applies_iff hf).mp happ
  obtain ⟨hg, hn⟩ := and_e (Cond.before_iff.mp (show (Jvm.Cond.and given_1 narrow_1).before args s = true from hpre))
  obtain ⟨g1, g2⟩ := and_e hg
  obtain ⟨g3, g4⟩ := and_e g2
  obtain ⟨g5, g6⟩ := and_e g4
  obtain ⟨g7, g8⟩ := and_e g6
  obtain ⟨g9, g10⟩ := and_e g8
  obtain ⟨w0, w1, w2, w3, w4, rfl⟩ : ∃ w0 w1 w2 w3 w4 : Value, args = #[w0, w1, w2, w3, w4] := by
    have hs : args.size = 5 := by simpa [Cond.value, given_1] using g1
    obtain ⟨L⟩ := args
    match L, hs with
    | [w0, w1, w2, w3, w4], _ => exact ⟨w0, w1, w2, w3, w4, rfl⟩
  have hw := fun d (hd : d ∈ tables_1) => atoms_spec (ws := Jvm.Cond.code x code maxLocals ret :: tables_1) hat d (List.mem_cons_of_mem _ hd)
  have hfit : Fit s := fun {y c} hc i hi => by
    obtain ⟨ha, rfl⟩ := Array.getElem?_eq_some_iff.mp hc
    have q := List.all_eq_true.mp ((Array.all_eq_true_iff_forall_mem.mp hF) _ (Array.getElem_mem ha)) i (List.mem_range.mpr hi)
    simpa [Array.getElem?_eq_getElem hi] using q
  obtain ⟨i0, ei0⟩ := isL_v g3
  obtain rfl : w0 = (.long i0) := Option.some.inj ei0
  obtain ⟨i1, ei1⟩ := is_v g5
  obtain rfl : w1 = (.int i1) := Option.some.inj ei1
  obtain ⟨i2, ei2⟩ := is_v g7
  obtain rfl : w2 = (.int i2) := Option.some.inj ei2
  obtain ⟨i3, ei3⟩ := is_v g9
  obtain rfl : w3 = (.int i3) := Option.some.inj ei3
  obtain ⟨i4, ei4⟩ := is_v g10
  obtain rfl : w4 = (.int i4) := Option.some.inj ei4
  obtain ⟨n, o, h1, h2, h3, _, L, rfl, ⟨rfl, N⟩, hq⟩ := rm0 l s _ hw tables_1 i0 i1 i2 i3 i4 s.heap s.heap.size (Nat.le_refl _) p e ha hc hk s m _ below hf ((Spec.applies_iff_loose hf).mp happ).1 ⟨rfl, State.Warmed39.refl s, rfl⟩ trivial
  refine ⟨n, _, h1, h2, h3, hpost _ _ _ _ _ _ ⟨Cond.after_iff.mpr rfl, Cond.after_iff.mpr (eq_i res_at (Term.int_eval (1)) rfl), trivial⟩ ⟨hq.1, hq.2.1, (hq.2.2.sift fun y hy => Or.inr (N y hy)).mono (by decide) (by decide)⟩⟩
theorem main_1_1 : Claimed_1_1 := comes_1 fun _ _ _ _ _ _ h hF => ⟨h.1, hF⟩
theorem main_1_2 : Claimed_1_2 := comes_1 fun _ _ _ _ _ _ h hF => ⟨h.2.1, hF⟩
end Jvm.Pilot.@@N@@
namespace Jvm.Pilot.@@N@@
open Jvm Jvm.ClassFile Sem Op Lib Jvm.Free Jvm.Stand Jvm.Pilot.@@N@@.Jvm.D
/-! MADE BY PROGRAM (witnessworld.py) out of the Statement's table words and the real class files: 9 classes; the members and pool entries that the words name. The judged class is class 1, her method 1. -/
namespace start1
open Jvm.ClassFile
def u (s : String) : CpInfo := .utf8 (stringToUtf16 s)
/-- a pool by its gaps: so many unusable entries, then the entry; so many at the end -/
def gap : Nat → List CpInfo → List CpInfo
  | 0, r => r
  | n + 1, r => .unusable :: gap n r
def poolList (es : List (Nat × CpInfo)) (last : Nat) : List CpInfo := es.foldr (fun e r => gap e.1 (e.2 :: r)) (gap last [])
def pool (es : List (Nat × CpInfo)) (last : Nat) : Array CpInfo := ⟨poolList es last⟩
def fileOf (pool : Array CpInfo) (this : Nat) (attrs : Array Attribute := #[]) (ms : Array MethodInfo := #[]) (fl : Nat := 33) (sup : Nat := 0) (ifs : Array Nat := #[]) (fds : Array FieldInfo := #[]) : ClassFile where
  minorVersion := 0
  majorVersion := 65
  constantPool := pool
  accessFlags := fl
  thisClass := this
  superClass := sup
  interfaces := ifs
  fields := fds
  methods := ms
  attributes := attrs
def plain (name : String) (sup : Option ClassId) : Class where
  name := name
  kind := .ordinary
  loader := none
  accessFlags := 33
  super := sup
  interfaces := #[]
  cf := none
  fields := #[]
  methods := #[]
  instanceTypes := #[]
  staticTypes := #[]
  resolved := #[]
  callSites := []
  init := .initialized
  statics := none
  mirror := none

def pool0 : Array CpInfo := pool [(5, u "<init>"), (0, u "()V"), (1, .class_ 10), (1, u "java/lang/Object")] 113

def k0m0 : Method := { name := "<init>", desc := "()V", sig := { parameters := [], returnType := none }, accessFlags := 1, code := none }
/-- java/lang/Object -/
def k0 : Class := { plain "java/lang/Object" none with
  accessFlags := 33
  interfaces := #[]
  cf := some (fileOf pool0 8 #[] #[{ accessFlags := 1, nameIndex := 5, descriptorIndex := 6, attributes := #[] }] 33 0 #[] #[])
  fields := #[]
  methods := #[k0m0]
  instanceTypes := #[]
  staticTypes := #[]
  resolved := Array.replicate 124 none
  statics := none }

def pool1 : Array CpInfo := pool [(2, .class_ 4), (1, u "java/lang/Object"), (0, u "<init>"), (0, u "()V"), (0, .methodref 8 9), (0, .class_ 10), (0, .nameAndType 11 12), (0, u "com/example/link_prestige/linkprestige/LinkLineLastIndexOfPinLaw"), (0, u "pick"), (0, u "(JIIB)B"), (0, .integer 2147483647), (0, .methodref 8 15), (0, .nameAndType 16 17), (0, u "hit"), (0, u "([BIIIB)Z"), (0, .methodref 19 20), (0, .class_ 21), (0, .nameAndType 22 23), (0, u "com/example/link_prestige/linkprestige/LinkLine"), (0, u "lastIndexOf"), (0, u "([BIIB)I"), (2, u "law"), (0, u "(JIIII)Z")] 5

def k1m0 : Method := { name := "<init>", desc := "()V", sig := { parameters := [], returnType := none }, accessFlags := 1, code := none }
def k1c1 : Code := { maxStack := 7, maxLocals := 11, code := code, exceptionTable := #[], attributes := #[] }
def k1m1 : Method := { name := "law", desc := "(JIIII)Z", sig := { parameters := [.long, .int, .int, .int, .int], returnType := some .boolean }, accessFlags := 9, code := some k1c1 }
def k1c2 : Code := { maxStack := 4, maxLocals := 5, code := method_3_code, exceptionTable := #[], attributes := #[] }
def k1m2 : Method := { name := "pick", desc := "(JIIB)B", sig := { parameters := [.long, .int, .int, .byte], returnType := some .byte }, accessFlags := 10, code := some k1c2 }
def k1c3 : Code := { maxStack := 2, maxLocals := 5, code := method_4_code, exceptionTable := #[], attributes := #[] }
def k1m3 : Method := { name := "hit", desc := "([BIIIB)Z", sig := { parameters := [(.array .byte), .int, .int, .int, .byte], returnType := some .boolean }, accessFlags := 10, code := some k1c3 }
/-- com/example/link_prestige/linkprestige/LinkLineLastIndexOfPinLaw -/
def k1 : Class := { plain "com/example/link_prestige/linkprestige/LinkLineLastIndexOfPinLaw" (some 0) with
  accessFlags := 49
  interfaces := #[]
  cf := some (fileOf pool1 8 #[] #[{ accessFlags := 1, nameIndex := 5, descriptorIndex := 6, attributes := #[] }, { accessFlags := 9, nameIndex := 26, descriptorIndex := 27, attributes := #[] }, { accessFlags := 10, nameIndex := 11, descriptorIndex := 12, attributes := #[] }, { accessFlags := 10, nameIndex := 16, descriptorIndex := 17, attributes := #[] }] 49 2 #[] #[])
  fields := #[]
  methods := #[k1m0, k1m1, k1m2, k1m3]
  instanceTypes := #[]
  staticTypes := #[]
  resolved := Array.replicate 33 none
  statics := none }

def pool2 : Array CpInfo := pool [(12, .class_ 14), (1, u "com/example/link_prestige/linkprestige/LinkLine"), (0, u "<init>"), (2, .class_ 20), (1, u "java/lang/Object"), (0, u "()V"), (2, u "holds"), (0, u "Ljava/lang/String;"), (2, u "part"), (2, u "first"), (2, u "second"), (2, u "definition"), (30, u "sourceStart"), (0, u "I"), (2, u "sourceEnd"), (2, u "targetStart"), (2, u "targetEnd"), (3, u "([BIIB)I"), (26, u "TAB"), (0, u "B"), (2, u "SPACE"), (1, u "CR"), (1, u "COMMENT"), (10, u "lastIndexOf")] 25

def k2m0 : Method := { name := "<init>", desc := "()V", sig := { parameters := [], returnType := none }, accessFlags := 1, code := none }
def k2c1 : Code := { maxStack := 2, maxLocals := 5, code := prog_18_method_15_code, exceptionTable := #[], attributes := #[] }
def k2m1 : Method := { name := "lastIndexOf", desc := "([BIIB)I", sig := { parameters := [(.array .byte), .int, .int, .byte], returnType := some .int }, accessFlags := 8, code := some k2c1 }
/-- com/example/link_prestige/linkprestige/LinkLine -/
def k2 : Class := { plain "com/example/link_prestige/linkprestige/LinkLine" (some 0) with
  accessFlags := 33
  interfaces := #[]
  cf := some (fileOf pool2 12 #[] #[{ accessFlags := 1, nameIndex := 15, descriptorIndex := 21, attributes := #[] }, { accessFlags := 8, nameIndex := 128, descriptorIndex := 82, attributes := #[] }] 33 18 #[] #[{ accessFlags := 26, nameIndex := 109, descriptorIndex := 110, attributes := #[] }, { accessFlags := 26, nameIndex := 113, descriptorIndex := 110, attributes := #[] }, { accessFlags := 26, nameIndex := 115, descriptorIndex := 110, attributes := #[] }, { accessFlags := 26, nameIndex := 117, descriptorIndex := 110, attributes := #[] }, { accessFlags := 18, nameIndex := 24, descriptorIndex := 25, attributes := #[] }, { accessFlags := 18, nameIndex := 28, descriptorIndex := 25, attributes := #[] }, { accessFlags := 18, nameIndex := 31, descriptorIndex := 25, attributes := #[] }, { accessFlags := 18, nameIndex := 34, descriptorIndex := 25, attributes := #[] }, { accessFlags := 18, nameIndex := 37, descriptorIndex := 25, attributes := #[] }, { accessFlags := 2, nameIndex := 68, descriptorIndex := 69, attributes := #[] }, { accessFlags := 2, nameIndex := 72, descriptorIndex := 69, attributes := #[] }, { accessFlags := 2, nameIndex := 75, descriptorIndex := 69, attributes := #[] }, { accessFlags := 2, nameIndex := 78, descriptorIndex := 69, attributes := #[] }])
  fields := #[{ name := "TAB", type := .byte, accessFlags := 26, slot := 0, constantValue := 0 }, { name := "SPACE", type := .byte, accessFlags := 26, slot := 1, constantValue := 0 }, { name := "CR", type := .byte, accessFlags := 26, slot := 2, constantValue := 0 }, { name := "COMMENT", type := .byte, accessFlags := 26, slot := 3, constantValue := 0 }, { name := "holds", type := (.object "java/lang/String"), accessFlags := 18, slot := 0, constantValue := 0 }, { name := "part", type := (.object "java/lang/String"), accessFlags := 18, slot := 1, constantValue := 0 }, { name := "first", type := (.object "java/lang/String"), accessFlags := 18, slot := 2, constantValue := 0 }, { name := "second", type := (.object "java/lang/String"), accessFlags := 18, slot := 3, constantValue := 0 }, { name := "definition", type := (.object "java/lang/String"), accessFlags := 18, slot := 4, constantValue := 0 }, { name := "sourceStart", type := .int, accessFlags := 2, slot := 5, constantValue := 0 }, { name := "sourceEnd", type := .int, accessFlags := 2, slot := 6, constantValue := 0 }, { name := "targetStart", type := .int, accessFlags := 2, slot := 7, constantValue := 0 }, { name := "targetEnd", type := .int, accessFlags := 2, slot := 8, constantValue := 0 }]
  methods := #[k2m0, k2m1]
  instanceTypes := #[(.object "java/lang/String"), (.object "java/lang/String"), (.object "java/lang/String"), (.object "java/lang/String"), (.object "java/lang/String"), .int, .int, .int, .int]
  staticTypes := #[.byte, .byte, .byte, .byte]
  resolved := Array.replicate 154 none
  statics := none }

def pool3 : Array CpInfo := pool [(1, u "java/lang/Cloneable"), (0, .class_ 1), (0, u "java/lang/Object"), (0, .class_ 3)] 3

/-- java/lang/Cloneable -/
def k3 : Class := { plain "java/lang/Cloneable" (some 0) with
  accessFlags := 1537
  interfaces := #[]
  cf := some (fileOf pool3 2 #[] #[] 1537 4 #[] #[])
  fields := #[]
  methods := #[]
  instanceTypes := #[]
  staticTypes := #[]
  resolved := Array.replicate 8 none
  statics := none }

def pool4 : Array CpInfo := pool [(1, u "java/io/Serializable"), (0, .class_ 1), (0, u "java/lang/Object"), (0, .class_ 3)] 3

/-- java/io/Serializable -/
def k4 : Class := { plain "java/io/Serializable" (some 0) with
  accessFlags := 1537
  interfaces := #[]
  cf := some (fileOf pool4 2 #[] #[] 1537 4 #[] #[])
  fields := #[]
  methods := #[]
  instanceTypes := #[]
  staticTypes := #[]
  resolved := Array.replicate 8 none
  statics := none }

/-- the primitive byte -/
def k5 : Class := { plain "byte" none with kind := .primitive 'B', accessFlags := 0x411 }
/-- [B -/
def k6 : Class := { plain "[B" (some 0) with kind := .array 5 .byte, interfaces := #[3, 4], accessFlags := 1041 }

/-- the primitive int -/
def k7 : Class := { plain "int" none with kind := .primitive 'I', accessFlags := 0x411 }
/-- [I -/
def k8 : Class := { plain "[I" (some 0) with kind := .array 7 .int, interfaces := #[3, 4], accessFlags := 1041 }

def heap : Heap := #[]
def classes : Array Class := #[k0, k1, k2, k3, k4, k5, k6, k7, k8]
def interned : List (Array UInt16 × Addr) := []
def slotsUsed : Nat := 0
def theMethod : MethodId := ⟨1, 1⟩
def args0 : Array Value := #[.long 5, .int 1, .int 2, .int 0, .int 3]
def aboutOver (below : List Frame) : State where
  vm := { classes := classes, interned := interned.toArray }
  heap := heap
  slotsUsed := slotsUsed
  threads := #[{ frames := .invoking theMethod args0 :: below }]
def below0 : List Frame := [.native { method := ⟨0, 0⟩, args := #[] }]
def about1 : State := aboutOver below0
def p0 : Program := .bare "" "" ""
def e0 : Env := launch0.env 0 0 0
theorem w_frames : about1.frames = Frame.invoking theMethod args0 :: below0 := rfl
set_option maxRecDepth 65536 in
theorem w_args : argsFit about1.vm theMethod args0 = true := by decide +kernel
set_option maxRecDepth 65536 in
theorem w_heap : heapFits about1 = true := by decide +kernel
set_option maxRecDepth 65536 in
theorem w_runnable : about1.curStatus? = some .runnable := by decide +kernel
set_option maxRecDepth 65536 in
theorem w_alone : about1.alone = true := by decide +kernel
set_option maxRecDepth 65536 in
theorem w_named : about1.methodNamed? x = some theMethod := by decide +kernel
set_option maxRecDepth 65536 in
theorem w_hears : about1.hears theMethod below0 = true := by decide +kernel
set_option maxRecDepth 65536 in
theorem w_ripe : about1.ripe theMethod args0 below0 = true := by decide +kernel
theorem w_running : about1.status = .running := rfl
set_option maxRecDepth 65536 in
theorem w_room : about1.hasRoom e0.platform room_1 = true :=
  launch0.hasRoom_least _ room_1 (by decide +kernel) (by decide +kernel) (by decide +kernel) (by decide +kernel) (by decide +kernel) (by decide +kernel)
theorem allAtoms_all (ts : List Jvm.Cond) (a : Array Jvm.Value) (st : Jvm.State) : (allAtoms ts).before a st = ts.all (fun c => c.before a st) := by
  induction ts with
  | nil => rfl
  | cons c t ih =>
    show (Jvm.Cond.and c (allAtoms t)).before a st = _
    rw [Jvm.Cond.before_and, ih, List.all_cons]
def words1 : List Jvm.Cond := Jvm.Cond.code x code maxLocals ret :: tables_1
/-- a 'code' word, met by the world's own term for the bytes: nothing is compared byte by byte -/
theorem code_word {y : MethodName} {bytes : ByteArray} {mx : Nat} {rt : Option FieldType} {a : Array Value} {s : State} {m : MethodId} {meth : Method} {c : Code} (h1 : s.methodNamed? y = some m) (h2 : s.vm.method? m = some meth) (h3 : meth.code = some c) (h4 : c.code = bytes)
    (h5 : (c.maxLocals == mx && c.exceptionTable.isEmpty && decide (c.maxStack ≤ mostOperands) && decide (meth.sig.returnType = rt) && !meth.locks && decide (parseMethodDescriptor y.desc = some meth.sig)) = true) : (Jvm.Cond.code y bytes mx rt).before a s = true := by
  simp only [Bool.and_eq_true, beq_iff_eq, Bool.not_eq_true', decide_eq_true_eq] at h5
  obtain ⟨⟨⟨⟨⟨g1, g2⟩, g3⟩, g4⟩, g5⟩, g6⟩ := h5
  simp [Cond.before, Cond.holds, Cond.value, h1, h2, h3, h4, g1, g2, g3, g4, g5, g6]
def isCode : Jvm.Cond → Bool
  | .code _ _ _ _ => true
  | _ => false
theorem all_split {L : List Jvm.Cond} {P : Jvm.Cond → Bool} (h1 : L.all (fun c => isCode c || P c) = true) (h2 : ∀ c ∈ L.filter isCode, P c = true) : L.all P = true := by
  refine List.all_eq_true.mpr fun c hc => ?_
  have h := List.all_eq_true.mp h1 c hc
  rcases Bool.eq_false_or_eq_true (isCode c) with hi | hi
  · exact h2 c (List.mem_filter.mpr ⟨hc, hi⟩)
  · simpa [hi] using h
set_option maxRecDepth 65536 in
theorem w_c0 : (Jvm.Cond.code x code maxLocals ret).before args0 about1 = true := code_word (m := ⟨1, 1⟩) (meth := k1m1) (c := k1c1) (by decide +kernel) rfl rfl rfl (by decide +kernel)
set_option maxRecDepth 65536 in
theorem w_c1 : (Jvm.Cond.code ({ cls := "com/example/link_prestige/linkprestige/LinkLineLastIndexOfPinLaw", name := "pick", desc := "(JIIB)B" } : Jvm.MethodName) method_3_code (5 : Nat) (Option.some Jvm.ClassFile.FieldType.byte)).before args0 about1 = true := code_word (m := ⟨1, 2⟩) (meth := k1m2) (c := k1c2) (by decide +kernel) rfl rfl rfl (by decide +kernel)
set_option maxRecDepth 65536 in
theorem w_c2 : (Jvm.Cond.code ({ cls := "com/example/link_prestige/linkprestige/LinkLineLastIndexOfPinLaw", name := "hit", desc := "([BIIIB)Z" } : Jvm.MethodName) method_4_code (5 : Nat) (Option.some Jvm.ClassFile.FieldType.boolean)).before args0 about1 = true := code_word (m := ⟨1, 3⟩) (meth := k1m3) (c := k1c3) (by decide +kernel) rfl rfl rfl (by decide +kernel)
set_option maxRecDepth 65536 in
theorem w_c3 : (Jvm.Cond.code ({ cls := "com/example/link_prestige/linkprestige/LinkLine", name := "lastIndexOf", desc := "([BIIB)I" } : Jvm.MethodName) prog_18_method_15_code (5 : Nat) (Option.some Jvm.ClassFile.FieldType.int)).before args0 about1 = true := code_word (m := ⟨2, 1⟩) (meth := k2m1) (c := k2c1) (by decide +kernel) rfl rfl rfl (by decide +kernel)
def codes1 : List Jvm.Cond := [Jvm.Cond.code x code maxLocals ret, Jvm.Cond.code ({ cls := "com/example/link_prestige/linkprestige/LinkLineLastIndexOfPinLaw", name := "pick", desc := "(JIIB)B" } : Jvm.MethodName) method_3_code (5 : Nat) (Option.some Jvm.ClassFile.FieldType.byte), Jvm.Cond.code ({ cls := "com/example/link_prestige/linkprestige/LinkLineLastIndexOfPinLaw", name := "hit", desc := "([BIIIB)Z" } : Jvm.MethodName) method_4_code (5 : Nat) (Option.some Jvm.ClassFile.FieldType.boolean), Jvm.Cond.code ({ cls := "com/example/link_prestige/linkprestige/LinkLine", name := "lastIndexOf", desc := "([BIIB)I" } : Jvm.MethodName) prog_18_method_15_code (5 : Nat) (Option.some Jvm.ClassFile.FieldType.int)]
set_option maxRecDepth 65536 in
theorem codes_eq : words1.filter isCode = codes1 := rfl
theorem w_codes : ∀ c ∈ words1.filter isCode, c.before args0 about1 = true := by
  rw [codes_eq]
  intro c hc
  simp only [codes1, List.mem_cons, List.not_mem_nil, or_false] at hc
  rcases hc with rfl | rfl | rfl | rfl
  · exact w_c0
  · exact w_c1
  · exact w_c2
  · exact w_c3
set_option maxRecDepth 65536 in
theorem w_t1 : words1.all (fun c => isCode c || c.before args0 about1) = true := by decide +kernel
theorem w_tables : (allAtoms (Jvm.Cond.code x code maxLocals ret :: tables_1)).before args0 about1 = true := by
  rw [allAtoms_all]
  show words1.all (fun c => c.before args0 about1) = true
  refine all_split ?_ w_codes
  rw [w_t1]
set_option maxRecDepth 65536 in
theorem w_case : (Jvm.Cond.and given_1 narrow_1).before args0 about1 = true := by decide +kernel
theorem w_applies : (headSpec (Jvm.Cond.code x code maxLocals ret :: tables_1) room_1).applies x e0.platform about1 = true :=
  (Spec.applies_iff w_frames).mpr ⟨w_running, w_runnable, w_alone, w_named, w_hears, w_ripe, w_room, w_tables⟩
theorem atStart : AtStart classFile x code maxLocals ret World_1 tables_1 room_1 Calls_1 rest_1 Pre_1 launch0 p0 e0 about1 theMethod args0 below0 :=
  ⟨lists_1, trivial, launch0.admits_env _ _ _, launch0.least_env, fairChoices_fair.cas, fairChoices_fair.clock, w_frames, w_args, w_heap, w_applies, trivial, trivial, w_case⟩
end start1
theorem witness_1 : WitnessClaimed_1 := ⟨start1.p0, start1.e0, start1.about1, start1.theMethod, start1.args0, start1.below0, start1.atStart⟩
end Jvm.Pilot.@@N@@
