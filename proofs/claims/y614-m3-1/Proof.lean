import JvmDerived
import JvmDerived.Pilot.@@N@@Statement
import JvmDerived.Pilot.@@N@@Code
set_option linter.unusedVariables false
set_option linter.unusedSimpArgs false
namespace Jvm.Pilot.@@N@@
open Jvm Jvm.ClassFile Sem Op Lib Jvm.Free Jvm.Stand Jvm.LawKit Jvm.RoadKit Bundle Jvm.Pilot.@@N@@.Jvm.D
section OwnGo
/-! a run that comes to its end: what a body's walk owes, of any state on the way -/
def own_Go (tb : Tables) (e : Env) (below : List Frame) (Q : Outcome → State → Prop) (U : State) : Prop := ∃ s₂ o, Steps tb e below U s₂ ∧ s₂.status = .running ∧ Ended s₂ below o ∧ Q o s₂
theorem own_by {tb : Tables} {e : Env} {below : List Frame} {Q : Outcome → State → Prop} {U V : State} (h : ∀ t, Steps tb e below V t → Steps tb e below U t) (k : own_Go tb e below Q V) : own_Go tb e below Q U := by
  obtain ⟨s2, o, h1, h2⟩ := k; exact ⟨s2, o, h _ h1, h2⟩
theorem own_tr {tb : Tables} {e : Env} {below : List Frame} {Q : Outcome → State → Prop} {U V : State} (h : Steps tb e below U V) (k : own_Go tb e below Q V) : own_Go tb e below Q U := own_by (fun _ q => h.trans q) k
theorem own_gen {α : Type} {x y : α} (h : x = y) {tb : Tables} {e : Env} {below : List Frame} {Q : Outcome → State → Prop} (F : α → State) (k : own_Go tb e below Q (F y)) : own_Go tb e below Q (F x) := h ▸ k
def own_ap (f : Option Value → Heap → List Loc → Prop) (v : Option Value) (h : Heap) (L : List Loc) : Prop := f v h L
/-- what a body's contract says of its end -/
def own_Q (s : State) (Qh : Option Value → Heap → List Loc → Prop) (C S : Nat) (o : Outcome) (U' : State) : Prop := ∃ v L, o = .returned v ∧ Qh v U'.heap L ∧ FrameEnd s o U' L C S
variable {p : Program} {l : Launch} {e : Env} {R : Room} {s : State} {m : MethodId} {args : Array Value} {below : List Frame} {meth : Method} {c : Code} {T : State} {locs : List Loc} {cells slots : Nat} {Z : State} {h : Heap} {a : Addr} {pc : Nat} {Ls : Array Slot} {rest : List Value} {Qh : Option Value → Heap → List Loc → Prop} {C S : Nat} {Q : Outcome → State → Prop}
theorem own_leave (X : Stand p l e R s m args below meth c T locs cells slots) (hlk : meth.locks = false) {v : Option Value} (hv : meth.sig.returnType = none → v = none) {f : JFrame}
    (hst : ∀ fs, (∀ (f : JFrame) (acts : List Action), f.method = m → f.locked = none → f.entered = [] → (doReturn e (T.setTop f) acts v).1 = T.setFrames fs) → Steps p.tables e below (T.setTop f) (T.setFrames fs))
    (hq : Qh v T.heap locs) (hC : cells ≤ C) (hS : slots ≤ S) : own_Go p.tables e below (own_Q s Qh C S) (T.setTop f) := by
  obtain ⟨fs, hr, hrun, hended, hW, hsame⟩ := X.leave (v := v) hv hlk
  exact ⟨_, _, hst fs hr, hrun, hended, _, _, rfl, hq, ⟨_, rfl⟩, hW, hsame.mono hC hS⟩
theorem own_retI (X : Stand p l e R s m args below meth c T locs cells slots) (hx : p.tables.exec = Jvm.exec) (hlk : meth.locks = false) (eT : T.heap = h) (hret : meth.sig.returnType = some .int) {z : Int32} (hd : decode c.code pc = .ok (.ireturn, 1))
    (hq : Qh (some (.int z)) h locs) (hC : cells ≤ C) (hS : slots ≤ S) : own_Go p.tables e below (own_Q s Qh C S) (T.setTop (mkF m pc Ls (.int z :: rest))) :=
  own_leave X hlk (v := some (.int z)) (fun q => by rw [hret] at q; cases q) (fun fs hr => retOut X hx hret rfl (Or.inl ⟨rfl, Or.inl rfl, z, rfl⟩) hd hr) (eT ▸ hq) hC hS
theorem own_retN (X : Stand p l e R s m args below meth c T locs cells slots) (hx : p.tables.exec = Jvm.exec) (hlk : meth.locks = false) (eT : T.heap = h) {t : FieldType} (hret : meth.sig.returnType = some t) (ht : t = .boolean ∨ t = .byte ∨ t = .char ∨ t = .short) {z : Int32} (hd : decode c.code pc = .ok (.ireturn, 1))
    (hq : Qh (some (.int (nar t z))) h locs) (hC : cells ≤ C) (hS : slots ≤ S) : own_Go p.tables e below (own_Q s Qh C S) (T.setTop (mkF m pc Ls (.int z :: rest))) :=
  own_leave X hlk (v := some (.int (nar t z))) (fun q => by rw [hret] at q; cases q) (fun fs hr => retN X hx hret ht hd hr) (eT ▸ hq) hC hS
theorem own_retJ (X : Stand p l e R s m args below meth c T locs cells slots) (hx : p.tables.exec = Jvm.exec) (hlk : meth.locks = false) (eT : T.heap = h) (hret : meth.sig.returnType = some .long) {z : Int64} (hd : decode c.code pc = .ok (.lreturn, 1))
    (hq : Qh (some (.long z)) h locs) (hC : cells ≤ C) (hS : slots ≤ S) : own_Go p.tables e below (own_Q s Qh C S) (T.setTop (mkF m pc Ls (.long z :: rest))) :=
  own_leave X hlk (v := some (.long z)) (fun q => by rw [hret] at q; cases q) (fun fs hr => retOut X hx hret rfl (Or.inr (Or.inl ⟨rfl, rfl, z, rfl⟩)) hd hr) (eT ▸ hq) hC hS
theorem own_retA (X : Stand p l e R s m args below meth c T locs cells slots) (hx : p.tables.exec = Jvm.exec) (hlk : meth.locks = false) (eT : T.heap = h) {t : FieldType} (hret : meth.sig.returnType = some t) (ht : t.isReference = true) {w : Value} (hn : narrow t w = w) (hw : w.isRef = true) (hd : decode c.code pc = .ok (.areturn, 1))
    (hq : Qh (some w) h locs) (hC : cells ≤ C) (hS : slots ≤ S) : own_Go p.tables e below (own_Q s Qh C S) (T.setTop (mkF m pc Ls (w :: rest))) :=
  own_leave X hlk (v := some w) (fun q => by rw [hret] at q; cases q) (fun fs hr => retOut X hx hret hn (Or.inr (Or.inr (Or.inr (Or.inr ⟨rfl, ht, hw⟩)))) hd hr) (eT ▸ hq) hC hS
theorem own_retV (X : Stand p l e R s m args below meth c T locs cells slots) (hx : p.tables.exec = Jvm.exec) (hlk : meth.locks = false) (eT : T.heap = h) (hret : meth.sig.returnType = none) (hd : decode c.code pc = .ok (.return_, 1))
    (hq : Qh none h locs) (hC : cells ≤ C) (hS : slots ≤ S) : own_Go p.tables e below (own_Q s Qh C S) (T.setTop (mkF m pc Ls [])) :=
  own_leave X hlk (v := none) (fun _ => rfl) (fun fs hr => X.returnOut hx hret hd hr) (eT ▸ hq) hC hS
/-! an array by its places -/
def own_upd {α : Type} (f : Nat → α) (k : Nat) (v : α) : Nat → α := fun j => if j = k then v else f j
theorem own_upd_eq {α : Type} (f : Nat → α) (k : Nat) (v : α) : own_upd f k v k = v := by simp [own_upd]
theorem own_upd_ne {α : Type} (f : Nat → α) {k j : Nat} (v : α) (q : j ≠ k) : own_upd f k v j = f j := by simp [own_upd, q]
def own_Ar (Z : State) (h : Heap) (a : Addr) (ty : FieldType) (n : Nat) (f : Nat → Value) : Prop := ∃ cl : Cell, Arr Z h a cl ty ∧ cl.slots.size = n ∧ ∀ j, j < n → cl.slots[j]? = some (f j)
/-- ints and what is kept as ints -/
abbrev own_AI (Z : State) (h : Heap) (a : Addr) (ty : FieldType) (n : Nat) (f : Nat → Int32) : Prop := own_Ar Z h a ty n (fun j => .int (f j))
abbrev own_AJ (Z : State) (h : Heap) (a : Addr) (n : Nat) (f : Nat → Int64) : Prop := own_Ar Z h a .long n (fun j => .long (f j))
section
variable {h' : Heap} {b : Addr} {ty : FieldType} {n : Nat} {f : Nat → Value} {v : Value} {sl : Nat} {ws : List Addr}
theorem own_Ar.lt (A : own_Ar Z h a ty n f) : a < h.size := by obtain ⟨cl, q, -⟩ := A; exact q.lt
theorem own_Ar.ext (A : own_Ar Z h a ty n f) (E : Ext h h') : own_Ar Z h' a ty n f := by obtain ⟨cl, q, r⟩ := A; exact ⟨cl, q.ext E, r⟩
theorem own_Ar.other (A : own_Ar Z h a ty n f) (W : Wr h h' b sl v) (q : a ≠ b) : own_Ar Z h' a ty n f := by obtain ⟨cl, r, r'⟩ := A; exact ⟨cl, r.other W q, r'⟩
theorem own_Ar.keep (A : own_Ar Z h a ty n f) (K : Keep h h' ws) (q : a ∉ ws) : own_Ar Z h' a ty n f := by obtain ⟨cl, r, r'⟩ := A; exact ⟨cl, ⟨K.2.1 _ _ r.1 q, r.2⟩, r'⟩
theorem own_Ar.congr (A : own_Ar Z h a ty n f) {g : Nat → Value} (q : ∀ j, j < n → f j = g j) : own_Ar Z h a ty n g := by obtain ⟨cl, r, r1, r2⟩ := A; exact ⟨cl, r, r1, fun j hj => by rw [r2 j hj, q j hj]⟩
theorem own_in {j : Int32} {k n : Nat} (hk : j.toInt = (k : Int)) (hn : k < n) {cl : Cell} (S : cl.slots.size = n) : ¬ (j < 0 ∨ cl.slots.size ≤ j.toNatClampNeg) ∧ j.toNatClampNeg = k := by
  have q : j.toNatClampNeg = k := by simp [Int32.toNatClampNeg, hk]
  refine ⟨fun r => ?_, q⟩
  rcases r with r | r
  · rw [Int32.lt_iff_toInt_lt] at r; simp only [Int32.reduceToInt] at r; omega
  · omega
theorem own_Ar.set (A : own_Ar Z h a ty n f) {k : Nat} (hk : k < n) (W : Wr h h' a k v) : own_Ar Z h' a ty n (own_upd f k v) := by
  obtain ⟨cl, r, r1, r2⟩ := A
  refine ⟨_, r.same W, by rw [sz_set]; exact r1, fun j hj => ?_⟩
  show (cl.slots.setIfInBounds k v)[j]? = _
  by_cases q : j = k
  · subst q; simp [own_upd, r1, hj]
  · rw [Array.getElem?_setIfInBounds_ne (fun y => q y.symm), r2 j hj, own_upd_ne _ _ q]
end
theorem own_bal (X : Stand p l e R s m args below meth c T locs cells slots) (hx : p.tables.exec = Jvm.exec) (hZ : Z.Warmed39 s.vm) (eT : T.heap = h) {n : Nat} {f : Nat → Value} (A : own_Ar Z h a .byte n f) {j : Int32} (k : Nat) (hk : j.toInt = (k : Int)) (hn : k < n) (hd : decode c.code pc = .ok (.baload, 1)) {t : State}
    (kt : Steps p.tables e below (T.setTop (mkF m (pc + 1) Ls (f k :: rest))) t) : Steps p.tables e below (T.setTop (mkF m pc Ls (.int j :: .ref a :: rest))) t := by
  obtain ⟨cl, r, r1, r2⟩ := A
  obtain ⟨q1, q2⟩ := own_in hk hn r1
  exact X.baloadBytes hx (j := j) (v := f k) (by rw [eT]; exact r.1) (State.isArrayOf_alike hZ.alike r.2.1) r.2.2 q1 (by rw [q2]; exact r2 k hn) (g := mkF m pc Ls (.int j :: .ref a :: rest)) rfl rfl hd _ kt
theorem own_ial (X : Stand p l e R s m args below meth c T locs cells slots) (hx : p.tables.exec = Jvm.exec) (hZ : Z.Warmed39 s.vm) (eT : T.heap = h) {n : Nat} {f : Nat → Value} (A : own_Ar Z h a .int n f) {j : Int32} (k : Nat) (hk : j.toInt = (k : Int)) (hn : k < n) (hd : decode c.code pc = .ok (.iaload, 1)) {t : State}
    (kt : Steps p.tables e below (T.setTop (mkF m (pc + 1) Ls (f k :: rest))) t) : Steps p.tables e below (T.setTop (mkF m pc Ls (.int j :: .ref a :: rest))) t := by
  obtain ⟨cl, r, r1, r2⟩ := A
  obtain ⟨q1, q2⟩ := own_in hk hn r1
  exact X.iaload hx (j := j) (v := f k) (by rw [eT]; exact r.1) (State.isArrayOf_alike hZ.alike r.2.1) r.2.2 q1 (by rw [q2]; exact r2 k hn) (g := mkF m pc Ls (.int j :: .ref a :: rest)) rfl rfl hd _ kt
theorem own_lal (X : Stand p l e R s m args below meth c T locs cells slots) (hx : p.tables.exec = Jvm.exec) (hZ : Z.Warmed39 s.vm) (eT : T.heap = h) {n : Nat} {f : Nat → Value} (A : own_Ar Z h a .long n f) {j : Int32} (k : Nat) (hk : j.toInt = (k : Int)) (hn : k < n) (hd : decode c.code pc = .ok (.laload, 1)) {t : State}
    (kt : Steps p.tables e below (T.setTop (mkF m (pc + 1) Ls (f k :: rest))) t) : Steps p.tables e below (T.setTop (mkF m pc Ls (.int j :: .ref a :: rest))) t := by
  obtain ⟨cl, r, r1, r2⟩ := A
  obtain ⟨q1, q2⟩ := own_in hk hn r1
  exact X.laload hx (j := j) (v := f k) (by rw [eT]; exact r.1) (State.isArrayOf_alike hZ.alike r.2.1) r.2.2 q1 (by rw [q2]; exact r2 k hn) (g := mkF m pc Ls (.int j :: .ref a :: rest)) rfl rfl hd _ kt
theorem own_len (X : Stand p l e R s m args below meth c T locs cells slots) (hx : p.tables.exec = Jvm.exec) (hZ : Z.Warmed39 s.vm) (eT : T.heap = h) {ty : FieldType} {n : Nat} {f : Nat → Value} (A : own_Ar Z h a ty n f) (z : Int32) (hz : z = n.toInt32) (hd : decode c.code pc = .ok (.arraylength, 1)) {t : State}
    (kt : Steps p.tables e below (T.setTop (mkF m (pc + 1) Ls (.int z :: rest))) t) : Steps p.tables e below (T.setTop (mkF m pc Ls (.ref a :: rest))) t := by
  obtain ⟨cl, r, r1, r2⟩ := A
  refine X.arraylength hx (by rw [eT]; exact r.1) (State.isArrayOf_alike hZ.alike r.2.1) (g := mkF m pc Ls (.ref a :: rest)) rfl rfl hd _ ?_
  rw [r1, ← hz]; exact kt
theorem own_bas (X : Stand p l e R s m args below meth c T locs cells slots) (hx : p.tables.exec = Jvm.exec) (hZ : Z.Warmed39 s.vm) (eT : T.heap = h) {n : Nat} {f : Nat → Int32} (A : own_AI Z h a .byte n f) {j x : Int32} (k : Nat) (hk : j.toInt = (k : Int)) (hn : k < n) (hd : decode c.code pc = .ok (.bastore, 1))
    (K : ∀ T' h', Stand p l e R s m args below meth c T' (locs ++ [⟨a, k⟩]) cells slots → T'.heap = h' → Wr h h' a k (.int (nar .byte x)) → own_AI Z h' a .byte n (own_upd f k (nar .byte x)) → own_Go p.tables e below Q (T'.setTop (mkF m (pc + 1) Ls rest))) :
    own_Go p.tables e below Q (T.setTop (mkF m pc Ls (.int x :: .int j :: .ref a :: rest))) := by
  obtain ⟨cl, r, r1, r2⟩ := id A
  obtain ⟨q1, q2⟩ := own_in hk hn r1
  obtain ⟨T', h', X', e', W, st⟩ := stB X hx hZ eT r (j := j) (x := x) q1 (g := mkF m pc Ls (.int x :: .int j :: .ref a :: rest)) rfl rfl hd
  rw [q2] at X' W
  exact own_by st (K T' h' X' e' W ((A.set hn W).congr fun i hi => by simp only [own_upd]; split <;> rfl))
theorem own_ias (X : Stand p l e R s m args below meth c T locs cells slots) (hx : p.tables.exec = Jvm.exec) (hZ : Z.Warmed39 s.vm) (eT : T.heap = h) {n : Nat} {f : Nat → Int32} (A : own_AI Z h a .int n f) {j x : Int32} (k : Nat) (hk : j.toInt = (k : Int)) (hn : k < n) (hd : decode c.code pc = .ok (.iastore, 1))
    (K : ∀ T' h', Stand p l e R s m args below meth c T' (locs ++ [⟨a, k⟩]) cells slots → T'.heap = h' → Wr h h' a k (.int x) → own_AI Z h' a .int n (own_upd f k x) → own_Go p.tables e below Q (T'.setTop (mkF m (pc + 1) Ls rest))) :
    own_Go p.tables e below Q (T.setTop (mkF m pc Ls (.int x :: .int j :: .ref a :: rest))) := by
  obtain ⟨cl, r, r1, r2⟩ := id A
  obtain ⟨q1, q2⟩ := own_in hk hn r1
  obtain ⟨T', h', X', e', W, st⟩ := stI X hx hZ eT r (j := j) (x := x) q1 (g := mkF m pc Ls (.int x :: .int j :: .ref a :: rest)) rfl rfl hd
  rw [q2] at X' W
  exact own_by st (K T' h' X' e' W ((A.set hn W).congr fun i hi => by simp only [own_upd]; split <;> rfl))
theorem own_las (X : Stand p l e R s m args below meth c T locs cells slots) (hx : p.tables.exec = Jvm.exec) (hZ : Z.Warmed39 s.vm) (eT : T.heap = h) {n : Nat} {f : Nat → Int64} (A : own_AJ Z h a n f) {j : Int32} {x : Int64} (k : Nat) (hk : j.toInt = (k : Int)) (hn : k < n) (hd : decode c.code pc = .ok (.lastore, 1))
    (K : ∀ T' h', Stand p l e R s m args below meth c T' (locs ++ [⟨a, k⟩]) cells slots → T'.heap = h' → Wr h h' a k (.long x) → own_AJ Z h' a n (own_upd f k x) → own_Go p.tables e below Q (T'.setTop (mkF m (pc + 1) Ls rest))) :
    own_Go p.tables e below Q (T.setTop (mkF m pc Ls (.long x :: .int j :: .ref a :: rest))) := by
  obtain ⟨cl, r, r1, r2⟩ := id A
  obtain ⟨q1, q2⟩ := own_in hk hn r1
  obtain ⟨T', h', X', e', W, st⟩ := stJ X hx hZ eT r (j := j) (x := x) q1 (g := mkF m pc Ls (.long x :: .int j :: .ref a :: rest)) rfl rfl hd
  rw [q2] at X' W
  exact own_by st (K T' h' X' e' W ((A.set hn W).congr fun i hi => by simp only [own_upd]; split <;> rfl))
theorem own_newP (X : Stand p l e R s m args below meth c T locs cells slots) (hx : p.tables.exec = Jvm.exec) (hZ : Z.Warmed39 s.vm) {a0 : Array Value} {aty : ArrayType} (w : (Cond.arrayClass (newarray.typeOf aty)).before a0 Z = true) (eT : T.heap = h) {n : Int32} (k : Nat) (hk : n.toInt = (k : Int)) (cap : Nat) (hcap : k ≤ cap) (hb : cap * 8 ≤ 536870912) (hc : cells + 1 ≤ R.cells) (hl : slots + cap ≤ R.slots)
    (hd : decode c.code pc = .ok (.newarray aty, 2))
    (K : ∀ T' h', Stand p l e R s m args below meth c T' locs (cells + 1) (slots + cap) → T'.heap = h' → Ext h h' → own_Ar Z h' h.size (newarray.typeOf aty) k (fun _ => defaultValue (newarray.typeOf aty)) → own_Go p.tables e below Q (T'.setTop (mkF m (pc + 2) Ls (.ref h.size :: rest)))) :
    own_Go p.tables e below Q (T.setTop (mkF m pc Ls (.int n :: rest))) := by
  have q : n.toNatClampNeg = k := by simp [Int32.toNatClampNeg, hk]
  have q0 : ¬ n < 0 := by rw [Int32.lt_iff_toInt_lt]; simp only [Int32.reduceToInt]; omega
  obtain ⟨T', h', kk, X', e', E, A, st⟩ := newP X hx hZ w eT (n := n) (g := mkF m pc Ls (.int n :: rest)) rfl hd rfl q0 (cap := cap) (by rw [q]; exact hcap) hb hc hl
  refine own_by st (K T' h' X' e' E ⟨_, A, by rw [sz_new, q], fun j hj => ?_⟩)
  simp [newA, q, hj]
theorem own_size_wr {h h' : Heap} {b : Addr} {sl : Nat} {v : Value} {n0 : Nat} (W : Wr h h' b sl v) (q : n0 ≤ h.size) : n0 ≤ h'.size := by rw [W.size]; exact q
end OwnGo
theorem own_ofNat {i : Int32} {e : Nat} (h : i.toInt = (e : Int)) : i = Int32.ofNat e := by
  have r := rng32 i
  exact Int32.toInt_inj.mp (by rw [h, Int32.toInt_ofNat_small (by omega)])
theorem own_ofN {e : Nat} (h : e < 2147483648) : (Int32.ofNat e).toInt = (e : Int) := Int32.toInt_ofNat_small h
abbrev own_dig (x : Int32) : Prop := ¬ x < 48 ∧ ¬ 57 < x
/-- the end of the run of digits from i on, r places left -/
def own_de (f : Nat → Int32) : Nat → Nat → Nat
  | 0, i => i
  | r + 1, i => if own_dig (f i) then own_de f r (i + 1) else i
theorem own_de_le (f : Nat → Int32) : ∀ r i, own_de f r i ≤ i + r
  | 0, i => Nat.le_refl _
  | r + 1, i => by
    rw [own_de]; split
    · have := own_de_le f r (i + 1); omega
    · omega
theorem own_de_all (f : Nat → Int32) : ∀ r i, (∀ j, i ≤ j → j < i + r → own_dig (f j)) → own_de f r i = i + r
  | 0, i, _ => rfl
  | r + 1, i, h => by
    rw [own_de, if_pos (h i (by omega) (by omega)), own_de_all f r (i + 1) (fun j h1 h2 => h j (by omega) (by omega))]; omega
theorem own_de_not (f : Nat → Int32) : ∀ r i k, i ≤ k → k < i + r → ¬ own_dig (f k) → own_de f r i ≠ i + r
  | 0, i, k, h1, h2, _ => by omega
  | r + 1, i, k, h1, h2, h3 => by
    rw [own_de]; split
    · rename_i hd
      have hne : i ≠ k := fun e => h3 (e ▸ hd)
      have := own_de_not f r (i + 1) k (by omega) (by omega) h3; omega
    · omega
def own_first (f : Nat → Int32) (F E : Nat) : Nat := if F < E ∧ f F = 45 then F + 1 else F
def own_iw (f : Nat → Int32) (F E : Nat) (mx : Int32) : Int32 := if 1 ≤ E - own_first f F E ∧ ((E - own_first f F E : Nat) : Int) ≤ mx.toInt ∧ own_de f (E - own_first f F E) (own_first f F E) = E then 1 else 0
theorem own_first_le (f : Nat → Int32) (F E : Nat) (h : F ≤ E) : F ≤ own_first f F E ∧ own_first f F E ≤ E := by rw [own_first]; split <;> omega
theorem own_inc {i j : Int32} {e : Nat} (h : i.toInt = (e : Int)) (he : e ≤ 100) (hj : i + (1 : Int32) = j) : j.toInt = ((e + 1 : Nat) : Int) := by
  have c := c_iadd i 1
  have l : (1 : Int32).toInt = 1 := by decide
  have r2 := rng32 j
  rw [hj, l] at c
  omega
theorem own_fst (f : Nat → Int32) (F E : Nat) (p q g : Int32) (hp : p.toInt = (F : Int)) (hq : q.toInt = (E : Int)) (hE : E ≤ 4) (h : (if p < q then (if f F = (45 : Int32) then (p + (1 : Int32)) else p) else p) = g) : g.toInt = (own_first f F E : Int) := by
  subst h
  rw [own_first]
  by_cases h1 : p < q
  · have h1' : F < E := by rw [Int32.lt_iff_toInt_lt] at h1; omega
    by_cases h2 : f F = 45
    · rw [if_pos h1, if_pos h2, if_pos ⟨h1', h2⟩]; exact own_inc hp (by omega) rfl
    · rw [if_pos h1, if_neg h2, if_neg (fun q => h2 q.2)]; exact hp
  · have h1' : ¬ F < E := by rw [Int32.lt_iff_toInt_lt] at h1; omega
    rw [if_neg h1, if_neg (fun q => h1' q.1)]; exact hp
theorem own_sub (E G : Nat) (q g d : Int32) (hq : q.toInt = (E : Int)) (hg : g.toInt = (G : Int)) (hE : E ≤ 4) (hG : G ≤ E) (h : q - g = d) : d.toInt = ((E - G : Nat) : Int) := by
  have c := c_isub q g
  have r := rng32 d
  rw [h] at c
  omega
def own_ok (f : Nat → Int32) (k : Nat) (i g q : Int32) : Int32 := if i < g then 1 else if i < q then (if f k < 48 then 0 else if 57 < f k then 0 else 1) else 1
theorem own_ok0 (f : Nat → Int32) (k : Nat) (i g q : Int32) (G E : Nat) (hi : i.toInt = (k : Int)) (hg : g.toInt = (G : Int)) (hq : q.toInt = (E : Int)) : own_ok f k i g q = 0 ↔ (G ≤ k ∧ k < E ∧ ¬ own_dig (f k)) := by
  have a1 : i < g ↔ k < G := by rw [Int32.lt_iff_toInt_lt, hi, hg]; omega
  have a2 : i < q ↔ k < E := by rw [Int32.lt_iff_toInt_lt, hi, hq]; omega
  rw [own_ok]
  by_cases h1 : k < G
  · rw [if_pos (a1.mpr h1)]; exact ⟨fun q => absurd q (by decide), fun q => by omega⟩
  · rw [if_neg (fun q => h1 (a1.mp q))]
    by_cases h2 : k < E
    · rw [if_pos (a2.mpr h2)]
      by_cases h3 : f k < 48
      · rw [if_pos h3]; exact ⟨fun _ => ⟨by omega, h2, fun q => q.1 h3⟩, fun _ => rfl⟩
      · rw [if_neg h3]
        by_cases h4 : 57 < f k
        · rw [if_pos h4]; exact ⟨fun _ => ⟨by omega, h2, fun q => q.2 h4⟩, fun _ => rfl⟩
        · rw [if_neg h4]; exact ⟨fun q => absurd q (by decide), fun q => absurd ⟨h3, h4⟩ q.2.2⟩
    · rw [if_neg (fun q => h2 (a2.mp q))]; exact ⟨fun q => absurd q (by decide), fun q => by omega⟩
theorem own_iw_val (f : Nat → Int32) (F E : Nat) (mx d : Int32) (hd : d.toInt = ((E - own_first f F E : Nat) : Int)) : own_iw f F E mx = if d < (1 : Int32) then 0 else if mx < d then 0 else if own_de f (E - own_first f F E) (own_first f F E) = E then 1 else 0 := by
  have l : (1 : Int32).toInt = 1 := by decide
  have a1 : d < (1 : Int32) ↔ ¬ 1 ≤ E - own_first f F E := by rw [Int32.lt_iff_toInt_lt, l, hd]; omega
  have a2 : mx < d ↔ ¬ ((E - own_first f F E : Nat) : Int) ≤ mx.toInt := by rw [Int32.lt_iff_toInt_lt, hd]; omega
  rw [own_iw]
  by_cases h1 : 1 ≤ E - own_first f F E
  · rw [if_neg (c := d < (1 : Int32)) (fun q => a1.mp q h1)]
    by_cases h2 : ((E - own_first f F E : Nat) : Int) ≤ mx.toInt
    · rw [if_neg (c := mx < d) (fun q => a2.mp q h2)]
      by_cases h3 : own_de f (E - own_first f F E) (own_first f F E) = E
      · rw [if_pos ⟨h1, h2, h3⟩, if_pos h3]
      · rw [if_neg (fun q => h3 q.2.2), if_neg h3]
    · rw [if_pos (a2.mpr h2), if_neg (fun q => h2 q.2.1)]
  · rw [if_pos (a1.mpr h1), if_neg (fun q => h1 q.1)]
theorem own_deEq (f : Nat → Int32) (E G : Nat) (q : Int32) (hq : q.toInt = (E : Int)) (hG : G ≤ E) (hE : E ≤ 4) : Int32.ofNat (own_de f (E - G) G) = q ↔ own_de f (E - G) G = E := by
  have := own_de_le f (E - G) G
  constructor
  · intro h
    have e := own_ofN (e := own_de f (E - G) G) (by omega)
    rw [h, hq] at e; omega
  · intro h; rw [h]; exact (own_ofNat hq).symm
theorem own_from (x v : Int32) (h : (x &&& (7 : Int32)) % (5 : Int32) = v) : ∃ n : Nat, n ≤ 4 ∧ v.toInt = (n : Int) := by
  have c1 := c_and x 7 (by decide)
  have c2 := c_iremV (x &&& (7 : Int32)) 5
  have l1 : (5 : Int32).toInt = 5 := by decide
  rw [h, l1] at c2
  have c3 := c2.1 c1.1 (by decide)
  exact ⟨v.toInt.toNat, by omega, by omega⟩
theorem own_nz (v : Int32) (F : Nat) (h : v.toInt = (F : Int)) (hF : F ≤ 4) : (5 : Int32) - v ≠ 0 ∧ ((5 : Int32) - v).toInt = 5 - F := by
  have c := c_isub 5 v
  have l1 : (5 : Int32).toInt = 5 := by decide
  have l0 : (0 : Int32).toInt = 0 := by decide
  have r := rng32 (5 - v)
  rw [l1, h] at c
  refine ⟨fun e => ?_, by omega⟩
  rw [e, l0] at c; omega
theorem own_to (s v t : Int32) (F : Nat) (hv : v.toInt = (F : Int)) (hF : F ≤ 4) (h : v + ((((s.toUInt32 >>> ((3 : Int32) &&& 31).toUInt32).toInt32) &&& (7 : Int32)) % ((5 : Int32) - v)) = t) : ∃ E : Nat, F ≤ E ∧ E ≤ 4 ∧ t.toInt = (E : Int) := by
  have c1 := c_and ((s.toUInt32 >>> ((3 : Int32) &&& 31).toUInt32).toInt32) 7 (by decide)
  have c2 := c_iremV (((s.toUInt32 >>> ((3 : Int32) &&& 31).toUInt32).toInt32) &&& (7 : Int32)) ((5 : Int32) - v)
  obtain ⟨-, c0⟩ := own_nz v F hv hF
  rw [c0] at c2
  have c3 := c2.1 c1.1 (by omega)
  have c4 := c_iadd v ((((s.toUInt32 >>> ((3 : Int32) &&& 31).toUInt32).toInt32) &&& (7 : Int32)) % ((5 : Int32) - v))
  have r := rng32 t
  rw [h, hv] at c4
  exact ⟨t.toInt.toNat, by omega, by omega, by omega⟩
theorem own_sg (f : Nat → Int32) (F E : Nat) (p q g m n : Int32) (h : (if p < q then (if f F = (45 : Int32) then (1 : Int32) else (0 : Int32)) else (0 : Int32)) = m) (h2 : (if m = (0 : Int32) then p else (p + (1 : Int32))) = n) : (if p < q then (if f F = (45 : Int32) then (p + (1 : Int32)) else p) else p) = n := by
  subst h; subst h2
  by_cases a : p < q
  · by_cases b : f F = (45 : Int32)
    · rw [if_pos a, if_pos b, if_pos a, if_pos b, if_neg (by decide)]
    · rw [if_pos a, if_neg b, if_pos a, if_neg b, if_pos rfl]
  · rw [if_neg a, if_neg a, if_pos rfl]
theorem own_passes (f : Nat → Int32) (F E : Nat) (mx d e : Int32) (hE : E ≤ 4) (hFE : F ≤ E) (hd : d.toInt = ((E - own_first f F E : Nat) : Int)) (he : (if d < (1 : Int32) then (0 : Int32) else (if mx < d then (0 : Int32) else (1 : Int32))) = e)
    (ha : ∀ k, k < 4 → own_first f F E ≤ k → k < E → own_dig (f k)) : own_iw f F E mx = e := by
  have q := own_first_le f F E hFE
  rw [own_iw_val f F E mx d hd, if_pos (c := own_de f (E - own_first f F E) (own_first f F E) = E) (by rw [own_de_all f _ _ (fun j h1 h2 => ha j (by omega) h1 (by omega))]; omega)]; exact he
theorem own_fails (f : Nat → Int32) (F E : Nat) (mx d e : Int32) (hE : E ≤ 4) (hFE : F ≤ E) (hd : d.toInt = ((E - own_first f F E : Nat) : Int)) (he : (0 : Int32) = e)
    (k : Nat) (ha : own_first f F E ≤ k ∧ k < E ∧ ¬ own_dig (f k)) : own_iw f F E mx = e := by
  have q := own_first_le f F E hFE
  have hn := own_de_not f (E - own_first f F E) (own_first f F E) k ha.1 (by omega) ha.2.2
  rw [own_iw_val f F E mx d hd, if_neg (c := own_de f (E - own_first f F E) (own_first f F E) = E) (by omega), ← he]
  split
  · rfl
  · split <;> rfl
theorem own_pd0 : parseMethodDescriptor "(I)B" = some ⟨[.int], some .byte⟩ := by decide +kernel
theorem own_pd1 : parseMethodDescriptor "([BIII)Z" = some ⟨[(.array .byte), .int, .int, .int], some .boolean⟩ := by decide +kernel
theorem own_pd2 : parseMethodDescriptor "([BII)I" = some ⟨[(.array .byte), .int, .int], some .int⟩ := by decide +kernel
theorem d1_0 : decode method_4_code 0 = .ok (.iload_n 0, 1) := by decide +kernel
theorem d1_1 : decode method_4_code 1 = .ok (.iconst 3, 1) := by decide +kernel
theorem d1_2 : decode method_4_code 2 = .ok (.iand, 1) := by decide +kernel
theorem d1_3 : decode method_4_code 3 = .ok (.istore_n 1, 1) := by decide +kernel
theorem d1_4 : decode method_4_code 4 = .ok (.iload_n 0, 1) := by decide +kernel
theorem d1_5 : decode method_4_code 5 = .ok (.iconst 2, 1) := by decide +kernel
theorem d1_6 : decode method_4_code 6 = .ok (.iushr, 1) := by decide +kernel
theorem d1_7 : decode method_4_code 7 = .ok (.istore_n 2, 1) := by decide +kernel
theorem d1_8 : decode method_4_code 8 = .ok (.iload_n 1, 1) := by decide +kernel
theorem d1_9 : decode method_4_code 9 = .ok (.iconst 1, 1) := by decide +kernel
theorem d1_10 : decode method_4_code 10 = .ok (.if_icmp .gt 12, 3) := by decide +kernel
theorem d1_13 : decode method_4_code 13 = .ok (.bipush 48, 2) := by decide +kernel
theorem d1_15 : decode method_4_code 15 = .ok (.iload_n 2, 1) := by decide +kernel
theorem d1_16 : decode method_4_code 16 = .ok (.bipush 10, 2) := by decide +kernel
theorem d1_18 : decode method_4_code 18 = .ok (.irem, 1) := by decide +kernel
theorem d1_19 : decode method_4_code 19 = .ok (.iadd, 1) := by decide +kernel
theorem d1_20 : decode method_4_code 20 = .ok (.i2b, 1) := by decide +kernel
theorem d1_21 : decode method_4_code 21 = .ok (.ireturn, 1) := by decide +kernel
theorem d1_22 : decode method_4_code 22 = .ok (.iload_n 1, 1) := by decide +kernel
theorem d1_23 : decode method_4_code 23 = .ok (.iconst 2, 1) := by decide +kernel
theorem d1_24 : decode method_4_code 24 = .ok (.if_icmp .ne 6, 3) := by decide +kernel
theorem d1_27 : decode method_4_code 27 = .ok (.bipush 45, 2) := by decide +kernel
theorem d1_29 : decode method_4_code 29 = .ok (.ireturn, 1) := by decide +kernel
theorem d1_30 : decode method_4_code 30 = .ok (.iload_n 2, 1) := by decide +kernel
theorem d1_31 : decode method_4_code 31 = .ok (.i2b, 1) := by decide +kernel
theorem d1_32 : decode method_4_code 32 = .ok (.ireturn, 1) := by decide +kernel
theorem pn_1 : plainName "com/example/settleline/settleline/csv/FieldSyntaxIsWholeNumberPinLaw" = true := by first | (simp [plainName, overriddenIn]; done) | decide +kernel
theorem d2_0 : decode prog_12_method_3_code 0 = .ok (.iload_n 1, 1) := by decide +kernel
theorem d2_1 : decode prog_12_method_3_code 1 = .ok (.iload_n 2, 1) := by decide +kernel
theorem d2_2 : decode prog_12_method_3_code 2 = .ok (.if_icmp .ge 17, 3) := by decide +kernel
theorem d2_5 : decode prog_12_method_3_code 5 = .ok (.aload_n 0, 1) := by decide +kernel
theorem d2_6 : decode prog_12_method_3_code 6 = .ok (.iload_n 1, 1) := by decide +kernel
theorem d2_7 : decode prog_12_method_3_code 7 = .ok (.baload, 1) := by decide +kernel
theorem d2_8 : decode prog_12_method_3_code 8 = .ok (.bipush 45, 2) := by decide +kernel
theorem d2_10 : decode prog_12_method_3_code 10 = .ok (.if_icmp .ne 9, 3) := by decide +kernel
theorem d2_13 : decode prog_12_method_3_code 13 = .ok (.iload_n 1, 1) := by decide +kernel
theorem d2_14 : decode prog_12_method_3_code 14 = .ok (.iconst 1, 1) := by decide +kernel
theorem d2_15 : decode prog_12_method_3_code 15 = .ok (.iadd, 1) := by decide +kernel
theorem d2_16 : decode prog_12_method_3_code 16 = .ok (.goto 4, 3) := by decide +kernel
theorem d2_19 : decode prog_12_method_3_code 19 = .ok (.iload_n 1, 1) := by decide +kernel
theorem d2_20 : decode prog_12_method_3_code 20 = .ok (.istore 4, 2) := by decide +kernel
theorem d2_22 : decode prog_12_method_3_code 22 = .ok (.iload_n 2, 1) := by decide +kernel
theorem d2_23 : decode prog_12_method_3_code 23 = .ok (.iload 4, 2) := by decide +kernel
theorem d2_25 : decode prog_12_method_3_code 25 = .ok (.isub, 1) := by decide +kernel
theorem d2_26 : decode prog_12_method_3_code 26 = .ok (.istore 5, 2) := by decide +kernel
theorem d2_28 : decode prog_12_method_3_code 28 = .ok (.iload 5, 2) := by decide +kernel
theorem d2_30 : decode prog_12_method_3_code 30 = .ok (.iconst 1, 1) := by decide +kernel
theorem d2_31 : decode prog_12_method_3_code 31 = .ok (.if_icmp .lt 24, 3) := by decide +kernel
theorem d2_34 : decode prog_12_method_3_code 34 = .ok (.iload 5, 2) := by decide +kernel
theorem d2_36 : decode prog_12_method_3_code 36 = .ok (.iload_n 3, 1) := by decide +kernel
theorem d2_37 : decode prog_12_method_3_code 37 = .ok (.if_icmp .gt 18, 3) := by decide +kernel
theorem d2_40 : decode prog_12_method_3_code 40 = .ok (.aload_n 0, 1) := by decide +kernel
theorem d2_41 : decode prog_12_method_3_code 41 = .ok (.iload 4, 2) := by decide +kernel
theorem d2_43 : decode prog_12_method_3_code 43 = .ok (.iload_n 2, 1) := by decide +kernel
theorem d2_44 : decode prog_12_method_3_code 44 = .ok (.invokestatic 7, 3) := by decide +kernel
theorem d2_47 : decode prog_12_method_3_code 47 = .ok (.iload_n 2, 1) := by decide +kernel
theorem d2_48 : decode prog_12_method_3_code 48 = .ok (.if_icmp .ne 7, 3) := by decide +kernel
theorem d2_51 : decode prog_12_method_3_code 51 = .ok (.iconst 1, 1) := by decide +kernel
theorem d2_52 : decode prog_12_method_3_code 52 = .ok (.goto 4, 3) := by decide +kernel
theorem d2_55 : decode prog_12_method_3_code 55 = .ok (.iconst 0, 1) := by decide +kernel
theorem d2_56 : decode prog_12_method_3_code 56 = .ok (.ireturn, 1) := by decide +kernel
theorem pn_2 : plainName "com/example/settleline/settleline/csv/FieldSyntax" = true := by first | (simp [plainName, overriddenIn]; done) | decide +kernel
theorem d3_0 : decode method_3_code 0 = .ok (.iload_n 1, 1) := by decide +kernel
theorem d3_1 : decode method_3_code 1 = .ok (.iload_n 2, 1) := by decide +kernel
theorem d3_2 : decode method_3_code 2 = .ok (.if_icmp .lt 8, 3) := by decide +kernel
theorem d3_5 : decode method_3_code 5 = .ok (.iload_n 1, 1) := by decide +kernel
theorem d3_6 : decode method_3_code 6 = .ok (.iload_n 3, 1) := by decide +kernel
theorem d3_7 : decode method_3_code 7 = .ok (.if_icmp .lt 5, 3) := by decide +kernel
theorem d3_10 : decode method_3_code 10 = .ok (.iconst 1, 1) := by decide +kernel
theorem d3_11 : decode method_3_code 11 = .ok (.ireturn, 1) := by decide +kernel
theorem d3_12 : decode method_3_code 12 = .ok (.aload_n 0, 1) := by decide +kernel
theorem d3_13 : decode method_3_code 13 = .ok (.iload_n 1, 1) := by decide +kernel
theorem d3_14 : decode method_3_code 14 = .ok (.baload, 1) := by decide +kernel
theorem d3_15 : decode method_3_code 15 = .ok (.bipush 48, 2) := by decide +kernel
theorem d3_17 : decode method_3_code 17 = .ok (.if_icmp .lt 15, 3) := by decide +kernel
theorem d3_20 : decode method_3_code 20 = .ok (.aload_n 0, 1) := by decide +kernel
theorem d3_21 : decode method_3_code 21 = .ok (.iload_n 1, 1) := by decide +kernel
theorem d3_22 : decode method_3_code 22 = .ok (.baload, 1) := by decide +kernel
theorem d3_23 : decode method_3_code 23 = .ok (.bipush 57, 2) := by decide +kernel
theorem d3_25 : decode method_3_code 25 = .ok (.if_icmp .gt 7, 3) := by decide +kernel
theorem d3_28 : decode method_3_code 28 = .ok (.iconst 1, 1) := by decide +kernel
theorem d3_29 : decode method_3_code 29 = .ok (.goto 4, 3) := by decide +kernel
theorem d3_32 : decode method_3_code 32 = .ok (.iconst 0, 1) := by decide +kernel
theorem d3_33 : decode method_3_code 33 = .ok (.ireturn, 1) := by decide +kernel
theorem pn_3 : plainName "com/example/settleline/settleline/csv/FieldSyntaxIsWholeNumberPinLaw" = true := by first | (simp [plainName, overriddenIn]; done) | decide +kernel
theorem d4_0 : decode prog_12_method_7_code 0 = .ok (.iload_n 1, 1) := by decide +kernel
theorem d4_1 : decode prog_12_method_7_code 1 = .ok (.istore_n 3, 1) := by decide +kernel
theorem d4_2 : decode prog_12_method_7_code 2 = .ok (.iload_n 3, 1) := by decide +kernel
theorem d4_3 : decode prog_12_method_7_code 3 = .ok (.iload_n 2, 1) := by decide +kernel
theorem d4_4 : decode prog_12_method_7_code 4 = .ok (.if_icmp .ge 25, 3) := by decide +kernel
theorem d4_7 : decode prog_12_method_7_code 7 = .ok (.aload_n 0, 1) := by decide +kernel
theorem d4_8 : decode prog_12_method_7_code 8 = .ok (.iload_n 3, 1) := by decide +kernel
theorem d4_9 : decode prog_12_method_7_code 9 = .ok (.baload, 1) := by decide +kernel
theorem d4_10 : decode prog_12_method_7_code 10 = .ok (.bipush 48, 2) := by decide +kernel
theorem d4_12 : decode prog_12_method_7_code 12 = .ok (.if_icmp .lt 17, 3) := by decide +kernel
theorem d4_15 : decode prog_12_method_7_code 15 = .ok (.aload_n 0, 1) := by decide +kernel
theorem d4_16 : decode prog_12_method_7_code 16 = .ok (.iload_n 3, 1) := by decide +kernel
theorem d4_17 : decode prog_12_method_7_code 17 = .ok (.baload, 1) := by decide +kernel
theorem d4_18 : decode prog_12_method_7_code 18 = .ok (.bipush 57, 2) := by decide +kernel
theorem d4_20 : decode prog_12_method_7_code 20 = .ok (.if_icmp .gt 9, 3) := by decide +kernel
theorem d4_23 : decode prog_12_method_7_code 23 = .ok (.iinc 3 1, 3) := by decide +kernel
theorem d4_26 : decode prog_12_method_7_code 26 = .ok (.goto (-24), 3) := by decide +kernel
theorem d4_29 : decode prog_12_method_7_code 29 = .ok (.iload_n 3, 1) := by decide +kernel
theorem d4_30 : decode prog_12_method_7_code 30 = .ok (.ireturn, 1) := by decide +kernel
theorem pn_4 : plainName "com/example/settleline/settleline/csv/FieldSyntax" = true := by first | (simp [plainName, overriddenIn]; done) | decide +kernel
theorem pn_0 : plainName "com/example/settleline/settleline/csv/FieldSyntaxIsWholeNumberPinLaw" = true := by first | (simp [plainName, overriddenIn]; done) | decide +kernel
set_option maxRecDepth 65536 in
set_option maxHeartbeats 40000000 in
theorem rm1 (l : Launch) (Z : State) (a0 : Array Value) (hw : ∀ d ∈ tables_1, d.before a0 Z = true) (ws : List Jvm.Cond) (p1 : Int32)  (h0 : Heap) (n0 : Nat) (Z0 : n0 ≤ h0.size) :
    MetFree l (⟨"com/example/settleline/settleline/csv/FieldSyntaxIsWholeNumberPinLaw", "draw", "(I)B"⟩ : MethodName) (head1 (Jvm.Cond.code (⟨"com/example/settleline/settleline/csv/FieldSyntaxIsWholeNumberPinLaw", "draw", "(I)B"⟩ : MethodName) method_4_code 3 (some .byte) :: ws) ({ frames := 0, cells := 0, slots := 0, locals := 0 } : Room)) (fun a U => a = #[(.int p1)] ∧ Z.Warmed39 U.vm ∧ U.heap = h0) (fun _ _ _ _ _ => True) (fun _ U o U' => ∃ v L, o = .returned v ∧ own_ap (fun v h L => ∃ z : Int32, v = some (.int z) ∧ Fr n0 L ∧ h = h0) v U'.heap L ∧ FrameEnd U o U' L 0 0) := by
  refine MetFree.of_bodySF (plainFor_of_name pn_1) hisR ?_
  intro p e s m args below meth c s₁ Bd hml0 hP hK
  obtain ⟨rfl, hZ, hh⟩ := hP
  have hx := Bd.exec
  have hby := Bd.bytes
  have hml : c.maxLocals = 3 := hml0
  have hown : s.vm.findClass "com/example/settleline/settleline/csv/FieldSyntaxIsWholeNumberPinLaw" = some m.cls := findClass_of_methodNamed Bd.named
  have hnm := (name_of_methodNamed Bd.named Bd.method).1
  have X0 : Stand p l e ({ frames := 0, cells := 0, slots := 0, locals := 0 } : Room) s m #[(.int p1)] below meth c s₁ [] 0 0 := Stand.of_body Bd
  have e0 : s₁.heap = h0 := by rw [← hh, Bd.state]; rfl
  have N0 := Fr.nil n0
  show own_Go p.tables e below (own_Q s (fun v h L => ∃ z : Int32, v = some (.int z) ∧ Fr n0 L ∧ h = h0) 0 0) (s₁.setTop (entryFrame m #[(.int p1)] 3))
  rw [show entryFrame m #[(.int p1)] 3 = mkF m 0 #[.val (.int p1), .unset, .unset] [] from by first | (simp [entryFrame, mkF, argsToLocals, Value.category]; done) | rfl]
  show own_Go _ _ _ _ (s₁.setTop (mkF m 0 #[.val (.int p1), .unset, .unset] []))
  refine own_by (fun _ k => XS.iloadN X0.here hx rfl (hb hby d1_0) rfl k) ?_
  show own_Go _ _ _ _ (s₁.setTop (mkF m 1 #[.val (.int p1), .unset, .unset] [(.int p1)]))
  refine own_by (fun _ k => XS.iconst X0.here hx rfl (hb hby d1_1) k) ?_
  show own_Go _ _ _ _ (s₁.setTop (mkF m 2 #[.val (.int p1), .unset, .unset] [(.int (3 : Int32)), (.int p1)]))
  refine own_by (fun _ k => XS.iand X0.here hx rfl (hb hby d1_2) rfl k) ?_
  show own_Go _ _ _ _ (s₁.setTop (mkF m 3 #[.val (.int p1), .unset, .unset] [(.int (p1 &&& (3 : Int32)))]))
  obtain ⟨v1_1, hv1_1⟩ : ∃ z_ : Int32, (p1 &&& (3 : Int32)) = z_ := ⟨_, rfl⟩
  refine own_gen hv1_1 (fun z_ => s₁.setTop (mkF m 3 #[.val (.int p1), .unset, .unset] [(.int z_)])) ?_
  refine own_by (fun _ k => XS.istoreN X0.here hx rfl (hb hby d1_3) rfl (l' := #[.val (.int p1), .val (.int v1_1), .unset]) rfl k) ?_
  show own_Go _ _ _ _ (s₁.setTop (mkF m 4 #[.val (.int p1), .val (.int v1_1), .unset] []))
  refine own_by (fun _ k => XS.iloadN X0.here hx rfl (hb hby d1_4) rfl k) ?_
  show own_Go _ _ _ _ (s₁.setTop (mkF m 5 #[.val (.int p1), .val (.int v1_1), .unset] [(.int p1)]))
  refine own_by (fun _ k => XS.iconst X0.here hx rfl (hb hby d1_5) k) ?_
  show own_Go _ _ _ _ (s₁.setTop (mkF m 6 #[.val (.int p1), .val (.int v1_1), .unset] [(.int (2 : Int32)), (.int p1)]))
  refine own_by (fun _ k => XS.iushr X0.here hx rfl (hb hby d1_6) rfl k) ?_
  show own_Go _ _ _ _ (s₁.setTop (mkF m 7 #[.val (.int p1), .val (.int v1_1), .unset] [(.int ((p1.toUInt32 >>> ((2 : Int32) &&& 31).toUInt32).toInt32))]))
  obtain ⟨v2_2, hv2_2⟩ : ∃ z_ : Int32, ((p1.toUInt32 >>> ((2 : Int32) &&& 31).toUInt32).toInt32) = z_ := ⟨_, rfl⟩
  refine own_gen hv2_2 (fun z_ => s₁.setTop (mkF m 7 #[.val (.int p1), .val (.int v1_1), .unset] [(.int z_)])) ?_
  refine own_by (fun _ k => XS.istoreN X0.here hx rfl (hb hby d1_7) rfl (l' := #[.val (.int p1), .val (.int v1_1), .val (.int v2_2)]) rfl k) ?_
  show own_Go _ _ _ _ (s₁.setTop (mkF m 8 #[.val (.int p1), .val (.int v1_1), .val (.int v2_2)] []))
  refine own_by (fun _ k => XS.iloadN X0.here hx rfl (hb hby d1_8) rfl k) ?_
  show own_Go _ _ _ _ (s₁.setTop (mkF m 9 #[.val (.int p1), .val (.int v1_1), .val (.int v2_2)] [(.int v1_1)]))
  refine own_by (fun _ k => XS.iconst X0.here hx rfl (hb hby d1_9) k) ?_
  show own_Go _ _ _ _ (s₁.setTop (mkF m 10 #[.val (.int p1), .val (.int v1_1), .val (.int v2_2)] [(.int (1 : Int32)), (.int v1_1)]))
  by_cases hc3 : (1 : Int32) < v1_1
  · --
    refine own_by (fun _ k => XS.icmpYes X0.here hx rfl (pc0 := 10) (pc' := 22) rfl (hb hby d1_10) rfl (tlt hc3).2.2.1 (by decide) (by decide) k) ?_
    show own_Go _ _ _ _ (s₁.setTop (mkF m 22 #[.val (.int p1), .val (.int v1_1), .val (.int v2_2)] []))
    refine own_by (fun _ k => XS.iloadN X0.here hx rfl (hb hby d1_22) rfl k) ?_
    show own_Go _ _ _ _ (s₁.setTop (mkF m 23 #[.val (.int p1), .val (.int v1_1), .val (.int v2_2)] [(.int v1_1)]))
    refine own_by (fun _ k => XS.iconst X0.here hx rfl (hb hby d1_23) k) ?_
    show own_Go _ _ _ _ (s₁.setTop (mkF m 24 #[.val (.int p1), .val (.int v1_1), .val (.int v2_2)] [(.int (2 : Int32)), (.int v1_1)]))
    by_cases hc4 : v1_1 = (2 : Int32)
    · --
      refine own_by (fun _ k => XS.icmpNo X0.here hx rfl (hb hby d1_24) rfl (teq hc4).2 k) ?_
      show own_Go _ _ _ _ (s₁.setTop (mkF m 27 #[.val (.int p1), .val (.int v1_1), .val (.int v2_2)] []))
      refine own_by (fun _ k => XS.bipush X0.here hx rfl (hb hby d1_27) k) ?_
      show own_Go _ _ _ _ (s₁.setTop (mkF m 29 #[.val (.int p1), .val (.int v1_1), .val (.int v2_2)] [(.int (45 : Int32))]))
      exact own_retN X0 hx Bd.notSynchronized e0 Bd.returns (by simp) (hb hby d1_29) (⟨_, rfl, N0, rfl⟩) (by decide) (by decide)
    · --
      refine own_by (fun _ k => XS.icmpYes X0.here hx rfl (pc0 := 24) (pc' := 30) rfl (hb hby d1_24) rfl (feq hc4).2 (by decide) (by decide) k) ?_
      show own_Go _ _ _ _ (s₁.setTop (mkF m 30 #[.val (.int p1), .val (.int v1_1), .val (.int v2_2)] []))
      refine own_by (fun _ k => XS.iloadN X0.here hx rfl (hb hby d1_30) rfl k) ?_
      show own_Go _ _ _ _ (s₁.setTop (mkF m 31 #[.val (.int p1), .val (.int v1_1), .val (.int v2_2)] [(.int v2_2)]))
      refine own_by (fun _ k => XS.i2b X0.here hx rfl (hb hby d1_31) rfl k) ?_
      show own_Go _ _ _ _ (s₁.setTop (mkF m 32 #[.val (.int p1), .val (.int v1_1), .val (.int v2_2)] [(.int (v2_2.toInt8.toInt32))]))
      exact own_retN X0 hx Bd.notSynchronized e0 Bd.returns (by simp) (hb hby d1_32) (⟨_, rfl, N0, rfl⟩) (by decide) (by decide)
  · --
    refine own_by (fun _ k => XS.icmpNo X0.here hx rfl (hb hby d1_10) rfl (flt hc3).2.2.1 k) ?_
    show own_Go _ _ _ _ (s₁.setTop (mkF m 13 #[.val (.int p1), .val (.int v1_1), .val (.int v2_2)] []))
    refine own_by (fun _ k => XS.bipush X0.here hx rfl (hb hby d1_13) k) ?_
    show own_Go _ _ _ _ (s₁.setTop (mkF m 15 #[.val (.int p1), .val (.int v1_1), .val (.int v2_2)] [(.int (48 : Int32))]))
    refine own_by (fun _ k => XS.iloadN X0.here hx rfl (hb hby d1_15) rfl k) ?_
    show own_Go _ _ _ _ (s₁.setTop (mkF m 16 #[.val (.int p1), .val (.int v1_1), .val (.int v2_2)] [(.int v2_2), (.int (48 : Int32))]))
    refine own_by (fun _ k => XS.bipush X0.here hx rfl (hb hby d1_16) k) ?_
    show own_Go _ _ _ _ (s₁.setTop (mkF m 18 #[.val (.int p1), .val (.int v1_1), .val (.int v2_2)] [(.int (10 : Int32)), (.int v2_2), (.int (48 : Int32))]))
    refine own_by (fun _ k => iremM X0 hx rfl (hb hby d1_18) rfl (by decide) k) ?_
    show own_Go _ _ _ _ (s₁.setTop (mkF m 19 #[.val (.int p1), .val (.int v1_1), .val (.int v2_2)] [(.int (v2_2 % (10 : Int32))), (.int (48 : Int32))]))
    refine own_by (fun _ k => XS.iadd X0.here hx rfl (hb hby d1_19) rfl k) ?_
    show own_Go _ _ _ _ (s₁.setTop (mkF m 20 #[.val (.int p1), .val (.int v1_1), .val (.int v2_2)] [(.int ((48 : Int32) + (v2_2 % (10 : Int32))))]))
    refine own_by (fun _ k => XS.i2b X0.here hx rfl (hb hby d1_20) rfl k) ?_
    show own_Go _ _ _ _ (s₁.setTop (mkF m 21 #[.val (.int p1), .val (.int v1_1), .val (.int v2_2)] [(.int (((48 : Int32) + (v2_2 % (10 : Int32))).toInt8.toInt32))]))
    exact own_retN X0 hx Bd.notSynchronized e0 Bd.returns (by simp) (hb hby d1_21) (⟨_, rfl, N0, rfl⟩) (by decide) (by decide)
set_option maxRecDepth 65536 in
set_option maxHeartbeats 40000000 in
theorem rm3 (l : Launch) (Z : State) (a0 : Array Value) (hw : ∀ d ∈ tables_1, d.before a0 Z = true) (ws : List Jvm.Cond) (a1 : Addr) (p1 : Int32) (p2 : Int32) (p3 : Int32) (f : Nat → Int32) (k1 : Nat) (h0 : Heap) (n0 : Nat) (Z0 : n0 ≤ h0.size) (A1 : own_AI Z h0 a1 .byte 4 f) (hk : p1.toInt = (k1 : Int)) (hkn : k1 < 4) :
    MetFree l (⟨"com/example/settleline/settleline/csv/FieldSyntaxIsWholeNumberPinLaw", "okAt", "([BIII)Z"⟩ : MethodName) (head1 (Jvm.Cond.code (⟨"com/example/settleline/settleline/csv/FieldSyntaxIsWholeNumberPinLaw", "okAt", "([BIII)Z"⟩ : MethodName) method_3_code 4 (some .boolean) :: ws) ({ frames := 0, cells := 0, slots := 0, locals := 0 } : Room)) (fun a U => a = #[(.ref a1), (.int p1), (.int p2), (.int p3)] ∧ Z.Warmed39 U.vm ∧ U.heap = h0) (fun _ _ _ _ _ => True) (fun _ U o U' => ∃ v L, o = .returned v ∧ own_ap (fun v h L => v = some (.int (own_ok f k1 p1 p2 p3)) ∧ Fr n0 L ∧ h = h0) v U'.heap L ∧ FrameEnd U o U' L 0 0) := by
  refine MetFree.of_bodySF (plainFor_of_name pn_3) hisR ?_
  intro p e s m args below meth c s₁ Bd hml0 hP hK
  obtain ⟨rfl, hZ, hh⟩ := hP
  have hx := Bd.exec
  have hby := Bd.bytes
  have hml : c.maxLocals = 4 := hml0
  have hown : s.vm.findClass "com/example/settleline/settleline/csv/FieldSyntaxIsWholeNumberPinLaw" = some m.cls := findClass_of_methodNamed Bd.named
  have hnm := (name_of_methodNamed Bd.named Bd.method).1
  have X0 : Stand p l e ({ frames := 0, cells := 0, slots := 0, locals := 0 } : Room) s m #[(.ref a1), (.int p1), (.int p2), (.int p3)] below meth c s₁ [] 0 0 := Stand.of_body Bd
  have e0 : s₁.heap = h0 := by rw [← hh, Bd.state]; rfl
  have N0 := Fr.nil n0
  show own_Go p.tables e below (own_Q s (fun v h L => v = some (.int (own_ok f k1 p1 p2 p3)) ∧ Fr n0 L ∧ h = h0) 0 0) (s₁.setTop (entryFrame m #[(.ref a1), (.int p1), (.int p2), (.int p3)] 4))
  rw [show entryFrame m #[(.ref a1), (.int p1), (.int p2), (.int p3)] 4 = mkF m 0 #[.val (.ref a1), .val (.int p1), .val (.int p2), .val (.int p3)] [] from by first | (simp [entryFrame, mkF, argsToLocals, Value.category]; done) | rfl]
  show own_Go _ _ _ _ (s₁.setTop (mkF m 0 #[.val (.ref a1), .val (.int p1), .val (.int p2), .val (.int p3)] []))
  refine own_by (fun _ k => XS.iloadN X0.here hx rfl (hb hby d3_0) rfl k) ?_
  show own_Go _ _ _ _ (s₁.setTop (mkF m 1 #[.val (.ref a1), .val (.int p1), .val (.int p2), .val (.int p3)] [(.int p1)]))
  refine own_by (fun _ k => XS.iloadN X0.here hx rfl (hb hby d3_1) rfl k) ?_
  show own_Go _ _ _ _ (s₁.setTop (mkF m 2 #[.val (.ref a1), .val (.int p1), .val (.int p2), .val (.int p3)] [(.int p2), (.int p1)]))
  by_cases hc1 : p1 < p2
  · --
    refine own_by (fun _ k => XS.icmpYes X0.here hx rfl (pc0 := 2) (pc' := 10) rfl (hb hby d3_2) rfl (tlt hc1).1 (by decide) (by decide) k) ?_
    show own_Go _ _ _ _ (s₁.setTop (mkF m 10 #[.val (.ref a1), .val (.int p1), .val (.int p2), .val (.int p3)] []))
    refine own_by (fun _ k => XS.iconst X0.here hx rfl (hb hby d3_10) k) ?_
    show own_Go _ _ _ _ (s₁.setTop (mkF m 11 #[.val (.ref a1), .val (.int p1), .val (.int p2), .val (.int p3)] [(.int (1 : Int32))]))
    exact own_retN X0 hx Bd.notSynchronized e0 Bd.returns (by simp) (hb hby d3_11) (⟨by simp [own_ok, nar, hc1], N0, rfl⟩) (by decide) (by decide)
  · --
    refine own_by (fun _ k => XS.icmpNo X0.here hx rfl (hb hby d3_2) rfl (flt hc1).1 k) ?_
    show own_Go _ _ _ _ (s₁.setTop (mkF m 5 #[.val (.ref a1), .val (.int p1), .val (.int p2), .val (.int p3)] []))
    refine own_by (fun _ k => XS.iloadN X0.here hx rfl (hb hby d3_5) rfl k) ?_
    show own_Go _ _ _ _ (s₁.setTop (mkF m 6 #[.val (.ref a1), .val (.int p1), .val (.int p2), .val (.int p3)] [(.int p1)]))
    refine own_by (fun _ k => XS.iloadN X0.here hx rfl (hb hby d3_6) rfl k) ?_
    show own_Go _ _ _ _ (s₁.setTop (mkF m 7 #[.val (.ref a1), .val (.int p1), .val (.int p2), .val (.int p3)] [(.int p3), (.int p1)]))
    by_cases hc2 : p1 < p3
    · --
      refine own_by (fun _ k => XS.icmpYes X0.here hx rfl (pc0 := 7) (pc' := 12) rfl (hb hby d3_7) rfl (tlt hc2).1 (by decide) (by decide) k) ?_
      show own_Go _ _ _ _ (s₁.setTop (mkF m 12 #[.val (.ref a1), .val (.int p1), .val (.int p2), .val (.int p3)] []))
      refine own_by (fun _ k => XS.aloadN X0.here hx rfl (hb hby d3_12) rfl rfl k) ?_
      show own_Go _ _ _ _ (s₁.setTop (mkF m 13 #[.val (.ref a1), .val (.int p1), .val (.int p2), .val (.int p3)] [(.ref a1)]))
      refine own_by (fun _ k => XS.iloadN X0.here hx rfl (hb hby d3_13) rfl k) ?_
      show own_Go _ _ _ _ (s₁.setTop (mkF m 14 #[.val (.ref a1), .val (.int p1), .val (.int p2), .val (.int p3)] [(.int p1), (.ref a1)]))
      refine own_by (fun _ k => own_bal X0 hx hZ e0 A1 k1 hk hkn (hb hby d3_14) k) ?_
      show own_Go _ _ _ _ (s₁.setTop (mkF m 15 #[.val (.ref a1), .val (.int p1), .val (.int p2), .val (.int p3)] [(.int (f k1))]))
      refine own_by (fun _ k => XS.bipush X0.here hx rfl (hb hby d3_15) k) ?_
      show own_Go _ _ _ _ (s₁.setTop (mkF m 17 #[.val (.ref a1), .val (.int p1), .val (.int p2), .val (.int p3)] [(.int (48 : Int32)), (.int (f k1))]))
      by_cases hc3 : (f k1) < (48 : Int32)
      · --
        refine own_by (fun _ k => XS.icmpYes X0.here hx rfl (pc0 := 17) (pc' := 32) rfl (hb hby d3_17) rfl (tlt hc3).1 (by decide) (by decide) k) ?_
        show own_Go _ _ _ _ (s₁.setTop (mkF m 32 #[.val (.ref a1), .val (.int p1), .val (.int p2), .val (.int p3)] []))
        refine own_by (fun _ k => XS.iconst X0.here hx rfl (hb hby d3_32) k) ?_
        show own_Go _ _ _ _ (s₁.setTop (mkF m 33 #[.val (.ref a1), .val (.int p1), .val (.int p2), .val (.int p3)] [(.int (0 : Int32))]))
        exact own_retN X0 hx Bd.notSynchronized e0 Bd.returns (by simp) (hb hby d3_33) (⟨by simp [own_ok, nar, hc1, hc2, hc3], N0, rfl⟩) (by decide) (by decide)
      · --
        refine own_by (fun _ k => XS.icmpNo X0.here hx rfl (hb hby d3_17) rfl (flt hc3).1 k) ?_
        show own_Go _ _ _ _ (s₁.setTop (mkF m 20 #[.val (.ref a1), .val (.int p1), .val (.int p2), .val (.int p3)] []))
        refine own_by (fun _ k => XS.aloadN X0.here hx rfl (hb hby d3_20) rfl rfl k) ?_
        show own_Go _ _ _ _ (s₁.setTop (mkF m 21 #[.val (.ref a1), .val (.int p1), .val (.int p2), .val (.int p3)] [(.ref a1)]))
        refine own_by (fun _ k => XS.iloadN X0.here hx rfl (hb hby d3_21) rfl k) ?_
        show own_Go _ _ _ _ (s₁.setTop (mkF m 22 #[.val (.ref a1), .val (.int p1), .val (.int p2), .val (.int p3)] [(.int p1), (.ref a1)]))
        refine own_by (fun _ k => own_bal X0 hx hZ e0 A1 k1 hk hkn (hb hby d3_22) k) ?_
        show own_Go _ _ _ _ (s₁.setTop (mkF m 23 #[.val (.ref a1), .val (.int p1), .val (.int p2), .val (.int p3)] [(.int (f k1))]))
        refine own_by (fun _ k => XS.bipush X0.here hx rfl (hb hby d3_23) k) ?_
        show own_Go _ _ _ _ (s₁.setTop (mkF m 25 #[.val (.ref a1), .val (.int p1), .val (.int p2), .val (.int p3)] [(.int (57 : Int32)), (.int (f k1))]))
        by_cases hc4 : (57 : Int32) < (f k1)
        · --
          refine own_by (fun _ k => XS.icmpYes X0.here hx rfl (pc0 := 25) (pc' := 32) rfl (hb hby d3_25) rfl (tlt hc4).2.2.1 (by decide) (by decide) k) ?_
          show own_Go _ _ _ _ (s₁.setTop (mkF m 32 #[.val (.ref a1), .val (.int p1), .val (.int p2), .val (.int p3)] []))
          refine own_by (fun _ k => XS.iconst X0.here hx rfl (hb hby d3_32) k) ?_
          show own_Go _ _ _ _ (s₁.setTop (mkF m 33 #[.val (.ref a1), .val (.int p1), .val (.int p2), .val (.int p3)] [(.int (0 : Int32))]))
          exact own_retN X0 hx Bd.notSynchronized e0 Bd.returns (by simp) (hb hby d3_33) (⟨by simp [own_ok, nar, hc1, hc2, hc3, hc4], N0, rfl⟩) (by decide) (by decide)
        · --
          refine own_by (fun _ k => XS.icmpNo X0.here hx rfl (hb hby d3_25) rfl (flt hc4).2.2.1 k) ?_
          show own_Go _ _ _ _ (s₁.setTop (mkF m 28 #[.val (.ref a1), .val (.int p1), .val (.int p2), .val (.int p3)] []))
          refine own_by (fun _ k => XS.iconst X0.here hx rfl (hb hby d3_28) k) ?_
          show own_Go _ _ _ _ (s₁.setTop (mkF m 29 #[.val (.ref a1), .val (.int p1), .val (.int p2), .val (.int p3)] [(.int (1 : Int32))]))
          refine own_by (fun _ k => XS.goto X0.here hx rfl (pc0 := 29) (pc' := 33) rfl (hb hby d3_29) (by decide) (by decide) k) ?_
          show own_Go _ _ _ _ (s₁.setTop (mkF m 33 #[.val (.ref a1), .val (.int p1), .val (.int p2), .val (.int p3)] [(.int (1 : Int32))]))
          exact own_retN X0 hx Bd.notSynchronized e0 Bd.returns (by simp) (hb hby d3_33) (⟨by simp [own_ok, nar, hc1, hc2, hc3, hc4], N0, rfl⟩) (by decide) (by decide)
    · --
      refine own_by (fun _ k => XS.icmpNo X0.here hx rfl (hb hby d3_7) rfl (flt hc2).1 k) ?_
      show own_Go _ _ _ _ (s₁.setTop (mkF m 10 #[.val (.ref a1), .val (.int p1), .val (.int p2), .val (.int p3)] []))
      refine own_by (fun _ k => XS.iconst X0.here hx rfl (hb hby d3_10) k) ?_
      show own_Go _ _ _ _ (s₁.setTop (mkF m 11 #[.val (.ref a1), .val (.int p1), .val (.int p2), .val (.int p3)] [(.int (1 : Int32))]))
      exact own_retN X0 hx Bd.notSynchronized e0 Bd.returns (by simp) (hb hby d3_11) (⟨by simp [own_ok, nar, hc1, hc2], N0, rfl⟩) (by decide) (by decide)
set_option maxRecDepth 65536 in
set_option maxHeartbeats 40000000 in
theorem rm4 (l : Launch) (Z : State) (a0 : Array Value) (hw : ∀ d ∈ tables_1, d.before a0 Z = true) (ws : List Jvm.Cond) (a1 : Addr) (p1 : Int32) (p2 : Int32) (f : Nat → Int32) (G E : Nat) (h0 : Heap) (n0 : Nat) (Z0 : n0 ≤ h0.size) (A1 : own_AI Z h0 a1 .byte 4 f) (hG : p1.toInt = (G : Int)) (hE : p2.toInt = (E : Int)) (hGE : G ≤ E) (hE4 : E ≤ 4) :
    MetFree l (⟨"com/example/settleline/settleline/csv/FieldSyntax", "digitsEnd", "([BII)I"⟩ : MethodName) (head1 (Jvm.Cond.code (⟨"com/example/settleline/settleline/csv/FieldSyntax", "digitsEnd", "([BII)I"⟩ : MethodName) prog_12_method_7_code 4 (some .int) :: ws) ({ frames := 0, cells := 0, slots := 0, locals := 0 } : Room)) (fun a U => a = #[(.ref a1), (.int p1), (.int p2)] ∧ Z.Warmed39 U.vm ∧ U.heap = h0) (fun _ _ _ _ _ => True) (fun _ U o U' => ∃ v L, o = .returned v ∧ own_ap (fun v h L => v = some (.int (Int32.ofNat (own_de f (E - G) G))) ∧ Fr n0 L ∧ h = h0) v U'.heap L ∧ FrameEnd U o U' L 0 0) := by
  refine MetFree.of_bodySF (plainFor_of_name pn_4) hisR ?_
  intro p e s m args below meth c s₁ Bd hml0 hP hK
  obtain ⟨rfl, hZ, hh⟩ := hP
  have hx := Bd.exec
  have hby := Bd.bytes
  have hml : c.maxLocals = 4 := hml0
  have hown : s.vm.findClass "com/example/settleline/settleline/csv/FieldSyntax" = some m.cls := findClass_of_methodNamed Bd.named
  have hnm := (name_of_methodNamed Bd.named Bd.method).1
  have X0 : Stand p l e ({ frames := 0, cells := 0, slots := 0, locals := 0 } : Room) s m #[(.ref a1), (.int p1), (.int p2)] below meth c s₁ [] 0 0 := Stand.of_body Bd
  have e0 : s₁.heap = h0 := by rw [← hh, Bd.state]; rfl
  have N0 := Fr.nil n0
  show own_Go p.tables e below (own_Q s (fun v h L => v = some (.int (Int32.ofNat (own_de f (E - G) G))) ∧ Fr n0 L ∧ h = h0) 0 0) (s₁.setTop (entryFrame m #[(.ref a1), (.int p1), (.int p2)] 4))
  rw [show entryFrame m #[(.ref a1), (.int p1), (.int p2)] 4 = mkF m 0 #[.val (.ref a1), .val (.int p1), .val (.int p2), .unset] [] from by first | (simp [entryFrame, mkF, argsToLocals, Value.category]; done) | rfl]
  show own_Go _ _ _ _ (s₁.setTop (mkF m 0 #[.val (.ref a1), .val (.int p1), .val (.int p2), .unset] []))
  refine own_by (fun _ k => XS.iloadN X0.here hx rfl (hb hby d4_0) rfl k) ?_
  show own_Go _ _ _ _ (s₁.setTop (mkF m 1 #[.val (.ref a1), .val (.int p1), .val (.int p2), .unset] [(.int p1)]))
  refine own_by (fun _ k => XS.istoreN X0.here hx rfl (hb hby d4_1) rfl (l' := #[.val (.ref a1), .val (.int p1), .val (.int p2), .val (.int p1)]) rfl k) ?_
  obtain ⟨r, hrr⟩ : ∃ r, Int32.ofNat (own_de f (E - G) G) = r := ⟨_, rfl⟩
  rw [hrr]
  suffices H : ∀ (k' i' : Nat), i' + k' = E → Int32.ofNat (own_de f k' i') = r → ∀ i : Int32, i.toInt = (i' : Int) → own_Go p.tables e below (own_Q s (fun v h L => v = some (.int r) ∧ Fr n0 L ∧ h = h0) 0 0) (s₁.setTop (mkF m 2 #[.val (.ref a1), .val (.int p1), .val (.int p2), .val (.int i)] [])) from H (E - G) G (by omega) hrr _ hG
  intro k'
  induction k' with
  | zero =>
    intro i' he hr i hi
    show own_Go _ _ _ _ (s₁.setTop (mkF m 2 #[.val (.ref a1), .val (.int p1), .val (.int p2), .val (.int i)] []))
    refine own_by (fun _ k => XS.iloadN X0.here hx rfl (hb hby d4_2) rfl k) ?_
    show own_Go _ _ _ _ (s₁.setTop (mkF m 3 #[.val (.ref a1), .val (.int p1), .val (.int p2), .val (.int i)] [(.int i)]))
    refine own_by (fun _ k => XS.iloadN X0.here hx rfl (hb hby d4_3) rfl k) ?_
    show own_Go _ _ _ _ (s₁.setTop (mkF m 4 #[.val (.ref a1), .val (.int p1), .val (.int p2), .val (.int i)] [(.int p2), (.int i)]))
    refine own_by (fun _ k => XS.icmpYes X0.here hx rfl (pc0 := 4) (pc' := 29) rfl (hb hby d4_4) rfl (flt (by rw [Int32.lt_iff_toInt_lt, hi, hE]; omega)).2.1 (by decide) (by decide) k) ?_
    show own_Go _ _ _ _ (s₁.setTop (mkF m 29 #[.val (.ref a1), .val (.int p1), .val (.int p2), .val (.int i)] []))
    refine own_by (fun _ k => XS.iloadN X0.here hx rfl (hb hby d4_29) rfl k) ?_
    show own_Go _ _ _ _ (s₁.setTop (mkF m 30 #[.val (.ref a1), .val (.int p1), .val (.int p2), .val (.int i)] [(.int i)]))
    exact own_retI X0 hx Bd.notSynchronized e0 Bd.returns (hb hby d4_30) (⟨by rw [← hr, own_ofNat hi]; rfl, N0, rfl⟩) (by decide) (by decide)
  | succ k' ih =>
    intro i' he hr i hi
    show own_Go _ _ _ _ (s₁.setTop (mkF m 2 #[.val (.ref a1), .val (.int p1), .val (.int p2), .val (.int i)] []))
    refine own_by (fun _ k => XS.iloadN X0.here hx rfl (hb hby d4_2) rfl k) ?_
    show own_Go _ _ _ _ (s₁.setTop (mkF m 3 #[.val (.ref a1), .val (.int p1), .val (.int p2), .val (.int i)] [(.int i)]))
    refine own_by (fun _ k => XS.iloadN X0.here hx rfl (hb hby d4_3) rfl k) ?_
    show own_Go _ _ _ _ (s₁.setTop (mkF m 4 #[.val (.ref a1), .val (.int p1), .val (.int p2), .val (.int i)] [(.int p2), (.int i)]))
    refine own_by (fun _ k => XS.icmpNo X0.here hx rfl (hb hby d4_4) rfl (tlt (by rw [Int32.lt_iff_toInt_lt, hi, hE]; omega)).2.1 k) ?_
    show own_Go _ _ _ _ (s₁.setTop (mkF m 7 #[.val (.ref a1), .val (.int p1), .val (.int p2), .val (.int i)] []))
    refine own_by (fun _ k => XS.aloadN X0.here hx rfl (hb hby d4_7) rfl rfl k) ?_
    show own_Go _ _ _ _ (s₁.setTop (mkF m 8 #[.val (.ref a1), .val (.int p1), .val (.int p2), .val (.int i)] [(.ref a1)]))
    refine own_by (fun _ k => XS.iloadN X0.here hx rfl (hb hby d4_8) rfl k) ?_
    show own_Go _ _ _ _ (s₁.setTop (mkF m 9 #[.val (.ref a1), .val (.int p1), .val (.int p2), .val (.int i)] [(.int i), (.ref a1)]))
    refine own_by (fun _ k => own_bal X0 hx hZ e0 A1 i' hi (by omega) (hb hby d4_9) k) ?_
    show own_Go _ _ _ _ (s₁.setTop (mkF m 10 #[.val (.ref a1), .val (.int p1), .val (.int p2), .val (.int i)] [(.int (f i'))]))
    refine own_by (fun _ k => XS.bipush X0.here hx rfl (hb hby d4_10) k) ?_
    show own_Go _ _ _ _ (s₁.setTop (mkF m 12 #[.val (.ref a1), .val (.int p1), .val (.int p2), .val (.int i)] [(.int (48 : Int32)), (.int (f i'))]))
    by_cases hc1 : (f i') < (48 : Int32)
    · --
      refine own_by (fun _ k => XS.icmpYes X0.here hx rfl (pc0 := 12) (pc' := 29) rfl (hb hby d4_12) rfl (tlt hc1).1 (by decide) (by decide) k) ?_
      show own_Go _ _ _ _ (s₁.setTop (mkF m 29 #[.val (.ref a1), .val (.int p1), .val (.int p2), .val (.int i)] []))
      refine own_by (fun _ k => XS.iloadN X0.here hx rfl (hb hby d4_29) rfl k) ?_
      show own_Go _ _ _ _ (s₁.setTop (mkF m 30 #[.val (.ref a1), .val (.int p1), .val (.int p2), .val (.int i)] [(.int i)]))
      exact own_retI X0 hx Bd.notSynchronized e0 Bd.returns (hb hby d4_30) (⟨by rw [← hr, own_de, if_neg (fun q => q.1 hc1), own_ofNat hi], N0, rfl⟩) (by decide) (by decide)
    · --
      refine own_by (fun _ k => XS.icmpNo X0.here hx rfl (hb hby d4_12) rfl (flt hc1).1 k) ?_
      show own_Go _ _ _ _ (s₁.setTop (mkF m 15 #[.val (.ref a1), .val (.int p1), .val (.int p2), .val (.int i)] []))
      refine own_by (fun _ k => XS.aloadN X0.here hx rfl (hb hby d4_15) rfl rfl k) ?_
      show own_Go _ _ _ _ (s₁.setTop (mkF m 16 #[.val (.ref a1), .val (.int p1), .val (.int p2), .val (.int i)] [(.ref a1)]))
      refine own_by (fun _ k => XS.iloadN X0.here hx rfl (hb hby d4_16) rfl k) ?_
      show own_Go _ _ _ _ (s₁.setTop (mkF m 17 #[.val (.ref a1), .val (.int p1), .val (.int p2), .val (.int i)] [(.int i), (.ref a1)]))
      refine own_by (fun _ k => own_bal X0 hx hZ e0 A1 i' hi (by omega) (hb hby d4_17) k) ?_
      show own_Go _ _ _ _ (s₁.setTop (mkF m 18 #[.val (.ref a1), .val (.int p1), .val (.int p2), .val (.int i)] [(.int (f i'))]))
      refine own_by (fun _ k => XS.bipush X0.here hx rfl (hb hby d4_18) k) ?_
      show own_Go _ _ _ _ (s₁.setTop (mkF m 20 #[.val (.ref a1), .val (.int p1), .val (.int p2), .val (.int i)] [(.int (57 : Int32)), (.int (f i'))]))
      by_cases hc2 : (57 : Int32) < (f i')
      · --
        refine own_by (fun _ k => XS.icmpYes X0.here hx rfl (pc0 := 20) (pc' := 29) rfl (hb hby d4_20) rfl (tlt hc2).2.2.1 (by decide) (by decide) k) ?_
        show own_Go _ _ _ _ (s₁.setTop (mkF m 29 #[.val (.ref a1), .val (.int p1), .val (.int p2), .val (.int i)] []))
        refine own_by (fun _ k => XS.iloadN X0.here hx rfl (hb hby d4_29) rfl k) ?_
        show own_Go _ _ _ _ (s₁.setTop (mkF m 30 #[.val (.ref a1), .val (.int p1), .val (.int p2), .val (.int i)] [(.int i)]))
        exact own_retI X0 hx Bd.notSynchronized e0 Bd.returns (hb hby d4_30) (⟨by rw [← hr, own_de, if_neg (fun q => q.2 hc2), own_ofNat hi], N0, rfl⟩) (by decide) (by decide)
      · --
        refine own_by (fun _ k => XS.icmpNo X0.here hx rfl (hb hby d4_20) rfl (flt hc2).2.2.1 k) ?_
        show own_Go _ _ _ _ (s₁.setTop (mkF m 23 #[.val (.ref a1), .val (.int p1), .val (.int p2), .val (.int i)] []))
        refine own_by (fun _ k => XS.iinc X0.here hx rfl (hb hby d4_23) rfl (l' := #[.val (.ref a1), .val (.int p1), .val (.int p2), .val (.int (i + (1 : Int32)))]) rfl k) ?_
        obtain ⟨v3_3, hv3_3⟩ : ∃ z_ : Int32, (i + (1 : Int32)) = z_ := ⟨_, rfl⟩
        refine own_gen hv3_3 (fun z_ => s₁.setTop (mkF m 26 #[.val (.ref a1), .val (.int p1), .val (.int p2), .val (.int z_)] [])) ?_
        show own_Go _ _ _ _ (s₁.setTop (mkF m 26 #[.val (.ref a1), .val (.int p1), .val (.int p2), .val (.int v3_3)] []))
        refine own_by (fun _ k => XS.goto X0.here hx rfl (pc0 := 26) (pc' := 2) rfl (hb hby d4_26) (by decide) (by decide) k) ?_
        exact ih (i' + 1) (by omega) (by rw [← hr, own_de, if_pos ⟨hc1, hc2⟩]) _ (own_inc hi (by omega) hv3_3)
set_option maxRecDepth 65536 in
set_option maxHeartbeats 40000000 in
theorem rm2 (l : Launch) (Z : State) (a0 : Array Value) (hw : ∀ d ∈ tables_1, d.before a0 Z = true) (ws : List Jvm.Cond) (a1 : Addr) (p1 : Int32) (p2 : Int32) (p3 : Int32) (f : Nat → Int32) (F E : Nat) (h0 : Heap) (n0 : Nat) (Z0 : n0 ≤ h0.size) (A1 : own_AI Z h0 a1 .byte 4 f) (hF : p1.toInt = (F : Int)) (hE : p2.toInt = (E : Int)) (hFE : F ≤ E) (hE4 : E ≤ 4) :
    MetFree l (⟨"com/example/settleline/settleline/csv/FieldSyntax", "isWholeNumber", "([BIII)Z"⟩ : MethodName) (head1 (Jvm.Cond.code (⟨"com/example/settleline/settleline/csv/FieldSyntax", "isWholeNumber", "([BIII)Z"⟩ : MethodName) prog_12_method_3_code 6 (some .boolean) :: ws) ({ frames := 1, cells := 0, slots := 0, locals := 15 } : Room)) (fun a U => a = #[(.ref a1), (.int p1), (.int p2), (.int p3)] ∧ Z.Warmed39 U.vm ∧ U.heap = h0) (fun _ _ _ _ _ => True) (fun _ U o U' => ∃ v L, o = .returned v ∧ own_ap (fun v h L => v = some (.int (own_iw f F E p3)) ∧ Fr n0 L ∧ h = h0) v U'.heap L ∧ FrameEnd U o U' L 0 0) := by
  refine MetFree.of_bodySF (plainFor_of_name pn_2) hisR ?_
  intro p e s m args below meth c s₁ Bd hml0 hP hK
  obtain ⟨rfl, hZ, hh⟩ := hP
  have hx := Bd.exec
  have hby := Bd.bytes
  have hml : c.maxLocals = 6 := hml0
  have hown : s.vm.findClass "com/example/settleline/settleline/csv/FieldSyntax" = some m.cls := findClass_of_methodNamed Bd.named
  have hnm := (name_of_methodNamed Bd.named Bd.method).1
  have X0 : Stand p l e ({ frames := 1, cells := 0, slots := 0, locals := 15 } : Room) s m #[(.ref a1), (.int p1), (.int p2), (.int p3)] below meth c s₁ [] 0 0 := Stand.of_body Bd
  have e0 : s₁.heap = h0 := by rw [← hh, Bd.state]; rfl
  have N0 := Fr.nil n0
  show own_Go p.tables e below (own_Q s (fun v h L => v = some (.int (own_iw f F E p3)) ∧ Fr n0 L ∧ h = h0) 0 0) (s₁.setTop (entryFrame m #[(.ref a1), (.int p1), (.int p2), (.int p3)] 6))
  rw [show entryFrame m #[(.ref a1), (.int p1), (.int p2), (.int p3)] 6 = mkF m 0 #[.val (.ref a1), .val (.int p1), .val (.int p2), .val (.int p3), .unset, .unset] [] from by first | (simp [entryFrame, mkF, argsToLocals, Value.category]; done) | rfl]
  show own_Go _ _ _ _ (s₁.setTop (mkF m 0 #[.val (.ref a1), .val (.int p1), .val (.int p2), .val (.int p3), .unset, .unset] []))
  refine own_by (fun _ k => XS.iloadN X0.here hx rfl (hb hby d2_0) rfl k) ?_
  show own_Go _ _ _ _ (s₁.setTop (mkF m 1 #[.val (.ref a1), .val (.int p1), .val (.int p2), .val (.int p3), .unset, .unset] [(.int p1)]))
  refine own_by (fun _ k => XS.iloadN X0.here hx rfl (hb hby d2_1) rfl k) ?_
  refine own_by (V := s₁.setTop (mkF m 20 #[.val (.ref a1), .val (.int p1), .val (.int p2), .val (.int p3), .unset, .unset] [(.int (if p1 < p2 then (if (f F) = (45 : Int32) then (p1 + (1 : Int32)) else p1) else p1))])) (fun _ kk => ?_) ?_
  · --
    show Steps _ _ _ (s₁.setTop (mkF m 2 #[.val (.ref a1), .val (.int p1), .val (.int p2), .val (.int p3), .unset, .unset] [(.int p2), (.int p1)])) _
    by_cases hc1 : p1 < p2
    · --
      refine XS.icmpNo X0.here hx rfl (hb hby d2_2) rfl (tlt hc1).2.1 ?_
      show Steps _ _ _ (s₁.setTop (mkF m 5 #[.val (.ref a1), .val (.int p1), .val (.int p2), .val (.int p3), .unset, .unset] [])) _
      refine XS.aloadN X0.here hx rfl (hb hby d2_5) rfl rfl ?_
      show Steps _ _ _ (s₁.setTop (mkF m 6 #[.val (.ref a1), .val (.int p1), .val (.int p2), .val (.int p3), .unset, .unset] [(.ref a1)])) _
      refine XS.iloadN X0.here hx rfl (hb hby d2_6) rfl ?_
      show Steps _ _ _ (s₁.setTop (mkF m 7 #[.val (.ref a1), .val (.int p1), .val (.int p2), .val (.int p3), .unset, .unset] [(.int p1), (.ref a1)])) _
      refine own_bal X0 hx hZ e0 A1 F hF (by rw [Int32.lt_iff_toInt_lt] at hc1; omega) (hb hby d2_7) ?_
      show Steps _ _ _ (s₁.setTop (mkF m 8 #[.val (.ref a1), .val (.int p1), .val (.int p2), .val (.int p3), .unset, .unset] [(.int (f F))])) _
      refine XS.bipush X0.here hx rfl (hb hby d2_8) ?_
      show Steps _ _ _ (s₁.setTop (mkF m 10 #[.val (.ref a1), .val (.int p1), .val (.int p2), .val (.int p3), .unset, .unset] [(.int (45 : Int32)), (.int (f F))])) _
      by_cases hc2 : (f F) = (45 : Int32)
      · --
        refine XS.icmpNo X0.here hx rfl (hb hby d2_10) rfl (teq hc2).2 ?_
        show Steps _ _ _ (s₁.setTop (mkF m 13 #[.val (.ref a1), .val (.int p1), .val (.int p2), .val (.int p3), .unset, .unset] [])) _
        refine XS.iloadN X0.here hx rfl (hb hby d2_13) rfl ?_
        show Steps _ _ _ (s₁.setTop (mkF m 14 #[.val (.ref a1), .val (.int p1), .val (.int p2), .val (.int p3), .unset, .unset] [(.int p1)])) _
        refine XS.iconst X0.here hx rfl (hb hby d2_14) ?_
        show Steps _ _ _ (s₁.setTop (mkF m 15 #[.val (.ref a1), .val (.int p1), .val (.int p2), .val (.int p3), .unset, .unset] [(.int (1 : Int32)), (.int p1)])) _
        refine XS.iadd X0.here hx rfl (hb hby d2_15) rfl ?_
        show Steps _ _ _ (s₁.setTop (mkF m 16 #[.val (.ref a1), .val (.int p1), .val (.int p2), .val (.int p3), .unset, .unset] [(.int (p1 + (1 : Int32)))])) _
        refine XS.goto X0.here hx rfl (pc0 := 16) (pc' := 20) rfl (hb hby d2_16) (by decide) (by decide) ?_
        show Steps _ _ _ (s₁.setTop (mkF m 20 #[.val (.ref a1), .val (.int p1), .val (.int p2), .val (.int p3), .unset, .unset] [(.int (p1 + (1 : Int32)))])) _
        try simp only [if_pos hc1, if_pos hc2] at kk
        exact kk
      · --
        refine XS.icmpYes X0.here hx rfl (pc0 := 10) (pc' := 19) rfl (hb hby d2_10) rfl (feq hc2).2 (by decide) (by decide) ?_
        show Steps _ _ _ (s₁.setTop (mkF m 19 #[.val (.ref a1), .val (.int p1), .val (.int p2), .val (.int p3), .unset, .unset] [])) _
        refine XS.iloadN X0.here hx rfl (hb hby d2_19) rfl ?_
        show Steps _ _ _ (s₁.setTop (mkF m 20 #[.val (.ref a1), .val (.int p1), .val (.int p2), .val (.int p3), .unset, .unset] [(.int p1)])) _
        try simp only [if_pos hc1, if_neg hc2] at kk
        exact kk
    · --
      refine XS.icmpYes X0.here hx rfl (pc0 := 2) (pc' := 19) rfl (hb hby d2_2) rfl (flt hc1).2.1 (by decide) (by decide) ?_
      show Steps _ _ _ (s₁.setTop (mkF m 19 #[.val (.ref a1), .val (.int p1), .val (.int p2), .val (.int p3), .unset, .unset] [])) _
      refine XS.iloadN X0.here hx rfl (hb hby d2_19) rfl ?_
      show Steps _ _ _ (s₁.setTop (mkF m 20 #[.val (.ref a1), .val (.int p1), .val (.int p2), .val (.int p3), .unset, .unset] [(.int p1)])) _
      try simp only [if_neg hc1] at kk
      exact kk
  obtain ⟨m3, hm3⟩ : ∃ z_ : Int32, (if p1 < p2 then (if (f F) = (45 : Int32) then (p1 + (1 : Int32)) else p1) else p1) = z_ := ⟨_, rfl⟩
  refine own_gen hm3 (fun z_ => s₁.setTop (mkF m 20 #[.val (.ref a1), .val (.int p1), .val (.int p2), .val (.int p3), .unset, .unset] [(.int z_)])) ?_
  show own_Go _ _ _ _ (s₁.setTop (mkF m 20 #[.val (.ref a1), .val (.int p1), .val (.int p2), .val (.int p3), .unset, .unset] [(.int m3)]))
  refine own_by (fun _ k => XS.istore X0.here hx rfl (hb hby d2_20) rfl (l' := #[.val (.ref a1), .val (.int p1), .val (.int p2), .val (.int p3), .val (.int m3), .unset]) rfl k) ?_
  have hg := own_fst f F E p1 p2 m3 hF hE hE4 hm3
  have hgl := own_first_le f F E hFE
  show own_Go _ _ _ _ (s₁.setTop (mkF m 22 #[.val (.ref a1), .val (.int p1), .val (.int p2), .val (.int p3), .val (.int m3), .unset] []))
  refine own_by (fun _ k => XS.iloadN X0.here hx rfl (hb hby d2_22) rfl k) ?_
  show own_Go _ _ _ _ (s₁.setTop (mkF m 23 #[.val (.ref a1), .val (.int p1), .val (.int p2), .val (.int p3), .val (.int m3), .unset] [(.int p2)]))
  refine own_by (fun _ k => XS.iload X0.here hx rfl (hb hby d2_23) rfl k) ?_
  show own_Go _ _ _ _ (s₁.setTop (mkF m 25 #[.val (.ref a1), .val (.int p1), .val (.int p2), .val (.int p3), .val (.int m3), .unset] [(.int m3), (.int p2)]))
  refine own_by (fun _ k => XS.isub X0.here hx rfl (hb hby d2_25) rfl k) ?_
  show own_Go _ _ _ _ (s₁.setTop (mkF m 26 #[.val (.ref a1), .val (.int p1), .val (.int p2), .val (.int p3), .val (.int m3), .unset] [(.int (p2 - m3))]))
  obtain ⟨v5_4, hv5_4⟩ : ∃ z_ : Int32, (p2 - m3) = z_ := ⟨_, rfl⟩
  refine own_gen hv5_4 (fun z_ => s₁.setTop (mkF m 26 #[.val (.ref a1), .val (.int p1), .val (.int p2), .val (.int p3), .val (.int m3), .unset] [(.int z_)])) ?_
  refine own_by (fun _ k => XS.istore X0.here hx rfl (hb hby d2_26) rfl (l' := #[.val (.ref a1), .val (.int p1), .val (.int p2), .val (.int p3), .val (.int m3), .val (.int v5_4)]) rfl k) ?_
  have hd := own_sub E (own_first f F E) p2 m3 v5_4 hE hg hE4 hgl.2 hv5_4
  show own_Go _ _ _ _ (s₁.setTop (mkF m 28 #[.val (.ref a1), .val (.int p1), .val (.int p2), .val (.int p3), .val (.int m3), .val (.int v5_4)] []))
  refine own_by (fun _ k => XS.iload X0.here hx rfl (hb hby d2_28) rfl k) ?_
  show own_Go _ _ _ _ (s₁.setTop (mkF m 30 #[.val (.ref a1), .val (.int p1), .val (.int p2), .val (.int p3), .val (.int m3), .val (.int v5_4)] [(.int v5_4)]))
  refine own_by (fun _ k => XS.iconst X0.here hx rfl (hb hby d2_30) k) ?_
  show own_Go _ _ _ _ (s₁.setTop (mkF m 31 #[.val (.ref a1), .val (.int p1), .val (.int p2), .val (.int p3), .val (.int m3), .val (.int v5_4)] [(.int (1 : Int32)), (.int v5_4)]))
  by_cases hc5 : v5_4 < (1 : Int32)
  · --
    refine own_by (fun _ k => XS.icmpYes X0.here hx rfl (pc0 := 31) (pc' := 55) rfl (hb hby d2_31) rfl (tlt hc5).1 (by decide) (by decide) k) ?_
    show own_Go _ _ _ _ (s₁.setTop (mkF m 55 #[.val (.ref a1), .val (.int p1), .val (.int p2), .val (.int p3), .val (.int m3), .val (.int v5_4)] []))
    refine own_by (fun _ k => XS.iconst X0.here hx rfl (hb hby d2_55) k) ?_
    show own_Go _ _ _ _ (s₁.setTop (mkF m 56 #[.val (.ref a1), .val (.int p1), .val (.int p2), .val (.int p3), .val (.int m3), .val (.int v5_4)] [(.int (0 : Int32))]))
    exact own_retN X0 hx Bd.notSynchronized e0 Bd.returns (by simp) (hb hby d2_56) (⟨by rw [own_iw_val f F E p3 _ hd, if_pos hc5]; rfl, N0, rfl⟩) (by decide) (by decide)
  · --
    refine own_by (fun _ k => XS.icmpNo X0.here hx rfl (hb hby d2_31) rfl (flt hc5).1 k) ?_
    show own_Go _ _ _ _ (s₁.setTop (mkF m 34 #[.val (.ref a1), .val (.int p1), .val (.int p2), .val (.int p3), .val (.int m3), .val (.int v5_4)] []))
    refine own_by (fun _ k => XS.iload X0.here hx rfl (hb hby d2_34) rfl k) ?_
    show own_Go _ _ _ _ (s₁.setTop (mkF m 36 #[.val (.ref a1), .val (.int p1), .val (.int p2), .val (.int p3), .val (.int m3), .val (.int v5_4)] [(.int v5_4)]))
    refine own_by (fun _ k => XS.iloadN X0.here hx rfl (hb hby d2_36) rfl k) ?_
    show own_Go _ _ _ _ (s₁.setTop (mkF m 37 #[.val (.ref a1), .val (.int p1), .val (.int p2), .val (.int p3), .val (.int m3), .val (.int v5_4)] [(.int p3), (.int v5_4)]))
    by_cases hc6 : p3 < v5_4
    · --
      refine own_by (fun _ k => XS.icmpYes X0.here hx rfl (pc0 := 37) (pc' := 55) rfl (hb hby d2_37) rfl (tlt hc6).2.2.1 (by decide) (by decide) k) ?_
      show own_Go _ _ _ _ (s₁.setTop (mkF m 55 #[.val (.ref a1), .val (.int p1), .val (.int p2), .val (.int p3), .val (.int m3), .val (.int v5_4)] []))
      refine own_by (fun _ k => XS.iconst X0.here hx rfl (hb hby d2_55) k) ?_
      show own_Go _ _ _ _ (s₁.setTop (mkF m 56 #[.val (.ref a1), .val (.int p1), .val (.int p2), .val (.int p3), .val (.int m3), .val (.int v5_4)] [(.int (0 : Int32))]))
      exact own_retN X0 hx Bd.notSynchronized e0 Bd.returns (by simp) (hb hby d2_56) (⟨by rw [own_iw_val f F E p3 _ hd, if_neg hc5, if_pos hc6]; rfl, N0, rfl⟩) (by decide) (by decide)
    · --
      refine own_by (fun _ k => XS.icmpNo X0.here hx rfl (hb hby d2_37) rfl (flt hc6).2.2.1 k) ?_
      show own_Go _ _ _ _ (s₁.setTop (mkF m 40 #[.val (.ref a1), .val (.int p1), .val (.int p2), .val (.int p3), .val (.int m3), .val (.int v5_4)] []))
      refine own_by (fun _ k => XS.aloadN X0.here hx rfl (hb hby d2_40) rfl rfl k) ?_
      show own_Go _ _ _ _ (s₁.setTop (mkF m 41 #[.val (.ref a1), .val (.int p1), .val (.int p2), .val (.int p3), .val (.int m3), .val (.int v5_4)] [(.ref a1)]))
      refine own_by (fun _ k => XS.iload X0.here hx rfl (hb hby d2_41) rfl k) ?_
      show own_Go _ _ _ _ (s₁.setTop (mkF m 43 #[.val (.ref a1), .val (.int p1), .val (.int p2), .val (.int p3), .val (.int m3), .val (.int v5_4)] [(.int m3), (.ref a1)]))
      refine own_by (fun _ k => XS.iloadN X0.here hx rfl (hb hby d2_43) rfl k) ?_
      show own_Go _ _ _ _ (s₁.setTop (mkF m 44 #[.val (.ref a1), .val (.int p1), .val (.int p2), .val (.int p3), .val (.int m3), .val (.int v5_4)] [(.int p2), (.int m3), (.ref a1)]))
      obtain ⟨_, _, ⟨T7, L7, k7, n7⟩, -, X7, ⟨Lc7, hQ7, l7, y7, z7⟩, st7⟩ := Jvm.LawKit.callS X0 hx (y := (⟨"com/example/settleline/settleline/csv/FieldSyntax", "digitsEnd", "([BII)I"⟩ : MethodName)) hown (mvT hZ (hw _ (List.mem_of_getElem? (i := 12) rfl))) (mvT hZ (hw _ (List.mem_of_getElem? (i := 13) rfl))) (mvT hZ (hw _ (List.mem_of_getElem? (i := 7) rfl))) (mvT hZ (hw _ (List.mem_of_getElem? (i := 14) rfl))) (by decide) (backOf (W := 0) (rm4 l Z a0 hw [] a1 m3 p2 f (own_first f F E) E h0 n0 Z0 A1 hg hE hgl.2 hE4) hZ (hw _ (List.mem_of_getElem? (i := 14) rfl)) (hw _ (List.mem_of_getElem? (i := 7) rfl)) (by decide) (by decide)) (g := (mkF m 44 #[.val (.ref a1), .val (.int p1), .val (.int p2), .val (.int p3), .val (.int m3), .val (.int v5_4)] [(.int p2), (.int m3), (.ref a1)])) rfl (by rw [hml]; rfl) (argsL := [(.ref a1), (.int m3), (.int p2)]) (rest := []) (lenOf own_pd2 rfl) rfl (by show 2 * 0 + _ ≤ _; exact Nat.le_of_eq rfl) (hb hby d2_44) (fun _ _ => ⟨rfl, e0, Nat.le_of_ble_eq_true rfl, Nat.le_of_ble_eq_true rfl⟩)
      dsimp only [Pt.U, Pt.locs, Pt.cells, Pt.slots] at X7 l7 y7 z7 st7 hQ7
      subst l7 y7 z7
      obtain ⟨rfl, N7q, e7⟩ := hQ7
      have N7 := Fr.app N0 N7q
      refine own_by st7 ?_
      show own_Go _ _ _ _ (T7.setTop (mkF m 47 #[.val (.ref a1), .val (.int p1), .val (.int p2), .val (.int p3), .val (.int m3), .val (.int v5_4)] [(.int (Int32.ofNat (own_de f (E - own_first f F E) (own_first f F E))))]))
      refine own_by (fun _ k => XS.iloadN X7.here hx rfl (hb hby d2_47) rfl k) ?_
      show own_Go _ _ _ _ (T7.setTop (mkF m 48 #[.val (.ref a1), .val (.int p1), .val (.int p2), .val (.int p3), .val (.int m3), .val (.int v5_4)] [(.int p2), (.int (Int32.ofNat (own_de f (E - own_first f F E) (own_first f F E))))]))
      by_cases hc8 : (Int32.ofNat (own_de f (E - own_first f F E) (own_first f F E))) = p2
      · --
        refine own_by (fun _ k => XS.icmpNo X7.here hx rfl (hb hby d2_48) rfl (teq hc8).2 k) ?_
        show own_Go _ _ _ _ (T7.setTop (mkF m 51 #[.val (.ref a1), .val (.int p1), .val (.int p2), .val (.int p3), .val (.int m3), .val (.int v5_4)] []))
        refine own_by (fun _ k => XS.iconst X7.here hx rfl (hb hby d2_51) k) ?_
        show own_Go _ _ _ _ (T7.setTop (mkF m 52 #[.val (.ref a1), .val (.int p1), .val (.int p2), .val (.int p3), .val (.int m3), .val (.int v5_4)] [(.int (1 : Int32))]))
        refine own_by (fun _ k => XS.goto X7.here hx rfl (pc0 := 52) (pc' := 56) rfl (hb hby d2_52) (by decide) (by decide) k) ?_
        show own_Go _ _ _ _ (T7.setTop (mkF m 56 #[.val (.ref a1), .val (.int p1), .val (.int p2), .val (.int p3), .val (.int m3), .val (.int v5_4)] [(.int (1 : Int32))]))
        exact own_retN X7 hx Bd.notSynchronized e7 Bd.returns (by simp) (hb hby d2_56) (⟨by rw [own_iw_val f F E p3 _ hd, if_neg hc5, if_neg hc6, if_pos ((own_deEq f E _ p2 hE hgl.2 hE4).mp hc8)]; rfl, N7, rfl⟩) (by decide) (by decide)
      · --
        refine own_by (fun _ k => XS.icmpYes X7.here hx rfl (pc0 := 48) (pc' := 55) rfl (hb hby d2_48) rfl (feq hc8).2 (by decide) (by decide) k) ?_
        show own_Go _ _ _ _ (T7.setTop (mkF m 55 #[.val (.ref a1), .val (.int p1), .val (.int p2), .val (.int p3), .val (.int m3), .val (.int v5_4)] []))
        refine own_by (fun _ k => XS.iconst X7.here hx rfl (hb hby d2_55) k) ?_
        show own_Go _ _ _ _ (T7.setTop (mkF m 56 #[.val (.ref a1), .val (.int p1), .val (.int p2), .val (.int p3), .val (.int m3), .val (.int v5_4)] [(.int (0 : Int32))]))
        exact own_retN X7 hx Bd.notSynchronized e7 Bd.returns (by simp) (hb hby d2_56) (⟨by rw [own_iw_val f F E p3 _ hd, if_neg hc5, if_neg hc6, if_neg (mt (own_deEq f E _ p2 hE hgl.2 hE4).mpr hc8)]; rfl, N7, rfl⟩) (by decide) (by decide)
set_option maxRecDepth 65536 in
set_option maxHeartbeats 40000000 in
theorem rm0 (l : Launch) (Z : State) (a0 : Array Value) (hw : ∀ d ∈ tables_1, d.before a0 Z = true) (ws : List Jvm.Cond) (p1 : Int32) (p2 : Int32) (p3 : Int32) (p4 : Int32) (p5 : Int32) (p6 : Int32)  (h0 : Heap) (n0 : Nat) (Z0 : n0 ≤ h0.size) :
    MetFree l x (head1 (Jvm.Cond.code x code maxLocals ret :: ws) room_1) (fun a U => a = #[(.int p1), (.int p2), (.int p3), (.int p4), (.int p5), (.int p6)] ∧ Z.Warmed39 U.vm ∧ U.heap = h0) (fun _ _ _ _ _ => True) (fun _ U o U' => ∃ v L, o = .returned v ∧ own_ap (fun v h L => v = some (.int 1) ∧ Fr n0 L) v U'.heap L ∧ FrameEnd U o U' L 16 128) := by
  refine MetFree.of_bodySF (plainFor_of_name pn_0) hisR ?_
  intro p e s m args below meth c s₁ Bd hml0 hP hK
  obtain ⟨rfl, hZ, hh⟩ := hP
  have hx := Bd.exec
  have hby := Bd.bytes
  have hml : c.maxLocals = 16 := hml0
  have hown : s.vm.findClass "com/example/settleline/settleline/csv/FieldSyntaxIsWholeNumberPinLaw" = some m.cls := findClass_of_methodNamed Bd.named
  have hnm := (name_of_methodNamed Bd.named Bd.method).1
  have X0 : Stand p l e room_1 s m #[(.int p1), (.int p2), (.int p3), (.int p4), (.int p5), (.int p6)] below meth c s₁ [] 0 0 := Stand.of_body Bd
  have e0 : s₁.heap = h0 := by rw [← hh, Bd.state]; rfl
  have N0 := Fr.nil n0
  show own_Go p.tables e below (own_Q s (fun v h L => v = some (.int 1) ∧ Fr n0 L) 16 128) (s₁.setTop (entryFrame m #[(.int p1), (.int p2), (.int p3), (.int p4), (.int p5), (.int p6)] maxLocals))
  rw [show entryFrame m #[(.int p1), (.int p2), (.int p3), (.int p4), (.int p5), (.int p6)] maxLocals = mkF m 0 #[.val (.int p1), .val (.int p2), .val (.int p3), .val (.int p4), .val (.int p5), .val (.int p6), .unset, .unset, .unset, .unset, .unset, .unset, .unset, .unset, .unset, .unset] [] from by first | (simp [entryFrame, mkF, argsToLocals, Value.category, maxLocals]; done) | rfl]
  show own_Go _ _ _ _ (s₁.setTop (mkF m 0 #[.val (.int p1), .val (.int p2), .val (.int p3), .val (.int p4), .val (.int p5), .val (.int p6), .unset, .unset, .unset, .unset, .unset, .unset, .unset, .unset, .unset, .unset] []))
  refine own_by (fun _ k => XS.iconst X0.here hx rfl (hb hby at_0) k) ?_
  show own_Go _ _ _ _ (s₁.setTop (mkF m 1 #[.val (.int p1), .val (.int p2), .val (.int p3), .val (.int p4), .val (.int p5), .val (.int p6), .unset, .unset, .unset, .unset, .unset, .unset, .unset, .unset, .unset, .unset] [(.int (4 : Int32))]))
  refine own_newP X0 hx hZ (hw _ (List.mem_of_getElem? (i := 0) rfl)) e0 4 (by decide) 4 (by decide) (by decide) (by decide) (by decide) (hb hby at_1) ?_
  intro T1 h1 X1 e1 E1 A1
  show own_Go _ _ _ _ (T1.setTop (mkF m 3 #[.val (.int p1), .val (.int p2), .val (.int p3), .val (.int p4), .val (.int p5), .val (.int p6), .unset, .unset, .unset, .unset, .unset, .unset, .unset, .unset, .unset, .unset] [.ref h0.size]))
  obtain ⟨b1, g1⟩ : ∃ z, z = h0.size := ⟨_, rfl⟩
  rw [← g1] at A1
  refine own_gen g1.symm (fun z_ => T1.setTop (mkF m 3 #[.val (.int p1), .val (.int p2), .val (.int p3), .val (.int p4), .val (.int p5), .val (.int p6), .unset, .unset, .unset, .unset, .unset, .unset, .unset, .unset, .unset, .unset] [.ref z_])) ?_
  have ge1 : n0 ≤ b1 := Nat.le_trans Z0 (Nat.le_of_eq g1.symm)
  have Z1 := Nat.le_trans Z0 E1.1
  have f2 : own_AI Z h1 b1 .byte 4 (fun _ => 0) := A1
  show own_Go _ _ _ _ (T1.setTop (mkF m 3 #[.val (.int p1), .val (.int p2), .val (.int p3), .val (.int p4), .val (.int p5), .val (.int p6), .unset, .unset, .unset, .unset, .unset, .unset, .unset, .unset, .unset, .unset] [(.ref b1)]))
  refine own_by (fun _ k => XS.dup X1.here hx rfl (hb hby at_3) rfl rfl k) ?_
  show own_Go _ _ _ _ (T1.setTop (mkF m 4 #[.val (.int p1), .val (.int p2), .val (.int p3), .val (.int p4), .val (.int p5), .val (.int p6), .unset, .unset, .unset, .unset, .unset, .unset, .unset, .unset, .unset, .unset] [(.ref b1), (.ref b1)]))
  refine own_by (fun _ k => XS.iconst X1.here hx rfl (hb hby at_4) k) ?_
  show own_Go _ _ _ _ (T1.setTop (mkF m 5 #[.val (.int p1), .val (.int p2), .val (.int p3), .val (.int p4), .val (.int p5), .val (.int p6), .unset, .unset, .unset, .unset, .unset, .unset, .unset, .unset, .unset, .unset] [(.int (0 : Int32)), (.ref b1), (.ref b1)]))
  refine own_by (fun _ k => XS.iloadN X1.here hx rfl (hb hby at_5) rfl k) ?_
  show own_Go _ _ _ _ (T1.setTop (mkF m 6 #[.val (.int p1), .val (.int p2), .val (.int p3), .val (.int p4), .val (.int p5), .val (.int p6), .unset, .unset, .unset, .unset, .unset, .unset, .unset, .unset, .unset, .unset] [(.int p1), (.int (0 : Int32)), (.ref b1), (.ref b1)]))
  obtain ⟨_, _, ⟨T3, L3, k3, n3⟩, -, X3, ⟨Lc3, hQ3, l3, y3, z3⟩, st3⟩ := Jvm.LawKit.callS X1 hx (y := (⟨"com/example/settleline/settleline/csv/FieldSyntaxIsWholeNumberPinLaw", "draw", "(I)B"⟩ : MethodName)) hown (mvT hZ (hw _ (List.mem_of_getElem? (i := 1) rfl))) (mvT hZ (hw _ (List.mem_of_getElem? (i := 2) rfl))) (mvT hZ (hw _ (List.mem_of_getElem? (i := 3) rfl))) (mvT hZ (hw _ (List.mem_of_getElem? (i := 4) rfl))) (by decide) (backOf (W := 3) (rm1 l Z a0 hw [] p1 h1 n0 Z1) hZ (hw _ (List.mem_of_getElem? (i := 4) rfl)) (hw _ (List.mem_of_getElem? (i := 3) rfl)) (by decide) (by decide)) (g := (mkF m 6 #[.val (.int p1), .val (.int p2), .val (.int p3), .val (.int p4), .val (.int p5), .val (.int p6), .unset, .unset, .unset, .unset, .unset, .unset, .unset, .unset, .unset, .unset] [(.int p1), (.int (0 : Int32)), (.ref b1), (.ref b1)])) rfl (by rw [hml]; rfl) (argsL := [(.int p1)]) (rest := [(.int (0 : Int32)), (.ref b1), (.ref b1)]) (lenOf own_pd0 rfl) rfl (by show 2 * 0 + _ ≤ _; exact Nat.le_of_eq rfl) (hb hby at_6) (fun _ _ => ⟨rfl, e1, Nat.le_of_ble_eq_true rfl, Nat.le_of_ble_eq_true rfl⟩)
  dsimp only [Pt.U, Pt.locs, Pt.cells, Pt.slots] at X3 l3 y3 z3 st3 hQ3
  subst l3 y3 z3
  obtain ⟨x3, rfl, N3q, e3⟩ := hQ3
  have N3 := Fr.app N0 N3q
  refine own_by st3 ?_
  show own_Go _ _ _ _ (T3.setTop (mkF m 9 #[.val (.int p1), .val (.int p2), .val (.int p3), .val (.int p4), .val (.int p5), .val (.int p6), .unset, .unset, .unset, .unset, .unset, .unset, .unset, .unset, .unset, .unset] [(.int x3), (.int (0 : Int32)), (.ref b1), (.ref b1)]))
  refine own_bas X3 hx hZ e3 f2 0 (by decide) (by decide) (hb hby at_9) ?_
  intro T4 h4 X4 e4 W4 A4
  have N4 := Fr.snoc X4 N3 ge1
  have Z4 := own_size_wr W4 Z1
  show own_Go _ _ _ _ (T4.setTop (mkF m 10 #[.val (.int p1), .val (.int p2), .val (.int p3), .val (.int p4), .val (.int p5), .val (.int p6), .unset, .unset, .unset, .unset, .unset, .unset, .unset, .unset, .unset, .unset] [(.ref b1)]))
  refine own_by (fun _ k => XS.dup X4.here hx rfl (hb hby at_10) rfl rfl k) ?_
  show own_Go _ _ _ _ (T4.setTop (mkF m 11 #[.val (.int p1), .val (.int p2), .val (.int p3), .val (.int p4), .val (.int p5), .val (.int p6), .unset, .unset, .unset, .unset, .unset, .unset, .unset, .unset, .unset, .unset] [(.ref b1), (.ref b1)]))
  refine own_by (fun _ k => XS.iconst X4.here hx rfl (hb hby at_11) k) ?_
  show own_Go _ _ _ _ (T4.setTop (mkF m 12 #[.val (.int p1), .val (.int p2), .val (.int p3), .val (.int p4), .val (.int p5), .val (.int p6), .unset, .unset, .unset, .unset, .unset, .unset, .unset, .unset, .unset, .unset] [(.int (1 : Int32)), (.ref b1), (.ref b1)]))
  refine own_by (fun _ k => XS.iloadN X4.here hx rfl (hb hby at_12) rfl k) ?_
  show own_Go _ _ _ _ (T4.setTop (mkF m 13 #[.val (.int p1), .val (.int p2), .val (.int p3), .val (.int p4), .val (.int p5), .val (.int p6), .unset, .unset, .unset, .unset, .unset, .unset, .unset, .unset, .unset, .unset] [(.int p2), (.int (1 : Int32)), (.ref b1), (.ref b1)]))
  obtain ⟨_, _, ⟨T5, L5, k5, n5⟩, -, X5, ⟨Lc5, hQ5, l5, y5, z5⟩, st5⟩ := Jvm.LawKit.callS X4 hx (y := (⟨"com/example/settleline/settleline/csv/FieldSyntaxIsWholeNumberPinLaw", "draw", "(I)B"⟩ : MethodName)) hown (mvT hZ (hw _ (List.mem_of_getElem? (i := 1) rfl))) (mvT hZ (hw _ (List.mem_of_getElem? (i := 2) rfl))) (mvT hZ (hw _ (List.mem_of_getElem? (i := 3) rfl))) (mvT hZ (hw _ (List.mem_of_getElem? (i := 4) rfl))) (by decide) (backOf (W := 3) (rm1 l Z a0 hw [] p2 h4 n0 Z4) hZ (hw _ (List.mem_of_getElem? (i := 4) rfl)) (hw _ (List.mem_of_getElem? (i := 3) rfl)) (by decide) (by decide)) (g := (mkF m 13 #[.val (.int p1), .val (.int p2), .val (.int p3), .val (.int p4), .val (.int p5), .val (.int p6), .unset, .unset, .unset, .unset, .unset, .unset, .unset, .unset, .unset, .unset] [(.int p2), (.int (1 : Int32)), (.ref b1), (.ref b1)])) rfl (by rw [hml]; rfl) (argsL := [(.int p2)]) (rest := [(.int (1 : Int32)), (.ref b1), (.ref b1)]) (lenOf own_pd0 rfl) rfl (by show 2 * 0 + _ ≤ _; exact Nat.le_of_eq rfl) (hb hby at_13) (fun _ _ => ⟨rfl, e4, Nat.le_of_ble_eq_true rfl, Nat.le_of_ble_eq_true rfl⟩)
  dsimp only [Pt.U, Pt.locs, Pt.cells, Pt.slots] at X5 l5 y5 z5 st5 hQ5
  subst l5 y5 z5
  obtain ⟨x5, rfl, N5q, e5⟩ := hQ5
  have N5 := Fr.app N4 N5q
  refine own_by st5 ?_
  show own_Go _ _ _ _ (T5.setTop (mkF m 16 #[.val (.int p1), .val (.int p2), .val (.int p3), .val (.int p4), .val (.int p5), .val (.int p6), .unset, .unset, .unset, .unset, .unset, .unset, .unset, .unset, .unset, .unset] [(.int x5), (.int (1 : Int32)), (.ref b1), (.ref b1)]))
  refine own_bas X5 hx hZ e5 A4 1 (by decide) (by decide) (hb hby at_16) ?_
  intro T6 h6 X6 e6 W6 A6
  have N6 := Fr.snoc X6 N5 ge1
  have Z6 := own_size_wr W6 Z4
  show own_Go _ _ _ _ (T6.setTop (mkF m 17 #[.val (.int p1), .val (.int p2), .val (.int p3), .val (.int p4), .val (.int p5), .val (.int p6), .unset, .unset, .unset, .unset, .unset, .unset, .unset, .unset, .unset, .unset] [(.ref b1)]))
  refine own_by (fun _ k => XS.dup X6.here hx rfl (hb hby at_17) rfl rfl k) ?_
  show own_Go _ _ _ _ (T6.setTop (mkF m 18 #[.val (.int p1), .val (.int p2), .val (.int p3), .val (.int p4), .val (.int p5), .val (.int p6), .unset, .unset, .unset, .unset, .unset, .unset, .unset, .unset, .unset, .unset] [(.ref b1), (.ref b1)]))
  refine own_by (fun _ k => XS.iconst X6.here hx rfl (hb hby at_18) k) ?_
  show own_Go _ _ _ _ (T6.setTop (mkF m 19 #[.val (.int p1), .val (.int p2), .val (.int p3), .val (.int p4), .val (.int p5), .val (.int p6), .unset, .unset, .unset, .unset, .unset, .unset, .unset, .unset, .unset, .unset] [(.int (2 : Int32)), (.ref b1), (.ref b1)]))
  refine own_by (fun _ k => XS.iloadN X6.here hx rfl (hb hby at_19) rfl k) ?_
  show own_Go _ _ _ _ (T6.setTop (mkF m 20 #[.val (.int p1), .val (.int p2), .val (.int p3), .val (.int p4), .val (.int p5), .val (.int p6), .unset, .unset, .unset, .unset, .unset, .unset, .unset, .unset, .unset, .unset] [(.int p3), (.int (2 : Int32)), (.ref b1), (.ref b1)]))
  obtain ⟨_, _, ⟨T7, L7, k7, n7⟩, -, X7, ⟨Lc7, hQ7, l7, y7, z7⟩, st7⟩ := Jvm.LawKit.callS X6 hx (y := (⟨"com/example/settleline/settleline/csv/FieldSyntaxIsWholeNumberPinLaw", "draw", "(I)B"⟩ : MethodName)) hown (mvT hZ (hw _ (List.mem_of_getElem? (i := 1) rfl))) (mvT hZ (hw _ (List.mem_of_getElem? (i := 2) rfl))) (mvT hZ (hw _ (List.mem_of_getElem? (i := 3) rfl))) (mvT hZ (hw _ (List.mem_of_getElem? (i := 4) rfl))) (by decide) (backOf (W := 3) (rm1 l Z a0 hw [] p3 h6 n0 Z6) hZ (hw _ (List.mem_of_getElem? (i := 4) rfl)) (hw _ (List.mem_of_getElem? (i := 3) rfl)) (by decide) (by decide)) (g := (mkF m 20 #[.val (.int p1), .val (.int p2), .val (.int p3), .val (.int p4), .val (.int p5), .val (.int p6), .unset, .unset, .unset, .unset, .unset, .unset, .unset, .unset, .unset, .unset] [(.int p3), (.int (2 : Int32)), (.ref b1), (.ref b1)])) rfl (by rw [hml]; rfl) (argsL := [(.int p3)]) (rest := [(.int (2 : Int32)), (.ref b1), (.ref b1)]) (lenOf own_pd0 rfl) rfl (by show 2 * 0 + _ ≤ _; exact Nat.le_of_eq rfl) (hb hby at_20) (fun _ _ => ⟨rfl, e6, Nat.le_of_ble_eq_true rfl, Nat.le_of_ble_eq_true rfl⟩)
  dsimp only [Pt.U, Pt.locs, Pt.cells, Pt.slots] at X7 l7 y7 z7 st7 hQ7
  subst l7 y7 z7
  obtain ⟨x7, rfl, N7q, e7⟩ := hQ7
  have N7 := Fr.app N6 N7q
  refine own_by st7 ?_
  show own_Go _ _ _ _ (T7.setTop (mkF m 23 #[.val (.int p1), .val (.int p2), .val (.int p3), .val (.int p4), .val (.int p5), .val (.int p6), .unset, .unset, .unset, .unset, .unset, .unset, .unset, .unset, .unset, .unset] [(.int x7), (.int (2 : Int32)), (.ref b1), (.ref b1)]))
  refine own_bas X7 hx hZ e7 A6 2 (by decide) (by decide) (hb hby at_23) ?_
  intro T8 h8 X8 e8 W8 A8
  have N8 := Fr.snoc X8 N7 ge1
  have Z8 := own_size_wr W8 Z6
  show own_Go _ _ _ _ (T8.setTop (mkF m 24 #[.val (.int p1), .val (.int p2), .val (.int p3), .val (.int p4), .val (.int p5), .val (.int p6), .unset, .unset, .unset, .unset, .unset, .unset, .unset, .unset, .unset, .unset] [(.ref b1)]))
  refine own_by (fun _ k => XS.dup X8.here hx rfl (hb hby at_24) rfl rfl k) ?_
  show own_Go _ _ _ _ (T8.setTop (mkF m 25 #[.val (.int p1), .val (.int p2), .val (.int p3), .val (.int p4), .val (.int p5), .val (.int p6), .unset, .unset, .unset, .unset, .unset, .unset, .unset, .unset, .unset, .unset] [(.ref b1), (.ref b1)]))
  refine own_by (fun _ k => XS.iconst X8.here hx rfl (hb hby at_25) k) ?_
  show own_Go _ _ _ _ (T8.setTop (mkF m 26 #[.val (.int p1), .val (.int p2), .val (.int p3), .val (.int p4), .val (.int p5), .val (.int p6), .unset, .unset, .unset, .unset, .unset, .unset, .unset, .unset, .unset, .unset] [(.int (3 : Int32)), (.ref b1), (.ref b1)]))
  refine own_by (fun _ k => XS.iloadN X8.here hx rfl (hb hby at_26) rfl k) ?_
  show own_Go _ _ _ _ (T8.setTop (mkF m 27 #[.val (.int p1), .val (.int p2), .val (.int p3), .val (.int p4), .val (.int p5), .val (.int p6), .unset, .unset, .unset, .unset, .unset, .unset, .unset, .unset, .unset, .unset] [(.int p4), (.int (3 : Int32)), (.ref b1), (.ref b1)]))
  obtain ⟨_, _, ⟨T9, L9, k9, n9⟩, -, X9, ⟨Lc9, hQ9, l9, y9, z9⟩, st9⟩ := Jvm.LawKit.callS X8 hx (y := (⟨"com/example/settleline/settleline/csv/FieldSyntaxIsWholeNumberPinLaw", "draw", "(I)B"⟩ : MethodName)) hown (mvT hZ (hw _ (List.mem_of_getElem? (i := 1) rfl))) (mvT hZ (hw _ (List.mem_of_getElem? (i := 2) rfl))) (mvT hZ (hw _ (List.mem_of_getElem? (i := 3) rfl))) (mvT hZ (hw _ (List.mem_of_getElem? (i := 4) rfl))) (by decide) (backOf (W := 3) (rm1 l Z a0 hw [] p4 h8 n0 Z8) hZ (hw _ (List.mem_of_getElem? (i := 4) rfl)) (hw _ (List.mem_of_getElem? (i := 3) rfl)) (by decide) (by decide)) (g := (mkF m 27 #[.val (.int p1), .val (.int p2), .val (.int p3), .val (.int p4), .val (.int p5), .val (.int p6), .unset, .unset, .unset, .unset, .unset, .unset, .unset, .unset, .unset, .unset] [(.int p4), (.int (3 : Int32)), (.ref b1), (.ref b1)])) rfl (by rw [hml]; rfl) (argsL := [(.int p4)]) (rest := [(.int (3 : Int32)), (.ref b1), (.ref b1)]) (lenOf own_pd0 rfl) rfl (by show 2 * 0 + _ ≤ _; exact Nat.le_of_eq rfl) (hb hby at_27) (fun _ _ => ⟨rfl, e8, Nat.le_of_ble_eq_true rfl, Nat.le_of_ble_eq_true rfl⟩)
  dsimp only [Pt.U, Pt.locs, Pt.cells, Pt.slots] at X9 l9 y9 z9 st9 hQ9
  subst l9 y9 z9
  obtain ⟨x9, rfl, N9q, e9⟩ := hQ9
  have N9 := Fr.app N8 N9q
  refine own_by st9 ?_
  show own_Go _ _ _ _ (T9.setTop (mkF m 30 #[.val (.int p1), .val (.int p2), .val (.int p3), .val (.int p4), .val (.int p5), .val (.int p6), .unset, .unset, .unset, .unset, .unset, .unset, .unset, .unset, .unset, .unset] [(.int x9), (.int (3 : Int32)), (.ref b1), (.ref b1)]))
  refine own_bas X9 hx hZ e9 A8 3 (by decide) (by decide) (hb hby at_30) ?_
  intro T10 h10 X10 e10 W10 A10
  have N10 := Fr.snoc X10 N9 ge1
  have Z10 := own_size_wr W10 Z8
  show own_Go _ _ _ _ (T10.setTop (mkF m 31 #[.val (.int p1), .val (.int p2), .val (.int p3), .val (.int p4), .val (.int p5), .val (.int p6), .unset, .unset, .unset, .unset, .unset, .unset, .unset, .unset, .unset, .unset] [(.ref b1)]))
  refine own_by (fun _ k => XS.astore X10.here hx rfl (hb hby at_31) rfl rfl (l' := #[.val (.int p1), .val (.int p2), .val (.int p3), .val (.int p4), .val (.int p5), .val (.int p6), .val (.ref b1), .unset, .unset, .unset, .unset, .unset, .unset, .unset, .unset, .unset]) rfl k) ?_
  show own_Go _ _ _ _ (T10.setTop (mkF m 33 #[.val (.int p1), .val (.int p2), .val (.int p3), .val (.int p4), .val (.int p5), .val (.int p6), .val (.ref b1), .unset, .unset, .unset, .unset, .unset, .unset, .unset, .unset, .unset] []))
  refine own_by (fun _ k => XS.iload X10.here hx rfl (hb hby at_33) rfl k) ?_
  show own_Go _ _ _ _ (T10.setTop (mkF m 35 #[.val (.int p1), .val (.int p2), .val (.int p3), .val (.int p4), .val (.int p5), .val (.int p6), .val (.ref b1), .unset, .unset, .unset, .unset, .unset, .unset, .unset, .unset, .unset] [(.int p5)]))
  refine own_by (fun _ k => XS.bipush X10.here hx rfl (hb hby at_35) k) ?_
  show own_Go _ _ _ _ (T10.setTop (mkF m 37 #[.val (.int p1), .val (.int p2), .val (.int p3), .val (.int p4), .val (.int p5), .val (.int p6), .val (.ref b1), .unset, .unset, .unset, .unset, .unset, .unset, .unset, .unset, .unset] [(.int (7 : Int32)), (.int p5)]))
  refine own_by (fun _ k => XS.iand X10.here hx rfl (hb hby at_37) rfl k) ?_
  show own_Go _ _ _ _ (T10.setTop (mkF m 38 #[.val (.int p1), .val (.int p2), .val (.int p3), .val (.int p4), .val (.int p5), .val (.int p6), .val (.ref b1), .unset, .unset, .unset, .unset, .unset, .unset, .unset, .unset, .unset] [(.int (p5 &&& (7 : Int32)))]))
  refine own_by (fun _ k => XS.iconst X10.here hx rfl (hb hby at_38) k) ?_
  show own_Go _ _ _ _ (T10.setTop (mkF m 39 #[.val (.int p1), .val (.int p2), .val (.int p3), .val (.int p4), .val (.int p5), .val (.int p6), .val (.ref b1), .unset, .unset, .unset, .unset, .unset, .unset, .unset, .unset, .unset] [(.int (5 : Int32)), (.int (p5 &&& (7 : Int32)))]))
  refine own_by (fun _ k => iremM X10 hx rfl (hb hby at_39) rfl (by decide) k) ?_
  show own_Go _ _ _ _ (T10.setTop (mkF m 40 #[.val (.int p1), .val (.int p2), .val (.int p3), .val (.int p4), .val (.int p5), .val (.int p6), .val (.ref b1), .unset, .unset, .unset, .unset, .unset, .unset, .unset, .unset, .unset] [(.int ((p5 &&& (7 : Int32)) % (5 : Int32)))]))
  obtain ⟨v7_11, hv7_11⟩ : ∃ z_ : Int32, ((p5 &&& (7 : Int32)) % (5 : Int32)) = z_ := ⟨_, rfl⟩
  refine own_gen hv7_11 (fun z_ => T10.setTop (mkF m 40 #[.val (.int p1), .val (.int p2), .val (.int p3), .val (.int p4), .val (.int p5), .val (.int p6), .val (.ref b1), .unset, .unset, .unset, .unset, .unset, .unset, .unset, .unset, .unset] [(.int z_)])) ?_
  refine own_by (fun _ k => XS.istore X10.here hx rfl (hb hby at_40) rfl (l' := #[.val (.int p1), .val (.int p2), .val (.int p3), .val (.int p4), .val (.int p5), .val (.int p6), .val (.ref b1), .val (.int v7_11), .unset, .unset, .unset, .unset, .unset, .unset, .unset, .unset]) rfl k) ?_
  obtain ⟨ff, hff⟩ : ∃ g, g = (own_upd (own_upd (own_upd (own_upd (fun _ => 0) 0 (nar .byte x3)) 1 (nar .byte x5)) 2 (nar .byte x7)) 3 (nar .byte x9)) := ⟨_, rfl⟩
  rw [← hff] at A10
  obtain ⟨F, hF4, hF⟩ := own_from _ _ hv7_11
  show own_Go _ _ _ _ (T10.setTop (mkF m 42 #[.val (.int p1), .val (.int p2), .val (.int p3), .val (.int p4), .val (.int p5), .val (.int p6), .val (.ref b1), .val (.int v7_11), .unset, .unset, .unset, .unset, .unset, .unset, .unset, .unset] []))
  refine own_by (fun _ k => XS.iload X10.here hx rfl (hb hby at_42) rfl k) ?_
  show own_Go _ _ _ _ (T10.setTop (mkF m 44 #[.val (.int p1), .val (.int p2), .val (.int p3), .val (.int p4), .val (.int p5), .val (.int p6), .val (.ref b1), .val (.int v7_11), .unset, .unset, .unset, .unset, .unset, .unset, .unset, .unset] [(.int v7_11)]))
  refine own_by (fun _ k => XS.iload X10.here hx rfl (hb hby at_44) rfl k) ?_
  show own_Go _ _ _ _ (T10.setTop (mkF m 46 #[.val (.int p1), .val (.int p2), .val (.int p3), .val (.int p4), .val (.int p5), .val (.int p6), .val (.ref b1), .val (.int v7_11), .unset, .unset, .unset, .unset, .unset, .unset, .unset, .unset] [(.int p5), (.int v7_11)]))
  refine own_by (fun _ k => XS.iconst X10.here hx rfl (hb hby at_46) k) ?_
  show own_Go _ _ _ _ (T10.setTop (mkF m 47 #[.val (.int p1), .val (.int p2), .val (.int p3), .val (.int p4), .val (.int p5), .val (.int p6), .val (.ref b1), .val (.int v7_11), .unset, .unset, .unset, .unset, .unset, .unset, .unset, .unset] [(.int (3 : Int32)), (.int p5), (.int v7_11)]))
  refine own_by (fun _ k => XS.iushr X10.here hx rfl (hb hby at_47) rfl k) ?_
  show own_Go _ _ _ _ (T10.setTop (mkF m 48 #[.val (.int p1), .val (.int p2), .val (.int p3), .val (.int p4), .val (.int p5), .val (.int p6), .val (.ref b1), .val (.int v7_11), .unset, .unset, .unset, .unset, .unset, .unset, .unset, .unset] [(.int ((p5.toUInt32 >>> ((3 : Int32) &&& 31).toUInt32).toInt32)), (.int v7_11)]))
  refine own_by (fun _ k => XS.bipush X10.here hx rfl (hb hby at_48) k) ?_
  show own_Go _ _ _ _ (T10.setTop (mkF m 50 #[.val (.int p1), .val (.int p2), .val (.int p3), .val (.int p4), .val (.int p5), .val (.int p6), .val (.ref b1), .val (.int v7_11), .unset, .unset, .unset, .unset, .unset, .unset, .unset, .unset] [(.int (7 : Int32)), (.int ((p5.toUInt32 >>> ((3 : Int32) &&& 31).toUInt32).toInt32)), (.int v7_11)]))
  refine own_by (fun _ k => XS.iand X10.here hx rfl (hb hby at_50) rfl k) ?_
  show own_Go _ _ _ _ (T10.setTop (mkF m 51 #[.val (.int p1), .val (.int p2), .val (.int p3), .val (.int p4), .val (.int p5), .val (.int p6), .val (.ref b1), .val (.int v7_11), .unset, .unset, .unset, .unset, .unset, .unset, .unset, .unset] [(.int (((p5.toUInt32 >>> ((3 : Int32) &&& 31).toUInt32).toInt32) &&& (7 : Int32))), (.int v7_11)]))
  refine own_by (fun _ k => XS.iconst X10.here hx rfl (hb hby at_51) k) ?_
  show own_Go _ _ _ _ (T10.setTop (mkF m 52 #[.val (.int p1), .val (.int p2), .val (.int p3), .val (.int p4), .val (.int p5), .val (.int p6), .val (.ref b1), .val (.int v7_11), .unset, .unset, .unset, .unset, .unset, .unset, .unset, .unset] [(.int (5 : Int32)), (.int (((p5.toUInt32 >>> ((3 : Int32) &&& 31).toUInt32).toInt32) &&& (7 : Int32))), (.int v7_11)]))
  refine own_by (fun _ k => XS.iload X10.here hx rfl (hb hby at_52) rfl k) ?_
  show own_Go _ _ _ _ (T10.setTop (mkF m 54 #[.val (.int p1), .val (.int p2), .val (.int p3), .val (.int p4), .val (.int p5), .val (.int p6), .val (.ref b1), .val (.int v7_11), .unset, .unset, .unset, .unset, .unset, .unset, .unset, .unset] [(.int v7_11), (.int (5 : Int32)), (.int (((p5.toUInt32 >>> ((3 : Int32) &&& 31).toUInt32).toInt32) &&& (7 : Int32))), (.int v7_11)]))
  refine own_by (fun _ k => XS.isub X10.here hx rfl (hb hby at_54) rfl k) ?_
  show own_Go _ _ _ _ (T10.setTop (mkF m 55 #[.val (.int p1), .val (.int p2), .val (.int p3), .val (.int p4), .val (.int p5), .val (.int p6), .val (.ref b1), .val (.int v7_11), .unset, .unset, .unset, .unset, .unset, .unset, .unset, .unset] [(.int ((5 : Int32) - v7_11)), (.int (((p5.toUInt32 >>> ((3 : Int32) &&& 31).toUInt32).toInt32) &&& (7 : Int32))), (.int v7_11)]))
  refine own_by (fun _ k => iremM X10 hx rfl (hb hby at_55) rfl (own_nz v7_11 F hF hF4).1 k) ?_
  show own_Go _ _ _ _ (T10.setTop (mkF m 56 #[.val (.int p1), .val (.int p2), .val (.int p3), .val (.int p4), .val (.int p5), .val (.int p6), .val (.ref b1), .val (.int v7_11), .unset, .unset, .unset, .unset, .unset, .unset, .unset, .unset] [(.int ((((p5.toUInt32 >>> ((3 : Int32) &&& 31).toUInt32).toInt32) &&& (7 : Int32)) % ((5 : Int32) - v7_11))), (.int v7_11)]))
  refine own_by (fun _ k => XS.iadd X10.here hx rfl (hb hby at_56) rfl k) ?_
  show own_Go _ _ _ _ (T10.setTop (mkF m 57 #[.val (.int p1), .val (.int p2), .val (.int p3), .val (.int p4), .val (.int p5), .val (.int p6), .val (.ref b1), .val (.int v7_11), .unset, .unset, .unset, .unset, .unset, .unset, .unset, .unset] [(.int (v7_11 + ((((p5.toUInt32 >>> ((3 : Int32) &&& 31).toUInt32).toInt32) &&& (7 : Int32)) % ((5 : Int32) - v7_11))))]))
  obtain ⟨v8_12, hv8_12⟩ : ∃ z_ : Int32, (v7_11 + ((((p5.toUInt32 >>> ((3 : Int32) &&& 31).toUInt32).toInt32) &&& (7 : Int32)) % ((5 : Int32) - v7_11))) = z_ := ⟨_, rfl⟩
  refine own_gen hv8_12 (fun z_ => T10.setTop (mkF m 57 #[.val (.int p1), .val (.int p2), .val (.int p3), .val (.int p4), .val (.int p5), .val (.int p6), .val (.ref b1), .val (.int v7_11), .unset, .unset, .unset, .unset, .unset, .unset, .unset, .unset] [(.int z_)])) ?_
  refine own_by (fun _ k => XS.istore X10.here hx rfl (hb hby at_57) rfl (l' := #[.val (.int p1), .val (.int p2), .val (.int p3), .val (.int p4), .val (.int p5), .val (.int p6), .val (.ref b1), .val (.int v7_11), .val (.int v8_12), .unset, .unset, .unset, .unset, .unset, .unset, .unset]) rfl k) ?_
  obtain ⟨E, hFE, hE4, hE⟩ := own_to _ _ _ F hF hF4 hv8_12
  show own_Go _ _ _ _ (T10.setTop (mkF m 59 #[.val (.int p1), .val (.int p2), .val (.int p3), .val (.int p4), .val (.int p5), .val (.int p6), .val (.ref b1), .val (.int v7_11), .val (.int v8_12), .unset, .unset, .unset, .unset, .unset, .unset, .unset] []))
  refine own_by (fun _ k => XS.iload X10.here hx rfl (hb hby at_59) rfl k) ?_
  show own_Go _ _ _ _ (T10.setTop (mkF m 61 #[.val (.int p1), .val (.int p2), .val (.int p3), .val (.int p4), .val (.int p5), .val (.int p6), .val (.ref b1), .val (.int v7_11), .val (.int v8_12), .unset, .unset, .unset, .unset, .unset, .unset, .unset] [(.int p5)]))
  refine own_by (fun _ k => XS.bipush X10.here hx rfl (hb hby at_61) k) ?_
  show own_Go _ _ _ _ (T10.setTop (mkF m 63 #[.val (.int p1), .val (.int p2), .val (.int p3), .val (.int p4), .val (.int p5), .val (.int p6), .val (.ref b1), .val (.int v7_11), .val (.int v8_12), .unset, .unset, .unset, .unset, .unset, .unset, .unset] [(.int (9 : Int32)), (.int p5)]))
  refine own_by (fun _ k => XS.iushr X10.here hx rfl (hb hby at_63) rfl k) ?_
  show own_Go _ _ _ _ (T10.setTop (mkF m 64 #[.val (.int p1), .val (.int p2), .val (.int p3), .val (.int p4), .val (.int p5), .val (.int p6), .val (.ref b1), .val (.int v7_11), .val (.int v8_12), .unset, .unset, .unset, .unset, .unset, .unset, .unset] [(.int ((p5.toUInt32 >>> ((9 : Int32) &&& 31).toUInt32).toInt32))]))
  refine own_by (fun _ k => XS.iconst X10.here hx rfl (hb hby at_64) k) ?_
  show own_Go _ _ _ _ (T10.setTop (mkF m 65 #[.val (.int p1), .val (.int p2), .val (.int p3), .val (.int p4), .val (.int p5), .val (.int p6), .val (.ref b1), .val (.int v7_11), .val (.int v8_12), .unset, .unset, .unset, .unset, .unset, .unset, .unset] [(.int (1 : Int32)), (.int ((p5.toUInt32 >>> ((9 : Int32) &&& 31).toUInt32).toInt32))]))
  refine own_by (fun _ k => XS.iand X10.here hx rfl (hb hby at_65) rfl k) ?_
  refine own_by (V := T10.setTop (mkF m 84 #[.val (.int p1), .val (.int p2), .val (.int p3), .val (.int p4), .val (.int p5), .val (.int p6), .val (.ref b1), .val (.int v7_11), .val (.int v8_12), .unset, .unset, .unset, .unset, .unset, .unset, .unset] [(.int (if (((p5.toUInt32 >>> ((9 : Int32) &&& 31).toUInt32).toInt32) &&& (1 : Int32)) = (0 : Int32) then ((((p5.toUInt32 >>> ((6 : Int32) &&& 31).toUInt32).toInt32) &&& (7 : Int32)) - (1 : Int32)) else p6))])) (fun _ kk => ?_) ?_
  · --
    show Steps _ _ _ (T10.setTop (mkF m 66 #[.val (.int p1), .val (.int p2), .val (.int p3), .val (.int p4), .val (.int p5), .val (.int p6), .val (.ref b1), .val (.int v7_11), .val (.int v8_12), .unset, .unset, .unset, .unset, .unset, .unset, .unset] [(.int (((p5.toUInt32 >>> ((9 : Int32) &&& 31).toUInt32).toInt32) &&& (1 : Int32)))])) _
    by_cases hc13 : (((p5.toUInt32 >>> ((9 : Int32) &&& 31).toUInt32).toInt32) &&& (1 : Int32)) = (0 : Int32)
    · --
      refine XS.ifYes X10.here hx rfl (pc0 := 66) (pc' := 74) rfl (hb hby at_66) rfl ((if0 _ _).trans (teq hc13).1) (by decide) (by decide) ?_
      show Steps _ _ _ (T10.setTop (mkF m 74 #[.val (.int p1), .val (.int p2), .val (.int p3), .val (.int p4), .val (.int p5), .val (.int p6), .val (.ref b1), .val (.int v7_11), .val (.int v8_12), .unset, .unset, .unset, .unset, .unset, .unset, .unset] [])) _
      refine XS.iload X10.here hx rfl (hb hby at_74) rfl ?_
      show Steps _ _ _ (T10.setTop (mkF m 76 #[.val (.int p1), .val (.int p2), .val (.int p3), .val (.int p4), .val (.int p5), .val (.int p6), .val (.ref b1), .val (.int v7_11), .val (.int v8_12), .unset, .unset, .unset, .unset, .unset, .unset, .unset] [(.int p5)])) _
      refine XS.bipush X10.here hx rfl (hb hby at_76) ?_
      show Steps _ _ _ (T10.setTop (mkF m 78 #[.val (.int p1), .val (.int p2), .val (.int p3), .val (.int p4), .val (.int p5), .val (.int p6), .val (.ref b1), .val (.int v7_11), .val (.int v8_12), .unset, .unset, .unset, .unset, .unset, .unset, .unset] [(.int (6 : Int32)), (.int p5)])) _
      refine XS.iushr X10.here hx rfl (hb hby at_78) rfl ?_
      show Steps _ _ _ (T10.setTop (mkF m 79 #[.val (.int p1), .val (.int p2), .val (.int p3), .val (.int p4), .val (.int p5), .val (.int p6), .val (.ref b1), .val (.int v7_11), .val (.int v8_12), .unset, .unset, .unset, .unset, .unset, .unset, .unset] [(.int ((p5.toUInt32 >>> ((6 : Int32) &&& 31).toUInt32).toInt32))])) _
      refine XS.bipush X10.here hx rfl (hb hby at_79) ?_
      show Steps _ _ _ (T10.setTop (mkF m 81 #[.val (.int p1), .val (.int p2), .val (.int p3), .val (.int p4), .val (.int p5), .val (.int p6), .val (.ref b1), .val (.int v7_11), .val (.int v8_12), .unset, .unset, .unset, .unset, .unset, .unset, .unset] [(.int (7 : Int32)), (.int ((p5.toUInt32 >>> ((6 : Int32) &&& 31).toUInt32).toInt32))])) _
      refine XS.iand X10.here hx rfl (hb hby at_81) rfl ?_
      show Steps _ _ _ (T10.setTop (mkF m 82 #[.val (.int p1), .val (.int p2), .val (.int p3), .val (.int p4), .val (.int p5), .val (.int p6), .val (.ref b1), .val (.int v7_11), .val (.int v8_12), .unset, .unset, .unset, .unset, .unset, .unset, .unset] [(.int (((p5.toUInt32 >>> ((6 : Int32) &&& 31).toUInt32).toInt32) &&& (7 : Int32)))])) _
      refine XS.iconst X10.here hx rfl (hb hby at_82) ?_
      show Steps _ _ _ (T10.setTop (mkF m 83 #[.val (.int p1), .val (.int p2), .val (.int p3), .val (.int p4), .val (.int p5), .val (.int p6), .val (.ref b1), .val (.int v7_11), .val (.int v8_12), .unset, .unset, .unset, .unset, .unset, .unset, .unset] [(.int (1 : Int32)), (.int (((p5.toUInt32 >>> ((6 : Int32) &&& 31).toUInt32).toInt32) &&& (7 : Int32)))])) _
      refine XS.isub X10.here hx rfl (hb hby at_83) rfl ?_
      show Steps _ _ _ (T10.setTop (mkF m 84 #[.val (.int p1), .val (.int p2), .val (.int p3), .val (.int p4), .val (.int p5), .val (.int p6), .val (.ref b1), .val (.int v7_11), .val (.int v8_12), .unset, .unset, .unset, .unset, .unset, .unset, .unset] [(.int ((((p5.toUInt32 >>> ((6 : Int32) &&& 31).toUInt32).toInt32) &&& (7 : Int32)) - (1 : Int32)))])) _
      try simp only [if_pos hc13] at kk
      exact kk
    · --
      refine XS.ifNo X10.here hx rfl (hb hby at_66) rfl ((if0 _ _).trans (feq hc13).1) ?_
      show Steps _ _ _ (T10.setTop (mkF m 69 #[.val (.int p1), .val (.int p2), .val (.int p3), .val (.int p4), .val (.int p5), .val (.int p6), .val (.ref b1), .val (.int v7_11), .val (.int v8_12), .unset, .unset, .unset, .unset, .unset, .unset, .unset] [])) _
      refine XS.iload X10.here hx rfl (hb hby at_69) rfl ?_
      show Steps _ _ _ (T10.setTop (mkF m 71 #[.val (.int p1), .val (.int p2), .val (.int p3), .val (.int p4), .val (.int p5), .val (.int p6), .val (.ref b1), .val (.int v7_11), .val (.int v8_12), .unset, .unset, .unset, .unset, .unset, .unset, .unset] [(.int p6)])) _
      refine XS.goto X10.here hx rfl (pc0 := 71) (pc' := 84) rfl (hb hby at_71) (by decide) (by decide) ?_
      show Steps _ _ _ (T10.setTop (mkF m 84 #[.val (.int p1), .val (.int p2), .val (.int p3), .val (.int p4), .val (.int p5), .val (.int p6), .val (.ref b1), .val (.int v7_11), .val (.int v8_12), .unset, .unset, .unset, .unset, .unset, .unset, .unset] [(.int p6)])) _
      try simp only [if_neg hc13] at kk
      exact kk
  obtain ⟨m14, hm14⟩ : ∃ z_ : Int32, (if (((p5.toUInt32 >>> ((9 : Int32) &&& 31).toUInt32).toInt32) &&& (1 : Int32)) = (0 : Int32) then ((((p5.toUInt32 >>> ((6 : Int32) &&& 31).toUInt32).toInt32) &&& (7 : Int32)) - (1 : Int32)) else p6) = z_ := ⟨_, rfl⟩
  refine own_gen hm14 (fun z_ => T10.setTop (mkF m 84 #[.val (.int p1), .val (.int p2), .val (.int p3), .val (.int p4), .val (.int p5), .val (.int p6), .val (.ref b1), .val (.int v7_11), .val (.int v8_12), .unset, .unset, .unset, .unset, .unset, .unset, .unset] [(.int z_)])) ?_
  show own_Go _ _ _ _ (T10.setTop (mkF m 84 #[.val (.int p1), .val (.int p2), .val (.int p3), .val (.int p4), .val (.int p5), .val (.int p6), .val (.ref b1), .val (.int v7_11), .val (.int v8_12), .unset, .unset, .unset, .unset, .unset, .unset, .unset] [(.int m14)]))
  refine own_by (fun _ k => XS.istore X10.here hx rfl (hb hby at_84) rfl (l' := #[.val (.int p1), .val (.int p2), .val (.int p3), .val (.int p4), .val (.int p5), .val (.int p6), .val (.ref b1), .val (.int v7_11), .val (.int v8_12), .val (.int m14), .unset, .unset, .unset, .unset, .unset, .unset]) rfl k) ?_
  show own_Go _ _ _ _ (T10.setTop (mkF m 86 #[.val (.int p1), .val (.int p2), .val (.int p3), .val (.int p4), .val (.int p5), .val (.int p6), .val (.ref b1), .val (.int v7_11), .val (.int v8_12), .val (.int m14), .unset, .unset, .unset, .unset, .unset, .unset] []))
  refine own_by (fun _ k => XS.aload X10.here hx rfl (hb hby at_86) rfl rfl k) ?_
  show own_Go _ _ _ _ (T10.setTop (mkF m 88 #[.val (.int p1), .val (.int p2), .val (.int p3), .val (.int p4), .val (.int p5), .val (.int p6), .val (.ref b1), .val (.int v7_11), .val (.int v8_12), .val (.int m14), .unset, .unset, .unset, .unset, .unset, .unset] [(.ref b1)]))
  refine own_by (fun _ k => XS.iload X10.here hx rfl (hb hby at_88) rfl k) ?_
  show own_Go _ _ _ _ (T10.setTop (mkF m 90 #[.val (.int p1), .val (.int p2), .val (.int p3), .val (.int p4), .val (.int p5), .val (.int p6), .val (.ref b1), .val (.int v7_11), .val (.int v8_12), .val (.int m14), .unset, .unset, .unset, .unset, .unset, .unset] [(.int v7_11), (.ref b1)]))
  refine own_by (fun _ k => XS.iload X10.here hx rfl (hb hby at_90) rfl k) ?_
  show own_Go _ _ _ _ (T10.setTop (mkF m 92 #[.val (.int p1), .val (.int p2), .val (.int p3), .val (.int p4), .val (.int p5), .val (.int p6), .val (.ref b1), .val (.int v7_11), .val (.int v8_12), .val (.int m14), .unset, .unset, .unset, .unset, .unset, .unset] [(.int v8_12), (.int v7_11), (.ref b1)]))
  refine own_by (fun _ k => XS.iload X10.here hx rfl (hb hby at_92) rfl k) ?_
  show own_Go _ _ _ _ (T10.setTop (mkF m 94 #[.val (.int p1), .val (.int p2), .val (.int p3), .val (.int p4), .val (.int p5), .val (.int p6), .val (.ref b1), .val (.int v7_11), .val (.int v8_12), .val (.int m14), .unset, .unset, .unset, .unset, .unset, .unset] [(.int m14), (.int v8_12), (.int v7_11), (.ref b1)]))
  obtain ⟨_, _, ⟨T15, L15, k15, n15⟩, -, X15, ⟨Lc15, hQ15, l15, y15, z15⟩, st15⟩ := Jvm.LawKit.callS X10 hx (y := (⟨"com/example/settleline/settleline/csv/FieldSyntax", "isWholeNumber", "([BIII)Z"⟩ : MethodName)) hown (mvT hZ (hw _ (List.mem_of_getElem? (i := 5) rfl))) (mvT hZ (hw _ (List.mem_of_getElem? (i := 6) rfl))) (mvT hZ (hw _ (List.mem_of_getElem? (i := 7) rfl))) (mvT hZ (hw _ (List.mem_of_getElem? (i := 8) rfl))) (by decide) (backOf (W := 0) (rm2 l Z a0 hw [] b1 v7_11 v8_12 m14 ff F E h10 n0 Z10 A10 hF hE hFE hE4) hZ (hw _ (List.mem_of_getElem? (i := 8) rfl)) (hw _ (List.mem_of_getElem? (i := 7) rfl)) (by decide) (by decide)) (g := (mkF m 94 #[.val (.int p1), .val (.int p2), .val (.int p3), .val (.int p4), .val (.int p5), .val (.int p6), .val (.ref b1), .val (.int v7_11), .val (.int v8_12), .val (.int m14), .unset, .unset, .unset, .unset, .unset, .unset] [(.int m14), (.int v8_12), (.int v7_11), (.ref b1)])) rfl (by rw [hml]; rfl) (argsL := [(.ref b1), (.int v7_11), (.int v8_12), (.int m14)]) (rest := []) (lenOf own_pd1 rfl) rfl (by show 2 * 0 + _ ≤ _; exact Nat.le_of_eq rfl) (hb hby at_94) (fun _ _ => ⟨rfl, e10, Nat.le_of_ble_eq_true rfl, Nat.le_of_ble_eq_true rfl⟩)
  dsimp only [Pt.U, Pt.locs, Pt.cells, Pt.slots] at X15 l15 y15 z15 st15 hQ15
  subst l15 y15 z15
  obtain ⟨rfl, N15q, e15⟩ := hQ15
  have N15 := Fr.app N10 N15q
  refine own_by st15 ?_
  show own_Go _ _ _ _ (T15.setTop (mkF m 97 #[.val (.int p1), .val (.int p2), .val (.int p3), .val (.int p4), .val (.int p5), .val (.int p6), .val (.ref b1), .val (.int v7_11), .val (.int v8_12), .val (.int m14), .unset, .unset, .unset, .unset, .unset, .unset] [(.int (own_iw ff F E m14))]))
  obtain ⟨v10_16, hv10_16⟩ : ∃ z_ : Int32, (own_iw ff F E m14) = z_ := ⟨_, rfl⟩
  refine own_gen hv10_16 (fun z_ => T15.setTop (mkF m 97 #[.val (.int p1), .val (.int p2), .val (.int p3), .val (.int p4), .val (.int p5), .val (.int p6), .val (.ref b1), .val (.int v7_11), .val (.int v8_12), .val (.int m14), .unset, .unset, .unset, .unset, .unset, .unset] [(.int z_)])) ?_
  refine own_by (fun _ k => XS.istore X15.here hx rfl (hb hby at_97) rfl (l' := #[.val (.int p1), .val (.int p2), .val (.int p3), .val (.int p4), .val (.int p5), .val (.int p6), .val (.ref b1), .val (.int v7_11), .val (.int v8_12), .val (.int m14), .val (.int v10_16), .unset, .unset, .unset, .unset, .unset]) rfl k) ?_
  show own_Go _ _ _ _ (T15.setTop (mkF m 99 #[.val (.int p1), .val (.int p2), .val (.int p3), .val (.int p4), .val (.int p5), .val (.int p6), .val (.ref b1), .val (.int v7_11), .val (.int v8_12), .val (.int m14), .val (.int v10_16), .unset, .unset, .unset, .unset, .unset] []))
  refine own_by (fun _ k => XS.iload X15.here hx rfl (hb hby at_99) rfl k) ?_
  show own_Go _ _ _ _ (T15.setTop (mkF m 101 #[.val (.int p1), .val (.int p2), .val (.int p3), .val (.int p4), .val (.int p5), .val (.int p6), .val (.ref b1), .val (.int v7_11), .val (.int v8_12), .val (.int m14), .val (.int v10_16), .unset, .unset, .unset, .unset, .unset] [(.int v7_11)]))
  refine own_by (fun _ k => XS.iload X15.here hx rfl (hb hby at_101) rfl k) ?_
  refine own_by (V := T15.setTop (mkF m 121 #[.val (.int p1), .val (.int p2), .val (.int p3), .val (.int p4), .val (.int p5), .val (.int p6), .val (.ref b1), .val (.int v7_11), .val (.int v8_12), .val (.int m14), .val (.int v10_16), .unset, .unset, .unset, .unset, .unset] [(.int (if v7_11 < v8_12 then (if (ff F) = (45 : Int32) then (1 : Int32) else (0 : Int32)) else (0 : Int32)))])) (fun _ kk => ?_) ?_
  · --
    show Steps _ _ _ (T15.setTop (mkF m 103 #[.val (.int p1), .val (.int p2), .val (.int p3), .val (.int p4), .val (.int p5), .val (.int p6), .val (.ref b1), .val (.int v7_11), .val (.int v8_12), .val (.int m14), .val (.int v10_16), .unset, .unset, .unset, .unset, .unset] [(.int v8_12), (.int v7_11)])) _
    by_cases hc17 : v7_11 < v8_12
    · --
      refine XS.icmpNo X15.here hx rfl (hb hby at_103) rfl (tlt hc17).2.1 ?_
      show Steps _ _ _ (T15.setTop (mkF m 106 #[.val (.int p1), .val (.int p2), .val (.int p3), .val (.int p4), .val (.int p5), .val (.int p6), .val (.ref b1), .val (.int v7_11), .val (.int v8_12), .val (.int m14), .val (.int v10_16), .unset, .unset, .unset, .unset, .unset] [])) _
      refine XS.aload X15.here hx rfl (hb hby at_106) rfl rfl ?_
      show Steps _ _ _ (T15.setTop (mkF m 108 #[.val (.int p1), .val (.int p2), .val (.int p3), .val (.int p4), .val (.int p5), .val (.int p6), .val (.ref b1), .val (.int v7_11), .val (.int v8_12), .val (.int m14), .val (.int v10_16), .unset, .unset, .unset, .unset, .unset] [(.ref b1)])) _
      refine XS.iload X15.here hx rfl (hb hby at_108) rfl ?_
      show Steps _ _ _ (T15.setTop (mkF m 110 #[.val (.int p1), .val (.int p2), .val (.int p3), .val (.int p4), .val (.int p5), .val (.int p6), .val (.ref b1), .val (.int v7_11), .val (.int v8_12), .val (.int m14), .val (.int v10_16), .unset, .unset, .unset, .unset, .unset] [(.int v7_11), (.ref b1)])) _
      refine own_bal X15 hx hZ e15 A10 F hF (by rw [Int32.lt_iff_toInt_lt] at hc17; omega) (hb hby at_110) ?_
      show Steps _ _ _ (T15.setTop (mkF m 111 #[.val (.int p1), .val (.int p2), .val (.int p3), .val (.int p4), .val (.int p5), .val (.int p6), .val (.ref b1), .val (.int v7_11), .val (.int v8_12), .val (.int m14), .val (.int v10_16), .unset, .unset, .unset, .unset, .unset] [(.int (ff F))])) _
      refine XS.bipush X15.here hx rfl (hb hby at_111) ?_
      show Steps _ _ _ (T15.setTop (mkF m 113 #[.val (.int p1), .val (.int p2), .val (.int p3), .val (.int p4), .val (.int p5), .val (.int p6), .val (.ref b1), .val (.int v7_11), .val (.int v8_12), .val (.int m14), .val (.int v10_16), .unset, .unset, .unset, .unset, .unset] [(.int (45 : Int32)), (.int (ff F))])) _
      by_cases hc18 : (ff F) = (45 : Int32)
      · --
        refine XS.icmpNo X15.here hx rfl (hb hby at_113) rfl (teq hc18).2 ?_
        show Steps _ _ _ (T15.setTop (mkF m 116 #[.val (.int p1), .val (.int p2), .val (.int p3), .val (.int p4), .val (.int p5), .val (.int p6), .val (.ref b1), .val (.int v7_11), .val (.int v8_12), .val (.int m14), .val (.int v10_16), .unset, .unset, .unset, .unset, .unset] [])) _
        refine XS.iconst X15.here hx rfl (hb hby at_116) ?_
        show Steps _ _ _ (T15.setTop (mkF m 117 #[.val (.int p1), .val (.int p2), .val (.int p3), .val (.int p4), .val (.int p5), .val (.int p6), .val (.ref b1), .val (.int v7_11), .val (.int v8_12), .val (.int m14), .val (.int v10_16), .unset, .unset, .unset, .unset, .unset] [(.int (1 : Int32))])) _
        refine XS.goto X15.here hx rfl (pc0 := 117) (pc' := 121) rfl (hb hby at_117) (by decide) (by decide) ?_
        show Steps _ _ _ (T15.setTop (mkF m 121 #[.val (.int p1), .val (.int p2), .val (.int p3), .val (.int p4), .val (.int p5), .val (.int p6), .val (.ref b1), .val (.int v7_11), .val (.int v8_12), .val (.int m14), .val (.int v10_16), .unset, .unset, .unset, .unset, .unset] [(.int (1 : Int32))])) _
        try simp only [if_pos hc17, if_pos hc18] at kk
        exact kk
      · --
        refine XS.icmpYes X15.here hx rfl (pc0 := 113) (pc' := 120) rfl (hb hby at_113) rfl (feq hc18).2 (by decide) (by decide) ?_
        show Steps _ _ _ (T15.setTop (mkF m 120 #[.val (.int p1), .val (.int p2), .val (.int p3), .val (.int p4), .val (.int p5), .val (.int p6), .val (.ref b1), .val (.int v7_11), .val (.int v8_12), .val (.int m14), .val (.int v10_16), .unset, .unset, .unset, .unset, .unset] [])) _
        refine XS.iconst X15.here hx rfl (hb hby at_120) ?_
        show Steps _ _ _ (T15.setTop (mkF m 121 #[.val (.int p1), .val (.int p2), .val (.int p3), .val (.int p4), .val (.int p5), .val (.int p6), .val (.ref b1), .val (.int v7_11), .val (.int v8_12), .val (.int m14), .val (.int v10_16), .unset, .unset, .unset, .unset, .unset] [(.int (0 : Int32))])) _
        try simp only [if_pos hc17, if_neg hc18] at kk
        exact kk
    · --
      refine XS.icmpYes X15.here hx rfl (pc0 := 103) (pc' := 120) rfl (hb hby at_103) rfl (flt hc17).2.1 (by decide) (by decide) ?_
      show Steps _ _ _ (T15.setTop (mkF m 120 #[.val (.int p1), .val (.int p2), .val (.int p3), .val (.int p4), .val (.int p5), .val (.int p6), .val (.ref b1), .val (.int v7_11), .val (.int v8_12), .val (.int m14), .val (.int v10_16), .unset, .unset, .unset, .unset, .unset] [])) _
      refine XS.iconst X15.here hx rfl (hb hby at_120) ?_
      show Steps _ _ _ (T15.setTop (mkF m 121 #[.val (.int p1), .val (.int p2), .val (.int p3), .val (.int p4), .val (.int p5), .val (.int p6), .val (.ref b1), .val (.int v7_11), .val (.int v8_12), .val (.int m14), .val (.int v10_16), .unset, .unset, .unset, .unset, .unset] [(.int (0 : Int32))])) _
      try simp only [if_neg hc17] at kk
      exact kk
  obtain ⟨m19, hm19⟩ : ∃ z_ : Int32, (if v7_11 < v8_12 then (if (ff F) = (45 : Int32) then (1 : Int32) else (0 : Int32)) else (0 : Int32)) = z_ := ⟨_, rfl⟩
  refine own_gen hm19 (fun z_ => T15.setTop (mkF m 121 #[.val (.int p1), .val (.int p2), .val (.int p3), .val (.int p4), .val (.int p5), .val (.int p6), .val (.ref b1), .val (.int v7_11), .val (.int v8_12), .val (.int m14), .val (.int v10_16), .unset, .unset, .unset, .unset, .unset] [(.int z_)])) ?_
  show own_Go _ _ _ _ (T15.setTop (mkF m 121 #[.val (.int p1), .val (.int p2), .val (.int p3), .val (.int p4), .val (.int p5), .val (.int p6), .val (.ref b1), .val (.int v7_11), .val (.int v8_12), .val (.int m14), .val (.int v10_16), .unset, .unset, .unset, .unset, .unset] [(.int m19)]))
  refine own_by (fun _ k => XS.istore X15.here hx rfl (hb hby at_121) rfl (l' := #[.val (.int p1), .val (.int p2), .val (.int p3), .val (.int p4), .val (.int p5), .val (.int p6), .val (.ref b1), .val (.int v7_11), .val (.int v8_12), .val (.int m14), .val (.int v10_16), .val (.int m19), .unset, .unset, .unset, .unset]) rfl k) ?_
  show own_Go _ _ _ _ (T15.setTop (mkF m 123 #[.val (.int p1), .val (.int p2), .val (.int p3), .val (.int p4), .val (.int p5), .val (.int p6), .val (.ref b1), .val (.int v7_11), .val (.int v8_12), .val (.int m14), .val (.int v10_16), .val (.int m19), .unset, .unset, .unset, .unset] []))
  refine own_by (fun _ k => XS.iload X15.here hx rfl (hb hby at_123) rfl k) ?_
  refine own_by (V := T15.setTop (mkF m 137 #[.val (.int p1), .val (.int p2), .val (.int p3), .val (.int p4), .val (.int p5), .val (.int p6), .val (.ref b1), .val (.int v7_11), .val (.int v8_12), .val (.int m14), .val (.int v10_16), .val (.int m19), .unset, .unset, .unset, .unset] [(.int (if m19 = (0 : Int32) then v7_11 else (v7_11 + (1 : Int32))))])) (fun _ kk => ?_) ?_
  · --
    show Steps _ _ _ (T15.setTop (mkF m 125 #[.val (.int p1), .val (.int p2), .val (.int p3), .val (.int p4), .val (.int p5), .val (.int p6), .val (.ref b1), .val (.int v7_11), .val (.int v8_12), .val (.int m14), .val (.int v10_16), .val (.int m19), .unset, .unset, .unset, .unset] [(.int m19)])) _
    by_cases hc20 : m19 = (0 : Int32)
    · --
      refine XS.ifYes X15.here hx rfl (pc0 := 125) (pc' := 135) rfl (hb hby at_125) rfl ((if0 _ _).trans (teq hc20).1) (by decide) (by decide) ?_
      show Steps _ _ _ (T15.setTop (mkF m 135 #[.val (.int p1), .val (.int p2), .val (.int p3), .val (.int p4), .val (.int p5), .val (.int p6), .val (.ref b1), .val (.int v7_11), .val (.int v8_12), .val (.int m14), .val (.int v10_16), .val (.int m19), .unset, .unset, .unset, .unset] [])) _
      refine XS.iload X15.here hx rfl (hb hby at_135) rfl ?_
      show Steps _ _ _ (T15.setTop (mkF m 137 #[.val (.int p1), .val (.int p2), .val (.int p3), .val (.int p4), .val (.int p5), .val (.int p6), .val (.ref b1), .val (.int v7_11), .val (.int v8_12), .val (.int m14), .val (.int v10_16), .val (.int m19), .unset, .unset, .unset, .unset] [(.int v7_11)])) _
      try simp only [if_pos hc20] at kk
      exact kk
    · --
      refine XS.ifNo X15.here hx rfl (hb hby at_125) rfl ((if0 _ _).trans (feq hc20).1) ?_
      show Steps _ _ _ (T15.setTop (mkF m 128 #[.val (.int p1), .val (.int p2), .val (.int p3), .val (.int p4), .val (.int p5), .val (.int p6), .val (.ref b1), .val (.int v7_11), .val (.int v8_12), .val (.int m14), .val (.int v10_16), .val (.int m19), .unset, .unset, .unset, .unset] [])) _
      refine XS.iload X15.here hx rfl (hb hby at_128) rfl ?_
      show Steps _ _ _ (T15.setTop (mkF m 130 #[.val (.int p1), .val (.int p2), .val (.int p3), .val (.int p4), .val (.int p5), .val (.int p6), .val (.ref b1), .val (.int v7_11), .val (.int v8_12), .val (.int m14), .val (.int v10_16), .val (.int m19), .unset, .unset, .unset, .unset] [(.int v7_11)])) _
      refine XS.iconst X15.here hx rfl (hb hby at_130) ?_
      show Steps _ _ _ (T15.setTop (mkF m 131 #[.val (.int p1), .val (.int p2), .val (.int p3), .val (.int p4), .val (.int p5), .val (.int p6), .val (.ref b1), .val (.int v7_11), .val (.int v8_12), .val (.int m14), .val (.int v10_16), .val (.int m19), .unset, .unset, .unset, .unset] [(.int (1 : Int32)), (.int v7_11)])) _
      refine XS.iadd X15.here hx rfl (hb hby at_131) rfl ?_
      show Steps _ _ _ (T15.setTop (mkF m 132 #[.val (.int p1), .val (.int p2), .val (.int p3), .val (.int p4), .val (.int p5), .val (.int p6), .val (.ref b1), .val (.int v7_11), .val (.int v8_12), .val (.int m14), .val (.int v10_16), .val (.int m19), .unset, .unset, .unset, .unset] [(.int (v7_11 + (1 : Int32)))])) _
      refine XS.goto X15.here hx rfl (pc0 := 132) (pc' := 137) rfl (hb hby at_132) (by decide) (by decide) ?_
      show Steps _ _ _ (T15.setTop (mkF m 137 #[.val (.int p1), .val (.int p2), .val (.int p3), .val (.int p4), .val (.int p5), .val (.int p6), .val (.ref b1), .val (.int v7_11), .val (.int v8_12), .val (.int m14), .val (.int v10_16), .val (.int m19), .unset, .unset, .unset, .unset] [(.int (v7_11 + (1 : Int32)))])) _
      try simp only [if_neg hc20] at kk
      exact kk
  obtain ⟨m21, hm21⟩ : ∃ z_ : Int32, (if m19 = (0 : Int32) then v7_11 else (v7_11 + (1 : Int32))) = z_ := ⟨_, rfl⟩
  refine own_gen hm21 (fun z_ => T15.setTop (mkF m 137 #[.val (.int p1), .val (.int p2), .val (.int p3), .val (.int p4), .val (.int p5), .val (.int p6), .val (.ref b1), .val (.int v7_11), .val (.int v8_12), .val (.int m14), .val (.int v10_16), .val (.int m19), .unset, .unset, .unset, .unset] [(.int z_)])) ?_
  show own_Go _ _ _ _ (T15.setTop (mkF m 137 #[.val (.int p1), .val (.int p2), .val (.int p3), .val (.int p4), .val (.int p5), .val (.int p6), .val (.ref b1), .val (.int v7_11), .val (.int v8_12), .val (.int m14), .val (.int v10_16), .val (.int m19), .unset, .unset, .unset, .unset] [(.int m21)]))
  refine own_by (fun _ k => XS.istore X15.here hx rfl (hb hby at_137) rfl (l' := #[.val (.int p1), .val (.int p2), .val (.int p3), .val (.int p4), .val (.int p5), .val (.int p6), .val (.ref b1), .val (.int v7_11), .val (.int v8_12), .val (.int m14), .val (.int v10_16), .val (.int m19), .val (.int m21), .unset, .unset, .unset]) rfl k) ?_
  have hg := own_fst ff F E v7_11 v8_12 m21 hF hE hE4 (own_sg ff F E v7_11 v8_12 0 _ _ hm19 hm21)
  have hgl := own_first_le ff F E hFE
  show own_Go _ _ _ _ (T15.setTop (mkF m 139 #[.val (.int p1), .val (.int p2), .val (.int p3), .val (.int p4), .val (.int p5), .val (.int p6), .val (.ref b1), .val (.int v7_11), .val (.int v8_12), .val (.int m14), .val (.int v10_16), .val (.int m19), .val (.int m21), .unset, .unset, .unset] []))
  refine own_by (fun _ k => XS.iload X15.here hx rfl (hb hby at_139) rfl k) ?_
  show own_Go _ _ _ _ (T15.setTop (mkF m 141 #[.val (.int p1), .val (.int p2), .val (.int p3), .val (.int p4), .val (.int p5), .val (.int p6), .val (.ref b1), .val (.int v7_11), .val (.int v8_12), .val (.int m14), .val (.int v10_16), .val (.int m19), .val (.int m21), .unset, .unset, .unset] [(.int v8_12)]))
  refine own_by (fun _ k => XS.iload X15.here hx rfl (hb hby at_141) rfl k) ?_
  show own_Go _ _ _ _ (T15.setTop (mkF m 143 #[.val (.int p1), .val (.int p2), .val (.int p3), .val (.int p4), .val (.int p5), .val (.int p6), .val (.ref b1), .val (.int v7_11), .val (.int v8_12), .val (.int m14), .val (.int v10_16), .val (.int m19), .val (.int m21), .unset, .unset, .unset] [(.int m21), (.int v8_12)]))
  refine own_by (fun _ k => XS.isub X15.here hx rfl (hb hby at_143) rfl k) ?_
  show own_Go _ _ _ _ (T15.setTop (mkF m 144 #[.val (.int p1), .val (.int p2), .val (.int p3), .val (.int p4), .val (.int p5), .val (.int p6), .val (.ref b1), .val (.int v7_11), .val (.int v8_12), .val (.int m14), .val (.int v10_16), .val (.int m19), .val (.int m21), .unset, .unset, .unset] [(.int (v8_12 - m21))]))
  obtain ⟨v13_22, hv13_22⟩ : ∃ z_ : Int32, (v8_12 - m21) = z_ := ⟨_, rfl⟩
  refine own_gen hv13_22 (fun z_ => T15.setTop (mkF m 144 #[.val (.int p1), .val (.int p2), .val (.int p3), .val (.int p4), .val (.int p5), .val (.int p6), .val (.ref b1), .val (.int v7_11), .val (.int v8_12), .val (.int m14), .val (.int v10_16), .val (.int m19), .val (.int m21), .unset, .unset, .unset] [(.int z_)])) ?_
  refine own_by (fun _ k => XS.istore X15.here hx rfl (hb hby at_144) rfl (l' := #[.val (.int p1), .val (.int p2), .val (.int p3), .val (.int p4), .val (.int p5), .val (.int p6), .val (.ref b1), .val (.int v7_11), .val (.int v8_12), .val (.int m14), .val (.int v10_16), .val (.int m19), .val (.int m21), .val (.int v13_22), .unset, .unset]) rfl k) ?_
  have hd := own_sub E (own_first ff F E) v8_12 m21 v13_22 hE hg hE4 hgl.2 hv13_22
  show own_Go _ _ _ _ (T15.setTop (mkF m 146 #[.val (.int p1), .val (.int p2), .val (.int p3), .val (.int p4), .val (.int p5), .val (.int p6), .val (.ref b1), .val (.int v7_11), .val (.int v8_12), .val (.int m14), .val (.int v10_16), .val (.int m19), .val (.int m21), .val (.int v13_22), .unset, .unset] []))
  refine own_by (fun _ k => XS.aload X15.here hx rfl (hb hby at_146) rfl rfl k) ?_
  show own_Go _ _ _ _ (T15.setTop (mkF m 148 #[.val (.int p1), .val (.int p2), .val (.int p3), .val (.int p4), .val (.int p5), .val (.int p6), .val (.ref b1), .val (.int v7_11), .val (.int v8_12), .val (.int m14), .val (.int v10_16), .val (.int m19), .val (.int m21), .val (.int v13_22), .unset, .unset] [(.ref b1)]))
  refine own_by (fun _ k => XS.iconst X15.here hx rfl (hb hby at_148) k) ?_
  show own_Go _ _ _ _ (T15.setTop (mkF m 149 #[.val (.int p1), .val (.int p2), .val (.int p3), .val (.int p4), .val (.int p5), .val (.int p6), .val (.ref b1), .val (.int v7_11), .val (.int v8_12), .val (.int m14), .val (.int v10_16), .val (.int m19), .val (.int m21), .val (.int v13_22), .unset, .unset] [(.int (0 : Int32)), (.ref b1)]))
  refine own_by (fun _ k => XS.iload X15.here hx rfl (hb hby at_149) rfl k) ?_
  show own_Go _ _ _ _ (T15.setTop (mkF m 151 #[.val (.int p1), .val (.int p2), .val (.int p3), .val (.int p4), .val (.int p5), .val (.int p6), .val (.ref b1), .val (.int v7_11), .val (.int v8_12), .val (.int m14), .val (.int v10_16), .val (.int m19), .val (.int m21), .val (.int v13_22), .unset, .unset] [(.int m21), (.int (0 : Int32)), (.ref b1)]))
  refine own_by (fun _ k => XS.iload X15.here hx rfl (hb hby at_151) rfl k) ?_
  show own_Go _ _ _ _ (T15.setTop (mkF m 153 #[.val (.int p1), .val (.int p2), .val (.int p3), .val (.int p4), .val (.int p5), .val (.int p6), .val (.ref b1), .val (.int v7_11), .val (.int v8_12), .val (.int m14), .val (.int v10_16), .val (.int m19), .val (.int m21), .val (.int v13_22), .unset, .unset] [(.int v8_12), (.int m21), (.int (0 : Int32)), (.ref b1)]))
  obtain ⟨_, _, ⟨T23, L23, k23, n23⟩, -, X23, ⟨Lc23, hQ23, l23, y23, z23⟩, st23⟩ := Jvm.LawKit.callS X15 hx (y := (⟨"com/example/settleline/settleline/csv/FieldSyntaxIsWholeNumberPinLaw", "okAt", "([BIII)Z"⟩ : MethodName)) hown (mvT hZ (hw _ (List.mem_of_getElem? (i := 9) rfl))) (mvT hZ (hw _ (List.mem_of_getElem? (i := 10) rfl))) (mvT hZ (hw _ (List.mem_of_getElem? (i := 3) rfl))) (mvT hZ (hw _ (List.mem_of_getElem? (i := 11) rfl))) (by decide) (backOf (W := 0) (rm3 l Z a0 hw [] b1 (0 : Int32) m21 v8_12 ff 0 h10 n0 Z10 A10 (by decide) (by decide)) hZ (hw _ (List.mem_of_getElem? (i := 11) rfl)) (hw _ (List.mem_of_getElem? (i := 3) rfl)) (by decide) (by decide)) (g := (mkF m 153 #[.val (.int p1), .val (.int p2), .val (.int p3), .val (.int p4), .val (.int p5), .val (.int p6), .val (.ref b1), .val (.int v7_11), .val (.int v8_12), .val (.int m14), .val (.int v10_16), .val (.int m19), .val (.int m21), .val (.int v13_22), .unset, .unset] [(.int v8_12), (.int m21), (.int (0 : Int32)), (.ref b1)])) rfl (by rw [hml]; rfl) (argsL := [(.ref b1), (.int (0 : Int32)), (.int m21), (.int v8_12)]) (rest := []) (lenOf own_pd1 rfl) rfl (by show 2 * 0 + _ ≤ _; exact Nat.le_of_eq rfl) (hb hby at_153) (fun _ _ => ⟨rfl, e15, Nat.le_of_ble_eq_true rfl, Nat.le_of_ble_eq_true rfl⟩)
  dsimp only [Pt.U, Pt.locs, Pt.cells, Pt.slots] at X23 l23 y23 z23 st23 hQ23
  subst l23 y23 z23
  obtain ⟨rfl, N23q, e23⟩ := hQ23
  have N23 := Fr.app N15 N23q
  refine own_by st23 ?_
  show own_Go _ _ _ _ (T23.setTop (mkF m 156 #[.val (.int p1), .val (.int p2), .val (.int p3), .val (.int p4), .val (.int p5), .val (.int p6), .val (.ref b1), .val (.int v7_11), .val (.int v8_12), .val (.int m14), .val (.int v10_16), .val (.int m19), .val (.int m21), .val (.int v13_22), .unset, .unset] [(.int (own_ok ff 0 (0 : Int32) m21 v8_12))]))
  by_cases hc24 : (own_ok ff 0 (0 : Int32) m21 v8_12) = (0 : Int32)
  · --
    refine own_by (fun _ k => XS.ifYes X23.here hx rfl (pc0 := 156) (pc' := 202) rfl (hb hby at_156) rfl ((if0 _ _).trans (teq hc24).1) (by decide) (by decide) k) ?_
    show own_Go _ _ _ _ (T23.setTop (mkF m 202 #[.val (.int p1), .val (.int p2), .val (.int p3), .val (.int p4), .val (.int p5), .val (.int p6), .val (.ref b1), .val (.int v7_11), .val (.int v8_12), .val (.int m14), .val (.int v10_16), .val (.int m19), .val (.int m21), .val (.int v13_22), .unset, .unset] []))
    refine own_by (fun _ k => XS.iconst X23.here hx rfl (hb hby at_202) k) ?_
    show own_Go _ _ _ _ (T23.setTop (mkF m 203 #[.val (.int p1), .val (.int p2), .val (.int p3), .val (.int p4), .val (.int p5), .val (.int p6), .val (.ref b1), .val (.int v7_11), .val (.int v8_12), .val (.int m14), .val (.int v10_16), .val (.int m19), .val (.int m21), .val (.int v13_22), .unset, .unset] [(.int (0 : Int32))]))
    refine own_by (fun _ k => XS.istore X23.here hx rfl (hb hby at_203) rfl (l' := #[.val (.int p1), .val (.int p2), .val (.int p3), .val (.int p4), .val (.int p5), .val (.int p6), .val (.ref b1), .val (.int v7_11), .val (.int v8_12), .val (.int m14), .val (.int v10_16), .val (.int m19), .val (.int m21), .val (.int v13_22), .val (.int (0 : Int32)), .unset]) rfl k) ?_
    show own_Go _ _ _ _ (T23.setTop (mkF m 205 #[.val (.int p1), .val (.int p2), .val (.int p3), .val (.int p4), .val (.int p5), .val (.int p6), .val (.ref b1), .val (.int v7_11), .val (.int v8_12), .val (.int m14), .val (.int v10_16), .val (.int m19), .val (.int m21), .val (.int v13_22), .val (.int (0 : Int32)), .unset] []))
    refine own_by (fun _ k => XS.iload X23.here hx rfl (hb hby at_205) rfl k) ?_
    show own_Go _ _ _ _ (T23.setTop (mkF m 207 #[.val (.int p1), .val (.int p2), .val (.int p3), .val (.int p4), .val (.int p5), .val (.int p6), .val (.ref b1), .val (.int v7_11), .val (.int v8_12), .val (.int m14), .val (.int v10_16), .val (.int m19), .val (.int m21), .val (.int v13_22), .val (.int (0 : Int32)), .unset] [(.int v13_22)]))
    refine own_by (fun _ k => XS.iconst X23.here hx rfl (hb hby at_207) k) ?_
    refine own_by (V := T23.setTop (mkF m 228 #[.val (.int p1), .val (.int p2), .val (.int p3), .val (.int p4), .val (.int p5), .val (.int p6), .val (.ref b1), .val (.int v7_11), .val (.int v8_12), .val (.int m14), .val (.int v10_16), .val (.int m19), .val (.int m21), .val (.int v13_22), .val (.int (0 : Int32)), .unset] [(.int (0 : Int32))])) (fun _ kk => ?_) ?_
    · --
      show Steps _ _ _ (T23.setTop (mkF m 208 #[.val (.int p1), .val (.int p2), .val (.int p3), .val (.int p4), .val (.int p5), .val (.int p6), .val (.ref b1), .val (.int v7_11), .val (.int v8_12), .val (.int m14), .val (.int v10_16), .val (.int m19), .val (.int m21), .val (.int v13_22), .val (.int (0 : Int32)), .unset] [(.int (1 : Int32)), (.int v13_22)])) _
      by_cases hc25 : v13_22 < (1 : Int32)
      · --
        refine XS.icmpYes X23.here hx rfl (pc0 := 208) (pc' := 227) rfl (hb hby at_208) rfl (tlt hc25).1 (by decide) (by decide) ?_
        show Steps _ _ _ (T23.setTop (mkF m 227 #[.val (.int p1), .val (.int p2), .val (.int p3), .val (.int p4), .val (.int p5), .val (.int p6), .val (.ref b1), .val (.int v7_11), .val (.int v8_12), .val (.int m14), .val (.int v10_16), .val (.int m19), .val (.int m21), .val (.int v13_22), .val (.int (0 : Int32)), .unset] [])) _
        refine XS.iconst X23.here hx rfl (hb hby at_227) ?_
        show Steps _ _ _ (T23.setTop (mkF m 228 #[.val (.int p1), .val (.int p2), .val (.int p3), .val (.int p4), .val (.int p5), .val (.int p6), .val (.ref b1), .val (.int v7_11), .val (.int v8_12), .val (.int m14), .val (.int v10_16), .val (.int m19), .val (.int m21), .val (.int v13_22), .val (.int (0 : Int32)), .unset] [(.int (0 : Int32))])) _
        try simp only [if_pos hc25] at kk
        exact kk
      · --
        refine XS.icmpNo X23.here hx rfl (hb hby at_208) rfl (flt hc25).1 ?_
        show Steps _ _ _ (T23.setTop (mkF m 211 #[.val (.int p1), .val (.int p2), .val (.int p3), .val (.int p4), .val (.int p5), .val (.int p6), .val (.ref b1), .val (.int v7_11), .val (.int v8_12), .val (.int m14), .val (.int v10_16), .val (.int m19), .val (.int m21), .val (.int v13_22), .val (.int (0 : Int32)), .unset] [])) _
        refine XS.iload X23.here hx rfl (hb hby at_211) rfl ?_
        show Steps _ _ _ (T23.setTop (mkF m 213 #[.val (.int p1), .val (.int p2), .val (.int p3), .val (.int p4), .val (.int p5), .val (.int p6), .val (.ref b1), .val (.int v7_11), .val (.int v8_12), .val (.int m14), .val (.int v10_16), .val (.int m19), .val (.int m21), .val (.int v13_22), .val (.int (0 : Int32)), .unset] [(.int v13_22)])) _
        refine XS.iload X23.here hx rfl (hb hby at_213) rfl ?_
        show Steps _ _ _ (T23.setTop (mkF m 215 #[.val (.int p1), .val (.int p2), .val (.int p3), .val (.int p4), .val (.int p5), .val (.int p6), .val (.ref b1), .val (.int v7_11), .val (.int v8_12), .val (.int m14), .val (.int v10_16), .val (.int m19), .val (.int m21), .val (.int v13_22), .val (.int (0 : Int32)), .unset] [(.int m14), (.int v13_22)])) _
        by_cases hc26 : m14 < v13_22
        · --
          refine XS.icmpYes X23.here hx rfl (pc0 := 215) (pc' := 227) rfl (hb hby at_215) rfl (tlt hc26).2.2.1 (by decide) (by decide) ?_
          show Steps _ _ _ (T23.setTop (mkF m 227 #[.val (.int p1), .val (.int p2), .val (.int p3), .val (.int p4), .val (.int p5), .val (.int p6), .val (.ref b1), .val (.int v7_11), .val (.int v8_12), .val (.int m14), .val (.int v10_16), .val (.int m19), .val (.int m21), .val (.int v13_22), .val (.int (0 : Int32)), .unset] [])) _
          refine XS.iconst X23.here hx rfl (hb hby at_227) ?_
          show Steps _ _ _ (T23.setTop (mkF m 228 #[.val (.int p1), .val (.int p2), .val (.int p3), .val (.int p4), .val (.int p5), .val (.int p6), .val (.ref b1), .val (.int v7_11), .val (.int v8_12), .val (.int m14), .val (.int v10_16), .val (.int m19), .val (.int m21), .val (.int v13_22), .val (.int (0 : Int32)), .unset] [(.int (0 : Int32))])) _
          try simp only [if_neg hc25, if_pos hc26] at kk
          exact kk
        · --
          refine XS.icmpNo X23.here hx rfl (hb hby at_215) rfl (flt hc26).2.2.1 ?_
          show Steps _ _ _ (T23.setTop (mkF m 218 #[.val (.int p1), .val (.int p2), .val (.int p3), .val (.int p4), .val (.int p5), .val (.int p6), .val (.ref b1), .val (.int v7_11), .val (.int v8_12), .val (.int m14), .val (.int v10_16), .val (.int m19), .val (.int m21), .val (.int v13_22), .val (.int (0 : Int32)), .unset] [])) _
          refine XS.iload X23.here hx rfl (hb hby at_218) rfl ?_
          show Steps _ _ _ (T23.setTop (mkF m 220 #[.val (.int p1), .val (.int p2), .val (.int p3), .val (.int p4), .val (.int p5), .val (.int p6), .val (.ref b1), .val (.int v7_11), .val (.int v8_12), .val (.int m14), .val (.int v10_16), .val (.int m19), .val (.int m21), .val (.int v13_22), .val (.int (0 : Int32)), .unset] [(.int (0 : Int32))])) _
          refine XS.ifYes X23.here hx rfl (pc0 := 220) (pc' := 227) rfl (hb hby at_220) rfl ((if0 _ _).trans (teq (by decide)).1) (by decide) (by decide) ?_
          show Steps _ _ _ (T23.setTop (mkF m 227 #[.val (.int p1), .val (.int p2), .val (.int p3), .val (.int p4), .val (.int p5), .val (.int p6), .val (.ref b1), .val (.int v7_11), .val (.int v8_12), .val (.int m14), .val (.int v10_16), .val (.int m19), .val (.int m21), .val (.int v13_22), .val (.int (0 : Int32)), .unset] [])) _
          refine XS.iconst X23.here hx rfl (hb hby at_227) ?_
          show Steps _ _ _ (T23.setTop (mkF m 228 #[.val (.int p1), .val (.int p2), .val (.int p3), .val (.int p4), .val (.int p5), .val (.int p6), .val (.ref b1), .val (.int v7_11), .val (.int v8_12), .val (.int m14), .val (.int v10_16), .val (.int m19), .val (.int m21), .val (.int v13_22), .val (.int (0 : Int32)), .unset] [(.int (0 : Int32))])) _
          try simp only [if_neg hc25, if_neg hc26] at kk
          exact kk
    show own_Go _ _ _ _ (T23.setTop (mkF m 228 #[.val (.int p1), .val (.int p2), .val (.int p3), .val (.int p4), .val (.int p5), .val (.int p6), .val (.ref b1), .val (.int v7_11), .val (.int v8_12), .val (.int m14), .val (.int v10_16), .val (.int m19), .val (.int m21), .val (.int v13_22), .val (.int (0 : Int32)), .unset] [(.int (0 : Int32))]))
    refine own_by (fun _ k => XS.istore X23.here hx rfl (hb hby at_228) rfl (l' := #[.val (.int p1), .val (.int p2), .val (.int p3), .val (.int p4), .val (.int p5), .val (.int p6), .val (.ref b1), .val (.int v7_11), .val (.int v8_12), .val (.int m14), .val (.int v10_16), .val (.int m19), .val (.int m21), .val (.int v13_22), .val (.int (0 : Int32)), .val (.int (0 : Int32))]) rfl k) ?_
    show own_Go _ _ _ _ (T23.setTop (mkF m 230 #[.val (.int p1), .val (.int p2), .val (.int p3), .val (.int p4), .val (.int p5), .val (.int p6), .val (.ref b1), .val (.int v7_11), .val (.int v8_12), .val (.int m14), .val (.int v10_16), .val (.int m19), .val (.int m21), .val (.int v13_22), .val (.int (0 : Int32)), .val (.int (0 : Int32))] []))
    refine own_by (fun _ k => XS.iload X23.here hx rfl (hb hby at_230) rfl k) ?_
    show own_Go _ _ _ _ (T23.setTop (mkF m 232 #[.val (.int p1), .val (.int p2), .val (.int p3), .val (.int p4), .val (.int p5), .val (.int p6), .val (.ref b1), .val (.int v7_11), .val (.int v8_12), .val (.int m14), .val (.int v10_16), .val (.int m19), .val (.int m21), .val (.int v13_22), .val (.int (0 : Int32)), .val (.int (0 : Int32))] [(.int v10_16)]))
    refine own_by (fun _ k => XS.iload X23.here hx rfl (hb hby at_232) rfl k) ?_
    show own_Go _ _ _ _ (T23.setTop (mkF m 234 #[.val (.int p1), .val (.int p2), .val (.int p3), .val (.int p4), .val (.int p5), .val (.int p6), .val (.ref b1), .val (.int v7_11), .val (.int v8_12), .val (.int m14), .val (.int v10_16), .val (.int m19), .val (.int m21), .val (.int v13_22), .val (.int (0 : Int32)), .val (.int (0 : Int32))] [(.int (0 : Int32)), (.int v10_16)]))
    refine own_by (fun _ k => XS.icmpNo X23.here hx rfl (hb hby at_234) rfl (teq (hv10_16.symm.trans (own_fails ff F E m14 v13_22 (0 : Int32) hE4 hFE hd (rfl) 0 ((own_ok0 ff 0 (0 : Int32) m21 v8_12 (own_first ff F E) E (by decide) hg hE).mp hc24)))).2 k) ?_
    show own_Go _ _ _ _ (T23.setTop (mkF m 237 #[.val (.int p1), .val (.int p2), .val (.int p3), .val (.int p4), .val (.int p5), .val (.int p6), .val (.ref b1), .val (.int v7_11), .val (.int v8_12), .val (.int m14), .val (.int v10_16), .val (.int m19), .val (.int m21), .val (.int v13_22), .val (.int (0 : Int32)), .val (.int (0 : Int32))] []))
    refine own_by (fun _ k => XS.iconst X23.here hx rfl (hb hby at_237) k) ?_
    show own_Go _ _ _ _ (T23.setTop (mkF m 238 #[.val (.int p1), .val (.int p2), .val (.int p3), .val (.int p4), .val (.int p5), .val (.int p6), .val (.ref b1), .val (.int v7_11), .val (.int v8_12), .val (.int m14), .val (.int v10_16), .val (.int m19), .val (.int m21), .val (.int v13_22), .val (.int (0 : Int32)), .val (.int (0 : Int32))] [(.int (1 : Int32))]))
    refine own_by (fun _ k => XS.goto X23.here hx rfl (pc0 := 238) (pc' := 242) rfl (hb hby at_238) (by decide) (by decide) k) ?_
    show own_Go _ _ _ _ (T23.setTop (mkF m 242 #[.val (.int p1), .val (.int p2), .val (.int p3), .val (.int p4), .val (.int p5), .val (.int p6), .val (.ref b1), .val (.int v7_11), .val (.int v8_12), .val (.int m14), .val (.int v10_16), .val (.int m19), .val (.int m21), .val (.int v13_22), .val (.int (0 : Int32)), .val (.int (0 : Int32))] [(.int (1 : Int32))]))
    exact own_retN X23 hx Bd.notSynchronized e23 Bd.returns (by simp) (hb hby at_242) (⟨rfl, N23⟩) (by decide) (by decide)
  · --
    refine own_by (fun _ k => XS.ifNo X23.here hx rfl (hb hby at_156) rfl ((if0 _ _).trans (feq hc24).1) k) ?_
    show own_Go _ _ _ _ (T23.setTop (mkF m 159 #[.val (.int p1), .val (.int p2), .val (.int p3), .val (.int p4), .val (.int p5), .val (.int p6), .val (.ref b1), .val (.int v7_11), .val (.int v8_12), .val (.int m14), .val (.int v10_16), .val (.int m19), .val (.int m21), .val (.int v13_22), .unset, .unset] []))
    refine own_by (fun _ k => XS.aload X23.here hx rfl (hb hby at_159) rfl rfl k) ?_
    show own_Go _ _ _ _ (T23.setTop (mkF m 161 #[.val (.int p1), .val (.int p2), .val (.int p3), .val (.int p4), .val (.int p5), .val (.int p6), .val (.ref b1), .val (.int v7_11), .val (.int v8_12), .val (.int m14), .val (.int v10_16), .val (.int m19), .val (.int m21), .val (.int v13_22), .unset, .unset] [(.ref b1)]))
    refine own_by (fun _ k => XS.iconst X23.here hx rfl (hb hby at_161) k) ?_
    show own_Go _ _ _ _ (T23.setTop (mkF m 162 #[.val (.int p1), .val (.int p2), .val (.int p3), .val (.int p4), .val (.int p5), .val (.int p6), .val (.ref b1), .val (.int v7_11), .val (.int v8_12), .val (.int m14), .val (.int v10_16), .val (.int m19), .val (.int m21), .val (.int v13_22), .unset, .unset] [(.int (1 : Int32)), (.ref b1)]))
    refine own_by (fun _ k => XS.iload X23.here hx rfl (hb hby at_162) rfl k) ?_
    show own_Go _ _ _ _ (T23.setTop (mkF m 164 #[.val (.int p1), .val (.int p2), .val (.int p3), .val (.int p4), .val (.int p5), .val (.int p6), .val (.ref b1), .val (.int v7_11), .val (.int v8_12), .val (.int m14), .val (.int v10_16), .val (.int m19), .val (.int m21), .val (.int v13_22), .unset, .unset] [(.int m21), (.int (1 : Int32)), (.ref b1)]))
    refine own_by (fun _ k => XS.iload X23.here hx rfl (hb hby at_164) rfl k) ?_
    show own_Go _ _ _ _ (T23.setTop (mkF m 166 #[.val (.int p1), .val (.int p2), .val (.int p3), .val (.int p4), .val (.int p5), .val (.int p6), .val (.ref b1), .val (.int v7_11), .val (.int v8_12), .val (.int m14), .val (.int v10_16), .val (.int m19), .val (.int m21), .val (.int v13_22), .unset, .unset] [(.int v8_12), (.int m21), (.int (1 : Int32)), (.ref b1)]))
    obtain ⟨_, _, ⟨T27, L27, k27, n27⟩, -, X27, ⟨Lc27, hQ27, l27, y27, z27⟩, st27⟩ := Jvm.LawKit.callS X23 hx (y := (⟨"com/example/settleline/settleline/csv/FieldSyntaxIsWholeNumberPinLaw", "okAt", "([BIII)Z"⟩ : MethodName)) hown (mvT hZ (hw _ (List.mem_of_getElem? (i := 9) rfl))) (mvT hZ (hw _ (List.mem_of_getElem? (i := 10) rfl))) (mvT hZ (hw _ (List.mem_of_getElem? (i := 3) rfl))) (mvT hZ (hw _ (List.mem_of_getElem? (i := 11) rfl))) (by decide) (backOf (W := 0) (rm3 l Z a0 hw [] b1 (1 : Int32) m21 v8_12 ff 1 h10 n0 Z10 A10 (by decide) (by decide)) hZ (hw _ (List.mem_of_getElem? (i := 11) rfl)) (hw _ (List.mem_of_getElem? (i := 3) rfl)) (by decide) (by decide)) (g := (mkF m 166 #[.val (.int p1), .val (.int p2), .val (.int p3), .val (.int p4), .val (.int p5), .val (.int p6), .val (.ref b1), .val (.int v7_11), .val (.int v8_12), .val (.int m14), .val (.int v10_16), .val (.int m19), .val (.int m21), .val (.int v13_22), .unset, .unset] [(.int v8_12), (.int m21), (.int (1 : Int32)), (.ref b1)])) rfl (by rw [hml]; rfl) (argsL := [(.ref b1), (.int (1 : Int32)), (.int m21), (.int v8_12)]) (rest := []) (lenOf own_pd1 rfl) rfl (by show 2 * 0 + _ ≤ _; exact Nat.le_of_eq rfl) (hb hby at_166) (fun _ _ => ⟨rfl, e23, Nat.le_of_ble_eq_true rfl, Nat.le_of_ble_eq_true rfl⟩)
    dsimp only [Pt.U, Pt.locs, Pt.cells, Pt.slots] at X27 l27 y27 z27 st27 hQ27
    subst l27 y27 z27
    obtain ⟨rfl, N27q, e27⟩ := hQ27
    have N27 := Fr.app N23 N27q
    refine own_by st27 ?_
    show own_Go _ _ _ _ (T27.setTop (mkF m 169 #[.val (.int p1), .val (.int p2), .val (.int p3), .val (.int p4), .val (.int p5), .val (.int p6), .val (.ref b1), .val (.int v7_11), .val (.int v8_12), .val (.int m14), .val (.int v10_16), .val (.int m19), .val (.int m21), .val (.int v13_22), .unset, .unset] [(.int (own_ok ff 1 (1 : Int32) m21 v8_12))]))
    by_cases hc28 : (own_ok ff 1 (1 : Int32) m21 v8_12) = (0 : Int32)
    · --
      refine own_by (fun _ k => XS.ifYes X27.here hx rfl (pc0 := 169) (pc' := 202) rfl (hb hby at_169) rfl ((if0 _ _).trans (teq hc28).1) (by decide) (by decide) k) ?_
      show own_Go _ _ _ _ (T27.setTop (mkF m 202 #[.val (.int p1), .val (.int p2), .val (.int p3), .val (.int p4), .val (.int p5), .val (.int p6), .val (.ref b1), .val (.int v7_11), .val (.int v8_12), .val (.int m14), .val (.int v10_16), .val (.int m19), .val (.int m21), .val (.int v13_22), .unset, .unset] []))
      refine own_by (fun _ k => XS.iconst X27.here hx rfl (hb hby at_202) k) ?_
      show own_Go _ _ _ _ (T27.setTop (mkF m 203 #[.val (.int p1), .val (.int p2), .val (.int p3), .val (.int p4), .val (.int p5), .val (.int p6), .val (.ref b1), .val (.int v7_11), .val (.int v8_12), .val (.int m14), .val (.int v10_16), .val (.int m19), .val (.int m21), .val (.int v13_22), .unset, .unset] [(.int (0 : Int32))]))
      refine own_by (fun _ k => XS.istore X27.here hx rfl (hb hby at_203) rfl (l' := #[.val (.int p1), .val (.int p2), .val (.int p3), .val (.int p4), .val (.int p5), .val (.int p6), .val (.ref b1), .val (.int v7_11), .val (.int v8_12), .val (.int m14), .val (.int v10_16), .val (.int m19), .val (.int m21), .val (.int v13_22), .val (.int (0 : Int32)), .unset]) rfl k) ?_
      show own_Go _ _ _ _ (T27.setTop (mkF m 205 #[.val (.int p1), .val (.int p2), .val (.int p3), .val (.int p4), .val (.int p5), .val (.int p6), .val (.ref b1), .val (.int v7_11), .val (.int v8_12), .val (.int m14), .val (.int v10_16), .val (.int m19), .val (.int m21), .val (.int v13_22), .val (.int (0 : Int32)), .unset] []))
      refine own_by (fun _ k => XS.iload X27.here hx rfl (hb hby at_205) rfl k) ?_
      show own_Go _ _ _ _ (T27.setTop (mkF m 207 #[.val (.int p1), .val (.int p2), .val (.int p3), .val (.int p4), .val (.int p5), .val (.int p6), .val (.ref b1), .val (.int v7_11), .val (.int v8_12), .val (.int m14), .val (.int v10_16), .val (.int m19), .val (.int m21), .val (.int v13_22), .val (.int (0 : Int32)), .unset] [(.int v13_22)]))
      refine own_by (fun _ k => XS.iconst X27.here hx rfl (hb hby at_207) k) ?_
      refine own_by (V := T27.setTop (mkF m 228 #[.val (.int p1), .val (.int p2), .val (.int p3), .val (.int p4), .val (.int p5), .val (.int p6), .val (.ref b1), .val (.int v7_11), .val (.int v8_12), .val (.int m14), .val (.int v10_16), .val (.int m19), .val (.int m21), .val (.int v13_22), .val (.int (0 : Int32)), .unset] [(.int (0 : Int32))])) (fun _ kk => ?_) ?_
      · --
        show Steps _ _ _ (T27.setTop (mkF m 208 #[.val (.int p1), .val (.int p2), .val (.int p3), .val (.int p4), .val (.int p5), .val (.int p6), .val (.ref b1), .val (.int v7_11), .val (.int v8_12), .val (.int m14), .val (.int v10_16), .val (.int m19), .val (.int m21), .val (.int v13_22), .val (.int (0 : Int32)), .unset] [(.int (1 : Int32)), (.int v13_22)])) _
        by_cases hc29 : v13_22 < (1 : Int32)
        · --
          refine XS.icmpYes X27.here hx rfl (pc0 := 208) (pc' := 227) rfl (hb hby at_208) rfl (tlt hc29).1 (by decide) (by decide) ?_
          show Steps _ _ _ (T27.setTop (mkF m 227 #[.val (.int p1), .val (.int p2), .val (.int p3), .val (.int p4), .val (.int p5), .val (.int p6), .val (.ref b1), .val (.int v7_11), .val (.int v8_12), .val (.int m14), .val (.int v10_16), .val (.int m19), .val (.int m21), .val (.int v13_22), .val (.int (0 : Int32)), .unset] [])) _
          refine XS.iconst X27.here hx rfl (hb hby at_227) ?_
          show Steps _ _ _ (T27.setTop (mkF m 228 #[.val (.int p1), .val (.int p2), .val (.int p3), .val (.int p4), .val (.int p5), .val (.int p6), .val (.ref b1), .val (.int v7_11), .val (.int v8_12), .val (.int m14), .val (.int v10_16), .val (.int m19), .val (.int m21), .val (.int v13_22), .val (.int (0 : Int32)), .unset] [(.int (0 : Int32))])) _
          try simp only [if_pos hc29] at kk
          exact kk
        · --
          refine XS.icmpNo X27.here hx rfl (hb hby at_208) rfl (flt hc29).1 ?_
          show Steps _ _ _ (T27.setTop (mkF m 211 #[.val (.int p1), .val (.int p2), .val (.int p3), .val (.int p4), .val (.int p5), .val (.int p6), .val (.ref b1), .val (.int v7_11), .val (.int v8_12), .val (.int m14), .val (.int v10_16), .val (.int m19), .val (.int m21), .val (.int v13_22), .val (.int (0 : Int32)), .unset] [])) _
          refine XS.iload X27.here hx rfl (hb hby at_211) rfl ?_
          show Steps _ _ _ (T27.setTop (mkF m 213 #[.val (.int p1), .val (.int p2), .val (.int p3), .val (.int p4), .val (.int p5), .val (.int p6), .val (.ref b1), .val (.int v7_11), .val (.int v8_12), .val (.int m14), .val (.int v10_16), .val (.int m19), .val (.int m21), .val (.int v13_22), .val (.int (0 : Int32)), .unset] [(.int v13_22)])) _
          refine XS.iload X27.here hx rfl (hb hby at_213) rfl ?_
          show Steps _ _ _ (T27.setTop (mkF m 215 #[.val (.int p1), .val (.int p2), .val (.int p3), .val (.int p4), .val (.int p5), .val (.int p6), .val (.ref b1), .val (.int v7_11), .val (.int v8_12), .val (.int m14), .val (.int v10_16), .val (.int m19), .val (.int m21), .val (.int v13_22), .val (.int (0 : Int32)), .unset] [(.int m14), (.int v13_22)])) _
          by_cases hc30 : m14 < v13_22
          · --
            refine XS.icmpYes X27.here hx rfl (pc0 := 215) (pc' := 227) rfl (hb hby at_215) rfl (tlt hc30).2.2.1 (by decide) (by decide) ?_
            show Steps _ _ _ (T27.setTop (mkF m 227 #[.val (.int p1), .val (.int p2), .val (.int p3), .val (.int p4), .val (.int p5), .val (.int p6), .val (.ref b1), .val (.int v7_11), .val (.int v8_12), .val (.int m14), .val (.int v10_16), .val (.int m19), .val (.int m21), .val (.int v13_22), .val (.int (0 : Int32)), .unset] [])) _
            refine XS.iconst X27.here hx rfl (hb hby at_227) ?_
            show Steps _ _ _ (T27.setTop (mkF m 228 #[.val (.int p1), .val (.int p2), .val (.int p3), .val (.int p4), .val (.int p5), .val (.int p6), .val (.ref b1), .val (.int v7_11), .val (.int v8_12), .val (.int m14), .val (.int v10_16), .val (.int m19), .val (.int m21), .val (.int v13_22), .val (.int (0 : Int32)), .unset] [(.int (0 : Int32))])) _
            try simp only [if_neg hc29, if_pos hc30] at kk
            exact kk
          · --
            refine XS.icmpNo X27.here hx rfl (hb hby at_215) rfl (flt hc30).2.2.1 ?_
            show Steps _ _ _ (T27.setTop (mkF m 218 #[.val (.int p1), .val (.int p2), .val (.int p3), .val (.int p4), .val (.int p5), .val (.int p6), .val (.ref b1), .val (.int v7_11), .val (.int v8_12), .val (.int m14), .val (.int v10_16), .val (.int m19), .val (.int m21), .val (.int v13_22), .val (.int (0 : Int32)), .unset] [])) _
            refine XS.iload X27.here hx rfl (hb hby at_218) rfl ?_
            show Steps _ _ _ (T27.setTop (mkF m 220 #[.val (.int p1), .val (.int p2), .val (.int p3), .val (.int p4), .val (.int p5), .val (.int p6), .val (.ref b1), .val (.int v7_11), .val (.int v8_12), .val (.int m14), .val (.int v10_16), .val (.int m19), .val (.int m21), .val (.int v13_22), .val (.int (0 : Int32)), .unset] [(.int (0 : Int32))])) _
            refine XS.ifYes X27.here hx rfl (pc0 := 220) (pc' := 227) rfl (hb hby at_220) rfl ((if0 _ _).trans (teq (by decide)).1) (by decide) (by decide) ?_
            show Steps _ _ _ (T27.setTop (mkF m 227 #[.val (.int p1), .val (.int p2), .val (.int p3), .val (.int p4), .val (.int p5), .val (.int p6), .val (.ref b1), .val (.int v7_11), .val (.int v8_12), .val (.int m14), .val (.int v10_16), .val (.int m19), .val (.int m21), .val (.int v13_22), .val (.int (0 : Int32)), .unset] [])) _
            refine XS.iconst X27.here hx rfl (hb hby at_227) ?_
            show Steps _ _ _ (T27.setTop (mkF m 228 #[.val (.int p1), .val (.int p2), .val (.int p3), .val (.int p4), .val (.int p5), .val (.int p6), .val (.ref b1), .val (.int v7_11), .val (.int v8_12), .val (.int m14), .val (.int v10_16), .val (.int m19), .val (.int m21), .val (.int v13_22), .val (.int (0 : Int32)), .unset] [(.int (0 : Int32))])) _
            try simp only [if_neg hc29, if_neg hc30] at kk
            exact kk
      show own_Go _ _ _ _ (T27.setTop (mkF m 228 #[.val (.int p1), .val (.int p2), .val (.int p3), .val (.int p4), .val (.int p5), .val (.int p6), .val (.ref b1), .val (.int v7_11), .val (.int v8_12), .val (.int m14), .val (.int v10_16), .val (.int m19), .val (.int m21), .val (.int v13_22), .val (.int (0 : Int32)), .unset] [(.int (0 : Int32))]))
      refine own_by (fun _ k => XS.istore X27.here hx rfl (hb hby at_228) rfl (l' := #[.val (.int p1), .val (.int p2), .val (.int p3), .val (.int p4), .val (.int p5), .val (.int p6), .val (.ref b1), .val (.int v7_11), .val (.int v8_12), .val (.int m14), .val (.int v10_16), .val (.int m19), .val (.int m21), .val (.int v13_22), .val (.int (0 : Int32)), .val (.int (0 : Int32))]) rfl k) ?_
      show own_Go _ _ _ _ (T27.setTop (mkF m 230 #[.val (.int p1), .val (.int p2), .val (.int p3), .val (.int p4), .val (.int p5), .val (.int p6), .val (.ref b1), .val (.int v7_11), .val (.int v8_12), .val (.int m14), .val (.int v10_16), .val (.int m19), .val (.int m21), .val (.int v13_22), .val (.int (0 : Int32)), .val (.int (0 : Int32))] []))
      refine own_by (fun _ k => XS.iload X27.here hx rfl (hb hby at_230) rfl k) ?_
      show own_Go _ _ _ _ (T27.setTop (mkF m 232 #[.val (.int p1), .val (.int p2), .val (.int p3), .val (.int p4), .val (.int p5), .val (.int p6), .val (.ref b1), .val (.int v7_11), .val (.int v8_12), .val (.int m14), .val (.int v10_16), .val (.int m19), .val (.int m21), .val (.int v13_22), .val (.int (0 : Int32)), .val (.int (0 : Int32))] [(.int v10_16)]))
      refine own_by (fun _ k => XS.iload X27.here hx rfl (hb hby at_232) rfl k) ?_
      show own_Go _ _ _ _ (T27.setTop (mkF m 234 #[.val (.int p1), .val (.int p2), .val (.int p3), .val (.int p4), .val (.int p5), .val (.int p6), .val (.ref b1), .val (.int v7_11), .val (.int v8_12), .val (.int m14), .val (.int v10_16), .val (.int m19), .val (.int m21), .val (.int v13_22), .val (.int (0 : Int32)), .val (.int (0 : Int32))] [(.int (0 : Int32)), (.int v10_16)]))
      refine own_by (fun _ k => XS.icmpNo X27.here hx rfl (hb hby at_234) rfl (teq (hv10_16.symm.trans (own_fails ff F E m14 v13_22 (0 : Int32) hE4 hFE hd (rfl) 1 ((own_ok0 ff 1 (1 : Int32) m21 v8_12 (own_first ff F E) E (by decide) hg hE).mp hc28)))).2 k) ?_
      show own_Go _ _ _ _ (T27.setTop (mkF m 237 #[.val (.int p1), .val (.int p2), .val (.int p3), .val (.int p4), .val (.int p5), .val (.int p6), .val (.ref b1), .val (.int v7_11), .val (.int v8_12), .val (.int m14), .val (.int v10_16), .val (.int m19), .val (.int m21), .val (.int v13_22), .val (.int (0 : Int32)), .val (.int (0 : Int32))] []))
      refine own_by (fun _ k => XS.iconst X27.here hx rfl (hb hby at_237) k) ?_
      show own_Go _ _ _ _ (T27.setTop (mkF m 238 #[.val (.int p1), .val (.int p2), .val (.int p3), .val (.int p4), .val (.int p5), .val (.int p6), .val (.ref b1), .val (.int v7_11), .val (.int v8_12), .val (.int m14), .val (.int v10_16), .val (.int m19), .val (.int m21), .val (.int v13_22), .val (.int (0 : Int32)), .val (.int (0 : Int32))] [(.int (1 : Int32))]))
      refine own_by (fun _ k => XS.goto X27.here hx rfl (pc0 := 238) (pc' := 242) rfl (hb hby at_238) (by decide) (by decide) k) ?_
      show own_Go _ _ _ _ (T27.setTop (mkF m 242 #[.val (.int p1), .val (.int p2), .val (.int p3), .val (.int p4), .val (.int p5), .val (.int p6), .val (.ref b1), .val (.int v7_11), .val (.int v8_12), .val (.int m14), .val (.int v10_16), .val (.int m19), .val (.int m21), .val (.int v13_22), .val (.int (0 : Int32)), .val (.int (0 : Int32))] [(.int (1 : Int32))]))
      exact own_retN X27 hx Bd.notSynchronized e27 Bd.returns (by simp) (hb hby at_242) (⟨rfl, N27⟩) (by decide) (by decide)
    · --
      refine own_by (fun _ k => XS.ifNo X27.here hx rfl (hb hby at_169) rfl ((if0 _ _).trans (feq hc28).1) k) ?_
      show own_Go _ _ _ _ (T27.setTop (mkF m 172 #[.val (.int p1), .val (.int p2), .val (.int p3), .val (.int p4), .val (.int p5), .val (.int p6), .val (.ref b1), .val (.int v7_11), .val (.int v8_12), .val (.int m14), .val (.int v10_16), .val (.int m19), .val (.int m21), .val (.int v13_22), .unset, .unset] []))
      refine own_by (fun _ k => XS.aload X27.here hx rfl (hb hby at_172) rfl rfl k) ?_
      show own_Go _ _ _ _ (T27.setTop (mkF m 174 #[.val (.int p1), .val (.int p2), .val (.int p3), .val (.int p4), .val (.int p5), .val (.int p6), .val (.ref b1), .val (.int v7_11), .val (.int v8_12), .val (.int m14), .val (.int v10_16), .val (.int m19), .val (.int m21), .val (.int v13_22), .unset, .unset] [(.ref b1)]))
      refine own_by (fun _ k => XS.iconst X27.here hx rfl (hb hby at_174) k) ?_
      show own_Go _ _ _ _ (T27.setTop (mkF m 175 #[.val (.int p1), .val (.int p2), .val (.int p3), .val (.int p4), .val (.int p5), .val (.int p6), .val (.ref b1), .val (.int v7_11), .val (.int v8_12), .val (.int m14), .val (.int v10_16), .val (.int m19), .val (.int m21), .val (.int v13_22), .unset, .unset] [(.int (2 : Int32)), (.ref b1)]))
      refine own_by (fun _ k => XS.iload X27.here hx rfl (hb hby at_175) rfl k) ?_
      show own_Go _ _ _ _ (T27.setTop (mkF m 177 #[.val (.int p1), .val (.int p2), .val (.int p3), .val (.int p4), .val (.int p5), .val (.int p6), .val (.ref b1), .val (.int v7_11), .val (.int v8_12), .val (.int m14), .val (.int v10_16), .val (.int m19), .val (.int m21), .val (.int v13_22), .unset, .unset] [(.int m21), (.int (2 : Int32)), (.ref b1)]))
      refine own_by (fun _ k => XS.iload X27.here hx rfl (hb hby at_177) rfl k) ?_
      show own_Go _ _ _ _ (T27.setTop (mkF m 179 #[.val (.int p1), .val (.int p2), .val (.int p3), .val (.int p4), .val (.int p5), .val (.int p6), .val (.ref b1), .val (.int v7_11), .val (.int v8_12), .val (.int m14), .val (.int v10_16), .val (.int m19), .val (.int m21), .val (.int v13_22), .unset, .unset] [(.int v8_12), (.int m21), (.int (2 : Int32)), (.ref b1)]))
      obtain ⟨_, _, ⟨T31, L31, k31, n31⟩, -, X31, ⟨Lc31, hQ31, l31, y31, z31⟩, st31⟩ := Jvm.LawKit.callS X27 hx (y := (⟨"com/example/settleline/settleline/csv/FieldSyntaxIsWholeNumberPinLaw", "okAt", "([BIII)Z"⟩ : MethodName)) hown (mvT hZ (hw _ (List.mem_of_getElem? (i := 9) rfl))) (mvT hZ (hw _ (List.mem_of_getElem? (i := 10) rfl))) (mvT hZ (hw _ (List.mem_of_getElem? (i := 3) rfl))) (mvT hZ (hw _ (List.mem_of_getElem? (i := 11) rfl))) (by decide) (backOf (W := 0) (rm3 l Z a0 hw [] b1 (2 : Int32) m21 v8_12 ff 2 h10 n0 Z10 A10 (by decide) (by decide)) hZ (hw _ (List.mem_of_getElem? (i := 11) rfl)) (hw _ (List.mem_of_getElem? (i := 3) rfl)) (by decide) (by decide)) (g := (mkF m 179 #[.val (.int p1), .val (.int p2), .val (.int p3), .val (.int p4), .val (.int p5), .val (.int p6), .val (.ref b1), .val (.int v7_11), .val (.int v8_12), .val (.int m14), .val (.int v10_16), .val (.int m19), .val (.int m21), .val (.int v13_22), .unset, .unset] [(.int v8_12), (.int m21), (.int (2 : Int32)), (.ref b1)])) rfl (by rw [hml]; rfl) (argsL := [(.ref b1), (.int (2 : Int32)), (.int m21), (.int v8_12)]) (rest := []) (lenOf own_pd1 rfl) rfl (by show 2 * 0 + _ ≤ _; exact Nat.le_of_eq rfl) (hb hby at_179) (fun _ _ => ⟨rfl, e27, Nat.le_of_ble_eq_true rfl, Nat.le_of_ble_eq_true rfl⟩)
      dsimp only [Pt.U, Pt.locs, Pt.cells, Pt.slots] at X31 l31 y31 z31 st31 hQ31
      subst l31 y31 z31
      obtain ⟨rfl, N31q, e31⟩ := hQ31
      have N31 := Fr.app N27 N31q
      refine own_by st31 ?_
      show own_Go _ _ _ _ (T31.setTop (mkF m 182 #[.val (.int p1), .val (.int p2), .val (.int p3), .val (.int p4), .val (.int p5), .val (.int p6), .val (.ref b1), .val (.int v7_11), .val (.int v8_12), .val (.int m14), .val (.int v10_16), .val (.int m19), .val (.int m21), .val (.int v13_22), .unset, .unset] [(.int (own_ok ff 2 (2 : Int32) m21 v8_12))]))
      by_cases hc32 : (own_ok ff 2 (2 : Int32) m21 v8_12) = (0 : Int32)
      · --
        refine own_by (fun _ k => XS.ifYes X31.here hx rfl (pc0 := 182) (pc' := 202) rfl (hb hby at_182) rfl ((if0 _ _).trans (teq hc32).1) (by decide) (by decide) k) ?_
        show own_Go _ _ _ _ (T31.setTop (mkF m 202 #[.val (.int p1), .val (.int p2), .val (.int p3), .val (.int p4), .val (.int p5), .val (.int p6), .val (.ref b1), .val (.int v7_11), .val (.int v8_12), .val (.int m14), .val (.int v10_16), .val (.int m19), .val (.int m21), .val (.int v13_22), .unset, .unset] []))
        refine own_by (fun _ k => XS.iconst X31.here hx rfl (hb hby at_202) k) ?_
        show own_Go _ _ _ _ (T31.setTop (mkF m 203 #[.val (.int p1), .val (.int p2), .val (.int p3), .val (.int p4), .val (.int p5), .val (.int p6), .val (.ref b1), .val (.int v7_11), .val (.int v8_12), .val (.int m14), .val (.int v10_16), .val (.int m19), .val (.int m21), .val (.int v13_22), .unset, .unset] [(.int (0 : Int32))]))
        refine own_by (fun _ k => XS.istore X31.here hx rfl (hb hby at_203) rfl (l' := #[.val (.int p1), .val (.int p2), .val (.int p3), .val (.int p4), .val (.int p5), .val (.int p6), .val (.ref b1), .val (.int v7_11), .val (.int v8_12), .val (.int m14), .val (.int v10_16), .val (.int m19), .val (.int m21), .val (.int v13_22), .val (.int (0 : Int32)), .unset]) rfl k) ?_
        show own_Go _ _ _ _ (T31.setTop (mkF m 205 #[.val (.int p1), .val (.int p2), .val (.int p3), .val (.int p4), .val (.int p5), .val (.int p6), .val (.ref b1), .val (.int v7_11), .val (.int v8_12), .val (.int m14), .val (.int v10_16), .val (.int m19), .val (.int m21), .val (.int v13_22), .val (.int (0 : Int32)), .unset] []))
        refine own_by (fun _ k => XS.iload X31.here hx rfl (hb hby at_205) rfl k) ?_
        show own_Go _ _ _ _ (T31.setTop (mkF m 207 #[.val (.int p1), .val (.int p2), .val (.int p3), .val (.int p4), .val (.int p5), .val (.int p6), .val (.ref b1), .val (.int v7_11), .val (.int v8_12), .val (.int m14), .val (.int v10_16), .val (.int m19), .val (.int m21), .val (.int v13_22), .val (.int (0 : Int32)), .unset] [(.int v13_22)]))
        refine own_by (fun _ k => XS.iconst X31.here hx rfl (hb hby at_207) k) ?_
        refine own_by (V := T31.setTop (mkF m 228 #[.val (.int p1), .val (.int p2), .val (.int p3), .val (.int p4), .val (.int p5), .val (.int p6), .val (.ref b1), .val (.int v7_11), .val (.int v8_12), .val (.int m14), .val (.int v10_16), .val (.int m19), .val (.int m21), .val (.int v13_22), .val (.int (0 : Int32)), .unset] [(.int (0 : Int32))])) (fun _ kk => ?_) ?_
        · --
          show Steps _ _ _ (T31.setTop (mkF m 208 #[.val (.int p1), .val (.int p2), .val (.int p3), .val (.int p4), .val (.int p5), .val (.int p6), .val (.ref b1), .val (.int v7_11), .val (.int v8_12), .val (.int m14), .val (.int v10_16), .val (.int m19), .val (.int m21), .val (.int v13_22), .val (.int (0 : Int32)), .unset] [(.int (1 : Int32)), (.int v13_22)])) _
          by_cases hc33 : v13_22 < (1 : Int32)
          · --
            refine XS.icmpYes X31.here hx rfl (pc0 := 208) (pc' := 227) rfl (hb hby at_208) rfl (tlt hc33).1 (by decide) (by decide) ?_
            show Steps _ _ _ (T31.setTop (mkF m 227 #[.val (.int p1), .val (.int p2), .val (.int p3), .val (.int p4), .val (.int p5), .val (.int p6), .val (.ref b1), .val (.int v7_11), .val (.int v8_12), .val (.int m14), .val (.int v10_16), .val (.int m19), .val (.int m21), .val (.int v13_22), .val (.int (0 : Int32)), .unset] [])) _
            refine XS.iconst X31.here hx rfl (hb hby at_227) ?_
            show Steps _ _ _ (T31.setTop (mkF m 228 #[.val (.int p1), .val (.int p2), .val (.int p3), .val (.int p4), .val (.int p5), .val (.int p6), .val (.ref b1), .val (.int v7_11), .val (.int v8_12), .val (.int m14), .val (.int v10_16), .val (.int m19), .val (.int m21), .val (.int v13_22), .val (.int (0 : Int32)), .unset] [(.int (0 : Int32))])) _
            try simp only [if_pos hc33] at kk
            exact kk
          · --
            refine XS.icmpNo X31.here hx rfl (hb hby at_208) rfl (flt hc33).1 ?_
            show Steps _ _ _ (T31.setTop (mkF m 211 #[.val (.int p1), .val (.int p2), .val (.int p3), .val (.int p4), .val (.int p5), .val (.int p6), .val (.ref b1), .val (.int v7_11), .val (.int v8_12), .val (.int m14), .val (.int v10_16), .val (.int m19), .val (.int m21), .val (.int v13_22), .val (.int (0 : Int32)), .unset] [])) _
            refine XS.iload X31.here hx rfl (hb hby at_211) rfl ?_
            show Steps _ _ _ (T31.setTop (mkF m 213 #[.val (.int p1), .val (.int p2), .val (.int p3), .val (.int p4), .val (.int p5), .val (.int p6), .val (.ref b1), .val (.int v7_11), .val (.int v8_12), .val (.int m14), .val (.int v10_16), .val (.int m19), .val (.int m21), .val (.int v13_22), .val (.int (0 : Int32)), .unset] [(.int v13_22)])) _
            refine XS.iload X31.here hx rfl (hb hby at_213) rfl ?_
            show Steps _ _ _ (T31.setTop (mkF m 215 #[.val (.int p1), .val (.int p2), .val (.int p3), .val (.int p4), .val (.int p5), .val (.int p6), .val (.ref b1), .val (.int v7_11), .val (.int v8_12), .val (.int m14), .val (.int v10_16), .val (.int m19), .val (.int m21), .val (.int v13_22), .val (.int (0 : Int32)), .unset] [(.int m14), (.int v13_22)])) _
            by_cases hc34 : m14 < v13_22
            · --
              refine XS.icmpYes X31.here hx rfl (pc0 := 215) (pc' := 227) rfl (hb hby at_215) rfl (tlt hc34).2.2.1 (by decide) (by decide) ?_
              show Steps _ _ _ (T31.setTop (mkF m 227 #[.val (.int p1), .val (.int p2), .val (.int p3), .val (.int p4), .val (.int p5), .val (.int p6), .val (.ref b1), .val (.int v7_11), .val (.int v8_12), .val (.int m14), .val (.int v10_16), .val (.int m19), .val (.int m21), .val (.int v13_22), .val (.int (0 : Int32)), .unset] [])) _
              refine XS.iconst X31.here hx rfl (hb hby at_227) ?_
              show Steps _ _ _ (T31.setTop (mkF m 228 #[.val (.int p1), .val (.int p2), .val (.int p3), .val (.int p4), .val (.int p5), .val (.int p6), .val (.ref b1), .val (.int v7_11), .val (.int v8_12), .val (.int m14), .val (.int v10_16), .val (.int m19), .val (.int m21), .val (.int v13_22), .val (.int (0 : Int32)), .unset] [(.int (0 : Int32))])) _
              try simp only [if_neg hc33, if_pos hc34] at kk
              exact kk
            · --
              refine XS.icmpNo X31.here hx rfl (hb hby at_215) rfl (flt hc34).2.2.1 ?_
              show Steps _ _ _ (T31.setTop (mkF m 218 #[.val (.int p1), .val (.int p2), .val (.int p3), .val (.int p4), .val (.int p5), .val (.int p6), .val (.ref b1), .val (.int v7_11), .val (.int v8_12), .val (.int m14), .val (.int v10_16), .val (.int m19), .val (.int m21), .val (.int v13_22), .val (.int (0 : Int32)), .unset] [])) _
              refine XS.iload X31.here hx rfl (hb hby at_218) rfl ?_
              show Steps _ _ _ (T31.setTop (mkF m 220 #[.val (.int p1), .val (.int p2), .val (.int p3), .val (.int p4), .val (.int p5), .val (.int p6), .val (.ref b1), .val (.int v7_11), .val (.int v8_12), .val (.int m14), .val (.int v10_16), .val (.int m19), .val (.int m21), .val (.int v13_22), .val (.int (0 : Int32)), .unset] [(.int (0 : Int32))])) _
              refine XS.ifYes X31.here hx rfl (pc0 := 220) (pc' := 227) rfl (hb hby at_220) rfl ((if0 _ _).trans (teq (by decide)).1) (by decide) (by decide) ?_
              show Steps _ _ _ (T31.setTop (mkF m 227 #[.val (.int p1), .val (.int p2), .val (.int p3), .val (.int p4), .val (.int p5), .val (.int p6), .val (.ref b1), .val (.int v7_11), .val (.int v8_12), .val (.int m14), .val (.int v10_16), .val (.int m19), .val (.int m21), .val (.int v13_22), .val (.int (0 : Int32)), .unset] [])) _
              refine XS.iconst X31.here hx rfl (hb hby at_227) ?_
              show Steps _ _ _ (T31.setTop (mkF m 228 #[.val (.int p1), .val (.int p2), .val (.int p3), .val (.int p4), .val (.int p5), .val (.int p6), .val (.ref b1), .val (.int v7_11), .val (.int v8_12), .val (.int m14), .val (.int v10_16), .val (.int m19), .val (.int m21), .val (.int v13_22), .val (.int (0 : Int32)), .unset] [(.int (0 : Int32))])) _
              try simp only [if_neg hc33, if_neg hc34] at kk
              exact kk
        show own_Go _ _ _ _ (T31.setTop (mkF m 228 #[.val (.int p1), .val (.int p2), .val (.int p3), .val (.int p4), .val (.int p5), .val (.int p6), .val (.ref b1), .val (.int v7_11), .val (.int v8_12), .val (.int m14), .val (.int v10_16), .val (.int m19), .val (.int m21), .val (.int v13_22), .val (.int (0 : Int32)), .unset] [(.int (0 : Int32))]))
        refine own_by (fun _ k => XS.istore X31.here hx rfl (hb hby at_228) rfl (l' := #[.val (.int p1), .val (.int p2), .val (.int p3), .val (.int p4), .val (.int p5), .val (.int p6), .val (.ref b1), .val (.int v7_11), .val (.int v8_12), .val (.int m14), .val (.int v10_16), .val (.int m19), .val (.int m21), .val (.int v13_22), .val (.int (0 : Int32)), .val (.int (0 : Int32))]) rfl k) ?_
        show own_Go _ _ _ _ (T31.setTop (mkF m 230 #[.val (.int p1), .val (.int p2), .val (.int p3), .val (.int p4), .val (.int p5), .val (.int p6), .val (.ref b1), .val (.int v7_11), .val (.int v8_12), .val (.int m14), .val (.int v10_16), .val (.int m19), .val (.int m21), .val (.int v13_22), .val (.int (0 : Int32)), .val (.int (0 : Int32))] []))
        refine own_by (fun _ k => XS.iload X31.here hx rfl (hb hby at_230) rfl k) ?_
        show own_Go _ _ _ _ (T31.setTop (mkF m 232 #[.val (.int p1), .val (.int p2), .val (.int p3), .val (.int p4), .val (.int p5), .val (.int p6), .val (.ref b1), .val (.int v7_11), .val (.int v8_12), .val (.int m14), .val (.int v10_16), .val (.int m19), .val (.int m21), .val (.int v13_22), .val (.int (0 : Int32)), .val (.int (0 : Int32))] [(.int v10_16)]))
        refine own_by (fun _ k => XS.iload X31.here hx rfl (hb hby at_232) rfl k) ?_
        show own_Go _ _ _ _ (T31.setTop (mkF m 234 #[.val (.int p1), .val (.int p2), .val (.int p3), .val (.int p4), .val (.int p5), .val (.int p6), .val (.ref b1), .val (.int v7_11), .val (.int v8_12), .val (.int m14), .val (.int v10_16), .val (.int m19), .val (.int m21), .val (.int v13_22), .val (.int (0 : Int32)), .val (.int (0 : Int32))] [(.int (0 : Int32)), (.int v10_16)]))
        refine own_by (fun _ k => XS.icmpNo X31.here hx rfl (hb hby at_234) rfl (teq (hv10_16.symm.trans (own_fails ff F E m14 v13_22 (0 : Int32) hE4 hFE hd (rfl) 2 ((own_ok0 ff 2 (2 : Int32) m21 v8_12 (own_first ff F E) E (by decide) hg hE).mp hc32)))).2 k) ?_
        show own_Go _ _ _ _ (T31.setTop (mkF m 237 #[.val (.int p1), .val (.int p2), .val (.int p3), .val (.int p4), .val (.int p5), .val (.int p6), .val (.ref b1), .val (.int v7_11), .val (.int v8_12), .val (.int m14), .val (.int v10_16), .val (.int m19), .val (.int m21), .val (.int v13_22), .val (.int (0 : Int32)), .val (.int (0 : Int32))] []))
        refine own_by (fun _ k => XS.iconst X31.here hx rfl (hb hby at_237) k) ?_
        show own_Go _ _ _ _ (T31.setTop (mkF m 238 #[.val (.int p1), .val (.int p2), .val (.int p3), .val (.int p4), .val (.int p5), .val (.int p6), .val (.ref b1), .val (.int v7_11), .val (.int v8_12), .val (.int m14), .val (.int v10_16), .val (.int m19), .val (.int m21), .val (.int v13_22), .val (.int (0 : Int32)), .val (.int (0 : Int32))] [(.int (1 : Int32))]))
        refine own_by (fun _ k => XS.goto X31.here hx rfl (pc0 := 238) (pc' := 242) rfl (hb hby at_238) (by decide) (by decide) k) ?_
        show own_Go _ _ _ _ (T31.setTop (mkF m 242 #[.val (.int p1), .val (.int p2), .val (.int p3), .val (.int p4), .val (.int p5), .val (.int p6), .val (.ref b1), .val (.int v7_11), .val (.int v8_12), .val (.int m14), .val (.int v10_16), .val (.int m19), .val (.int m21), .val (.int v13_22), .val (.int (0 : Int32)), .val (.int (0 : Int32))] [(.int (1 : Int32))]))
        exact own_retN X31 hx Bd.notSynchronized e31 Bd.returns (by simp) (hb hby at_242) (⟨rfl, N31⟩) (by decide) (by decide)
      · --
        refine own_by (fun _ k => XS.ifNo X31.here hx rfl (hb hby at_182) rfl ((if0 _ _).trans (feq hc32).1) k) ?_
        show own_Go _ _ _ _ (T31.setTop (mkF m 185 #[.val (.int p1), .val (.int p2), .val (.int p3), .val (.int p4), .val (.int p5), .val (.int p6), .val (.ref b1), .val (.int v7_11), .val (.int v8_12), .val (.int m14), .val (.int v10_16), .val (.int m19), .val (.int m21), .val (.int v13_22), .unset, .unset] []))
        refine own_by (fun _ k => XS.aload X31.here hx rfl (hb hby at_185) rfl rfl k) ?_
        show own_Go _ _ _ _ (T31.setTop (mkF m 187 #[.val (.int p1), .val (.int p2), .val (.int p3), .val (.int p4), .val (.int p5), .val (.int p6), .val (.ref b1), .val (.int v7_11), .val (.int v8_12), .val (.int m14), .val (.int v10_16), .val (.int m19), .val (.int m21), .val (.int v13_22), .unset, .unset] [(.ref b1)]))
        refine own_by (fun _ k => XS.iconst X31.here hx rfl (hb hby at_187) k) ?_
        show own_Go _ _ _ _ (T31.setTop (mkF m 188 #[.val (.int p1), .val (.int p2), .val (.int p3), .val (.int p4), .val (.int p5), .val (.int p6), .val (.ref b1), .val (.int v7_11), .val (.int v8_12), .val (.int m14), .val (.int v10_16), .val (.int m19), .val (.int m21), .val (.int v13_22), .unset, .unset] [(.int (3 : Int32)), (.ref b1)]))
        refine own_by (fun _ k => XS.iload X31.here hx rfl (hb hby at_188) rfl k) ?_
        show own_Go _ _ _ _ (T31.setTop (mkF m 190 #[.val (.int p1), .val (.int p2), .val (.int p3), .val (.int p4), .val (.int p5), .val (.int p6), .val (.ref b1), .val (.int v7_11), .val (.int v8_12), .val (.int m14), .val (.int v10_16), .val (.int m19), .val (.int m21), .val (.int v13_22), .unset, .unset] [(.int m21), (.int (3 : Int32)), (.ref b1)]))
        refine own_by (fun _ k => XS.iload X31.here hx rfl (hb hby at_190) rfl k) ?_
        show own_Go _ _ _ _ (T31.setTop (mkF m 192 #[.val (.int p1), .val (.int p2), .val (.int p3), .val (.int p4), .val (.int p5), .val (.int p6), .val (.ref b1), .val (.int v7_11), .val (.int v8_12), .val (.int m14), .val (.int v10_16), .val (.int m19), .val (.int m21), .val (.int v13_22), .unset, .unset] [(.int v8_12), (.int m21), (.int (3 : Int32)), (.ref b1)]))
        obtain ⟨_, _, ⟨T35, L35, k35, n35⟩, -, X35, ⟨Lc35, hQ35, l35, y35, z35⟩, st35⟩ := Jvm.LawKit.callS X31 hx (y := (⟨"com/example/settleline/settleline/csv/FieldSyntaxIsWholeNumberPinLaw", "okAt", "([BIII)Z"⟩ : MethodName)) hown (mvT hZ (hw _ (List.mem_of_getElem? (i := 9) rfl))) (mvT hZ (hw _ (List.mem_of_getElem? (i := 10) rfl))) (mvT hZ (hw _ (List.mem_of_getElem? (i := 3) rfl))) (mvT hZ (hw _ (List.mem_of_getElem? (i := 11) rfl))) (by decide) (backOf (W := 0) (rm3 l Z a0 hw [] b1 (3 : Int32) m21 v8_12 ff 3 h10 n0 Z10 A10 (by decide) (by decide)) hZ (hw _ (List.mem_of_getElem? (i := 11) rfl)) (hw _ (List.mem_of_getElem? (i := 3) rfl)) (by decide) (by decide)) (g := (mkF m 192 #[.val (.int p1), .val (.int p2), .val (.int p3), .val (.int p4), .val (.int p5), .val (.int p6), .val (.ref b1), .val (.int v7_11), .val (.int v8_12), .val (.int m14), .val (.int v10_16), .val (.int m19), .val (.int m21), .val (.int v13_22), .unset, .unset] [(.int v8_12), (.int m21), (.int (3 : Int32)), (.ref b1)])) rfl (by rw [hml]; rfl) (argsL := [(.ref b1), (.int (3 : Int32)), (.int m21), (.int v8_12)]) (rest := []) (lenOf own_pd1 rfl) rfl (by show 2 * 0 + _ ≤ _; exact Nat.le_of_eq rfl) (hb hby at_192) (fun _ _ => ⟨rfl, e31, Nat.le_of_ble_eq_true rfl, Nat.le_of_ble_eq_true rfl⟩)
        dsimp only [Pt.U, Pt.locs, Pt.cells, Pt.slots] at X35 l35 y35 z35 st35 hQ35
        subst l35 y35 z35
        obtain ⟨rfl, N35q, e35⟩ := hQ35
        have N35 := Fr.app N31 N35q
        refine own_by st35 ?_
        show own_Go _ _ _ _ (T35.setTop (mkF m 195 #[.val (.int p1), .val (.int p2), .val (.int p3), .val (.int p4), .val (.int p5), .val (.int p6), .val (.ref b1), .val (.int v7_11), .val (.int v8_12), .val (.int m14), .val (.int v10_16), .val (.int m19), .val (.int m21), .val (.int v13_22), .unset, .unset] [(.int (own_ok ff 3 (3 : Int32) m21 v8_12))]))
        by_cases hc36 : (own_ok ff 3 (3 : Int32) m21 v8_12) = (0 : Int32)
        · --
          refine own_by (fun _ k => XS.ifYes X35.here hx rfl (pc0 := 195) (pc' := 202) rfl (hb hby at_195) rfl ((if0 _ _).trans (teq hc36).1) (by decide) (by decide) k) ?_
          show own_Go _ _ _ _ (T35.setTop (mkF m 202 #[.val (.int p1), .val (.int p2), .val (.int p3), .val (.int p4), .val (.int p5), .val (.int p6), .val (.ref b1), .val (.int v7_11), .val (.int v8_12), .val (.int m14), .val (.int v10_16), .val (.int m19), .val (.int m21), .val (.int v13_22), .unset, .unset] []))
          refine own_by (fun _ k => XS.iconst X35.here hx rfl (hb hby at_202) k) ?_
          show own_Go _ _ _ _ (T35.setTop (mkF m 203 #[.val (.int p1), .val (.int p2), .val (.int p3), .val (.int p4), .val (.int p5), .val (.int p6), .val (.ref b1), .val (.int v7_11), .val (.int v8_12), .val (.int m14), .val (.int v10_16), .val (.int m19), .val (.int m21), .val (.int v13_22), .unset, .unset] [(.int (0 : Int32))]))
          refine own_by (fun _ k => XS.istore X35.here hx rfl (hb hby at_203) rfl (l' := #[.val (.int p1), .val (.int p2), .val (.int p3), .val (.int p4), .val (.int p5), .val (.int p6), .val (.ref b1), .val (.int v7_11), .val (.int v8_12), .val (.int m14), .val (.int v10_16), .val (.int m19), .val (.int m21), .val (.int v13_22), .val (.int (0 : Int32)), .unset]) rfl k) ?_
          show own_Go _ _ _ _ (T35.setTop (mkF m 205 #[.val (.int p1), .val (.int p2), .val (.int p3), .val (.int p4), .val (.int p5), .val (.int p6), .val (.ref b1), .val (.int v7_11), .val (.int v8_12), .val (.int m14), .val (.int v10_16), .val (.int m19), .val (.int m21), .val (.int v13_22), .val (.int (0 : Int32)), .unset] []))
          refine own_by (fun _ k => XS.iload X35.here hx rfl (hb hby at_205) rfl k) ?_
          show own_Go _ _ _ _ (T35.setTop (mkF m 207 #[.val (.int p1), .val (.int p2), .val (.int p3), .val (.int p4), .val (.int p5), .val (.int p6), .val (.ref b1), .val (.int v7_11), .val (.int v8_12), .val (.int m14), .val (.int v10_16), .val (.int m19), .val (.int m21), .val (.int v13_22), .val (.int (0 : Int32)), .unset] [(.int v13_22)]))
          refine own_by (fun _ k => XS.iconst X35.here hx rfl (hb hby at_207) k) ?_
          refine own_by (V := T35.setTop (mkF m 228 #[.val (.int p1), .val (.int p2), .val (.int p3), .val (.int p4), .val (.int p5), .val (.int p6), .val (.ref b1), .val (.int v7_11), .val (.int v8_12), .val (.int m14), .val (.int v10_16), .val (.int m19), .val (.int m21), .val (.int v13_22), .val (.int (0 : Int32)), .unset] [(.int (0 : Int32))])) (fun _ kk => ?_) ?_
          · --
            show Steps _ _ _ (T35.setTop (mkF m 208 #[.val (.int p1), .val (.int p2), .val (.int p3), .val (.int p4), .val (.int p5), .val (.int p6), .val (.ref b1), .val (.int v7_11), .val (.int v8_12), .val (.int m14), .val (.int v10_16), .val (.int m19), .val (.int m21), .val (.int v13_22), .val (.int (0 : Int32)), .unset] [(.int (1 : Int32)), (.int v13_22)])) _
            by_cases hc37 : v13_22 < (1 : Int32)
            · --
              refine XS.icmpYes X35.here hx rfl (pc0 := 208) (pc' := 227) rfl (hb hby at_208) rfl (tlt hc37).1 (by decide) (by decide) ?_
              show Steps _ _ _ (T35.setTop (mkF m 227 #[.val (.int p1), .val (.int p2), .val (.int p3), .val (.int p4), .val (.int p5), .val (.int p6), .val (.ref b1), .val (.int v7_11), .val (.int v8_12), .val (.int m14), .val (.int v10_16), .val (.int m19), .val (.int m21), .val (.int v13_22), .val (.int (0 : Int32)), .unset] [])) _
              refine XS.iconst X35.here hx rfl (hb hby at_227) ?_
              show Steps _ _ _ (T35.setTop (mkF m 228 #[.val (.int p1), .val (.int p2), .val (.int p3), .val (.int p4), .val (.int p5), .val (.int p6), .val (.ref b1), .val (.int v7_11), .val (.int v8_12), .val (.int m14), .val (.int v10_16), .val (.int m19), .val (.int m21), .val (.int v13_22), .val (.int (0 : Int32)), .unset] [(.int (0 : Int32))])) _
              try simp only [if_pos hc37] at kk
              exact kk
            · --
              refine XS.icmpNo X35.here hx rfl (hb hby at_208) rfl (flt hc37).1 ?_
              show Steps _ _ _ (T35.setTop (mkF m 211 #[.val (.int p1), .val (.int p2), .val (.int p3), .val (.int p4), .val (.int p5), .val (.int p6), .val (.ref b1), .val (.int v7_11), .val (.int v8_12), .val (.int m14), .val (.int v10_16), .val (.int m19), .val (.int m21), .val (.int v13_22), .val (.int (0 : Int32)), .unset] [])) _
              refine XS.iload X35.here hx rfl (hb hby at_211) rfl ?_
              show Steps _ _ _ (T35.setTop (mkF m 213 #[.val (.int p1), .val (.int p2), .val (.int p3), .val (.int p4), .val (.int p5), .val (.int p6), .val (.ref b1), .val (.int v7_11), .val (.int v8_12), .val (.int m14), .val (.int v10_16), .val (.int m19), .val (.int m21), .val (.int v13_22), .val (.int (0 : Int32)), .unset] [(.int v13_22)])) _
              refine XS.iload X35.here hx rfl (hb hby at_213) rfl ?_
              show Steps _ _ _ (T35.setTop (mkF m 215 #[.val (.int p1), .val (.int p2), .val (.int p3), .val (.int p4), .val (.int p5), .val (.int p6), .val (.ref b1), .val (.int v7_11), .val (.int v8_12), .val (.int m14), .val (.int v10_16), .val (.int m19), .val (.int m21), .val (.int v13_22), .val (.int (0 : Int32)), .unset] [(.int m14), (.int v13_22)])) _
              by_cases hc38 : m14 < v13_22
              · --
                refine XS.icmpYes X35.here hx rfl (pc0 := 215) (pc' := 227) rfl (hb hby at_215) rfl (tlt hc38).2.2.1 (by decide) (by decide) ?_
                show Steps _ _ _ (T35.setTop (mkF m 227 #[.val (.int p1), .val (.int p2), .val (.int p3), .val (.int p4), .val (.int p5), .val (.int p6), .val (.ref b1), .val (.int v7_11), .val (.int v8_12), .val (.int m14), .val (.int v10_16), .val (.int m19), .val (.int m21), .val (.int v13_22), .val (.int (0 : Int32)), .unset] [])) _
                refine XS.iconst X35.here hx rfl (hb hby at_227) ?_
                show Steps _ _ _ (T35.setTop (mkF m 228 #[.val (.int p1), .val (.int p2), .val (.int p3), .val (.int p4), .val (.int p5), .val (.int p6), .val (.ref b1), .val (.int v7_11), .val (.int v8_12), .val (.int m14), .val (.int v10_16), .val (.int m19), .val (.int m21), .val (.int v13_22), .val (.int (0 : Int32)), .unset] [(.int (0 : Int32))])) _
                try simp only [if_neg hc37, if_pos hc38] at kk
                exact kk
              · --
                refine XS.icmpNo X35.here hx rfl (hb hby at_215) rfl (flt hc38).2.2.1 ?_
                show Steps _ _ _ (T35.setTop (mkF m 218 #[.val (.int p1), .val (.int p2), .val (.int p3), .val (.int p4), .val (.int p5), .val (.int p6), .val (.ref b1), .val (.int v7_11), .val (.int v8_12), .val (.int m14), .val (.int v10_16), .val (.int m19), .val (.int m21), .val (.int v13_22), .val (.int (0 : Int32)), .unset] [])) _
                refine XS.iload X35.here hx rfl (hb hby at_218) rfl ?_
                show Steps _ _ _ (T35.setTop (mkF m 220 #[.val (.int p1), .val (.int p2), .val (.int p3), .val (.int p4), .val (.int p5), .val (.int p6), .val (.ref b1), .val (.int v7_11), .val (.int v8_12), .val (.int m14), .val (.int v10_16), .val (.int m19), .val (.int m21), .val (.int v13_22), .val (.int (0 : Int32)), .unset] [(.int (0 : Int32))])) _
                refine XS.ifYes X35.here hx rfl (pc0 := 220) (pc' := 227) rfl (hb hby at_220) rfl ((if0 _ _).trans (teq (by decide)).1) (by decide) (by decide) ?_
                show Steps _ _ _ (T35.setTop (mkF m 227 #[.val (.int p1), .val (.int p2), .val (.int p3), .val (.int p4), .val (.int p5), .val (.int p6), .val (.ref b1), .val (.int v7_11), .val (.int v8_12), .val (.int m14), .val (.int v10_16), .val (.int m19), .val (.int m21), .val (.int v13_22), .val (.int (0 : Int32)), .unset] [])) _
                refine XS.iconst X35.here hx rfl (hb hby at_227) ?_
                show Steps _ _ _ (T35.setTop (mkF m 228 #[.val (.int p1), .val (.int p2), .val (.int p3), .val (.int p4), .val (.int p5), .val (.int p6), .val (.ref b1), .val (.int v7_11), .val (.int v8_12), .val (.int m14), .val (.int v10_16), .val (.int m19), .val (.int m21), .val (.int v13_22), .val (.int (0 : Int32)), .unset] [(.int (0 : Int32))])) _
                try simp only [if_neg hc37, if_neg hc38] at kk
                exact kk
          show own_Go _ _ _ _ (T35.setTop (mkF m 228 #[.val (.int p1), .val (.int p2), .val (.int p3), .val (.int p4), .val (.int p5), .val (.int p6), .val (.ref b1), .val (.int v7_11), .val (.int v8_12), .val (.int m14), .val (.int v10_16), .val (.int m19), .val (.int m21), .val (.int v13_22), .val (.int (0 : Int32)), .unset] [(.int (0 : Int32))]))
          refine own_by (fun _ k => XS.istore X35.here hx rfl (hb hby at_228) rfl (l' := #[.val (.int p1), .val (.int p2), .val (.int p3), .val (.int p4), .val (.int p5), .val (.int p6), .val (.ref b1), .val (.int v7_11), .val (.int v8_12), .val (.int m14), .val (.int v10_16), .val (.int m19), .val (.int m21), .val (.int v13_22), .val (.int (0 : Int32)), .val (.int (0 : Int32))]) rfl k) ?_
          show own_Go _ _ _ _ (T35.setTop (mkF m 230 #[.val (.int p1), .val (.int p2), .val (.int p3), .val (.int p4), .val (.int p5), .val (.int p6), .val (.ref b1), .val (.int v7_11), .val (.int v8_12), .val (.int m14), .val (.int v10_16), .val (.int m19), .val (.int m21), .val (.int v13_22), .val (.int (0 : Int32)), .val (.int (0 : Int32))] []))
          refine own_by (fun _ k => XS.iload X35.here hx rfl (hb hby at_230) rfl k) ?_
          show own_Go _ _ _ _ (T35.setTop (mkF m 232 #[.val (.int p1), .val (.int p2), .val (.int p3), .val (.int p4), .val (.int p5), .val (.int p6), .val (.ref b1), .val (.int v7_11), .val (.int v8_12), .val (.int m14), .val (.int v10_16), .val (.int m19), .val (.int m21), .val (.int v13_22), .val (.int (0 : Int32)), .val (.int (0 : Int32))] [(.int v10_16)]))
          refine own_by (fun _ k => XS.iload X35.here hx rfl (hb hby at_232) rfl k) ?_
          show own_Go _ _ _ _ (T35.setTop (mkF m 234 #[.val (.int p1), .val (.int p2), .val (.int p3), .val (.int p4), .val (.int p5), .val (.int p6), .val (.ref b1), .val (.int v7_11), .val (.int v8_12), .val (.int m14), .val (.int v10_16), .val (.int m19), .val (.int m21), .val (.int v13_22), .val (.int (0 : Int32)), .val (.int (0 : Int32))] [(.int (0 : Int32)), (.int v10_16)]))
          refine own_by (fun _ k => XS.icmpNo X35.here hx rfl (hb hby at_234) rfl (teq (hv10_16.symm.trans (own_fails ff F E m14 v13_22 (0 : Int32) hE4 hFE hd (rfl) 3 ((own_ok0 ff 3 (3 : Int32) m21 v8_12 (own_first ff F E) E (by decide) hg hE).mp hc36)))).2 k) ?_
          show own_Go _ _ _ _ (T35.setTop (mkF m 237 #[.val (.int p1), .val (.int p2), .val (.int p3), .val (.int p4), .val (.int p5), .val (.int p6), .val (.ref b1), .val (.int v7_11), .val (.int v8_12), .val (.int m14), .val (.int v10_16), .val (.int m19), .val (.int m21), .val (.int v13_22), .val (.int (0 : Int32)), .val (.int (0 : Int32))] []))
          refine own_by (fun _ k => XS.iconst X35.here hx rfl (hb hby at_237) k) ?_
          show own_Go _ _ _ _ (T35.setTop (mkF m 238 #[.val (.int p1), .val (.int p2), .val (.int p3), .val (.int p4), .val (.int p5), .val (.int p6), .val (.ref b1), .val (.int v7_11), .val (.int v8_12), .val (.int m14), .val (.int v10_16), .val (.int m19), .val (.int m21), .val (.int v13_22), .val (.int (0 : Int32)), .val (.int (0 : Int32))] [(.int (1 : Int32))]))
          refine own_by (fun _ k => XS.goto X35.here hx rfl (pc0 := 238) (pc' := 242) rfl (hb hby at_238) (by decide) (by decide) k) ?_
          show own_Go _ _ _ _ (T35.setTop (mkF m 242 #[.val (.int p1), .val (.int p2), .val (.int p3), .val (.int p4), .val (.int p5), .val (.int p6), .val (.ref b1), .val (.int v7_11), .val (.int v8_12), .val (.int m14), .val (.int v10_16), .val (.int m19), .val (.int m21), .val (.int v13_22), .val (.int (0 : Int32)), .val (.int (0 : Int32))] [(.int (1 : Int32))]))
          exact own_retN X35 hx Bd.notSynchronized e35 Bd.returns (by simp) (hb hby at_242) (⟨rfl, N35⟩) (by decide) (by decide)
        · --
          refine own_by (fun _ k => XS.ifNo X35.here hx rfl (hb hby at_195) rfl ((if0 _ _).trans (feq hc36).1) k) ?_
          show own_Go _ _ _ _ (T35.setTop (mkF m 198 #[.val (.int p1), .val (.int p2), .val (.int p3), .val (.int p4), .val (.int p5), .val (.int p6), .val (.ref b1), .val (.int v7_11), .val (.int v8_12), .val (.int m14), .val (.int v10_16), .val (.int m19), .val (.int m21), .val (.int v13_22), .unset, .unset] []))
          refine own_by (fun _ k => XS.iconst X35.here hx rfl (hb hby at_198) k) ?_
          show own_Go _ _ _ _ (T35.setTop (mkF m 199 #[.val (.int p1), .val (.int p2), .val (.int p3), .val (.int p4), .val (.int p5), .val (.int p6), .val (.ref b1), .val (.int v7_11), .val (.int v8_12), .val (.int m14), .val (.int v10_16), .val (.int m19), .val (.int m21), .val (.int v13_22), .unset, .unset] [(.int (1 : Int32))]))
          refine own_by (fun _ k => XS.goto X35.here hx rfl (pc0 := 199) (pc' := 203) rfl (hb hby at_199) (by decide) (by decide) k) ?_
          show own_Go _ _ _ _ (T35.setTop (mkF m 203 #[.val (.int p1), .val (.int p2), .val (.int p3), .val (.int p4), .val (.int p5), .val (.int p6), .val (.ref b1), .val (.int v7_11), .val (.int v8_12), .val (.int m14), .val (.int v10_16), .val (.int m19), .val (.int m21), .val (.int v13_22), .unset, .unset] [(.int (1 : Int32))]))
          refine own_by (fun _ k => XS.istore X35.here hx rfl (hb hby at_203) rfl (l' := #[.val (.int p1), .val (.int p2), .val (.int p3), .val (.int p4), .val (.int p5), .val (.int p6), .val (.ref b1), .val (.int v7_11), .val (.int v8_12), .val (.int m14), .val (.int v10_16), .val (.int m19), .val (.int m21), .val (.int v13_22), .val (.int (1 : Int32)), .unset]) rfl k) ?_
          show own_Go _ _ _ _ (T35.setTop (mkF m 205 #[.val (.int p1), .val (.int p2), .val (.int p3), .val (.int p4), .val (.int p5), .val (.int p6), .val (.ref b1), .val (.int v7_11), .val (.int v8_12), .val (.int m14), .val (.int v10_16), .val (.int m19), .val (.int m21), .val (.int v13_22), .val (.int (1 : Int32)), .unset] []))
          refine own_by (fun _ k => XS.iload X35.here hx rfl (hb hby at_205) rfl k) ?_
          show own_Go _ _ _ _ (T35.setTop (mkF m 207 #[.val (.int p1), .val (.int p2), .val (.int p3), .val (.int p4), .val (.int p5), .val (.int p6), .val (.ref b1), .val (.int v7_11), .val (.int v8_12), .val (.int m14), .val (.int v10_16), .val (.int m19), .val (.int m21), .val (.int v13_22), .val (.int (1 : Int32)), .unset] [(.int v13_22)]))
          refine own_by (fun _ k => XS.iconst X35.here hx rfl (hb hby at_207) k) ?_
          refine own_by (V := T35.setTop (mkF m 228 #[.val (.int p1), .val (.int p2), .val (.int p3), .val (.int p4), .val (.int p5), .val (.int p6), .val (.ref b1), .val (.int v7_11), .val (.int v8_12), .val (.int m14), .val (.int v10_16), .val (.int m19), .val (.int m21), .val (.int v13_22), .val (.int (1 : Int32)), .unset] [(.int (if v13_22 < (1 : Int32) then (0 : Int32) else (if m14 < v13_22 then (0 : Int32) else (1 : Int32))))])) (fun _ kk => ?_) ?_
          · --
            show Steps _ _ _ (T35.setTop (mkF m 208 #[.val (.int p1), .val (.int p2), .val (.int p3), .val (.int p4), .val (.int p5), .val (.int p6), .val (.ref b1), .val (.int v7_11), .val (.int v8_12), .val (.int m14), .val (.int v10_16), .val (.int m19), .val (.int m21), .val (.int v13_22), .val (.int (1 : Int32)), .unset] [(.int (1 : Int32)), (.int v13_22)])) _
            by_cases hc39 : v13_22 < (1 : Int32)
            · --
              refine XS.icmpYes X35.here hx rfl (pc0 := 208) (pc' := 227) rfl (hb hby at_208) rfl (tlt hc39).1 (by decide) (by decide) ?_
              show Steps _ _ _ (T35.setTop (mkF m 227 #[.val (.int p1), .val (.int p2), .val (.int p3), .val (.int p4), .val (.int p5), .val (.int p6), .val (.ref b1), .val (.int v7_11), .val (.int v8_12), .val (.int m14), .val (.int v10_16), .val (.int m19), .val (.int m21), .val (.int v13_22), .val (.int (1 : Int32)), .unset] [])) _
              refine XS.iconst X35.here hx rfl (hb hby at_227) ?_
              show Steps _ _ _ (T35.setTop (mkF m 228 #[.val (.int p1), .val (.int p2), .val (.int p3), .val (.int p4), .val (.int p5), .val (.int p6), .val (.ref b1), .val (.int v7_11), .val (.int v8_12), .val (.int m14), .val (.int v10_16), .val (.int m19), .val (.int m21), .val (.int v13_22), .val (.int (1 : Int32)), .unset] [(.int (0 : Int32))])) _
              try simp only [if_pos hc39] at kk
              exact kk
            · --
              refine XS.icmpNo X35.here hx rfl (hb hby at_208) rfl (flt hc39).1 ?_
              show Steps _ _ _ (T35.setTop (mkF m 211 #[.val (.int p1), .val (.int p2), .val (.int p3), .val (.int p4), .val (.int p5), .val (.int p6), .val (.ref b1), .val (.int v7_11), .val (.int v8_12), .val (.int m14), .val (.int v10_16), .val (.int m19), .val (.int m21), .val (.int v13_22), .val (.int (1 : Int32)), .unset] [])) _
              refine XS.iload X35.here hx rfl (hb hby at_211) rfl ?_
              show Steps _ _ _ (T35.setTop (mkF m 213 #[.val (.int p1), .val (.int p2), .val (.int p3), .val (.int p4), .val (.int p5), .val (.int p6), .val (.ref b1), .val (.int v7_11), .val (.int v8_12), .val (.int m14), .val (.int v10_16), .val (.int m19), .val (.int m21), .val (.int v13_22), .val (.int (1 : Int32)), .unset] [(.int v13_22)])) _
              refine XS.iload X35.here hx rfl (hb hby at_213) rfl ?_
              show Steps _ _ _ (T35.setTop (mkF m 215 #[.val (.int p1), .val (.int p2), .val (.int p3), .val (.int p4), .val (.int p5), .val (.int p6), .val (.ref b1), .val (.int v7_11), .val (.int v8_12), .val (.int m14), .val (.int v10_16), .val (.int m19), .val (.int m21), .val (.int v13_22), .val (.int (1 : Int32)), .unset] [(.int m14), (.int v13_22)])) _
              by_cases hc40 : m14 < v13_22
              · --
                refine XS.icmpYes X35.here hx rfl (pc0 := 215) (pc' := 227) rfl (hb hby at_215) rfl (tlt hc40).2.2.1 (by decide) (by decide) ?_
                show Steps _ _ _ (T35.setTop (mkF m 227 #[.val (.int p1), .val (.int p2), .val (.int p3), .val (.int p4), .val (.int p5), .val (.int p6), .val (.ref b1), .val (.int v7_11), .val (.int v8_12), .val (.int m14), .val (.int v10_16), .val (.int m19), .val (.int m21), .val (.int v13_22), .val (.int (1 : Int32)), .unset] [])) _
                refine XS.iconst X35.here hx rfl (hb hby at_227) ?_
                show Steps _ _ _ (T35.setTop (mkF m 228 #[.val (.int p1), .val (.int p2), .val (.int p3), .val (.int p4), .val (.int p5), .val (.int p6), .val (.ref b1), .val (.int v7_11), .val (.int v8_12), .val (.int m14), .val (.int v10_16), .val (.int m19), .val (.int m21), .val (.int v13_22), .val (.int (1 : Int32)), .unset] [(.int (0 : Int32))])) _
                try simp only [if_neg hc39, if_pos hc40] at kk
                exact kk
              · --
                refine XS.icmpNo X35.here hx rfl (hb hby at_215) rfl (flt hc40).2.2.1 ?_
                show Steps _ _ _ (T35.setTop (mkF m 218 #[.val (.int p1), .val (.int p2), .val (.int p3), .val (.int p4), .val (.int p5), .val (.int p6), .val (.ref b1), .val (.int v7_11), .val (.int v8_12), .val (.int m14), .val (.int v10_16), .val (.int m19), .val (.int m21), .val (.int v13_22), .val (.int (1 : Int32)), .unset] [])) _
                refine XS.iload X35.here hx rfl (hb hby at_218) rfl ?_
                show Steps _ _ _ (T35.setTop (mkF m 220 #[.val (.int p1), .val (.int p2), .val (.int p3), .val (.int p4), .val (.int p5), .val (.int p6), .val (.ref b1), .val (.int v7_11), .val (.int v8_12), .val (.int m14), .val (.int v10_16), .val (.int m19), .val (.int m21), .val (.int v13_22), .val (.int (1 : Int32)), .unset] [(.int (1 : Int32))])) _
                refine XS.ifNo X35.here hx rfl (hb hby at_220) rfl ((if0 _ _).trans (feq (by decide)).1) ?_
                show Steps _ _ _ (T35.setTop (mkF m 223 #[.val (.int p1), .val (.int p2), .val (.int p3), .val (.int p4), .val (.int p5), .val (.int p6), .val (.ref b1), .val (.int v7_11), .val (.int v8_12), .val (.int m14), .val (.int v10_16), .val (.int m19), .val (.int m21), .val (.int v13_22), .val (.int (1 : Int32)), .unset] [])) _
                refine XS.iconst X35.here hx rfl (hb hby at_223) ?_
                show Steps _ _ _ (T35.setTop (mkF m 224 #[.val (.int p1), .val (.int p2), .val (.int p3), .val (.int p4), .val (.int p5), .val (.int p6), .val (.ref b1), .val (.int v7_11), .val (.int v8_12), .val (.int m14), .val (.int v10_16), .val (.int m19), .val (.int m21), .val (.int v13_22), .val (.int (1 : Int32)), .unset] [(.int (1 : Int32))])) _
                refine XS.goto X35.here hx rfl (pc0 := 224) (pc' := 228) rfl (hb hby at_224) (by decide) (by decide) ?_
                show Steps _ _ _ (T35.setTop (mkF m 228 #[.val (.int p1), .val (.int p2), .val (.int p3), .val (.int p4), .val (.int p5), .val (.int p6), .val (.ref b1), .val (.int v7_11), .val (.int v8_12), .val (.int m14), .val (.int v10_16), .val (.int m19), .val (.int m21), .val (.int v13_22), .val (.int (1 : Int32)), .unset] [(.int (1 : Int32))])) _
                try simp only [if_neg hc39, if_neg hc40] at kk
                exact kk
          obtain ⟨m41, hm41⟩ : ∃ z_ : Int32, (if v13_22 < (1 : Int32) then (0 : Int32) else (if m14 < v13_22 then (0 : Int32) else (1 : Int32))) = z_ := ⟨_, rfl⟩
          refine own_gen hm41 (fun z_ => T35.setTop (mkF m 228 #[.val (.int p1), .val (.int p2), .val (.int p3), .val (.int p4), .val (.int p5), .val (.int p6), .val (.ref b1), .val (.int v7_11), .val (.int v8_12), .val (.int m14), .val (.int v10_16), .val (.int m19), .val (.int m21), .val (.int v13_22), .val (.int (1 : Int32)), .unset] [(.int z_)])) ?_
          show own_Go _ _ _ _ (T35.setTop (mkF m 228 #[.val (.int p1), .val (.int p2), .val (.int p3), .val (.int p4), .val (.int p5), .val (.int p6), .val (.ref b1), .val (.int v7_11), .val (.int v8_12), .val (.int m14), .val (.int v10_16), .val (.int m19), .val (.int m21), .val (.int v13_22), .val (.int (1 : Int32)), .unset] [(.int m41)]))
          refine own_by (fun _ k => XS.istore X35.here hx rfl (hb hby at_228) rfl (l' := #[.val (.int p1), .val (.int p2), .val (.int p3), .val (.int p4), .val (.int p5), .val (.int p6), .val (.ref b1), .val (.int v7_11), .val (.int v8_12), .val (.int m14), .val (.int v10_16), .val (.int m19), .val (.int m21), .val (.int v13_22), .val (.int (1 : Int32)), .val (.int m41)]) rfl k) ?_
          show own_Go _ _ _ _ (T35.setTop (mkF m 230 #[.val (.int p1), .val (.int p2), .val (.int p3), .val (.int p4), .val (.int p5), .val (.int p6), .val (.ref b1), .val (.int v7_11), .val (.int v8_12), .val (.int m14), .val (.int v10_16), .val (.int m19), .val (.int m21), .val (.int v13_22), .val (.int (1 : Int32)), .val (.int m41)] []))
          refine own_by (fun _ k => XS.iload X35.here hx rfl (hb hby at_230) rfl k) ?_
          show own_Go _ _ _ _ (T35.setTop (mkF m 232 #[.val (.int p1), .val (.int p2), .val (.int p3), .val (.int p4), .val (.int p5), .val (.int p6), .val (.ref b1), .val (.int v7_11), .val (.int v8_12), .val (.int m14), .val (.int v10_16), .val (.int m19), .val (.int m21), .val (.int v13_22), .val (.int (1 : Int32)), .val (.int m41)] [(.int v10_16)]))
          refine own_by (fun _ k => XS.iload X35.here hx rfl (hb hby at_232) rfl k) ?_
          show own_Go _ _ _ _ (T35.setTop (mkF m 234 #[.val (.int p1), .val (.int p2), .val (.int p3), .val (.int p4), .val (.int p5), .val (.int p6), .val (.ref b1), .val (.int v7_11), .val (.int v8_12), .val (.int m14), .val (.int v10_16), .val (.int m19), .val (.int m21), .val (.int v13_22), .val (.int (1 : Int32)), .val (.int m41)] [(.int m41), (.int v10_16)]))
          have hall : ∀ k, k < 4 → own_first ff F E ≤ k → k < E → own_dig (ff k) := fun k hk h1 h2 => Classical.byContradiction fun q => by
            have hk' : k = 0 ∨ k = 1 ∨ k = 2 ∨ k = 3 := by omega
            rcases hk' with rfl | rfl | rfl | rfl
            · exact hc24 ((own_ok0 ff 0 (0 : Int32) m21 v8_12 (own_first ff F E) E (by decide) hg hE).mpr ⟨h1, h2, q⟩)
            · exact hc28 ((own_ok0 ff 1 (1 : Int32) m21 v8_12 (own_first ff F E) E (by decide) hg hE).mpr ⟨h1, h2, q⟩)
            · exact hc32 ((own_ok0 ff 2 (2 : Int32) m21 v8_12 (own_first ff F E) E (by decide) hg hE).mpr ⟨h1, h2, q⟩)
            · exact hc36 ((own_ok0 ff 3 (3 : Int32) m21 v8_12 (own_first ff F E) E (by decide) hg hE).mpr ⟨h1, h2, q⟩)
          refine own_by (fun _ k => XS.icmpNo X35.here hx rfl (hb hby at_234) rfl (teq (hv10_16.symm.trans (own_passes ff F E m14 v13_22 m41 hE4 hFE hd hm41 hall))).2 k) ?_
          show own_Go _ _ _ _ (T35.setTop (mkF m 237 #[.val (.int p1), .val (.int p2), .val (.int p3), .val (.int p4), .val (.int p5), .val (.int p6), .val (.ref b1), .val (.int v7_11), .val (.int v8_12), .val (.int m14), .val (.int v10_16), .val (.int m19), .val (.int m21), .val (.int v13_22), .val (.int (1 : Int32)), .val (.int m41)] []))
          refine own_by (fun _ k => XS.iconst X35.here hx rfl (hb hby at_237) k) ?_
          show own_Go _ _ _ _ (T35.setTop (mkF m 238 #[.val (.int p1), .val (.int p2), .val (.int p3), .val (.int p4), .val (.int p5), .val (.int p6), .val (.ref b1), .val (.int v7_11), .val (.int v8_12), .val (.int m14), .val (.int v10_16), .val (.int m19), .val (.int m21), .val (.int v13_22), .val (.int (1 : Int32)), .val (.int m41)] [(.int (1 : Int32))]))
          refine own_by (fun _ k => XS.goto X35.here hx rfl (pc0 := 238) (pc' := 242) rfl (hb hby at_238) (by decide) (by decide) k) ?_
          show own_Go _ _ _ _ (T35.setTop (mkF m 242 #[.val (.int p1), .val (.int p2), .val (.int p3), .val (.int p4), .val (.int p5), .val (.int p6), .val (.ref b1), .val (.int v7_11), .val (.int v8_12), .val (.int m14), .val (.int v10_16), .val (.int m19), .val (.int m21), .val (.int v13_22), .val (.int (1 : Int32)), .val (.int m41)] [(.int (1 : Int32))]))
          exact own_retN X35 hx Bd.notSynchronized e35 Bd.returns (by simp) (hb hby at_242) (⟨rfl, N35⟩) (by decide) (by decide)
set_option maxRecDepth 65536 in
set_option maxHeartbeats 40000000 in
theorem comes_1 {Post : Tables → Env → Array Value → State → Outcome → State → Prop} (hpost : ∀ tb e args s v u, (limb_1_1.after args s (.returned v) u = true ∧ limb_1_2.after args s (.returned v) u = true ∧ True) → FrameEnd s (.returned v) u (Jvm.fieldLocs frame_1_writes args s ++ Jvm.arrayLocs frame_1_arrays args s ++ Jvm.staticLocs frame_1_statics s) 16 128 → Post tb e args s (.returned v) u) :
    ArmFor flags0 classFile x code maxLocals ret World_1 tables_1 room_1 Calls_1 rest_1 Pre_1 Post := by
  intro l hfl _ _ p e ha hc hk s m args below hf hA hF happ hP
  obtain ⟨hcalls, hrest, hpre⟩ := hP
  obtain ⟨-, -, -, hnamed, -, -, -, hat⟩ := (Spec.applies_iff hf).mp happ
  obtain ⟨hg, hn⟩ := and_e (Cond.before_iff.mp (show (Jvm.Cond.and given_1 narrow_1).before args s = true from hpre))
  obtain ⟨g1, g2⟩ := and_e hg
  obtain ⟨g3, g4⟩ := and_e g2
  obtain ⟨g5, g6⟩ := and_e g4
  obtain ⟨g7, g8⟩ := and_e g6
  obtain ⟨g9, g10⟩ := and_e g8
  obtain ⟨g11, g12⟩ := and_e g10
  obtain ⟨w0, w1, w2, w3, w4, w5, rfl⟩ : ∃ w0 w1 w2 w3 w4 w5 : Value, args = #[w0, w1, w2, w3, w4, w5] := by
    have hs : args.size = 6 := by simpa [Cond.value, given_1] using g1
    obtain ⟨L⟩ := args
    match L, hs with
    | [w0, w1, w2, w3, w4, w5], _ => exact ⟨w0, w1, w2, w3, w4, w5, rfl⟩
  have hw := fun d (hd : d ∈ tables_1) => atoms_spec (ws := Jvm.Cond.code x code maxLocals ret :: tables_1) hat d (List.mem_cons_of_mem _ hd)
  have hfit : Fit s := fun {y c} hc i hi => by
    obtain ⟨ha, rfl⟩ := Array.getElem?_eq_some_iff.mp hc
    have q := List.all_eq_true.mp ((Array.all_eq_true_iff_forall_mem.mp hF) _ (Array.getElem_mem ha)) i (List.mem_range.mpr hi)
    simpa [Array.getElem?_eq_getElem hi] using q
  obtain ⟨i0, ei0⟩ := is_v g3
  obtain rfl : w0 = (.int i0) := Option.some.inj ei0
  obtain ⟨i1, ei1⟩ := is_v g5
  obtain rfl : w1 = (.int i1) := Option.some.inj ei1
  obtain ⟨i2, ei2⟩ := is_v g7
  obtain rfl : w2 = (.int i2) := Option.some.inj ei2
  obtain ⟨i3, ei3⟩ := is_v g9
  obtain rfl : w3 = (.int i3) := Option.some.inj ei3
  obtain ⟨i4, ei4⟩ := is_v g11
  obtain rfl : w4 = (.int i4) := Option.some.inj ei4
  obtain ⟨i5, ei5⟩ := is_v g12
  obtain rfl : w5 = (.int i5) := Option.some.inj ei5
  obtain ⟨n, o, h1, h2, h3, _, L, rfl, ⟨rfl, N⟩, hq⟩ := rm0 l s _ hw tables_1 i0 i1 i2 i3 i4 i5 s.heap s.heap.size (Nat.le_refl _) p e ha hc hk s m _ below hf ((Spec.applies_iff_loose hf).mp happ).1 ⟨rfl, State.Warmed39.refl s, rfl⟩ trivial
  refine ⟨n, _, h1, h2, h3, hpost _ _ _ _ _ _ ⟨Cond.after_iff.mpr rfl, Cond.after_iff.mpr (eq_i res_at (Term.int_eval (1)) rfl), trivial⟩ ⟨hq.1, hq.2.1, (hq.2.2.sift fun y hy => Or.inr (N y hy)).mono (by decide) (by decide)⟩⟩
theorem main_1_1 : Claimed_1_1 := comes_1 fun _ _ _ _ _ _ h hF => ⟨h.1, hF⟩
theorem main_1_2 : Claimed_1_2 := comes_1 fun _ _ _ _ _ _ h hF => ⟨h.2.1, hF⟩
end Jvm.Pilot.@@N@@
namespace Jvm.Pilot.@@N@@
open Jvm Jvm.ClassFile Sem Op Lib Jvm.Free Jvm.Stand Jvm.Pilot.@@N@@.Jvm.D
/-! MADE BY PROGRAM (witnessworld.py) out of the Statement's table words and the real class files: 9 classes; the members and pool entries that the words name. The judged class is class 1, her method 1. -/
namespace start1
open Jvm.ClassFile
def u (s : String) : CpInfo := .utf8 (stringToUtf16 s)
/-- a pool by its gaps: so many unusable entries, then the entry; so many at the end -/
def gap : Nat → List CpInfo → List CpInfo
  | 0, r => r
  | n + 1, r => .unusable :: gap n r
def poolList (es : List (Nat × CpInfo)) (last : Nat) : List CpInfo := es.foldr (fun e r => gap e.1 (e.2 :: r)) (gap last [])
def pool (es : List (Nat × CpInfo)) (last : Nat) : Array CpInfo := ⟨poolList es last⟩
def fileOf (pool : Array CpInfo) (this : Nat) (attrs : Array Attribute := #[]) (ms : Array MethodInfo := #[]) (fl : Nat := 33) (sup : Nat := 0) (ifs : Array Nat := #[]) (fds : Array FieldInfo := #[]) : ClassFile where
  minorVersion := 0
  majorVersion := 65
  constantPool := pool
  accessFlags := fl
  thisClass := this
  superClass := sup
  interfaces := ifs
  fields := fds
  methods := ms
  attributes := attrs
def plain (name : String) (sup : Option ClassId) : Class where
  name := name
  kind := .ordinary
  loader := none
  accessFlags := 33
  super := sup
  interfaces := #[]
  cf := none
  fields := #[]
  methods := #[]
  instanceTypes := #[]
  staticTypes := #[]
  resolved := #[]
  callSites := []
  init := .initialized
  statics := none
  mirror := none

def pool0 : Array CpInfo := pool [(5, u "<init>"), (0, u "()V"), (1, .class_ 10), (1, u "java/lang/Object")] 113

def k0m0 : Method := { name := "<init>", desc := "()V", sig := { parameters := [], returnType := none }, accessFlags := 1, code := none }
/-- java/lang/Object -/
def k0 : Class := { plain "java/lang/Object" none with
  accessFlags := 33
  interfaces := #[]
  cf := some (fileOf pool0 8 #[] #[{ accessFlags := 1, nameIndex := 5, descriptorIndex := 6, attributes := #[] }] 33 0 #[] #[])
  fields := #[]
  methods := #[k0m0]
  instanceTypes := #[]
  staticTypes := #[]
  resolved := Array.replicate 124 none
  statics := none }

def pool1 : Array CpInfo := pool [(2, .class_ 4), (1, u "java/lang/Object"), (0, u "<init>"), (0, u "()V"), (0, .methodref 8 9), (0, .class_ 10), (0, .nameAndType 11 12), (0, u "com/example/settleline/settleline/csv/FieldSyntaxIsWholeNumberPinLaw"), (0, u "draw"), (0, u "(I)B"), (0, .methodref 14 15), (0, .class_ 16), (0, .nameAndType 17 18), (0, u "com/example/settleline/settleline/csv/FieldSyntax"), (0, u "isWholeNumber"), (0, u "([BIII)Z"), (0, .methodref 8 20), (0, .nameAndType 21 18), (0, u "okAt"), (2, u "law"), (0, u "(IIIIII)Z")] 5

def k1m0 : Method := { name := "<init>", desc := "()V", sig := { parameters := [], returnType := none }, accessFlags := 2, code := none }
def k1c1 : Code := { maxStack := 4, maxLocals := 16, code := code, exceptionTable := #[], attributes := #[] }
def k1m1 : Method := { name := "law", desc := "(IIIIII)Z", sig := { parameters := [.int, .int, .int, .int, .int, .int], returnType := some .boolean }, accessFlags := 9, code := some k1c1 }
def k1c2 : Code := { maxStack := 2, maxLocals := 4, code := method_3_code, exceptionTable := #[], attributes := #[] }
def k1m2 : Method := { name := "okAt", desc := "([BIII)Z", sig := { parameters := [(.array .byte), .int, .int, .int], returnType := some .boolean }, accessFlags := 10, code := some k1c2 }
def k1c3 : Code := { maxStack := 3, maxLocals := 3, code := method_4_code, exceptionTable := #[], attributes := #[] }
def k1m3 : Method := { name := "draw", desc := "(I)B", sig := { parameters := [.int], returnType := some .byte }, accessFlags := 10, code := some k1c3 }
/-- com/example/settleline/settleline/csv/FieldSyntaxIsWholeNumberPinLaw -/
def k1 : Class := { plain "com/example/settleline/settleline/csv/FieldSyntaxIsWholeNumberPinLaw" (some 0) with
  accessFlags := 49
  interfaces := #[]
  cf := some (fileOf pool1 8 #[] #[{ accessFlags := 2, nameIndex := 5, descriptorIndex := 6, attributes := #[] }, { accessFlags := 9, nameIndex := 24, descriptorIndex := 25, attributes := #[] }, { accessFlags := 10, nameIndex := 21, descriptorIndex := 18, attributes := #[] }, { accessFlags := 10, nameIndex := 11, descriptorIndex := 12, attributes := #[] }] 49 2 #[] #[])
  fields := #[]
  methods := #[k1m0, k1m1, k1m2, k1m3]
  instanceTypes := #[]
  staticTypes := #[]
  resolved := Array.replicate 31 none
  statics := none }

def pool2 : Array CpInfo := pool [(2, .class_ 4), (1, u "java/lang/Object"), (0, u "<init>"), (0, u "()V"), (0, .methodref 8 9), (0, .class_ 10), (0, .nameAndType 11 12), (0, u "com/example/settleline/settleline/csv/FieldSyntax"), (0, u "digitsEnd"), (0, u "([BII)I"), (34, u "TIME_DIGITS"), (0, u "[I"), (41, u "LONG_DIGITS"), (0, u "I"), (2, u "SECONDS_PER_DAY"), (1, u "UTC_TIME_LENGTH"), (1, u "OFFSET_TIME_LENGTH"), (8, u "isWholeNumber"), (0, u "([BIII)Z")] 8

def k2m0 : Method := { name := "<init>", desc := "()V", sig := { parameters := [], returnType := none }, accessFlags := 2, code := none }
def k2c1 : Code := { maxStack := 3, maxLocals := 6, code := prog_12_method_3_code, exceptionTable := #[], attributes := #[] }
def k2m1 : Method := { name := "isWholeNumber", desc := "([BIII)Z", sig := { parameters := [(.array .byte), .int, .int, .int], returnType := some .boolean }, accessFlags := 8, code := some k2c1 }
def k2c2 : Code := { maxStack := 2, maxLocals := 4, code := prog_12_method_7_code, exceptionTable := #[], attributes := #[] }
def k2m2 : Method := { name := "digitsEnd", desc := "([BII)I", sig := { parameters := [(.array .byte), .int, .int], returnType := some .int }, accessFlags := 10, code := some k2c2 }
/-- com/example/settleline/settleline/csv/FieldSyntax -/
def k2 : Class := { plain "com/example/settleline/settleline/csv/FieldSyntax" (some 0) with
  accessFlags := 48
  interfaces := #[]
  cf := some (fileOf pool2 8 #[] #[{ accessFlags := 2, nameIndex := 5, descriptorIndex := 6, attributes := #[] }, { accessFlags := 8, nameIndex := 107, descriptorIndex := 108, attributes := #[] }, { accessFlags := 10, nameIndex := 11, descriptorIndex := 12, attributes := #[] }] 48 2 #[] #[{ accessFlags := 26, nameIndex := 90, descriptorIndex := 91, attributes := #[] }, { accessFlags := 26, nameIndex := 94, descriptorIndex := 91, attributes := #[] }, { accessFlags := 26, nameIndex := 96, descriptorIndex := 91, attributes := #[] }, { accessFlags := 26, nameIndex := 98, descriptorIndex := 91, attributes := #[] }, { accessFlags := 26, nameIndex := 47, descriptorIndex := 48, attributes := #[] }])
  fields := #[{ name := "LONG_DIGITS", type := .int, accessFlags := 26, slot := 0, constantValue := 0 }, { name := "SECONDS_PER_DAY", type := .int, accessFlags := 26, slot := 1, constantValue := 0 }, { name := "UTC_TIME_LENGTH", type := .int, accessFlags := 26, slot := 2, constantValue := 0 }, { name := "OFFSET_TIME_LENGTH", type := .int, accessFlags := 26, slot := 3, constantValue := 0 }, { name := "TIME_DIGITS", type := (.array .int), accessFlags := 26, slot := 4, constantValue := 0 }]
  methods := #[k2m0, k2m1, k2m2]
  instanceTypes := #[]
  staticTypes := #[.int, .int, .int, .int, (.array .int)]
  resolved := Array.replicate 117 none
  statics := none }

def pool3 : Array CpInfo := pool [(1, u "java/lang/Cloneable"), (0, .class_ 1), (0, u "java/lang/Object"), (0, .class_ 3)] 3

/-- java/lang/Cloneable -/
def k3 : Class := { plain "java/lang/Cloneable" (some 0) with
  accessFlags := 1537
  interfaces := #[]
  cf := some (fileOf pool3 2 #[] #[] 1537 4 #[] #[])
  fields := #[]
  methods := #[]
  instanceTypes := #[]
  staticTypes := #[]
  resolved := Array.replicate 8 none
  statics := none }

def pool4 : Array CpInfo := pool [(1, u "java/io/Serializable"), (0, .class_ 1), (0, u "java/lang/Object"), (0, .class_ 3)] 3

/-- java/io/Serializable -/
def k4 : Class := { plain "java/io/Serializable" (some 0) with
  accessFlags := 1537
  interfaces := #[]
  cf := some (fileOf pool4 2 #[] #[] 1537 4 #[] #[])
  fields := #[]
  methods := #[]
  instanceTypes := #[]
  staticTypes := #[]
  resolved := Array.replicate 8 none
  statics := none }

/-- the primitive byte -/
def k5 : Class := { plain "byte" none with kind := .primitive 'B', accessFlags := 0x411 }
/-- [B -/
def k6 : Class := { plain "[B" (some 0) with kind := .array 5 .byte, interfaces := #[3, 4], accessFlags := 1041 }

/-- the primitive int -/
def k7 : Class := { plain "int" none with kind := .primitive 'I', accessFlags := 0x411 }
/-- [I -/
def k8 : Class := { plain "[I" (some 0) with kind := .array 7 .int, interfaces := #[3, 4], accessFlags := 1041 }

def heap : Heap := #[]
def classes : Array Class := #[k0, k1, k2, k3, k4, k5, k6, k7, k8]
def interned : List (Array UInt16 × Addr) := []
def slotsUsed : Nat := 0
def theMethod : MethodId := ⟨1, 1⟩
def args0 : Array Value := #[.int 4, .int 8, .int 5, .int 9, .int 90, .int 3]
def aboutOver (below : List Frame) : State where
  vm := { classes := classes, interned := interned.toArray }
  heap := heap
  slotsUsed := slotsUsed
  threads := #[{ frames := .invoking theMethod args0 :: below }]
def below0 : List Frame := [.native { method := ⟨0, 0⟩, args := #[] }]
def about1 : State := aboutOver below0
def p0 : Program := .bare "" "" ""
def e0 : Env := launch0.env 0 0 0
theorem w_frames : about1.frames = Frame.invoking theMethod args0 :: below0 := rfl
set_option maxRecDepth 65536 in
theorem w_args : argsFit about1.vm theMethod args0 = true := by decide +kernel
set_option maxRecDepth 65536 in
theorem w_heap : heapFits about1 = true := by decide +kernel
set_option maxRecDepth 65536 in
theorem w_runnable : about1.curStatus? = some .runnable := by decide +kernel
set_option maxRecDepth 65536 in
theorem w_alone : about1.alone = true := by decide +kernel
set_option maxRecDepth 65536 in
theorem w_named : about1.methodNamed? x = some theMethod := by decide +kernel
set_option maxRecDepth 65536 in
theorem w_hears : about1.hears theMethod below0 = true := by decide +kernel
set_option maxRecDepth 65536 in
theorem w_ripe : about1.ripe theMethod args0 below0 = true := by decide +kernel
theorem w_running : about1.status = .running := rfl
set_option maxRecDepth 65536 in
theorem w_room : about1.hasRoom e0.platform room_1 = true :=
  launch0.hasRoom_least _ room_1 (by decide +kernel) (by decide +kernel) (by decide +kernel) (by decide +kernel) (by decide +kernel) (by decide +kernel)
theorem allAtoms_all (ts : List Jvm.Cond) (a : Array Jvm.Value) (st : Jvm.State) : (allAtoms ts).before a st = ts.all (fun c => c.before a st) := by
  induction ts with
  | nil => rfl
  | cons c t ih =>
    show (Jvm.Cond.and c (allAtoms t)).before a st = _
    rw [Jvm.Cond.before_and, ih, List.all_cons]
def words1 : List Jvm.Cond := Jvm.Cond.code x code maxLocals ret :: tables_1
/-- a 'code' word, met by the world's own term for the bytes: nothing is compared byte by byte -/
theorem code_word {y : MethodName} {bytes : ByteArray} {mx : Nat} {rt : Option FieldType} {a : Array Value} {s : State} {m : MethodId} {meth : Method} {c : Code} (h1 : s.methodNamed? y = some m) (h2 : s.vm.method? m = some meth) (h3 : meth.code = some c) (h4 : c.code = bytes)
    (h5 : (c.maxLocals == mx && c.exceptionTable.isEmpty && decide (c.maxStack ≤ mostOperands) && decide (meth.sig.returnType = rt) && !meth.locks && decide (parseMethodDescriptor y.desc = some meth.sig)) = true) : (Jvm.Cond.code y bytes mx rt).before a s = true := by
  simp only [Bool.and_eq_true, beq_iff_eq, Bool.not_eq_true', decide_eq_true_eq] at h5
  obtain ⟨⟨⟨⟨⟨g1, g2⟩, g3⟩, g4⟩, g5⟩, g6⟩ := h5
  simp [Cond.before, Cond.holds, Cond.value, h1, h2, h3, h4, g1, g2, g3, g4, g5, g6]
def isCode : Jvm.Cond → Bool
  | .code _ _ _ _ => true
  | _ => false
theorem all_split {L : List Jvm.Cond} {P : Jvm.Cond → Bool} (h1 : L.all (fun c => isCode c || P c) = true) (h2 : ∀ c ∈ L.filter isCode, P c = true) : L.all P = true := by
  refine List.all_eq_true.mpr fun c hc => ?_
  have h := List.all_eq_true.mp h1 c hc
  rcases Bool.eq_false_or_eq_true (isCode c) with hi | hi
  · exact h2 c (List.mem_filter.mpr ⟨hc, hi⟩)
  · simpa [hi] using h
set_option maxRecDepth 65536 in
theorem w_c0 : (Jvm.Cond.code x code maxLocals ret).before args0 about1 = true := code_word (m := ⟨1, 1⟩) (meth := k1m1) (c := k1c1) (by decide +kernel) rfl rfl rfl (by decide +kernel)
set_option maxRecDepth 65536 in
theorem w_c1 : (Jvm.Cond.code ({ cls := "com/example/settleline/settleline/csv/FieldSyntaxIsWholeNumberPinLaw", name := "draw", desc := "(I)B" } : Jvm.MethodName) method_4_code (3 : Nat) (Option.some Jvm.ClassFile.FieldType.byte)).before args0 about1 = true := code_word (m := ⟨1, 3⟩) (meth := k1m3) (c := k1c3) (by decide +kernel) rfl rfl rfl (by decide +kernel)
set_option maxRecDepth 65536 in
theorem w_c2 : (Jvm.Cond.code ({ cls := "com/example/settleline/settleline/csv/FieldSyntax", name := "isWholeNumber", desc := "([BIII)Z" } : Jvm.MethodName) prog_12_method_3_code (6 : Nat) (Option.some Jvm.ClassFile.FieldType.boolean)).before args0 about1 = true := code_word (m := ⟨2, 1⟩) (meth := k2m1) (c := k2c1) (by decide +kernel) rfl rfl rfl (by decide +kernel)
set_option maxRecDepth 65536 in
theorem w_c3 : (Jvm.Cond.code ({ cls := "com/example/settleline/settleline/csv/FieldSyntaxIsWholeNumberPinLaw", name := "okAt", desc := "([BIII)Z" } : Jvm.MethodName) method_3_code (4 : Nat) (Option.some Jvm.ClassFile.FieldType.boolean)).before args0 about1 = true := code_word (m := ⟨1, 2⟩) (meth := k1m2) (c := k1c2) (by decide +kernel) rfl rfl rfl (by decide +kernel)
set_option maxRecDepth 65536 in
theorem w_c4 : (Jvm.Cond.code ({ cls := "com/example/settleline/settleline/csv/FieldSyntax", name := "digitsEnd", desc := "([BII)I" } : Jvm.MethodName) prog_12_method_7_code (4 : Nat) (Option.some Jvm.ClassFile.FieldType.int)).before args0 about1 = true := code_word (m := ⟨2, 2⟩) (meth := k2m2) (c := k2c2) (by decide +kernel) rfl rfl rfl (by decide +kernel)
def codes1 : List Jvm.Cond := [Jvm.Cond.code x code maxLocals ret, Jvm.Cond.code ({ cls := "com/example/settleline/settleline/csv/FieldSyntaxIsWholeNumberPinLaw", name := "draw", desc := "(I)B" } : Jvm.MethodName) method_4_code (3 : Nat) (Option.some Jvm.ClassFile.FieldType.byte), Jvm.Cond.code ({ cls := "com/example/settleline/settleline/csv/FieldSyntax", name := "isWholeNumber", desc := "([BIII)Z" } : Jvm.MethodName) prog_12_method_3_code (6 : Nat) (Option.some Jvm.ClassFile.FieldType.boolean), Jvm.Cond.code ({ cls := "com/example/settleline/settleline/csv/FieldSyntaxIsWholeNumberPinLaw", name := "okAt", desc := "([BIII)Z" } : Jvm.MethodName) method_3_code (4 : Nat) (Option.some Jvm.ClassFile.FieldType.boolean), Jvm.Cond.code ({ cls := "com/example/settleline/settleline/csv/FieldSyntax", name := "digitsEnd", desc := "([BII)I" } : Jvm.MethodName) prog_12_method_7_code (4 : Nat) (Option.some Jvm.ClassFile.FieldType.int)]
set_option maxRecDepth 65536 in
theorem codes_eq : words1.filter isCode = codes1 := rfl
theorem w_codes : ∀ c ∈ words1.filter isCode, c.before args0 about1 = true := by
  rw [codes_eq]
  intro c hc
  simp only [codes1, List.mem_cons, List.not_mem_nil, or_false] at hc
  rcases hc with rfl | rfl | rfl | rfl | rfl
  · exact w_c0
  · exact w_c1
  · exact w_c2
  · exact w_c3
  · exact w_c4
set_option maxRecDepth 65536 in
theorem w_t1 : words1.all (fun c => isCode c || c.before args0 about1) = true := by decide +kernel
theorem w_tables : (allAtoms (Jvm.Cond.code x code maxLocals ret :: tables_1)).before args0 about1 = true := by
  rw [allAtoms_all]
  show words1.all (fun c => c.before args0 about1) = true
  refine all_split ?_ w_codes
  rw [w_t1]
set_option maxRecDepth 65536 in
theorem w_case : (Jvm.Cond.and given_1 narrow_1).before args0 about1 = true := by decide +kernel
theorem w_applies : (headSpec (Jvm.Cond.code x code maxLocals ret :: tables_1) room_1).applies x e0.platform about1 = true :=
  (Spec.applies_iff w_frames).mpr ⟨w_running, w_runnable, w_alone, w_named, w_hears, w_ripe, w_room, w_tables⟩
theorem atStart : AtStart classFile x code maxLocals ret World_1 tables_1 room_1 Calls_1 rest_1 Pre_1 launch0 p0 e0 about1 theMethod args0 below0 :=
  ⟨lists_1, trivial, launch0.admits_env _ _ _, launch0.least_env, fairChoices_fair.cas, fairChoices_fair.clock, w_frames, w_args, w_heap, w_applies, trivial, trivial, w_case⟩
end start1
theorem witness_1 : WitnessClaimed_1 := ⟨start1.p0, start1.e0, start1.about1, start1.theMethod, start1.args0, start1.below0, start1.atStart⟩
end Jvm.Pilot.@@N@@
