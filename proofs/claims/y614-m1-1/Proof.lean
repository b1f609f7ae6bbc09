import JvmDerived
import JvmDerived.Pilot.@@N@@Statement
import JvmDerived.Pilot.@@N@@Code
set_option linter.unusedVariables false
set_option linter.unusedSimpArgs false
namespace Jvm.Pilot.@@N@@
open Jvm Jvm.ClassFile Sem Op Lib Jvm.Free Jvm.Stand Jvm.LawKit Jvm.RoadKit Bundle Jvm.Pilot.@@N@@.Jvm.D
section OwnGo
/-! a run that comes to its end: what a body's walk owes, of any state on the way -/
def own_Go (tb : Tables) (e : Env) (below : List Frame) (Q : Outcome → State → Prop) (U : State) : Prop := ∃ s₂ o, Steps tb e below U s₂ ∧ s₂.status = .running ∧ Ended s₂ below o ∧ Q o s₂
theorem own_by {tb : Tables} {e : Env} {below : List Frame} {Q : Outcome → State → Prop} {U V : State} (h : ∀ t, Steps tb e below V t → Steps tb e below U t) (k : own_Go tb e below Q V) : own_Go tb e below Q U := by
  obtain ⟨s2, o, h1, h2⟩ := k; exact ⟨s2, o, h _ h1, h2⟩
theorem own_tr {tb : Tables} {e : Env} {below : List Frame} {Q : Outcome → State → Prop} {U V : State} (h : Steps tb e below U V) (k : own_Go tb e below Q V) : own_Go tb e below Q U := own_by (fun _ q => h.trans q) k
theorem own_gen {α : Type} {x y : α} (h : x = y) {tb : Tables} {e : Env} {below : List Frame} {Q : Outcome → State → Prop} (F : α → State) (k : own_Go tb e below Q (F y)) : own_Go tb e below Q (F x) := h ▸ k
def own_ap (f : Option Value → Heap → List Loc → Prop) (v : Option Value) (h : Heap) (L : List Loc) : Prop := f v h L
/-- what a body's contract says of its end -/
def own_Q (s : State) (Qh : Option Value → Heap → List Loc → Prop) (C S : Nat) (o : Outcome) (U' : State) : Prop := ∃ v L, o = .returned v ∧ Qh v U'.heap L ∧ FrameEnd s o U' L C S
variable {p : Program} {l : Launch} {e : Env} {R : Room} {s : State} {m : MethodId} {args : Array Value} {below : List Frame} {meth : Method} {c : Code} {T : State} {locs : List Loc} {cells slots : Nat} {Z : State} {h : Heap} {a : Addr} {pc : Nat} {Ls : Array Slot} {rest : List Value} {Qh : Option Value → Heap → List Loc → Prop} {C S : Nat} {Q : Outcome → State → Prop}
theorem own_leave (X : Stand p l e R s m args below meth c T locs cells slots) (hlk : meth.locks = false) {v : Option Value} (hv : meth.sig.returnType = none → v = none) {f : JFrame}
    (hst : ∀ fs, (∀ (f : JFrame) (acts : List Action), f.method = m → f.locked = none → f.entered = [] → (doReturn e (T.setTop f) acts v).1 = T.setFrames fs) → Steps p.tables e below (T.setTop f) (T.setFrames fs))
    (hq : Qh v T.heap locs) (hC : cells ≤ C) (hS : slots ≤ S) : own_Go p.tables e below (own_Q s Qh C S) (T.setTop f) := by
  obtain ⟨fs, hr, hrun, hended, hW, hsame⟩ := X.leave (v := v) hv hlk
  exact ⟨_, _, hst fs hr, hrun, hended, _, _, rfl, hq, ⟨_, rfl⟩, hW, hsame.mono hC hS⟩
theorem own_retI (X : Stand p l e R s m args below meth c T locs cells slots) (hx : p.tables.exec = Jvm.exec) (hlk : meth.locks = false) (eT : T.heap = h) (hret : meth.sig.returnType = some .int) {z : Int32} (hd : decode c.code pc = .ok (.ireturn, 1))
    (hq : Qh (some (.int z)) h locs) (hC : cells ≤ C) (hS : slots ≤ S) : own_Go p.tables e below (own_Q s Qh C S) (T.setTop (mkF m pc Ls (.int z :: rest))) :=
  own_leave X hlk (v := some (.int z)) (fun q => by rw [hret] at q; cases q) (fun fs hr => retOut X hx hret rfl (Or.inl ⟨rfl, Or.inl rfl, z, rfl⟩) hd hr) (eT ▸ hq) hC hS
theorem own_retN (X : Stand p l e R s m args below meth c T locs cells slots) (hx : p.tables.exec = Jvm.exec) (hlk : meth.locks = false) (eT : T.heap = h) {t : FieldType} (hret : meth.sig.returnType = some t) (ht : t = .boolean ∨ t = .byte ∨ t = .char ∨ t = .short) {z : Int32} (hd : decode c.code pc = .ok (.ireturn, 1))
    (hq : Qh (some (.int (nar t z))) h locs) (hC : cells ≤ C) (hS : slots ≤ S) : own_Go p.tables e below (own_Q s Qh C S) (T.setTop (mkF m pc Ls (.int z :: rest))) :=
  own_leave X hlk (v := some (.int (nar t z))) (fun q => by rw [hret] at q; cases q) (fun fs hr => retN X hx hret ht hd hr) (eT ▸ hq) hC hS
theorem own_retJ (X : Stand p l e R s m args below meth c T locs cells slots) (hx : p.tables.exec = Jvm.exec) (hlk : meth.locks = false) (eT : T.heap = h) (hret : meth.sig.returnType = some .long) {z : Int64} (hd : decode c.code pc = .ok (.lreturn, 1))
    (hq : Qh (some (.long z)) h locs) (hC : cells ≤ C) (hS : slots ≤ S) : own_Go p.tables e below (own_Q s Qh C S) (T.setTop (mkF m pc Ls (.long z :: rest))) :=
  own_leave X hlk (v := some (.long z)) (fun q => by rw [hret] at q; cases q) (fun fs hr => retOut X hx hret rfl (Or.inr (Or.inl ⟨rfl, rfl, z, rfl⟩)) hd hr) (eT ▸ hq) hC hS
theorem own_retA (X : Stand p l e R s m args below meth c T locs cells slots) (hx : p.tables.exec = Jvm.exec) (hlk : meth.locks = false) (eT : T.heap = h) {t : FieldType} (hret : meth.sig.returnType = some t) (ht : t.isReference = true) {w : Value} (hn : narrow t w = w) (hw : w.isRef = true) (hd : decode c.code pc = .ok (.areturn, 1))
    (hq : Qh (some w) h locs) (hC : cells ≤ C) (hS : slots ≤ S) : own_Go p.tables e below (own_Q s Qh C S) (T.setTop (mkF m pc Ls (w :: rest))) :=
  own_leave X hlk (v := some w) (fun q => by rw [hret] at q; cases q) (fun fs hr => retOut X hx hret hn (Or.inr (Or.inr (Or.inr (Or.inr ⟨rfl, ht, hw⟩)))) hd hr) (eT ▸ hq) hC hS
theorem own_retV (X : Stand p l e R s m args below meth c T locs cells slots) (hx : p.tables.exec = Jvm.exec) (hlk : meth.locks = false) (eT : T.heap = h) (hret : meth.sig.returnType = none) (hd : decode c.code pc = .ok (.return_, 1))
    (hq : Qh none h locs) (hC : cells ≤ C) (hS : slots ≤ S) : own_Go p.tables e below (own_Q s Qh C S) (T.setTop (mkF m pc Ls [])) :=
  own_leave X hlk (v := none) (fun _ => rfl) (fun fs hr => X.returnOut hx hret hd hr) (eT ▸ hq) hC hS
/-! an array by its places -/
def own_upd {α : Type} (f : Nat → α) (k : Nat) (v : α) : Nat → α := fun j => if j = k then v else f j
theorem own_upd_eq {α : Type} (f : Nat → α) (k : Nat) (v : α) : own_upd f k v k = v := by simp [own_upd]
theorem own_upd_ne {α : Type} (f : Nat → α) {k j : Nat} (v : α) (q : j ≠ k) : own_upd f k v j = f j := by simp [own_upd, q]
def own_Ar (Z : State) (h : Heap) (a : Addr) (ty : FieldType) (n : Nat) (f : Nat → Value) : Prop := ∃ cl : Cell, Arr Z h a cl ty ∧ cl.slots.size = n ∧ ∀ j, j < n → cl.slots[j]? = some (f j)
/-- ints and what is kept as ints -/
abbrev own_AI (Z : State) (h : Heap) (a : Addr) (ty : FieldType) (n : Nat) (f : Nat → Int32) : Prop := own_Ar Z h a ty n (fun j => .int (f j))
abbrev own_AJ (Z : State) (h : Heap) (a : Addr) (n : Nat) (f : Nat → Int64) : Prop := own_Ar Z h a .long n (fun j => .long (f j))
section
variable {h' : Heap} {b : Addr} {ty : FieldType} {n : Nat} {f : Nat → Value} {v : Value} {sl : Nat} {ws : List Addr}
theorem own_Ar.lt (A : own_Ar Z h a ty n f) : a < h.size := by obtain ⟨cl, q, -⟩ := A; exact q.lt
theorem own_Ar.ext (A : own_Ar Z h a ty n f) (E : Ext h h') : own_Ar Z h' a ty n f := by obtain ⟨cl, q, r⟩ := A; exact ⟨cl, q.ext E, r⟩
theorem own_Ar.other (A : own_Ar Z h a ty n f) (W : Wr h h' b sl v) (q : a ≠ b) : own_Ar Z h' a ty n f := by obtain ⟨cl, r, r'⟩ := A; exact ⟨cl, r.other W q, r'⟩
theorem own_Ar.keep (A : own_Ar Z h a ty n f) (K : Keep h h' ws) (q : a ∉ ws) : own_Ar Z h' a ty n f := by obtain ⟨cl, r, r'⟩ := A; exact ⟨cl, ⟨K.2.1 _ _ r.1 q, r.2⟩, r'⟩
theorem own_Ar.congr (A : own_Ar Z h a ty n f) {g : Nat → Value} (q : ∀ j, j < n → f j = g j) : own_Ar Z h a ty n g := by obtain ⟨cl, r, r1, r2⟩ := A; exact ⟨cl, r, r1, fun j hj => by rw [r2 j hj, q j hj]⟩
theorem own_in {j : Int32} {k n : Nat} (hk : j.toInt = (k : Int)) (hn : k < n) {cl : Cell} (S : cl.slots.size = n) : ¬ (j < 0 ∨ cl.slots.size ≤ j.toNatClampNeg) ∧ j.toNatClampNeg = k := by
  have q : j.toNatClampNeg = k := by simp [Int32.toNatClampNeg, hk]
  refine ⟨fun r => ?_, q⟩
  rcases r with r | r
  · rw [Int32.lt_iff_toInt_lt] at r; simp only [Int32.reduceToInt] at r; omega
  · omega
theorem own_Ar.set (A : own_Ar Z h a ty n f) {k : Nat} (hk : k < n) (W : Wr h h' a k v) : own_Ar Z h' a ty n (own_upd f k v) := by
  obtain ⟨cl, r, r1, r2⟩ := A
  refine ⟨_, r.same W, by rw [sz_set]; exact r1, fun j hj => ?_⟩
  show (cl.slots.setIfInBounds k v)[j]? = _
  by_cases q : j = k
  · subst q; simp [own_upd, r1, hj]
  · rw [Array.getElem?_setIfInBounds_ne (fun y => q y.symm), r2 j hj, own_upd_ne _ _ q]
end
theorem own_bal (X : Stand p l e R s m args below meth c T locs cells slots) (hx : p.tables.exec = Jvm.exec) (hZ : Z.Warmed39 s.vm) (eT : T.heap = h) {n : Nat} {f : Nat → Value} (A : own_Ar Z h a .byte n f) {j : Int32} (k : Nat) (hk : j.toInt = (k : Int)) (hn : k < n) (hd : decode c.code pc = .ok (.baload, 1)) {t : State}
    (kt : Steps p.tables e below (T.setTop (mkF m (pc + 1) Ls (f k :: rest))) t) : Steps p.tables e below (T.setTop (mkF m pc Ls (.int j :: .ref a :: rest))) t := by
  obtain ⟨cl, r, r1, r2⟩ := A
  obtain ⟨q1, q2⟩ := own_in hk hn r1
  exact X.baloadBytes hx (j := j) (v := f k) (by rw [eT]; exact r.1) (State.isArrayOf_alike hZ.alike r.2.1) r.2.2 q1 (by rw [q2]; exact r2 k hn) (g := mkF m pc Ls (.int j :: .ref a :: rest)) rfl rfl hd _ kt
theorem own_ial (X : Stand p l e R s m args below meth c T locs cells slots) (hx : p.tables.exec = Jvm.exec) (hZ : Z.Warmed39 s.vm) (eT : T.heap = h) {n : Nat} {f : Nat → Value} (A : own_Ar Z h a .int n f) {j : Int32} (k : Nat) (hk : j.toInt = (k : Int)) (hn : k < n) (hd : decode c.code pc = .ok (.iaload, 1)) {t : State}
    (kt : Steps p.tables e below (T.setTop (mkF m (pc + 1) Ls (f k :: rest))) t) : Steps p.tables e below (T.setTop (mkF m pc Ls (.int j :: .ref a :: rest))) t := by
  obtain ⟨cl, r, r1, r2⟩ := A
  obtain ⟨q1, q2⟩ := own_in hk hn r1
  exact X.iaload hx (j := j) (v := f k) (by rw [eT]; exact r.1) (State.isArrayOf_alike hZ.alike r.2.1) r.2.2 q1 (by rw [q2]; exact r2 k hn) (g := mkF m pc Ls (.int j :: .ref a :: rest)) rfl rfl hd _ kt
theorem own_lal (X : Stand p l e R s m args below meth c T locs cells slots) (hx : p.tables.exec = Jvm.exec) (hZ : Z.Warmed39 s.vm) (eT : T.heap = h) {n : Nat} {f : Nat → Value} (A : own_Ar Z h a .long n f) {j : Int32} (k : Nat) (hk : j.toInt = (k : Int)) (hn : k < n) (hd : decode c.code pc = .ok (.laload, 1)) {t : State}
    (kt : Steps p.tables e below (T.setTop (mkF m (pc + 1) Ls (f k :: rest))) t) : Steps p.tables e below (T.setTop (mkF m pc Ls (.int j :: .ref a :: rest))) t := by
  obtain ⟨cl, r, r1, r2⟩ := A
  obtain ⟨q1, q2⟩ := own_in hk hn r1
  exact X.laload hx (j := j) (v := f k) (by rw [eT]; exact r.1) (State.isArrayOf_alike hZ.alike r.2.1) r.2.2 q1 (by rw [q2]; exact r2 k hn) (g := mkF m pc Ls (.int j :: .ref a :: rest)) rfl rfl hd _ kt
theorem own_len (X : Stand p l e R s m args below meth c T locs cells slots) (hx : p.tables.exec = Jvm.exec) (hZ : Z.Warmed39 s.vm) (eT : T.heap = h) {ty : FieldType} {n : Nat} {f : Nat → Value} (A : own_Ar Z h a ty n f) (z : Int32) (hz : z = n.toInt32) (hd : decode c.code pc = .ok (.arraylength, 1)) {t : State}
    (kt : Steps p.tables e below (T.setTop (mkF m (pc + 1) Ls (.int z :: rest))) t) : Steps p.tables e below (T.setTop (mkF m pc Ls (.ref a :: rest))) t := by
  obtain ⟨cl, r, r1, r2⟩ := A
  refine X.arraylength hx (by rw [eT]; exact r.1) (State.isArrayOf_alike hZ.alike r.2.1) (g := mkF m pc Ls (.ref a :: rest)) rfl rfl hd _ ?_
  rw [r1, ← hz]; exact kt
theorem own_bas (X : Stand p l e R s m args below meth c T locs cells slots) (hx : p.tables.exec = Jvm.exec) (hZ : Z.Warmed39 s.vm) (eT : T.heap = h) {n : Nat} {f : Nat → Int32} (A : own_AI Z h a .byte n f) {j x : Int32} (k : Nat) (hk : j.toInt = (k : Int)) (hn : k < n) (hd : decode c.code pc = .ok (.bastore, 1))
    (K : ∀ T' h', Stand p l e R s m args below meth c T' (locs ++ [⟨a, k⟩]) cells slots → T'.heap = h' → Wr h h' a k (.int (nar .byte x)) → own_AI Z h' a .byte n (own_upd f k (nar .byte x)) → own_Go p.tables e below Q (T'.setTop (mkF m (pc + 1) Ls rest))) :
    own_Go p.tables e below Q (T.setTop (mkF m pc Ls (.int x :: .int j :: .ref a :: rest))) := by
  obtain ⟨cl, r, r1, r2⟩ := id A
  obtain ⟨q1, q2⟩ := own_in hk hn r1
  obtain ⟨T', h', X', e', W, st⟩ := stB X hx hZ eT r (j := j) (x := x) q1 (g := mkF m pc Ls (.int x :: .int j :: .ref a :: rest)) rfl rfl hd
  rw [q2] at X' W
  exact own_by st (K T' h' X' e' W ((A.set hn W).congr fun i hi => by simp only [own_upd]; split <;> rfl))
theorem own_ias (X : Stand p l e R s m args below meth c T locs cells slots) (hx : p.tables.exec = Jvm.exec) (hZ : Z.Warmed39 s.vm) (eT : T.heap = h) {n : Nat} {f : Nat → Int32} (A : own_AI Z h a .int n f) {j x : Int32} (k : Nat) (hk : j.toInt = (k : Int)) (hn : k < n) (hd : decode c.code pc = .ok (.iastore, 1))
    (K : ∀ T' h', Stand p l e R s m args below meth c T' (locs ++ [⟨a, k⟩]) cells slots → T'.heap = h' → Wr h h' a k (.int x) → own_AI Z h' a .int n (own_upd f k x) → own_Go p.tables e below Q (T'.setTop (mkF m (pc + 1) Ls rest))) :
    own_Go p.tables e below Q (T.setTop (mkF m pc Ls (.int x :: .int j :: .ref a :: rest))) := by
  obtain ⟨cl, r, r1, r2⟩ := id A
  obtain ⟨q1, q2⟩ := own_in hk hn r1
  obtain ⟨T', h', X', e', W, st⟩ := stI X hx hZ eT r (j := j) (x := x) q1 (g := mkF m pc Ls (.int x :: .int j :: .ref a :: rest)) rfl rfl hd
  rw [q2] at X' W
  exact own_by st (K T' h' X' e' W ((A.set hn W).congr fun i hi => by simp only [own_upd]; split <;> rfl))
theorem own_las (X : Stand p l e R s m args below meth c T locs cells slots) (hx : p.tables.exec = Jvm.exec) (hZ : Z.Warmed39 s.vm) (eT : T.heap = h) {n : Nat} {f : Nat → Int64} (A : own_AJ Z h a n f) {j : Int32} {x : Int64} (k : Nat) (hk : j.toInt = (k : Int)) (hn : k < n) (hd : decode c.code pc = .ok (.lastore, 1))
    (K : ∀ T' h', Stand p l e R s m args below meth c T' (locs ++ [⟨a, k⟩]) cells slots → T'.heap = h' → Wr h h' a k (.long x) → own_AJ Z h' a n (own_upd f k x) → own_Go p.tables e below Q (T'.setTop (mkF m (pc + 1) Ls rest))) :
    own_Go p.tables e below Q (T.setTop (mkF m pc Ls (.long x :: .int j :: .ref a :: rest))) := by
  obtain ⟨cl, r, r1, r2⟩ := id A
  obtain ⟨q1, q2⟩ := own_in hk hn r1
  obtain ⟨T', h', X', e', W, st⟩ := stJ X hx hZ eT r (j := j) (x := x) q1 (g := mkF m pc Ls (.long x :: .int j :: .ref a :: rest)) rfl rfl hd
  rw [q2] at X' W
  exact own_by st (K T' h' X' e' W ((A.set hn W).congr fun i hi => by simp only [own_upd]; split <;> rfl))
theorem own_newP (X : Stand p l e R s m args below meth c T locs cells slots) (hx : p.tables.exec = Jvm.exec) (hZ : Z.Warmed39 s.vm) {a0 : Array Value} {aty : ArrayType} (w : (Cond.arrayClass (newarray.typeOf aty)).before a0 Z = true) (eT : T.heap = h) {n : Int32} (k : Nat) (hk : n.toInt = (k : Int)) (cap : Nat) (hcap : k ≤ cap) (hb : cap * 8 ≤ 536870912) (hc : cells + 1 ≤ R.cells) (hl : slots + cap ≤ R.slots)
    (hd : decode c.code pc = .ok (.newarray aty, 2))
    (K : ∀ T' h', Stand p l e R s m args below meth c T' locs (cells + 1) (slots + cap) → T'.heap = h' → Ext h h' → own_Ar Z h' h.size (newarray.typeOf aty) k (fun _ => defaultValue (newarray.typeOf aty)) → own_Go p.tables e below Q (T'.setTop (mkF m (pc + 2) Ls (.ref h.size :: rest)))) :
    own_Go p.tables e below Q (T.setTop (mkF m pc Ls (.int n :: rest))) := by
  have q : n.toNatClampNeg = k := by simp [Int32.toNatClampNeg, hk]
  have q0 : ¬ n < 0 := by rw [Int32.lt_iff_toInt_lt]; simp only [Int32.reduceToInt]; omega
  obtain ⟨T', h', kk, X', e', E, A, st⟩ := newP X hx hZ w eT (n := n) (g := mkF m pc Ls (.int n :: rest)) rfl hd rfl q0 (cap := cap) (by rw [q]; exact hcap) hb hc hl
  refine own_by st (K T' h' X' e' E ⟨_, A, by rw [sz_new, q], fun j hj => ?_⟩)
  simp [newA, q, hj]
section
variable {a0 : Array Value} {own : String} {index : Nat} {y : MethodName} {bytes : ByteArray} {maxL : Nat} {ret : Option FieldType} {rm : Room} {as' : Array Value} {Qc : Option Value → Heap → List Loc → Prop} {argsL : List Value} {St : List Value}
/-! calls by contract, with what comes behind -/
theorem own_callS (X : Stand p l e R s m args below meth c T locs cells slots) (hx : p.tables.exec = Jvm.exec) (hZ : Z.Warmed39 s.vm) (hown : s.vm.findClass own = some m.cls)
    (w1 : (Cond.methodLink own index y).before a0 Z = true) (w2 : (Cond.static y).before a0 Z = true) (w3 : (Cond.initialized y.cls).before a0 Z = true) (w4 : (Cond.code y bytes maxL ret).before a0 Z = true) (hy : y.cls ≠ "java/lang/invoke/MethodHandle" ∧ y.cls ≠ "java/lang/invoke/VarHandle")
    (hM : MetFree l y (head1 [Cond.code y bytes maxL ret] rm) (fun a U => a = as' ∧ Z.Warmed39 U.vm ∧ U.heap = h) (fun _ _ _ _ _ => True) (fun _ U o U' => ∃ v L, o = .returned v ∧ Qc v U'.heap L ∧ FrameEnd U o U' L rm.cells rm.slots))
    (eT : T.heap = h) (hsize : Ls.size = c.maxLocals) (argsL rest : List Value) (hst : St = argsL.reverse ++ rest) (hlen : ∀ sig, parseMethodDescriptor y.desc = some sig → argsL.length = sig.parameters.length) (ha : argsL.toArray = as') (W : Nat) (hW : 2 * 0 + (rest.map fun v => v.category).sum ≤ W)
    (hf : rm.frames + 1 ≤ R.frames) (hl : W + (maxL + 11) + rm.locals ≤ R.locals) (hc : cells + rm.cells ≤ R.cells) (hs : slots + rm.slots ≤ R.slots) (hd : decode c.code pc = .ok (.invokestatic index, 3))
    (K : ∀ T' Lc v, Stand p l e R s m args below meth c T' (locs ++ Lc) (cells + rm.cells) (slots + rm.slots) → Qc v T'.heap Lc → own_Go p.tables e below Q (T'.setTop (mkF m (pc + 3) Ls (v.toList ++ rest)))) :
    own_Go p.tables e below Q (T.setTop (mkF m pc Ls St)) := by
  obtain ⟨v, _, ⟨T1, L1, k1, n1⟩, -, X1, ⟨Lc, hQ, l1, y1, z1⟩, st1⟩ := Jvm.LawKit.callS X hx (y := y) hown (mvT hZ w1) (mvT hZ w2) (mvT hZ w3) (mvT hZ w4) hy (backOf (W := W) hM hZ w4 w3 hf hl) (g := mkF m pc Ls St) rfl hsize (argsL := argsL) (rest := rest) hlen hst hW hd (fun _ _ => ⟨ha, eT, hc, hs⟩)
  dsimp only [Pt.U, Pt.locs, Pt.cells, Pt.slots] at X1 l1 y1 z1 st1 hQ
  subst l1 y1 z1
  exact own_by st1 (K T1 Lc v X1 hQ)
theorem own_callI (X : Stand p l e R s m args below meth c T locs cells slots) (hx : p.tables.exec = Jvm.exec) (hZ : Z.Warmed39 s.vm) (hown : s.vm.findClass own = some m.cls) (hy1 : y.name = "<init>")
    (w1 : (Cond.methodLink own index y).before a0 Z = true) (w2 : (Cond.instanceMethod y).before a0 Z = true) (w3 : (Cond.initialized y.cls).before a0 Z = true) (w4 : (Cond.code y bytes maxL none).before a0 Z = true) (hy : y.cls ≠ "java/lang/invoke/MethodHandle" ∧ y.cls ≠ "java/lang/invoke/VarHandle")
    (hM : MetFree l y (head1 [Cond.code y bytes maxL none] rm) (fun a U => a = as' ∧ Z.Warmed39 U.vm ∧ U.heap = h) (fun _ _ _ _ _ => True) (fun _ U o U' => ∃ v L, o = .returned v ∧ Qc v U'.heap L ∧ FrameEnd U o U' L rm.cells rm.slots))
    (eT : T.heap = h) (hsize : Ls.size = c.maxLocals) (b : Addr) (argsL rest : List Value) (hst : St = argsL.reverse ++ .ref b :: rest) (hlen : ∀ sig, parseMethodDescriptor y.desc = some sig → argsL.length = sig.parameters.length) (ha : (Value.ref b :: argsL).toArray = as') (W : Nat) (hW : 2 * 0 + (rest.map fun v => v.category).sum ≤ W)
    (hf : rm.frames + 1 ≤ R.frames) (hl : W + (maxL + 11) + rm.locals ≤ R.locals) (hc : cells + rm.cells ≤ R.cells) (hs : slots + rm.slots ≤ R.slots) (hd : decode c.code pc = .ok (.invokespecial index, 3))
    (K : ∀ T' Lc v, Stand p l e R s m args below meth c T' (locs ++ Lc) (cells + rm.cells) (slots + rm.slots) → Qc v T'.heap Lc → own_Go p.tables e below Q (T'.setTop (mkF m (pc + 3) Ls (v.toList ++ rest)))) :
    own_Go p.tables e below Q (T.setTop (mkF m pc Ls St)) := by
  obtain ⟨v, _, ⟨T1, L1, k1, n1⟩, -, X1, ⟨Lc, hQ, l1, y1, z1⟩, st1⟩ := X.specialBack hx (y := y) hy1 hown (mvT hZ w1) (mvT hZ w2) (mvT hZ w4) hy (backOf (W := W) hM hZ w4 w3 hf hl) (g := mkF m pc Ls St) rfl hsize (Steps.refl _) (a := b) (argsL := argsL) (rest := rest) hlen hst hW hd (fun _ _ => ⟨ha, eT, hc, hs⟩)
  dsimp only [Pt.U, Pt.locs, Pt.cells, Pt.slots] at X1 l1 y1 z1 st1 hQ
  subst l1 y1 z1
  exact own_tr st1 (K T1 Lc v X1 hQ)
theorem own_callV {C : String} {z : MethodName} (X : Stand p l e R s m args below meth c T locs cells slots) (hx : p.tables.exec = Jvm.exec) (hZ : Z.Warmed39 s.vm) (hown : s.vm.findClass own = some m.cls)
    (w1 : (Cond.methodLink own index y).before a0 Z = true) (w2 : (Cond.declares y).before a0 Z = true) (hnf : NotFace s y) (w5 : (Cond.selects C y z).before a0 Z = true) (w6 : (Cond.instanceMethod z).before a0 Z = true) (w3 : (Cond.initialized z.cls).before a0 Z = true) (w4 : (Cond.code z bytes maxL ret).before a0 Z = true) (hy : y.cls ≠ "java/lang/invoke/MethodHandle" ∧ y.cls ≠ "java/lang/invoke/VarHandle")
    (hM : MetFree l z (head1 [Cond.code z bytes maxL ret] rm) (fun a U => a = as' ∧ Z.Warmed39 U.vm ∧ U.heap = h) (fun _ _ _ _ _ => True) (fun _ U o U' => ∃ v L, o = .returned v ∧ Qc v U'.heap L ∧ FrameEnd U o U' L rm.cells rm.slots))
    (eT : T.heap = h) (b : Addr) (E : Exa Z h b C) (hsize : Ls.size = c.maxLocals) (argsL rest : List Value) (hst : St = argsL.reverse ++ .ref b :: rest) (hlen : ∀ sig, parseMethodDescriptor y.desc = some sig → argsL.length = sig.parameters.length) (ha : (Value.ref b :: argsL).toArray = as') (W : Nat) (hW : 2 * 0 + (rest.map fun v => v.category).sum ≤ W)
    (hf : rm.frames + 1 ≤ R.frames) (hl : W + (maxL + 11) + rm.locals ≤ R.locals) (hc : cells + rm.cells ≤ R.cells) (hs : slots + rm.slots ≤ R.slots) (hd : decode c.code pc = .ok (.invokevirtual index, 3))
    (K : ∀ T' Lc v, Stand p l e R s m args below meth c T' (locs ++ Lc) (cells + rm.cells) (slots + rm.slots) → Qc v T'.heap Lc → own_Go p.tables e below Q (T'.setTop (mkF m (pc + 3) Ls (v.toList ++ rest)))) :
    own_Go p.tables e below Q (T.setTop (mkF m pc Ls St)) := by
  obtain ⟨cq, kq, qa, qb, qc⟩ := isOf hZ eT E
  obtain ⟨v, _, ⟨T1, L1, k1, n1⟩, -, X1, ⟨Lc, hQ, l1, y1, z1⟩, st1⟩ := X.virtualBack hx (y := y) (z := z) hown (mvT hZ w1) (mvT hZ w2) hnf (mvT hZ w5) (mvT hZ w6) hy (backOf (W := W) hM hZ w4 w3 hf hl) qa qc (g := mkF m pc Ls St) rfl hsize (Steps.refl _) (argsL := argsL) (rest := rest) hlen hst hW hd (fun _ _ => ⟨ha, eT, hc, hs⟩)
  dsimp only [Pt.U, Pt.locs, Pt.cells, Pt.slots] at X1 l1 y1 z1 st1 hQ
  subst l1 y1 z1
  exact own_tr st1 (K T1 Lc v X1 hQ)
theorem own_selp {s : State} {aa : Array Value} {y y' : MethodName} (hc : y.cls = y'.cls) (w1 : (Cond.selects y'.cls y' y').before aa s = true) (hpriv : s.PrivateAt y) (hinst : (Cond.instanceMethod y).before aa s = true) (hy : y.cls ≠ "java/lang/invoke/MethodHandle" ∧ y.cls ≠ "java/lang/invoke/VarHandle") : (Cond.selects y.cls y y).before aa s = true := by
  obtain ⟨c2, r2, m2, q0, -, q3, -, kP, hkP, hkPi⟩ := Cond.selects_spec w1
  have h1 : s.vm.findClass y'.cls = some m2.cls := findClass_of_methodNamed q3
  exact selects_self_of_private (by rw [hc]; exact h1) hkP hkPi hpriv hinst hy
theorem own_callP {y' : MethodName} (X : Stand p l e R s m args below meth c T locs cells slots) (hx : p.tables.exec = Jvm.exec) (hZ : Z.Warmed39 s.vm) (hown : s.vm.findClass own = some m.cls)
    (w1 : (Cond.methodLink own index y).before a0 Z = true) (w2 : (Cond.instanceMethod y).before a0 Z = true) (w5 : (Cond.privateMethod y).before a0 Z = true) (hcc : y.cls = y'.cls) (w6 : (Cond.selects y'.cls y' y').before a0 Z = true) (w3 : (Cond.initialized y.cls).before a0 Z = true) (w4 : (Cond.code y bytes maxL ret).before a0 Z = true) (hy : y.cls ≠ "java/lang/invoke/MethodHandle" ∧ y.cls ≠ "java/lang/invoke/VarHandle")
    (hM : MetFree l y (head1 [Cond.code y bytes maxL ret] rm) (fun a U => a = as' ∧ Z.Warmed39 U.vm ∧ U.heap = h) (fun _ _ _ _ _ => True) (fun _ U o U' => ∃ v L, o = .returned v ∧ Qc v U'.heap L ∧ FrameEnd U o U' L rm.cells rm.slots))
    (eT : T.heap = h) (b : Addr) {C : String} (E : Exa Z h b C) (hsize : Ls.size = c.maxLocals) (argsL rest : List Value) (hst : St = argsL.reverse ++ .ref b :: rest) (hlen : ∀ sig, parseMethodDescriptor y.desc = some sig → argsL.length = sig.parameters.length) (ha : (Value.ref b :: argsL).toArray = as') (W : Nat) (hW : 2 * 0 + (rest.map fun v => v.category).sum ≤ W)
    (hf : rm.frames + 1 ≤ R.frames) (hl : W + (maxL + 11) + rm.locals ≤ R.locals) (hc : cells + rm.cells ≤ R.cells) (hs : slots + rm.slots ≤ R.slots) (hd : decode c.code pc = .ok (.invokevirtual index, 3))
    (K : ∀ T' Lc v, Stand p l e R s m args below meth c T' (locs ++ Lc) (cells + rm.cells) (slots + rm.slots) → Qc v T'.heap Lc → own_Go p.tables e below Q (T'.setTop (mkF m (pc + 3) Ls (v.toList ++ rest)))) :
    own_Go p.tables e below Q (T.setTop (mkF m pc Ls St)) := by
  obtain ⟨cq, q1, q2⟩ := E.cell
  have hpr := Cond.privateMethod_at (mvP hZ w5 (args := #[]))
  obtain ⟨v, _, ⟨T1, L1, k1, n1⟩, -, X1, ⟨Lc, hQ, l1, y1, z1⟩, st1⟩ := X.privateBack hx (y := y) hown (mvT hZ w1) (mvT hZ w2) (own_selp hcc (mvT hZ w6) hpr (mvT hZ w2) hy) hpr (mvT hZ w4) hy (backOf (W := W) hM hZ w4 w3 hf hl) (g := mkF m pc Ls St) rfl hsize (Steps.refl _) (a := b) (by rw [eT]; exact q1) q2 (argsL := argsL) (rest := rest) hlen hst hW hd (fun _ _ => ⟨ha, eT, hc, hs⟩)
  dsimp only [Pt.U, Pt.locs, Pt.cells, Pt.slots] at X1 l1 y1 z1 st1 hQ
  subst l1 y1 z1
  exact own_tr st1 (K T1 Lc v X1 hQ)
end
theorem own_size_wr {h h' : Heap} {b : Addr} {sl : Nat} {v : Value} {n0 : Nat} (W : Wr h h' b sl v) (q : n0 ≤ h.size) : n0 ≤ h'.size := by rw [W.size]; exact q
end OwnGo
theorem own_inc {i j : Int32} {e : Nat} (h : i.toInt = (e : Int)) (he : e ≤ 100) (hj : i + (1 : Int32) = j) : j.toInt = ((e + 1 : Nat) : Int) := by
  have c := c_iadd i 1
  have l : (1 : Int32).toInt = 1 := by decide
  have r2 := rng32 j
  rw [hj, l] at c
  omega
theorem own_addk {i x : Int32} {e k : Nat} (h : i.toInt = (e : Int)) (he : e ≤ 100) (hx : x.toInt = (k : Int)) (hk : k ≤ 100) : (i + x).toInt = ((e + k : Nat) : Int) := by
  have c := c_iadd i x
  have r2 := rng32 (i + x)
  omega
def own_dg (m p : Int64) : Int32 := nar .byte (((48 : Int64) + ((m / p) - ((m / p) / (10 : Int64)) * (10 : Int64))).toInt32.toInt8.toInt32)
theorem own_dgv (m p : Int64) (M P : Nat) (hm : m.toInt = (M : Int)) (hp : p.toInt = (P : Int)) (hP : 0 < P) : (own_dg m p).toInt = ((48 + (M / P) % 10 : Nat) : Int) := by
  have hp1 : p ≠ -1 := fun e => by
    have l1 : (-1 : Int64).toInt = -1 := by decide
    rw [e, l1] at hp; omega
  have l10 : (10 : Int64).toInt = 10 := by decide
  have l48 : (48 : Int64).toInt = 48 := by decide
  have d1 := (c_ldiv m p P hp hp1).1 (by omega)
  have e1 : (m / p).toInt = ((M / P : Nat) : Int) := by rw [d1, hm]; rfl
  clear d1
  generalize M / P = w at *
  have d2 := (c_lrem (m / p) 10 10 l10).1 (by omega)
  have d3 := c_ladd 48 ((m / p) - ((m / p) / (10 : Int64)) * (10 : Int64))
  have r3 := rng64 ((48 : Int64) + ((m / p) - ((m / p) / (10 : Int64)) * (10 : Int64)))
  have d4 := c_l2i ((48 : Int64) + ((m / p) - ((m / p) / (10 : Int64)) * (10 : Int64)))
  have r4 := rng32 (((48 : Int64) + ((m / p) - ((m / p) / (10 : Int64)) * (10 : Int64))).toInt32)
  have d5 := c_i2b (((48 : Int64) + ((m / p) - ((m / p) / (10 : Int64)) * (10 : Int64))).toInt32)
  have e5 : own_dg m p = ((48 : Int64) + ((m / p) - ((m / p) / (10 : Int64)) * (10 : Int64))).toInt32.toInt8.toInt32 := by simp only [own_dg, nar, Int8.toInt8_toInt32]
  rw [e5]
  rw [l48, d2, e1] at d3
  omega
/-- the loop of wholeNumber: r places from i on -/
def own_val (f : Nat → Int32) : Nat → Nat → Int64 → Int64
  | 0, _, acc => acc
  | r + 1, i, acc => own_val f r (i + 1) (acc * (10 : Int64) + (f i - (48 : Int32)).toInt64)
def own_wn (f : Nat → Int32) (F E : Nat) : Int64 := if f F = (45 : Int32) then -(own_val f (E - (F + 1)) (F + 1) 0) else own_val f (E - F) F 0
theorem own_valV (f : Nat → Int32) (S M : Nat) (hM : M < 1000000000000000000) (hf : ∀ i, i < 18 → (f (S + i)).toInt = ((48 + (M / 10 ^ (17 - i)) % 10 : Nat) : Int)) :
    ∀ (r i : Nat) (acc : Int64), i + r ≤ 18 → acc.toInt = ((M / 10 ^ (18 - i) : Nat) : Int) → (own_val f r (S + i) acc).toInt = ((M / 10 ^ (18 - (i + r)) : Nat) : Int)
  | 0, i, acc, h, ha => ha
  | r + 1, i, acc, h, ha => by
    rw [own_val]
    have q : M / 10 ^ (18 - i) = (M / 10 ^ (17 - i)) / 10 := by rw [Nat.div_div_eq_div_mul, ← Nat.pow_succ]; congr 2; omega
    have hle : M / 10 ^ (17 - i) ≤ M := Nat.div_le_self _ _
    have c1 := c_lmul acc 10
    have l10 : (10 : Int64).toInt = 10 := by decide
    have l48 : (48 : Int32).toInt = 48 := by decide
    have c2 := c_isub (f (S + i)) 48
    have c3 := c_i2l (f (S + i) - 48)
    have c4 := c_ladd (acc * (10 : Int64)) ((f (S + i) - (48 : Int32)).toInt64)
    have r1 := rng64 (acc * 10)
    have r2 := rng32 (f (S + i) - 48)
    have r4 := rng64 (acc * (10 : Int64) + (f (S + i) - (48 : Int32)).toInt64)
    have hi := hf i (by omega)
    rw [l10, ha, q] at c1
    rw [l48, hi] at c2
    rw [c3] at c4
    have e : (acc * (10 : Int64) + (f (S + i) - (48 : Int32)).toInt64).toInt = ((M / 10 ^ (18 - (i + 1)) : Nat) : Int) := by
      rw [show 18 - (i + 1) = 17 - i by omega]
      generalize M / 10 ^ (17 - i) = w at *
      omega
    have ih := own_valV f S M hM hf r (i + 1) _ (by omega) e
    rw [show S + i + 1 = S + (i + 1) by omega, ih, show i + 1 + r = i + (r + 1) by omega]
theorem own_m (v m : Int64) (h : ((v &&& (9223372036854775807 : Int64)) - ((v &&& (9223372036854775807 : Int64)) / (1000000000000000000 : Int64)) * (1000000000000000000 : Int64)) = m) : ∃ M : Nat, M < 1000000000000000000 ∧ m.toInt = (M : Int) := by
  have c1 := c_maskL v 9223372036854775807 63 (by decide) (by decide)
  have l : (1000000000000000000 : Int64).toInt = 1000000000000000000 := by decide
  have c2 := (c_lrem (v &&& 9223372036854775807) 1000000000000000000 1000000000000000000 l).1 (by omega)
  rw [h] at c2
  exact ⟨m.toInt.toNat, by omega, by omega⟩
theorem own_from (x v : Int32) (h : x &&& (3 : Int32) = v) : ∃ F : Nat, F ≤ 3 ∧ v.toInt = (F : Int) := by
  have c1 := c_and x 3 (by decide)
  have l : (3 : Int32).toInt = 3 := by decide
  rw [h, l] at c1
  exact ⟨v.toInt.toNat, by omega, by omega⟩
theorem own_n (x v : Int32) (h : (1 : Int32) + (((x.toUInt32 >>> ((3 : Int32) &&& 31).toUInt32).toInt32) % (18 : Int32)) = v) : ∃ n : Nat, 1 ≤ n ∧ n ≤ 18 ∧ v.toInt = (n : Int) := by
  have c1 := c_iushr x 3 3 (by decide) (by decide)
  have l18 : (18 : Int32).toInt = 18 := by decide
  have l1 : (1 : Int32).toInt = 1 := by decide
  have c2 := c_iremV ((x.toUInt32 >>> ((3 : Int32) &&& 31).toUInt32).toInt32) 18
  rw [l18] at c2
  have c3 := c2.1 (by omega) (by omega)
  have c4 := c_iadd 1 (((x.toUInt32 >>> ((3 : Int32) &&& 31).toUInt32).toInt32) % (18 : Int32))
  have r := rng32 v
  rw [h, l1] at c4
  exact ⟨v.toInt.toNat, by omega, by omega, by omega⟩
theorem own_ix (v : Int32) (n : Nat) (hn : 1 ≤ n) (hn' : n ≤ 18) (h : v.toInt = (n : Int)) : ((18 : Int32) - v).toInt = ((18 - n : Nat) : Int) := by
  have c := c_isub 18 v
  have l18 : (18 : Int32).toInt = 18 := by decide
  have r := rng32 (18 - v)
  omega
theorem own_mag (m p : Int64) (M k : Nat) (hm : m.toInt = (M : Int)) (hp : p.toInt = ((10 ^ k : Nat) : Int)) : (m / p).toInt = ((M / 10 ^ k : Nat) : Int) := by
  have hp1 : p ≠ -1 := fun e => by
    have l1 : (-1 : Int64).toInt = -1 := by decide
    have l2 := Int.natCast_nonneg (10 ^ k)
    rw [e, l1] at hp; omega
  rw [(c_ldiv m p _ hp hp1).1 (by omega), hm]; rfl
theorem own_pos (f : Nat → Int32) (F n M : Nat) (m p v : Int64) (hM : M < 1000000000000000000) (hm : m.toInt = (M : Int)) (hn : n ≤ 18) (hp : p.toInt = ((10 ^ (18 - n) : Nat) : Int)) (hv : m / p = v) (hf : ∀ i, i < 18 → (f (F + i)).toInt = ((48 + (M / 10 ^ (17 - i)) % 10 : Nat) : Int)) : own_wn f F (F + n) = v := by
  have h0 := hf 0 (by omega)
  have e0 : ¬ f F = 45 := fun e => by
    rw [show F + 0 = F from rfl, e] at h0
    have : (45 : Int32).toInt = 45 := by decide
    omega
  rw [own_wn, if_neg e0]
  have q := own_valV f F M hM hf n 0 0 (by omega) (by rw [Nat.div_eq_of_lt (by simpa using hM)]; decide)
  apply Int64.toInt_inj.mp
  rw [← hv, own_mag m p M (18 - n) hm hp, show F + n - F = n by omega]
  simpa using q
theorem own_neg (f : Nat → Int32) (F n M : Nat) (m p v w : Int64) (hM : M < 1000000000000000000) (hm : m.toInt = (M : Int)) (hn : n ≤ 18) (hp : p.toInt = ((10 ^ (18 - n) : Nat) : Int)) (hv : m / p = v) (hw : -v = w) (h45 : f F = 45) (hf : ∀ i, i < 18 → (f (F + 1 + i)).toInt = ((48 + (M / 10 ^ (17 - i)) % 10 : Nat) : Int)) : own_wn f F (F + 1 + n) = w := by
  rw [own_wn, if_pos h45]
  have q := own_valV f (F + 1) M hM hf n 0 0 (by omega) (by rw [Nat.div_eq_of_lt (by simpa using hM)]; decide)
  have e : own_val f (F + 1 + n - (F + 1)) (F + 1) 0 = v := by
    apply Int64.toInt_inj.mp
    rw [← hv, own_mag m p M (18 - n) hm hp, show F + 1 + n - (F + 1) = n by omega]
    simpa using q
  rw [e]; exact hw
theorem own_pd0 : parseMethodDescriptor "(JJ)B" = some ⟨[.long, .long], some .byte⟩ := by decide +kernel
theorem own_pd1 : parseMethodDescriptor "([BII)J" = some ⟨[(.array .byte), .int, .int], some .long⟩ := by decide +kernel
theorem d1_0 : decode method_3_code 0 = .ok (.ldc2_w 59, 3) := by decide +kernel
theorem d1_3 : decode method_3_code 3 = .ok (.lload_n 0, 1) := by decide +kernel
theorem d1_4 : decode method_3_code 4 = .ok (.lload_n 2, 1) := by decide +kernel
theorem d1_5 : decode method_3_code 5 = .ok (.ldiv, 1) := by decide +kernel
theorem d1_6 : decode method_3_code 6 = .ok (.ldc2_w 7, 3) := by decide +kernel
theorem d1_9 : decode method_3_code 9 = .ok (.lrem, 1) := by decide +kernel
theorem d1_10 : decode method_3_code 10 = .ok (.ladd, 1) := by decide +kernel
theorem d1_11 : decode method_3_code 11 = .ok (.l2i, 1) := by decide +kernel
theorem d1_12 : decode method_3_code 12 = .ok (.i2b, 1) := by decide +kernel
theorem d1_13 : decode method_3_code 13 = .ok (.ireturn, 1) := by decide +kernel
theorem pn_1 : plainName "com/example/settleline/settleline/csv/FieldSyntaxWholeNumberPinLaw" = true := by first | (simp [plainName, overriddenIn]; done) | decide +kernel
theorem d2_0 : decode prog_12_method_4_code 0 = .ok (.aload_n 0, 1) := by decide +kernel
theorem d2_1 : decode prog_12_method_4_code 1 = .ok (.iload_n 1, 1) := by decide +kernel
theorem d2_2 : decode prog_12_method_4_code 2 = .ok (.baload, 1) := by decide +kernel
theorem d2_3 : decode prog_12_method_4_code 3 = .ok (.bipush 45, 2) := by decide +kernel
theorem d2_5 : decode prog_12_method_4_code 5 = .ok (.if_icmp .ne 7, 3) := by decide +kernel
theorem d2_8 : decode prog_12_method_4_code 8 = .ok (.iconst 1, 1) := by decide +kernel
theorem d2_9 : decode prog_12_method_4_code 9 = .ok (.goto 4, 3) := by decide +kernel
theorem d2_12 : decode prog_12_method_4_code 12 = .ok (.iconst 0, 1) := by decide +kernel
theorem d2_13 : decode prog_12_method_4_code 13 = .ok (.istore_n 3, 1) := by decide +kernel
theorem d2_14 : decode prog_12_method_4_code 14 = .ok (.lconst 0, 1) := by decide +kernel
theorem d2_15 : decode prog_12_method_4_code 15 = .ok (.lstore 4, 2) := by decide +kernel
theorem d2_17 : decode prog_12_method_4_code 17 = .ok (.iload_n 3, 1) := by decide +kernel
theorem d2_18 : decode prog_12_method_4_code 18 = .ok (.ifCond .eq 9, 3) := by decide +kernel
theorem d2_21 : decode prog_12_method_4_code 21 = .ok (.iload_n 1, 1) := by decide +kernel
theorem d2_22 : decode prog_12_method_4_code 22 = .ok (.iconst 1, 1) := by decide +kernel
theorem d2_23 : decode prog_12_method_4_code 23 = .ok (.iadd, 1) := by decide +kernel
theorem d2_24 : decode prog_12_method_4_code 24 = .ok (.goto 4, 3) := by decide +kernel
theorem d2_27 : decode prog_12_method_4_code 27 = .ok (.iload_n 1, 1) := by decide +kernel
theorem d2_28 : decode prog_12_method_4_code 28 = .ok (.istore 6, 2) := by decide +kernel
theorem d2_30 : decode prog_12_method_4_code 30 = .ok (.iload 6, 2) := by decide +kernel
theorem d2_32 : decode prog_12_method_4_code 32 = .ok (.iload_n 2, 1) := by decide +kernel
theorem d2_33 : decode prog_12_method_4_code 33 = .ok (.if_icmp .ge 26, 3) := by decide +kernel
theorem d2_36 : decode prog_12_method_4_code 36 = .ok (.lload 4, 2) := by decide +kernel
theorem d2_38 : decode prog_12_method_4_code 38 = .ok (.ldc2_w 39, 3) := by decide +kernel
theorem d2_41 : decode prog_12_method_4_code 41 = .ok (.lmul, 1) := by decide +kernel
theorem d2_42 : decode prog_12_method_4_code 42 = .ok (.aload_n 0, 1) := by decide +kernel
theorem d2_43 : decode prog_12_method_4_code 43 = .ok (.iload 6, 2) := by decide +kernel
theorem d2_45 : decode prog_12_method_4_code 45 = .ok (.baload, 1) := by decide +kernel
theorem d2_46 : decode prog_12_method_4_code 46 = .ok (.bipush 48, 2) := by decide +kernel
theorem d2_48 : decode prog_12_method_4_code 48 = .ok (.isub, 1) := by decide +kernel
theorem d2_49 : decode prog_12_method_4_code 49 = .ok (.i2l, 1) := by decide +kernel
theorem d2_50 : decode prog_12_method_4_code 50 = .ok (.ladd, 1) := by decide +kernel
theorem d2_51 : decode prog_12_method_4_code 51 = .ok (.lstore 4, 2) := by decide +kernel
theorem d2_53 : decode prog_12_method_4_code 53 = .ok (.iinc 6 1, 3) := by decide +kernel
theorem d2_56 : decode prog_12_method_4_code 56 = .ok (.goto (-26), 3) := by decide +kernel
theorem d2_59 : decode prog_12_method_4_code 59 = .ok (.iload_n 3, 1) := by decide +kernel
theorem d2_60 : decode prog_12_method_4_code 60 = .ok (.ifCond .eq 9, 3) := by decide +kernel
theorem d2_63 : decode prog_12_method_4_code 63 = .ok (.lload 4, 2) := by decide +kernel
theorem d2_65 : decode prog_12_method_4_code 65 = .ok (.lneg, 1) := by decide +kernel
theorem d2_66 : decode prog_12_method_4_code 66 = .ok (.goto 5, 3) := by decide +kernel
theorem d2_69 : decode prog_12_method_4_code 69 = .ok (.lload 4, 2) := by decide +kernel
theorem d2_71 : decode prog_12_method_4_code 71 = .ok (.lreturn, 1) := by decide +kernel
theorem pn_2 : plainName "com/example/settleline/settleline/csv/FieldSyntax" = true := by first | (simp [plainName, overriddenIn]; done) | decide +kernel
theorem pn_0 : plainName "com/example/settleline/settleline/csv/FieldSyntaxWholeNumberPinLaw" = true := by first | (simp [plainName, overriddenIn]; done) | decide +kernel
def own_pw : Nat → Int64 := (own_upd (own_upd (own_upd (own_upd (own_upd (own_upd (own_upd (own_upd (own_upd (own_upd (own_upd (own_upd (own_upd (own_upd (own_upd (own_upd (own_upd (own_upd (fun _ => 0) 0 (1 : Int64)) 1 (10 : Int64)) 2 (100 : Int64)) 3 (1000 : Int64)) 4 (10000 : Int64)) 5 (100000 : Int64)) 6 (1000000 : Int64)) 7 (10000000 : Int64)) 8 (100000000 : Int64)) 9 (1000000000 : Int64)) 10 (10000000000 : Int64)) 11 (100000000000 : Int64)) 12 (1000000000000 : Int64)) 13 (10000000000000 : Int64)) 14 (100000000000000 : Int64)) 15 (1000000000000000 : Int64)) 16 (10000000000000000 : Int64)) 17 (100000000000000000 : Int64))
theorem own_pwv (k : Nat) (h : k < 18) : (own_pw k).toInt = ((10 ^ k : Nat) : Int) := by
  have hk : k = 0 ∨ k = 1 ∨ k = 2 ∨ k = 3 ∨ k = 4 ∨ k = 5 ∨ k = 6 ∨ k = 7 ∨ k = 8 ∨ k = 9 ∨ k = 10 ∨ k = 11 ∨ k = 12 ∨ k = 13 ∨ k = 14 ∨ k = 15 ∨ k = 16 ∨ k = 17 := by omega
  rcases hk with rfl | rfl | rfl | rfl | rfl | rfl | rfl | rfl | rfl | rfl | rfl | rfl | rfl | rfl | rfl | rfl | rfl | rfl <;> decide +kernel
theorem own_pwz (k : Nat) (h : k < 18) : own_pw k ≠ 0 := fun e => by
  have q := own_pwv k h
  have := Nat.pow_pos (n := k) (show 0 < 10 by decide)
  rw [e, show (0 : Int64).toInt = 0 by decide] at q
  omega
theorem own_nardg (m p : Int64) : nar .byte (own_dg m p) = own_dg m p := by simp only [own_dg, nar, Int8.toInt8_toInt32]
set_option maxRecDepth 65536 in
set_option maxHeartbeats 40000000 in
theorem rm1 (l : Launch) (Z : State) (a0 : Array Value) (hw : ∀ d ∈ tables_1, d.before a0 Z = true) (ws : List Jvm.Cond) (q1 : Int64) (q2 : Int64)  (h0 : Heap) (n0 : Nat) (Z0 : n0 ≤ h0.size) (hz : q2 ≠ 0) :
    MetFree l (⟨"com/example/settleline/settleline/csv/FieldSyntaxWholeNumberPinLaw", "digit", "(JJ)B"⟩ : MethodName) (head1 (Jvm.Cond.code (⟨"com/example/settleline/settleline/csv/FieldSyntaxWholeNumberPinLaw", "digit", "(JJ)B"⟩ : MethodName) method_3_code 4 (some .byte) :: ws) ({ frames := 0, cells := 0, slots := 0, locals := 0 } : Room)) (fun a U => a = #[(.long q1), (.long q2)] ∧ Z.Warmed39 U.vm ∧ U.heap = h0) (fun _ _ _ _ _ => True) (fun _ U o U' => ∃ vv LL, o = .returned vv ∧ own_ap (fun v h L => v = some (.int (own_dg q1 q2)) ∧ Fr n0 L ∧ h = h0) vv U'.heap LL ∧ FrameEnd U o U' LL 0 0) := by
  refine MetFree.of_bodySF (plainFor_of_name pn_1) hisR ?_
  intro p e s m args below meth c s₁ Bd hml0 hP hK
  obtain ⟨rfl, hZ, hh⟩ := hP
  have hx := Bd.exec
  have hby := Bd.bytes
  have hml : c.maxLocals = 4 := hml0
  have hown : s.vm.findClass "com/example/settleline/settleline/csv/FieldSyntaxWholeNumberPinLaw" = some m.cls := findClass_of_methodNamed Bd.named
  have hnm := (name_of_methodNamed Bd.named Bd.method).1
  have X0 : Stand p l e ({ frames := 0, cells := 0, slots := 0, locals := 0 } : Room) s m #[(.long q1), (.long q2)] below meth c s₁ [] 0 0 := Stand.of_body Bd
  have e0 : s₁.heap = h0 := by rw [← hh, Bd.state]; rfl
  have N0 := Fr.nil n0
  show own_Go p.tables e below (own_Q s (fun v h L => v = some (.int (own_dg q1 q2)) ∧ Fr n0 L ∧ h = h0) 0 0) (s₁.setTop (entryFrame m #[(.long q1), (.long q2)] 4))
  rw [show entryFrame m #[(.long q1), (.long q2)] 4 = mkF m 0 #[.val (.long q1), .second, .val (.long q2), .second] [] from by first | (simp [entryFrame, mkF, argsToLocals, Value.category]; done) | rfl]
  show own_Go _ _ _ _ (s₁.setTop (mkF m 0 #[.val (.long q1), .second, .val (.long q2), .second] []))
  refine own_by (fun _ k => X0.ldc2Long hx hown (mvT hZ (hw _ (List.mem_of_getElem? (i := 25) rfl))) (g := (mkF m 0 #[.val (.long q1), .second, .val (.long q2), .second] [])) rfl (hb hby d1_0) _ k) ?_
  show own_Go _ _ _ _ (s₁.setTop (mkF m 3 #[.val (.long q1), .second, .val (.long q2), .second] [(.long (48 : Int64))]))
  refine own_by (fun _ k => XS.lloadN X0.here hx rfl (hb hby d1_3) rfl k) ?_
  show own_Go _ _ _ _ (s₁.setTop (mkF m 4 #[.val (.long q1), .second, .val (.long q2), .second] [(.long q1), (.long (48 : Int64))]))
  refine own_by (fun _ k => XS.lloadN X0.here hx rfl (hb hby d1_4) rfl k) ?_
  show own_Go _ _ _ _ (s₁.setTop (mkF m 5 #[.val (.long q1), .second, .val (.long q2), .second] [(.long q2), (.long q1), (.long (48 : Int64))]))
  refine own_by (fun _ k => XS.ldiv X0.here hx rfl (hb hby d1_5) rfl hz k) ?_
  show own_Go _ _ _ _ (s₁.setTop (mkF m 6 #[.val (.long q1), .second, .val (.long q2), .second] [(.long (q1 / q2)), (.long (48 : Int64))]))
  refine own_by (fun _ k => X0.ldc2Long hx hown (mvT hZ (hw _ (List.mem_of_getElem? (i := 1) rfl))) (g := (mkF m 6 #[.val (.long q1), .second, .val (.long q2), .second] [(.long (q1 / q2)), (.long (48 : Int64))])) rfl (hb hby d1_6) _ k) ?_
  show own_Go _ _ _ _ (s₁.setTop (mkF m 9 #[.val (.long q1), .second, .val (.long q2), .second] [(.long (10 : Int64)), (.long (q1 / q2)), (.long (48 : Int64))]))
  refine own_by (fun _ k => XS.lrem X0.here hx rfl (hb hby d1_9) rfl (by decide) k) ?_
  show own_Go _ _ _ _ (s₁.setTop (mkF m 10 #[.val (.long q1), .second, .val (.long q2), .second] [(.long ((q1 / q2) - (q1 / q2) / (10 : Int64) * (10 : Int64))), (.long (48 : Int64))]))
  refine own_by (fun _ k => XS.ladd X0.here hx rfl (hb hby d1_10) rfl k) ?_
  show own_Go _ _ _ _ (s₁.setTop (mkF m 11 #[.val (.long q1), .second, .val (.long q2), .second] [(.long ((48 : Int64) + ((q1 / q2) - (q1 / q2) / (10 : Int64) * (10 : Int64))))]))
  refine own_by (fun _ k => XS.l2i X0.here hx rfl (hb hby d1_11) rfl k) ?_
  show own_Go _ _ _ _ (s₁.setTop (mkF m 12 #[.val (.long q1), .second, .val (.long q2), .second] [(.int (((48 : Int64) + ((q1 / q2) - (q1 / q2) / (10 : Int64) * (10 : Int64))).toInt32))]))
  refine own_by (fun _ k => XS.i2b X0.here hx rfl (hb hby d1_12) rfl k) ?_
  show own_Go _ _ _ _ (s₁.setTop (mkF m 13 #[.val (.long q1), .second, .val (.long q2), .second] [(.int ((((48 : Int64) + ((q1 / q2) - (q1 / q2) / (10 : Int64) * (10 : Int64))).toInt32).toInt8.toInt32))]))
  exact own_retN X0 hx Bd.notSynchronized e0 Bd.returns (by simp) (hb hby d1_13) (⟨rfl, N0, rfl⟩) (by decide) (by decide)
set_option maxRecDepth 65536 in
set_option maxHeartbeats 40000000 in
theorem rm2 (l : Launch) (Z : State) (a0 : Array Value) (hw : ∀ d ∈ tables_1, d.before a0 Z = true) (ws : List Jvm.Cond) (a1 : Addr) (p1 : Int32) (p2 : Int32) (f : Nat → Int32) (F E : Nat) (h0 : Heap) (n0 : Nat) (Z0 : n0 ≤ h0.size) (A1 : own_AI Z h0 a1 .byte 22 f) (hF : p1.toInt = (F : Int)) (hE : p2.toInt = (E : Int)) (hFE : F + 1 ≤ E) (hE4 : E ≤ 22) :
    MetFree l (⟨"com/example/settleline/settleline/csv/FieldSyntax", "wholeNumber", "([BII)J"⟩ : MethodName) (head1 (Jvm.Cond.code (⟨"com/example/settleline/settleline/csv/FieldSyntax", "wholeNumber", "([BII)J"⟩ : MethodName) prog_12_method_4_code 7 (some .long) :: ws) ({ frames := 0, cells := 0, slots := 0, locals := 0 } : Room)) (fun a U => a = #[(.ref a1), (.int p1), (.int p2)] ∧ Z.Warmed39 U.vm ∧ U.heap = h0) (fun _ _ _ _ _ => True) (fun _ U o U' => ∃ vv LL, o = .returned vv ∧ own_ap (fun v h L => v = some (.long (own_wn f F E)) ∧ Fr n0 L ∧ h = h0) vv U'.heap LL ∧ FrameEnd U o U' LL 0 0) := by
  refine MetFree.of_bodySF (plainFor_of_name pn_2) hisR ?_
  intro p e s m args below meth c s₁ Bd hml0 hP hK
  obtain ⟨rfl, hZ, hh⟩ := hP
  have hx := Bd.exec
  have hby := Bd.bytes
  have hml : c.maxLocals = 7 := hml0
  have hown : s.vm.findClass "com/example/settleline/settleline/csv/FieldSyntax" = some m.cls := findClass_of_methodNamed Bd.named
  have hnm := (name_of_methodNamed Bd.named Bd.method).1
  have X0 : Stand p l e ({ frames := 0, cells := 0, slots := 0, locals := 0 } : Room) s m #[(.ref a1), (.int p1), (.int p2)] below meth c s₁ [] 0 0 := Stand.of_body Bd
  have e0 : s₁.heap = h0 := by rw [← hh, Bd.state]; rfl
  have N0 := Fr.nil n0
  show own_Go p.tables e below (own_Q s (fun v h L => v = some (.long (own_wn f F E)) ∧ Fr n0 L ∧ h = h0) 0 0) (s₁.setTop (entryFrame m #[(.ref a1), (.int p1), (.int p2)] 7))
  rw [show entryFrame m #[(.ref a1), (.int p1), (.int p2)] 7 = mkF m 0 #[.val (.ref a1), .val (.int p1), .val (.int p2), .unset, .unset, .unset, .unset] [] from by first | (simp [entryFrame, mkF, argsToLocals, Value.category]; done) | rfl]
  show own_Go _ _ _ _ (s₁.setTop (mkF m 0 #[.val (.ref a1), .val (.int p1), .val (.int p2), .unset, .unset, .unset, .unset] []))
  refine own_by (fun _ k => XS.aloadN X0.here hx rfl (hb hby d2_0) rfl rfl k) ?_
  show own_Go _ _ _ _ (s₁.setTop (mkF m 1 #[.val (.ref a1), .val (.int p1), .val (.int p2), .unset, .unset, .unset, .unset] [(.ref a1)]))
  refine own_by (fun _ k => XS.iloadN X0.here hx rfl (hb hby d2_1) rfl k) ?_
  show own_Go _ _ _ _ (s₁.setTop (mkF m 2 #[.val (.ref a1), .val (.int p1), .val (.int p2), .unset, .unset, .unset, .unset] [(.int p1), (.ref a1)]))
  refine own_by (fun _ k => own_bal X0 hx hZ e0 A1 F hF (by omega) (hb hby d2_2) k) ?_
  show own_Go _ _ _ _ (s₁.setTop (mkF m 3 #[.val (.ref a1), .val (.int p1), .val (.int p2), .unset, .unset, .unset, .unset] [(.int (f F))]))
  refine own_by (fun _ k => XS.bipush X0.here hx rfl (hb hby d2_3) k) ?_
  show own_Go _ _ _ _ (s₁.setTop (mkF m 5 #[.val (.ref a1), .val (.int p1), .val (.int p2), .unset, .unset, .unset, .unset] [(.int (45 : Int32)), (.int (f F))]))
  by_cases hc1 : (f F) = (45 : Int32)
  · --
    refine own_by (fun _ k => XS.icmpNo X0.here hx rfl (hb hby d2_5) rfl (teq hc1).2 k) ?_
    show own_Go _ _ _ _ (s₁.setTop (mkF m 8 #[.val (.ref a1), .val (.int p1), .val (.int p2), .unset, .unset, .unset, .unset] []))
    refine own_by (fun _ k => XS.iconst X0.here hx rfl (hb hby d2_8) k) ?_
    show own_Go _ _ _ _ (s₁.setTop (mkF m 9 #[.val (.ref a1), .val (.int p1), .val (.int p2), .unset, .unset, .unset, .unset] [(.int (1 : Int32))]))
    refine own_by (fun _ k => XS.goto X0.here hx rfl (pc0 := 9) (pc' := 13) rfl (hb hby d2_9) (by decide) (by decide) k) ?_
    show own_Go _ _ _ _ (s₁.setTop (mkF m 13 #[.val (.ref a1), .val (.int p1), .val (.int p2), .unset, .unset, .unset, .unset] [(.int (1 : Int32))]))
    refine own_by (fun _ k => XS.istoreN X0.here hx rfl (hb hby d2_13) rfl (l' := #[.val (.ref a1), .val (.int p1), .val (.int p2), .val (.int (1 : Int32)), .unset, .unset, .unset]) rfl k) ?_
    show own_Go _ _ _ _ (s₁.setTop (mkF m 14 #[.val (.ref a1), .val (.int p1), .val (.int p2), .val (.int (1 : Int32)), .unset, .unset, .unset] []))
    refine own_by (fun _ k => XS.lconst X0.here hx rfl (hb hby d2_14) k) ?_
    show own_Go _ _ _ _ (s₁.setTop (mkF m 15 #[.val (.ref a1), .val (.int p1), .val (.int p2), .val (.int (1 : Int32)), .unset, .unset, .unset] [(.long (0 : Int64))]))
    refine own_by (fun _ k => XS.lstore X0.here hx rfl (hb hby d2_15) rfl (l' := #[.val (.ref a1), .val (.int p1), .val (.int p2), .val (.int (1 : Int32)), .val (.long (0 : Int64)), .second, .unset]) rfl k) ?_
    show own_Go _ _ _ _ (s₁.setTop (mkF m 17 #[.val (.ref a1), .val (.int p1), .val (.int p2), .val (.int (1 : Int32)), .val (.long (0 : Int64)), .second, .unset] []))
    refine own_by (fun _ k => XS.iloadN X0.here hx rfl (hb hby d2_17) rfl k) ?_
    show own_Go _ _ _ _ (s₁.setTop (mkF m 18 #[.val (.ref a1), .val (.int p1), .val (.int p2), .val (.int (1 : Int32)), .val (.long (0 : Int64)), .second, .unset] [(.int (1 : Int32))]))
    refine own_by (fun _ k => XS.ifNo X0.here hx rfl (hb hby d2_18) rfl ((if0 _ _).trans (feq (by decide)).1) k) ?_
    show own_Go _ _ _ _ (s₁.setTop (mkF m 21 #[.val (.ref a1), .val (.int p1), .val (.int p2), .val (.int (1 : Int32)), .val (.long (0 : Int64)), .second, .unset] []))
    refine own_by (fun _ k => XS.iloadN X0.here hx rfl (hb hby d2_21) rfl k) ?_
    show own_Go _ _ _ _ (s₁.setTop (mkF m 22 #[.val (.ref a1), .val (.int p1), .val (.int p2), .val (.int (1 : Int32)), .val (.long (0 : Int64)), .second, .unset] [(.int p1)]))
    refine own_by (fun _ k => XS.iconst X0.here hx rfl (hb hby d2_22) k) ?_
    show own_Go _ _ _ _ (s₁.setTop (mkF m 23 #[.val (.ref a1), .val (.int p1), .val (.int p2), .val (.int (1 : Int32)), .val (.long (0 : Int64)), .second, .unset] [(.int (1 : Int32)), (.int p1)]))
    refine own_by (fun _ k => XS.iadd X0.here hx rfl (hb hby d2_23) rfl k) ?_
    show own_Go _ _ _ _ (s₁.setTop (mkF m 24 #[.val (.ref a1), .val (.int p1), .val (.int p2), .val (.int (1 : Int32)), .val (.long (0 : Int64)), .second, .unset] [(.int (p1 + (1 : Int32)))]))
    refine own_by (fun _ k => XS.goto X0.here hx rfl (pc0 := 24) (pc' := 28) rfl (hb hby d2_24) (by decide) (by decide) k) ?_
    show own_Go _ _ _ _ (s₁.setTop (mkF m 28 #[.val (.ref a1), .val (.int p1), .val (.int p2), .val (.int (1 : Int32)), .val (.long (0 : Int64)), .second, .unset] [(.int (p1 + (1 : Int32)))]))
    obtain ⟨v6_2, hv6_2⟩ : ∃ z_ : Int32, (p1 + (1 : Int32)) = z_ := ⟨_, rfl⟩
    refine own_gen hv6_2 (fun z_ => s₁.setTop (mkF m 28 #[.val (.ref a1), .val (.int p1), .val (.int p2), .val (.int (1 : Int32)), .val (.long (0 : Int64)), .second, .unset] [(.int z_)])) ?_
    refine own_by (fun _ k => XS.istore X0.here hx rfl (hb hby d2_28) rfl (l' := #[.val (.ref a1), .val (.int p1), .val (.int p2), .val (.int (1 : Int32)), .val (.long (0 : Int64)), .second, .val (.int v6_2)]) rfl k) ?_
    obtain ⟨r, hrr⟩ : ∃ r, own_val f (E - (F + 1)) (F + 1) 0 = r := ⟨_, rfl⟩
    have hrw : own_wn f F E = -r := by rw [own_wn, if_pos hc1, hrr]
    rw [hrw]
    suffices H : ∀ (k' i' : Nat), i' + k' = E → ∀ acc : Int64, own_val f k' i' acc = r → ∀ i : Int32, i.toInt = (i' : Int) → own_Go p.tables e below (own_Q s (fun v h L => v = some (.long (-r)) ∧ Fr n0 L ∧ h = h0) 0 0) (s₁.setTop (mkF m 30 #[.val (.ref a1), .val (.int p1), .val (.int p2), .val (.int (1 : Int32)), .val (.long acc), .second, .val (.int i)] [])) from H (E - (F + 1)) (F + 1) (by omega) 0 hrr _ (own_inc hF (by omega) hv6_2)
    intro k'
    induction k' with
    | zero =>
      intro i' he acc hr i hi
      show own_Go _ _ _ _ (s₁.setTop (mkF m 30 #[.val (.ref a1), .val (.int p1), .val (.int p2), .val (.int (1 : Int32)), .val (.long acc), .second, .val (.int i)] []))
      refine own_by (fun _ k => XS.iload X0.here hx rfl (hb hby d2_30) rfl k) ?_
      show own_Go _ _ _ _ (s₁.setTop (mkF m 32 #[.val (.ref a1), .val (.int p1), .val (.int p2), .val (.int (1 : Int32)), .val (.long acc), .second, .val (.int i)] [(.int i)]))
      refine own_by (fun _ k => XS.iloadN X0.here hx rfl (hb hby d2_32) rfl k) ?_
      show own_Go _ _ _ _ (s₁.setTop (mkF m 33 #[.val (.ref a1), .val (.int p1), .val (.int p2), .val (.int (1 : Int32)), .val (.long acc), .second, .val (.int i)] [(.int p2), (.int i)]))
      refine own_by (fun _ k => XS.icmpYes X0.here hx rfl (pc0 := 33) (pc' := 59) rfl (hb hby d2_33) rfl (flt (by rw [Int32.lt_iff_toInt_lt, hi, hE]; omega)).2.1 (by decide) (by decide) k) ?_
      show own_Go _ _ _ _ (s₁.setTop (mkF m 59 #[.val (.ref a1), .val (.int p1), .val (.int p2), .val (.int (1 : Int32)), .val (.long acc), .second, .val (.int i)] []))
      refine own_by (fun _ k => XS.iloadN X0.here hx rfl (hb hby d2_59) rfl k) ?_
      show own_Go _ _ _ _ (s₁.setTop (mkF m 60 #[.val (.ref a1), .val (.int p1), .val (.int p2), .val (.int (1 : Int32)), .val (.long acc), .second, .val (.int i)] [(.int (1 : Int32))]))
      refine own_by (fun _ k => XS.ifNo X0.here hx rfl (hb hby d2_60) rfl ((if0 _ _).trans (feq (by decide)).1) k) ?_
      show own_Go _ _ _ _ (s₁.setTop (mkF m 63 #[.val (.ref a1), .val (.int p1), .val (.int p2), .val (.int (1 : Int32)), .val (.long acc), .second, .val (.int i)] []))
      refine own_by (fun _ k => XS.lload X0.here hx rfl (hb hby d2_63) rfl k) ?_
      show own_Go _ _ _ _ (s₁.setTop (mkF m 65 #[.val (.ref a1), .val (.int p1), .val (.int p2), .val (.int (1 : Int32)), .val (.long acc), .second, .val (.int i)] [(.long acc)]))
      refine own_by (fun _ k => XS.lneg X0.here hx rfl (hb hby d2_65) rfl k) ?_
      show own_Go _ _ _ _ (s₁.setTop (mkF m 66 #[.val (.ref a1), .val (.int p1), .val (.int p2), .val (.int (1 : Int32)), .val (.long acc), .second, .val (.int i)] [(.long (-acc))]))
      refine own_by (fun _ k => XS.goto X0.here hx rfl (pc0 := 66) (pc' := 71) rfl (hb hby d2_66) (by decide) (by decide) k) ?_
      show own_Go _ _ _ _ (s₁.setTop (mkF m 71 #[.val (.ref a1), .val (.int p1), .val (.int p2), .val (.int (1 : Int32)), .val (.long acc), .second, .val (.int i)] [(.long (-acc))]))
      exact own_retJ X0 hx Bd.notSynchronized e0 Bd.returns (hb hby d2_71) (⟨by rw [← hr]; rfl, N0, rfl⟩) (by decide) (by decide)
    | succ k' ih =>
      intro i' he acc hr i hi
      show own_Go _ _ _ _ (s₁.setTop (mkF m 30 #[.val (.ref a1), .val (.int p1), .val (.int p2), .val (.int (1 : Int32)), .val (.long acc), .second, .val (.int i)] []))
      refine own_by (fun _ k => XS.iload X0.here hx rfl (hb hby d2_30) rfl k) ?_
      show own_Go _ _ _ _ (s₁.setTop (mkF m 32 #[.val (.ref a1), .val (.int p1), .val (.int p2), .val (.int (1 : Int32)), .val (.long acc), .second, .val (.int i)] [(.int i)]))
      refine own_by (fun _ k => XS.iloadN X0.here hx rfl (hb hby d2_32) rfl k) ?_
      show own_Go _ _ _ _ (s₁.setTop (mkF m 33 #[.val (.ref a1), .val (.int p1), .val (.int p2), .val (.int (1 : Int32)), .val (.long acc), .second, .val (.int i)] [(.int p2), (.int i)]))
      refine own_by (fun _ k => XS.icmpNo X0.here hx rfl (hb hby d2_33) rfl (tlt (by rw [Int32.lt_iff_toInt_lt, hi, hE]; omega)).2.1 k) ?_
      show own_Go _ _ _ _ (s₁.setTop (mkF m 36 #[.val (.ref a1), .val (.int p1), .val (.int p2), .val (.int (1 : Int32)), .val (.long acc), .second, .val (.int i)] []))
      refine own_by (fun _ k => XS.lload X0.here hx rfl (hb hby d2_36) rfl k) ?_
      show own_Go _ _ _ _ (s₁.setTop (mkF m 38 #[.val (.ref a1), .val (.int p1), .val (.int p2), .val (.int (1 : Int32)), .val (.long acc), .second, .val (.int i)] [(.long acc)]))
      refine own_by (fun _ k => X0.ldc2Long hx hown (mvT hZ (hw _ (List.mem_of_getElem? (i := 30) rfl))) (g := (mkF m 38 #[.val (.ref a1), .val (.int p1), .val (.int p2), .val (.int (1 : Int32)), .val (.long acc), .second, .val (.int i)] [(.long acc)])) rfl (hb hby d2_38) _ k) ?_
      show own_Go _ _ _ _ (s₁.setTop (mkF m 41 #[.val (.ref a1), .val (.int p1), .val (.int p2), .val (.int (1 : Int32)), .val (.long acc), .second, .val (.int i)] [(.long (10 : Int64)), (.long acc)]))
      refine own_by (fun _ k => XS.lmul X0.here hx rfl (hb hby d2_41) rfl k) ?_
      show own_Go _ _ _ _ (s₁.setTop (mkF m 42 #[.val (.ref a1), .val (.int p1), .val (.int p2), .val (.int (1 : Int32)), .val (.long acc), .second, .val (.int i)] [(.long (acc * (10 : Int64)))]))
      refine own_by (fun _ k => XS.aloadN X0.here hx rfl (hb hby d2_42) rfl rfl k) ?_
      show own_Go _ _ _ _ (s₁.setTop (mkF m 43 #[.val (.ref a1), .val (.int p1), .val (.int p2), .val (.int (1 : Int32)), .val (.long acc), .second, .val (.int i)] [(.ref a1), (.long (acc * (10 : Int64)))]))
      refine own_by (fun _ k => XS.iload X0.here hx rfl (hb hby d2_43) rfl k) ?_
      show own_Go _ _ _ _ (s₁.setTop (mkF m 45 #[.val (.ref a1), .val (.int p1), .val (.int p2), .val (.int (1 : Int32)), .val (.long acc), .second, .val (.int i)] [(.int i), (.ref a1), (.long (acc * (10 : Int64)))]))
      refine own_by (fun _ k => own_bal X0 hx hZ e0 A1 i' hi (by omega) (hb hby d2_45) k) ?_
      show own_Go _ _ _ _ (s₁.setTop (mkF m 46 #[.val (.ref a1), .val (.int p1), .val (.int p2), .val (.int (1 : Int32)), .val (.long acc), .second, .val (.int i)] [(.int (f i')), (.long (acc * (10 : Int64)))]))
      refine own_by (fun _ k => XS.bipush X0.here hx rfl (hb hby d2_46) k) ?_
      show own_Go _ _ _ _ (s₁.setTop (mkF m 48 #[.val (.ref a1), .val (.int p1), .val (.int p2), .val (.int (1 : Int32)), .val (.long acc), .second, .val (.int i)] [(.int (48 : Int32)), (.int (f i')), (.long (acc * (10 : Int64)))]))
      refine own_by (fun _ k => XS.isub X0.here hx rfl (hb hby d2_48) rfl k) ?_
      show own_Go _ _ _ _ (s₁.setTop (mkF m 49 #[.val (.ref a1), .val (.int p1), .val (.int p2), .val (.int (1 : Int32)), .val (.long acc), .second, .val (.int i)] [(.int ((f i') - (48 : Int32))), (.long (acc * (10 : Int64)))]))
      refine own_by (fun _ k => XS.i2l X0.here hx rfl (hb hby d2_49) rfl k) ?_
      show own_Go _ _ _ _ (s₁.setTop (mkF m 50 #[.val (.ref a1), .val (.int p1), .val (.int p2), .val (.int (1 : Int32)), .val (.long acc), .second, .val (.int i)] [(.long (((f i') - (48 : Int32)).toInt64)), (.long (acc * (10 : Int64)))]))
      refine own_by (fun _ k => XS.ladd X0.here hx rfl (hb hby d2_50) rfl k) ?_
      show own_Go _ _ _ _ (s₁.setTop (mkF m 51 #[.val (.ref a1), .val (.int p1), .val (.int p2), .val (.int (1 : Int32)), .val (.long acc), .second, .val (.int i)] [(.long ((acc * (10 : Int64)) + (((f i') - (48 : Int32)).toInt64)))]))
      obtain ⟨v4_3, hv4_3⟩ : ∃ z_ : Int64, ((acc * (10 : Int64)) + (((f i') - (48 : Int32)).toInt64)) = z_ := ⟨_, rfl⟩
      refine own_gen hv4_3 (fun z_ => s₁.setTop (mkF m 51 #[.val (.ref a1), .val (.int p1), .val (.int p2), .val (.int (1 : Int32)), .val (.long acc), .second, .val (.int i)] [(.long z_)])) ?_
      refine own_by (fun _ k => XS.lstore X0.here hx rfl (hb hby d2_51) rfl (l' := #[.val (.ref a1), .val (.int p1), .val (.int p2), .val (.int (1 : Int32)), .val (.long v4_3), .second, .val (.int i)]) rfl k) ?_
      show own_Go _ _ _ _ (s₁.setTop (mkF m 53 #[.val (.ref a1), .val (.int p1), .val (.int p2), .val (.int (1 : Int32)), .val (.long v4_3), .second, .val (.int i)] []))
      refine own_by (fun _ k => XS.iinc X0.here hx rfl (hb hby d2_53) rfl (l' := #[.val (.ref a1), .val (.int p1), .val (.int p2), .val (.int (1 : Int32)), .val (.long v4_3), .second, .val (.int (i + (1 : Int32)))]) rfl k) ?_
      obtain ⟨v6_4, hv6_4⟩ : ∃ z_ : Int32, (i + (1 : Int32)) = z_ := ⟨_, rfl⟩
      refine own_gen hv6_4 (fun z_ => s₁.setTop (mkF m 56 #[.val (.ref a1), .val (.int p1), .val (.int p2), .val (.int (1 : Int32)), .val (.long v4_3), .second, .val (.int z_)] [])) ?_
      show own_Go _ _ _ _ (s₁.setTop (mkF m 56 #[.val (.ref a1), .val (.int p1), .val (.int p2), .val (.int (1 : Int32)), .val (.long v4_3), .second, .val (.int v6_4)] []))
      refine own_by (fun _ k => XS.goto X0.here hx rfl (pc0 := 56) (pc' := 30) rfl (hb hby d2_56) (by decide) (by decide) k) ?_
      exact ih (i' + 1) (by omega) _ (by rw [← hr, own_val, hv4_3]) _ (own_inc hi (by omega) hv6_4)
  · --
    refine own_by (fun _ k => XS.icmpYes X0.here hx rfl (pc0 := 5) (pc' := 12) rfl (hb hby d2_5) rfl (feq hc1).2 (by decide) (by decide) k) ?_
    show own_Go _ _ _ _ (s₁.setTop (mkF m 12 #[.val (.ref a1), .val (.int p1), .val (.int p2), .unset, .unset, .unset, .unset] []))
    refine own_by (fun _ k => XS.iconst X0.here hx rfl (hb hby d2_12) k) ?_
    show own_Go _ _ _ _ (s₁.setTop (mkF m 13 #[.val (.ref a1), .val (.int p1), .val (.int p2), .unset, .unset, .unset, .unset] [(.int (0 : Int32))]))
    refine own_by (fun _ k => XS.istoreN X0.here hx rfl (hb hby d2_13) rfl (l' := #[.val (.ref a1), .val (.int p1), .val (.int p2), .val (.int (0 : Int32)), .unset, .unset, .unset]) rfl k) ?_
    show own_Go _ _ _ _ (s₁.setTop (mkF m 14 #[.val (.ref a1), .val (.int p1), .val (.int p2), .val (.int (0 : Int32)), .unset, .unset, .unset] []))
    refine own_by (fun _ k => XS.lconst X0.here hx rfl (hb hby d2_14) k) ?_
    show own_Go _ _ _ _ (s₁.setTop (mkF m 15 #[.val (.ref a1), .val (.int p1), .val (.int p2), .val (.int (0 : Int32)), .unset, .unset, .unset] [(.long (0 : Int64))]))
    refine own_by (fun _ k => XS.lstore X0.here hx rfl (hb hby d2_15) rfl (l' := #[.val (.ref a1), .val (.int p1), .val (.int p2), .val (.int (0 : Int32)), .val (.long (0 : Int64)), .second, .unset]) rfl k) ?_
    show own_Go _ _ _ _ (s₁.setTop (mkF m 17 #[.val (.ref a1), .val (.int p1), .val (.int p2), .val (.int (0 : Int32)), .val (.long (0 : Int64)), .second, .unset] []))
    refine own_by (fun _ k => XS.iloadN X0.here hx rfl (hb hby d2_17) rfl k) ?_
    show own_Go _ _ _ _ (s₁.setTop (mkF m 18 #[.val (.ref a1), .val (.int p1), .val (.int p2), .val (.int (0 : Int32)), .val (.long (0 : Int64)), .second, .unset] [(.int (0 : Int32))]))
    refine own_by (fun _ k => XS.ifYes X0.here hx rfl (pc0 := 18) (pc' := 27) rfl (hb hby d2_18) rfl ((if0 _ _).trans (teq (by decide)).1) (by decide) (by decide) k) ?_
    show own_Go _ _ _ _ (s₁.setTop (mkF m 27 #[.val (.ref a1), .val (.int p1), .val (.int p2), .val (.int (0 : Int32)), .val (.long (0 : Int64)), .second, .unset] []))
    refine own_by (fun _ k => XS.iloadN X0.here hx rfl (hb hby d2_27) rfl k) ?_
    show own_Go _ _ _ _ (s₁.setTop (mkF m 28 #[.val (.ref a1), .val (.int p1), .val (.int p2), .val (.int (0 : Int32)), .val (.long (0 : Int64)), .second, .unset] [(.int p1)]))
    refine own_by (fun _ k => XS.istore X0.here hx rfl (hb hby d2_28) rfl (l' := #[.val (.ref a1), .val (.int p1), .val (.int p2), .val (.int (0 : Int32)), .val (.long (0 : Int64)), .second, .val (.int p1)]) rfl k) ?_
    obtain ⟨r, hrr⟩ : ∃ r, own_val f (E - F) F 0 = r := ⟨_, rfl⟩
    have hrw : own_wn f F E = r := by rw [own_wn, if_neg hc1, hrr]
    rw [hrw]
    suffices H : ∀ (k' i' : Nat), i' + k' = E → ∀ acc : Int64, own_val f k' i' acc = r → ∀ i : Int32, i.toInt = (i' : Int) → own_Go p.tables e below (own_Q s (fun v h L => v = some (.long (r)) ∧ Fr n0 L ∧ h = h0) 0 0) (s₁.setTop (mkF m 30 #[.val (.ref a1), .val (.int p1), .val (.int p2), .val (.int (0 : Int32)), .val (.long acc), .second, .val (.int i)] [])) from H (E - F) F (by omega) 0 hrr _ hF
    intro k'
    induction k' with
    | zero =>
      intro i' he acc hr i hi
      show own_Go _ _ _ _ (s₁.setTop (mkF m 30 #[.val (.ref a1), .val (.int p1), .val (.int p2), .val (.int (0 : Int32)), .val (.long acc), .second, .val (.int i)] []))
      refine own_by (fun _ k => XS.iload X0.here hx rfl (hb hby d2_30) rfl k) ?_
      show own_Go _ _ _ _ (s₁.setTop (mkF m 32 #[.val (.ref a1), .val (.int p1), .val (.int p2), .val (.int (0 : Int32)), .val (.long acc), .second, .val (.int i)] [(.int i)]))
      refine own_by (fun _ k => XS.iloadN X0.here hx rfl (hb hby d2_32) rfl k) ?_
      show own_Go _ _ _ _ (s₁.setTop (mkF m 33 #[.val (.ref a1), .val (.int p1), .val (.int p2), .val (.int (0 : Int32)), .val (.long acc), .second, .val (.int i)] [(.int p2), (.int i)]))
      refine own_by (fun _ k => XS.icmpYes X0.here hx rfl (pc0 := 33) (pc' := 59) rfl (hb hby d2_33) rfl (flt (by rw [Int32.lt_iff_toInt_lt, hi, hE]; omega)).2.1 (by decide) (by decide) k) ?_
      show own_Go _ _ _ _ (s₁.setTop (mkF m 59 #[.val (.ref a1), .val (.int p1), .val (.int p2), .val (.int (0 : Int32)), .val (.long acc), .second, .val (.int i)] []))
      refine own_by (fun _ k => XS.iloadN X0.here hx rfl (hb hby d2_59) rfl k) ?_
      show own_Go _ _ _ _ (s₁.setTop (mkF m 60 #[.val (.ref a1), .val (.int p1), .val (.int p2), .val (.int (0 : Int32)), .val (.long acc), .second, .val (.int i)] [(.int (0 : Int32))]))
      refine own_by (fun _ k => XS.ifYes X0.here hx rfl (pc0 := 60) (pc' := 69) rfl (hb hby d2_60) rfl ((if0 _ _).trans (teq (by decide)).1) (by decide) (by decide) k) ?_
      show own_Go _ _ _ _ (s₁.setTop (mkF m 69 #[.val (.ref a1), .val (.int p1), .val (.int p2), .val (.int (0 : Int32)), .val (.long acc), .second, .val (.int i)] []))
      refine own_by (fun _ k => XS.lload X0.here hx rfl (hb hby d2_69) rfl k) ?_
      show own_Go _ _ _ _ (s₁.setTop (mkF m 71 #[.val (.ref a1), .val (.int p1), .val (.int p2), .val (.int (0 : Int32)), .val (.long acc), .second, .val (.int i)] [(.long acc)]))
      exact own_retJ X0 hx Bd.notSynchronized e0 Bd.returns (hb hby d2_71) (⟨by rw [← hr]; rfl, N0, rfl⟩) (by decide) (by decide)
    | succ k' ih =>
      intro i' he acc hr i hi
      show own_Go _ _ _ _ (s₁.setTop (mkF m 30 #[.val (.ref a1), .val (.int p1), .val (.int p2), .val (.int (0 : Int32)), .val (.long acc), .second, .val (.int i)] []))
      refine own_by (fun _ k => XS.iload X0.here hx rfl (hb hby d2_30) rfl k) ?_
      show own_Go _ _ _ _ (s₁.setTop (mkF m 32 #[.val (.ref a1), .val (.int p1), .val (.int p2), .val (.int (0 : Int32)), .val (.long acc), .second, .val (.int i)] [(.int i)]))
      refine own_by (fun _ k => XS.iloadN X0.here hx rfl (hb hby d2_32) rfl k) ?_
      show own_Go _ _ _ _ (s₁.setTop (mkF m 33 #[.val (.ref a1), .val (.int p1), .val (.int p2), .val (.int (0 : Int32)), .val (.long acc), .second, .val (.int i)] [(.int p2), (.int i)]))
      refine own_by (fun _ k => XS.icmpNo X0.here hx rfl (hb hby d2_33) rfl (tlt (by rw [Int32.lt_iff_toInt_lt, hi, hE]; omega)).2.1 k) ?_
      show own_Go _ _ _ _ (s₁.setTop (mkF m 36 #[.val (.ref a1), .val (.int p1), .val (.int p2), .val (.int (0 : Int32)), .val (.long acc), .second, .val (.int i)] []))
      refine own_by (fun _ k => XS.lload X0.here hx rfl (hb hby d2_36) rfl k) ?_
      show own_Go _ _ _ _ (s₁.setTop (mkF m 38 #[.val (.ref a1), .val (.int p1), .val (.int p2), .val (.int (0 : Int32)), .val (.long acc), .second, .val (.int i)] [(.long acc)]))
      refine own_by (fun _ k => X0.ldc2Long hx hown (mvT hZ (hw _ (List.mem_of_getElem? (i := 30) rfl))) (g := (mkF m 38 #[.val (.ref a1), .val (.int p1), .val (.int p2), .val (.int (0 : Int32)), .val (.long acc), .second, .val (.int i)] [(.long acc)])) rfl (hb hby d2_38) _ k) ?_
      show own_Go _ _ _ _ (s₁.setTop (mkF m 41 #[.val (.ref a1), .val (.int p1), .val (.int p2), .val (.int (0 : Int32)), .val (.long acc), .second, .val (.int i)] [(.long (10 : Int64)), (.long acc)]))
      refine own_by (fun _ k => XS.lmul X0.here hx rfl (hb hby d2_41) rfl k) ?_
      show own_Go _ _ _ _ (s₁.setTop (mkF m 42 #[.val (.ref a1), .val (.int p1), .val (.int p2), .val (.int (0 : Int32)), .val (.long acc), .second, .val (.int i)] [(.long (acc * (10 : Int64)))]))
      refine own_by (fun _ k => XS.aloadN X0.here hx rfl (hb hby d2_42) rfl rfl k) ?_
      show own_Go _ _ _ _ (s₁.setTop (mkF m 43 #[.val (.ref a1), .val (.int p1), .val (.int p2), .val (.int (0 : Int32)), .val (.long acc), .second, .val (.int i)] [(.ref a1), (.long (acc * (10 : Int64)))]))
      refine own_by (fun _ k => XS.iload X0.here hx rfl (hb hby d2_43) rfl k) ?_
      show own_Go _ _ _ _ (s₁.setTop (mkF m 45 #[.val (.ref a1), .val (.int p1), .val (.int p2), .val (.int (0 : Int32)), .val (.long acc), .second, .val (.int i)] [(.int i), (.ref a1), (.long (acc * (10 : Int64)))]))
      refine own_by (fun _ k => own_bal X0 hx hZ e0 A1 i' hi (by omega) (hb hby d2_45) k) ?_
      show own_Go _ _ _ _ (s₁.setTop (mkF m 46 #[.val (.ref a1), .val (.int p1), .val (.int p2), .val (.int (0 : Int32)), .val (.long acc), .second, .val (.int i)] [(.int (f i')), (.long (acc * (10 : Int64)))]))
      refine own_by (fun _ k => XS.bipush X0.here hx rfl (hb hby d2_46) k) ?_
      show own_Go _ _ _ _ (s₁.setTop (mkF m 48 #[.val (.ref a1), .val (.int p1), .val (.int p2), .val (.int (0 : Int32)), .val (.long acc), .second, .val (.int i)] [(.int (48 : Int32)), (.int (f i')), (.long (acc * (10 : Int64)))]))
      refine own_by (fun _ k => XS.isub X0.here hx rfl (hb hby d2_48) rfl k) ?_
      show own_Go _ _ _ _ (s₁.setTop (mkF m 49 #[.val (.ref a1), .val (.int p1), .val (.int p2), .val (.int (0 : Int32)), .val (.long acc), .second, .val (.int i)] [(.int ((f i') - (48 : Int32))), (.long (acc * (10 : Int64)))]))
      refine own_by (fun _ k => XS.i2l X0.here hx rfl (hb hby d2_49) rfl k) ?_
      show own_Go _ _ _ _ (s₁.setTop (mkF m 50 #[.val (.ref a1), .val (.int p1), .val (.int p2), .val (.int (0 : Int32)), .val (.long acc), .second, .val (.int i)] [(.long (((f i') - (48 : Int32)).toInt64)), (.long (acc * (10 : Int64)))]))
      refine own_by (fun _ k => XS.ladd X0.here hx rfl (hb hby d2_50) rfl k) ?_
      show own_Go _ _ _ _ (s₁.setTop (mkF m 51 #[.val (.ref a1), .val (.int p1), .val (.int p2), .val (.int (0 : Int32)), .val (.long acc), .second, .val (.int i)] [(.long ((acc * (10 : Int64)) + (((f i') - (48 : Int32)).toInt64)))]))
      obtain ⟨v4_5, hv4_5⟩ : ∃ z_ : Int64, ((acc * (10 : Int64)) + (((f i') - (48 : Int32)).toInt64)) = z_ := ⟨_, rfl⟩
      refine own_gen hv4_5 (fun z_ => s₁.setTop (mkF m 51 #[.val (.ref a1), .val (.int p1), .val (.int p2), .val (.int (0 : Int32)), .val (.long acc), .second, .val (.int i)] [(.long z_)])) ?_
      refine own_by (fun _ k => XS.lstore X0.here hx rfl (hb hby d2_51) rfl (l' := #[.val (.ref a1), .val (.int p1), .val (.int p2), .val (.int (0 : Int32)), .val (.long v4_5), .second, .val (.int i)]) rfl k) ?_
      show own_Go _ _ _ _ (s₁.setTop (mkF m 53 #[.val (.ref a1), .val (.int p1), .val (.int p2), .val (.int (0 : Int32)), .val (.long v4_5), .second, .val (.int i)] []))
      refine own_by (fun _ k => XS.iinc X0.here hx rfl (hb hby d2_53) rfl (l' := #[.val (.ref a1), .val (.int p1), .val (.int p2), .val (.int (0 : Int32)), .val (.long v4_5), .second, .val (.int (i + (1 : Int32)))]) rfl k) ?_
      obtain ⟨v6_6, hv6_6⟩ : ∃ z_ : Int32, (i + (1 : Int32)) = z_ := ⟨_, rfl⟩
      refine own_gen hv6_6 (fun z_ => s₁.setTop (mkF m 56 #[.val (.ref a1), .val (.int p1), .val (.int p2), .val (.int (0 : Int32)), .val (.long v4_5), .second, .val (.int z_)] [])) ?_
      show own_Go _ _ _ _ (s₁.setTop (mkF m 56 #[.val (.ref a1), .val (.int p1), .val (.int p2), .val (.int (0 : Int32)), .val (.long v4_5), .second, .val (.int v6_6)] []))
      refine own_by (fun _ k => XS.goto X0.here hx rfl (pc0 := 56) (pc' := 30) rfl (hb hby d2_56) (by decide) (by decide) k) ?_
      exact ih (i' + 1) (by omega) _ (by rw [← hr, own_val, hv4_5]) _ (own_inc hi (by omega) hv6_6)
set_option maxRecDepth 65536 in
set_option maxHeartbeats 40000000 in
theorem rm0 (l : Launch) (Z : State) (a0 : Array Value) (hw : ∀ d ∈ tables_1, d.before a0 Z = true) (ws : List Jvm.Cond) (q1 : Int64) (p2 : Int32) (p3 : Int32)  (h0 : Heap) (n0 : Nat) (Z0 : n0 ≤ h0.size) :
    MetFree l x (head1 (Jvm.Cond.code x code maxLocals ret :: ws) room_1) (fun a U => a = #[(.long q1), (.int p2), (.int p3)] ∧ Z.Warmed39 U.vm ∧ U.heap = h0) (fun _ _ _ _ _ => True) (fun _ U o U' => ∃ vv LL, o = .returned vv ∧ own_ap (fun v h L => v = some (.int 1) ∧ Fr n0 L) vv U'.heap LL ∧ FrameEnd U o U' LL 16 192) := by
  refine MetFree.of_bodySF (plainFor_of_name pn_0) hisR ?_
  intro p e s m args below meth c s₁ Bd hml0 hP hK
  obtain ⟨rfl, hZ, hh⟩ := hP
  have hx := Bd.exec
  have hby := Bd.bytes
  have hml : c.maxLocals = 17 := hml0
  have hown : s.vm.findClass "com/example/settleline/settleline/csv/FieldSyntaxWholeNumberPinLaw" = some m.cls := findClass_of_methodNamed Bd.named
  have hnm := (name_of_methodNamed Bd.named Bd.method).1
  have X0 : Stand p l e room_1 s m #[(.long q1), (.int p2), (.int p3)] below meth c s₁ [] 0 0 := Stand.of_body Bd
  have e0 : s₁.heap = h0 := by rw [← hh, Bd.state]; rfl
  have N0 := Fr.nil n0
  show own_Go p.tables e below (own_Q s (fun v h L => v = some (.int 1) ∧ Fr n0 L) 16 192) (s₁.setTop (entryFrame m #[(.long q1), (.int p2), (.int p3)] maxLocals))
  rw [show entryFrame m #[(.long q1), (.int p2), (.int p3)] maxLocals = mkF m 0 #[.val (.long q1), .second, .val (.int p2), .val (.int p3), .unset, .unset, .unset, .unset, .unset, .unset, .unset, .unset, .unset, .unset, .unset, .unset, .unset] [] from by first | (simp [entryFrame, mkF, argsToLocals, Value.category, maxLocals]; done) | rfl]
  show own_Go _ _ _ _ (s₁.setTop (mkF m 0 #[.val (.long q1), .second, .val (.int p2), .val (.int p3), .unset, .unset, .unset, .unset, .unset, .unset, .unset, .unset, .unset, .unset, .unset, .unset, .unset] []))
  refine own_by (fun _ k => XS.bipush X0.here hx rfl (hb hby at_0) k) ?_
  show own_Go _ _ _ _ (s₁.setTop (mkF m 2 #[.val (.long q1), .second, .val (.int p2), .val (.int p3), .unset, .unset, .unset, .unset, .unset, .unset, .unset, .unset, .unset, .unset, .unset, .unset, .unset] [(.int (18 : Int32))]))
  refine own_newP X0 hx hZ (hw _ (List.mem_of_getElem? (i := 0) rfl)) e0 18 (by decide) 18 (by decide) (by decide) (by decide) (by decide) (hb hby at_2) ?_
  intro T1 h1 X1 e1 E1 A1
  show own_Go _ _ _ _ (T1.setTop (mkF m 4 #[.val (.long q1), .second, .val (.int p2), .val (.int p3), .unset, .unset, .unset, .unset, .unset, .unset, .unset, .unset, .unset, .unset, .unset, .unset, .unset] [.ref h0.size]))
  obtain ⟨b1, g1⟩ : ∃ z, z = h0.size := ⟨_, rfl⟩
  rw [← g1] at A1
  refine own_gen g1.symm (fun z_ => T1.setTop (mkF m 4 #[.val (.long q1), .second, .val (.int p2), .val (.int p3), .unset, .unset, .unset, .unset, .unset, .unset, .unset, .unset, .unset, .unset, .unset, .unset, .unset] [.ref z_])) ?_
  have ge1 : n0 ≤ b1 := Nat.le_trans Z0 (Nat.le_of_eq g1.symm)
  have Z1 := Nat.le_trans Z0 E1.1
  have f2 : own_AJ Z h1 b1 18 (fun _ => 0) := A1
  show own_Go _ _ _ _ (T1.setTop (mkF m 4 #[.val (.long q1), .second, .val (.int p2), .val (.int p3), .unset, .unset, .unset, .unset, .unset, .unset, .unset, .unset, .unset, .unset, .unset, .unset, .unset] [(.ref b1)]))
  refine own_by (fun _ k => XS.dup X1.here hx rfl (hb hby at_4) rfl rfl k) ?_
  show own_Go _ _ _ _ (T1.setTop (mkF m 5 #[.val (.long q1), .second, .val (.int p2), .val (.int p3), .unset, .unset, .unset, .unset, .unset, .unset, .unset, .unset, .unset, .unset, .unset, .unset, .unset] [(.ref b1), (.ref b1)]))
  refine own_by (fun _ k => XS.iconst X1.here hx rfl (hb hby at_5) k) ?_
  show own_Go _ _ _ _ (T1.setTop (mkF m 6 #[.val (.long q1), .second, .val (.int p2), .val (.int p3), .unset, .unset, .unset, .unset, .unset, .unset, .unset, .unset, .unset, .unset, .unset, .unset, .unset] [(.int (0 : Int32)), (.ref b1), (.ref b1)]))
  refine own_by (fun _ k => XS.lconst X1.here hx rfl (hb hby at_6) k) ?_
  show own_Go _ _ _ _ (T1.setTop (mkF m 7 #[.val (.long q1), .second, .val (.int p2), .val (.int p3), .unset, .unset, .unset, .unset, .unset, .unset, .unset, .unset, .unset, .unset, .unset, .unset, .unset] [(.long (1 : Int64)), (.int (0 : Int32)), (.ref b1), (.ref b1)]))
  refine own_las X1 hx hZ e1 f2 0 (by decide) (by decide) (hb hby at_7) ?_
  intro T3 h3 X3 e3 W3 A3
  have N3 := Fr.snoc X3 N0 ge1
  have Z3 := own_size_wr W3 Z1
  obtain ⟨fn3, hfn3⟩ : ∃ g : Nat → Int64, g = own_upd (fun _ => 0) 0 (1 : Int64) := ⟨_, rfl⟩
  rw [← hfn3] at A3
  show own_Go _ _ _ _ (T3.setTop (mkF m 8 #[.val (.long q1), .second, .val (.int p2), .val (.int p3), .unset, .unset, .unset, .unset, .unset, .unset, .unset, .unset, .unset, .unset, .unset, .unset, .unset] [(.ref b1)]))
  refine own_by (fun _ k => XS.dup X3.here hx rfl (hb hby at_8) rfl rfl k) ?_
  show own_Go _ _ _ _ (T3.setTop (mkF m 9 #[.val (.long q1), .second, .val (.int p2), .val (.int p3), .unset, .unset, .unset, .unset, .unset, .unset, .unset, .unset, .unset, .unset, .unset, .unset, .unset] [(.ref b1), (.ref b1)]))
  refine own_by (fun _ k => XS.iconst X3.here hx rfl (hb hby at_9) k) ?_
  show own_Go _ _ _ _ (T3.setTop (mkF m 10 #[.val (.long q1), .second, .val (.int p2), .val (.int p3), .unset, .unset, .unset, .unset, .unset, .unset, .unset, .unset, .unset, .unset, .unset, .unset, .unset] [(.int (1 : Int32)), (.ref b1), (.ref b1)]))
  refine own_by (fun _ k => X3.ldc2Long hx hown (mvT hZ (hw _ (List.mem_of_getElem? (i := 1) rfl))) (g := (mkF m 10 #[.val (.long q1), .second, .val (.int p2), .val (.int p3), .unset, .unset, .unset, .unset, .unset, .unset, .unset, .unset, .unset, .unset, .unset, .unset, .unset] [(.int (1 : Int32)), (.ref b1), (.ref b1)])) rfl (hb hby at_10) _ k) ?_
  show own_Go _ _ _ _ (T3.setTop (mkF m 13 #[.val (.long q1), .second, .val (.int p2), .val (.int p3), .unset, .unset, .unset, .unset, .unset, .unset, .unset, .unset, .unset, .unset, .unset, .unset, .unset] [(.long (10 : Int64)), (.int (1 : Int32)), (.ref b1), (.ref b1)]))
  refine own_las X3 hx hZ e3 A3 1 (by decide) (by decide) (hb hby at_13) ?_
  intro T4 h4 X4 e4 W4 A4
  have N4 := Fr.snoc X4 N3 ge1
  have Z4 := own_size_wr W4 Z3
  obtain ⟨fn4, hfn4⟩ : ∃ g : Nat → Int64, g = own_upd fn3 1 (10 : Int64) := ⟨_, rfl⟩
  rw [← hfn4] at A4
  show own_Go _ _ _ _ (T4.setTop (mkF m 14 #[.val (.long q1), .second, .val (.int p2), .val (.int p3), .unset, .unset, .unset, .unset, .unset, .unset, .unset, .unset, .unset, .unset, .unset, .unset, .unset] [(.ref b1)]))
  refine own_by (fun _ k => XS.dup X4.here hx rfl (hb hby at_14) rfl rfl k) ?_
  show own_Go _ _ _ _ (T4.setTop (mkF m 15 #[.val (.long q1), .second, .val (.int p2), .val (.int p3), .unset, .unset, .unset, .unset, .unset, .unset, .unset, .unset, .unset, .unset, .unset, .unset, .unset] [(.ref b1), (.ref b1)]))
  refine own_by (fun _ k => XS.iconst X4.here hx rfl (hb hby at_15) k) ?_
  show own_Go _ _ _ _ (T4.setTop (mkF m 16 #[.val (.long q1), .second, .val (.int p2), .val (.int p3), .unset, .unset, .unset, .unset, .unset, .unset, .unset, .unset, .unset, .unset, .unset, .unset, .unset] [(.int (2 : Int32)), (.ref b1), (.ref b1)]))
  refine own_by (fun _ k => X4.ldc2Long hx hown (mvT hZ (hw _ (List.mem_of_getElem? (i := 2) rfl))) (g := (mkF m 16 #[.val (.long q1), .second, .val (.int p2), .val (.int p3), .unset, .unset, .unset, .unset, .unset, .unset, .unset, .unset, .unset, .unset, .unset, .unset, .unset] [(.int (2 : Int32)), (.ref b1), (.ref b1)])) rfl (hb hby at_16) _ k) ?_
  show own_Go _ _ _ _ (T4.setTop (mkF m 19 #[.val (.long q1), .second, .val (.int p2), .val (.int p3), .unset, .unset, .unset, .unset, .unset, .unset, .unset, .unset, .unset, .unset, .unset, .unset, .unset] [(.long (100 : Int64)), (.int (2 : Int32)), (.ref b1), (.ref b1)]))
  refine own_las X4 hx hZ e4 A4 2 (by decide) (by decide) (hb hby at_19) ?_
  intro T5 h5 X5 e5 W5 A5
  have N5 := Fr.snoc X5 N4 ge1
  have Z5 := own_size_wr W5 Z4
  obtain ⟨fn5, hfn5⟩ : ∃ g : Nat → Int64, g = own_upd fn4 2 (100 : Int64) := ⟨_, rfl⟩
  rw [← hfn5] at A5
  show own_Go _ _ _ _ (T5.setTop (mkF m 20 #[.val (.long q1), .second, .val (.int p2), .val (.int p3), .unset, .unset, .unset, .unset, .unset, .unset, .unset, .unset, .unset, .unset, .unset, .unset, .unset] [(.ref b1)]))
  refine own_by (fun _ k => XS.dup X5.here hx rfl (hb hby at_20) rfl rfl k) ?_
  show own_Go _ _ _ _ (T5.setTop (mkF m 21 #[.val (.long q1), .second, .val (.int p2), .val (.int p3), .unset, .unset, .unset, .unset, .unset, .unset, .unset, .unset, .unset, .unset, .unset, .unset, .unset] [(.ref b1), (.ref b1)]))
  refine own_by (fun _ k => XS.iconst X5.here hx rfl (hb hby at_21) k) ?_
  show own_Go _ _ _ _ (T5.setTop (mkF m 22 #[.val (.long q1), .second, .val (.int p2), .val (.int p3), .unset, .unset, .unset, .unset, .unset, .unset, .unset, .unset, .unset, .unset, .unset, .unset, .unset] [(.int (3 : Int32)), (.ref b1), (.ref b1)]))
  refine own_by (fun _ k => X5.ldc2Long hx hown (mvT hZ (hw _ (List.mem_of_getElem? (i := 3) rfl))) (g := (mkF m 22 #[.val (.long q1), .second, .val (.int p2), .val (.int p3), .unset, .unset, .unset, .unset, .unset, .unset, .unset, .unset, .unset, .unset, .unset, .unset, .unset] [(.int (3 : Int32)), (.ref b1), (.ref b1)])) rfl (hb hby at_22) _ k) ?_
  show own_Go _ _ _ _ (T5.setTop (mkF m 25 #[.val (.long q1), .second, .val (.int p2), .val (.int p3), .unset, .unset, .unset, .unset, .unset, .unset, .unset, .unset, .unset, .unset, .unset, .unset, .unset] [(.long (1000 : Int64)), (.int (3 : Int32)), (.ref b1), (.ref b1)]))
  refine own_las X5 hx hZ e5 A5 3 (by decide) (by decide) (hb hby at_25) ?_
  intro T6 h6 X6 e6 W6 A6
  have N6 := Fr.snoc X6 N5 ge1
  have Z6 := own_size_wr W6 Z5
  obtain ⟨fn6, hfn6⟩ : ∃ g : Nat → Int64, g = own_upd fn5 3 (1000 : Int64) := ⟨_, rfl⟩
  rw [← hfn6] at A6
  show own_Go _ _ _ _ (T6.setTop (mkF m 26 #[.val (.long q1), .second, .val (.int p2), .val (.int p3), .unset, .unset, .unset, .unset, .unset, .unset, .unset, .unset, .unset, .unset, .unset, .unset, .unset] [(.ref b1)]))
  refine own_by (fun _ k => XS.dup X6.here hx rfl (hb hby at_26) rfl rfl k) ?_
  show own_Go _ _ _ _ (T6.setTop (mkF m 27 #[.val (.long q1), .second, .val (.int p2), .val (.int p3), .unset, .unset, .unset, .unset, .unset, .unset, .unset, .unset, .unset, .unset, .unset, .unset, .unset] [(.ref b1), (.ref b1)]))
  refine own_by (fun _ k => XS.iconst X6.here hx rfl (hb hby at_27) k) ?_
  show own_Go _ _ _ _ (T6.setTop (mkF m 28 #[.val (.long q1), .second, .val (.int p2), .val (.int p3), .unset, .unset, .unset, .unset, .unset, .unset, .unset, .unset, .unset, .unset, .unset, .unset, .unset] [(.int (4 : Int32)), (.ref b1), (.ref b1)]))
  refine own_by (fun _ k => X6.ldc2Long hx hown (mvT hZ (hw _ (List.mem_of_getElem? (i := 4) rfl))) (g := (mkF m 28 #[.val (.long q1), .second, .val (.int p2), .val (.int p3), .unset, .unset, .unset, .unset, .unset, .unset, .unset, .unset, .unset, .unset, .unset, .unset, .unset] [(.int (4 : Int32)), (.ref b1), (.ref b1)])) rfl (hb hby at_28) _ k) ?_
  show own_Go _ _ _ _ (T6.setTop (mkF m 31 #[.val (.long q1), .second, .val (.int p2), .val (.int p3), .unset, .unset, .unset, .unset, .unset, .unset, .unset, .unset, .unset, .unset, .unset, .unset, .unset] [(.long (10000 : Int64)), (.int (4 : Int32)), (.ref b1), (.ref b1)]))
  refine own_las X6 hx hZ e6 A6 4 (by decide) (by decide) (hb hby at_31) ?_
  intro T7 h7 X7 e7 W7 A7
  have N7 := Fr.snoc X7 N6 ge1
  have Z7 := own_size_wr W7 Z6
  obtain ⟨fn7, hfn7⟩ : ∃ g : Nat → Int64, g = own_upd fn6 4 (10000 : Int64) := ⟨_, rfl⟩
  rw [← hfn7] at A7
  show own_Go _ _ _ _ (T7.setTop (mkF m 32 #[.val (.long q1), .second, .val (.int p2), .val (.int p3), .unset, .unset, .unset, .unset, .unset, .unset, .unset, .unset, .unset, .unset, .unset, .unset, .unset] [(.ref b1)]))
  refine own_by (fun _ k => XS.dup X7.here hx rfl (hb hby at_32) rfl rfl k) ?_
  show own_Go _ _ _ _ (T7.setTop (mkF m 33 #[.val (.long q1), .second, .val (.int p2), .val (.int p3), .unset, .unset, .unset, .unset, .unset, .unset, .unset, .unset, .unset, .unset, .unset, .unset, .unset] [(.ref b1), (.ref b1)]))
  refine own_by (fun _ k => XS.iconst X7.here hx rfl (hb hby at_33) k) ?_
  show own_Go _ _ _ _ (T7.setTop (mkF m 34 #[.val (.long q1), .second, .val (.int p2), .val (.int p3), .unset, .unset, .unset, .unset, .unset, .unset, .unset, .unset, .unset, .unset, .unset, .unset, .unset] [(.int (5 : Int32)), (.ref b1), (.ref b1)]))
  refine own_by (fun _ k => X7.ldc2Long hx hown (mvT hZ (hw _ (List.mem_of_getElem? (i := 5) rfl))) (g := (mkF m 34 #[.val (.long q1), .second, .val (.int p2), .val (.int p3), .unset, .unset, .unset, .unset, .unset, .unset, .unset, .unset, .unset, .unset, .unset, .unset, .unset] [(.int (5 : Int32)), (.ref b1), (.ref b1)])) rfl (hb hby at_34) _ k) ?_
  show own_Go _ _ _ _ (T7.setTop (mkF m 37 #[.val (.long q1), .second, .val (.int p2), .val (.int p3), .unset, .unset, .unset, .unset, .unset, .unset, .unset, .unset, .unset, .unset, .unset, .unset, .unset] [(.long (100000 : Int64)), (.int (5 : Int32)), (.ref b1), (.ref b1)]))
  refine own_las X7 hx hZ e7 A7 5 (by decide) (by decide) (hb hby at_37) ?_
  intro T8 h8 X8 e8 W8 A8
  have N8 := Fr.snoc X8 N7 ge1
  have Z8 := own_size_wr W8 Z7
  obtain ⟨fn8, hfn8⟩ : ∃ g : Nat → Int64, g = own_upd fn7 5 (100000 : Int64) := ⟨_, rfl⟩
  rw [← hfn8] at A8
  show own_Go _ _ _ _ (T8.setTop (mkF m 38 #[.val (.long q1), .second, .val (.int p2), .val (.int p3), .unset, .unset, .unset, .unset, .unset, .unset, .unset, .unset, .unset, .unset, .unset, .unset, .unset] [(.ref b1)]))
  refine own_by (fun _ k => XS.dup X8.here hx rfl (hb hby at_38) rfl rfl k) ?_
  show own_Go _ _ _ _ (T8.setTop (mkF m 39 #[.val (.long q1), .second, .val (.int p2), .val (.int p3), .unset, .unset, .unset, .unset, .unset, .unset, .unset, .unset, .unset, .unset, .unset, .unset, .unset] [(.ref b1), (.ref b1)]))
  refine own_by (fun _ k => XS.bipush X8.here hx rfl (hb hby at_39) k) ?_
  show own_Go _ _ _ _ (T8.setTop (mkF m 41 #[.val (.long q1), .second, .val (.int p2), .val (.int p3), .unset, .unset, .unset, .unset, .unset, .unset, .unset, .unset, .unset, .unset, .unset, .unset, .unset] [(.int (6 : Int32)), (.ref b1), (.ref b1)]))
  refine own_by (fun _ k => X8.ldc2Long hx hown (mvT hZ (hw _ (List.mem_of_getElem? (i := 6) rfl))) (g := (mkF m 41 #[.val (.long q1), .second, .val (.int p2), .val (.int p3), .unset, .unset, .unset, .unset, .unset, .unset, .unset, .unset, .unset, .unset, .unset, .unset, .unset] [(.int (6 : Int32)), (.ref b1), (.ref b1)])) rfl (hb hby at_41) _ k) ?_
  show own_Go _ _ _ _ (T8.setTop (mkF m 44 #[.val (.long q1), .second, .val (.int p2), .val (.int p3), .unset, .unset, .unset, .unset, .unset, .unset, .unset, .unset, .unset, .unset, .unset, .unset, .unset] [(.long (1000000 : Int64)), (.int (6 : Int32)), (.ref b1), (.ref b1)]))
  refine own_las X8 hx hZ e8 A8 6 (by decide) (by decide) (hb hby at_44) ?_
  intro T9 h9 X9 e9 W9 A9
  have N9 := Fr.snoc X9 N8 ge1
  have Z9 := own_size_wr W9 Z8
  obtain ⟨fn9, hfn9⟩ : ∃ g : Nat → Int64, g = own_upd fn8 6 (1000000 : Int64) := ⟨_, rfl⟩
  rw [← hfn9] at A9
  show own_Go _ _ _ _ (T9.setTop (mkF m 45 #[.val (.long q1), .second, .val (.int p2), .val (.int p3), .unset, .unset, .unset, .unset, .unset, .unset, .unset, .unset, .unset, .unset, .unset, .unset, .unset] [(.ref b1)]))
  refine own_by (fun _ k => XS.dup X9.here hx rfl (hb hby at_45) rfl rfl k) ?_
  show own_Go _ _ _ _ (T9.setTop (mkF m 46 #[.val (.long q1), .second, .val (.int p2), .val (.int p3), .unset, .unset, .unset, .unset, .unset, .unset, .unset, .unset, .unset, .unset, .unset, .unset, .unset] [(.ref b1), (.ref b1)]))
  refine own_by (fun _ k => XS.bipush X9.here hx rfl (hb hby at_46) k) ?_
  show own_Go _ _ _ _ (T9.setTop (mkF m 48 #[.val (.long q1), .second, .val (.int p2), .val (.int p3), .unset, .unset, .unset, .unset, .unset, .unset, .unset, .unset, .unset, .unset, .unset, .unset, .unset] [(.int (7 : Int32)), (.ref b1), (.ref b1)]))
  refine own_by (fun _ k => X9.ldc2Long hx hown (mvT hZ (hw _ (List.mem_of_getElem? (i := 7) rfl))) (g := (mkF m 48 #[.val (.long q1), .second, .val (.int p2), .val (.int p3), .unset, .unset, .unset, .unset, .unset, .unset, .unset, .unset, .unset, .unset, .unset, .unset, .unset] [(.int (7 : Int32)), (.ref b1), (.ref b1)])) rfl (hb hby at_48) _ k) ?_
  show own_Go _ _ _ _ (T9.setTop (mkF m 51 #[.val (.long q1), .second, .val (.int p2), .val (.int p3), .unset, .unset, .unset, .unset, .unset, .unset, .unset, .unset, .unset, .unset, .unset, .unset, .unset] [(.long (10000000 : Int64)), (.int (7 : Int32)), (.ref b1), (.ref b1)]))
  refine own_las X9 hx hZ e9 A9 7 (by decide) (by decide) (hb hby at_51) ?_
  intro T10 h10 X10 e10 W10 A10
  have N10 := Fr.snoc X10 N9 ge1
  have Z10 := own_size_wr W10 Z9
  obtain ⟨fn10, hfn10⟩ : ∃ g : Nat → Int64, g = own_upd fn9 7 (10000000 : Int64) := ⟨_, rfl⟩
  rw [← hfn10] at A10
  show own_Go _ _ _ _ (T10.setTop (mkF m 52 #[.val (.long q1), .second, .val (.int p2), .val (.int p3), .unset, .unset, .unset, .unset, .unset, .unset, .unset, .unset, .unset, .unset, .unset, .unset, .unset] [(.ref b1)]))
  refine own_by (fun _ k => XS.dup X10.here hx rfl (hb hby at_52) rfl rfl k) ?_
  show own_Go _ _ _ _ (T10.setTop (mkF m 53 #[.val (.long q1), .second, .val (.int p2), .val (.int p3), .unset, .unset, .unset, .unset, .unset, .unset, .unset, .unset, .unset, .unset, .unset, .unset, .unset] [(.ref b1), (.ref b1)]))
  refine own_by (fun _ k => XS.bipush X10.here hx rfl (hb hby at_53) k) ?_
  show own_Go _ _ _ _ (T10.setTop (mkF m 55 #[.val (.long q1), .second, .val (.int p2), .val (.int p3), .unset, .unset, .unset, .unset, .unset, .unset, .unset, .unset, .unset, .unset, .unset, .unset, .unset] [(.int (8 : Int32)), (.ref b1), (.ref b1)]))
  refine own_by (fun _ k => X10.ldc2Long hx hown (mvT hZ (hw _ (List.mem_of_getElem? (i := 8) rfl))) (g := (mkF m 55 #[.val (.long q1), .second, .val (.int p2), .val (.int p3), .unset, .unset, .unset, .unset, .unset, .unset, .unset, .unset, .unset, .unset, .unset, .unset, .unset] [(.int (8 : Int32)), (.ref b1), (.ref b1)])) rfl (hb hby at_55) _ k) ?_
  show own_Go _ _ _ _ (T10.setTop (mkF m 58 #[.val (.long q1), .second, .val (.int p2), .val (.int p3), .unset, .unset, .unset, .unset, .unset, .unset, .unset, .unset, .unset, .unset, .unset, .unset, .unset] [(.long (100000000 : Int64)), (.int (8 : Int32)), (.ref b1), (.ref b1)]))
  refine own_las X10 hx hZ e10 A10 8 (by decide) (by decide) (hb hby at_58) ?_
  intro T11 h11 X11 e11 W11 A11
  have N11 := Fr.snoc X11 N10 ge1
  have Z11 := own_size_wr W11 Z10
  obtain ⟨fn11, hfn11⟩ : ∃ g : Nat → Int64, g = own_upd fn10 8 (100000000 : Int64) := ⟨_, rfl⟩
  rw [← hfn11] at A11
  show own_Go _ _ _ _ (T11.setTop (mkF m 59 #[.val (.long q1), .second, .val (.int p2), .val (.int p3), .unset, .unset, .unset, .unset, .unset, .unset, .unset, .unset, .unset, .unset, .unset, .unset, .unset] [(.ref b1)]))
  refine own_by (fun _ k => XS.dup X11.here hx rfl (hb hby at_59) rfl rfl k) ?_
  show own_Go _ _ _ _ (T11.setTop (mkF m 60 #[.val (.long q1), .second, .val (.int p2), .val (.int p3), .unset, .unset, .unset, .unset, .unset, .unset, .unset, .unset, .unset, .unset, .unset, .unset, .unset] [(.ref b1), (.ref b1)]))
  refine own_by (fun _ k => XS.bipush X11.here hx rfl (hb hby at_60) k) ?_
  show own_Go _ _ _ _ (T11.setTop (mkF m 62 #[.val (.long q1), .second, .val (.int p2), .val (.int p3), .unset, .unset, .unset, .unset, .unset, .unset, .unset, .unset, .unset, .unset, .unset, .unset, .unset] [(.int (9 : Int32)), (.ref b1), (.ref b1)]))
  refine own_by (fun _ k => X11.ldc2Long hx hown (mvT hZ (hw _ (List.mem_of_getElem? (i := 9) rfl))) (g := (mkF m 62 #[.val (.long q1), .second, .val (.int p2), .val (.int p3), .unset, .unset, .unset, .unset, .unset, .unset, .unset, .unset, .unset, .unset, .unset, .unset, .unset] [(.int (9 : Int32)), (.ref b1), (.ref b1)])) rfl (hb hby at_62) _ k) ?_
  show own_Go _ _ _ _ (T11.setTop (mkF m 65 #[.val (.long q1), .second, .val (.int p2), .val (.int p3), .unset, .unset, .unset, .unset, .unset, .unset, .unset, .unset, .unset, .unset, .unset, .unset, .unset] [(.long (1000000000 : Int64)), (.int (9 : Int32)), (.ref b1), (.ref b1)]))
  refine own_las X11 hx hZ e11 A11 9 (by decide) (by decide) (hb hby at_65) ?_
  intro T12 h12 X12 e12 W12 A12
  have N12 := Fr.snoc X12 N11 ge1
  have Z12 := own_size_wr W12 Z11
  obtain ⟨fn12, hfn12⟩ : ∃ g : Nat → Int64, g = own_upd fn11 9 (1000000000 : Int64) := ⟨_, rfl⟩
  rw [← hfn12] at A12
  show own_Go _ _ _ _ (T12.setTop (mkF m 66 #[.val (.long q1), .second, .val (.int p2), .val (.int p3), .unset, .unset, .unset, .unset, .unset, .unset, .unset, .unset, .unset, .unset, .unset, .unset, .unset] [(.ref b1)]))
  refine own_by (fun _ k => XS.dup X12.here hx rfl (hb hby at_66) rfl rfl k) ?_
  show own_Go _ _ _ _ (T12.setTop (mkF m 67 #[.val (.long q1), .second, .val (.int p2), .val (.int p3), .unset, .unset, .unset, .unset, .unset, .unset, .unset, .unset, .unset, .unset, .unset, .unset, .unset] [(.ref b1), (.ref b1)]))
  refine own_by (fun _ k => XS.bipush X12.here hx rfl (hb hby at_67) k) ?_
  show own_Go _ _ _ _ (T12.setTop (mkF m 69 #[.val (.long q1), .second, .val (.int p2), .val (.int p3), .unset, .unset, .unset, .unset, .unset, .unset, .unset, .unset, .unset, .unset, .unset, .unset, .unset] [(.int (10 : Int32)), (.ref b1), (.ref b1)]))
  refine own_by (fun _ k => X12.ldc2Long hx hown (mvT hZ (hw _ (List.mem_of_getElem? (i := 10) rfl))) (g := (mkF m 69 #[.val (.long q1), .second, .val (.int p2), .val (.int p3), .unset, .unset, .unset, .unset, .unset, .unset, .unset, .unset, .unset, .unset, .unset, .unset, .unset] [(.int (10 : Int32)), (.ref b1), (.ref b1)])) rfl (hb hby at_69) _ k) ?_
  show own_Go _ _ _ _ (T12.setTop (mkF m 72 #[.val (.long q1), .second, .val (.int p2), .val (.int p3), .unset, .unset, .unset, .unset, .unset, .unset, .unset, .unset, .unset, .unset, .unset, .unset, .unset] [(.long (10000000000 : Int64)), (.int (10 : Int32)), (.ref b1), (.ref b1)]))
  refine own_las X12 hx hZ e12 A12 10 (by decide) (by decide) (hb hby at_72) ?_
  intro T13 h13 X13 e13 W13 A13
  have N13 := Fr.snoc X13 N12 ge1
  have Z13 := own_size_wr W13 Z12
  obtain ⟨fn13, hfn13⟩ : ∃ g : Nat → Int64, g = own_upd fn12 10 (10000000000 : Int64) := ⟨_, rfl⟩
  rw [← hfn13] at A13
  show own_Go _ _ _ _ (T13.setTop (mkF m 73 #[.val (.long q1), .second, .val (.int p2), .val (.int p3), .unset, .unset, .unset, .unset, .unset, .unset, .unset, .unset, .unset, .unset, .unset, .unset, .unset] [(.ref b1)]))
  refine own_by (fun _ k => XS.dup X13.here hx rfl (hb hby at_73) rfl rfl k) ?_
  show own_Go _ _ _ _ (T13.setTop (mkF m 74 #[.val (.long q1), .second, .val (.int p2), .val (.int p3), .unset, .unset, .unset, .unset, .unset, .unset, .unset, .unset, .unset, .unset, .unset, .unset, .unset] [(.ref b1), (.ref b1)]))
  refine own_by (fun _ k => XS.bipush X13.here hx rfl (hb hby at_74) k) ?_
  show own_Go _ _ _ _ (T13.setTop (mkF m 76 #[.val (.long q1), .second, .val (.int p2), .val (.int p3), .unset, .unset, .unset, .unset, .unset, .unset, .unset, .unset, .unset, .unset, .unset, .unset, .unset] [(.int (11 : Int32)), (.ref b1), (.ref b1)]))
  refine own_by (fun _ k => X13.ldc2Long hx hown (mvT hZ (hw _ (List.mem_of_getElem? (i := 11) rfl))) (g := (mkF m 76 #[.val (.long q1), .second, .val (.int p2), .val (.int p3), .unset, .unset, .unset, .unset, .unset, .unset, .unset, .unset, .unset, .unset, .unset, .unset, .unset] [(.int (11 : Int32)), (.ref b1), (.ref b1)])) rfl (hb hby at_76) _ k) ?_
  show own_Go _ _ _ _ (T13.setTop (mkF m 79 #[.val (.long q1), .second, .val (.int p2), .val (.int p3), .unset, .unset, .unset, .unset, .unset, .unset, .unset, .unset, .unset, .unset, .unset, .unset, .unset] [(.long (100000000000 : Int64)), (.int (11 : Int32)), (.ref b1), (.ref b1)]))
  refine own_las X13 hx hZ e13 A13 11 (by decide) (by decide) (hb hby at_79) ?_
  intro T14 h14 X14 e14 W14 A14
  have N14 := Fr.snoc X14 N13 ge1
  have Z14 := own_size_wr W14 Z13
  obtain ⟨fn14, hfn14⟩ : ∃ g : Nat → Int64, g = own_upd fn13 11 (100000000000 : Int64) := ⟨_, rfl⟩
  rw [← hfn14] at A14
  show own_Go _ _ _ _ (T14.setTop (mkF m 80 #[.val (.long q1), .second, .val (.int p2), .val (.int p3), .unset, .unset, .unset, .unset, .unset, .unset, .unset, .unset, .unset, .unset, .unset, .unset, .unset] [(.ref b1)]))
  refine own_by (fun _ k => XS.dup X14.here hx rfl (hb hby at_80) rfl rfl k) ?_
  show own_Go _ _ _ _ (T14.setTop (mkF m 81 #[.val (.long q1), .second, .val (.int p2), .val (.int p3), .unset, .unset, .unset, .unset, .unset, .unset, .unset, .unset, .unset, .unset, .unset, .unset, .unset] [(.ref b1), (.ref b1)]))
  refine own_by (fun _ k => XS.bipush X14.here hx rfl (hb hby at_81) k) ?_
  show own_Go _ _ _ _ (T14.setTop (mkF m 83 #[.val (.long q1), .second, .val (.int p2), .val (.int p3), .unset, .unset, .unset, .unset, .unset, .unset, .unset, .unset, .unset, .unset, .unset, .unset, .unset] [(.int (12 : Int32)), (.ref b1), (.ref b1)]))
  refine own_by (fun _ k => X14.ldc2Long hx hown (mvT hZ (hw _ (List.mem_of_getElem? (i := 12) rfl))) (g := (mkF m 83 #[.val (.long q1), .second, .val (.int p2), .val (.int p3), .unset, .unset, .unset, .unset, .unset, .unset, .unset, .unset, .unset, .unset, .unset, .unset, .unset] [(.int (12 : Int32)), (.ref b1), (.ref b1)])) rfl (hb hby at_83) _ k) ?_
  show own_Go _ _ _ _ (T14.setTop (mkF m 86 #[.val (.long q1), .second, .val (.int p2), .val (.int p3), .unset, .unset, .unset, .unset, .unset, .unset, .unset, .unset, .unset, .unset, .unset, .unset, .unset] [(.long (1000000000000 : Int64)), (.int (12 : Int32)), (.ref b1), (.ref b1)]))
  refine own_las X14 hx hZ e14 A14 12 (by decide) (by decide) (hb hby at_86) ?_
  intro T15 h15 X15 e15 W15 A15
  have N15 := Fr.snoc X15 N14 ge1
  have Z15 := own_size_wr W15 Z14
  obtain ⟨fn15, hfn15⟩ : ∃ g : Nat → Int64, g = own_upd fn14 12 (1000000000000 : Int64) := ⟨_, rfl⟩
  rw [← hfn15] at A15
  show own_Go _ _ _ _ (T15.setTop (mkF m 87 #[.val (.long q1), .second, .val (.int p2), .val (.int p3), .unset, .unset, .unset, .unset, .unset, .unset, .unset, .unset, .unset, .unset, .unset, .unset, .unset] [(.ref b1)]))
  refine own_by (fun _ k => XS.dup X15.here hx rfl (hb hby at_87) rfl rfl k) ?_
  show own_Go _ _ _ _ (T15.setTop (mkF m 88 #[.val (.long q1), .second, .val (.int p2), .val (.int p3), .unset, .unset, .unset, .unset, .unset, .unset, .unset, .unset, .unset, .unset, .unset, .unset, .unset] [(.ref b1), (.ref b1)]))
  refine own_by (fun _ k => XS.bipush X15.here hx rfl (hb hby at_88) k) ?_
  show own_Go _ _ _ _ (T15.setTop (mkF m 90 #[.val (.long q1), .second, .val (.int p2), .val (.int p3), .unset, .unset, .unset, .unset, .unset, .unset, .unset, .unset, .unset, .unset, .unset, .unset, .unset] [(.int (13 : Int32)), (.ref b1), (.ref b1)]))
  refine own_by (fun _ k => X15.ldc2Long hx hown (mvT hZ (hw _ (List.mem_of_getElem? (i := 13) rfl))) (g := (mkF m 90 #[.val (.long q1), .second, .val (.int p2), .val (.int p3), .unset, .unset, .unset, .unset, .unset, .unset, .unset, .unset, .unset, .unset, .unset, .unset, .unset] [(.int (13 : Int32)), (.ref b1), (.ref b1)])) rfl (hb hby at_90) _ k) ?_
  show own_Go _ _ _ _ (T15.setTop (mkF m 93 #[.val (.long q1), .second, .val (.int p2), .val (.int p3), .unset, .unset, .unset, .unset, .unset, .unset, .unset, .unset, .unset, .unset, .unset, .unset, .unset] [(.long (10000000000000 : Int64)), (.int (13 : Int32)), (.ref b1), (.ref b1)]))
  refine own_las X15 hx hZ e15 A15 13 (by decide) (by decide) (hb hby at_93) ?_
  intro T16 h16 X16 e16 W16 A16
  have N16 := Fr.snoc X16 N15 ge1
  have Z16 := own_size_wr W16 Z15
  obtain ⟨fn16, hfn16⟩ : ∃ g : Nat → Int64, g = own_upd fn15 13 (10000000000000 : Int64) := ⟨_, rfl⟩
  rw [← hfn16] at A16
  show own_Go _ _ _ _ (T16.setTop (mkF m 94 #[.val (.long q1), .second, .val (.int p2), .val (.int p3), .unset, .unset, .unset, .unset, .unset, .unset, .unset, .unset, .unset, .unset, .unset, .unset, .unset] [(.ref b1)]))
  refine own_by (fun _ k => XS.dup X16.here hx rfl (hb hby at_94) rfl rfl k) ?_
  show own_Go _ _ _ _ (T16.setTop (mkF m 95 #[.val (.long q1), .second, .val (.int p2), .val (.int p3), .unset, .unset, .unset, .unset, .unset, .unset, .unset, .unset, .unset, .unset, .unset, .unset, .unset] [(.ref b1), (.ref b1)]))
  refine own_by (fun _ k => XS.bipush X16.here hx rfl (hb hby at_95) k) ?_
  show own_Go _ _ _ _ (T16.setTop (mkF m 97 #[.val (.long q1), .second, .val (.int p2), .val (.int p3), .unset, .unset, .unset, .unset, .unset, .unset, .unset, .unset, .unset, .unset, .unset, .unset, .unset] [(.int (14 : Int32)), (.ref b1), (.ref b1)]))
  refine own_by (fun _ k => X16.ldc2Long hx hown (mvT hZ (hw _ (List.mem_of_getElem? (i := 14) rfl))) (g := (mkF m 97 #[.val (.long q1), .second, .val (.int p2), .val (.int p3), .unset, .unset, .unset, .unset, .unset, .unset, .unset, .unset, .unset, .unset, .unset, .unset, .unset] [(.int (14 : Int32)), (.ref b1), (.ref b1)])) rfl (hb hby at_97) _ k) ?_
  show own_Go _ _ _ _ (T16.setTop (mkF m 100 #[.val (.long q1), .second, .val (.int p2), .val (.int p3), .unset, .unset, .unset, .unset, .unset, .unset, .unset, .unset, .unset, .unset, .unset, .unset, .unset] [(.long (100000000000000 : Int64)), (.int (14 : Int32)), (.ref b1), (.ref b1)]))
  refine own_las X16 hx hZ e16 A16 14 (by decide) (by decide) (hb hby at_100) ?_
  intro T17 h17 X17 e17 W17 A17
  have N17 := Fr.snoc X17 N16 ge1
  have Z17 := own_size_wr W17 Z16
  obtain ⟨fn17, hfn17⟩ : ∃ g : Nat → Int64, g = own_upd fn16 14 (100000000000000 : Int64) := ⟨_, rfl⟩
  rw [← hfn17] at A17
  show own_Go _ _ _ _ (T17.setTop (mkF m 101 #[.val (.long q1), .second, .val (.int p2), .val (.int p3), .unset, .unset, .unset, .unset, .unset, .unset, .unset, .unset, .unset, .unset, .unset, .unset, .unset] [(.ref b1)]))
  refine own_by (fun _ k => XS.dup X17.here hx rfl (hb hby at_101) rfl rfl k) ?_
  show own_Go _ _ _ _ (T17.setTop (mkF m 102 #[.val (.long q1), .second, .val (.int p2), .val (.int p3), .unset, .unset, .unset, .unset, .unset, .unset, .unset, .unset, .unset, .unset, .unset, .unset, .unset] [(.ref b1), (.ref b1)]))
  refine own_by (fun _ k => XS.bipush X17.here hx rfl (hb hby at_102) k) ?_
  show own_Go _ _ _ _ (T17.setTop (mkF m 104 #[.val (.long q1), .second, .val (.int p2), .val (.int p3), .unset, .unset, .unset, .unset, .unset, .unset, .unset, .unset, .unset, .unset, .unset, .unset, .unset] [(.int (15 : Int32)), (.ref b1), (.ref b1)]))
  refine own_by (fun _ k => X17.ldc2Long hx hown (mvT hZ (hw _ (List.mem_of_getElem? (i := 15) rfl))) (g := (mkF m 104 #[.val (.long q1), .second, .val (.int p2), .val (.int p3), .unset, .unset, .unset, .unset, .unset, .unset, .unset, .unset, .unset, .unset, .unset, .unset, .unset] [(.int (15 : Int32)), (.ref b1), (.ref b1)])) rfl (hb hby at_104) _ k) ?_
  show own_Go _ _ _ _ (T17.setTop (mkF m 107 #[.val (.long q1), .second, .val (.int p2), .val (.int p3), .unset, .unset, .unset, .unset, .unset, .unset, .unset, .unset, .unset, .unset, .unset, .unset, .unset] [(.long (1000000000000000 : Int64)), (.int (15 : Int32)), (.ref b1), (.ref b1)]))
  refine own_las X17 hx hZ e17 A17 15 (by decide) (by decide) (hb hby at_107) ?_
  intro T18 h18 X18 e18 W18 A18
  have N18 := Fr.snoc X18 N17 ge1
  have Z18 := own_size_wr W18 Z17
  obtain ⟨fn18, hfn18⟩ : ∃ g : Nat → Int64, g = own_upd fn17 15 (1000000000000000 : Int64) := ⟨_, rfl⟩
  rw [← hfn18] at A18
  show own_Go _ _ _ _ (T18.setTop (mkF m 108 #[.val (.long q1), .second, .val (.int p2), .val (.int p3), .unset, .unset, .unset, .unset, .unset, .unset, .unset, .unset, .unset, .unset, .unset, .unset, .unset] [(.ref b1)]))
  refine own_by (fun _ k => XS.dup X18.here hx rfl (hb hby at_108) rfl rfl k) ?_
  show own_Go _ _ _ _ (T18.setTop (mkF m 109 #[.val (.long q1), .second, .val (.int p2), .val (.int p3), .unset, .unset, .unset, .unset, .unset, .unset, .unset, .unset, .unset, .unset, .unset, .unset, .unset] [(.ref b1), (.ref b1)]))
  refine own_by (fun _ k => XS.bipush X18.here hx rfl (hb hby at_109) k) ?_
  show own_Go _ _ _ _ (T18.setTop (mkF m 111 #[.val (.long q1), .second, .val (.int p2), .val (.int p3), .unset, .unset, .unset, .unset, .unset, .unset, .unset, .unset, .unset, .unset, .unset, .unset, .unset] [(.int (16 : Int32)), (.ref b1), (.ref b1)]))
  refine own_by (fun _ k => X18.ldc2Long hx hown (mvT hZ (hw _ (List.mem_of_getElem? (i := 16) rfl))) (g := (mkF m 111 #[.val (.long q1), .second, .val (.int p2), .val (.int p3), .unset, .unset, .unset, .unset, .unset, .unset, .unset, .unset, .unset, .unset, .unset, .unset, .unset] [(.int (16 : Int32)), (.ref b1), (.ref b1)])) rfl (hb hby at_111) _ k) ?_
  show own_Go _ _ _ _ (T18.setTop (mkF m 114 #[.val (.long q1), .second, .val (.int p2), .val (.int p3), .unset, .unset, .unset, .unset, .unset, .unset, .unset, .unset, .unset, .unset, .unset, .unset, .unset] [(.long (10000000000000000 : Int64)), (.int (16 : Int32)), (.ref b1), (.ref b1)]))
  refine own_las X18 hx hZ e18 A18 16 (by decide) (by decide) (hb hby at_114) ?_
  intro T19 h19 X19 e19 W19 A19
  have N19 := Fr.snoc X19 N18 ge1
  have Z19 := own_size_wr W19 Z18
  obtain ⟨fn19, hfn19⟩ : ∃ g : Nat → Int64, g = own_upd fn18 16 (10000000000000000 : Int64) := ⟨_, rfl⟩
  rw [← hfn19] at A19
  show own_Go _ _ _ _ (T19.setTop (mkF m 115 #[.val (.long q1), .second, .val (.int p2), .val (.int p3), .unset, .unset, .unset, .unset, .unset, .unset, .unset, .unset, .unset, .unset, .unset, .unset, .unset] [(.ref b1)]))
  refine own_by (fun _ k => XS.dup X19.here hx rfl (hb hby at_115) rfl rfl k) ?_
  show own_Go _ _ _ _ (T19.setTop (mkF m 116 #[.val (.long q1), .second, .val (.int p2), .val (.int p3), .unset, .unset, .unset, .unset, .unset, .unset, .unset, .unset, .unset, .unset, .unset, .unset, .unset] [(.ref b1), (.ref b1)]))
  refine own_by (fun _ k => XS.bipush X19.here hx rfl (hb hby at_116) k) ?_
  show own_Go _ _ _ _ (T19.setTop (mkF m 118 #[.val (.long q1), .second, .val (.int p2), .val (.int p3), .unset, .unset, .unset, .unset, .unset, .unset, .unset, .unset, .unset, .unset, .unset, .unset, .unset] [(.int (17 : Int32)), (.ref b1), (.ref b1)]))
  refine own_by (fun _ k => X19.ldc2Long hx hown (mvT hZ (hw _ (List.mem_of_getElem? (i := 17) rfl))) (g := (mkF m 118 #[.val (.long q1), .second, .val (.int p2), .val (.int p3), .unset, .unset, .unset, .unset, .unset, .unset, .unset, .unset, .unset, .unset, .unset, .unset, .unset] [(.int (17 : Int32)), (.ref b1), (.ref b1)])) rfl (hb hby at_118) _ k) ?_
  show own_Go _ _ _ _ (T19.setTop (mkF m 121 #[.val (.long q1), .second, .val (.int p2), .val (.int p3), .unset, .unset, .unset, .unset, .unset, .unset, .unset, .unset, .unset, .unset, .unset, .unset, .unset] [(.long (100000000000000000 : Int64)), (.int (17 : Int32)), (.ref b1), (.ref b1)]))
  refine own_las X19 hx hZ e19 A19 17 (by decide) (by decide) (hb hby at_121) ?_
  intro T20 h20 X20 e20 W20 A20
  have N20 := Fr.snoc X20 N19 ge1
  have Z20 := own_size_wr W20 Z19
  obtain ⟨fn20, hfn20⟩ : ∃ g : Nat → Int64, g = own_upd fn19 17 (100000000000000000 : Int64) := ⟨_, rfl⟩
  rw [← hfn20] at A20
  show own_Go _ _ _ _ (T20.setTop (mkF m 122 #[.val (.long q1), .second, .val (.int p2), .val (.int p3), .unset, .unset, .unset, .unset, .unset, .unset, .unset, .unset, .unset, .unset, .unset, .unset, .unset] [(.ref b1)]))
  refine own_by (fun _ k => XS.astore X20.here hx rfl (hb hby at_122) rfl rfl (l' := #[.val (.long q1), .second, .val (.int p2), .val (.int p3), .val (.ref b1), .unset, .unset, .unset, .unset, .unset, .unset, .unset, .unset, .unset, .unset, .unset, .unset]) rfl k) ?_
  have hpw : fn20 = own_pw := by simp only [hfn20, hfn19, hfn18, hfn17, hfn16, hfn15, hfn14, hfn13, hfn12, hfn11, hfn10, hfn9, hfn8, hfn7, hfn6, hfn5, hfn4, hfn3]; rfl
  have Apw : own_AJ Z h20 b1 18 own_pw := by rw [← hpw]; exact A20
  show own_Go _ _ _ _ (T20.setTop (mkF m 124 #[.val (.long q1), .second, .val (.int p2), .val (.int p3), .val (.ref b1), .unset, .unset, .unset, .unset, .unset, .unset, .unset, .unset, .unset, .unset, .unset, .unset] []))
  refine own_by (fun _ k => XS.lloadN X20.here hx rfl (hb hby at_124) rfl k) ?_
  show own_Go _ _ _ _ (T20.setTop (mkF m 125 #[.val (.long q1), .second, .val (.int p2), .val (.int p3), .val (.ref b1), .unset, .unset, .unset, .unset, .unset, .unset, .unset, .unset, .unset, .unset, .unset, .unset] [(.long q1)]))
  refine own_by (fun _ k => X20.ldc2Long hx hown (mvT hZ (hw _ (List.mem_of_getElem? (i := 18) rfl))) (g := (mkF m 125 #[.val (.long q1), .second, .val (.int p2), .val (.int p3), .val (.ref b1), .unset, .unset, .unset, .unset, .unset, .unset, .unset, .unset, .unset, .unset, .unset, .unset] [(.long q1)])) rfl (hb hby at_125) _ k) ?_
  show own_Go _ _ _ _ (T20.setTop (mkF m 128 #[.val (.long q1), .second, .val (.int p2), .val (.int p3), .val (.ref b1), .unset, .unset, .unset, .unset, .unset, .unset, .unset, .unset, .unset, .unset, .unset, .unset] [(.long (9223372036854775807 : Int64)), (.long q1)]))
  refine own_by (fun _ k => XS.land X20.here hx rfl (hb hby at_128) rfl k) ?_
  show own_Go _ _ _ _ (T20.setTop (mkF m 129 #[.val (.long q1), .second, .val (.int p2), .val (.int p3), .val (.ref b1), .unset, .unset, .unset, .unset, .unset, .unset, .unset, .unset, .unset, .unset, .unset, .unset] [(.long (q1 &&& (9223372036854775807 : Int64)))]))
  refine own_by (fun _ k => X20.ldc2Long hx hown (mvT hZ (hw _ (List.mem_of_getElem? (i := 19) rfl))) (g := (mkF m 129 #[.val (.long q1), .second, .val (.int p2), .val (.int p3), .val (.ref b1), .unset, .unset, .unset, .unset, .unset, .unset, .unset, .unset, .unset, .unset, .unset, .unset] [(.long (q1 &&& (9223372036854775807 : Int64)))])) rfl (hb hby at_129) _ k) ?_
  show own_Go _ _ _ _ (T20.setTop (mkF m 132 #[.val (.long q1), .second, .val (.int p2), .val (.int p3), .val (.ref b1), .unset, .unset, .unset, .unset, .unset, .unset, .unset, .unset, .unset, .unset, .unset, .unset] [(.long (1000000000000000000 : Int64)), (.long (q1 &&& (9223372036854775807 : Int64)))]))
  refine own_by (fun _ k => XS.lrem X20.here hx rfl (hb hby at_132) rfl (by decide) k) ?_
  show own_Go _ _ _ _ (T20.setTop (mkF m 133 #[.val (.long q1), .second, .val (.int p2), .val (.int p3), .val (.ref b1), .unset, .unset, .unset, .unset, .unset, .unset, .unset, .unset, .unset, .unset, .unset, .unset] [(.long ((q1 &&& (9223372036854775807 : Int64)) - (q1 &&& (9223372036854775807 : Int64)) / (1000000000000000000 : Int64) * (1000000000000000000 : Int64)))]))
  obtain ⟨v5_21, hv5_21⟩ : ∃ z_ : Int64, ((q1 &&& (9223372036854775807 : Int64)) - (q1 &&& (9223372036854775807 : Int64)) / (1000000000000000000 : Int64) * (1000000000000000000 : Int64)) = z_ := ⟨_, rfl⟩
  refine own_gen hv5_21 (fun z_ => T20.setTop (mkF m 133 #[.val (.long q1), .second, .val (.int p2), .val (.int p3), .val (.ref b1), .unset, .unset, .unset, .unset, .unset, .unset, .unset, .unset, .unset, .unset, .unset, .unset] [(.long z_)])) ?_
  refine own_by (fun _ k => XS.lstore X20.here hx rfl (hb hby at_133) rfl (l' := #[.val (.long q1), .second, .val (.int p2), .val (.int p3), .val (.ref b1), .val (.long v5_21), .second, .unset, .unset, .unset, .unset, .unset, .unset, .unset, .unset, .unset, .unset]) rfl k) ?_
  obtain ⟨M, hM, hm⟩ := own_m _ _ hv5_21
  show own_Go _ _ _ _ (T20.setTop (mkF m 135 #[.val (.long q1), .second, .val (.int p2), .val (.int p3), .val (.ref b1), .val (.long v5_21), .second, .unset, .unset, .unset, .unset, .unset, .unset, .unset, .unset, .unset, .unset] []))
  refine own_by (fun _ k => XS.iloadN X20.here hx rfl (hb hby at_135) rfl k) ?_
  show own_Go _ _ _ _ (T20.setTop (mkF m 136 #[.val (.long q1), .second, .val (.int p2), .val (.int p3), .val (.ref b1), .val (.long v5_21), .second, .unset, .unset, .unset, .unset, .unset, .unset, .unset, .unset, .unset, .unset] [(.int p2)]))
  refine own_by (fun _ k => XS.iconst X20.here hx rfl (hb hby at_136) k) ?_
  show own_Go _ _ _ _ (T20.setTop (mkF m 137 #[.val (.long q1), .second, .val (.int p2), .val (.int p3), .val (.ref b1), .val (.long v5_21), .second, .unset, .unset, .unset, .unset, .unset, .unset, .unset, .unset, .unset, .unset] [(.int (3 : Int32)), (.int p2)]))
  refine own_by (fun _ k => XS.iand X20.here hx rfl (hb hby at_137) rfl k) ?_
  show own_Go _ _ _ _ (T20.setTop (mkF m 138 #[.val (.long q1), .second, .val (.int p2), .val (.int p3), .val (.ref b1), .val (.long v5_21), .second, .unset, .unset, .unset, .unset, .unset, .unset, .unset, .unset, .unset, .unset] [(.int (p2 &&& (3 : Int32)))]))
  obtain ⟨v7_22, hv7_22⟩ : ∃ z_ : Int32, (p2 &&& (3 : Int32)) = z_ := ⟨_, rfl⟩
  refine own_gen hv7_22 (fun z_ => T20.setTop (mkF m 138 #[.val (.long q1), .second, .val (.int p2), .val (.int p3), .val (.ref b1), .val (.long v5_21), .second, .unset, .unset, .unset, .unset, .unset, .unset, .unset, .unset, .unset, .unset] [(.int z_)])) ?_
  refine own_by (fun _ k => XS.istore X20.here hx rfl (hb hby at_138) rfl (l' := #[.val (.long q1), .second, .val (.int p2), .val (.int p3), .val (.ref b1), .val (.long v5_21), .second, .val (.int v7_22), .unset, .unset, .unset, .unset, .unset, .unset, .unset, .unset, .unset]) rfl k) ?_
  obtain ⟨F, hF3, hF⟩ := own_from _ _ hv7_22
  show own_Go _ _ _ _ (T20.setTop (mkF m 140 #[.val (.long q1), .second, .val (.int p2), .val (.int p3), .val (.ref b1), .val (.long v5_21), .second, .val (.int v7_22), .unset, .unset, .unset, .unset, .unset, .unset, .unset, .unset, .unset] []))
  refine own_by (fun _ k => XS.iloadN X20.here hx rfl (hb hby at_140) rfl k) ?_
  show own_Go _ _ _ _ (T20.setTop (mkF m 141 #[.val (.long q1), .second, .val (.int p2), .val (.int p3), .val (.ref b1), .val (.long v5_21), .second, .val (.int v7_22), .unset, .unset, .unset, .unset, .unset, .unset, .unset, .unset, .unset] [(.int p2)]))
  refine own_by (fun _ k => XS.iconst X20.here hx rfl (hb hby at_141) k) ?_
  show own_Go _ _ _ _ (T20.setTop (mkF m 142 #[.val (.long q1), .second, .val (.int p2), .val (.int p3), .val (.ref b1), .val (.long v5_21), .second, .val (.int v7_22), .unset, .unset, .unset, .unset, .unset, .unset, .unset, .unset, .unset] [(.int (2 : Int32)), (.int p2)]))
  refine own_by (fun _ k => XS.iushr X20.here hx rfl (hb hby at_142) rfl k) ?_
  show own_Go _ _ _ _ (T20.setTop (mkF m 143 #[.val (.long q1), .second, .val (.int p2), .val (.int p3), .val (.ref b1), .val (.long v5_21), .second, .val (.int v7_22), .unset, .unset, .unset, .unset, .unset, .unset, .unset, .unset, .unset] [(.int ((p2.toUInt32 >>> ((2 : Int32) &&& 31).toUInt32).toInt32))]))
  refine own_by (fun _ k => XS.iconst X20.here hx rfl (hb hby at_143) k) ?_
  show own_Go _ _ _ _ (T20.setTop (mkF m 144 #[.val (.long q1), .second, .val (.int p2), .val (.int p3), .val (.ref b1), .val (.long v5_21), .second, .val (.int v7_22), .unset, .unset, .unset, .unset, .unset, .unset, .unset, .unset, .unset] [(.int (1 : Int32)), (.int ((p2.toUInt32 >>> ((2 : Int32) &&& 31).toUInt32).toInt32))]))
  refine own_by (fun _ k => XS.iand X20.here hx rfl (hb hby at_144) rfl k) ?_
  show own_Go _ _ _ _ (T20.setTop (mkF m 145 #[.val (.long q1), .second, .val (.int p2), .val (.int p3), .val (.ref b1), .val (.long v5_21), .second, .val (.int v7_22), .unset, .unset, .unset, .unset, .unset, .unset, .unset, .unset, .unset] [(.int (((p2.toUInt32 >>> ((2 : Int32) &&& 31).toUInt32).toInt32) &&& (1 : Int32)))]))
  by_cases hc23 : (((p2.toUInt32 >>> ((2 : Int32) &&& 31).toUInt32).toInt32) &&& (1 : Int32)) = (0 : Int32)
  · --
    refine own_by (fun _ k => XS.ifYes X20.here hx rfl (pc0 := 145) (pc' := 152) rfl (hb hby at_145) rfl ((if0 _ _).trans (teq hc23).1) (by decide) (by decide) k) ?_
    show own_Go _ _ _ _ (T20.setTop (mkF m 152 #[.val (.long q1), .second, .val (.int p2), .val (.int p3), .val (.ref b1), .val (.long v5_21), .second, .val (.int v7_22), .unset, .unset, .unset, .unset, .unset, .unset, .unset, .unset, .unset] []))
    refine own_by (fun _ k => XS.iconst X20.here hx rfl (hb hby at_152) k) ?_
    show own_Go _ _ _ _ (T20.setTop (mkF m 153 #[.val (.long q1), .second, .val (.int p2), .val (.int p3), .val (.ref b1), .val (.long v5_21), .second, .val (.int v7_22), .unset, .unset, .unset, .unset, .unset, .unset, .unset, .unset, .unset] [(.int (0 : Int32))]))
    refine own_by (fun _ k => XS.istore X20.here hx rfl (hb hby at_153) rfl (l' := #[.val (.long q1), .second, .val (.int p2), .val (.int p3), .val (.ref b1), .val (.long v5_21), .second, .val (.int v7_22), .val (.int (0 : Int32)), .unset, .unset, .unset, .unset, .unset, .unset, .unset, .unset]) rfl k) ?_
    show own_Go _ _ _ _ (T20.setTop (mkF m 155 #[.val (.long q1), .second, .val (.int p2), .val (.int p3), .val (.ref b1), .val (.long v5_21), .second, .val (.int v7_22), .val (.int (0 : Int32)), .unset, .unset, .unset, .unset, .unset, .unset, .unset, .unset] []))
    refine own_by (fun _ k => XS.iconst X20.here hx rfl (hb hby at_155) k) ?_
    show own_Go _ _ _ _ (T20.setTop (mkF m 156 #[.val (.long q1), .second, .val (.int p2), .val (.int p3), .val (.ref b1), .val (.long v5_21), .second, .val (.int v7_22), .val (.int (0 : Int32)), .unset, .unset, .unset, .unset, .unset, .unset, .unset, .unset] [(.int (1 : Int32))]))
    refine own_by (fun _ k => XS.iloadN X20.here hx rfl (hb hby at_156) rfl k) ?_
    show own_Go _ _ _ _ (T20.setTop (mkF m 157 #[.val (.long q1), .second, .val (.int p2), .val (.int p3), .val (.ref b1), .val (.long v5_21), .second, .val (.int v7_22), .val (.int (0 : Int32)), .unset, .unset, .unset, .unset, .unset, .unset, .unset, .unset] [(.int p2), (.int (1 : Int32))]))
    refine own_by (fun _ k => XS.iconst X20.here hx rfl (hb hby at_157) k) ?_
    show own_Go _ _ _ _ (T20.setTop (mkF m 158 #[.val (.long q1), .second, .val (.int p2), .val (.int p3), .val (.ref b1), .val (.long v5_21), .second, .val (.int v7_22), .val (.int (0 : Int32)), .unset, .unset, .unset, .unset, .unset, .unset, .unset, .unset] [(.int (3 : Int32)), (.int p2), (.int (1 : Int32))]))
    refine own_by (fun _ k => XS.iushr X20.here hx rfl (hb hby at_158) rfl k) ?_
    show own_Go _ _ _ _ (T20.setTop (mkF m 159 #[.val (.long q1), .second, .val (.int p2), .val (.int p3), .val (.ref b1), .val (.long v5_21), .second, .val (.int v7_22), .val (.int (0 : Int32)), .unset, .unset, .unset, .unset, .unset, .unset, .unset, .unset] [(.int ((p2.toUInt32 >>> ((3 : Int32) &&& 31).toUInt32).toInt32)), (.int (1 : Int32))]))
    refine own_by (fun _ k => XS.bipush X20.here hx rfl (hb hby at_159) k) ?_
    show own_Go _ _ _ _ (T20.setTop (mkF m 161 #[.val (.long q1), .second, .val (.int p2), .val (.int p3), .val (.ref b1), .val (.long v5_21), .second, .val (.int v7_22), .val (.int (0 : Int32)), .unset, .unset, .unset, .unset, .unset, .unset, .unset, .unset] [(.int (18 : Int32)), (.int ((p2.toUInt32 >>> ((3 : Int32) &&& 31).toUInt32).toInt32)), (.int (1 : Int32))]))
    refine own_by (fun _ k => iremM X20 hx rfl (hb hby at_161) rfl (by decide) k) ?_
    show own_Go _ _ _ _ (T20.setTop (mkF m 162 #[.val (.long q1), .second, .val (.int p2), .val (.int p3), .val (.ref b1), .val (.long v5_21), .second, .val (.int v7_22), .val (.int (0 : Int32)), .unset, .unset, .unset, .unset, .unset, .unset, .unset, .unset] [(.int (((p2.toUInt32 >>> ((3 : Int32) &&& 31).toUInt32).toInt32) % (18 : Int32))), (.int (1 : Int32))]))
    refine own_by (fun _ k => XS.iadd X20.here hx rfl (hb hby at_162) rfl k) ?_
    show own_Go _ _ _ _ (T20.setTop (mkF m 163 #[.val (.long q1), .second, .val (.int p2), .val (.int p3), .val (.ref b1), .val (.long v5_21), .second, .val (.int v7_22), .val (.int (0 : Int32)), .unset, .unset, .unset, .unset, .unset, .unset, .unset, .unset] [(.int ((1 : Int32) + (((p2.toUInt32 >>> ((3 : Int32) &&& 31).toUInt32).toInt32) % (18 : Int32))))]))
    obtain ⟨v9_24, hv9_24⟩ : ∃ z_ : Int32, ((1 : Int32) + (((p2.toUInt32 >>> ((3 : Int32) &&& 31).toUInt32).toInt32) % (18 : Int32))) = z_ := ⟨_, rfl⟩
    refine own_gen hv9_24 (fun z_ => T20.setTop (mkF m 163 #[.val (.long q1), .second, .val (.int p2), .val (.int p3), .val (.ref b1), .val (.long v5_21), .second, .val (.int v7_22), .val (.int (0 : Int32)), .unset, .unset, .unset, .unset, .unset, .unset, .unset, .unset] [(.int z_)])) ?_
    refine own_by (fun _ k => XS.istore X20.here hx rfl (hb hby at_163) rfl (l' := #[.val (.long q1), .second, .val (.int p2), .val (.int p3), .val (.ref b1), .val (.long v5_21), .second, .val (.int v7_22), .val (.int (0 : Int32)), .val (.int v9_24), .unset, .unset, .unset, .unset, .unset, .unset, .unset]) rfl k) ?_
    obtain ⟨n, hn1, hn18, hn⟩ := own_n _ _ hv9_24
    show own_Go _ _ _ _ (T20.setTop (mkF m 165 #[.val (.long q1), .second, .val (.int p2), .val (.int p3), .val (.ref b1), .val (.long v5_21), .second, .val (.int v7_22), .val (.int (0 : Int32)), .val (.int v9_24), .unset, .unset, .unset, .unset, .unset, .unset, .unset] []))
    refine own_by (fun _ k => XS.bipush X20.here hx rfl (hb hby at_165) k) ?_
    show own_Go _ _ _ _ (T20.setTop (mkF m 167 #[.val (.long q1), .second, .val (.int p2), .val (.int p3), .val (.ref b1), .val (.long v5_21), .second, .val (.int v7_22), .val (.int (0 : Int32)), .val (.int v9_24), .unset, .unset, .unset, .unset, .unset, .unset, .unset] [(.int (22 : Int32))]))
    refine own_newP X20 hx hZ (hw _ (List.mem_of_getElem? (i := 20) rfl)) e20 22 (by decide) 22 (by decide) (by decide) (by decide) (by decide) (hb hby at_167) ?_
    intro T25 h25 X25 e25 E25 A25
    show own_Go _ _ _ _ (T25.setTop (mkF m 169 #[.val (.long q1), .second, .val (.int p2), .val (.int p3), .val (.ref b1), .val (.long v5_21), .second, .val (.int v7_22), .val (.int (0 : Int32)), .val (.int v9_24), .unset, .unset, .unset, .unset, .unset, .unset, .unset] [.ref h20.size]))
    obtain ⟨b25, g25⟩ : ∃ z, z = h20.size := ⟨_, rfl⟩
    rw [← g25] at A25
    refine own_gen g25.symm (fun z_ => T25.setTop (mkF m 169 #[.val (.long q1), .second, .val (.int p2), .val (.int p3), .val (.ref b1), .val (.long v5_21), .second, .val (.int v7_22), .val (.int (0 : Int32)), .val (.int v9_24), .unset, .unset, .unset, .unset, .unset, .unset, .unset] [.ref z_])) ?_
    have ne26 : b1 ≠ b25 := Nat.ne_of_lt (Nat.lt_of_lt_of_le Apw.lt (Nat.le_of_eq g25.symm))
    have ge25 : n0 ≤ b25 := Nat.le_trans Z20 (Nat.le_of_eq g25.symm)
    have f27 := Apw.ext E25
    have Z25 := Nat.le_trans Z20 E25.1
    have f28 : own_AI Z h25 b25 .byte 22 (fun _ => 0) := A25
    show own_Go _ _ _ _ (T25.setTop (mkF m 169 #[.val (.long q1), .second, .val (.int p2), .val (.int p3), .val (.ref b1), .val (.long v5_21), .second, .val (.int v7_22), .val (.int (0 : Int32)), .val (.int v9_24), .unset, .unset, .unset, .unset, .unset, .unset, .unset] [(.ref b25)]))
    refine own_by (fun _ k => XS.astore X25.here hx rfl (hb hby at_169) rfl rfl (l' := #[.val (.long q1), .second, .val (.int p2), .val (.int p3), .val (.ref b1), .val (.long v5_21), .second, .val (.int v7_22), .val (.int (0 : Int32)), .val (.int v9_24), .val (.ref b25), .unset, .unset, .unset, .unset, .unset, .unset]) rfl k) ?_
    show own_Go _ _ _ _ (T25.setTop (mkF m 171 #[.val (.long q1), .second, .val (.int p2), .val (.int p3), .val (.ref b1), .val (.long v5_21), .second, .val (.int v7_22), .val (.int (0 : Int32)), .val (.int v9_24), .val (.ref b25), .unset, .unset, .unset, .unset, .unset, .unset] []))
    refine own_by (fun _ k => XS.aload X25.here hx rfl (hb hby at_171) rfl rfl k) ?_
    show own_Go _ _ _ _ (T25.setTop (mkF m 173 #[.val (.long q1), .second, .val (.int p2), .val (.int p3), .val (.ref b1), .val (.long v5_21), .second, .val (.int v7_22), .val (.int (0 : Int32)), .val (.int v9_24), .val (.ref b25), .unset, .unset, .unset, .unset, .unset, .unset] [(.ref b25)]))
    refine own_by (fun _ k => XS.iconst X25.here hx rfl (hb hby at_173) k) ?_
    show own_Go _ _ _ _ (T25.setTop (mkF m 174 #[.val (.long q1), .second, .val (.int p2), .val (.int p3), .val (.ref b1), .val (.long v5_21), .second, .val (.int v7_22), .val (.int (0 : Int32)), .val (.int v9_24), .val (.ref b25), .unset, .unset, .unset, .unset, .unset, .unset] [(.int (0 : Int32)), (.ref b25)]))
    refine own_by (fun _ k => XS.iloadN X25.here hx rfl (hb hby at_174) rfl k) ?_
    show own_Go _ _ _ _ (T25.setTop (mkF m 175 #[.val (.long q1), .second, .val (.int p2), .val (.int p3), .val (.ref b1), .val (.long v5_21), .second, .val (.int v7_22), .val (.int (0 : Int32)), .val (.int v9_24), .val (.ref b25), .unset, .unset, .unset, .unset, .unset, .unset] [(.int p3), (.int (0 : Int32)), (.ref b25)]))
    refine own_by (fun _ k => XS.i2b X25.here hx rfl (hb hby at_175) rfl k) ?_
    show own_Go _ _ _ _ (T25.setTop (mkF m 176 #[.val (.long q1), .second, .val (.int p2), .val (.int p3), .val (.ref b1), .val (.long v5_21), .second, .val (.int v7_22), .val (.int (0 : Int32)), .val (.int v9_24), .val (.ref b25), .unset, .unset, .unset, .unset, .unset, .unset] [(.int (p3.toInt8.toInt32)), (.int (0 : Int32)), (.ref b25)]))
    refine own_bas X25 hx hZ e25 f28 0 (by decide) (by decide) (hb hby at_176) ?_
    intro T29 h29 X29 e29 W29 A29
    have f30 := f27.other W29 ne26
    have N29 := Fr.snoc X29 N20 ge25
    have Z29 := own_size_wr W29 Z25
    obtain ⟨fn29, hfn29⟩ : ∃ g : Nat → Int32, g = own_upd (fun _ => 0) 0 (nar .byte (p3.toInt8.toInt32)) := ⟨_, rfl⟩
    rw [← hfn29] at A29
    show own_Go _ _ _ _ (T29.setTop (mkF m 177 #[.val (.long q1), .second, .val (.int p2), .val (.int p3), .val (.ref b1), .val (.long v5_21), .second, .val (.int v7_22), .val (.int (0 : Int32)), .val (.int v9_24), .val (.ref b25), .unset, .unset, .unset, .unset, .unset, .unset] []))
    refine own_by (fun _ k => XS.aload X29.here hx rfl (hb hby at_177) rfl rfl k) ?_
    show own_Go _ _ _ _ (T29.setTop (mkF m 179 #[.val (.long q1), .second, .val (.int p2), .val (.int p3), .val (.ref b1), .val (.long v5_21), .second, .val (.int v7_22), .val (.int (0 : Int32)), .val (.int v9_24), .val (.ref b25), .unset, .unset, .unset, .unset, .unset, .unset] [(.ref b25)]))
    refine own_by (fun _ k => XS.iconst X29.here hx rfl (hb hby at_179) k) ?_
    show own_Go _ _ _ _ (T29.setTop (mkF m 180 #[.val (.long q1), .second, .val (.int p2), .val (.int p3), .val (.ref b1), .val (.long v5_21), .second, .val (.int v7_22), .val (.int (0 : Int32)), .val (.int v9_24), .val (.ref b25), .unset, .unset, .unset, .unset, .unset, .unset] [(.int (1 : Int32)), (.ref b25)]))
    refine own_by (fun _ k => XS.iloadN X29.here hx rfl (hb hby at_180) rfl k) ?_
    show own_Go _ _ _ _ (T29.setTop (mkF m 181 #[.val (.long q1), .second, .val (.int p2), .val (.int p3), .val (.ref b1), .val (.long v5_21), .second, .val (.int v7_22), .val (.int (0 : Int32)), .val (.int v9_24), .val (.ref b25), .unset, .unset, .unset, .unset, .unset, .unset] [(.int p3), (.int (1 : Int32)), (.ref b25)]))
    refine own_by (fun _ k => XS.bipush X29.here hx rfl (hb hby at_181) k) ?_
    show own_Go _ _ _ _ (T29.setTop (mkF m 183 #[.val (.long q1), .second, .val (.int p2), .val (.int p3), .val (.ref b1), .val (.long v5_21), .second, .val (.int v7_22), .val (.int (0 : Int32)), .val (.int v9_24), .val (.ref b25), .unset, .unset, .unset, .unset, .unset, .unset] [(.int (8 : Int32)), (.int p3), (.int (1 : Int32)), (.ref b25)]))
    refine own_by (fun _ k => XS.iushr X29.here hx rfl (hb hby at_183) rfl k) ?_
    show own_Go _ _ _ _ (T29.setTop (mkF m 184 #[.val (.long q1), .second, .val (.int p2), .val (.int p3), .val (.ref b1), .val (.long v5_21), .second, .val (.int v7_22), .val (.int (0 : Int32)), .val (.int v9_24), .val (.ref b25), .unset, .unset, .unset, .unset, .unset, .unset] [(.int ((p3.toUInt32 >>> ((8 : Int32) &&& 31).toUInt32).toInt32)), (.int (1 : Int32)), (.ref b25)]))
    refine own_by (fun _ k => XS.i2b X29.here hx rfl (hb hby at_184) rfl k) ?_
    show own_Go _ _ _ _ (T29.setTop (mkF m 185 #[.val (.long q1), .second, .val (.int p2), .val (.int p3), .val (.ref b1), .val (.long v5_21), .second, .val (.int v7_22), .val (.int (0 : Int32)), .val (.int v9_24), .val (.ref b25), .unset, .unset, .unset, .unset, .unset, .unset] [(.int (((p3.toUInt32 >>> ((8 : Int32) &&& 31).toUInt32).toInt32).toInt8.toInt32)), (.int (1 : Int32)), (.ref b25)]))
    refine own_bas X29 hx hZ e29 A29 1 (by decide) (by decide) (hb hby at_185) ?_
    intro T31 h31 X31 e31 W31 A31
    have f32 := f30.other W31 ne26
    have N31 := Fr.snoc X31 N29 ge25
    have Z31 := own_size_wr W31 Z29
    obtain ⟨fn31, hfn31⟩ : ∃ g : Nat → Int32, g = own_upd fn29 1 (nar .byte (((p3.toUInt32 >>> ((8 : Int32) &&& 31).toUInt32).toInt32).toInt8.toInt32)) := ⟨_, rfl⟩
    rw [← hfn31] at A31
    show own_Go _ _ _ _ (T31.setTop (mkF m 186 #[.val (.long q1), .second, .val (.int p2), .val (.int p3), .val (.ref b1), .val (.long v5_21), .second, .val (.int v7_22), .val (.int (0 : Int32)), .val (.int v9_24), .val (.ref b25), .unset, .unset, .unset, .unset, .unset, .unset] []))
    refine own_by (fun _ k => XS.aload X31.here hx rfl (hb hby at_186) rfl rfl k) ?_
    show own_Go _ _ _ _ (T31.setTop (mkF m 188 #[.val (.long q1), .second, .val (.int p2), .val (.int p3), .val (.ref b1), .val (.long v5_21), .second, .val (.int v7_22), .val (.int (0 : Int32)), .val (.int v9_24), .val (.ref b25), .unset, .unset, .unset, .unset, .unset, .unset] [(.ref b25)]))
    refine own_by (fun _ k => XS.iconst X31.here hx rfl (hb hby at_188) k) ?_
    show own_Go _ _ _ _ (T31.setTop (mkF m 189 #[.val (.long q1), .second, .val (.int p2), .val (.int p3), .val (.ref b1), .val (.long v5_21), .second, .val (.int v7_22), .val (.int (0 : Int32)), .val (.int v9_24), .val (.ref b25), .unset, .unset, .unset, .unset, .unset, .unset] [(.int (2 : Int32)), (.ref b25)]))
    refine own_by (fun _ k => XS.iloadN X31.here hx rfl (hb hby at_189) rfl k) ?_
    show own_Go _ _ _ _ (T31.setTop (mkF m 190 #[.val (.long q1), .second, .val (.int p2), .val (.int p3), .val (.ref b1), .val (.long v5_21), .second, .val (.int v7_22), .val (.int (0 : Int32)), .val (.int v9_24), .val (.ref b25), .unset, .unset, .unset, .unset, .unset, .unset] [(.int p3), (.int (2 : Int32)), (.ref b25)]))
    refine own_by (fun _ k => XS.bipush X31.here hx rfl (hb hby at_190) k) ?_
    show own_Go _ _ _ _ (T31.setTop (mkF m 192 #[.val (.long q1), .second, .val (.int p2), .val (.int p3), .val (.ref b1), .val (.long v5_21), .second, .val (.int v7_22), .val (.int (0 : Int32)), .val (.int v9_24), .val (.ref b25), .unset, .unset, .unset, .unset, .unset, .unset] [(.int (16 : Int32)), (.int p3), (.int (2 : Int32)), (.ref b25)]))
    refine own_by (fun _ k => XS.iushr X31.here hx rfl (hb hby at_192) rfl k) ?_
    show own_Go _ _ _ _ (T31.setTop (mkF m 193 #[.val (.long q1), .second, .val (.int p2), .val (.int p3), .val (.ref b1), .val (.long v5_21), .second, .val (.int v7_22), .val (.int (0 : Int32)), .val (.int v9_24), .val (.ref b25), .unset, .unset, .unset, .unset, .unset, .unset] [(.int ((p3.toUInt32 >>> ((16 : Int32) &&& 31).toUInt32).toInt32)), (.int (2 : Int32)), (.ref b25)]))
    refine own_by (fun _ k => XS.i2b X31.here hx rfl (hb hby at_193) rfl k) ?_
    show own_Go _ _ _ _ (T31.setTop (mkF m 194 #[.val (.long q1), .second, .val (.int p2), .val (.int p3), .val (.ref b1), .val (.long v5_21), .second, .val (.int v7_22), .val (.int (0 : Int32)), .val (.int v9_24), .val (.ref b25), .unset, .unset, .unset, .unset, .unset, .unset] [(.int (((p3.toUInt32 >>> ((16 : Int32) &&& 31).toUInt32).toInt32).toInt8.toInt32)), (.int (2 : Int32)), (.ref b25)]))
    refine own_bas X31 hx hZ e31 A31 2 (by decide) (by decide) (hb hby at_194) ?_
    intro T33 h33 X33 e33 W33 A33
    have f34 := f32.other W33 ne26
    have N33 := Fr.snoc X33 N31 ge25
    have Z33 := own_size_wr W33 Z31
    obtain ⟨fn33, hfn33⟩ : ∃ g : Nat → Int32, g = own_upd fn31 2 (nar .byte (((p3.toUInt32 >>> ((16 : Int32) &&& 31).toUInt32).toInt32).toInt8.toInt32)) := ⟨_, rfl⟩
    rw [← hfn33] at A33
    show own_Go _ _ _ _ (T33.setTop (mkF m 195 #[.val (.long q1), .second, .val (.int p2), .val (.int p3), .val (.ref b1), .val (.long v5_21), .second, .val (.int v7_22), .val (.int (0 : Int32)), .val (.int v9_24), .val (.ref b25), .unset, .unset, .unset, .unset, .unset, .unset] []))
    refine own_by (fun _ k => XS.aload X33.here hx rfl (hb hby at_195) rfl rfl k) ?_
    show own_Go _ _ _ _ (T33.setTop (mkF m 197 #[.val (.long q1), .second, .val (.int p2), .val (.int p3), .val (.ref b1), .val (.long v5_21), .second, .val (.int v7_22), .val (.int (0 : Int32)), .val (.int v9_24), .val (.ref b25), .unset, .unset, .unset, .unset, .unset, .unset] [(.ref b25)]))
    refine own_by (fun _ k => XS.iconst X33.here hx rfl (hb hby at_197) k) ?_
    show own_Go _ _ _ _ (T33.setTop (mkF m 198 #[.val (.long q1), .second, .val (.int p2), .val (.int p3), .val (.ref b1), .val (.long v5_21), .second, .val (.int v7_22), .val (.int (0 : Int32)), .val (.int v9_24), .val (.ref b25), .unset, .unset, .unset, .unset, .unset, .unset] [(.int (3 : Int32)), (.ref b25)]))
    refine own_by (fun _ k => XS.iloadN X33.here hx rfl (hb hby at_198) rfl k) ?_
    show own_Go _ _ _ _ (T33.setTop (mkF m 199 #[.val (.long q1), .second, .val (.int p2), .val (.int p3), .val (.ref b1), .val (.long v5_21), .second, .val (.int v7_22), .val (.int (0 : Int32)), .val (.int v9_24), .val (.ref b25), .unset, .unset, .unset, .unset, .unset, .unset] [(.int p3), (.int (3 : Int32)), (.ref b25)]))
    refine own_by (fun _ k => XS.bipush X33.here hx rfl (hb hby at_199) k) ?_
    show own_Go _ _ _ _ (T33.setTop (mkF m 201 #[.val (.long q1), .second, .val (.int p2), .val (.int p3), .val (.ref b1), .val (.long v5_21), .second, .val (.int v7_22), .val (.int (0 : Int32)), .val (.int v9_24), .val (.ref b25), .unset, .unset, .unset, .unset, .unset, .unset] [(.int (24 : Int32)), (.int p3), (.int (3 : Int32)), (.ref b25)]))
    refine own_by (fun _ k => XS.iushr X33.here hx rfl (hb hby at_201) rfl k) ?_
    show own_Go _ _ _ _ (T33.setTop (mkF m 202 #[.val (.long q1), .second, .val (.int p2), .val (.int p3), .val (.ref b1), .val (.long v5_21), .second, .val (.int v7_22), .val (.int (0 : Int32)), .val (.int v9_24), .val (.ref b25), .unset, .unset, .unset, .unset, .unset, .unset] [(.int ((p3.toUInt32 >>> ((24 : Int32) &&& 31).toUInt32).toInt32)), (.int (3 : Int32)), (.ref b25)]))
    refine own_by (fun _ k => XS.i2b X33.here hx rfl (hb hby at_202) rfl k) ?_
    show own_Go _ _ _ _ (T33.setTop (mkF m 203 #[.val (.long q1), .second, .val (.int p2), .val (.int p3), .val (.ref b1), .val (.long v5_21), .second, .val (.int v7_22), .val (.int (0 : Int32)), .val (.int v9_24), .val (.ref b25), .unset, .unset, .unset, .unset, .unset, .unset] [(.int (((p3.toUInt32 >>> ((24 : Int32) &&& 31).toUInt32).toInt32).toInt8.toInt32)), (.int (3 : Int32)), (.ref b25)]))
    refine own_bas X33 hx hZ e33 A33 3 (by decide) (by decide) (hb hby at_203) ?_
    intro T35 h35 X35 e35 W35 A35
    have f36 := f34.other W35 ne26
    have N35 := Fr.snoc X35 N33 ge25
    have Z35 := own_size_wr W35 Z33
    obtain ⟨fn35, hfn35⟩ : ∃ g : Nat → Int32, g = own_upd fn33 3 (nar .byte (((p3.toUInt32 >>> ((24 : Int32) &&& 31).toUInt32).toInt32).toInt8.toInt32)) := ⟨_, rfl⟩
    rw [← hfn35] at A35
    obtain ⟨ff0, hff0⟩ : ∃ g, g = fn35 := ⟨_, rfl⟩
    rw [← hff0] at A35
    show own_Go _ _ _ _ (T35.setTop (mkF m 204 #[.val (.long q1), .second, .val (.int p2), .val (.int p3), .val (.ref b1), .val (.long v5_21), .second, .val (.int v7_22), .val (.int (0 : Int32)), .val (.int v9_24), .val (.ref b25), .unset, .unset, .unset, .unset, .unset, .unset] []))
    refine own_by (fun _ k => XS.iload X35.here hx rfl (hb hby at_204) rfl k) ?_
    show own_Go _ _ _ _ (T35.setTop (mkF m 206 #[.val (.long q1), .second, .val (.int p2), .val (.int p3), .val (.ref b1), .val (.long v5_21), .second, .val (.int v7_22), .val (.int (0 : Int32)), .val (.int v9_24), .val (.ref b25), .unset, .unset, .unset, .unset, .unset, .unset] [(.int v7_22)]))
    refine own_by (fun _ k => XS.istore X35.here hx rfl (hb hby at_206) rfl (l' := #[.val (.long q1), .second, .val (.int p2), .val (.int p3), .val (.ref b1), .val (.long v5_21), .second, .val (.int v7_22), .val (.int (0 : Int32)), .val (.int v9_24), .val (.ref b25), .val (.int v7_22), .unset, .unset, .unset, .unset, .unset]) rfl k) ?_
    show own_Go _ _ _ _ (T35.setTop (mkF m 208 #[.val (.long q1), .second, .val (.int p2), .val (.int p3), .val (.ref b1), .val (.long v5_21), .second, .val (.int v7_22), .val (.int (0 : Int32)), .val (.int v9_24), .val (.ref b25), .val (.int v7_22), .unset, .unset, .unset, .unset, .unset] []))
    refine own_by (fun _ k => XS.iload X35.here hx rfl (hb hby at_208) rfl k) ?_
    show own_Go _ _ _ _ (T35.setTop (mkF m 210 #[.val (.long q1), .second, .val (.int p2), .val (.int p3), .val (.ref b1), .val (.long v5_21), .second, .val (.int v7_22), .val (.int (0 : Int32)), .val (.int v9_24), .val (.ref b25), .val (.int v7_22), .unset, .unset, .unset, .unset, .unset] [(.int (0 : Int32))]))
    refine own_by (fun _ k => XS.ifYes X35.here hx rfl (pc0 := 210) (pc' := 226) rfl (hb hby at_210) rfl ((if0 _ _).trans (teq (by decide)).1) (by decide) (by decide) k) ?_
    have hS : (v7_22).toInt = ((F : Nat) : Int) := hF
    show own_Go _ _ _ _ (T35.setTop (mkF m 226 #[.val (.long q1), .second, .val (.int p2), .val (.int p3), .val (.ref b1), .val (.long v5_21), .second, .val (.int v7_22), .val (.int (0 : Int32)), .val (.int v9_24), .val (.ref b25), .val (.int v7_22), .unset, .unset, .unset, .unset, .unset] []))
    refine own_by (fun _ k => XS.aload X35.here hx rfl (hb hby at_226) rfl rfl k) ?_
    show own_Go _ _ _ _ (T35.setTop (mkF m 228 #[.val (.long q1), .second, .val (.int p2), .val (.int p3), .val (.ref b1), .val (.long v5_21), .second, .val (.int v7_22), .val (.int (0 : Int32)), .val (.int v9_24), .val (.ref b25), .val (.int v7_22), .unset, .unset, .unset, .unset, .unset] [(.ref b25)]))
    refine own_by (fun _ k => XS.iload X35.here hx rfl (hb hby at_228) rfl k) ?_
    show own_Go _ _ _ _ (T35.setTop (mkF m 230 #[.val (.long q1), .second, .val (.int p2), .val (.int p3), .val (.ref b1), .val (.long v5_21), .second, .val (.int v7_22), .val (.int (0 : Int32)), .val (.int v9_24), .val (.ref b25), .val (.int v7_22), .unset, .unset, .unset, .unset, .unset] [(.int v7_22), (.ref b25)]))
    refine own_by (fun _ k => XS.lload X35.here hx rfl (hb hby at_230) rfl k) ?_
    show own_Go _ _ _ _ (T35.setTop (mkF m 232 #[.val (.long q1), .second, .val (.int p2), .val (.int p3), .val (.ref b1), .val (.long v5_21), .second, .val (.int v7_22), .val (.int (0 : Int32)), .val (.int v9_24), .val (.ref b25), .val (.int v7_22), .unset, .unset, .unset, .unset, .unset] [(.long v5_21), (.int v7_22), (.ref b25)]))
    refine own_by (fun _ k => XS.aload X35.here hx rfl (hb hby at_232) rfl rfl k) ?_
    show own_Go _ _ _ _ (T35.setTop (mkF m 234 #[.val (.long q1), .second, .val (.int p2), .val (.int p3), .val (.ref b1), .val (.long v5_21), .second, .val (.int v7_22), .val (.int (0 : Int32)), .val (.int v9_24), .val (.ref b25), .val (.int v7_22), .unset, .unset, .unset, .unset, .unset] [(.ref b1), (.long v5_21), (.int v7_22), (.ref b25)]))
    refine own_by (fun _ k => XS.bipush X35.here hx rfl (hb hby at_234) k) ?_
    show own_Go _ _ _ _ (T35.setTop (mkF m 236 #[.val (.long q1), .second, .val (.int p2), .val (.int p3), .val (.ref b1), .val (.long v5_21), .second, .val (.int v7_22), .val (.int (0 : Int32)), .val (.int v9_24), .val (.ref b25), .val (.int v7_22), .unset, .unset, .unset, .unset, .unset] [(.int (17 : Int32)), (.ref b1), (.long v5_21), (.int v7_22), (.ref b25)]))
    refine own_by (fun _ k => own_lal X35 hx hZ e35 f36 17 (by decide) (by decide) (hb hby at_236) k) ?_
    show own_Go _ _ _ _ (T35.setTop (mkF m 237 #[.val (.long q1), .second, .val (.int p2), .val (.int p3), .val (.ref b1), .val (.long v5_21), .second, .val (.int v7_22), .val (.int (0 : Int32)), .val (.int v9_24), .val (.ref b25), .val (.int v7_22), .unset, .unset, .unset, .unset, .unset] [(.long (own_pw 17)), (.long v5_21), (.int v7_22), (.ref b25)]))
    obtain ⟨g37, hg37⟩ : ∃ z_ : Int64, (own_pw 17) = z_ := ⟨_, rfl⟩
    refine own_gen hg37 (fun z_ => T35.setTop (mkF m 237 #[.val (.long q1), .second, .val (.int p2), .val (.int p3), .val (.ref b1), .val (.long v5_21), .second, .val (.int v7_22), .val (.int (0 : Int32)), .val (.int v9_24), .val (.ref b25), .val (.int v7_22), .unset, .unset, .unset, .unset, .unset] [(.long z_), (.long v5_21), (.int v7_22), (.ref b25)])) ?_
    refine own_callS X35 hx hZ hown (hw _ (List.mem_of_getElem? (i := 21) rfl)) (hw _ (List.mem_of_getElem? (i := 22) rfl)) (hw _ (List.mem_of_getElem? (i := 23) rfl)) (hw _ (List.mem_of_getElem? (i := 24) rfl)) (by decide) (rm1 l Z a0 hw [] v5_21 g37 h35 n0 Z35 (by rw [← hg37]; exact own_pwz 17 (by decide))) e35 (by rw [hml]; rfl) [(.long v5_21), (.long g37)] [(.int v7_22), (.ref b25)] rfl (lenOf own_pd0 rfl) rfl 2 (Nat.le_of_eq rfl) (by decide) (by decide) (Nat.le_of_ble_eq_true rfl) (Nat.le_of_ble_eq_true rfl) (hb hby at_237) ?_
    intro T38 Lc38 v38 X38 hQ38
    obtain ⟨rfl, N38q, e38⟩ := hQ38
    have N38 := Fr.app N35 N38q
    show own_Go _ _ _ _ (T38.setTop (mkF m 240 #[.val (.long q1), .second, .val (.int p2), .val (.int p3), .val (.ref b1), .val (.long v5_21), .second, .val (.int v7_22), .val (.int (0 : Int32)), .val (.int v9_24), .val (.ref b25), .val (.int v7_22), .unset, .unset, .unset, .unset, .unset] [(.int (own_dg v5_21 g37)), (.int v7_22), (.ref b25)]))
    refine own_bas X38 hx hZ e38 A35 F hS (by omega) (hb hby at_240) ?_
    intro T39 h39 X39 e39 W39 A39
    have f40 := f36.other W39 ne26
    have N39 := Fr.snoc X39 N38 ge25
    have Z39 := own_size_wr W39 Z35
    obtain ⟨fn39, hfn39⟩ : ∃ g : Nat → Int32, g = own_upd ff0 F (nar .byte (own_dg v5_21 g37)) := ⟨_, rfl⟩
    rw [← hfn39] at A39
    show own_Go _ _ _ _ (T39.setTop (mkF m 241 #[.val (.long q1), .second, .val (.int p2), .val (.int p3), .val (.ref b1), .val (.long v5_21), .second, .val (.int v7_22), .val (.int (0 : Int32)), .val (.int v9_24), .val (.ref b25), .val (.int v7_22), .unset, .unset, .unset, .unset, .unset] []))
    refine own_by (fun _ k => XS.aload X39.here hx rfl (hb hby at_241) rfl rfl k) ?_
    show own_Go _ _ _ _ (T39.setTop (mkF m 243 #[.val (.long q1), .second, .val (.int p2), .val (.int p3), .val (.ref b1), .val (.long v5_21), .second, .val (.int v7_22), .val (.int (0 : Int32)), .val (.int v9_24), .val (.ref b25), .val (.int v7_22), .unset, .unset, .unset, .unset, .unset] [(.ref b25)]))
    refine own_by (fun _ k => XS.iload X39.here hx rfl (hb hby at_243) rfl k) ?_
    show own_Go _ _ _ _ (T39.setTop (mkF m 245 #[.val (.long q1), .second, .val (.int p2), .val (.int p3), .val (.ref b1), .val (.long v5_21), .second, .val (.int v7_22), .val (.int (0 : Int32)), .val (.int v9_24), .val (.ref b25), .val (.int v7_22), .unset, .unset, .unset, .unset, .unset] [(.int v7_22), (.ref b25)]))
    refine own_by (fun _ k => XS.iconst X39.here hx rfl (hb hby at_245) k) ?_
    show own_Go _ _ _ _ (T39.setTop (mkF m 246 #[.val (.long q1), .second, .val (.int p2), .val (.int p3), .val (.ref b1), .val (.long v5_21), .second, .val (.int v7_22), .val (.int (0 : Int32)), .val (.int v9_24), .val (.ref b25), .val (.int v7_22), .unset, .unset, .unset, .unset, .unset] [(.int (1 : Int32)), (.int v7_22), (.ref b25)]))
    refine own_by (fun _ k => XS.iadd X39.here hx rfl (hb hby at_246) rfl k) ?_
    show own_Go _ _ _ _ (T39.setTop (mkF m 247 #[.val (.long q1), .second, .val (.int p2), .val (.int p3), .val (.ref b1), .val (.long v5_21), .second, .val (.int v7_22), .val (.int (0 : Int32)), .val (.int v9_24), .val (.ref b25), .val (.int v7_22), .unset, .unset, .unset, .unset, .unset] [(.int (v7_22 + (1 : Int32))), (.ref b25)]))
    refine own_by (fun _ k => XS.lload X39.here hx rfl (hb hby at_247) rfl k) ?_
    show own_Go _ _ _ _ (T39.setTop (mkF m 249 #[.val (.long q1), .second, .val (.int p2), .val (.int p3), .val (.ref b1), .val (.long v5_21), .second, .val (.int v7_22), .val (.int (0 : Int32)), .val (.int v9_24), .val (.ref b25), .val (.int v7_22), .unset, .unset, .unset, .unset, .unset] [(.long v5_21), (.int (v7_22 + (1 : Int32))), (.ref b25)]))
    refine own_by (fun _ k => XS.aload X39.here hx rfl (hb hby at_249) rfl rfl k) ?_
    show own_Go _ _ _ _ (T39.setTop (mkF m 251 #[.val (.long q1), .second, .val (.int p2), .val (.int p3), .val (.ref b1), .val (.long v5_21), .second, .val (.int v7_22), .val (.int (0 : Int32)), .val (.int v9_24), .val (.ref b25), .val (.int v7_22), .unset, .unset, .unset, .unset, .unset] [(.ref b1), (.long v5_21), (.int (v7_22 + (1 : Int32))), (.ref b25)]))
    refine own_by (fun _ k => XS.bipush X39.here hx rfl (hb hby at_251) k) ?_
    show own_Go _ _ _ _ (T39.setTop (mkF m 253 #[.val (.long q1), .second, .val (.int p2), .val (.int p3), .val (.ref b1), .val (.long v5_21), .second, .val (.int v7_22), .val (.int (0 : Int32)), .val (.int v9_24), .val (.ref b25), .val (.int v7_22), .unset, .unset, .unset, .unset, .unset] [(.int (16 : Int32)), (.ref b1), (.long v5_21), (.int (v7_22 + (1 : Int32))), (.ref b25)]))
    refine own_by (fun _ k => own_lal X39 hx hZ e39 f40 16 (by decide) (by decide) (hb hby at_253) k) ?_
    show own_Go _ _ _ _ (T39.setTop (mkF m 254 #[.val (.long q1), .second, .val (.int p2), .val (.int p3), .val (.ref b1), .val (.long v5_21), .second, .val (.int v7_22), .val (.int (0 : Int32)), .val (.int v9_24), .val (.ref b25), .val (.int v7_22), .unset, .unset, .unset, .unset, .unset] [(.long (own_pw 16)), (.long v5_21), (.int (v7_22 + (1 : Int32))), (.ref b25)]))
    obtain ⟨g41, hg41⟩ : ∃ z_ : Int64, (own_pw 16) = z_ := ⟨_, rfl⟩
    refine own_gen hg41 (fun z_ => T39.setTop (mkF m 254 #[.val (.long q1), .second, .val (.int p2), .val (.int p3), .val (.ref b1), .val (.long v5_21), .second, .val (.int v7_22), .val (.int (0 : Int32)), .val (.int v9_24), .val (.ref b25), .val (.int v7_22), .unset, .unset, .unset, .unset, .unset] [(.long z_), (.long v5_21), (.int (v7_22 + (1 : Int32))), (.ref b25)])) ?_
    refine own_callS X39 hx hZ hown (hw _ (List.mem_of_getElem? (i := 21) rfl)) (hw _ (List.mem_of_getElem? (i := 22) rfl)) (hw _ (List.mem_of_getElem? (i := 23) rfl)) (hw _ (List.mem_of_getElem? (i := 24) rfl)) (by decide) (rm1 l Z a0 hw [] v5_21 g41 h39 n0 Z39 (by rw [← hg41]; exact own_pwz 16 (by decide))) e39 (by rw [hml]; rfl) [(.long v5_21), (.long g41)] [(.int (v7_22 + (1 : Int32))), (.ref b25)] rfl (lenOf own_pd0 rfl) rfl 2 (Nat.le_of_eq rfl) (by decide) (by decide) (Nat.le_of_ble_eq_true rfl) (Nat.le_of_ble_eq_true rfl) (hb hby at_254) ?_
    intro T42 Lc42 v42 X42 hQ42
    obtain ⟨rfl, N42q, e42⟩ := hQ42
    have N42 := Fr.app N39 N42q
    show own_Go _ _ _ _ (T42.setTop (mkF m 257 #[.val (.long q1), .second, .val (.int p2), .val (.int p3), .val (.ref b1), .val (.long v5_21), .second, .val (.int v7_22), .val (.int (0 : Int32)), .val (.int v9_24), .val (.ref b25), .val (.int v7_22), .unset, .unset, .unset, .unset, .unset] [(.int (own_dg v5_21 g41)), (.int (v7_22 + (1 : Int32))), (.ref b25)]))
    refine own_bas X42 hx hZ e42 A39 (F + 1) (own_addk hS (by omega) (by decide) (by decide)) (by omega) (hb hby at_257) ?_
    intro T43 h43 X43 e43 W43 A43
    have f44 := f40.other W43 ne26
    have N43 := Fr.snoc X43 N42 ge25
    have Z43 := own_size_wr W43 Z39
    obtain ⟨fn43, hfn43⟩ : ∃ g : Nat → Int32, g = own_upd fn39 (F + 1) (nar .byte (own_dg v5_21 g41)) := ⟨_, rfl⟩
    rw [← hfn43] at A43
    show own_Go _ _ _ _ (T43.setTop (mkF m 258 #[.val (.long q1), .second, .val (.int p2), .val (.int p3), .val (.ref b1), .val (.long v5_21), .second, .val (.int v7_22), .val (.int (0 : Int32)), .val (.int v9_24), .val (.ref b25), .val (.int v7_22), .unset, .unset, .unset, .unset, .unset] []))
    refine own_by (fun _ k => XS.aload X43.here hx rfl (hb hby at_258) rfl rfl k) ?_
    show own_Go _ _ _ _ (T43.setTop (mkF m 260 #[.val (.long q1), .second, .val (.int p2), .val (.int p3), .val (.ref b1), .val (.long v5_21), .second, .val (.int v7_22), .val (.int (0 : Int32)), .val (.int v9_24), .val (.ref b25), .val (.int v7_22), .unset, .unset, .unset, .unset, .unset] [(.ref b25)]))
    refine own_by (fun _ k => XS.iload X43.here hx rfl (hb hby at_260) rfl k) ?_
    show own_Go _ _ _ _ (T43.setTop (mkF m 262 #[.val (.long q1), .second, .val (.int p2), .val (.int p3), .val (.ref b1), .val (.long v5_21), .second, .val (.int v7_22), .val (.int (0 : Int32)), .val (.int v9_24), .val (.ref b25), .val (.int v7_22), .unset, .unset, .unset, .unset, .unset] [(.int v7_22), (.ref b25)]))
    refine own_by (fun _ k => XS.iconst X43.here hx rfl (hb hby at_262) k) ?_
    show own_Go _ _ _ _ (T43.setTop (mkF m 263 #[.val (.long q1), .second, .val (.int p2), .val (.int p3), .val (.ref b1), .val (.long v5_21), .second, .val (.int v7_22), .val (.int (0 : Int32)), .val (.int v9_24), .val (.ref b25), .val (.int v7_22), .unset, .unset, .unset, .unset, .unset] [(.int (2 : Int32)), (.int v7_22), (.ref b25)]))
    refine own_by (fun _ k => XS.iadd X43.here hx rfl (hb hby at_263) rfl k) ?_
    show own_Go _ _ _ _ (T43.setTop (mkF m 264 #[.val (.long q1), .second, .val (.int p2), .val (.int p3), .val (.ref b1), .val (.long v5_21), .second, .val (.int v7_22), .val (.int (0 : Int32)), .val (.int v9_24), .val (.ref b25), .val (.int v7_22), .unset, .unset, .unset, .unset, .unset] [(.int (v7_22 + (2 : Int32))), (.ref b25)]))
    refine own_by (fun _ k => XS.lload X43.here hx rfl (hb hby at_264) rfl k) ?_
    show own_Go _ _ _ _ (T43.setTop (mkF m 266 #[.val (.long q1), .second, .val (.int p2), .val (.int p3), .val (.ref b1), .val (.long v5_21), .second, .val (.int v7_22), .val (.int (0 : Int32)), .val (.int v9_24), .val (.ref b25), .val (.int v7_22), .unset, .unset, .unset, .unset, .unset] [(.long v5_21), (.int (v7_22 + (2 : Int32))), (.ref b25)]))
    refine own_by (fun _ k => XS.aload X43.here hx rfl (hb hby at_266) rfl rfl k) ?_
    show own_Go _ _ _ _ (T43.setTop (mkF m 268 #[.val (.long q1), .second, .val (.int p2), .val (.int p3), .val (.ref b1), .val (.long v5_21), .second, .val (.int v7_22), .val (.int (0 : Int32)), .val (.int v9_24), .val (.ref b25), .val (.int v7_22), .unset, .unset, .unset, .unset, .unset] [(.ref b1), (.long v5_21), (.int (v7_22 + (2 : Int32))), (.ref b25)]))
    refine own_by (fun _ k => XS.bipush X43.here hx rfl (hb hby at_268) k) ?_
    show own_Go _ _ _ _ (T43.setTop (mkF m 270 #[.val (.long q1), .second, .val (.int p2), .val (.int p3), .val (.ref b1), .val (.long v5_21), .second, .val (.int v7_22), .val (.int (0 : Int32)), .val (.int v9_24), .val (.ref b25), .val (.int v7_22), .unset, .unset, .unset, .unset, .unset] [(.int (15 : Int32)), (.ref b1), (.long v5_21), (.int (v7_22 + (2 : Int32))), (.ref b25)]))
    refine own_by (fun _ k => own_lal X43 hx hZ e43 f44 15 (by decide) (by decide) (hb hby at_270) k) ?_
    show own_Go _ _ _ _ (T43.setTop (mkF m 271 #[.val (.long q1), .second, .val (.int p2), .val (.int p3), .val (.ref b1), .val (.long v5_21), .second, .val (.int v7_22), .val (.int (0 : Int32)), .val (.int v9_24), .val (.ref b25), .val (.int v7_22), .unset, .unset, .unset, .unset, .unset] [(.long (own_pw 15)), (.long v5_21), (.int (v7_22 + (2 : Int32))), (.ref b25)]))
    obtain ⟨g45, hg45⟩ : ∃ z_ : Int64, (own_pw 15) = z_ := ⟨_, rfl⟩
    refine own_gen hg45 (fun z_ => T43.setTop (mkF m 271 #[.val (.long q1), .second, .val (.int p2), .val (.int p3), .val (.ref b1), .val (.long v5_21), .second, .val (.int v7_22), .val (.int (0 : Int32)), .val (.int v9_24), .val (.ref b25), .val (.int v7_22), .unset, .unset, .unset, .unset, .unset] [(.long z_), (.long v5_21), (.int (v7_22 + (2 : Int32))), (.ref b25)])) ?_
    refine own_callS X43 hx hZ hown (hw _ (List.mem_of_getElem? (i := 21) rfl)) (hw _ (List.mem_of_getElem? (i := 22) rfl)) (hw _ (List.mem_of_getElem? (i := 23) rfl)) (hw _ (List.mem_of_getElem? (i := 24) rfl)) (by decide) (rm1 l Z a0 hw [] v5_21 g45 h43 n0 Z43 (by rw [← hg45]; exact own_pwz 15 (by decide))) e43 (by rw [hml]; rfl) [(.long v5_21), (.long g45)] [(.int (v7_22 + (2 : Int32))), (.ref b25)] rfl (lenOf own_pd0 rfl) rfl 2 (Nat.le_of_eq rfl) (by decide) (by decide) (Nat.le_of_ble_eq_true rfl) (Nat.le_of_ble_eq_true rfl) (hb hby at_271) ?_
    intro T46 Lc46 v46 X46 hQ46
    obtain ⟨rfl, N46q, e46⟩ := hQ46
    have N46 := Fr.app N43 N46q
    show own_Go _ _ _ _ (T46.setTop (mkF m 274 #[.val (.long q1), .second, .val (.int p2), .val (.int p3), .val (.ref b1), .val (.long v5_21), .second, .val (.int v7_22), .val (.int (0 : Int32)), .val (.int v9_24), .val (.ref b25), .val (.int v7_22), .unset, .unset, .unset, .unset, .unset] [(.int (own_dg v5_21 g45)), (.int (v7_22 + (2 : Int32))), (.ref b25)]))
    refine own_bas X46 hx hZ e46 A43 (F + 2) (own_addk hS (by omega) (by decide) (by decide)) (by omega) (hb hby at_274) ?_
    intro T47 h47 X47 e47 W47 A47
    have f48 := f44.other W47 ne26
    have N47 := Fr.snoc X47 N46 ge25
    have Z47 := own_size_wr W47 Z43
    obtain ⟨fn47, hfn47⟩ : ∃ g : Nat → Int32, g = own_upd fn43 (F + 2) (nar .byte (own_dg v5_21 g45)) := ⟨_, rfl⟩
    rw [← hfn47] at A47
    show own_Go _ _ _ _ (T47.setTop (mkF m 275 #[.val (.long q1), .second, .val (.int p2), .val (.int p3), .val (.ref b1), .val (.long v5_21), .second, .val (.int v7_22), .val (.int (0 : Int32)), .val (.int v9_24), .val (.ref b25), .val (.int v7_22), .unset, .unset, .unset, .unset, .unset] []))
    refine own_by (fun _ k => XS.aload X47.here hx rfl (hb hby at_275) rfl rfl k) ?_
    show own_Go _ _ _ _ (T47.setTop (mkF m 277 #[.val (.long q1), .second, .val (.int p2), .val (.int p3), .val (.ref b1), .val (.long v5_21), .second, .val (.int v7_22), .val (.int (0 : Int32)), .val (.int v9_24), .val (.ref b25), .val (.int v7_22), .unset, .unset, .unset, .unset, .unset] [(.ref b25)]))
    refine own_by (fun _ k => XS.iload X47.here hx rfl (hb hby at_277) rfl k) ?_
    show own_Go _ _ _ _ (T47.setTop (mkF m 279 #[.val (.long q1), .second, .val (.int p2), .val (.int p3), .val (.ref b1), .val (.long v5_21), .second, .val (.int v7_22), .val (.int (0 : Int32)), .val (.int v9_24), .val (.ref b25), .val (.int v7_22), .unset, .unset, .unset, .unset, .unset] [(.int v7_22), (.ref b25)]))
    refine own_by (fun _ k => XS.iconst X47.here hx rfl (hb hby at_279) k) ?_
    show own_Go _ _ _ _ (T47.setTop (mkF m 280 #[.val (.long q1), .second, .val (.int p2), .val (.int p3), .val (.ref b1), .val (.long v5_21), .second, .val (.int v7_22), .val (.int (0 : Int32)), .val (.int v9_24), .val (.ref b25), .val (.int v7_22), .unset, .unset, .unset, .unset, .unset] [(.int (3 : Int32)), (.int v7_22), (.ref b25)]))
    refine own_by (fun _ k => XS.iadd X47.here hx rfl (hb hby at_280) rfl k) ?_
    show own_Go _ _ _ _ (T47.setTop (mkF m 281 #[.val (.long q1), .second, .val (.int p2), .val (.int p3), .val (.ref b1), .val (.long v5_21), .second, .val (.int v7_22), .val (.int (0 : Int32)), .val (.int v9_24), .val (.ref b25), .val (.int v7_22), .unset, .unset, .unset, .unset, .unset] [(.int (v7_22 + (3 : Int32))), (.ref b25)]))
    refine own_by (fun _ k => XS.lload X47.here hx rfl (hb hby at_281) rfl k) ?_
    show own_Go _ _ _ _ (T47.setTop (mkF m 283 #[.val (.long q1), .second, .val (.int p2), .val (.int p3), .val (.ref b1), .val (.long v5_21), .second, .val (.int v7_22), .val (.int (0 : Int32)), .val (.int v9_24), .val (.ref b25), .val (.int v7_22), .unset, .unset, .unset, .unset, .unset] [(.long v5_21), (.int (v7_22 + (3 : Int32))), (.ref b25)]))
    refine own_by (fun _ k => XS.aload X47.here hx rfl (hb hby at_283) rfl rfl k) ?_
    show own_Go _ _ _ _ (T47.setTop (mkF m 285 #[.val (.long q1), .second, .val (.int p2), .val (.int p3), .val (.ref b1), .val (.long v5_21), .second, .val (.int v7_22), .val (.int (0 : Int32)), .val (.int v9_24), .val (.ref b25), .val (.int v7_22), .unset, .unset, .unset, .unset, .unset] [(.ref b1), (.long v5_21), (.int (v7_22 + (3 : Int32))), (.ref b25)]))
    refine own_by (fun _ k => XS.bipush X47.here hx rfl (hb hby at_285) k) ?_
    show own_Go _ _ _ _ (T47.setTop (mkF m 287 #[.val (.long q1), .second, .val (.int p2), .val (.int p3), .val (.ref b1), .val (.long v5_21), .second, .val (.int v7_22), .val (.int (0 : Int32)), .val (.int v9_24), .val (.ref b25), .val (.int v7_22), .unset, .unset, .unset, .unset, .unset] [(.int (14 : Int32)), (.ref b1), (.long v5_21), (.int (v7_22 + (3 : Int32))), (.ref b25)]))
    refine own_by (fun _ k => own_lal X47 hx hZ e47 f48 14 (by decide) (by decide) (hb hby at_287) k) ?_
    show own_Go _ _ _ _ (T47.setTop (mkF m 288 #[.val (.long q1), .second, .val (.int p2), .val (.int p3), .val (.ref b1), .val (.long v5_21), .second, .val (.int v7_22), .val (.int (0 : Int32)), .val (.int v9_24), .val (.ref b25), .val (.int v7_22), .unset, .unset, .unset, .unset, .unset] [(.long (own_pw 14)), (.long v5_21), (.int (v7_22 + (3 : Int32))), (.ref b25)]))
    obtain ⟨g49, hg49⟩ : ∃ z_ : Int64, (own_pw 14) = z_ := ⟨_, rfl⟩
    refine own_gen hg49 (fun z_ => T47.setTop (mkF m 288 #[.val (.long q1), .second, .val (.int p2), .val (.int p3), .val (.ref b1), .val (.long v5_21), .second, .val (.int v7_22), .val (.int (0 : Int32)), .val (.int v9_24), .val (.ref b25), .val (.int v7_22), .unset, .unset, .unset, .unset, .unset] [(.long z_), (.long v5_21), (.int (v7_22 + (3 : Int32))), (.ref b25)])) ?_
    refine own_callS X47 hx hZ hown (hw _ (List.mem_of_getElem? (i := 21) rfl)) (hw _ (List.mem_of_getElem? (i := 22) rfl)) (hw _ (List.mem_of_getElem? (i := 23) rfl)) (hw _ (List.mem_of_getElem? (i := 24) rfl)) (by decide) (rm1 l Z a0 hw [] v5_21 g49 h47 n0 Z47 (by rw [← hg49]; exact own_pwz 14 (by decide))) e47 (by rw [hml]; rfl) [(.long v5_21), (.long g49)] [(.int (v7_22 + (3 : Int32))), (.ref b25)] rfl (lenOf own_pd0 rfl) rfl 2 (Nat.le_of_eq rfl) (by decide) (by decide) (Nat.le_of_ble_eq_true rfl) (Nat.le_of_ble_eq_true rfl) (hb hby at_288) ?_
    intro T50 Lc50 v50 X50 hQ50
    obtain ⟨rfl, N50q, e50⟩ := hQ50
    have N50 := Fr.app N47 N50q
    show own_Go _ _ _ _ (T50.setTop (mkF m 291 #[.val (.long q1), .second, .val (.int p2), .val (.int p3), .val (.ref b1), .val (.long v5_21), .second, .val (.int v7_22), .val (.int (0 : Int32)), .val (.int v9_24), .val (.ref b25), .val (.int v7_22), .unset, .unset, .unset, .unset, .unset] [(.int (own_dg v5_21 g49)), (.int (v7_22 + (3 : Int32))), (.ref b25)]))
    refine own_bas X50 hx hZ e50 A47 (F + 3) (own_addk hS (by omega) (by decide) (by decide)) (by omega) (hb hby at_291) ?_
    intro T51 h51 X51 e51 W51 A51
    have f52 := f48.other W51 ne26
    have N51 := Fr.snoc X51 N50 ge25
    have Z51 := own_size_wr W51 Z47
    obtain ⟨fn51, hfn51⟩ : ∃ g : Nat → Int32, g = own_upd fn47 (F + 3) (nar .byte (own_dg v5_21 g49)) := ⟨_, rfl⟩
    rw [← hfn51] at A51
    show own_Go _ _ _ _ (T51.setTop (mkF m 292 #[.val (.long q1), .second, .val (.int p2), .val (.int p3), .val (.ref b1), .val (.long v5_21), .second, .val (.int v7_22), .val (.int (0 : Int32)), .val (.int v9_24), .val (.ref b25), .val (.int v7_22), .unset, .unset, .unset, .unset, .unset] []))
    refine own_by (fun _ k => XS.aload X51.here hx rfl (hb hby at_292) rfl rfl k) ?_
    show own_Go _ _ _ _ (T51.setTop (mkF m 294 #[.val (.long q1), .second, .val (.int p2), .val (.int p3), .val (.ref b1), .val (.long v5_21), .second, .val (.int v7_22), .val (.int (0 : Int32)), .val (.int v9_24), .val (.ref b25), .val (.int v7_22), .unset, .unset, .unset, .unset, .unset] [(.ref b25)]))
    refine own_by (fun _ k => XS.iload X51.here hx rfl (hb hby at_294) rfl k) ?_
    show own_Go _ _ _ _ (T51.setTop (mkF m 296 #[.val (.long q1), .second, .val (.int p2), .val (.int p3), .val (.ref b1), .val (.long v5_21), .second, .val (.int v7_22), .val (.int (0 : Int32)), .val (.int v9_24), .val (.ref b25), .val (.int v7_22), .unset, .unset, .unset, .unset, .unset] [(.int v7_22), (.ref b25)]))
    refine own_by (fun _ k => XS.iconst X51.here hx rfl (hb hby at_296) k) ?_
    show own_Go _ _ _ _ (T51.setTop (mkF m 297 #[.val (.long q1), .second, .val (.int p2), .val (.int p3), .val (.ref b1), .val (.long v5_21), .second, .val (.int v7_22), .val (.int (0 : Int32)), .val (.int v9_24), .val (.ref b25), .val (.int v7_22), .unset, .unset, .unset, .unset, .unset] [(.int (4 : Int32)), (.int v7_22), (.ref b25)]))
    refine own_by (fun _ k => XS.iadd X51.here hx rfl (hb hby at_297) rfl k) ?_
    show own_Go _ _ _ _ (T51.setTop (mkF m 298 #[.val (.long q1), .second, .val (.int p2), .val (.int p3), .val (.ref b1), .val (.long v5_21), .second, .val (.int v7_22), .val (.int (0 : Int32)), .val (.int v9_24), .val (.ref b25), .val (.int v7_22), .unset, .unset, .unset, .unset, .unset] [(.int (v7_22 + (4 : Int32))), (.ref b25)]))
    refine own_by (fun _ k => XS.lload X51.here hx rfl (hb hby at_298) rfl k) ?_
    show own_Go _ _ _ _ (T51.setTop (mkF m 300 #[.val (.long q1), .second, .val (.int p2), .val (.int p3), .val (.ref b1), .val (.long v5_21), .second, .val (.int v7_22), .val (.int (0 : Int32)), .val (.int v9_24), .val (.ref b25), .val (.int v7_22), .unset, .unset, .unset, .unset, .unset] [(.long v5_21), (.int (v7_22 + (4 : Int32))), (.ref b25)]))
    refine own_by (fun _ k => XS.aload X51.here hx rfl (hb hby at_300) rfl rfl k) ?_
    show own_Go _ _ _ _ (T51.setTop (mkF m 302 #[.val (.long q1), .second, .val (.int p2), .val (.int p3), .val (.ref b1), .val (.long v5_21), .second, .val (.int v7_22), .val (.int (0 : Int32)), .val (.int v9_24), .val (.ref b25), .val (.int v7_22), .unset, .unset, .unset, .unset, .unset] [(.ref b1), (.long v5_21), (.int (v7_22 + (4 : Int32))), (.ref b25)]))
    refine own_by (fun _ k => XS.bipush X51.here hx rfl (hb hby at_302) k) ?_
    show own_Go _ _ _ _ (T51.setTop (mkF m 304 #[.val (.long q1), .second, .val (.int p2), .val (.int p3), .val (.ref b1), .val (.long v5_21), .second, .val (.int v7_22), .val (.int (0 : Int32)), .val (.int v9_24), .val (.ref b25), .val (.int v7_22), .unset, .unset, .unset, .unset, .unset] [(.int (13 : Int32)), (.ref b1), (.long v5_21), (.int (v7_22 + (4 : Int32))), (.ref b25)]))
    refine own_by (fun _ k => own_lal X51 hx hZ e51 f52 13 (by decide) (by decide) (hb hby at_304) k) ?_
    show own_Go _ _ _ _ (T51.setTop (mkF m 305 #[.val (.long q1), .second, .val (.int p2), .val (.int p3), .val (.ref b1), .val (.long v5_21), .second, .val (.int v7_22), .val (.int (0 : Int32)), .val (.int v9_24), .val (.ref b25), .val (.int v7_22), .unset, .unset, .unset, .unset, .unset] [(.long (own_pw 13)), (.long v5_21), (.int (v7_22 + (4 : Int32))), (.ref b25)]))
    obtain ⟨g53, hg53⟩ : ∃ z_ : Int64, (own_pw 13) = z_ := ⟨_, rfl⟩
    refine own_gen hg53 (fun z_ => T51.setTop (mkF m 305 #[.val (.long q1), .second, .val (.int p2), .val (.int p3), .val (.ref b1), .val (.long v5_21), .second, .val (.int v7_22), .val (.int (0 : Int32)), .val (.int v9_24), .val (.ref b25), .val (.int v7_22), .unset, .unset, .unset, .unset, .unset] [(.long z_), (.long v5_21), (.int (v7_22 + (4 : Int32))), (.ref b25)])) ?_
    refine own_callS X51 hx hZ hown (hw _ (List.mem_of_getElem? (i := 21) rfl)) (hw _ (List.mem_of_getElem? (i := 22) rfl)) (hw _ (List.mem_of_getElem? (i := 23) rfl)) (hw _ (List.mem_of_getElem? (i := 24) rfl)) (by decide) (rm1 l Z a0 hw [] v5_21 g53 h51 n0 Z51 (by rw [← hg53]; exact own_pwz 13 (by decide))) e51 (by rw [hml]; rfl) [(.long v5_21), (.long g53)] [(.int (v7_22 + (4 : Int32))), (.ref b25)] rfl (lenOf own_pd0 rfl) rfl 2 (Nat.le_of_eq rfl) (by decide) (by decide) (Nat.le_of_ble_eq_true rfl) (Nat.le_of_ble_eq_true rfl) (hb hby at_305) ?_
    intro T54 Lc54 v54 X54 hQ54
    obtain ⟨rfl, N54q, e54⟩ := hQ54
    have N54 := Fr.app N51 N54q
    show own_Go _ _ _ _ (T54.setTop (mkF m 308 #[.val (.long q1), .second, .val (.int p2), .val (.int p3), .val (.ref b1), .val (.long v5_21), .second, .val (.int v7_22), .val (.int (0 : Int32)), .val (.int v9_24), .val (.ref b25), .val (.int v7_22), .unset, .unset, .unset, .unset, .unset] [(.int (own_dg v5_21 g53)), (.int (v7_22 + (4 : Int32))), (.ref b25)]))
    refine own_bas X54 hx hZ e54 A51 (F + 4) (own_addk hS (by omega) (by decide) (by decide)) (by omega) (hb hby at_308) ?_
    intro T55 h55 X55 e55 W55 A55
    have f56 := f52.other W55 ne26
    have N55 := Fr.snoc X55 N54 ge25
    have Z55 := own_size_wr W55 Z51
    obtain ⟨fn55, hfn55⟩ : ∃ g : Nat → Int32, g = own_upd fn51 (F + 4) (nar .byte (own_dg v5_21 g53)) := ⟨_, rfl⟩
    rw [← hfn55] at A55
    show own_Go _ _ _ _ (T55.setTop (mkF m 309 #[.val (.long q1), .second, .val (.int p2), .val (.int p3), .val (.ref b1), .val (.long v5_21), .second, .val (.int v7_22), .val (.int (0 : Int32)), .val (.int v9_24), .val (.ref b25), .val (.int v7_22), .unset, .unset, .unset, .unset, .unset] []))
    refine own_by (fun _ k => XS.aload X55.here hx rfl (hb hby at_309) rfl rfl k) ?_
    show own_Go _ _ _ _ (T55.setTop (mkF m 311 #[.val (.long q1), .second, .val (.int p2), .val (.int p3), .val (.ref b1), .val (.long v5_21), .second, .val (.int v7_22), .val (.int (0 : Int32)), .val (.int v9_24), .val (.ref b25), .val (.int v7_22), .unset, .unset, .unset, .unset, .unset] [(.ref b25)]))
    refine own_by (fun _ k => XS.iload X55.here hx rfl (hb hby at_311) rfl k) ?_
    show own_Go _ _ _ _ (T55.setTop (mkF m 313 #[.val (.long q1), .second, .val (.int p2), .val (.int p3), .val (.ref b1), .val (.long v5_21), .second, .val (.int v7_22), .val (.int (0 : Int32)), .val (.int v9_24), .val (.ref b25), .val (.int v7_22), .unset, .unset, .unset, .unset, .unset] [(.int v7_22), (.ref b25)]))
    refine own_by (fun _ k => XS.iconst X55.here hx rfl (hb hby at_313) k) ?_
    show own_Go _ _ _ _ (T55.setTop (mkF m 314 #[.val (.long q1), .second, .val (.int p2), .val (.int p3), .val (.ref b1), .val (.long v5_21), .second, .val (.int v7_22), .val (.int (0 : Int32)), .val (.int v9_24), .val (.ref b25), .val (.int v7_22), .unset, .unset, .unset, .unset, .unset] [(.int (5 : Int32)), (.int v7_22), (.ref b25)]))
    refine own_by (fun _ k => XS.iadd X55.here hx rfl (hb hby at_314) rfl k) ?_
    show own_Go _ _ _ _ (T55.setTop (mkF m 315 #[.val (.long q1), .second, .val (.int p2), .val (.int p3), .val (.ref b1), .val (.long v5_21), .second, .val (.int v7_22), .val (.int (0 : Int32)), .val (.int v9_24), .val (.ref b25), .val (.int v7_22), .unset, .unset, .unset, .unset, .unset] [(.int (v7_22 + (5 : Int32))), (.ref b25)]))
    refine own_by (fun _ k => XS.lload X55.here hx rfl (hb hby at_315) rfl k) ?_
    show own_Go _ _ _ _ (T55.setTop (mkF m 317 #[.val (.long q1), .second, .val (.int p2), .val (.int p3), .val (.ref b1), .val (.long v5_21), .second, .val (.int v7_22), .val (.int (0 : Int32)), .val (.int v9_24), .val (.ref b25), .val (.int v7_22), .unset, .unset, .unset, .unset, .unset] [(.long v5_21), (.int (v7_22 + (5 : Int32))), (.ref b25)]))
    refine own_by (fun _ k => XS.aload X55.here hx rfl (hb hby at_317) rfl rfl k) ?_
    show own_Go _ _ _ _ (T55.setTop (mkF m 319 #[.val (.long q1), .second, .val (.int p2), .val (.int p3), .val (.ref b1), .val (.long v5_21), .second, .val (.int v7_22), .val (.int (0 : Int32)), .val (.int v9_24), .val (.ref b25), .val (.int v7_22), .unset, .unset, .unset, .unset, .unset] [(.ref b1), (.long v5_21), (.int (v7_22 + (5 : Int32))), (.ref b25)]))
    refine own_by (fun _ k => XS.bipush X55.here hx rfl (hb hby at_319) k) ?_
    show own_Go _ _ _ _ (T55.setTop (mkF m 321 #[.val (.long q1), .second, .val (.int p2), .val (.int p3), .val (.ref b1), .val (.long v5_21), .second, .val (.int v7_22), .val (.int (0 : Int32)), .val (.int v9_24), .val (.ref b25), .val (.int v7_22), .unset, .unset, .unset, .unset, .unset] [(.int (12 : Int32)), (.ref b1), (.long v5_21), (.int (v7_22 + (5 : Int32))), (.ref b25)]))
    refine own_by (fun _ k => own_lal X55 hx hZ e55 f56 12 (by decide) (by decide) (hb hby at_321) k) ?_
    show own_Go _ _ _ _ (T55.setTop (mkF m 322 #[.val (.long q1), .second, .val (.int p2), .val (.int p3), .val (.ref b1), .val (.long v5_21), .second, .val (.int v7_22), .val (.int (0 : Int32)), .val (.int v9_24), .val (.ref b25), .val (.int v7_22), .unset, .unset, .unset, .unset, .unset] [(.long (own_pw 12)), (.long v5_21), (.int (v7_22 + (5 : Int32))), (.ref b25)]))
    obtain ⟨g57, hg57⟩ : ∃ z_ : Int64, (own_pw 12) = z_ := ⟨_, rfl⟩
    refine own_gen hg57 (fun z_ => T55.setTop (mkF m 322 #[.val (.long q1), .second, .val (.int p2), .val (.int p3), .val (.ref b1), .val (.long v5_21), .second, .val (.int v7_22), .val (.int (0 : Int32)), .val (.int v9_24), .val (.ref b25), .val (.int v7_22), .unset, .unset, .unset, .unset, .unset] [(.long z_), (.long v5_21), (.int (v7_22 + (5 : Int32))), (.ref b25)])) ?_
    refine own_callS X55 hx hZ hown (hw _ (List.mem_of_getElem? (i := 21) rfl)) (hw _ (List.mem_of_getElem? (i := 22) rfl)) (hw _ (List.mem_of_getElem? (i := 23) rfl)) (hw _ (List.mem_of_getElem? (i := 24) rfl)) (by decide) (rm1 l Z a0 hw [] v5_21 g57 h55 n0 Z55 (by rw [← hg57]; exact own_pwz 12 (by decide))) e55 (by rw [hml]; rfl) [(.long v5_21), (.long g57)] [(.int (v7_22 + (5 : Int32))), (.ref b25)] rfl (lenOf own_pd0 rfl) rfl 2 (Nat.le_of_eq rfl) (by decide) (by decide) (Nat.le_of_ble_eq_true rfl) (Nat.le_of_ble_eq_true rfl) (hb hby at_322) ?_
    intro T58 Lc58 v58 X58 hQ58
    obtain ⟨rfl, N58q, e58⟩ := hQ58
    have N58 := Fr.app N55 N58q
    show own_Go _ _ _ _ (T58.setTop (mkF m 325 #[.val (.long q1), .second, .val (.int p2), .val (.int p3), .val (.ref b1), .val (.long v5_21), .second, .val (.int v7_22), .val (.int (0 : Int32)), .val (.int v9_24), .val (.ref b25), .val (.int v7_22), .unset, .unset, .unset, .unset, .unset] [(.int (own_dg v5_21 g57)), (.int (v7_22 + (5 : Int32))), (.ref b25)]))
    refine own_bas X58 hx hZ e58 A55 (F + 5) (own_addk hS (by omega) (by decide) (by decide)) (by omega) (hb hby at_325) ?_
    intro T59 h59 X59 e59 W59 A59
    have f60 := f56.other W59 ne26
    have N59 := Fr.snoc X59 N58 ge25
    have Z59 := own_size_wr W59 Z55
    obtain ⟨fn59, hfn59⟩ : ∃ g : Nat → Int32, g = own_upd fn55 (F + 5) (nar .byte (own_dg v5_21 g57)) := ⟨_, rfl⟩
    rw [← hfn59] at A59
    show own_Go _ _ _ _ (T59.setTop (mkF m 326 #[.val (.long q1), .second, .val (.int p2), .val (.int p3), .val (.ref b1), .val (.long v5_21), .second, .val (.int v7_22), .val (.int (0 : Int32)), .val (.int v9_24), .val (.ref b25), .val (.int v7_22), .unset, .unset, .unset, .unset, .unset] []))
    refine own_by (fun _ k => XS.aload X59.here hx rfl (hb hby at_326) rfl rfl k) ?_
    show own_Go _ _ _ _ (T59.setTop (mkF m 328 #[.val (.long q1), .second, .val (.int p2), .val (.int p3), .val (.ref b1), .val (.long v5_21), .second, .val (.int v7_22), .val (.int (0 : Int32)), .val (.int v9_24), .val (.ref b25), .val (.int v7_22), .unset, .unset, .unset, .unset, .unset] [(.ref b25)]))
    refine own_by (fun _ k => XS.iload X59.here hx rfl (hb hby at_328) rfl k) ?_
    show own_Go _ _ _ _ (T59.setTop (mkF m 330 #[.val (.long q1), .second, .val (.int p2), .val (.int p3), .val (.ref b1), .val (.long v5_21), .second, .val (.int v7_22), .val (.int (0 : Int32)), .val (.int v9_24), .val (.ref b25), .val (.int v7_22), .unset, .unset, .unset, .unset, .unset] [(.int v7_22), (.ref b25)]))
    refine own_by (fun _ k => XS.bipush X59.here hx rfl (hb hby at_330) k) ?_
    show own_Go _ _ _ _ (T59.setTop (mkF m 332 #[.val (.long q1), .second, .val (.int p2), .val (.int p3), .val (.ref b1), .val (.long v5_21), .second, .val (.int v7_22), .val (.int (0 : Int32)), .val (.int v9_24), .val (.ref b25), .val (.int v7_22), .unset, .unset, .unset, .unset, .unset] [(.int (6 : Int32)), (.int v7_22), (.ref b25)]))
    refine own_by (fun _ k => XS.iadd X59.here hx rfl (hb hby at_332) rfl k) ?_
    show own_Go _ _ _ _ (T59.setTop (mkF m 333 #[.val (.long q1), .second, .val (.int p2), .val (.int p3), .val (.ref b1), .val (.long v5_21), .second, .val (.int v7_22), .val (.int (0 : Int32)), .val (.int v9_24), .val (.ref b25), .val (.int v7_22), .unset, .unset, .unset, .unset, .unset] [(.int (v7_22 + (6 : Int32))), (.ref b25)]))
    refine own_by (fun _ k => XS.lload X59.here hx rfl (hb hby at_333) rfl k) ?_
    show own_Go _ _ _ _ (T59.setTop (mkF m 335 #[.val (.long q1), .second, .val (.int p2), .val (.int p3), .val (.ref b1), .val (.long v5_21), .second, .val (.int v7_22), .val (.int (0 : Int32)), .val (.int v9_24), .val (.ref b25), .val (.int v7_22), .unset, .unset, .unset, .unset, .unset] [(.long v5_21), (.int (v7_22 + (6 : Int32))), (.ref b25)]))
    refine own_by (fun _ k => XS.aload X59.here hx rfl (hb hby at_335) rfl rfl k) ?_
    show own_Go _ _ _ _ (T59.setTop (mkF m 337 #[.val (.long q1), .second, .val (.int p2), .val (.int p3), .val (.ref b1), .val (.long v5_21), .second, .val (.int v7_22), .val (.int (0 : Int32)), .val (.int v9_24), .val (.ref b25), .val (.int v7_22), .unset, .unset, .unset, .unset, .unset] [(.ref b1), (.long v5_21), (.int (v7_22 + (6 : Int32))), (.ref b25)]))
    refine own_by (fun _ k => XS.bipush X59.here hx rfl (hb hby at_337) k) ?_
    show own_Go _ _ _ _ (T59.setTop (mkF m 339 #[.val (.long q1), .second, .val (.int p2), .val (.int p3), .val (.ref b1), .val (.long v5_21), .second, .val (.int v7_22), .val (.int (0 : Int32)), .val (.int v9_24), .val (.ref b25), .val (.int v7_22), .unset, .unset, .unset, .unset, .unset] [(.int (11 : Int32)), (.ref b1), (.long v5_21), (.int (v7_22 + (6 : Int32))), (.ref b25)]))
    refine own_by (fun _ k => own_lal X59 hx hZ e59 f60 11 (by decide) (by decide) (hb hby at_339) k) ?_
    show own_Go _ _ _ _ (T59.setTop (mkF m 340 #[.val (.long q1), .second, .val (.int p2), .val (.int p3), .val (.ref b1), .val (.long v5_21), .second, .val (.int v7_22), .val (.int (0 : Int32)), .val (.int v9_24), .val (.ref b25), .val (.int v7_22), .unset, .unset, .unset, .unset, .unset] [(.long (own_pw 11)), (.long v5_21), (.int (v7_22 + (6 : Int32))), (.ref b25)]))
    obtain ⟨g61, hg61⟩ : ∃ z_ : Int64, (own_pw 11) = z_ := ⟨_, rfl⟩
    refine own_gen hg61 (fun z_ => T59.setTop (mkF m 340 #[.val (.long q1), .second, .val (.int p2), .val (.int p3), .val (.ref b1), .val (.long v5_21), .second, .val (.int v7_22), .val (.int (0 : Int32)), .val (.int v9_24), .val (.ref b25), .val (.int v7_22), .unset, .unset, .unset, .unset, .unset] [(.long z_), (.long v5_21), (.int (v7_22 + (6 : Int32))), (.ref b25)])) ?_
    refine own_callS X59 hx hZ hown (hw _ (List.mem_of_getElem? (i := 21) rfl)) (hw _ (List.mem_of_getElem? (i := 22) rfl)) (hw _ (List.mem_of_getElem? (i := 23) rfl)) (hw _ (List.mem_of_getElem? (i := 24) rfl)) (by decide) (rm1 l Z a0 hw [] v5_21 g61 h59 n0 Z59 (by rw [← hg61]; exact own_pwz 11 (by decide))) e59 (by rw [hml]; rfl) [(.long v5_21), (.long g61)] [(.int (v7_22 + (6 : Int32))), (.ref b25)] rfl (lenOf own_pd0 rfl) rfl 2 (Nat.le_of_eq rfl) (by decide) (by decide) (Nat.le_of_ble_eq_true rfl) (Nat.le_of_ble_eq_true rfl) (hb hby at_340) ?_
    intro T62 Lc62 v62 X62 hQ62
    obtain ⟨rfl, N62q, e62⟩ := hQ62
    have N62 := Fr.app N59 N62q
    show own_Go _ _ _ _ (T62.setTop (mkF m 343 #[.val (.long q1), .second, .val (.int p2), .val (.int p3), .val (.ref b1), .val (.long v5_21), .second, .val (.int v7_22), .val (.int (0 : Int32)), .val (.int v9_24), .val (.ref b25), .val (.int v7_22), .unset, .unset, .unset, .unset, .unset] [(.int (own_dg v5_21 g61)), (.int (v7_22 + (6 : Int32))), (.ref b25)]))
    refine own_bas X62 hx hZ e62 A59 (F + 6) (own_addk hS (by omega) (by decide) (by decide)) (by omega) (hb hby at_343) ?_
    intro T63 h63 X63 e63 W63 A63
    have f64 := f60.other W63 ne26
    have N63 := Fr.snoc X63 N62 ge25
    have Z63 := own_size_wr W63 Z59
    obtain ⟨fn63, hfn63⟩ : ∃ g : Nat → Int32, g = own_upd fn59 (F + 6) (nar .byte (own_dg v5_21 g61)) := ⟨_, rfl⟩
    rw [← hfn63] at A63
    show own_Go _ _ _ _ (T63.setTop (mkF m 344 #[.val (.long q1), .second, .val (.int p2), .val (.int p3), .val (.ref b1), .val (.long v5_21), .second, .val (.int v7_22), .val (.int (0 : Int32)), .val (.int v9_24), .val (.ref b25), .val (.int v7_22), .unset, .unset, .unset, .unset, .unset] []))
    refine own_by (fun _ k => XS.aload X63.here hx rfl (hb hby at_344) rfl rfl k) ?_
    show own_Go _ _ _ _ (T63.setTop (mkF m 346 #[.val (.long q1), .second, .val (.int p2), .val (.int p3), .val (.ref b1), .val (.long v5_21), .second, .val (.int v7_22), .val (.int (0 : Int32)), .val (.int v9_24), .val (.ref b25), .val (.int v7_22), .unset, .unset, .unset, .unset, .unset] [(.ref b25)]))
    refine own_by (fun _ k => XS.iload X63.here hx rfl (hb hby at_346) rfl k) ?_
    show own_Go _ _ _ _ (T63.setTop (mkF m 348 #[.val (.long q1), .second, .val (.int p2), .val (.int p3), .val (.ref b1), .val (.long v5_21), .second, .val (.int v7_22), .val (.int (0 : Int32)), .val (.int v9_24), .val (.ref b25), .val (.int v7_22), .unset, .unset, .unset, .unset, .unset] [(.int v7_22), (.ref b25)]))
    refine own_by (fun _ k => XS.bipush X63.here hx rfl (hb hby at_348) k) ?_
    show own_Go _ _ _ _ (T63.setTop (mkF m 350 #[.val (.long q1), .second, .val (.int p2), .val (.int p3), .val (.ref b1), .val (.long v5_21), .second, .val (.int v7_22), .val (.int (0 : Int32)), .val (.int v9_24), .val (.ref b25), .val (.int v7_22), .unset, .unset, .unset, .unset, .unset] [(.int (7 : Int32)), (.int v7_22), (.ref b25)]))
    refine own_by (fun _ k => XS.iadd X63.here hx rfl (hb hby at_350) rfl k) ?_
    show own_Go _ _ _ _ (T63.setTop (mkF m 351 #[.val (.long q1), .second, .val (.int p2), .val (.int p3), .val (.ref b1), .val (.long v5_21), .second, .val (.int v7_22), .val (.int (0 : Int32)), .val (.int v9_24), .val (.ref b25), .val (.int v7_22), .unset, .unset, .unset, .unset, .unset] [(.int (v7_22 + (7 : Int32))), (.ref b25)]))
    refine own_by (fun _ k => XS.lload X63.here hx rfl (hb hby at_351) rfl k) ?_
    show own_Go _ _ _ _ (T63.setTop (mkF m 353 #[.val (.long q1), .second, .val (.int p2), .val (.int p3), .val (.ref b1), .val (.long v5_21), .second, .val (.int v7_22), .val (.int (0 : Int32)), .val (.int v9_24), .val (.ref b25), .val (.int v7_22), .unset, .unset, .unset, .unset, .unset] [(.long v5_21), (.int (v7_22 + (7 : Int32))), (.ref b25)]))
    refine own_by (fun _ k => XS.aload X63.here hx rfl (hb hby at_353) rfl rfl k) ?_
    show own_Go _ _ _ _ (T63.setTop (mkF m 355 #[.val (.long q1), .second, .val (.int p2), .val (.int p3), .val (.ref b1), .val (.long v5_21), .second, .val (.int v7_22), .val (.int (0 : Int32)), .val (.int v9_24), .val (.ref b25), .val (.int v7_22), .unset, .unset, .unset, .unset, .unset] [(.ref b1), (.long v5_21), (.int (v7_22 + (7 : Int32))), (.ref b25)]))
    refine own_by (fun _ k => XS.bipush X63.here hx rfl (hb hby at_355) k) ?_
    show own_Go _ _ _ _ (T63.setTop (mkF m 357 #[.val (.long q1), .second, .val (.int p2), .val (.int p3), .val (.ref b1), .val (.long v5_21), .second, .val (.int v7_22), .val (.int (0 : Int32)), .val (.int v9_24), .val (.ref b25), .val (.int v7_22), .unset, .unset, .unset, .unset, .unset] [(.int (10 : Int32)), (.ref b1), (.long v5_21), (.int (v7_22 + (7 : Int32))), (.ref b25)]))
    refine own_by (fun _ k => own_lal X63 hx hZ e63 f64 10 (by decide) (by decide) (hb hby at_357) k) ?_
    show own_Go _ _ _ _ (T63.setTop (mkF m 358 #[.val (.long q1), .second, .val (.int p2), .val (.int p3), .val (.ref b1), .val (.long v5_21), .second, .val (.int v7_22), .val (.int (0 : Int32)), .val (.int v9_24), .val (.ref b25), .val (.int v7_22), .unset, .unset, .unset, .unset, .unset] [(.long (own_pw 10)), (.long v5_21), (.int (v7_22 + (7 : Int32))), (.ref b25)]))
    obtain ⟨g65, hg65⟩ : ∃ z_ : Int64, (own_pw 10) = z_ := ⟨_, rfl⟩
    refine own_gen hg65 (fun z_ => T63.setTop (mkF m 358 #[.val (.long q1), .second, .val (.int p2), .val (.int p3), .val (.ref b1), .val (.long v5_21), .second, .val (.int v7_22), .val (.int (0 : Int32)), .val (.int v9_24), .val (.ref b25), .val (.int v7_22), .unset, .unset, .unset, .unset, .unset] [(.long z_), (.long v5_21), (.int (v7_22 + (7 : Int32))), (.ref b25)])) ?_
    refine own_callS X63 hx hZ hown (hw _ (List.mem_of_getElem? (i := 21) rfl)) (hw _ (List.mem_of_getElem? (i := 22) rfl)) (hw _ (List.mem_of_getElem? (i := 23) rfl)) (hw _ (List.mem_of_getElem? (i := 24) rfl)) (by decide) (rm1 l Z a0 hw [] v5_21 g65 h63 n0 Z63 (by rw [← hg65]; exact own_pwz 10 (by decide))) e63 (by rw [hml]; rfl) [(.long v5_21), (.long g65)] [(.int (v7_22 + (7 : Int32))), (.ref b25)] rfl (lenOf own_pd0 rfl) rfl 2 (Nat.le_of_eq rfl) (by decide) (by decide) (Nat.le_of_ble_eq_true rfl) (Nat.le_of_ble_eq_true rfl) (hb hby at_358) ?_
    intro T66 Lc66 v66 X66 hQ66
    obtain ⟨rfl, N66q, e66⟩ := hQ66
    have N66 := Fr.app N63 N66q
    show own_Go _ _ _ _ (T66.setTop (mkF m 361 #[.val (.long q1), .second, .val (.int p2), .val (.int p3), .val (.ref b1), .val (.long v5_21), .second, .val (.int v7_22), .val (.int (0 : Int32)), .val (.int v9_24), .val (.ref b25), .val (.int v7_22), .unset, .unset, .unset, .unset, .unset] [(.int (own_dg v5_21 g65)), (.int (v7_22 + (7 : Int32))), (.ref b25)]))
    refine own_bas X66 hx hZ e66 A63 (F + 7) (own_addk hS (by omega) (by decide) (by decide)) (by omega) (hb hby at_361) ?_
    intro T67 h67 X67 e67 W67 A67
    have f68 := f64.other W67 ne26
    have N67 := Fr.snoc X67 N66 ge25
    have Z67 := own_size_wr W67 Z63
    obtain ⟨fn67, hfn67⟩ : ∃ g : Nat → Int32, g = own_upd fn63 (F + 7) (nar .byte (own_dg v5_21 g65)) := ⟨_, rfl⟩
    rw [← hfn67] at A67
    show own_Go _ _ _ _ (T67.setTop (mkF m 362 #[.val (.long q1), .second, .val (.int p2), .val (.int p3), .val (.ref b1), .val (.long v5_21), .second, .val (.int v7_22), .val (.int (0 : Int32)), .val (.int v9_24), .val (.ref b25), .val (.int v7_22), .unset, .unset, .unset, .unset, .unset] []))
    refine own_by (fun _ k => XS.aload X67.here hx rfl (hb hby at_362) rfl rfl k) ?_
    show own_Go _ _ _ _ (T67.setTop (mkF m 364 #[.val (.long q1), .second, .val (.int p2), .val (.int p3), .val (.ref b1), .val (.long v5_21), .second, .val (.int v7_22), .val (.int (0 : Int32)), .val (.int v9_24), .val (.ref b25), .val (.int v7_22), .unset, .unset, .unset, .unset, .unset] [(.ref b25)]))
    refine own_by (fun _ k => XS.iload X67.here hx rfl (hb hby at_364) rfl k) ?_
    show own_Go _ _ _ _ (T67.setTop (mkF m 366 #[.val (.long q1), .second, .val (.int p2), .val (.int p3), .val (.ref b1), .val (.long v5_21), .second, .val (.int v7_22), .val (.int (0 : Int32)), .val (.int v9_24), .val (.ref b25), .val (.int v7_22), .unset, .unset, .unset, .unset, .unset] [(.int v7_22), (.ref b25)]))
    refine own_by (fun _ k => XS.bipush X67.here hx rfl (hb hby at_366) k) ?_
    show own_Go _ _ _ _ (T67.setTop (mkF m 368 #[.val (.long q1), .second, .val (.int p2), .val (.int p3), .val (.ref b1), .val (.long v5_21), .second, .val (.int v7_22), .val (.int (0 : Int32)), .val (.int v9_24), .val (.ref b25), .val (.int v7_22), .unset, .unset, .unset, .unset, .unset] [(.int (8 : Int32)), (.int v7_22), (.ref b25)]))
    refine own_by (fun _ k => XS.iadd X67.here hx rfl (hb hby at_368) rfl k) ?_
    show own_Go _ _ _ _ (T67.setTop (mkF m 369 #[.val (.long q1), .second, .val (.int p2), .val (.int p3), .val (.ref b1), .val (.long v5_21), .second, .val (.int v7_22), .val (.int (0 : Int32)), .val (.int v9_24), .val (.ref b25), .val (.int v7_22), .unset, .unset, .unset, .unset, .unset] [(.int (v7_22 + (8 : Int32))), (.ref b25)]))
    refine own_by (fun _ k => XS.lload X67.here hx rfl (hb hby at_369) rfl k) ?_
    show own_Go _ _ _ _ (T67.setTop (mkF m 371 #[.val (.long q1), .second, .val (.int p2), .val (.int p3), .val (.ref b1), .val (.long v5_21), .second, .val (.int v7_22), .val (.int (0 : Int32)), .val (.int v9_24), .val (.ref b25), .val (.int v7_22), .unset, .unset, .unset, .unset, .unset] [(.long v5_21), (.int (v7_22 + (8 : Int32))), (.ref b25)]))
    refine own_by (fun _ k => XS.aload X67.here hx rfl (hb hby at_371) rfl rfl k) ?_
    show own_Go _ _ _ _ (T67.setTop (mkF m 373 #[.val (.long q1), .second, .val (.int p2), .val (.int p3), .val (.ref b1), .val (.long v5_21), .second, .val (.int v7_22), .val (.int (0 : Int32)), .val (.int v9_24), .val (.ref b25), .val (.int v7_22), .unset, .unset, .unset, .unset, .unset] [(.ref b1), (.long v5_21), (.int (v7_22 + (8 : Int32))), (.ref b25)]))
    refine own_by (fun _ k => XS.bipush X67.here hx rfl (hb hby at_373) k) ?_
    show own_Go _ _ _ _ (T67.setTop (mkF m 375 #[.val (.long q1), .second, .val (.int p2), .val (.int p3), .val (.ref b1), .val (.long v5_21), .second, .val (.int v7_22), .val (.int (0 : Int32)), .val (.int v9_24), .val (.ref b25), .val (.int v7_22), .unset, .unset, .unset, .unset, .unset] [(.int (9 : Int32)), (.ref b1), (.long v5_21), (.int (v7_22 + (8 : Int32))), (.ref b25)]))
    refine own_by (fun _ k => own_lal X67 hx hZ e67 f68 9 (by decide) (by decide) (hb hby at_375) k) ?_
    show own_Go _ _ _ _ (T67.setTop (mkF m 376 #[.val (.long q1), .second, .val (.int p2), .val (.int p3), .val (.ref b1), .val (.long v5_21), .second, .val (.int v7_22), .val (.int (0 : Int32)), .val (.int v9_24), .val (.ref b25), .val (.int v7_22), .unset, .unset, .unset, .unset, .unset] [(.long (own_pw 9)), (.long v5_21), (.int (v7_22 + (8 : Int32))), (.ref b25)]))
    obtain ⟨g69, hg69⟩ : ∃ z_ : Int64, (own_pw 9) = z_ := ⟨_, rfl⟩
    refine own_gen hg69 (fun z_ => T67.setTop (mkF m 376 #[.val (.long q1), .second, .val (.int p2), .val (.int p3), .val (.ref b1), .val (.long v5_21), .second, .val (.int v7_22), .val (.int (0 : Int32)), .val (.int v9_24), .val (.ref b25), .val (.int v7_22), .unset, .unset, .unset, .unset, .unset] [(.long z_), (.long v5_21), (.int (v7_22 + (8 : Int32))), (.ref b25)])) ?_
    refine own_callS X67 hx hZ hown (hw _ (List.mem_of_getElem? (i := 21) rfl)) (hw _ (List.mem_of_getElem? (i := 22) rfl)) (hw _ (List.mem_of_getElem? (i := 23) rfl)) (hw _ (List.mem_of_getElem? (i := 24) rfl)) (by decide) (rm1 l Z a0 hw [] v5_21 g69 h67 n0 Z67 (by rw [← hg69]; exact own_pwz 9 (by decide))) e67 (by rw [hml]; rfl) [(.long v5_21), (.long g69)] [(.int (v7_22 + (8 : Int32))), (.ref b25)] rfl (lenOf own_pd0 rfl) rfl 2 (Nat.le_of_eq rfl) (by decide) (by decide) (Nat.le_of_ble_eq_true rfl) (Nat.le_of_ble_eq_true rfl) (hb hby at_376) ?_
    intro T70 Lc70 v70 X70 hQ70
    obtain ⟨rfl, N70q, e70⟩ := hQ70
    have N70 := Fr.app N67 N70q
    show own_Go _ _ _ _ (T70.setTop (mkF m 379 #[.val (.long q1), .second, .val (.int p2), .val (.int p3), .val (.ref b1), .val (.long v5_21), .second, .val (.int v7_22), .val (.int (0 : Int32)), .val (.int v9_24), .val (.ref b25), .val (.int v7_22), .unset, .unset, .unset, .unset, .unset] [(.int (own_dg v5_21 g69)), (.int (v7_22 + (8 : Int32))), (.ref b25)]))
    refine own_bas X70 hx hZ e70 A67 (F + 8) (own_addk hS (by omega) (by decide) (by decide)) (by omega) (hb hby at_379) ?_
    intro T71 h71 X71 e71 W71 A71
    have f72 := f68.other W71 ne26
    have N71 := Fr.snoc X71 N70 ge25
    have Z71 := own_size_wr W71 Z67
    obtain ⟨fn71, hfn71⟩ : ∃ g : Nat → Int32, g = own_upd fn67 (F + 8) (nar .byte (own_dg v5_21 g69)) := ⟨_, rfl⟩
    rw [← hfn71] at A71
    show own_Go _ _ _ _ (T71.setTop (mkF m 380 #[.val (.long q1), .second, .val (.int p2), .val (.int p3), .val (.ref b1), .val (.long v5_21), .second, .val (.int v7_22), .val (.int (0 : Int32)), .val (.int v9_24), .val (.ref b25), .val (.int v7_22), .unset, .unset, .unset, .unset, .unset] []))
    refine own_by (fun _ k => XS.aload X71.here hx rfl (hb hby at_380) rfl rfl k) ?_
    show own_Go _ _ _ _ (T71.setTop (mkF m 382 #[.val (.long q1), .second, .val (.int p2), .val (.int p3), .val (.ref b1), .val (.long v5_21), .second, .val (.int v7_22), .val (.int (0 : Int32)), .val (.int v9_24), .val (.ref b25), .val (.int v7_22), .unset, .unset, .unset, .unset, .unset] [(.ref b25)]))
    refine own_by (fun _ k => XS.iload X71.here hx rfl (hb hby at_382) rfl k) ?_
    show own_Go _ _ _ _ (T71.setTop (mkF m 384 #[.val (.long q1), .second, .val (.int p2), .val (.int p3), .val (.ref b1), .val (.long v5_21), .second, .val (.int v7_22), .val (.int (0 : Int32)), .val (.int v9_24), .val (.ref b25), .val (.int v7_22), .unset, .unset, .unset, .unset, .unset] [(.int v7_22), (.ref b25)]))
    refine own_by (fun _ k => XS.bipush X71.here hx rfl (hb hby at_384) k) ?_
    show own_Go _ _ _ _ (T71.setTop (mkF m 386 #[.val (.long q1), .second, .val (.int p2), .val (.int p3), .val (.ref b1), .val (.long v5_21), .second, .val (.int v7_22), .val (.int (0 : Int32)), .val (.int v9_24), .val (.ref b25), .val (.int v7_22), .unset, .unset, .unset, .unset, .unset] [(.int (9 : Int32)), (.int v7_22), (.ref b25)]))
    refine own_by (fun _ k => XS.iadd X71.here hx rfl (hb hby at_386) rfl k) ?_
    show own_Go _ _ _ _ (T71.setTop (mkF m 387 #[.val (.long q1), .second, .val (.int p2), .val (.int p3), .val (.ref b1), .val (.long v5_21), .second, .val (.int v7_22), .val (.int (0 : Int32)), .val (.int v9_24), .val (.ref b25), .val (.int v7_22), .unset, .unset, .unset, .unset, .unset] [(.int (v7_22 + (9 : Int32))), (.ref b25)]))
    refine own_by (fun _ k => XS.lload X71.here hx rfl (hb hby at_387) rfl k) ?_
    show own_Go _ _ _ _ (T71.setTop (mkF m 389 #[.val (.long q1), .second, .val (.int p2), .val (.int p3), .val (.ref b1), .val (.long v5_21), .second, .val (.int v7_22), .val (.int (0 : Int32)), .val (.int v9_24), .val (.ref b25), .val (.int v7_22), .unset, .unset, .unset, .unset, .unset] [(.long v5_21), (.int (v7_22 + (9 : Int32))), (.ref b25)]))
    refine own_by (fun _ k => XS.aload X71.here hx rfl (hb hby at_389) rfl rfl k) ?_
    show own_Go _ _ _ _ (T71.setTop (mkF m 391 #[.val (.long q1), .second, .val (.int p2), .val (.int p3), .val (.ref b1), .val (.long v5_21), .second, .val (.int v7_22), .val (.int (0 : Int32)), .val (.int v9_24), .val (.ref b25), .val (.int v7_22), .unset, .unset, .unset, .unset, .unset] [(.ref b1), (.long v5_21), (.int (v7_22 + (9 : Int32))), (.ref b25)]))
    refine own_by (fun _ k => XS.bipush X71.here hx rfl (hb hby at_391) k) ?_
    show own_Go _ _ _ _ (T71.setTop (mkF m 393 #[.val (.long q1), .second, .val (.int p2), .val (.int p3), .val (.ref b1), .val (.long v5_21), .second, .val (.int v7_22), .val (.int (0 : Int32)), .val (.int v9_24), .val (.ref b25), .val (.int v7_22), .unset, .unset, .unset, .unset, .unset] [(.int (8 : Int32)), (.ref b1), (.long v5_21), (.int (v7_22 + (9 : Int32))), (.ref b25)]))
    refine own_by (fun _ k => own_lal X71 hx hZ e71 f72 8 (by decide) (by decide) (hb hby at_393) k) ?_
    show own_Go _ _ _ _ (T71.setTop (mkF m 394 #[.val (.long q1), .second, .val (.int p2), .val (.int p3), .val (.ref b1), .val (.long v5_21), .second, .val (.int v7_22), .val (.int (0 : Int32)), .val (.int v9_24), .val (.ref b25), .val (.int v7_22), .unset, .unset, .unset, .unset, .unset] [(.long (own_pw 8)), (.long v5_21), (.int (v7_22 + (9 : Int32))), (.ref b25)]))
    obtain ⟨g73, hg73⟩ : ∃ z_ : Int64, (own_pw 8) = z_ := ⟨_, rfl⟩
    refine own_gen hg73 (fun z_ => T71.setTop (mkF m 394 #[.val (.long q1), .second, .val (.int p2), .val (.int p3), .val (.ref b1), .val (.long v5_21), .second, .val (.int v7_22), .val (.int (0 : Int32)), .val (.int v9_24), .val (.ref b25), .val (.int v7_22), .unset, .unset, .unset, .unset, .unset] [(.long z_), (.long v5_21), (.int (v7_22 + (9 : Int32))), (.ref b25)])) ?_
    refine own_callS X71 hx hZ hown (hw _ (List.mem_of_getElem? (i := 21) rfl)) (hw _ (List.mem_of_getElem? (i := 22) rfl)) (hw _ (List.mem_of_getElem? (i := 23) rfl)) (hw _ (List.mem_of_getElem? (i := 24) rfl)) (by decide) (rm1 l Z a0 hw [] v5_21 g73 h71 n0 Z71 (by rw [← hg73]; exact own_pwz 8 (by decide))) e71 (by rw [hml]; rfl) [(.long v5_21), (.long g73)] [(.int (v7_22 + (9 : Int32))), (.ref b25)] rfl (lenOf own_pd0 rfl) rfl 2 (Nat.le_of_eq rfl) (by decide) (by decide) (Nat.le_of_ble_eq_true rfl) (Nat.le_of_ble_eq_true rfl) (hb hby at_394) ?_
    intro T74 Lc74 v74 X74 hQ74
    obtain ⟨rfl, N74q, e74⟩ := hQ74
    have N74 := Fr.app N71 N74q
    show own_Go _ _ _ _ (T74.setTop (mkF m 397 #[.val (.long q1), .second, .val (.int p2), .val (.int p3), .val (.ref b1), .val (.long v5_21), .second, .val (.int v7_22), .val (.int (0 : Int32)), .val (.int v9_24), .val (.ref b25), .val (.int v7_22), .unset, .unset, .unset, .unset, .unset] [(.int (own_dg v5_21 g73)), (.int (v7_22 + (9 : Int32))), (.ref b25)]))
    refine own_bas X74 hx hZ e74 A71 (F + 9) (own_addk hS (by omega) (by decide) (by decide)) (by omega) (hb hby at_397) ?_
    intro T75 h75 X75 e75 W75 A75
    have f76 := f72.other W75 ne26
    have N75 := Fr.snoc X75 N74 ge25
    have Z75 := own_size_wr W75 Z71
    obtain ⟨fn75, hfn75⟩ : ∃ g : Nat → Int32, g = own_upd fn71 (F + 9) (nar .byte (own_dg v5_21 g73)) := ⟨_, rfl⟩
    rw [← hfn75] at A75
    show own_Go _ _ _ _ (T75.setTop (mkF m 398 #[.val (.long q1), .second, .val (.int p2), .val (.int p3), .val (.ref b1), .val (.long v5_21), .second, .val (.int v7_22), .val (.int (0 : Int32)), .val (.int v9_24), .val (.ref b25), .val (.int v7_22), .unset, .unset, .unset, .unset, .unset] []))
    refine own_by (fun _ k => XS.aload X75.here hx rfl (hb hby at_398) rfl rfl k) ?_
    show own_Go _ _ _ _ (T75.setTop (mkF m 400 #[.val (.long q1), .second, .val (.int p2), .val (.int p3), .val (.ref b1), .val (.long v5_21), .second, .val (.int v7_22), .val (.int (0 : Int32)), .val (.int v9_24), .val (.ref b25), .val (.int v7_22), .unset, .unset, .unset, .unset, .unset] [(.ref b25)]))
    refine own_by (fun _ k => XS.iload X75.here hx rfl (hb hby at_400) rfl k) ?_
    show own_Go _ _ _ _ (T75.setTop (mkF m 402 #[.val (.long q1), .second, .val (.int p2), .val (.int p3), .val (.ref b1), .val (.long v5_21), .second, .val (.int v7_22), .val (.int (0 : Int32)), .val (.int v9_24), .val (.ref b25), .val (.int v7_22), .unset, .unset, .unset, .unset, .unset] [(.int v7_22), (.ref b25)]))
    refine own_by (fun _ k => XS.bipush X75.here hx rfl (hb hby at_402) k) ?_
    show own_Go _ _ _ _ (T75.setTop (mkF m 404 #[.val (.long q1), .second, .val (.int p2), .val (.int p3), .val (.ref b1), .val (.long v5_21), .second, .val (.int v7_22), .val (.int (0 : Int32)), .val (.int v9_24), .val (.ref b25), .val (.int v7_22), .unset, .unset, .unset, .unset, .unset] [(.int (10 : Int32)), (.int v7_22), (.ref b25)]))
    refine own_by (fun _ k => XS.iadd X75.here hx rfl (hb hby at_404) rfl k) ?_
    show own_Go _ _ _ _ (T75.setTop (mkF m 405 #[.val (.long q1), .second, .val (.int p2), .val (.int p3), .val (.ref b1), .val (.long v5_21), .second, .val (.int v7_22), .val (.int (0 : Int32)), .val (.int v9_24), .val (.ref b25), .val (.int v7_22), .unset, .unset, .unset, .unset, .unset] [(.int (v7_22 + (10 : Int32))), (.ref b25)]))
    refine own_by (fun _ k => XS.lload X75.here hx rfl (hb hby at_405) rfl k) ?_
    show own_Go _ _ _ _ (T75.setTop (mkF m 407 #[.val (.long q1), .second, .val (.int p2), .val (.int p3), .val (.ref b1), .val (.long v5_21), .second, .val (.int v7_22), .val (.int (0 : Int32)), .val (.int v9_24), .val (.ref b25), .val (.int v7_22), .unset, .unset, .unset, .unset, .unset] [(.long v5_21), (.int (v7_22 + (10 : Int32))), (.ref b25)]))
    refine own_by (fun _ k => XS.aload X75.here hx rfl (hb hby at_407) rfl rfl k) ?_
    show own_Go _ _ _ _ (T75.setTop (mkF m 409 #[.val (.long q1), .second, .val (.int p2), .val (.int p3), .val (.ref b1), .val (.long v5_21), .second, .val (.int v7_22), .val (.int (0 : Int32)), .val (.int v9_24), .val (.ref b25), .val (.int v7_22), .unset, .unset, .unset, .unset, .unset] [(.ref b1), (.long v5_21), (.int (v7_22 + (10 : Int32))), (.ref b25)]))
    refine own_by (fun _ k => XS.bipush X75.here hx rfl (hb hby at_409) k) ?_
    show own_Go _ _ _ _ (T75.setTop (mkF m 411 #[.val (.long q1), .second, .val (.int p2), .val (.int p3), .val (.ref b1), .val (.long v5_21), .second, .val (.int v7_22), .val (.int (0 : Int32)), .val (.int v9_24), .val (.ref b25), .val (.int v7_22), .unset, .unset, .unset, .unset, .unset] [(.int (7 : Int32)), (.ref b1), (.long v5_21), (.int (v7_22 + (10 : Int32))), (.ref b25)]))
    refine own_by (fun _ k => own_lal X75 hx hZ e75 f76 7 (by decide) (by decide) (hb hby at_411) k) ?_
    show own_Go _ _ _ _ (T75.setTop (mkF m 412 #[.val (.long q1), .second, .val (.int p2), .val (.int p3), .val (.ref b1), .val (.long v5_21), .second, .val (.int v7_22), .val (.int (0 : Int32)), .val (.int v9_24), .val (.ref b25), .val (.int v7_22), .unset, .unset, .unset, .unset, .unset] [(.long (own_pw 7)), (.long v5_21), (.int (v7_22 + (10 : Int32))), (.ref b25)]))
    obtain ⟨g77, hg77⟩ : ∃ z_ : Int64, (own_pw 7) = z_ := ⟨_, rfl⟩
    refine own_gen hg77 (fun z_ => T75.setTop (mkF m 412 #[.val (.long q1), .second, .val (.int p2), .val (.int p3), .val (.ref b1), .val (.long v5_21), .second, .val (.int v7_22), .val (.int (0 : Int32)), .val (.int v9_24), .val (.ref b25), .val (.int v7_22), .unset, .unset, .unset, .unset, .unset] [(.long z_), (.long v5_21), (.int (v7_22 + (10 : Int32))), (.ref b25)])) ?_
    refine own_callS X75 hx hZ hown (hw _ (List.mem_of_getElem? (i := 21) rfl)) (hw _ (List.mem_of_getElem? (i := 22) rfl)) (hw _ (List.mem_of_getElem? (i := 23) rfl)) (hw _ (List.mem_of_getElem? (i := 24) rfl)) (by decide) (rm1 l Z a0 hw [] v5_21 g77 h75 n0 Z75 (by rw [← hg77]; exact own_pwz 7 (by decide))) e75 (by rw [hml]; rfl) [(.long v5_21), (.long g77)] [(.int (v7_22 + (10 : Int32))), (.ref b25)] rfl (lenOf own_pd0 rfl) rfl 2 (Nat.le_of_eq rfl) (by decide) (by decide) (Nat.le_of_ble_eq_true rfl) (Nat.le_of_ble_eq_true rfl) (hb hby at_412) ?_
    intro T78 Lc78 v78 X78 hQ78
    obtain ⟨rfl, N78q, e78⟩ := hQ78
    have N78 := Fr.app N75 N78q
    show own_Go _ _ _ _ (T78.setTop (mkF m 415 #[.val (.long q1), .second, .val (.int p2), .val (.int p3), .val (.ref b1), .val (.long v5_21), .second, .val (.int v7_22), .val (.int (0 : Int32)), .val (.int v9_24), .val (.ref b25), .val (.int v7_22), .unset, .unset, .unset, .unset, .unset] [(.int (own_dg v5_21 g77)), (.int (v7_22 + (10 : Int32))), (.ref b25)]))
    refine own_bas X78 hx hZ e78 A75 (F + 10) (own_addk hS (by omega) (by decide) (by decide)) (by omega) (hb hby at_415) ?_
    intro T79 h79 X79 e79 W79 A79
    have f80 := f76.other W79 ne26
    have N79 := Fr.snoc X79 N78 ge25
    have Z79 := own_size_wr W79 Z75
    obtain ⟨fn79, hfn79⟩ : ∃ g : Nat → Int32, g = own_upd fn75 (F + 10) (nar .byte (own_dg v5_21 g77)) := ⟨_, rfl⟩
    rw [← hfn79] at A79
    show own_Go _ _ _ _ (T79.setTop (mkF m 416 #[.val (.long q1), .second, .val (.int p2), .val (.int p3), .val (.ref b1), .val (.long v5_21), .second, .val (.int v7_22), .val (.int (0 : Int32)), .val (.int v9_24), .val (.ref b25), .val (.int v7_22), .unset, .unset, .unset, .unset, .unset] []))
    refine own_by (fun _ k => XS.aload X79.here hx rfl (hb hby at_416) rfl rfl k) ?_
    show own_Go _ _ _ _ (T79.setTop (mkF m 418 #[.val (.long q1), .second, .val (.int p2), .val (.int p3), .val (.ref b1), .val (.long v5_21), .second, .val (.int v7_22), .val (.int (0 : Int32)), .val (.int v9_24), .val (.ref b25), .val (.int v7_22), .unset, .unset, .unset, .unset, .unset] [(.ref b25)]))
    refine own_by (fun _ k => XS.iload X79.here hx rfl (hb hby at_418) rfl k) ?_
    show own_Go _ _ _ _ (T79.setTop (mkF m 420 #[.val (.long q1), .second, .val (.int p2), .val (.int p3), .val (.ref b1), .val (.long v5_21), .second, .val (.int v7_22), .val (.int (0 : Int32)), .val (.int v9_24), .val (.ref b25), .val (.int v7_22), .unset, .unset, .unset, .unset, .unset] [(.int v7_22), (.ref b25)]))
    refine own_by (fun _ k => XS.bipush X79.here hx rfl (hb hby at_420) k) ?_
    show own_Go _ _ _ _ (T79.setTop (mkF m 422 #[.val (.long q1), .second, .val (.int p2), .val (.int p3), .val (.ref b1), .val (.long v5_21), .second, .val (.int v7_22), .val (.int (0 : Int32)), .val (.int v9_24), .val (.ref b25), .val (.int v7_22), .unset, .unset, .unset, .unset, .unset] [(.int (11 : Int32)), (.int v7_22), (.ref b25)]))
    refine own_by (fun _ k => XS.iadd X79.here hx rfl (hb hby at_422) rfl k) ?_
    show own_Go _ _ _ _ (T79.setTop (mkF m 423 #[.val (.long q1), .second, .val (.int p2), .val (.int p3), .val (.ref b1), .val (.long v5_21), .second, .val (.int v7_22), .val (.int (0 : Int32)), .val (.int v9_24), .val (.ref b25), .val (.int v7_22), .unset, .unset, .unset, .unset, .unset] [(.int (v7_22 + (11 : Int32))), (.ref b25)]))
    refine own_by (fun _ k => XS.lload X79.here hx rfl (hb hby at_423) rfl k) ?_
    show own_Go _ _ _ _ (T79.setTop (mkF m 425 #[.val (.long q1), .second, .val (.int p2), .val (.int p3), .val (.ref b1), .val (.long v5_21), .second, .val (.int v7_22), .val (.int (0 : Int32)), .val (.int v9_24), .val (.ref b25), .val (.int v7_22), .unset, .unset, .unset, .unset, .unset] [(.long v5_21), (.int (v7_22 + (11 : Int32))), (.ref b25)]))
    refine own_by (fun _ k => XS.aload X79.here hx rfl (hb hby at_425) rfl rfl k) ?_
    show own_Go _ _ _ _ (T79.setTop (mkF m 427 #[.val (.long q1), .second, .val (.int p2), .val (.int p3), .val (.ref b1), .val (.long v5_21), .second, .val (.int v7_22), .val (.int (0 : Int32)), .val (.int v9_24), .val (.ref b25), .val (.int v7_22), .unset, .unset, .unset, .unset, .unset] [(.ref b1), (.long v5_21), (.int (v7_22 + (11 : Int32))), (.ref b25)]))
    refine own_by (fun _ k => XS.bipush X79.here hx rfl (hb hby at_427) k) ?_
    show own_Go _ _ _ _ (T79.setTop (mkF m 429 #[.val (.long q1), .second, .val (.int p2), .val (.int p3), .val (.ref b1), .val (.long v5_21), .second, .val (.int v7_22), .val (.int (0 : Int32)), .val (.int v9_24), .val (.ref b25), .val (.int v7_22), .unset, .unset, .unset, .unset, .unset] [(.int (6 : Int32)), (.ref b1), (.long v5_21), (.int (v7_22 + (11 : Int32))), (.ref b25)]))
    refine own_by (fun _ k => own_lal X79 hx hZ e79 f80 6 (by decide) (by decide) (hb hby at_429) k) ?_
    show own_Go _ _ _ _ (T79.setTop (mkF m 430 #[.val (.long q1), .second, .val (.int p2), .val (.int p3), .val (.ref b1), .val (.long v5_21), .second, .val (.int v7_22), .val (.int (0 : Int32)), .val (.int v9_24), .val (.ref b25), .val (.int v7_22), .unset, .unset, .unset, .unset, .unset] [(.long (own_pw 6)), (.long v5_21), (.int (v7_22 + (11 : Int32))), (.ref b25)]))
    obtain ⟨g81, hg81⟩ : ∃ z_ : Int64, (own_pw 6) = z_ := ⟨_, rfl⟩
    refine own_gen hg81 (fun z_ => T79.setTop (mkF m 430 #[.val (.long q1), .second, .val (.int p2), .val (.int p3), .val (.ref b1), .val (.long v5_21), .second, .val (.int v7_22), .val (.int (0 : Int32)), .val (.int v9_24), .val (.ref b25), .val (.int v7_22), .unset, .unset, .unset, .unset, .unset] [(.long z_), (.long v5_21), (.int (v7_22 + (11 : Int32))), (.ref b25)])) ?_
    refine own_callS X79 hx hZ hown (hw _ (List.mem_of_getElem? (i := 21) rfl)) (hw _ (List.mem_of_getElem? (i := 22) rfl)) (hw _ (List.mem_of_getElem? (i := 23) rfl)) (hw _ (List.mem_of_getElem? (i := 24) rfl)) (by decide) (rm1 l Z a0 hw [] v5_21 g81 h79 n0 Z79 (by rw [← hg81]; exact own_pwz 6 (by decide))) e79 (by rw [hml]; rfl) [(.long v5_21), (.long g81)] [(.int (v7_22 + (11 : Int32))), (.ref b25)] rfl (lenOf own_pd0 rfl) rfl 2 (Nat.le_of_eq rfl) (by decide) (by decide) (Nat.le_of_ble_eq_true rfl) (Nat.le_of_ble_eq_true rfl) (hb hby at_430) ?_
    intro T82 Lc82 v82 X82 hQ82
    obtain ⟨rfl, N82q, e82⟩ := hQ82
    have N82 := Fr.app N79 N82q
    show own_Go _ _ _ _ (T82.setTop (mkF m 433 #[.val (.long q1), .second, .val (.int p2), .val (.int p3), .val (.ref b1), .val (.long v5_21), .second, .val (.int v7_22), .val (.int (0 : Int32)), .val (.int v9_24), .val (.ref b25), .val (.int v7_22), .unset, .unset, .unset, .unset, .unset] [(.int (own_dg v5_21 g81)), (.int (v7_22 + (11 : Int32))), (.ref b25)]))
    refine own_bas X82 hx hZ e82 A79 (F + 11) (own_addk hS (by omega) (by decide) (by decide)) (by omega) (hb hby at_433) ?_
    intro T83 h83 X83 e83 W83 A83
    have f84 := f80.other W83 ne26
    have N83 := Fr.snoc X83 N82 ge25
    have Z83 := own_size_wr W83 Z79
    obtain ⟨fn83, hfn83⟩ : ∃ g : Nat → Int32, g = own_upd fn79 (F + 11) (nar .byte (own_dg v5_21 g81)) := ⟨_, rfl⟩
    rw [← hfn83] at A83
    show own_Go _ _ _ _ (T83.setTop (mkF m 434 #[.val (.long q1), .second, .val (.int p2), .val (.int p3), .val (.ref b1), .val (.long v5_21), .second, .val (.int v7_22), .val (.int (0 : Int32)), .val (.int v9_24), .val (.ref b25), .val (.int v7_22), .unset, .unset, .unset, .unset, .unset] []))
    refine own_by (fun _ k => XS.aload X83.here hx rfl (hb hby at_434) rfl rfl k) ?_
    show own_Go _ _ _ _ (T83.setTop (mkF m 436 #[.val (.long q1), .second, .val (.int p2), .val (.int p3), .val (.ref b1), .val (.long v5_21), .second, .val (.int v7_22), .val (.int (0 : Int32)), .val (.int v9_24), .val (.ref b25), .val (.int v7_22), .unset, .unset, .unset, .unset, .unset] [(.ref b25)]))
    refine own_by (fun _ k => XS.iload X83.here hx rfl (hb hby at_436) rfl k) ?_
    show own_Go _ _ _ _ (T83.setTop (mkF m 438 #[.val (.long q1), .second, .val (.int p2), .val (.int p3), .val (.ref b1), .val (.long v5_21), .second, .val (.int v7_22), .val (.int (0 : Int32)), .val (.int v9_24), .val (.ref b25), .val (.int v7_22), .unset, .unset, .unset, .unset, .unset] [(.int v7_22), (.ref b25)]))
    refine own_by (fun _ k => XS.bipush X83.here hx rfl (hb hby at_438) k) ?_
    show own_Go _ _ _ _ (T83.setTop (mkF m 440 #[.val (.long q1), .second, .val (.int p2), .val (.int p3), .val (.ref b1), .val (.long v5_21), .second, .val (.int v7_22), .val (.int (0 : Int32)), .val (.int v9_24), .val (.ref b25), .val (.int v7_22), .unset, .unset, .unset, .unset, .unset] [(.int (12 : Int32)), (.int v7_22), (.ref b25)]))
    refine own_by (fun _ k => XS.iadd X83.here hx rfl (hb hby at_440) rfl k) ?_
    show own_Go _ _ _ _ (T83.setTop (mkF m 441 #[.val (.long q1), .second, .val (.int p2), .val (.int p3), .val (.ref b1), .val (.long v5_21), .second, .val (.int v7_22), .val (.int (0 : Int32)), .val (.int v9_24), .val (.ref b25), .val (.int v7_22), .unset, .unset, .unset, .unset, .unset] [(.int (v7_22 + (12 : Int32))), (.ref b25)]))
    refine own_by (fun _ k => XS.lload X83.here hx rfl (hb hby at_441) rfl k) ?_
    show own_Go _ _ _ _ (T83.setTop (mkF m 443 #[.val (.long q1), .second, .val (.int p2), .val (.int p3), .val (.ref b1), .val (.long v5_21), .second, .val (.int v7_22), .val (.int (0 : Int32)), .val (.int v9_24), .val (.ref b25), .val (.int v7_22), .unset, .unset, .unset, .unset, .unset] [(.long v5_21), (.int (v7_22 + (12 : Int32))), (.ref b25)]))
    refine own_by (fun _ k => XS.aload X83.here hx rfl (hb hby at_443) rfl rfl k) ?_
    show own_Go _ _ _ _ (T83.setTop (mkF m 445 #[.val (.long q1), .second, .val (.int p2), .val (.int p3), .val (.ref b1), .val (.long v5_21), .second, .val (.int v7_22), .val (.int (0 : Int32)), .val (.int v9_24), .val (.ref b25), .val (.int v7_22), .unset, .unset, .unset, .unset, .unset] [(.ref b1), (.long v5_21), (.int (v7_22 + (12 : Int32))), (.ref b25)]))
    refine own_by (fun _ k => XS.iconst X83.here hx rfl (hb hby at_445) k) ?_
    show own_Go _ _ _ _ (T83.setTop (mkF m 446 #[.val (.long q1), .second, .val (.int p2), .val (.int p3), .val (.ref b1), .val (.long v5_21), .second, .val (.int v7_22), .val (.int (0 : Int32)), .val (.int v9_24), .val (.ref b25), .val (.int v7_22), .unset, .unset, .unset, .unset, .unset] [(.int (5 : Int32)), (.ref b1), (.long v5_21), (.int (v7_22 + (12 : Int32))), (.ref b25)]))
    refine own_by (fun _ k => own_lal X83 hx hZ e83 f84 5 (by decide) (by decide) (hb hby at_446) k) ?_
    show own_Go _ _ _ _ (T83.setTop (mkF m 447 #[.val (.long q1), .second, .val (.int p2), .val (.int p3), .val (.ref b1), .val (.long v5_21), .second, .val (.int v7_22), .val (.int (0 : Int32)), .val (.int v9_24), .val (.ref b25), .val (.int v7_22), .unset, .unset, .unset, .unset, .unset] [(.long (own_pw 5)), (.long v5_21), (.int (v7_22 + (12 : Int32))), (.ref b25)]))
    obtain ⟨g85, hg85⟩ : ∃ z_ : Int64, (own_pw 5) = z_ := ⟨_, rfl⟩
    refine own_gen hg85 (fun z_ => T83.setTop (mkF m 447 #[.val (.long q1), .second, .val (.int p2), .val (.int p3), .val (.ref b1), .val (.long v5_21), .second, .val (.int v7_22), .val (.int (0 : Int32)), .val (.int v9_24), .val (.ref b25), .val (.int v7_22), .unset, .unset, .unset, .unset, .unset] [(.long z_), (.long v5_21), (.int (v7_22 + (12 : Int32))), (.ref b25)])) ?_
    refine own_callS X83 hx hZ hown (hw _ (List.mem_of_getElem? (i := 21) rfl)) (hw _ (List.mem_of_getElem? (i := 22) rfl)) (hw _ (List.mem_of_getElem? (i := 23) rfl)) (hw _ (List.mem_of_getElem? (i := 24) rfl)) (by decide) (rm1 l Z a0 hw [] v5_21 g85 h83 n0 Z83 (by rw [← hg85]; exact own_pwz 5 (by decide))) e83 (by rw [hml]; rfl) [(.long v5_21), (.long g85)] [(.int (v7_22 + (12 : Int32))), (.ref b25)] rfl (lenOf own_pd0 rfl) rfl 2 (Nat.le_of_eq rfl) (by decide) (by decide) (Nat.le_of_ble_eq_true rfl) (Nat.le_of_ble_eq_true rfl) (hb hby at_447) ?_
    intro T86 Lc86 v86 X86 hQ86
    obtain ⟨rfl, N86q, e86⟩ := hQ86
    have N86 := Fr.app N83 N86q
    show own_Go _ _ _ _ (T86.setTop (mkF m 450 #[.val (.long q1), .second, .val (.int p2), .val (.int p3), .val (.ref b1), .val (.long v5_21), .second, .val (.int v7_22), .val (.int (0 : Int32)), .val (.int v9_24), .val (.ref b25), .val (.int v7_22), .unset, .unset, .unset, .unset, .unset] [(.int (own_dg v5_21 g85)), (.int (v7_22 + (12 : Int32))), (.ref b25)]))
    refine own_bas X86 hx hZ e86 A83 (F + 12) (own_addk hS (by omega) (by decide) (by decide)) (by omega) (hb hby at_450) ?_
    intro T87 h87 X87 e87 W87 A87
    have f88 := f84.other W87 ne26
    have N87 := Fr.snoc X87 N86 ge25
    have Z87 := own_size_wr W87 Z83
    obtain ⟨fn87, hfn87⟩ : ∃ g : Nat → Int32, g = own_upd fn83 (F + 12) (nar .byte (own_dg v5_21 g85)) := ⟨_, rfl⟩
    rw [← hfn87] at A87
    show own_Go _ _ _ _ (T87.setTop (mkF m 451 #[.val (.long q1), .second, .val (.int p2), .val (.int p3), .val (.ref b1), .val (.long v5_21), .second, .val (.int v7_22), .val (.int (0 : Int32)), .val (.int v9_24), .val (.ref b25), .val (.int v7_22), .unset, .unset, .unset, .unset, .unset] []))
    refine own_by (fun _ k => XS.aload X87.here hx rfl (hb hby at_451) rfl rfl k) ?_
    show own_Go _ _ _ _ (T87.setTop (mkF m 453 #[.val (.long q1), .second, .val (.int p2), .val (.int p3), .val (.ref b1), .val (.long v5_21), .second, .val (.int v7_22), .val (.int (0 : Int32)), .val (.int v9_24), .val (.ref b25), .val (.int v7_22), .unset, .unset, .unset, .unset, .unset] [(.ref b25)]))
    refine own_by (fun _ k => XS.iload X87.here hx rfl (hb hby at_453) rfl k) ?_
    show own_Go _ _ _ _ (T87.setTop (mkF m 455 #[.val (.long q1), .second, .val (.int p2), .val (.int p3), .val (.ref b1), .val (.long v5_21), .second, .val (.int v7_22), .val (.int (0 : Int32)), .val (.int v9_24), .val (.ref b25), .val (.int v7_22), .unset, .unset, .unset, .unset, .unset] [(.int v7_22), (.ref b25)]))
    refine own_by (fun _ k => XS.bipush X87.here hx rfl (hb hby at_455) k) ?_
    show own_Go _ _ _ _ (T87.setTop (mkF m 457 #[.val (.long q1), .second, .val (.int p2), .val (.int p3), .val (.ref b1), .val (.long v5_21), .second, .val (.int v7_22), .val (.int (0 : Int32)), .val (.int v9_24), .val (.ref b25), .val (.int v7_22), .unset, .unset, .unset, .unset, .unset] [(.int (13 : Int32)), (.int v7_22), (.ref b25)]))
    refine own_by (fun _ k => XS.iadd X87.here hx rfl (hb hby at_457) rfl k) ?_
    show own_Go _ _ _ _ (T87.setTop (mkF m 458 #[.val (.long q1), .second, .val (.int p2), .val (.int p3), .val (.ref b1), .val (.long v5_21), .second, .val (.int v7_22), .val (.int (0 : Int32)), .val (.int v9_24), .val (.ref b25), .val (.int v7_22), .unset, .unset, .unset, .unset, .unset] [(.int (v7_22 + (13 : Int32))), (.ref b25)]))
    refine own_by (fun _ k => XS.lload X87.here hx rfl (hb hby at_458) rfl k) ?_
    show own_Go _ _ _ _ (T87.setTop (mkF m 460 #[.val (.long q1), .second, .val (.int p2), .val (.int p3), .val (.ref b1), .val (.long v5_21), .second, .val (.int v7_22), .val (.int (0 : Int32)), .val (.int v9_24), .val (.ref b25), .val (.int v7_22), .unset, .unset, .unset, .unset, .unset] [(.long v5_21), (.int (v7_22 + (13 : Int32))), (.ref b25)]))
    refine own_by (fun _ k => XS.aload X87.here hx rfl (hb hby at_460) rfl rfl k) ?_
    show own_Go _ _ _ _ (T87.setTop (mkF m 462 #[.val (.long q1), .second, .val (.int p2), .val (.int p3), .val (.ref b1), .val (.long v5_21), .second, .val (.int v7_22), .val (.int (0 : Int32)), .val (.int v9_24), .val (.ref b25), .val (.int v7_22), .unset, .unset, .unset, .unset, .unset] [(.ref b1), (.long v5_21), (.int (v7_22 + (13 : Int32))), (.ref b25)]))
    refine own_by (fun _ k => XS.iconst X87.here hx rfl (hb hby at_462) k) ?_
    show own_Go _ _ _ _ (T87.setTop (mkF m 463 #[.val (.long q1), .second, .val (.int p2), .val (.int p3), .val (.ref b1), .val (.long v5_21), .second, .val (.int v7_22), .val (.int (0 : Int32)), .val (.int v9_24), .val (.ref b25), .val (.int v7_22), .unset, .unset, .unset, .unset, .unset] [(.int (4 : Int32)), (.ref b1), (.long v5_21), (.int (v7_22 + (13 : Int32))), (.ref b25)]))
    refine own_by (fun _ k => own_lal X87 hx hZ e87 f88 4 (by decide) (by decide) (hb hby at_463) k) ?_
    show own_Go _ _ _ _ (T87.setTop (mkF m 464 #[.val (.long q1), .second, .val (.int p2), .val (.int p3), .val (.ref b1), .val (.long v5_21), .second, .val (.int v7_22), .val (.int (0 : Int32)), .val (.int v9_24), .val (.ref b25), .val (.int v7_22), .unset, .unset, .unset, .unset, .unset] [(.long (own_pw 4)), (.long v5_21), (.int (v7_22 + (13 : Int32))), (.ref b25)]))
    obtain ⟨g89, hg89⟩ : ∃ z_ : Int64, (own_pw 4) = z_ := ⟨_, rfl⟩
    refine own_gen hg89 (fun z_ => T87.setTop (mkF m 464 #[.val (.long q1), .second, .val (.int p2), .val (.int p3), .val (.ref b1), .val (.long v5_21), .second, .val (.int v7_22), .val (.int (0 : Int32)), .val (.int v9_24), .val (.ref b25), .val (.int v7_22), .unset, .unset, .unset, .unset, .unset] [(.long z_), (.long v5_21), (.int (v7_22 + (13 : Int32))), (.ref b25)])) ?_
    refine own_callS X87 hx hZ hown (hw _ (List.mem_of_getElem? (i := 21) rfl)) (hw _ (List.mem_of_getElem? (i := 22) rfl)) (hw _ (List.mem_of_getElem? (i := 23) rfl)) (hw _ (List.mem_of_getElem? (i := 24) rfl)) (by decide) (rm1 l Z a0 hw [] v5_21 g89 h87 n0 Z87 (by rw [← hg89]; exact own_pwz 4 (by decide))) e87 (by rw [hml]; rfl) [(.long v5_21), (.long g89)] [(.int (v7_22 + (13 : Int32))), (.ref b25)] rfl (lenOf own_pd0 rfl) rfl 2 (Nat.le_of_eq rfl) (by decide) (by decide) (Nat.le_of_ble_eq_true rfl) (Nat.le_of_ble_eq_true rfl) (hb hby at_464) ?_
    intro T90 Lc90 v90 X90 hQ90
    obtain ⟨rfl, N90q, e90⟩ := hQ90
    have N90 := Fr.app N87 N90q
    show own_Go _ _ _ _ (T90.setTop (mkF m 467 #[.val (.long q1), .second, .val (.int p2), .val (.int p3), .val (.ref b1), .val (.long v5_21), .second, .val (.int v7_22), .val (.int (0 : Int32)), .val (.int v9_24), .val (.ref b25), .val (.int v7_22), .unset, .unset, .unset, .unset, .unset] [(.int (own_dg v5_21 g89)), (.int (v7_22 + (13 : Int32))), (.ref b25)]))
    refine own_bas X90 hx hZ e90 A87 (F + 13) (own_addk hS (by omega) (by decide) (by decide)) (by omega) (hb hby at_467) ?_
    intro T91 h91 X91 e91 W91 A91
    have f92 := f88.other W91 ne26
    have N91 := Fr.snoc X91 N90 ge25
    have Z91 := own_size_wr W91 Z87
    obtain ⟨fn91, hfn91⟩ : ∃ g : Nat → Int32, g = own_upd fn87 (F + 13) (nar .byte (own_dg v5_21 g89)) := ⟨_, rfl⟩
    rw [← hfn91] at A91
    show own_Go _ _ _ _ (T91.setTop (mkF m 468 #[.val (.long q1), .second, .val (.int p2), .val (.int p3), .val (.ref b1), .val (.long v5_21), .second, .val (.int v7_22), .val (.int (0 : Int32)), .val (.int v9_24), .val (.ref b25), .val (.int v7_22), .unset, .unset, .unset, .unset, .unset] []))
    refine own_by (fun _ k => XS.aload X91.here hx rfl (hb hby at_468) rfl rfl k) ?_
    show own_Go _ _ _ _ (T91.setTop (mkF m 470 #[.val (.long q1), .second, .val (.int p2), .val (.int p3), .val (.ref b1), .val (.long v5_21), .second, .val (.int v7_22), .val (.int (0 : Int32)), .val (.int v9_24), .val (.ref b25), .val (.int v7_22), .unset, .unset, .unset, .unset, .unset] [(.ref b25)]))
    refine own_by (fun _ k => XS.iload X91.here hx rfl (hb hby at_470) rfl k) ?_
    show own_Go _ _ _ _ (T91.setTop (mkF m 472 #[.val (.long q1), .second, .val (.int p2), .val (.int p3), .val (.ref b1), .val (.long v5_21), .second, .val (.int v7_22), .val (.int (0 : Int32)), .val (.int v9_24), .val (.ref b25), .val (.int v7_22), .unset, .unset, .unset, .unset, .unset] [(.int v7_22), (.ref b25)]))
    refine own_by (fun _ k => XS.bipush X91.here hx rfl (hb hby at_472) k) ?_
    show own_Go _ _ _ _ (T91.setTop (mkF m 474 #[.val (.long q1), .second, .val (.int p2), .val (.int p3), .val (.ref b1), .val (.long v5_21), .second, .val (.int v7_22), .val (.int (0 : Int32)), .val (.int v9_24), .val (.ref b25), .val (.int v7_22), .unset, .unset, .unset, .unset, .unset] [(.int (14 : Int32)), (.int v7_22), (.ref b25)]))
    refine own_by (fun _ k => XS.iadd X91.here hx rfl (hb hby at_474) rfl k) ?_
    show own_Go _ _ _ _ (T91.setTop (mkF m 475 #[.val (.long q1), .second, .val (.int p2), .val (.int p3), .val (.ref b1), .val (.long v5_21), .second, .val (.int v7_22), .val (.int (0 : Int32)), .val (.int v9_24), .val (.ref b25), .val (.int v7_22), .unset, .unset, .unset, .unset, .unset] [(.int (v7_22 + (14 : Int32))), (.ref b25)]))
    refine own_by (fun _ k => XS.lload X91.here hx rfl (hb hby at_475) rfl k) ?_
    show own_Go _ _ _ _ (T91.setTop (mkF m 477 #[.val (.long q1), .second, .val (.int p2), .val (.int p3), .val (.ref b1), .val (.long v5_21), .second, .val (.int v7_22), .val (.int (0 : Int32)), .val (.int v9_24), .val (.ref b25), .val (.int v7_22), .unset, .unset, .unset, .unset, .unset] [(.long v5_21), (.int (v7_22 + (14 : Int32))), (.ref b25)]))
    refine own_by (fun _ k => XS.aload X91.here hx rfl (hb hby at_477) rfl rfl k) ?_
    show own_Go _ _ _ _ (T91.setTop (mkF m 479 #[.val (.long q1), .second, .val (.int p2), .val (.int p3), .val (.ref b1), .val (.long v5_21), .second, .val (.int v7_22), .val (.int (0 : Int32)), .val (.int v9_24), .val (.ref b25), .val (.int v7_22), .unset, .unset, .unset, .unset, .unset] [(.ref b1), (.long v5_21), (.int (v7_22 + (14 : Int32))), (.ref b25)]))
    refine own_by (fun _ k => XS.iconst X91.here hx rfl (hb hby at_479) k) ?_
    show own_Go _ _ _ _ (T91.setTop (mkF m 480 #[.val (.long q1), .second, .val (.int p2), .val (.int p3), .val (.ref b1), .val (.long v5_21), .second, .val (.int v7_22), .val (.int (0 : Int32)), .val (.int v9_24), .val (.ref b25), .val (.int v7_22), .unset, .unset, .unset, .unset, .unset] [(.int (3 : Int32)), (.ref b1), (.long v5_21), (.int (v7_22 + (14 : Int32))), (.ref b25)]))
    refine own_by (fun _ k => own_lal X91 hx hZ e91 f92 3 (by decide) (by decide) (hb hby at_480) k) ?_
    show own_Go _ _ _ _ (T91.setTop (mkF m 481 #[.val (.long q1), .second, .val (.int p2), .val (.int p3), .val (.ref b1), .val (.long v5_21), .second, .val (.int v7_22), .val (.int (0 : Int32)), .val (.int v9_24), .val (.ref b25), .val (.int v7_22), .unset, .unset, .unset, .unset, .unset] [(.long (own_pw 3)), (.long v5_21), (.int (v7_22 + (14 : Int32))), (.ref b25)]))
    obtain ⟨g93, hg93⟩ : ∃ z_ : Int64, (own_pw 3) = z_ := ⟨_, rfl⟩
    refine own_gen hg93 (fun z_ => T91.setTop (mkF m 481 #[.val (.long q1), .second, .val (.int p2), .val (.int p3), .val (.ref b1), .val (.long v5_21), .second, .val (.int v7_22), .val (.int (0 : Int32)), .val (.int v9_24), .val (.ref b25), .val (.int v7_22), .unset, .unset, .unset, .unset, .unset] [(.long z_), (.long v5_21), (.int (v7_22 + (14 : Int32))), (.ref b25)])) ?_
    refine own_callS X91 hx hZ hown (hw _ (List.mem_of_getElem? (i := 21) rfl)) (hw _ (List.mem_of_getElem? (i := 22) rfl)) (hw _ (List.mem_of_getElem? (i := 23) rfl)) (hw _ (List.mem_of_getElem? (i := 24) rfl)) (by decide) (rm1 l Z a0 hw [] v5_21 g93 h91 n0 Z91 (by rw [← hg93]; exact own_pwz 3 (by decide))) e91 (by rw [hml]; rfl) [(.long v5_21), (.long g93)] [(.int (v7_22 + (14 : Int32))), (.ref b25)] rfl (lenOf own_pd0 rfl) rfl 2 (Nat.le_of_eq rfl) (by decide) (by decide) (Nat.le_of_ble_eq_true rfl) (Nat.le_of_ble_eq_true rfl) (hb hby at_481) ?_
    intro T94 Lc94 v94 X94 hQ94
    obtain ⟨rfl, N94q, e94⟩ := hQ94
    have N94 := Fr.app N91 N94q
    show own_Go _ _ _ _ (T94.setTop (mkF m 484 #[.val (.long q1), .second, .val (.int p2), .val (.int p3), .val (.ref b1), .val (.long v5_21), .second, .val (.int v7_22), .val (.int (0 : Int32)), .val (.int v9_24), .val (.ref b25), .val (.int v7_22), .unset, .unset, .unset, .unset, .unset] [(.int (own_dg v5_21 g93)), (.int (v7_22 + (14 : Int32))), (.ref b25)]))
    refine own_bas X94 hx hZ e94 A91 (F + 14) (own_addk hS (by omega) (by decide) (by decide)) (by omega) (hb hby at_484) ?_
    intro T95 h95 X95 e95 W95 A95
    have f96 := f92.other W95 ne26
    have N95 := Fr.snoc X95 N94 ge25
    have Z95 := own_size_wr W95 Z91
    obtain ⟨fn95, hfn95⟩ : ∃ g : Nat → Int32, g = own_upd fn91 (F + 14) (nar .byte (own_dg v5_21 g93)) := ⟨_, rfl⟩
    rw [← hfn95] at A95
    show own_Go _ _ _ _ (T95.setTop (mkF m 485 #[.val (.long q1), .second, .val (.int p2), .val (.int p3), .val (.ref b1), .val (.long v5_21), .second, .val (.int v7_22), .val (.int (0 : Int32)), .val (.int v9_24), .val (.ref b25), .val (.int v7_22), .unset, .unset, .unset, .unset, .unset] []))
    refine own_by (fun _ k => XS.aload X95.here hx rfl (hb hby at_485) rfl rfl k) ?_
    show own_Go _ _ _ _ (T95.setTop (mkF m 487 #[.val (.long q1), .second, .val (.int p2), .val (.int p3), .val (.ref b1), .val (.long v5_21), .second, .val (.int v7_22), .val (.int (0 : Int32)), .val (.int v9_24), .val (.ref b25), .val (.int v7_22), .unset, .unset, .unset, .unset, .unset] [(.ref b25)]))
    refine own_by (fun _ k => XS.iload X95.here hx rfl (hb hby at_487) rfl k) ?_
    show own_Go _ _ _ _ (T95.setTop (mkF m 489 #[.val (.long q1), .second, .val (.int p2), .val (.int p3), .val (.ref b1), .val (.long v5_21), .second, .val (.int v7_22), .val (.int (0 : Int32)), .val (.int v9_24), .val (.ref b25), .val (.int v7_22), .unset, .unset, .unset, .unset, .unset] [(.int v7_22), (.ref b25)]))
    refine own_by (fun _ k => XS.bipush X95.here hx rfl (hb hby at_489) k) ?_
    show own_Go _ _ _ _ (T95.setTop (mkF m 491 #[.val (.long q1), .second, .val (.int p2), .val (.int p3), .val (.ref b1), .val (.long v5_21), .second, .val (.int v7_22), .val (.int (0 : Int32)), .val (.int v9_24), .val (.ref b25), .val (.int v7_22), .unset, .unset, .unset, .unset, .unset] [(.int (15 : Int32)), (.int v7_22), (.ref b25)]))
    refine own_by (fun _ k => XS.iadd X95.here hx rfl (hb hby at_491) rfl k) ?_
    show own_Go _ _ _ _ (T95.setTop (mkF m 492 #[.val (.long q1), .second, .val (.int p2), .val (.int p3), .val (.ref b1), .val (.long v5_21), .second, .val (.int v7_22), .val (.int (0 : Int32)), .val (.int v9_24), .val (.ref b25), .val (.int v7_22), .unset, .unset, .unset, .unset, .unset] [(.int (v7_22 + (15 : Int32))), (.ref b25)]))
    refine own_by (fun _ k => XS.lload X95.here hx rfl (hb hby at_492) rfl k) ?_
    show own_Go _ _ _ _ (T95.setTop (mkF m 494 #[.val (.long q1), .second, .val (.int p2), .val (.int p3), .val (.ref b1), .val (.long v5_21), .second, .val (.int v7_22), .val (.int (0 : Int32)), .val (.int v9_24), .val (.ref b25), .val (.int v7_22), .unset, .unset, .unset, .unset, .unset] [(.long v5_21), (.int (v7_22 + (15 : Int32))), (.ref b25)]))
    refine own_by (fun _ k => XS.aload X95.here hx rfl (hb hby at_494) rfl rfl k) ?_
    show own_Go _ _ _ _ (T95.setTop (mkF m 496 #[.val (.long q1), .second, .val (.int p2), .val (.int p3), .val (.ref b1), .val (.long v5_21), .second, .val (.int v7_22), .val (.int (0 : Int32)), .val (.int v9_24), .val (.ref b25), .val (.int v7_22), .unset, .unset, .unset, .unset, .unset] [(.ref b1), (.long v5_21), (.int (v7_22 + (15 : Int32))), (.ref b25)]))
    refine own_by (fun _ k => XS.iconst X95.here hx rfl (hb hby at_496) k) ?_
    show own_Go _ _ _ _ (T95.setTop (mkF m 497 #[.val (.long q1), .second, .val (.int p2), .val (.int p3), .val (.ref b1), .val (.long v5_21), .second, .val (.int v7_22), .val (.int (0 : Int32)), .val (.int v9_24), .val (.ref b25), .val (.int v7_22), .unset, .unset, .unset, .unset, .unset] [(.int (2 : Int32)), (.ref b1), (.long v5_21), (.int (v7_22 + (15 : Int32))), (.ref b25)]))
    refine own_by (fun _ k => own_lal X95 hx hZ e95 f96 2 (by decide) (by decide) (hb hby at_497) k) ?_
    show own_Go _ _ _ _ (T95.setTop (mkF m 498 #[.val (.long q1), .second, .val (.int p2), .val (.int p3), .val (.ref b1), .val (.long v5_21), .second, .val (.int v7_22), .val (.int (0 : Int32)), .val (.int v9_24), .val (.ref b25), .val (.int v7_22), .unset, .unset, .unset, .unset, .unset] [(.long (own_pw 2)), (.long v5_21), (.int (v7_22 + (15 : Int32))), (.ref b25)]))
    obtain ⟨g97, hg97⟩ : ∃ z_ : Int64, (own_pw 2) = z_ := ⟨_, rfl⟩
    refine own_gen hg97 (fun z_ => T95.setTop (mkF m 498 #[.val (.long q1), .second, .val (.int p2), .val (.int p3), .val (.ref b1), .val (.long v5_21), .second, .val (.int v7_22), .val (.int (0 : Int32)), .val (.int v9_24), .val (.ref b25), .val (.int v7_22), .unset, .unset, .unset, .unset, .unset] [(.long z_), (.long v5_21), (.int (v7_22 + (15 : Int32))), (.ref b25)])) ?_
    refine own_callS X95 hx hZ hown (hw _ (List.mem_of_getElem? (i := 21) rfl)) (hw _ (List.mem_of_getElem? (i := 22) rfl)) (hw _ (List.mem_of_getElem? (i := 23) rfl)) (hw _ (List.mem_of_getElem? (i := 24) rfl)) (by decide) (rm1 l Z a0 hw [] v5_21 g97 h95 n0 Z95 (by rw [← hg97]; exact own_pwz 2 (by decide))) e95 (by rw [hml]; rfl) [(.long v5_21), (.long g97)] [(.int (v7_22 + (15 : Int32))), (.ref b25)] rfl (lenOf own_pd0 rfl) rfl 2 (Nat.le_of_eq rfl) (by decide) (by decide) (Nat.le_of_ble_eq_true rfl) (Nat.le_of_ble_eq_true rfl) (hb hby at_498) ?_
    intro T98 Lc98 v98 X98 hQ98
    obtain ⟨rfl, N98q, e98⟩ := hQ98
    have N98 := Fr.app N95 N98q
    show own_Go _ _ _ _ (T98.setTop (mkF m 501 #[.val (.long q1), .second, .val (.int p2), .val (.int p3), .val (.ref b1), .val (.long v5_21), .second, .val (.int v7_22), .val (.int (0 : Int32)), .val (.int v9_24), .val (.ref b25), .val (.int v7_22), .unset, .unset, .unset, .unset, .unset] [(.int (own_dg v5_21 g97)), (.int (v7_22 + (15 : Int32))), (.ref b25)]))
    refine own_bas X98 hx hZ e98 A95 (F + 15) (own_addk hS (by omega) (by decide) (by decide)) (by omega) (hb hby at_501) ?_
    intro T99 h99 X99 e99 W99 A99
    have f100 := f96.other W99 ne26
    have N99 := Fr.snoc X99 N98 ge25
    have Z99 := own_size_wr W99 Z95
    obtain ⟨fn99, hfn99⟩ : ∃ g : Nat → Int32, g = own_upd fn95 (F + 15) (nar .byte (own_dg v5_21 g97)) := ⟨_, rfl⟩
    rw [← hfn99] at A99
    show own_Go _ _ _ _ (T99.setTop (mkF m 502 #[.val (.long q1), .second, .val (.int p2), .val (.int p3), .val (.ref b1), .val (.long v5_21), .second, .val (.int v7_22), .val (.int (0 : Int32)), .val (.int v9_24), .val (.ref b25), .val (.int v7_22), .unset, .unset, .unset, .unset, .unset] []))
    refine own_by (fun _ k => XS.aload X99.here hx rfl (hb hby at_502) rfl rfl k) ?_
    show own_Go _ _ _ _ (T99.setTop (mkF m 504 #[.val (.long q1), .second, .val (.int p2), .val (.int p3), .val (.ref b1), .val (.long v5_21), .second, .val (.int v7_22), .val (.int (0 : Int32)), .val (.int v9_24), .val (.ref b25), .val (.int v7_22), .unset, .unset, .unset, .unset, .unset] [(.ref b25)]))
    refine own_by (fun _ k => XS.iload X99.here hx rfl (hb hby at_504) rfl k) ?_
    show own_Go _ _ _ _ (T99.setTop (mkF m 506 #[.val (.long q1), .second, .val (.int p2), .val (.int p3), .val (.ref b1), .val (.long v5_21), .second, .val (.int v7_22), .val (.int (0 : Int32)), .val (.int v9_24), .val (.ref b25), .val (.int v7_22), .unset, .unset, .unset, .unset, .unset] [(.int v7_22), (.ref b25)]))
    refine own_by (fun _ k => XS.bipush X99.here hx rfl (hb hby at_506) k) ?_
    show own_Go _ _ _ _ (T99.setTop (mkF m 508 #[.val (.long q1), .second, .val (.int p2), .val (.int p3), .val (.ref b1), .val (.long v5_21), .second, .val (.int v7_22), .val (.int (0 : Int32)), .val (.int v9_24), .val (.ref b25), .val (.int v7_22), .unset, .unset, .unset, .unset, .unset] [(.int (16 : Int32)), (.int v7_22), (.ref b25)]))
    refine own_by (fun _ k => XS.iadd X99.here hx rfl (hb hby at_508) rfl k) ?_
    show own_Go _ _ _ _ (T99.setTop (mkF m 509 #[.val (.long q1), .second, .val (.int p2), .val (.int p3), .val (.ref b1), .val (.long v5_21), .second, .val (.int v7_22), .val (.int (0 : Int32)), .val (.int v9_24), .val (.ref b25), .val (.int v7_22), .unset, .unset, .unset, .unset, .unset] [(.int (v7_22 + (16 : Int32))), (.ref b25)]))
    refine own_by (fun _ k => XS.lload X99.here hx rfl (hb hby at_509) rfl k) ?_
    show own_Go _ _ _ _ (T99.setTop (mkF m 511 #[.val (.long q1), .second, .val (.int p2), .val (.int p3), .val (.ref b1), .val (.long v5_21), .second, .val (.int v7_22), .val (.int (0 : Int32)), .val (.int v9_24), .val (.ref b25), .val (.int v7_22), .unset, .unset, .unset, .unset, .unset] [(.long v5_21), (.int (v7_22 + (16 : Int32))), (.ref b25)]))
    refine own_by (fun _ k => XS.aload X99.here hx rfl (hb hby at_511) rfl rfl k) ?_
    show own_Go _ _ _ _ (T99.setTop (mkF m 513 #[.val (.long q1), .second, .val (.int p2), .val (.int p3), .val (.ref b1), .val (.long v5_21), .second, .val (.int v7_22), .val (.int (0 : Int32)), .val (.int v9_24), .val (.ref b25), .val (.int v7_22), .unset, .unset, .unset, .unset, .unset] [(.ref b1), (.long v5_21), (.int (v7_22 + (16 : Int32))), (.ref b25)]))
    refine own_by (fun _ k => XS.iconst X99.here hx rfl (hb hby at_513) k) ?_
    show own_Go _ _ _ _ (T99.setTop (mkF m 514 #[.val (.long q1), .second, .val (.int p2), .val (.int p3), .val (.ref b1), .val (.long v5_21), .second, .val (.int v7_22), .val (.int (0 : Int32)), .val (.int v9_24), .val (.ref b25), .val (.int v7_22), .unset, .unset, .unset, .unset, .unset] [(.int (1 : Int32)), (.ref b1), (.long v5_21), (.int (v7_22 + (16 : Int32))), (.ref b25)]))
    refine own_by (fun _ k => own_lal X99 hx hZ e99 f100 1 (by decide) (by decide) (hb hby at_514) k) ?_
    show own_Go _ _ _ _ (T99.setTop (mkF m 515 #[.val (.long q1), .second, .val (.int p2), .val (.int p3), .val (.ref b1), .val (.long v5_21), .second, .val (.int v7_22), .val (.int (0 : Int32)), .val (.int v9_24), .val (.ref b25), .val (.int v7_22), .unset, .unset, .unset, .unset, .unset] [(.long (own_pw 1)), (.long v5_21), (.int (v7_22 + (16 : Int32))), (.ref b25)]))
    obtain ⟨g101, hg101⟩ : ∃ z_ : Int64, (own_pw 1) = z_ := ⟨_, rfl⟩
    refine own_gen hg101 (fun z_ => T99.setTop (mkF m 515 #[.val (.long q1), .second, .val (.int p2), .val (.int p3), .val (.ref b1), .val (.long v5_21), .second, .val (.int v7_22), .val (.int (0 : Int32)), .val (.int v9_24), .val (.ref b25), .val (.int v7_22), .unset, .unset, .unset, .unset, .unset] [(.long z_), (.long v5_21), (.int (v7_22 + (16 : Int32))), (.ref b25)])) ?_
    refine own_callS X99 hx hZ hown (hw _ (List.mem_of_getElem? (i := 21) rfl)) (hw _ (List.mem_of_getElem? (i := 22) rfl)) (hw _ (List.mem_of_getElem? (i := 23) rfl)) (hw _ (List.mem_of_getElem? (i := 24) rfl)) (by decide) (rm1 l Z a0 hw [] v5_21 g101 h99 n0 Z99 (by rw [← hg101]; exact own_pwz 1 (by decide))) e99 (by rw [hml]; rfl) [(.long v5_21), (.long g101)] [(.int (v7_22 + (16 : Int32))), (.ref b25)] rfl (lenOf own_pd0 rfl) rfl 2 (Nat.le_of_eq rfl) (by decide) (by decide) (Nat.le_of_ble_eq_true rfl) (Nat.le_of_ble_eq_true rfl) (hb hby at_515) ?_
    intro T102 Lc102 v102 X102 hQ102
    obtain ⟨rfl, N102q, e102⟩ := hQ102
    have N102 := Fr.app N99 N102q
    show own_Go _ _ _ _ (T102.setTop (mkF m 518 #[.val (.long q1), .second, .val (.int p2), .val (.int p3), .val (.ref b1), .val (.long v5_21), .second, .val (.int v7_22), .val (.int (0 : Int32)), .val (.int v9_24), .val (.ref b25), .val (.int v7_22), .unset, .unset, .unset, .unset, .unset] [(.int (own_dg v5_21 g101)), (.int (v7_22 + (16 : Int32))), (.ref b25)]))
    refine own_bas X102 hx hZ e102 A99 (F + 16) (own_addk hS (by omega) (by decide) (by decide)) (by omega) (hb hby at_518) ?_
    intro T103 h103 X103 e103 W103 A103
    have f104 := f100.other W103 ne26
    have N103 := Fr.snoc X103 N102 ge25
    have Z103 := own_size_wr W103 Z99
    obtain ⟨fn103, hfn103⟩ : ∃ g : Nat → Int32, g = own_upd fn99 (F + 16) (nar .byte (own_dg v5_21 g101)) := ⟨_, rfl⟩
    rw [← hfn103] at A103
    show own_Go _ _ _ _ (T103.setTop (mkF m 519 #[.val (.long q1), .second, .val (.int p2), .val (.int p3), .val (.ref b1), .val (.long v5_21), .second, .val (.int v7_22), .val (.int (0 : Int32)), .val (.int v9_24), .val (.ref b25), .val (.int v7_22), .unset, .unset, .unset, .unset, .unset] []))
    refine own_by (fun _ k => XS.aload X103.here hx rfl (hb hby at_519) rfl rfl k) ?_
    show own_Go _ _ _ _ (T103.setTop (mkF m 521 #[.val (.long q1), .second, .val (.int p2), .val (.int p3), .val (.ref b1), .val (.long v5_21), .second, .val (.int v7_22), .val (.int (0 : Int32)), .val (.int v9_24), .val (.ref b25), .val (.int v7_22), .unset, .unset, .unset, .unset, .unset] [(.ref b25)]))
    refine own_by (fun _ k => XS.iload X103.here hx rfl (hb hby at_521) rfl k) ?_
    show own_Go _ _ _ _ (T103.setTop (mkF m 523 #[.val (.long q1), .second, .val (.int p2), .val (.int p3), .val (.ref b1), .val (.long v5_21), .second, .val (.int v7_22), .val (.int (0 : Int32)), .val (.int v9_24), .val (.ref b25), .val (.int v7_22), .unset, .unset, .unset, .unset, .unset] [(.int v7_22), (.ref b25)]))
    refine own_by (fun _ k => XS.bipush X103.here hx rfl (hb hby at_523) k) ?_
    show own_Go _ _ _ _ (T103.setTop (mkF m 525 #[.val (.long q1), .second, .val (.int p2), .val (.int p3), .val (.ref b1), .val (.long v5_21), .second, .val (.int v7_22), .val (.int (0 : Int32)), .val (.int v9_24), .val (.ref b25), .val (.int v7_22), .unset, .unset, .unset, .unset, .unset] [(.int (17 : Int32)), (.int v7_22), (.ref b25)]))
    refine own_by (fun _ k => XS.iadd X103.here hx rfl (hb hby at_525) rfl k) ?_
    show own_Go _ _ _ _ (T103.setTop (mkF m 526 #[.val (.long q1), .second, .val (.int p2), .val (.int p3), .val (.ref b1), .val (.long v5_21), .second, .val (.int v7_22), .val (.int (0 : Int32)), .val (.int v9_24), .val (.ref b25), .val (.int v7_22), .unset, .unset, .unset, .unset, .unset] [(.int (v7_22 + (17 : Int32))), (.ref b25)]))
    refine own_by (fun _ k => XS.lload X103.here hx rfl (hb hby at_526) rfl k) ?_
    show own_Go _ _ _ _ (T103.setTop (mkF m 528 #[.val (.long q1), .second, .val (.int p2), .val (.int p3), .val (.ref b1), .val (.long v5_21), .second, .val (.int v7_22), .val (.int (0 : Int32)), .val (.int v9_24), .val (.ref b25), .val (.int v7_22), .unset, .unset, .unset, .unset, .unset] [(.long v5_21), (.int (v7_22 + (17 : Int32))), (.ref b25)]))
    refine own_by (fun _ k => XS.aload X103.here hx rfl (hb hby at_528) rfl rfl k) ?_
    show own_Go _ _ _ _ (T103.setTop (mkF m 530 #[.val (.long q1), .second, .val (.int p2), .val (.int p3), .val (.ref b1), .val (.long v5_21), .second, .val (.int v7_22), .val (.int (0 : Int32)), .val (.int v9_24), .val (.ref b25), .val (.int v7_22), .unset, .unset, .unset, .unset, .unset] [(.ref b1), (.long v5_21), (.int (v7_22 + (17 : Int32))), (.ref b25)]))
    refine own_by (fun _ k => XS.iconst X103.here hx rfl (hb hby at_530) k) ?_
    show own_Go _ _ _ _ (T103.setTop (mkF m 531 #[.val (.long q1), .second, .val (.int p2), .val (.int p3), .val (.ref b1), .val (.long v5_21), .second, .val (.int v7_22), .val (.int (0 : Int32)), .val (.int v9_24), .val (.ref b25), .val (.int v7_22), .unset, .unset, .unset, .unset, .unset] [(.int (0 : Int32)), (.ref b1), (.long v5_21), (.int (v7_22 + (17 : Int32))), (.ref b25)]))
    refine own_by (fun _ k => own_lal X103 hx hZ e103 f104 0 (by decide) (by decide) (hb hby at_531) k) ?_
    show own_Go _ _ _ _ (T103.setTop (mkF m 532 #[.val (.long q1), .second, .val (.int p2), .val (.int p3), .val (.ref b1), .val (.long v5_21), .second, .val (.int v7_22), .val (.int (0 : Int32)), .val (.int v9_24), .val (.ref b25), .val (.int v7_22), .unset, .unset, .unset, .unset, .unset] [(.long (own_pw 0)), (.long v5_21), (.int (v7_22 + (17 : Int32))), (.ref b25)]))
    obtain ⟨g105, hg105⟩ : ∃ z_ : Int64, (own_pw 0) = z_ := ⟨_, rfl⟩
    refine own_gen hg105 (fun z_ => T103.setTop (mkF m 532 #[.val (.long q1), .second, .val (.int p2), .val (.int p3), .val (.ref b1), .val (.long v5_21), .second, .val (.int v7_22), .val (.int (0 : Int32)), .val (.int v9_24), .val (.ref b25), .val (.int v7_22), .unset, .unset, .unset, .unset, .unset] [(.long z_), (.long v5_21), (.int (v7_22 + (17 : Int32))), (.ref b25)])) ?_
    refine own_callS X103 hx hZ hown (hw _ (List.mem_of_getElem? (i := 21) rfl)) (hw _ (List.mem_of_getElem? (i := 22) rfl)) (hw _ (List.mem_of_getElem? (i := 23) rfl)) (hw _ (List.mem_of_getElem? (i := 24) rfl)) (by decide) (rm1 l Z a0 hw [] v5_21 g105 h103 n0 Z103 (by rw [← hg105]; exact own_pwz 0 (by decide))) e103 (by rw [hml]; rfl) [(.long v5_21), (.long g105)] [(.int (v7_22 + (17 : Int32))), (.ref b25)] rfl (lenOf own_pd0 rfl) rfl 2 (Nat.le_of_eq rfl) (by decide) (by decide) (Nat.le_of_ble_eq_true rfl) (Nat.le_of_ble_eq_true rfl) (hb hby at_532) ?_
    intro T106 Lc106 v106 X106 hQ106
    obtain ⟨rfl, N106q, e106⟩ := hQ106
    have N106 := Fr.app N103 N106q
    show own_Go _ _ _ _ (T106.setTop (mkF m 535 #[.val (.long q1), .second, .val (.int p2), .val (.int p3), .val (.ref b1), .val (.long v5_21), .second, .val (.int v7_22), .val (.int (0 : Int32)), .val (.int v9_24), .val (.ref b25), .val (.int v7_22), .unset, .unset, .unset, .unset, .unset] [(.int (own_dg v5_21 g105)), (.int (v7_22 + (17 : Int32))), (.ref b25)]))
    refine own_bas X106 hx hZ e106 A103 (F + 17) (own_addk hS (by omega) (by decide) (by decide)) (by omega) (hb hby at_535) ?_
    intro T107 h107 X107 e107 W107 A107
    have f108 := f104.other W107 ne26
    have N107 := Fr.snoc X107 N106 ge25
    have Z107 := own_size_wr W107 Z103
    obtain ⟨fn107, hfn107⟩ : ∃ g : Nat → Int32, g = own_upd fn103 (F + 17) (nar .byte (own_dg v5_21 g105)) := ⟨_, rfl⟩
    rw [← hfn107] at A107
    show own_Go _ _ _ _ (T107.setTop (mkF m 536 #[.val (.long q1), .second, .val (.int p2), .val (.int p3), .val (.ref b1), .val (.long v5_21), .second, .val (.int v7_22), .val (.int (0 : Int32)), .val (.int v9_24), .val (.ref b25), .val (.int v7_22), .unset, .unset, .unset, .unset, .unset] []))
    refine own_by (fun _ k => XS.iload X107.here hx rfl (hb hby at_536) rfl k) ?_
    show own_Go _ _ _ _ (T107.setTop (mkF m 538 #[.val (.long q1), .second, .val (.int p2), .val (.int p3), .val (.ref b1), .val (.long v5_21), .second, .val (.int v7_22), .val (.int (0 : Int32)), .val (.int v9_24), .val (.ref b25), .val (.int v7_22), .unset, .unset, .unset, .unset, .unset] [(.int v7_22)]))
    refine own_by (fun _ k => XS.iload X107.here hx rfl (hb hby at_538) rfl k) ?_
    show own_Go _ _ _ _ (T107.setTop (mkF m 540 #[.val (.long q1), .second, .val (.int p2), .val (.int p3), .val (.ref b1), .val (.long v5_21), .second, .val (.int v7_22), .val (.int (0 : Int32)), .val (.int v9_24), .val (.ref b25), .val (.int v7_22), .unset, .unset, .unset, .unset, .unset] [(.int v9_24), (.int v7_22)]))
    refine own_by (fun _ k => XS.iadd X107.here hx rfl (hb hby at_540) rfl k) ?_
    show own_Go _ _ _ _ (T107.setTop (mkF m 541 #[.val (.long q1), .second, .val (.int p2), .val (.int p3), .val (.ref b1), .val (.long v5_21), .second, .val (.int v7_22), .val (.int (0 : Int32)), .val (.int v9_24), .val (.ref b25), .val (.int v7_22), .unset, .unset, .unset, .unset, .unset] [(.int (v7_22 + v9_24))]))
    obtain ⟨v12_109, hv12_109⟩ : ∃ z_ : Int32, (v7_22 + v9_24) = z_ := ⟨_, rfl⟩
    refine own_gen hv12_109 (fun z_ => T107.setTop (mkF m 541 #[.val (.long q1), .second, .val (.int p2), .val (.int p3), .val (.ref b1), .val (.long v5_21), .second, .val (.int v7_22), .val (.int (0 : Int32)), .val (.int v9_24), .val (.ref b25), .val (.int v7_22), .unset, .unset, .unset, .unset, .unset] [(.int z_)])) ?_
    refine own_by (fun _ k => XS.istore X107.here hx rfl (hb hby at_541) rfl (l' := #[.val (.long q1), .second, .val (.int p2), .val (.int p3), .val (.ref b1), .val (.long v5_21), .second, .val (.int v7_22), .val (.int (0 : Int32)), .val (.int v9_24), .val (.ref b25), .val (.int v7_22), .val (.int v12_109), .unset, .unset, .unset, .unset]) rfl k) ?_
    have hto : (v12_109).toInt = ((F + n : Nat) : Int) := by rw [← hv12_109]; exact own_addk hS (by omega) hn (by omega)
    show own_Go _ _ _ _ (T107.setTop (mkF m 543 #[.val (.long q1), .second, .val (.int p2), .val (.int p3), .val (.ref b1), .val (.long v5_21), .second, .val (.int v7_22), .val (.int (0 : Int32)), .val (.int v9_24), .val (.ref b25), .val (.int v7_22), .val (.int v12_109), .unset, .unset, .unset, .unset] []))
    refine own_by (fun _ k => XS.lload X107.here hx rfl (hb hby at_543) rfl k) ?_
    show own_Go _ _ _ _ (T107.setTop (mkF m 545 #[.val (.long q1), .second, .val (.int p2), .val (.int p3), .val (.ref b1), .val (.long v5_21), .second, .val (.int v7_22), .val (.int (0 : Int32)), .val (.int v9_24), .val (.ref b25), .val (.int v7_22), .val (.int v12_109), .unset, .unset, .unset, .unset] [(.long v5_21)]))
    refine own_by (fun _ k => XS.aload X107.here hx rfl (hb hby at_545) rfl rfl k) ?_
    show own_Go _ _ _ _ (T107.setTop (mkF m 547 #[.val (.long q1), .second, .val (.int p2), .val (.int p3), .val (.ref b1), .val (.long v5_21), .second, .val (.int v7_22), .val (.int (0 : Int32)), .val (.int v9_24), .val (.ref b25), .val (.int v7_22), .val (.int v12_109), .unset, .unset, .unset, .unset] [(.ref b1), (.long v5_21)]))
    refine own_by (fun _ k => XS.bipush X107.here hx rfl (hb hby at_547) k) ?_
    show own_Go _ _ _ _ (T107.setTop (mkF m 549 #[.val (.long q1), .second, .val (.int p2), .val (.int p3), .val (.ref b1), .val (.long v5_21), .second, .val (.int v7_22), .val (.int (0 : Int32)), .val (.int v9_24), .val (.ref b25), .val (.int v7_22), .val (.int v12_109), .unset, .unset, .unset, .unset] [(.int (18 : Int32)), (.ref b1), (.long v5_21)]))
    refine own_by (fun _ k => XS.iload X107.here hx rfl (hb hby at_549) rfl k) ?_
    show own_Go _ _ _ _ (T107.setTop (mkF m 551 #[.val (.long q1), .second, .val (.int p2), .val (.int p3), .val (.ref b1), .val (.long v5_21), .second, .val (.int v7_22), .val (.int (0 : Int32)), .val (.int v9_24), .val (.ref b25), .val (.int v7_22), .val (.int v12_109), .unset, .unset, .unset, .unset] [(.int v9_24), (.int (18 : Int32)), (.ref b1), (.long v5_21)]))
    refine own_by (fun _ k => XS.isub X107.here hx rfl (hb hby at_551) rfl k) ?_
    show own_Go _ _ _ _ (T107.setTop (mkF m 552 #[.val (.long q1), .second, .val (.int p2), .val (.int p3), .val (.ref b1), .val (.long v5_21), .second, .val (.int v7_22), .val (.int (0 : Int32)), .val (.int v9_24), .val (.ref b25), .val (.int v7_22), .val (.int v12_109), .unset, .unset, .unset, .unset] [(.int ((18 : Int32) - v9_24)), (.ref b1), (.long v5_21)]))
    refine own_by (fun _ k => own_lal X107 hx hZ e107 f108 (18 - n) (own_ix _ n hn1 hn18 hn) (by omega) (hb hby at_552) k) ?_
    show own_Go _ _ _ _ (T107.setTop (mkF m 553 #[.val (.long q1), .second, .val (.int p2), .val (.int p3), .val (.ref b1), .val (.long v5_21), .second, .val (.int v7_22), .val (.int (0 : Int32)), .val (.int v9_24), .val (.ref b25), .val (.int v7_22), .val (.int v12_109), .unset, .unset, .unset, .unset] [(.long (own_pw (18 - n))), (.long v5_21)]))
    refine own_by (fun _ k => XS.ldiv X107.here hx rfl (hb hby at_553) rfl (own_pwz (18 - n) (by omega)) k) ?_
    show own_Go _ _ _ _ (T107.setTop (mkF m 554 #[.val (.long q1), .second, .val (.int p2), .val (.int p3), .val (.ref b1), .val (.long v5_21), .second, .val (.int v7_22), .val (.int (0 : Int32)), .val (.int v9_24), .val (.ref b25), .val (.int v7_22), .val (.int v12_109), .unset, .unset, .unset, .unset] [(.long (v5_21 / (own_pw (18 - n))))]))
    obtain ⟨v13_110, hv13_110⟩ : ∃ z_ : Int64, (v5_21 / (own_pw (18 - n))) = z_ := ⟨_, rfl⟩
    refine own_gen hv13_110 (fun z_ => T107.setTop (mkF m 554 #[.val (.long q1), .second, .val (.int p2), .val (.int p3), .val (.ref b1), .val (.long v5_21), .second, .val (.int v7_22), .val (.int (0 : Int32)), .val (.int v9_24), .val (.ref b25), .val (.int v7_22), .val (.int v12_109), .unset, .unset, .unset, .unset] [(.long z_)])) ?_
    refine own_by (fun _ k => XS.lstore X107.here hx rfl (hb hby at_554) rfl (l' := #[.val (.long q1), .second, .val (.int p2), .val (.int p3), .val (.ref b1), .val (.long v5_21), .second, .val (.int v7_22), .val (.int (0 : Int32)), .val (.int v9_24), .val (.ref b25), .val (.int v7_22), .val (.int v12_109), .val (.long v13_110), .second, .unset, .unset]) rfl k) ?_
    show own_Go _ _ _ _ (T107.setTop (mkF m 556 #[.val (.long q1), .second, .val (.int p2), .val (.int p3), .val (.ref b1), .val (.long v5_21), .second, .val (.int v7_22), .val (.int (0 : Int32)), .val (.int v9_24), .val (.ref b25), .val (.int v7_22), .val (.int v12_109), .val (.long v13_110), .second, .unset, .unset] []))
    refine own_by (fun _ k => XS.iload X107.here hx rfl (hb hby at_556) rfl k) ?_
    show own_Go _ _ _ _ (T107.setTop (mkF m 558 #[.val (.long q1), .second, .val (.int p2), .val (.int p3), .val (.ref b1), .val (.long v5_21), .second, .val (.int v7_22), .val (.int (0 : Int32)), .val (.int v9_24), .val (.ref b25), .val (.int v7_22), .val (.int v12_109), .val (.long v13_110), .second, .unset, .unset] [(.int (0 : Int32))]))
    refine own_by (fun _ k => XS.ifYes X107.here hx rfl (pc0 := 558) (pc' := 567) rfl (hb hby at_558) rfl ((if0 _ _).trans (teq (by decide)).1) (by decide) (by decide) k) ?_
    show own_Go _ _ _ _ (T107.setTop (mkF m 567 #[.val (.long q1), .second, .val (.int p2), .val (.int p3), .val (.ref b1), .val (.long v5_21), .second, .val (.int v7_22), .val (.int (0 : Int32)), .val (.int v9_24), .val (.ref b25), .val (.int v7_22), .val (.int v12_109), .val (.long v13_110), .second, .unset, .unset] []))
    refine own_by (fun _ k => XS.lload X107.here hx rfl (hb hby at_567) rfl k) ?_
    show own_Go _ _ _ _ (T107.setTop (mkF m 569 #[.val (.long q1), .second, .val (.int p2), .val (.int p3), .val (.ref b1), .val (.long v5_21), .second, .val (.int v7_22), .val (.int (0 : Int32)), .val (.int v9_24), .val (.ref b25), .val (.int v7_22), .val (.int v12_109), .val (.long v13_110), .second, .unset, .unset] [(.long v13_110)]))
    refine own_by (fun _ k => XS.lstore X107.here hx rfl (hb hby at_569) rfl (l' := #[.val (.long q1), .second, .val (.int p2), .val (.int p3), .val (.ref b1), .val (.long v5_21), .second, .val (.int v7_22), .val (.int (0 : Int32)), .val (.int v9_24), .val (.ref b25), .val (.int v7_22), .val (.int v12_109), .val (.long v13_110), .second, .val (.long v13_110), .second]) rfl k) ?_
    show own_Go _ _ _ _ (T107.setTop (mkF m 571 #[.val (.long q1), .second, .val (.int p2), .val (.int p3), .val (.ref b1), .val (.long v5_21), .second, .val (.int v7_22), .val (.int (0 : Int32)), .val (.int v9_24), .val (.ref b25), .val (.int v7_22), .val (.int v12_109), .val (.long v13_110), .second, .val (.long v13_110), .second] []))
    refine own_by (fun _ k => XS.aload X107.here hx rfl (hb hby at_571) rfl rfl k) ?_
    show own_Go _ _ _ _ (T107.setTop (mkF m 573 #[.val (.long q1), .second, .val (.int p2), .val (.int p3), .val (.ref b1), .val (.long v5_21), .second, .val (.int v7_22), .val (.int (0 : Int32)), .val (.int v9_24), .val (.ref b25), .val (.int v7_22), .val (.int v12_109), .val (.long v13_110), .second, .val (.long v13_110), .second] [(.ref b25)]))
    refine own_by (fun _ k => XS.iload X107.here hx rfl (hb hby at_573) rfl k) ?_
    show own_Go _ _ _ _ (T107.setTop (mkF m 575 #[.val (.long q1), .second, .val (.int p2), .val (.int p3), .val (.ref b1), .val (.long v5_21), .second, .val (.int v7_22), .val (.int (0 : Int32)), .val (.int v9_24), .val (.ref b25), .val (.int v7_22), .val (.int v12_109), .val (.long v13_110), .second, .val (.long v13_110), .second] [(.int v7_22), (.ref b25)]))
    refine own_by (fun _ k => XS.iload X107.here hx rfl (hb hby at_575) rfl k) ?_
    show own_Go _ _ _ _ (T107.setTop (mkF m 577 #[.val (.long q1), .second, .val (.int p2), .val (.int p3), .val (.ref b1), .val (.long v5_21), .second, .val (.int v7_22), .val (.int (0 : Int32)), .val (.int v9_24), .val (.ref b25), .val (.int v7_22), .val (.int v12_109), .val (.long v13_110), .second, .val (.long v13_110), .second] [(.int v12_109), (.int v7_22), (.ref b25)]))
    obtain ⟨ff, hff⟩ : ∃ g, g = fn107 := ⟨_, rfl⟩
    rw [← hff] at A107
    have hff' : ∀ i, i < 18 → (ff (F + i)).toInt = ((48 + (M / 10 ^ (17 - i)) % 10 : Nat) : Int) := by
      intro i hi
      have e : ff (F + i) = own_dg v5_21 (own_pw (17 - i)) := by
        have hi' : i = 0 ∨ i = 1 ∨ i = 2 ∨ i = 3 ∨ i = 4 ∨ i = 5 ∨ i = 6 ∨ i = 7 ∨ i = 8 ∨ i = 9 ∨ i = 10 ∨ i = 11 ∨ i = 12 ∨ i = 13 ∨ i = 14 ∨ i = 15 ∨ i = 16 ∨ i = 17 := by omega
        rcases hi' with rfl | rfl | rfl | rfl | rfl | rfl | rfl | rfl | rfl | rfl | rfl | rfl | rfl | rfl | rfl | rfl | rfl | rfl <;> simp [hff, own_upd, own_nardg, hfn107, hfn103, hfn99, hfn95, hfn91, hfn87, hfn83, hfn79, hfn75, hfn71, hfn67, hfn63, hfn59, hfn55, hfn51, hfn47, hfn43, hfn39, ← hg37, ← hg41, ← hg45, ← hg49, ← hg53, ← hg57, ← hg61, ← hg65, ← hg69, ← hg73, ← hg77, ← hg81, ← hg85, ← hg89, ← hg93, ← hg97, ← hg101, ← hg105]
      rw [e]; exact own_dgv _ _ M _ hm (own_pwv (17 - i) (by omega)) (Nat.pow_pos (by decide))
    refine own_callS X107 hx hZ hown (hw _ (List.mem_of_getElem? (i := 26) rfl)) (hw _ (List.mem_of_getElem? (i := 27) rfl)) (hw _ (List.mem_of_getElem? (i := 28) rfl)) (hw _ (List.mem_of_getElem? (i := 29) rfl)) (by decide) (rm2 l Z a0 hw [] b25 v7_22 v12_109 ff F (F + n) h107 n0 Z107 A107 hF hto (by omega) (by omega)) e107 (by rw [hml]; rfl) [(.ref b25), (.int v7_22), (.int v12_109)] [] rfl (lenOf own_pd1 rfl) rfl 0 (Nat.le_of_eq rfl) (by decide) (by decide) (Nat.le_of_ble_eq_true rfl) (Nat.le_of_ble_eq_true rfl) (hb hby at_577) ?_
    intro T111 Lc111 v111 X111 hQ111
    obtain ⟨rfl, N111q, e111⟩ := hQ111
    have N111 := Fr.app N107 N111q
    show own_Go _ _ _ _ (T111.setTop (mkF m 580 #[.val (.long q1), .second, .val (.int p2), .val (.int p3), .val (.ref b1), .val (.long v5_21), .second, .val (.int v7_22), .val (.int (0 : Int32)), .val (.int v9_24), .val (.ref b25), .val (.int v7_22), .val (.int v12_109), .val (.long v13_110), .second, .val (.long v13_110), .second] [(.long (own_wn ff F (F + n)))]))
    refine own_by (fun _ k => XS.lload X111.here hx rfl (hb hby at_580) rfl k) ?_
    show own_Go _ _ _ _ (T111.setTop (mkF m 582 #[.val (.long q1), .second, .val (.int p2), .val (.int p3), .val (.ref b1), .val (.long v5_21), .second, .val (.int v7_22), .val (.int (0 : Int32)), .val (.int v9_24), .val (.ref b25), .val (.int v7_22), .val (.int v12_109), .val (.long v13_110), .second, .val (.long v13_110), .second] [(.long v13_110), (.long (own_wn ff F (F + n)))]))
    refine own_by (fun _ k => XS.lcmp X111.here hx rfl (hb hby at_582) rfl k) ?_
    show own_Go _ _ _ _ (T111.setTop (mkF m 583 #[.val (.long q1), .second, .val (.int p2), .val (.int p3), .val (.ref b1), .val (.long v5_21), .second, .val (.int v7_22), .val (.int (0 : Int32)), .val (.int v9_24), .val (.ref b25), .val (.int v7_22), .val (.int v12_109), .val (.long v13_110), .second, .val (.long v13_110), .second] [(.int (lcmpW (own_wn ff F (F + n)) v13_110))]))
    refine own_by (fun _ k => XS.ifNo X111.here hx rfl (hb hby at_583) rfl ((if0 _ _).trans (teq ((lw_eq _ _).mpr (own_pos ff F n M _ _ _ hM hm hn18 (own_pwv (18 - n) (by omega)) hv13_110 hff'))).2) k) ?_
    show own_Go _ _ _ _ (T111.setTop (mkF m 586 #[.val (.long q1), .second, .val (.int p2), .val (.int p3), .val (.ref b1), .val (.long v5_21), .second, .val (.int v7_22), .val (.int (0 : Int32)), .val (.int v9_24), .val (.ref b25), .val (.int v7_22), .val (.int v12_109), .val (.long v13_110), .second, .val (.long v13_110), .second] []))
    refine own_by (fun _ k => XS.iconst X111.here hx rfl (hb hby at_586) k) ?_
    show own_Go _ _ _ _ (T111.setTop (mkF m 587 #[.val (.long q1), .second, .val (.int p2), .val (.int p3), .val (.ref b1), .val (.long v5_21), .second, .val (.int v7_22), .val (.int (0 : Int32)), .val (.int v9_24), .val (.ref b25), .val (.int v7_22), .val (.int v12_109), .val (.long v13_110), .second, .val (.long v13_110), .second] [(.int (1 : Int32))]))
    refine own_by (fun _ k => XS.goto X111.here hx rfl (pc0 := 587) (pc' := 591) rfl (hb hby at_587) (by decide) (by decide) k) ?_
    show own_Go _ _ _ _ (T111.setTop (mkF m 591 #[.val (.long q1), .second, .val (.int p2), .val (.int p3), .val (.ref b1), .val (.long v5_21), .second, .val (.int v7_22), .val (.int (0 : Int32)), .val (.int v9_24), .val (.ref b25), .val (.int v7_22), .val (.int v12_109), .val (.long v13_110), .second, .val (.long v13_110), .second] [(.int (1 : Int32))]))
    exact own_retN X111 hx Bd.notSynchronized e111 Bd.returns (by simp) (hb hby at_591) (⟨rfl, N111⟩) (by decide) (by decide)
  · --
    refine own_by (fun _ k => XS.ifNo X20.here hx rfl (hb hby at_145) rfl ((if0 _ _).trans (feq hc23).1) k) ?_
    show own_Go _ _ _ _ (T20.setTop (mkF m 148 #[.val (.long q1), .second, .val (.int p2), .val (.int p3), .val (.ref b1), .val (.long v5_21), .second, .val (.int v7_22), .unset, .unset, .unset, .unset, .unset, .unset, .unset, .unset, .unset] []))
    refine own_by (fun _ k => XS.iconst X20.here hx rfl (hb hby at_148) k) ?_
    show own_Go _ _ _ _ (T20.setTop (mkF m 149 #[.val (.long q1), .second, .val (.int p2), .val (.int p3), .val (.ref b1), .val (.long v5_21), .second, .val (.int v7_22), .unset, .unset, .unset, .unset, .unset, .unset, .unset, .unset, .unset] [(.int (1 : Int32))]))
    refine own_by (fun _ k => XS.goto X20.here hx rfl (pc0 := 149) (pc' := 153) rfl (hb hby at_149) (by decide) (by decide) k) ?_
    show own_Go _ _ _ _ (T20.setTop (mkF m 153 #[.val (.long q1), .second, .val (.int p2), .val (.int p3), .val (.ref b1), .val (.long v5_21), .second, .val (.int v7_22), .unset, .unset, .unset, .unset, .unset, .unset, .unset, .unset, .unset] [(.int (1 : Int32))]))
    refine own_by (fun _ k => XS.istore X20.here hx rfl (hb hby at_153) rfl (l' := #[.val (.long q1), .second, .val (.int p2), .val (.int p3), .val (.ref b1), .val (.long v5_21), .second, .val (.int v7_22), .val (.int (1 : Int32)), .unset, .unset, .unset, .unset, .unset, .unset, .unset, .unset]) rfl k) ?_
    show own_Go _ _ _ _ (T20.setTop (mkF m 155 #[.val (.long q1), .second, .val (.int p2), .val (.int p3), .val (.ref b1), .val (.long v5_21), .second, .val (.int v7_22), .val (.int (1 : Int32)), .unset, .unset, .unset, .unset, .unset, .unset, .unset, .unset] []))
    refine own_by (fun _ k => XS.iconst X20.here hx rfl (hb hby at_155) k) ?_
    show own_Go _ _ _ _ (T20.setTop (mkF m 156 #[.val (.long q1), .second, .val (.int p2), .val (.int p3), .val (.ref b1), .val (.long v5_21), .second, .val (.int v7_22), .val (.int (1 : Int32)), .unset, .unset, .unset, .unset, .unset, .unset, .unset, .unset] [(.int (1 : Int32))]))
    refine own_by (fun _ k => XS.iloadN X20.here hx rfl (hb hby at_156) rfl k) ?_
    show own_Go _ _ _ _ (T20.setTop (mkF m 157 #[.val (.long q1), .second, .val (.int p2), .val (.int p3), .val (.ref b1), .val (.long v5_21), .second, .val (.int v7_22), .val (.int (1 : Int32)), .unset, .unset, .unset, .unset, .unset, .unset, .unset, .unset] [(.int p2), (.int (1 : Int32))]))
    refine own_by (fun _ k => XS.iconst X20.here hx rfl (hb hby at_157) k) ?_
    show own_Go _ _ _ _ (T20.setTop (mkF m 158 #[.val (.long q1), .second, .val (.int p2), .val (.int p3), .val (.ref b1), .val (.long v5_21), .second, .val (.int v7_22), .val (.int (1 : Int32)), .unset, .unset, .unset, .unset, .unset, .unset, .unset, .unset] [(.int (3 : Int32)), (.int p2), (.int (1 : Int32))]))
    refine own_by (fun _ k => XS.iushr X20.here hx rfl (hb hby at_158) rfl k) ?_
    show own_Go _ _ _ _ (T20.setTop (mkF m 159 #[.val (.long q1), .second, .val (.int p2), .val (.int p3), .val (.ref b1), .val (.long v5_21), .second, .val (.int v7_22), .val (.int (1 : Int32)), .unset, .unset, .unset, .unset, .unset, .unset, .unset, .unset] [(.int ((p2.toUInt32 >>> ((3 : Int32) &&& 31).toUInt32).toInt32)), (.int (1 : Int32))]))
    refine own_by (fun _ k => XS.bipush X20.here hx rfl (hb hby at_159) k) ?_
    show own_Go _ _ _ _ (T20.setTop (mkF m 161 #[.val (.long q1), .second, .val (.int p2), .val (.int p3), .val (.ref b1), .val (.long v5_21), .second, .val (.int v7_22), .val (.int (1 : Int32)), .unset, .unset, .unset, .unset, .unset, .unset, .unset, .unset] [(.int (18 : Int32)), (.int ((p2.toUInt32 >>> ((3 : Int32) &&& 31).toUInt32).toInt32)), (.int (1 : Int32))]))
    refine own_by (fun _ k => iremM X20 hx rfl (hb hby at_161) rfl (by decide) k) ?_
    show own_Go _ _ _ _ (T20.setTop (mkF m 162 #[.val (.long q1), .second, .val (.int p2), .val (.int p3), .val (.ref b1), .val (.long v5_21), .second, .val (.int v7_22), .val (.int (1 : Int32)), .unset, .unset, .unset, .unset, .unset, .unset, .unset, .unset] [(.int (((p2.toUInt32 >>> ((3 : Int32) &&& 31).toUInt32).toInt32) % (18 : Int32))), (.int (1 : Int32))]))
    refine own_by (fun _ k => XS.iadd X20.here hx rfl (hb hby at_162) rfl k) ?_
    show own_Go _ _ _ _ (T20.setTop (mkF m 163 #[.val (.long q1), .second, .val (.int p2), .val (.int p3), .val (.ref b1), .val (.long v5_21), .second, .val (.int v7_22), .val (.int (1 : Int32)), .unset, .unset, .unset, .unset, .unset, .unset, .unset, .unset] [(.int ((1 : Int32) + (((p2.toUInt32 >>> ((3 : Int32) &&& 31).toUInt32).toInt32) % (18 : Int32))))]))
    obtain ⟨v9_112, hv9_112⟩ : ∃ z_ : Int32, ((1 : Int32) + (((p2.toUInt32 >>> ((3 : Int32) &&& 31).toUInt32).toInt32) % (18 : Int32))) = z_ := ⟨_, rfl⟩
    refine own_gen hv9_112 (fun z_ => T20.setTop (mkF m 163 #[.val (.long q1), .second, .val (.int p2), .val (.int p3), .val (.ref b1), .val (.long v5_21), .second, .val (.int v7_22), .val (.int (1 : Int32)), .unset, .unset, .unset, .unset, .unset, .unset, .unset, .unset] [(.int z_)])) ?_
    refine own_by (fun _ k => XS.istore X20.here hx rfl (hb hby at_163) rfl (l' := #[.val (.long q1), .second, .val (.int p2), .val (.int p3), .val (.ref b1), .val (.long v5_21), .second, .val (.int v7_22), .val (.int (1 : Int32)), .val (.int v9_112), .unset, .unset, .unset, .unset, .unset, .unset, .unset]) rfl k) ?_
    obtain ⟨n, hn1, hn18, hn⟩ := own_n _ _ hv9_112
    show own_Go _ _ _ _ (T20.setTop (mkF m 165 #[.val (.long q1), .second, .val (.int p2), .val (.int p3), .val (.ref b1), .val (.long v5_21), .second, .val (.int v7_22), .val (.int (1 : Int32)), .val (.int v9_112), .unset, .unset, .unset, .unset, .unset, .unset, .unset] []))
    refine own_by (fun _ k => XS.bipush X20.here hx rfl (hb hby at_165) k) ?_
    show own_Go _ _ _ _ (T20.setTop (mkF m 167 #[.val (.long q1), .second, .val (.int p2), .val (.int p3), .val (.ref b1), .val (.long v5_21), .second, .val (.int v7_22), .val (.int (1 : Int32)), .val (.int v9_112), .unset, .unset, .unset, .unset, .unset, .unset, .unset] [(.int (22 : Int32))]))
    refine own_newP X20 hx hZ (hw _ (List.mem_of_getElem? (i := 20) rfl)) e20 22 (by decide) 22 (by decide) (by decide) (by decide) (by decide) (hb hby at_167) ?_
    intro T113 h113 X113 e113 E113 A113
    show own_Go _ _ _ _ (T113.setTop (mkF m 169 #[.val (.long q1), .second, .val (.int p2), .val (.int p3), .val (.ref b1), .val (.long v5_21), .second, .val (.int v7_22), .val (.int (1 : Int32)), .val (.int v9_112), .unset, .unset, .unset, .unset, .unset, .unset, .unset] [.ref h20.size]))
    obtain ⟨b113, g113⟩ : ∃ z, z = h20.size := ⟨_, rfl⟩
    rw [← g113] at A113
    refine own_gen g113.symm (fun z_ => T113.setTop (mkF m 169 #[.val (.long q1), .second, .val (.int p2), .val (.int p3), .val (.ref b1), .val (.long v5_21), .second, .val (.int v7_22), .val (.int (1 : Int32)), .val (.int v9_112), .unset, .unset, .unset, .unset, .unset, .unset, .unset] [.ref z_])) ?_
    have ne114 : b1 ≠ b113 := Nat.ne_of_lt (Nat.lt_of_lt_of_le Apw.lt (Nat.le_of_eq g113.symm))
    have ge113 : n0 ≤ b113 := Nat.le_trans Z20 (Nat.le_of_eq g113.symm)
    have f115 := Apw.ext E113
    have Z113 := Nat.le_trans Z20 E113.1
    have f116 : own_AI Z h113 b113 .byte 22 (fun _ => 0) := A113
    show own_Go _ _ _ _ (T113.setTop (mkF m 169 #[.val (.long q1), .second, .val (.int p2), .val (.int p3), .val (.ref b1), .val (.long v5_21), .second, .val (.int v7_22), .val (.int (1 : Int32)), .val (.int v9_112), .unset, .unset, .unset, .unset, .unset, .unset, .unset] [(.ref b113)]))
    refine own_by (fun _ k => XS.astore X113.here hx rfl (hb hby at_169) rfl rfl (l' := #[.val (.long q1), .second, .val (.int p2), .val (.int p3), .val (.ref b1), .val (.long v5_21), .second, .val (.int v7_22), .val (.int (1 : Int32)), .val (.int v9_112), .val (.ref b113), .unset, .unset, .unset, .unset, .unset, .unset]) rfl k) ?_
    show own_Go _ _ _ _ (T113.setTop (mkF m 171 #[.val (.long q1), .second, .val (.int p2), .val (.int p3), .val (.ref b1), .val (.long v5_21), .second, .val (.int v7_22), .val (.int (1 : Int32)), .val (.int v9_112), .val (.ref b113), .unset, .unset, .unset, .unset, .unset, .unset] []))
    refine own_by (fun _ k => XS.aload X113.here hx rfl (hb hby at_171) rfl rfl k) ?_
    show own_Go _ _ _ _ (T113.setTop (mkF m 173 #[.val (.long q1), .second, .val (.int p2), .val (.int p3), .val (.ref b1), .val (.long v5_21), .second, .val (.int v7_22), .val (.int (1 : Int32)), .val (.int v9_112), .val (.ref b113), .unset, .unset, .unset, .unset, .unset, .unset] [(.ref b113)]))
    refine own_by (fun _ k => XS.iconst X113.here hx rfl (hb hby at_173) k) ?_
    show own_Go _ _ _ _ (T113.setTop (mkF m 174 #[.val (.long q1), .second, .val (.int p2), .val (.int p3), .val (.ref b1), .val (.long v5_21), .second, .val (.int v7_22), .val (.int (1 : Int32)), .val (.int v9_112), .val (.ref b113), .unset, .unset, .unset, .unset, .unset, .unset] [(.int (0 : Int32)), (.ref b113)]))
    refine own_by (fun _ k => XS.iloadN X113.here hx rfl (hb hby at_174) rfl k) ?_
    show own_Go _ _ _ _ (T113.setTop (mkF m 175 #[.val (.long q1), .second, .val (.int p2), .val (.int p3), .val (.ref b1), .val (.long v5_21), .second, .val (.int v7_22), .val (.int (1 : Int32)), .val (.int v9_112), .val (.ref b113), .unset, .unset, .unset, .unset, .unset, .unset] [(.int p3), (.int (0 : Int32)), (.ref b113)]))
    refine own_by (fun _ k => XS.i2b X113.here hx rfl (hb hby at_175) rfl k) ?_
    show own_Go _ _ _ _ (T113.setTop (mkF m 176 #[.val (.long q1), .second, .val (.int p2), .val (.int p3), .val (.ref b1), .val (.long v5_21), .second, .val (.int v7_22), .val (.int (1 : Int32)), .val (.int v9_112), .val (.ref b113), .unset, .unset, .unset, .unset, .unset, .unset] [(.int (p3.toInt8.toInt32)), (.int (0 : Int32)), (.ref b113)]))
    refine own_bas X113 hx hZ e113 f116 0 (by decide) (by decide) (hb hby at_176) ?_
    intro T117 h117 X117 e117 W117 A117
    have f118 := f115.other W117 ne114
    have N117 := Fr.snoc X117 N20 ge113
    have Z117 := own_size_wr W117 Z113
    obtain ⟨fn117, hfn117⟩ : ∃ g : Nat → Int32, g = own_upd (fun _ => 0) 0 (nar .byte (p3.toInt8.toInt32)) := ⟨_, rfl⟩
    rw [← hfn117] at A117
    show own_Go _ _ _ _ (T117.setTop (mkF m 177 #[.val (.long q1), .second, .val (.int p2), .val (.int p3), .val (.ref b1), .val (.long v5_21), .second, .val (.int v7_22), .val (.int (1 : Int32)), .val (.int v9_112), .val (.ref b113), .unset, .unset, .unset, .unset, .unset, .unset] []))
    refine own_by (fun _ k => XS.aload X117.here hx rfl (hb hby at_177) rfl rfl k) ?_
    show own_Go _ _ _ _ (T117.setTop (mkF m 179 #[.val (.long q1), .second, .val (.int p2), .val (.int p3), .val (.ref b1), .val (.long v5_21), .second, .val (.int v7_22), .val (.int (1 : Int32)), .val (.int v9_112), .val (.ref b113), .unset, .unset, .unset, .unset, .unset, .unset] [(.ref b113)]))
    refine own_by (fun _ k => XS.iconst X117.here hx rfl (hb hby at_179) k) ?_
    show own_Go _ _ _ _ (T117.setTop (mkF m 180 #[.val (.long q1), .second, .val (.int p2), .val (.int p3), .val (.ref b1), .val (.long v5_21), .second, .val (.int v7_22), .val (.int (1 : Int32)), .val (.int v9_112), .val (.ref b113), .unset, .unset, .unset, .unset, .unset, .unset] [(.int (1 : Int32)), (.ref b113)]))
    refine own_by (fun _ k => XS.iloadN X117.here hx rfl (hb hby at_180) rfl k) ?_
    show own_Go _ _ _ _ (T117.setTop (mkF m 181 #[.val (.long q1), .second, .val (.int p2), .val (.int p3), .val (.ref b1), .val (.long v5_21), .second, .val (.int v7_22), .val (.int (1 : Int32)), .val (.int v9_112), .val (.ref b113), .unset, .unset, .unset, .unset, .unset, .unset] [(.int p3), (.int (1 : Int32)), (.ref b113)]))
    refine own_by (fun _ k => XS.bipush X117.here hx rfl (hb hby at_181) k) ?_
    show own_Go _ _ _ _ (T117.setTop (mkF m 183 #[.val (.long q1), .second, .val (.int p2), .val (.int p3), .val (.ref b1), .val (.long v5_21), .second, .val (.int v7_22), .val (.int (1 : Int32)), .val (.int v9_112), .val (.ref b113), .unset, .unset, .unset, .unset, .unset, .unset] [(.int (8 : Int32)), (.int p3), (.int (1 : Int32)), (.ref b113)]))
    refine own_by (fun _ k => XS.iushr X117.here hx rfl (hb hby at_183) rfl k) ?_
    show own_Go _ _ _ _ (T117.setTop (mkF m 184 #[.val (.long q1), .second, .val (.int p2), .val (.int p3), .val (.ref b1), .val (.long v5_21), .second, .val (.int v7_22), .val (.int (1 : Int32)), .val (.int v9_112), .val (.ref b113), .unset, .unset, .unset, .unset, .unset, .unset] [(.int ((p3.toUInt32 >>> ((8 : Int32) &&& 31).toUInt32).toInt32)), (.int (1 : Int32)), (.ref b113)]))
    refine own_by (fun _ k => XS.i2b X117.here hx rfl (hb hby at_184) rfl k) ?_
    show own_Go _ _ _ _ (T117.setTop (mkF m 185 #[.val (.long q1), .second, .val (.int p2), .val (.int p3), .val (.ref b1), .val (.long v5_21), .second, .val (.int v7_22), .val (.int (1 : Int32)), .val (.int v9_112), .val (.ref b113), .unset, .unset, .unset, .unset, .unset, .unset] [(.int (((p3.toUInt32 >>> ((8 : Int32) &&& 31).toUInt32).toInt32).toInt8.toInt32)), (.int (1 : Int32)), (.ref b113)]))
    refine own_bas X117 hx hZ e117 A117 1 (by decide) (by decide) (hb hby at_185) ?_
    intro T119 h119 X119 e119 W119 A119
    have f120 := f118.other W119 ne114
    have N119 := Fr.snoc X119 N117 ge113
    have Z119 := own_size_wr W119 Z117
    obtain ⟨fn119, hfn119⟩ : ∃ g : Nat → Int32, g = own_upd fn117 1 (nar .byte (((p3.toUInt32 >>> ((8 : Int32) &&& 31).toUInt32).toInt32).toInt8.toInt32)) := ⟨_, rfl⟩
    rw [← hfn119] at A119
    show own_Go _ _ _ _ (T119.setTop (mkF m 186 #[.val (.long q1), .second, .val (.int p2), .val (.int p3), .val (.ref b1), .val (.long v5_21), .second, .val (.int v7_22), .val (.int (1 : Int32)), .val (.int v9_112), .val (.ref b113), .unset, .unset, .unset, .unset, .unset, .unset] []))
    refine own_by (fun _ k => XS.aload X119.here hx rfl (hb hby at_186) rfl rfl k) ?_
    show own_Go _ _ _ _ (T119.setTop (mkF m 188 #[.val (.long q1), .second, .val (.int p2), .val (.int p3), .val (.ref b1), .val (.long v5_21), .second, .val (.int v7_22), .val (.int (1 : Int32)), .val (.int v9_112), .val (.ref b113), .unset, .unset, .unset, .unset, .unset, .unset] [(.ref b113)]))
    refine own_by (fun _ k => XS.iconst X119.here hx rfl (hb hby at_188) k) ?_
    show own_Go _ _ _ _ (T119.setTop (mkF m 189 #[.val (.long q1), .second, .val (.int p2), .val (.int p3), .val (.ref b1), .val (.long v5_21), .second, .val (.int v7_22), .val (.int (1 : Int32)), .val (.int v9_112), .val (.ref b113), .unset, .unset, .unset, .unset, .unset, .unset] [(.int (2 : Int32)), (.ref b113)]))
    refine own_by (fun _ k => XS.iloadN X119.here hx rfl (hb hby at_189) rfl k) ?_
    show own_Go _ _ _ _ (T119.setTop (mkF m 190 #[.val (.long q1), .second, .val (.int p2), .val (.int p3), .val (.ref b1), .val (.long v5_21), .second, .val (.int v7_22), .val (.int (1 : Int32)), .val (.int v9_112), .val (.ref b113), .unset, .unset, .unset, .unset, .unset, .unset] [(.int p3), (.int (2 : Int32)), (.ref b113)]))
    refine own_by (fun _ k => XS.bipush X119.here hx rfl (hb hby at_190) k) ?_
    show own_Go _ _ _ _ (T119.setTop (mkF m 192 #[.val (.long q1), .second, .val (.int p2), .val (.int p3), .val (.ref b1), .val (.long v5_21), .second, .val (.int v7_22), .val (.int (1 : Int32)), .val (.int v9_112), .val (.ref b113), .unset, .unset, .unset, .unset, .unset, .unset] [(.int (16 : Int32)), (.int p3), (.int (2 : Int32)), (.ref b113)]))
    refine own_by (fun _ k => XS.iushr X119.here hx rfl (hb hby at_192) rfl k) ?_
    show own_Go _ _ _ _ (T119.setTop (mkF m 193 #[.val (.long q1), .second, .val (.int p2), .val (.int p3), .val (.ref b1), .val (.long v5_21), .second, .val (.int v7_22), .val (.int (1 : Int32)), .val (.int v9_112), .val (.ref b113), .unset, .unset, .unset, .unset, .unset, .unset] [(.int ((p3.toUInt32 >>> ((16 : Int32) &&& 31).toUInt32).toInt32)), (.int (2 : Int32)), (.ref b113)]))
    refine own_by (fun _ k => XS.i2b X119.here hx rfl (hb hby at_193) rfl k) ?_
    show own_Go _ _ _ _ (T119.setTop (mkF m 194 #[.val (.long q1), .second, .val (.int p2), .val (.int p3), .val (.ref b1), .val (.long v5_21), .second, .val (.int v7_22), .val (.int (1 : Int32)), .val (.int v9_112), .val (.ref b113), .unset, .unset, .unset, .unset, .unset, .unset] [(.int (((p3.toUInt32 >>> ((16 : Int32) &&& 31).toUInt32).toInt32).toInt8.toInt32)), (.int (2 : Int32)), (.ref b113)]))
    refine own_bas X119 hx hZ e119 A119 2 (by decide) (by decide) (hb hby at_194) ?_
    intro T121 h121 X121 e121 W121 A121
    have f122 := f120.other W121 ne114
    have N121 := Fr.snoc X121 N119 ge113
    have Z121 := own_size_wr W121 Z119
    obtain ⟨fn121, hfn121⟩ : ∃ g : Nat → Int32, g = own_upd fn119 2 (nar .byte (((p3.toUInt32 >>> ((16 : Int32) &&& 31).toUInt32).toInt32).toInt8.toInt32)) := ⟨_, rfl⟩
    rw [← hfn121] at A121
    show own_Go _ _ _ _ (T121.setTop (mkF m 195 #[.val (.long q1), .second, .val (.int p2), .val (.int p3), .val (.ref b1), .val (.long v5_21), .second, .val (.int v7_22), .val (.int (1 : Int32)), .val (.int v9_112), .val (.ref b113), .unset, .unset, .unset, .unset, .unset, .unset] []))
    refine own_by (fun _ k => XS.aload X121.here hx rfl (hb hby at_195) rfl rfl k) ?_
    show own_Go _ _ _ _ (T121.setTop (mkF m 197 #[.val (.long q1), .second, .val (.int p2), .val (.int p3), .val (.ref b1), .val (.long v5_21), .second, .val (.int v7_22), .val (.int (1 : Int32)), .val (.int v9_112), .val (.ref b113), .unset, .unset, .unset, .unset, .unset, .unset] [(.ref b113)]))
    refine own_by (fun _ k => XS.iconst X121.here hx rfl (hb hby at_197) k) ?_
    show own_Go _ _ _ _ (T121.setTop (mkF m 198 #[.val (.long q1), .second, .val (.int p2), .val (.int p3), .val (.ref b1), .val (.long v5_21), .second, .val (.int v7_22), .val (.int (1 : Int32)), .val (.int v9_112), .val (.ref b113), .unset, .unset, .unset, .unset, .unset, .unset] [(.int (3 : Int32)), (.ref b113)]))
    refine own_by (fun _ k => XS.iloadN X121.here hx rfl (hb hby at_198) rfl k) ?_
    show own_Go _ _ _ _ (T121.setTop (mkF m 199 #[.val (.long q1), .second, .val (.int p2), .val (.int p3), .val (.ref b1), .val (.long v5_21), .second, .val (.int v7_22), .val (.int (1 : Int32)), .val (.int v9_112), .val (.ref b113), .unset, .unset, .unset, .unset, .unset, .unset] [(.int p3), (.int (3 : Int32)), (.ref b113)]))
    refine own_by (fun _ k => XS.bipush X121.here hx rfl (hb hby at_199) k) ?_
    show own_Go _ _ _ _ (T121.setTop (mkF m 201 #[.val (.long q1), .second, .val (.int p2), .val (.int p3), .val (.ref b1), .val (.long v5_21), .second, .val (.int v7_22), .val (.int (1 : Int32)), .val (.int v9_112), .val (.ref b113), .unset, .unset, .unset, .unset, .unset, .unset] [(.int (24 : Int32)), (.int p3), (.int (3 : Int32)), (.ref b113)]))
    refine own_by (fun _ k => XS.iushr X121.here hx rfl (hb hby at_201) rfl k) ?_
    show own_Go _ _ _ _ (T121.setTop (mkF m 202 #[.val (.long q1), .second, .val (.int p2), .val (.int p3), .val (.ref b1), .val (.long v5_21), .second, .val (.int v7_22), .val (.int (1 : Int32)), .val (.int v9_112), .val (.ref b113), .unset, .unset, .unset, .unset, .unset, .unset] [(.int ((p3.toUInt32 >>> ((24 : Int32) &&& 31).toUInt32).toInt32)), (.int (3 : Int32)), (.ref b113)]))
    refine own_by (fun _ k => XS.i2b X121.here hx rfl (hb hby at_202) rfl k) ?_
    show own_Go _ _ _ _ (T121.setTop (mkF m 203 #[.val (.long q1), .second, .val (.int p2), .val (.int p3), .val (.ref b1), .val (.long v5_21), .second, .val (.int v7_22), .val (.int (1 : Int32)), .val (.int v9_112), .val (.ref b113), .unset, .unset, .unset, .unset, .unset, .unset] [(.int (((p3.toUInt32 >>> ((24 : Int32) &&& 31).toUInt32).toInt32).toInt8.toInt32)), (.int (3 : Int32)), (.ref b113)]))
    refine own_bas X121 hx hZ e121 A121 3 (by decide) (by decide) (hb hby at_203) ?_
    intro T123 h123 X123 e123 W123 A123
    have f124 := f122.other W123 ne114
    have N123 := Fr.snoc X123 N121 ge113
    have Z123 := own_size_wr W123 Z121
    obtain ⟨fn123, hfn123⟩ : ∃ g : Nat → Int32, g = own_upd fn121 3 (nar .byte (((p3.toUInt32 >>> ((24 : Int32) &&& 31).toUInt32).toInt32).toInt8.toInt32)) := ⟨_, rfl⟩
    rw [← hfn123] at A123
    obtain ⟨ff0, hff0⟩ : ∃ g, g = fn123 := ⟨_, rfl⟩
    rw [← hff0] at A123
    show own_Go _ _ _ _ (T123.setTop (mkF m 204 #[.val (.long q1), .second, .val (.int p2), .val (.int p3), .val (.ref b1), .val (.long v5_21), .second, .val (.int v7_22), .val (.int (1 : Int32)), .val (.int v9_112), .val (.ref b113), .unset, .unset, .unset, .unset, .unset, .unset] []))
    refine own_by (fun _ k => XS.iload X123.here hx rfl (hb hby at_204) rfl k) ?_
    show own_Go _ _ _ _ (T123.setTop (mkF m 206 #[.val (.long q1), .second, .val (.int p2), .val (.int p3), .val (.ref b1), .val (.long v5_21), .second, .val (.int v7_22), .val (.int (1 : Int32)), .val (.int v9_112), .val (.ref b113), .unset, .unset, .unset, .unset, .unset, .unset] [(.int v7_22)]))
    refine own_by (fun _ k => XS.istore X123.here hx rfl (hb hby at_206) rfl (l' := #[.val (.long q1), .second, .val (.int p2), .val (.int p3), .val (.ref b1), .val (.long v5_21), .second, .val (.int v7_22), .val (.int (1 : Int32)), .val (.int v9_112), .val (.ref b113), .val (.int v7_22), .unset, .unset, .unset, .unset, .unset]) rfl k) ?_
    show own_Go _ _ _ _ (T123.setTop (mkF m 208 #[.val (.long q1), .second, .val (.int p2), .val (.int p3), .val (.ref b1), .val (.long v5_21), .second, .val (.int v7_22), .val (.int (1 : Int32)), .val (.int v9_112), .val (.ref b113), .val (.int v7_22), .unset, .unset, .unset, .unset, .unset] []))
    refine own_by (fun _ k => XS.iload X123.here hx rfl (hb hby at_208) rfl k) ?_
    show own_Go _ _ _ _ (T123.setTop (mkF m 210 #[.val (.long q1), .second, .val (.int p2), .val (.int p3), .val (.ref b1), .val (.long v5_21), .second, .val (.int v7_22), .val (.int (1 : Int32)), .val (.int v9_112), .val (.ref b113), .val (.int v7_22), .unset, .unset, .unset, .unset, .unset] [(.int (1 : Int32))]))
    refine own_by (fun _ k => XS.ifNo X123.here hx rfl (hb hby at_210) rfl ((if0 _ _).trans (feq (by decide)).1) k) ?_
    show own_Go _ _ _ _ (T123.setTop (mkF m 213 #[.val (.long q1), .second, .val (.int p2), .val (.int p3), .val (.ref b1), .val (.long v5_21), .second, .val (.int v7_22), .val (.int (1 : Int32)), .val (.int v9_112), .val (.ref b113), .val (.int v7_22), .unset, .unset, .unset, .unset, .unset] []))
    refine own_by (fun _ k => XS.aload X123.here hx rfl (hb hby at_213) rfl rfl k) ?_
    show own_Go _ _ _ _ (T123.setTop (mkF m 215 #[.val (.long q1), .second, .val (.int p2), .val (.int p3), .val (.ref b1), .val (.long v5_21), .second, .val (.int v7_22), .val (.int (1 : Int32)), .val (.int v9_112), .val (.ref b113), .val (.int v7_22), .unset, .unset, .unset, .unset, .unset] [(.ref b113)]))
    refine own_by (fun _ k => XS.iload X123.here hx rfl (hb hby at_215) rfl k) ?_
    show own_Go _ _ _ _ (T123.setTop (mkF m 217 #[.val (.long q1), .second, .val (.int p2), .val (.int p3), .val (.ref b1), .val (.long v5_21), .second, .val (.int v7_22), .val (.int (1 : Int32)), .val (.int v9_112), .val (.ref b113), .val (.int v7_22), .unset, .unset, .unset, .unset, .unset] [(.int v7_22), (.ref b113)]))
    refine own_by (fun _ k => XS.bipush X123.here hx rfl (hb hby at_217) k) ?_
    show own_Go _ _ _ _ (T123.setTop (mkF m 219 #[.val (.long q1), .second, .val (.int p2), .val (.int p3), .val (.ref b1), .val (.long v5_21), .second, .val (.int v7_22), .val (.int (1 : Int32)), .val (.int v9_112), .val (.ref b113), .val (.int v7_22), .unset, .unset, .unset, .unset, .unset] [(.int (45 : Int32)), (.int v7_22), (.ref b113)]))
    refine own_bas X123 hx hZ e123 A123 F hF (by omega) (hb hby at_219) ?_
    intro T125 h125 X125 e125 W125 A125
    have f126 := f124.other W125 ne114
    have N125 := Fr.snoc X125 N123 ge113
    have Z125 := own_size_wr W125 Z123
    obtain ⟨fn125, hfn125⟩ : ∃ g : Nat → Int32, g = own_upd ff0 F (nar .byte (45 : Int32)) := ⟨_, rfl⟩
    rw [← hfn125] at A125
    show own_Go _ _ _ _ (T125.setTop (mkF m 220 #[.val (.long q1), .second, .val (.int p2), .val (.int p3), .val (.ref b1), .val (.long v5_21), .second, .val (.int v7_22), .val (.int (1 : Int32)), .val (.int v9_112), .val (.ref b113), .val (.int v7_22), .unset, .unset, .unset, .unset, .unset] []))
    refine own_by (fun _ k => XS.iload X125.here hx rfl (hb hby at_220) rfl k) ?_
    show own_Go _ _ _ _ (T125.setTop (mkF m 222 #[.val (.long q1), .second, .val (.int p2), .val (.int p3), .val (.ref b1), .val (.long v5_21), .second, .val (.int v7_22), .val (.int (1 : Int32)), .val (.int v9_112), .val (.ref b113), .val (.int v7_22), .unset, .unset, .unset, .unset, .unset] [(.int v7_22)]))
    refine own_by (fun _ k => XS.iconst X125.here hx rfl (hb hby at_222) k) ?_
    show own_Go _ _ _ _ (T125.setTop (mkF m 223 #[.val (.long q1), .second, .val (.int p2), .val (.int p3), .val (.ref b1), .val (.long v5_21), .second, .val (.int v7_22), .val (.int (1 : Int32)), .val (.int v9_112), .val (.ref b113), .val (.int v7_22), .unset, .unset, .unset, .unset, .unset] [(.int (1 : Int32)), (.int v7_22)]))
    refine own_by (fun _ k => XS.iadd X125.here hx rfl (hb hby at_223) rfl k) ?_
    show own_Go _ _ _ _ (T125.setTop (mkF m 224 #[.val (.long q1), .second, .val (.int p2), .val (.int p3), .val (.ref b1), .val (.long v5_21), .second, .val (.int v7_22), .val (.int (1 : Int32)), .val (.int v9_112), .val (.ref b113), .val (.int v7_22), .unset, .unset, .unset, .unset, .unset] [(.int (v7_22 + (1 : Int32)))]))
    obtain ⟨v11_127, hv11_127⟩ : ∃ z_ : Int32, (v7_22 + (1 : Int32)) = z_ := ⟨_, rfl⟩
    refine own_gen hv11_127 (fun z_ => T125.setTop (mkF m 224 #[.val (.long q1), .second, .val (.int p2), .val (.int p3), .val (.ref b1), .val (.long v5_21), .second, .val (.int v7_22), .val (.int (1 : Int32)), .val (.int v9_112), .val (.ref b113), .val (.int v7_22), .unset, .unset, .unset, .unset, .unset] [(.int z_)])) ?_
    refine own_by (fun _ k => XS.istore X125.here hx rfl (hb hby at_224) rfl (l' := #[.val (.long q1), .second, .val (.int p2), .val (.int p3), .val (.ref b1), .val (.long v5_21), .second, .val (.int v7_22), .val (.int (1 : Int32)), .val (.int v9_112), .val (.ref b113), .val (.int v11_127), .unset, .unset, .unset, .unset, .unset]) rfl k) ?_
    have hS : (v11_127).toInt = (((F + 1) : Nat) : Int) := own_inc hF (by omega) hv11_127
    show own_Go _ _ _ _ (T125.setTop (mkF m 226 #[.val (.long q1), .second, .val (.int p2), .val (.int p3), .val (.ref b1), .val (.long v5_21), .second, .val (.int v7_22), .val (.int (1 : Int32)), .val (.int v9_112), .val (.ref b113), .val (.int v11_127), .unset, .unset, .unset, .unset, .unset] []))
    refine own_by (fun _ k => XS.aload X125.here hx rfl (hb hby at_226) rfl rfl k) ?_
    show own_Go _ _ _ _ (T125.setTop (mkF m 228 #[.val (.long q1), .second, .val (.int p2), .val (.int p3), .val (.ref b1), .val (.long v5_21), .second, .val (.int v7_22), .val (.int (1 : Int32)), .val (.int v9_112), .val (.ref b113), .val (.int v11_127), .unset, .unset, .unset, .unset, .unset] [(.ref b113)]))
    refine own_by (fun _ k => XS.iload X125.here hx rfl (hb hby at_228) rfl k) ?_
    show own_Go _ _ _ _ (T125.setTop (mkF m 230 #[.val (.long q1), .second, .val (.int p2), .val (.int p3), .val (.ref b1), .val (.long v5_21), .second, .val (.int v7_22), .val (.int (1 : Int32)), .val (.int v9_112), .val (.ref b113), .val (.int v11_127), .unset, .unset, .unset, .unset, .unset] [(.int v11_127), (.ref b113)]))
    refine own_by (fun _ k => XS.lload X125.here hx rfl (hb hby at_230) rfl k) ?_
    show own_Go _ _ _ _ (T125.setTop (mkF m 232 #[.val (.long q1), .second, .val (.int p2), .val (.int p3), .val (.ref b1), .val (.long v5_21), .second, .val (.int v7_22), .val (.int (1 : Int32)), .val (.int v9_112), .val (.ref b113), .val (.int v11_127), .unset, .unset, .unset, .unset, .unset] [(.long v5_21), (.int v11_127), (.ref b113)]))
    refine own_by (fun _ k => XS.aload X125.here hx rfl (hb hby at_232) rfl rfl k) ?_
    show own_Go _ _ _ _ (T125.setTop (mkF m 234 #[.val (.long q1), .second, .val (.int p2), .val (.int p3), .val (.ref b1), .val (.long v5_21), .second, .val (.int v7_22), .val (.int (1 : Int32)), .val (.int v9_112), .val (.ref b113), .val (.int v11_127), .unset, .unset, .unset, .unset, .unset] [(.ref b1), (.long v5_21), (.int v11_127), (.ref b113)]))
    refine own_by (fun _ k => XS.bipush X125.here hx rfl (hb hby at_234) k) ?_
    show own_Go _ _ _ _ (T125.setTop (mkF m 236 #[.val (.long q1), .second, .val (.int p2), .val (.int p3), .val (.ref b1), .val (.long v5_21), .second, .val (.int v7_22), .val (.int (1 : Int32)), .val (.int v9_112), .val (.ref b113), .val (.int v11_127), .unset, .unset, .unset, .unset, .unset] [(.int (17 : Int32)), (.ref b1), (.long v5_21), (.int v11_127), (.ref b113)]))
    refine own_by (fun _ k => own_lal X125 hx hZ e125 f126 17 (by decide) (by decide) (hb hby at_236) k) ?_
    show own_Go _ _ _ _ (T125.setTop (mkF m 237 #[.val (.long q1), .second, .val (.int p2), .val (.int p3), .val (.ref b1), .val (.long v5_21), .second, .val (.int v7_22), .val (.int (1 : Int32)), .val (.int v9_112), .val (.ref b113), .val (.int v11_127), .unset, .unset, .unset, .unset, .unset] [(.long (own_pw 17)), (.long v5_21), (.int v11_127), (.ref b113)]))
    obtain ⟨g128, hg128⟩ : ∃ z_ : Int64, (own_pw 17) = z_ := ⟨_, rfl⟩
    refine own_gen hg128 (fun z_ => T125.setTop (mkF m 237 #[.val (.long q1), .second, .val (.int p2), .val (.int p3), .val (.ref b1), .val (.long v5_21), .second, .val (.int v7_22), .val (.int (1 : Int32)), .val (.int v9_112), .val (.ref b113), .val (.int v11_127), .unset, .unset, .unset, .unset, .unset] [(.long z_), (.long v5_21), (.int v11_127), (.ref b113)])) ?_
    refine own_callS X125 hx hZ hown (hw _ (List.mem_of_getElem? (i := 21) rfl)) (hw _ (List.mem_of_getElem? (i := 22) rfl)) (hw _ (List.mem_of_getElem? (i := 23) rfl)) (hw _ (List.mem_of_getElem? (i := 24) rfl)) (by decide) (rm1 l Z a0 hw [] v5_21 g128 h125 n0 Z125 (by rw [← hg128]; exact own_pwz 17 (by decide))) e125 (by rw [hml]; rfl) [(.long v5_21), (.long g128)] [(.int v11_127), (.ref b113)] rfl (lenOf own_pd0 rfl) rfl 2 (Nat.le_of_eq rfl) (by decide) (by decide) (Nat.le_of_ble_eq_true rfl) (Nat.le_of_ble_eq_true rfl) (hb hby at_237) ?_
    intro T129 Lc129 v129 X129 hQ129
    obtain ⟨rfl, N129q, e129⟩ := hQ129
    have N129 := Fr.app N125 N129q
    show own_Go _ _ _ _ (T129.setTop (mkF m 240 #[.val (.long q1), .second, .val (.int p2), .val (.int p3), .val (.ref b1), .val (.long v5_21), .second, .val (.int v7_22), .val (.int (1 : Int32)), .val (.int v9_112), .val (.ref b113), .val (.int v11_127), .unset, .unset, .unset, .unset, .unset] [(.int (own_dg v5_21 g128)), (.int v11_127), (.ref b113)]))
    refine own_bas X129 hx hZ e129 A125 (F + 1) hS (by omega) (hb hby at_240) ?_
    intro T130 h130 X130 e130 W130 A130
    have f131 := f126.other W130 ne114
    have N130 := Fr.snoc X130 N129 ge113
    have Z130 := own_size_wr W130 Z125
    obtain ⟨fn130, hfn130⟩ : ∃ g : Nat → Int32, g = own_upd fn125 (F + 1) (nar .byte (own_dg v5_21 g128)) := ⟨_, rfl⟩
    rw [← hfn130] at A130
    show own_Go _ _ _ _ (T130.setTop (mkF m 241 #[.val (.long q1), .second, .val (.int p2), .val (.int p3), .val (.ref b1), .val (.long v5_21), .second, .val (.int v7_22), .val (.int (1 : Int32)), .val (.int v9_112), .val (.ref b113), .val (.int v11_127), .unset, .unset, .unset, .unset, .unset] []))
    refine own_by (fun _ k => XS.aload X130.here hx rfl (hb hby at_241) rfl rfl k) ?_
    show own_Go _ _ _ _ (T130.setTop (mkF m 243 #[.val (.long q1), .second, .val (.int p2), .val (.int p3), .val (.ref b1), .val (.long v5_21), .second, .val (.int v7_22), .val (.int (1 : Int32)), .val (.int v9_112), .val (.ref b113), .val (.int v11_127), .unset, .unset, .unset, .unset, .unset] [(.ref b113)]))
    refine own_by (fun _ k => XS.iload X130.here hx rfl (hb hby at_243) rfl k) ?_
    show own_Go _ _ _ _ (T130.setTop (mkF m 245 #[.val (.long q1), .second, .val (.int p2), .val (.int p3), .val (.ref b1), .val (.long v5_21), .second, .val (.int v7_22), .val (.int (1 : Int32)), .val (.int v9_112), .val (.ref b113), .val (.int v11_127), .unset, .unset, .unset, .unset, .unset] [(.int v11_127), (.ref b113)]))
    refine own_by (fun _ k => XS.iconst X130.here hx rfl (hb hby at_245) k) ?_
    show own_Go _ _ _ _ (T130.setTop (mkF m 246 #[.val (.long q1), .second, .val (.int p2), .val (.int p3), .val (.ref b1), .val (.long v5_21), .second, .val (.int v7_22), .val (.int (1 : Int32)), .val (.int v9_112), .val (.ref b113), .val (.int v11_127), .unset, .unset, .unset, .unset, .unset] [(.int (1 : Int32)), (.int v11_127), (.ref b113)]))
    refine own_by (fun _ k => XS.iadd X130.here hx rfl (hb hby at_246) rfl k) ?_
    show own_Go _ _ _ _ (T130.setTop (mkF m 247 #[.val (.long q1), .second, .val (.int p2), .val (.int p3), .val (.ref b1), .val (.long v5_21), .second, .val (.int v7_22), .val (.int (1 : Int32)), .val (.int v9_112), .val (.ref b113), .val (.int v11_127), .unset, .unset, .unset, .unset, .unset] [(.int (v11_127 + (1 : Int32))), (.ref b113)]))
    refine own_by (fun _ k => XS.lload X130.here hx rfl (hb hby at_247) rfl k) ?_
    show own_Go _ _ _ _ (T130.setTop (mkF m 249 #[.val (.long q1), .second, .val (.int p2), .val (.int p3), .val (.ref b1), .val (.long v5_21), .second, .val (.int v7_22), .val (.int (1 : Int32)), .val (.int v9_112), .val (.ref b113), .val (.int v11_127), .unset, .unset, .unset, .unset, .unset] [(.long v5_21), (.int (v11_127 + (1 : Int32))), (.ref b113)]))
    refine own_by (fun _ k => XS.aload X130.here hx rfl (hb hby at_249) rfl rfl k) ?_
    show own_Go _ _ _ _ (T130.setTop (mkF m 251 #[.val (.long q1), .second, .val (.int p2), .val (.int p3), .val (.ref b1), .val (.long v5_21), .second, .val (.int v7_22), .val (.int (1 : Int32)), .val (.int v9_112), .val (.ref b113), .val (.int v11_127), .unset, .unset, .unset, .unset, .unset] [(.ref b1), (.long v5_21), (.int (v11_127 + (1 : Int32))), (.ref b113)]))
    refine own_by (fun _ k => XS.bipush X130.here hx rfl (hb hby at_251) k) ?_
    show own_Go _ _ _ _ (T130.setTop (mkF m 253 #[.val (.long q1), .second, .val (.int p2), .val (.int p3), .val (.ref b1), .val (.long v5_21), .second, .val (.int v7_22), .val (.int (1 : Int32)), .val (.int v9_112), .val (.ref b113), .val (.int v11_127), .unset, .unset, .unset, .unset, .unset] [(.int (16 : Int32)), (.ref b1), (.long v5_21), (.int (v11_127 + (1 : Int32))), (.ref b113)]))
    refine own_by (fun _ k => own_lal X130 hx hZ e130 f131 16 (by decide) (by decide) (hb hby at_253) k) ?_
    show own_Go _ _ _ _ (T130.setTop (mkF m 254 #[.val (.long q1), .second, .val (.int p2), .val (.int p3), .val (.ref b1), .val (.long v5_21), .second, .val (.int v7_22), .val (.int (1 : Int32)), .val (.int v9_112), .val (.ref b113), .val (.int v11_127), .unset, .unset, .unset, .unset, .unset] [(.long (own_pw 16)), (.long v5_21), (.int (v11_127 + (1 : Int32))), (.ref b113)]))
    obtain ⟨g132, hg132⟩ : ∃ z_ : Int64, (own_pw 16) = z_ := ⟨_, rfl⟩
    refine own_gen hg132 (fun z_ => T130.setTop (mkF m 254 #[.val (.long q1), .second, .val (.int p2), .val (.int p3), .val (.ref b1), .val (.long v5_21), .second, .val (.int v7_22), .val (.int (1 : Int32)), .val (.int v9_112), .val (.ref b113), .val (.int v11_127), .unset, .unset, .unset, .unset, .unset] [(.long z_), (.long v5_21), (.int (v11_127 + (1 : Int32))), (.ref b113)])) ?_
    refine own_callS X130 hx hZ hown (hw _ (List.mem_of_getElem? (i := 21) rfl)) (hw _ (List.mem_of_getElem? (i := 22) rfl)) (hw _ (List.mem_of_getElem? (i := 23) rfl)) (hw _ (List.mem_of_getElem? (i := 24) rfl)) (by decide) (rm1 l Z a0 hw [] v5_21 g132 h130 n0 Z130 (by rw [← hg132]; exact own_pwz 16 (by decide))) e130 (by rw [hml]; rfl) [(.long v5_21), (.long g132)] [(.int (v11_127 + (1 : Int32))), (.ref b113)] rfl (lenOf own_pd0 rfl) rfl 2 (Nat.le_of_eq rfl) (by decide) (by decide) (Nat.le_of_ble_eq_true rfl) (Nat.le_of_ble_eq_true rfl) (hb hby at_254) ?_
    intro T133 Lc133 v133 X133 hQ133
    obtain ⟨rfl, N133q, e133⟩ := hQ133
    have N133 := Fr.app N130 N133q
    show own_Go _ _ _ _ (T133.setTop (mkF m 257 #[.val (.long q1), .second, .val (.int p2), .val (.int p3), .val (.ref b1), .val (.long v5_21), .second, .val (.int v7_22), .val (.int (1 : Int32)), .val (.int v9_112), .val (.ref b113), .val (.int v11_127), .unset, .unset, .unset, .unset, .unset] [(.int (own_dg v5_21 g132)), (.int (v11_127 + (1 : Int32))), (.ref b113)]))
    refine own_bas X133 hx hZ e133 A130 ((F + 1) + 1) (own_addk hS (by omega) (by decide) (by decide)) (by omega) (hb hby at_257) ?_
    intro T134 h134 X134 e134 W134 A134
    have f135 := f131.other W134 ne114
    have N134 := Fr.snoc X134 N133 ge113
    have Z134 := own_size_wr W134 Z130
    obtain ⟨fn134, hfn134⟩ : ∃ g : Nat → Int32, g = own_upd fn130 ((F + 1) + 1) (nar .byte (own_dg v5_21 g132)) := ⟨_, rfl⟩
    rw [← hfn134] at A134
    show own_Go _ _ _ _ (T134.setTop (mkF m 258 #[.val (.long q1), .second, .val (.int p2), .val (.int p3), .val (.ref b1), .val (.long v5_21), .second, .val (.int v7_22), .val (.int (1 : Int32)), .val (.int v9_112), .val (.ref b113), .val (.int v11_127), .unset, .unset, .unset, .unset, .unset] []))
    refine own_by (fun _ k => XS.aload X134.here hx rfl (hb hby at_258) rfl rfl k) ?_
    show own_Go _ _ _ _ (T134.setTop (mkF m 260 #[.val (.long q1), .second, .val (.int p2), .val (.int p3), .val (.ref b1), .val (.long v5_21), .second, .val (.int v7_22), .val (.int (1 : Int32)), .val (.int v9_112), .val (.ref b113), .val (.int v11_127), .unset, .unset, .unset, .unset, .unset] [(.ref b113)]))
    refine own_by (fun _ k => XS.iload X134.here hx rfl (hb hby at_260) rfl k) ?_
    show own_Go _ _ _ _ (T134.setTop (mkF m 262 #[.val (.long q1), .second, .val (.int p2), .val (.int p3), .val (.ref b1), .val (.long v5_21), .second, .val (.int v7_22), .val (.int (1 : Int32)), .val (.int v9_112), .val (.ref b113), .val (.int v11_127), .unset, .unset, .unset, .unset, .unset] [(.int v11_127), (.ref b113)]))
    refine own_by (fun _ k => XS.iconst X134.here hx rfl (hb hby at_262) k) ?_
    show own_Go _ _ _ _ (T134.setTop (mkF m 263 #[.val (.long q1), .second, .val (.int p2), .val (.int p3), .val (.ref b1), .val (.long v5_21), .second, .val (.int v7_22), .val (.int (1 : Int32)), .val (.int v9_112), .val (.ref b113), .val (.int v11_127), .unset, .unset, .unset, .unset, .unset] [(.int (2 : Int32)), (.int v11_127), (.ref b113)]))
    refine own_by (fun _ k => XS.iadd X134.here hx rfl (hb hby at_263) rfl k) ?_
    show own_Go _ _ _ _ (T134.setTop (mkF m 264 #[.val (.long q1), .second, .val (.int p2), .val (.int p3), .val (.ref b1), .val (.long v5_21), .second, .val (.int v7_22), .val (.int (1 : Int32)), .val (.int v9_112), .val (.ref b113), .val (.int v11_127), .unset, .unset, .unset, .unset, .unset] [(.int (v11_127 + (2 : Int32))), (.ref b113)]))
    refine own_by (fun _ k => XS.lload X134.here hx rfl (hb hby at_264) rfl k) ?_
    show own_Go _ _ _ _ (T134.setTop (mkF m 266 #[.val (.long q1), .second, .val (.int p2), .val (.int p3), .val (.ref b1), .val (.long v5_21), .second, .val (.int v7_22), .val (.int (1 : Int32)), .val (.int v9_112), .val (.ref b113), .val (.int v11_127), .unset, .unset, .unset, .unset, .unset] [(.long v5_21), (.int (v11_127 + (2 : Int32))), (.ref b113)]))
    refine own_by (fun _ k => XS.aload X134.here hx rfl (hb hby at_266) rfl rfl k) ?_
    show own_Go _ _ _ _ (T134.setTop (mkF m 268 #[.val (.long q1), .second, .val (.int p2), .val (.int p3), .val (.ref b1), .val (.long v5_21), .second, .val (.int v7_22), .val (.int (1 : Int32)), .val (.int v9_112), .val (.ref b113), .val (.int v11_127), .unset, .unset, .unset, .unset, .unset] [(.ref b1), (.long v5_21), (.int (v11_127 + (2 : Int32))), (.ref b113)]))
    refine own_by (fun _ k => XS.bipush X134.here hx rfl (hb hby at_268) k) ?_
    show own_Go _ _ _ _ (T134.setTop (mkF m 270 #[.val (.long q1), .second, .val (.int p2), .val (.int p3), .val (.ref b1), .val (.long v5_21), .second, .val (.int v7_22), .val (.int (1 : Int32)), .val (.int v9_112), .val (.ref b113), .val (.int v11_127), .unset, .unset, .unset, .unset, .unset] [(.int (15 : Int32)), (.ref b1), (.long v5_21), (.int (v11_127 + (2 : Int32))), (.ref b113)]))
    refine own_by (fun _ k => own_lal X134 hx hZ e134 f135 15 (by decide) (by decide) (hb hby at_270) k) ?_
    show own_Go _ _ _ _ (T134.setTop (mkF m 271 #[.val (.long q1), .second, .val (.int p2), .val (.int p3), .val (.ref b1), .val (.long v5_21), .second, .val (.int v7_22), .val (.int (1 : Int32)), .val (.int v9_112), .val (.ref b113), .val (.int v11_127), .unset, .unset, .unset, .unset, .unset] [(.long (own_pw 15)), (.long v5_21), (.int (v11_127 + (2 : Int32))), (.ref b113)]))
    obtain ⟨g136, hg136⟩ : ∃ z_ : Int64, (own_pw 15) = z_ := ⟨_, rfl⟩
    refine own_gen hg136 (fun z_ => T134.setTop (mkF m 271 #[.val (.long q1), .second, .val (.int p2), .val (.int p3), .val (.ref b1), .val (.long v5_21), .second, .val (.int v7_22), .val (.int (1 : Int32)), .val (.int v9_112), .val (.ref b113), .val (.int v11_127), .unset, .unset, .unset, .unset, .unset] [(.long z_), (.long v5_21), (.int (v11_127 + (2 : Int32))), (.ref b113)])) ?_
    refine own_callS X134 hx hZ hown (hw _ (List.mem_of_getElem? (i := 21) rfl)) (hw _ (List.mem_of_getElem? (i := 22) rfl)) (hw _ (List.mem_of_getElem? (i := 23) rfl)) (hw _ (List.mem_of_getElem? (i := 24) rfl)) (by decide) (rm1 l Z a0 hw [] v5_21 g136 h134 n0 Z134 (by rw [← hg136]; exact own_pwz 15 (by decide))) e134 (by rw [hml]; rfl) [(.long v5_21), (.long g136)] [(.int (v11_127 + (2 : Int32))), (.ref b113)] rfl (lenOf own_pd0 rfl) rfl 2 (Nat.le_of_eq rfl) (by decide) (by decide) (Nat.le_of_ble_eq_true rfl) (Nat.le_of_ble_eq_true rfl) (hb hby at_271) ?_
    intro T137 Lc137 v137 X137 hQ137
    obtain ⟨rfl, N137q, e137⟩ := hQ137
    have N137 := Fr.app N134 N137q
    show own_Go _ _ _ _ (T137.setTop (mkF m 274 #[.val (.long q1), .second, .val (.int p2), .val (.int p3), .val (.ref b1), .val (.long v5_21), .second, .val (.int v7_22), .val (.int (1 : Int32)), .val (.int v9_112), .val (.ref b113), .val (.int v11_127), .unset, .unset, .unset, .unset, .unset] [(.int (own_dg v5_21 g136)), (.int (v11_127 + (2 : Int32))), (.ref b113)]))
    refine own_bas X137 hx hZ e137 A134 ((F + 1) + 2) (own_addk hS (by omega) (by decide) (by decide)) (by omega) (hb hby at_274) ?_
    intro T138 h138 X138 e138 W138 A138
    have f139 := f135.other W138 ne114
    have N138 := Fr.snoc X138 N137 ge113
    have Z138 := own_size_wr W138 Z134
    obtain ⟨fn138, hfn138⟩ : ∃ g : Nat → Int32, g = own_upd fn134 ((F + 1) + 2) (nar .byte (own_dg v5_21 g136)) := ⟨_, rfl⟩
    rw [← hfn138] at A138
    show own_Go _ _ _ _ (T138.setTop (mkF m 275 #[.val (.long q1), .second, .val (.int p2), .val (.int p3), .val (.ref b1), .val (.long v5_21), .second, .val (.int v7_22), .val (.int (1 : Int32)), .val (.int v9_112), .val (.ref b113), .val (.int v11_127), .unset, .unset, .unset, .unset, .unset] []))
    refine own_by (fun _ k => XS.aload X138.here hx rfl (hb hby at_275) rfl rfl k) ?_
    show own_Go _ _ _ _ (T138.setTop (mkF m 277 #[.val (.long q1), .second, .val (.int p2), .val (.int p3), .val (.ref b1), .val (.long v5_21), .second, .val (.int v7_22), .val (.int (1 : Int32)), .val (.int v9_112), .val (.ref b113), .val (.int v11_127), .unset, .unset, .unset, .unset, .unset] [(.ref b113)]))
    refine own_by (fun _ k => XS.iload X138.here hx rfl (hb hby at_277) rfl k) ?_
    show own_Go _ _ _ _ (T138.setTop (mkF m 279 #[.val (.long q1), .second, .val (.int p2), .val (.int p3), .val (.ref b1), .val (.long v5_21), .second, .val (.int v7_22), .val (.int (1 : Int32)), .val (.int v9_112), .val (.ref b113), .val (.int v11_127), .unset, .unset, .unset, .unset, .unset] [(.int v11_127), (.ref b113)]))
    refine own_by (fun _ k => XS.iconst X138.here hx rfl (hb hby at_279) k) ?_
    show own_Go _ _ _ _ (T138.setTop (mkF m 280 #[.val (.long q1), .second, .val (.int p2), .val (.int p3), .val (.ref b1), .val (.long v5_21), .second, .val (.int v7_22), .val (.int (1 : Int32)), .val (.int v9_112), .val (.ref b113), .val (.int v11_127), .unset, .unset, .unset, .unset, .unset] [(.int (3 : Int32)), (.int v11_127), (.ref b113)]))
    refine own_by (fun _ k => XS.iadd X138.here hx rfl (hb hby at_280) rfl k) ?_
    show own_Go _ _ _ _ (T138.setTop (mkF m 281 #[.val (.long q1), .second, .val (.int p2), .val (.int p3), .val (.ref b1), .val (.long v5_21), .second, .val (.int v7_22), .val (.int (1 : Int32)), .val (.int v9_112), .val (.ref b113), .val (.int v11_127), .unset, .unset, .unset, .unset, .unset] [(.int (v11_127 + (3 : Int32))), (.ref b113)]))
    refine own_by (fun _ k => XS.lload X138.here hx rfl (hb hby at_281) rfl k) ?_
    show own_Go _ _ _ _ (T138.setTop (mkF m 283 #[.val (.long q1), .second, .val (.int p2), .val (.int p3), .val (.ref b1), .val (.long v5_21), .second, .val (.int v7_22), .val (.int (1 : Int32)), .val (.int v9_112), .val (.ref b113), .val (.int v11_127), .unset, .unset, .unset, .unset, .unset] [(.long v5_21), (.int (v11_127 + (3 : Int32))), (.ref b113)]))
    refine own_by (fun _ k => XS.aload X138.here hx rfl (hb hby at_283) rfl rfl k) ?_
    show own_Go _ _ _ _ (T138.setTop (mkF m 285 #[.val (.long q1), .second, .val (.int p2), .val (.int p3), .val (.ref b1), .val (.long v5_21), .second, .val (.int v7_22), .val (.int (1 : Int32)), .val (.int v9_112), .val (.ref b113), .val (.int v11_127), .unset, .unset, .unset, .unset, .unset] [(.ref b1), (.long v5_21), (.int (v11_127 + (3 : Int32))), (.ref b113)]))
    refine own_by (fun _ k => XS.bipush X138.here hx rfl (hb hby at_285) k) ?_
    show own_Go _ _ _ _ (T138.setTop (mkF m 287 #[.val (.long q1), .second, .val (.int p2), .val (.int p3), .val (.ref b1), .val (.long v5_21), .second, .val (.int v7_22), .val (.int (1 : Int32)), .val (.int v9_112), .val (.ref b113), .val (.int v11_127), .unset, .unset, .unset, .unset, .unset] [(.int (14 : Int32)), (.ref b1), (.long v5_21), (.int (v11_127 + (3 : Int32))), (.ref b113)]))
    refine own_by (fun _ k => own_lal X138 hx hZ e138 f139 14 (by decide) (by decide) (hb hby at_287) k) ?_
    show own_Go _ _ _ _ (T138.setTop (mkF m 288 #[.val (.long q1), .second, .val (.int p2), .val (.int p3), .val (.ref b1), .val (.long v5_21), .second, .val (.int v7_22), .val (.int (1 : Int32)), .val (.int v9_112), .val (.ref b113), .val (.int v11_127), .unset, .unset, .unset, .unset, .unset] [(.long (own_pw 14)), (.long v5_21), (.int (v11_127 + (3 : Int32))), (.ref b113)]))
    obtain ⟨g140, hg140⟩ : ∃ z_ : Int64, (own_pw 14) = z_ := ⟨_, rfl⟩
    refine own_gen hg140 (fun z_ => T138.setTop (mkF m 288 #[.val (.long q1), .second, .val (.int p2), .val (.int p3), .val (.ref b1), .val (.long v5_21), .second, .val (.int v7_22), .val (.int (1 : Int32)), .val (.int v9_112), .val (.ref b113), .val (.int v11_127), .unset, .unset, .unset, .unset, .unset] [(.long z_), (.long v5_21), (.int (v11_127 + (3 : Int32))), (.ref b113)])) ?_
    refine own_callS X138 hx hZ hown (hw _ (List.mem_of_getElem? (i := 21) rfl)) (hw _ (List.mem_of_getElem? (i := 22) rfl)) (hw _ (List.mem_of_getElem? (i := 23) rfl)) (hw _ (List.mem_of_getElem? (i := 24) rfl)) (by decide) (rm1 l Z a0 hw [] v5_21 g140 h138 n0 Z138 (by rw [← hg140]; exact own_pwz 14 (by decide))) e138 (by rw [hml]; rfl) [(.long v5_21), (.long g140)] [(.int (v11_127 + (3 : Int32))), (.ref b113)] rfl (lenOf own_pd0 rfl) rfl 2 (Nat.le_of_eq rfl) (by decide) (by decide) (Nat.le_of_ble_eq_true rfl) (Nat.le_of_ble_eq_true rfl) (hb hby at_288) ?_
    intro T141 Lc141 v141 X141 hQ141
    obtain ⟨rfl, N141q, e141⟩ := hQ141
    have N141 := Fr.app N138 N141q
    show own_Go _ _ _ _ (T141.setTop (mkF m 291 #[.val (.long q1), .second, .val (.int p2), .val (.int p3), .val (.ref b1), .val (.long v5_21), .second, .val (.int v7_22), .val (.int (1 : Int32)), .val (.int v9_112), .val (.ref b113), .val (.int v11_127), .unset, .unset, .unset, .unset, .unset] [(.int (own_dg v5_21 g140)), (.int (v11_127 + (3 : Int32))), (.ref b113)]))
    refine own_bas X141 hx hZ e141 A138 ((F + 1) + 3) (own_addk hS (by omega) (by decide) (by decide)) (by omega) (hb hby at_291) ?_
    intro T142 h142 X142 e142 W142 A142
    have f143 := f139.other W142 ne114
    have N142 := Fr.snoc X142 N141 ge113
    have Z142 := own_size_wr W142 Z138
    obtain ⟨fn142, hfn142⟩ : ∃ g : Nat → Int32, g = own_upd fn138 ((F + 1) + 3) (nar .byte (own_dg v5_21 g140)) := ⟨_, rfl⟩
    rw [← hfn142] at A142
    show own_Go _ _ _ _ (T142.setTop (mkF m 292 #[.val (.long q1), .second, .val (.int p2), .val (.int p3), .val (.ref b1), .val (.long v5_21), .second, .val (.int v7_22), .val (.int (1 : Int32)), .val (.int v9_112), .val (.ref b113), .val (.int v11_127), .unset, .unset, .unset, .unset, .unset] []))
    refine own_by (fun _ k => XS.aload X142.here hx rfl (hb hby at_292) rfl rfl k) ?_
    show own_Go _ _ _ _ (T142.setTop (mkF m 294 #[.val (.long q1), .second, .val (.int p2), .val (.int p3), .val (.ref b1), .val (.long v5_21), .second, .val (.int v7_22), .val (.int (1 : Int32)), .val (.int v9_112), .val (.ref b113), .val (.int v11_127), .unset, .unset, .unset, .unset, .unset] [(.ref b113)]))
    refine own_by (fun _ k => XS.iload X142.here hx rfl (hb hby at_294) rfl k) ?_
    show own_Go _ _ _ _ (T142.setTop (mkF m 296 #[.val (.long q1), .second, .val (.int p2), .val (.int p3), .val (.ref b1), .val (.long v5_21), .second, .val (.int v7_22), .val (.int (1 : Int32)), .val (.int v9_112), .val (.ref b113), .val (.int v11_127), .unset, .unset, .unset, .unset, .unset] [(.int v11_127), (.ref b113)]))
    refine own_by (fun _ k => XS.iconst X142.here hx rfl (hb hby at_296) k) ?_
    show own_Go _ _ _ _ (T142.setTop (mkF m 297 #[.val (.long q1), .second, .val (.int p2), .val (.int p3), .val (.ref b1), .val (.long v5_21), .second, .val (.int v7_22), .val (.int (1 : Int32)), .val (.int v9_112), .val (.ref b113), .val (.int v11_127), .unset, .unset, .unset, .unset, .unset] [(.int (4 : Int32)), (.int v11_127), (.ref b113)]))
    refine own_by (fun _ k => XS.iadd X142.here hx rfl (hb hby at_297) rfl k) ?_
    show own_Go _ _ _ _ (T142.setTop (mkF m 298 #[.val (.long q1), .second, .val (.int p2), .val (.int p3), .val (.ref b1), .val (.long v5_21), .second, .val (.int v7_22), .val (.int (1 : Int32)), .val (.int v9_112), .val (.ref b113), .val (.int v11_127), .unset, .unset, .unset, .unset, .unset] [(.int (v11_127 + (4 : Int32))), (.ref b113)]))
    refine own_by (fun _ k => XS.lload X142.here hx rfl (hb hby at_298) rfl k) ?_
    show own_Go _ _ _ _ (T142.setTop (mkF m 300 #[.val (.long q1), .second, .val (.int p2), .val (.int p3), .val (.ref b1), .val (.long v5_21), .second, .val (.int v7_22), .val (.int (1 : Int32)), .val (.int v9_112), .val (.ref b113), .val (.int v11_127), .unset, .unset, .unset, .unset, .unset] [(.long v5_21), (.int (v11_127 + (4 : Int32))), (.ref b113)]))
    refine own_by (fun _ k => XS.aload X142.here hx rfl (hb hby at_300) rfl rfl k) ?_
    show own_Go _ _ _ _ (T142.setTop (mkF m 302 #[.val (.long q1), .second, .val (.int p2), .val (.int p3), .val (.ref b1), .val (.long v5_21), .second, .val (.int v7_22), .val (.int (1 : Int32)), .val (.int v9_112), .val (.ref b113), .val (.int v11_127), .unset, .unset, .unset, .unset, .unset] [(.ref b1), (.long v5_21), (.int (v11_127 + (4 : Int32))), (.ref b113)]))
    refine own_by (fun _ k => XS.bipush X142.here hx rfl (hb hby at_302) k) ?_
    show own_Go _ _ _ _ (T142.setTop (mkF m 304 #[.val (.long q1), .second, .val (.int p2), .val (.int p3), .val (.ref b1), .val (.long v5_21), .second, .val (.int v7_22), .val (.int (1 : Int32)), .val (.int v9_112), .val (.ref b113), .val (.int v11_127), .unset, .unset, .unset, .unset, .unset] [(.int (13 : Int32)), (.ref b1), (.long v5_21), (.int (v11_127 + (4 : Int32))), (.ref b113)]))
    refine own_by (fun _ k => own_lal X142 hx hZ e142 f143 13 (by decide) (by decide) (hb hby at_304) k) ?_
    show own_Go _ _ _ _ (T142.setTop (mkF m 305 #[.val (.long q1), .second, .val (.int p2), .val (.int p3), .val (.ref b1), .val (.long v5_21), .second, .val (.int v7_22), .val (.int (1 : Int32)), .val (.int v9_112), .val (.ref b113), .val (.int v11_127), .unset, .unset, .unset, .unset, .unset] [(.long (own_pw 13)), (.long v5_21), (.int (v11_127 + (4 : Int32))), (.ref b113)]))
    obtain ⟨g144, hg144⟩ : ∃ z_ : Int64, (own_pw 13) = z_ := ⟨_, rfl⟩
    refine own_gen hg144 (fun z_ => T142.setTop (mkF m 305 #[.val (.long q1), .second, .val (.int p2), .val (.int p3), .val (.ref b1), .val (.long v5_21), .second, .val (.int v7_22), .val (.int (1 : Int32)), .val (.int v9_112), .val (.ref b113), .val (.int v11_127), .unset, .unset, .unset, .unset, .unset] [(.long z_), (.long v5_21), (.int (v11_127 + (4 : Int32))), (.ref b113)])) ?_
    refine own_callS X142 hx hZ hown (hw _ (List.mem_of_getElem? (i := 21) rfl)) (hw _ (List.mem_of_getElem? (i := 22) rfl)) (hw _ (List.mem_of_getElem? (i := 23) rfl)) (hw _ (List.mem_of_getElem? (i := 24) rfl)) (by decide) (rm1 l Z a0 hw [] v5_21 g144 h142 n0 Z142 (by rw [← hg144]; exact own_pwz 13 (by decide))) e142 (by rw [hml]; rfl) [(.long v5_21), (.long g144)] [(.int (v11_127 + (4 : Int32))), (.ref b113)] rfl (lenOf own_pd0 rfl) rfl 2 (Nat.le_of_eq rfl) (by decide) (by decide) (Nat.le_of_ble_eq_true rfl) (Nat.le_of_ble_eq_true rfl) (hb hby at_305) ?_
    intro T145 Lc145 v145 X145 hQ145
    obtain ⟨rfl, N145q, e145⟩ := hQ145
    have N145 := Fr.app N142 N145q
    show own_Go _ _ _ _ (T145.setTop (mkF m 308 #[.val (.long q1), .second, .val (.int p2), .val (.int p3), .val (.ref b1), .val (.long v5_21), .second, .val (.int v7_22), .val (.int (1 : Int32)), .val (.int v9_112), .val (.ref b113), .val (.int v11_127), .unset, .unset, .unset, .unset, .unset] [(.int (own_dg v5_21 g144)), (.int (v11_127 + (4 : Int32))), (.ref b113)]))
    refine own_bas X145 hx hZ e145 A142 ((F + 1) + 4) (own_addk hS (by omega) (by decide) (by decide)) (by omega) (hb hby at_308) ?_
    intro T146 h146 X146 e146 W146 A146
    have f147 := f143.other W146 ne114
    have N146 := Fr.snoc X146 N145 ge113
    have Z146 := own_size_wr W146 Z142
    obtain ⟨fn146, hfn146⟩ : ∃ g : Nat → Int32, g = own_upd fn142 ((F + 1) + 4) (nar .byte (own_dg v5_21 g144)) := ⟨_, rfl⟩
    rw [← hfn146] at A146
    show own_Go _ _ _ _ (T146.setTop (mkF m 309 #[.val (.long q1), .second, .val (.int p2), .val (.int p3), .val (.ref b1), .val (.long v5_21), .second, .val (.int v7_22), .val (.int (1 : Int32)), .val (.int v9_112), .val (.ref b113), .val (.int v11_127), .unset, .unset, .unset, .unset, .unset] []))
    refine own_by (fun _ k => XS.aload X146.here hx rfl (hb hby at_309) rfl rfl k) ?_
    show own_Go _ _ _ _ (T146.setTop (mkF m 311 #[.val (.long q1), .second, .val (.int p2), .val (.int p3), .val (.ref b1), .val (.long v5_21), .second, .val (.int v7_22), .val (.int (1 : Int32)), .val (.int v9_112), .val (.ref b113), .val (.int v11_127), .unset, .unset, .unset, .unset, .unset] [(.ref b113)]))
    refine own_by (fun _ k => XS.iload X146.here hx rfl (hb hby at_311) rfl k) ?_
    show own_Go _ _ _ _ (T146.setTop (mkF m 313 #[.val (.long q1), .second, .val (.int p2), .val (.int p3), .val (.ref b1), .val (.long v5_21), .second, .val (.int v7_22), .val (.int (1 : Int32)), .val (.int v9_112), .val (.ref b113), .val (.int v11_127), .unset, .unset, .unset, .unset, .unset] [(.int v11_127), (.ref b113)]))
    refine own_by (fun _ k => XS.iconst X146.here hx rfl (hb hby at_313) k) ?_
    show own_Go _ _ _ _ (T146.setTop (mkF m 314 #[.val (.long q1), .second, .val (.int p2), .val (.int p3), .val (.ref b1), .val (.long v5_21), .second, .val (.int v7_22), .val (.int (1 : Int32)), .val (.int v9_112), .val (.ref b113), .val (.int v11_127), .unset, .unset, .unset, .unset, .unset] [(.int (5 : Int32)), (.int v11_127), (.ref b113)]))
    refine own_by (fun _ k => XS.iadd X146.here hx rfl (hb hby at_314) rfl k) ?_
    show own_Go _ _ _ _ (T146.setTop (mkF m 315 #[.val (.long q1), .second, .val (.int p2), .val (.int p3), .val (.ref b1), .val (.long v5_21), .second, .val (.int v7_22), .val (.int (1 : Int32)), .val (.int v9_112), .val (.ref b113), .val (.int v11_127), .unset, .unset, .unset, .unset, .unset] [(.int (v11_127 + (5 : Int32))), (.ref b113)]))
    refine own_by (fun _ k => XS.lload X146.here hx rfl (hb hby at_315) rfl k) ?_
    show own_Go _ _ _ _ (T146.setTop (mkF m 317 #[.val (.long q1), .second, .val (.int p2), .val (.int p3), .val (.ref b1), .val (.long v5_21), .second, .val (.int v7_22), .val (.int (1 : Int32)), .val (.int v9_112), .val (.ref b113), .val (.int v11_127), .unset, .unset, .unset, .unset, .unset] [(.long v5_21), (.int (v11_127 + (5 : Int32))), (.ref b113)]))
    refine own_by (fun _ k => XS.aload X146.here hx rfl (hb hby at_317) rfl rfl k) ?_
    show own_Go _ _ _ _ (T146.setTop (mkF m 319 #[.val (.long q1), .second, .val (.int p2), .val (.int p3), .val (.ref b1), .val (.long v5_21), .second, .val (.int v7_22), .val (.int (1 : Int32)), .val (.int v9_112), .val (.ref b113), .val (.int v11_127), .unset, .unset, .unset, .unset, .unset] [(.ref b1), (.long v5_21), (.int (v11_127 + (5 : Int32))), (.ref b113)]))
    refine own_by (fun _ k => XS.bipush X146.here hx rfl (hb hby at_319) k) ?_
    show own_Go _ _ _ _ (T146.setTop (mkF m 321 #[.val (.long q1), .second, .val (.int p2), .val (.int p3), .val (.ref b1), .val (.long v5_21), .second, .val (.int v7_22), .val (.int (1 : Int32)), .val (.int v9_112), .val (.ref b113), .val (.int v11_127), .unset, .unset, .unset, .unset, .unset] [(.int (12 : Int32)), (.ref b1), (.long v5_21), (.int (v11_127 + (5 : Int32))), (.ref b113)]))
    refine own_by (fun _ k => own_lal X146 hx hZ e146 f147 12 (by decide) (by decide) (hb hby at_321) k) ?_
    show own_Go _ _ _ _ (T146.setTop (mkF m 322 #[.val (.long q1), .second, .val (.int p2), .val (.int p3), .val (.ref b1), .val (.long v5_21), .second, .val (.int v7_22), .val (.int (1 : Int32)), .val (.int v9_112), .val (.ref b113), .val (.int v11_127), .unset, .unset, .unset, .unset, .unset] [(.long (own_pw 12)), (.long v5_21), (.int (v11_127 + (5 : Int32))), (.ref b113)]))
    obtain ⟨g148, hg148⟩ : ∃ z_ : Int64, (own_pw 12) = z_ := ⟨_, rfl⟩
    refine own_gen hg148 (fun z_ => T146.setTop (mkF m 322 #[.val (.long q1), .second, .val (.int p2), .val (.int p3), .val (.ref b1), .val (.long v5_21), .second, .val (.int v7_22), .val (.int (1 : Int32)), .val (.int v9_112), .val (.ref b113), .val (.int v11_127), .unset, .unset, .unset, .unset, .unset] [(.long z_), (.long v5_21), (.int (v11_127 + (5 : Int32))), (.ref b113)])) ?_
    refine own_callS X146 hx hZ hown (hw _ (List.mem_of_getElem? (i := 21) rfl)) (hw _ (List.mem_of_getElem? (i := 22) rfl)) (hw _ (List.mem_of_getElem? (i := 23) rfl)) (hw _ (List.mem_of_getElem? (i := 24) rfl)) (by decide) (rm1 l Z a0 hw [] v5_21 g148 h146 n0 Z146 (by rw [← hg148]; exact own_pwz 12 (by decide))) e146 (by rw [hml]; rfl) [(.long v5_21), (.long g148)] [(.int (v11_127 + (5 : Int32))), (.ref b113)] rfl (lenOf own_pd0 rfl) rfl 2 (Nat.le_of_eq rfl) (by decide) (by decide) (Nat.le_of_ble_eq_true rfl) (Nat.le_of_ble_eq_true rfl) (hb hby at_322) ?_
    intro T149 Lc149 v149 X149 hQ149
    obtain ⟨rfl, N149q, e149⟩ := hQ149
    have N149 := Fr.app N146 N149q
    show own_Go _ _ _ _ (T149.setTop (mkF m 325 #[.val (.long q1), .second, .val (.int p2), .val (.int p3), .val (.ref b1), .val (.long v5_21), .second, .val (.int v7_22), .val (.int (1 : Int32)), .val (.int v9_112), .val (.ref b113), .val (.int v11_127), .unset, .unset, .unset, .unset, .unset] [(.int (own_dg v5_21 g148)), (.int (v11_127 + (5 : Int32))), (.ref b113)]))
    refine own_bas X149 hx hZ e149 A146 ((F + 1) + 5) (own_addk hS (by omega) (by decide) (by decide)) (by omega) (hb hby at_325) ?_
    intro T150 h150 X150 e150 W150 A150
    have f151 := f147.other W150 ne114
    have N150 := Fr.snoc X150 N149 ge113
    have Z150 := own_size_wr W150 Z146
    obtain ⟨fn150, hfn150⟩ : ∃ g : Nat → Int32, g = own_upd fn146 ((F + 1) + 5) (nar .byte (own_dg v5_21 g148)) := ⟨_, rfl⟩
    rw [← hfn150] at A150
    show own_Go _ _ _ _ (T150.setTop (mkF m 326 #[.val (.long q1), .second, .val (.int p2), .val (.int p3), .val (.ref b1), .val (.long v5_21), .second, .val (.int v7_22), .val (.int (1 : Int32)), .val (.int v9_112), .val (.ref b113), .val (.int v11_127), .unset, .unset, .unset, .unset, .unset] []))
    refine own_by (fun _ k => XS.aload X150.here hx rfl (hb hby at_326) rfl rfl k) ?_
    show own_Go _ _ _ _ (T150.setTop (mkF m 328 #[.val (.long q1), .second, .val (.int p2), .val (.int p3), .val (.ref b1), .val (.long v5_21), .second, .val (.int v7_22), .val (.int (1 : Int32)), .val (.int v9_112), .val (.ref b113), .val (.int v11_127), .unset, .unset, .unset, .unset, .unset] [(.ref b113)]))
    refine own_by (fun _ k => XS.iload X150.here hx rfl (hb hby at_328) rfl k) ?_
    show own_Go _ _ _ _ (T150.setTop (mkF m 330 #[.val (.long q1), .second, .val (.int p2), .val (.int p3), .val (.ref b1), .val (.long v5_21), .second, .val (.int v7_22), .val (.int (1 : Int32)), .val (.int v9_112), .val (.ref b113), .val (.int v11_127), .unset, .unset, .unset, .unset, .unset] [(.int v11_127), (.ref b113)]))
    refine own_by (fun _ k => XS.bipush X150.here hx rfl (hb hby at_330) k) ?_
    show own_Go _ _ _ _ (T150.setTop (mkF m 332 #[.val (.long q1), .second, .val (.int p2), .val (.int p3), .val (.ref b1), .val (.long v5_21), .second, .val (.int v7_22), .val (.int (1 : Int32)), .val (.int v9_112), .val (.ref b113), .val (.int v11_127), .unset, .unset, .unset, .unset, .unset] [(.int (6 : Int32)), (.int v11_127), (.ref b113)]))
    refine own_by (fun _ k => XS.iadd X150.here hx rfl (hb hby at_332) rfl k) ?_
    show own_Go _ _ _ _ (T150.setTop (mkF m 333 #[.val (.long q1), .second, .val (.int p2), .val (.int p3), .val (.ref b1), .val (.long v5_21), .second, .val (.int v7_22), .val (.int (1 : Int32)), .val (.int v9_112), .val (.ref b113), .val (.int v11_127), .unset, .unset, .unset, .unset, .unset] [(.int (v11_127 + (6 : Int32))), (.ref b113)]))
    refine own_by (fun _ k => XS.lload X150.here hx rfl (hb hby at_333) rfl k) ?_
    show own_Go _ _ _ _ (T150.setTop (mkF m 335 #[.val (.long q1), .second, .val (.int p2), .val (.int p3), .val (.ref b1), .val (.long v5_21), .second, .val (.int v7_22), .val (.int (1 : Int32)), .val (.int v9_112), .val (.ref b113), .val (.int v11_127), .unset, .unset, .unset, .unset, .unset] [(.long v5_21), (.int (v11_127 + (6 : Int32))), (.ref b113)]))
    refine own_by (fun _ k => XS.aload X150.here hx rfl (hb hby at_335) rfl rfl k) ?_
    show own_Go _ _ _ _ (T150.setTop (mkF m 337 #[.val (.long q1), .second, .val (.int p2), .val (.int p3), .val (.ref b1), .val (.long v5_21), .second, .val (.int v7_22), .val (.int (1 : Int32)), .val (.int v9_112), .val (.ref b113), .val (.int v11_127), .unset, .unset, .unset, .unset, .unset] [(.ref b1), (.long v5_21), (.int (v11_127 + (6 : Int32))), (.ref b113)]))
    refine own_by (fun _ k => XS.bipush X150.here hx rfl (hb hby at_337) k) ?_
    show own_Go _ _ _ _ (T150.setTop (mkF m 339 #[.val (.long q1), .second, .val (.int p2), .val (.int p3), .val (.ref b1), .val (.long v5_21), .second, .val (.int v7_22), .val (.int (1 : Int32)), .val (.int v9_112), .val (.ref b113), .val (.int v11_127), .unset, .unset, .unset, .unset, .unset] [(.int (11 : Int32)), (.ref b1), (.long v5_21), (.int (v11_127 + (6 : Int32))), (.ref b113)]))
    refine own_by (fun _ k => own_lal X150 hx hZ e150 f151 11 (by decide) (by decide) (hb hby at_339) k) ?_
    show own_Go _ _ _ _ (T150.setTop (mkF m 340 #[.val (.long q1), .second, .val (.int p2), .val (.int p3), .val (.ref b1), .val (.long v5_21), .second, .val (.int v7_22), .val (.int (1 : Int32)), .val (.int v9_112), .val (.ref b113), .val (.int v11_127), .unset, .unset, .unset, .unset, .unset] [(.long (own_pw 11)), (.long v5_21), (.int (v11_127 + (6 : Int32))), (.ref b113)]))
    obtain ⟨g152, hg152⟩ : ∃ z_ : Int64, (own_pw 11) = z_ := ⟨_, rfl⟩
    refine own_gen hg152 (fun z_ => T150.setTop (mkF m 340 #[.val (.long q1), .second, .val (.int p2), .val (.int p3), .val (.ref b1), .val (.long v5_21), .second, .val (.int v7_22), .val (.int (1 : Int32)), .val (.int v9_112), .val (.ref b113), .val (.int v11_127), .unset, .unset, .unset, .unset, .unset] [(.long z_), (.long v5_21), (.int (v11_127 + (6 : Int32))), (.ref b113)])) ?_
    refine own_callS X150 hx hZ hown (hw _ (List.mem_of_getElem? (i := 21) rfl)) (hw _ (List.mem_of_getElem? (i := 22) rfl)) (hw _ (List.mem_of_getElem? (i := 23) rfl)) (hw _ (List.mem_of_getElem? (i := 24) rfl)) (by decide) (rm1 l Z a0 hw [] v5_21 g152 h150 n0 Z150 (by rw [← hg152]; exact own_pwz 11 (by decide))) e150 (by rw [hml]; rfl) [(.long v5_21), (.long g152)] [(.int (v11_127 + (6 : Int32))), (.ref b113)] rfl (lenOf own_pd0 rfl) rfl 2 (Nat.le_of_eq rfl) (by decide) (by decide) (Nat.le_of_ble_eq_true rfl) (Nat.le_of_ble_eq_true rfl) (hb hby at_340) ?_
    intro T153 Lc153 v153 X153 hQ153
    obtain ⟨rfl, N153q, e153⟩ := hQ153
    have N153 := Fr.app N150 N153q
    show own_Go _ _ _ _ (T153.setTop (mkF m 343 #[.val (.long q1), .second, .val (.int p2), .val (.int p3), .val (.ref b1), .val (.long v5_21), .second, .val (.int v7_22), .val (.int (1 : Int32)), .val (.int v9_112), .val (.ref b113), .val (.int v11_127), .unset, .unset, .unset, .unset, .unset] [(.int (own_dg v5_21 g152)), (.int (v11_127 + (6 : Int32))), (.ref b113)]))
    refine own_bas X153 hx hZ e153 A150 ((F + 1) + 6) (own_addk hS (by omega) (by decide) (by decide)) (by omega) (hb hby at_343) ?_
    intro T154 h154 X154 e154 W154 A154
    have f155 := f151.other W154 ne114
    have N154 := Fr.snoc X154 N153 ge113
    have Z154 := own_size_wr W154 Z150
    obtain ⟨fn154, hfn154⟩ : ∃ g : Nat → Int32, g = own_upd fn150 ((F + 1) + 6) (nar .byte (own_dg v5_21 g152)) := ⟨_, rfl⟩
    rw [← hfn154] at A154
    show own_Go _ _ _ _ (T154.setTop (mkF m 344 #[.val (.long q1), .second, .val (.int p2), .val (.int p3), .val (.ref b1), .val (.long v5_21), .second, .val (.int v7_22), .val (.int (1 : Int32)), .val (.int v9_112), .val (.ref b113), .val (.int v11_127), .unset, .unset, .unset, .unset, .unset] []))
    refine own_by (fun _ k => XS.aload X154.here hx rfl (hb hby at_344) rfl rfl k) ?_
    show own_Go _ _ _ _ (T154.setTop (mkF m 346 #[.val (.long q1), .second, .val (.int p2), .val (.int p3), .val (.ref b1), .val (.long v5_21), .second, .val (.int v7_22), .val (.int (1 : Int32)), .val (.int v9_112), .val (.ref b113), .val (.int v11_127), .unset, .unset, .unset, .unset, .unset] [(.ref b113)]))
    refine own_by (fun _ k => XS.iload X154.here hx rfl (hb hby at_346) rfl k) ?_
    show own_Go _ _ _ _ (T154.setTop (mkF m 348 #[.val (.long q1), .second, .val (.int p2), .val (.int p3), .val (.ref b1), .val (.long v5_21), .second, .val (.int v7_22), .val (.int (1 : Int32)), .val (.int v9_112), .val (.ref b113), .val (.int v11_127), .unset, .unset, .unset, .unset, .unset] [(.int v11_127), (.ref b113)]))
    refine own_by (fun _ k => XS.bipush X154.here hx rfl (hb hby at_348) k) ?_
    show own_Go _ _ _ _ (T154.setTop (mkF m 350 #[.val (.long q1), .second, .val (.int p2), .val (.int p3), .val (.ref b1), .val (.long v5_21), .second, .val (.int v7_22), .val (.int (1 : Int32)), .val (.int v9_112), .val (.ref b113), .val (.int v11_127), .unset, .unset, .unset, .unset, .unset] [(.int (7 : Int32)), (.int v11_127), (.ref b113)]))
    refine own_by (fun _ k => XS.iadd X154.here hx rfl (hb hby at_350) rfl k) ?_
    show own_Go _ _ _ _ (T154.setTop (mkF m 351 #[.val (.long q1), .second, .val (.int p2), .val (.int p3), .val (.ref b1), .val (.long v5_21), .second, .val (.int v7_22), .val (.int (1 : Int32)), .val (.int v9_112), .val (.ref b113), .val (.int v11_127), .unset, .unset, .unset, .unset, .unset] [(.int (v11_127 + (7 : Int32))), (.ref b113)]))
    refine own_by (fun _ k => XS.lload X154.here hx rfl (hb hby at_351) rfl k) ?_
    show own_Go _ _ _ _ (T154.setTop (mkF m 353 #[.val (.long q1), .second, .val (.int p2), .val (.int p3), .val (.ref b1), .val (.long v5_21), .second, .val (.int v7_22), .val (.int (1 : Int32)), .val (.int v9_112), .val (.ref b113), .val (.int v11_127), .unset, .unset, .unset, .unset, .unset] [(.long v5_21), (.int (v11_127 + (7 : Int32))), (.ref b113)]))
    refine own_by (fun _ k => XS.aload X154.here hx rfl (hb hby at_353) rfl rfl k) ?_
    show own_Go _ _ _ _ (T154.setTop (mkF m 355 #[.val (.long q1), .second, .val (.int p2), .val (.int p3), .val (.ref b1), .val (.long v5_21), .second, .val (.int v7_22), .val (.int (1 : Int32)), .val (.int v9_112), .val (.ref b113), .val (.int v11_127), .unset, .unset, .unset, .unset, .unset] [(.ref b1), (.long v5_21), (.int (v11_127 + (7 : Int32))), (.ref b113)]))
    refine own_by (fun _ k => XS.bipush X154.here hx rfl (hb hby at_355) k) ?_
    show own_Go _ _ _ _ (T154.setTop (mkF m 357 #[.val (.long q1), .second, .val (.int p2), .val (.int p3), .val (.ref b1), .val (.long v5_21), .second, .val (.int v7_22), .val (.int (1 : Int32)), .val (.int v9_112), .val (.ref b113), .val (.int v11_127), .unset, .unset, .unset, .unset, .unset] [(.int (10 : Int32)), (.ref b1), (.long v5_21), (.int (v11_127 + (7 : Int32))), (.ref b113)]))
    refine own_by (fun _ k => own_lal X154 hx hZ e154 f155 10 (by decide) (by decide) (hb hby at_357) k) ?_
    show own_Go _ _ _ _ (T154.setTop (mkF m 358 #[.val (.long q1), .second, .val (.int p2), .val (.int p3), .val (.ref b1), .val (.long v5_21), .second, .val (.int v7_22), .val (.int (1 : Int32)), .val (.int v9_112), .val (.ref b113), .val (.int v11_127), .unset, .unset, .unset, .unset, .unset] [(.long (own_pw 10)), (.long v5_21), (.int (v11_127 + (7 : Int32))), (.ref b113)]))
    obtain ⟨g156, hg156⟩ : ∃ z_ : Int64, (own_pw 10) = z_ := ⟨_, rfl⟩
    refine own_gen hg156 (fun z_ => T154.setTop (mkF m 358 #[.val (.long q1), .second, .val (.int p2), .val (.int p3), .val (.ref b1), .val (.long v5_21), .second, .val (.int v7_22), .val (.int (1 : Int32)), .val (.int v9_112), .val (.ref b113), .val (.int v11_127), .unset, .unset, .unset, .unset, .unset] [(.long z_), (.long v5_21), (.int (v11_127 + (7 : Int32))), (.ref b113)])) ?_
    refine own_callS X154 hx hZ hown (hw _ (List.mem_of_getElem? (i := 21) rfl)) (hw _ (List.mem_of_getElem? (i := 22) rfl)) (hw _ (List.mem_of_getElem? (i := 23) rfl)) (hw _ (List.mem_of_getElem? (i := 24) rfl)) (by decide) (rm1 l Z a0 hw [] v5_21 g156 h154 n0 Z154 (by rw [← hg156]; exact own_pwz 10 (by decide))) e154 (by rw [hml]; rfl) [(.long v5_21), (.long g156)] [(.int (v11_127 + (7 : Int32))), (.ref b113)] rfl (lenOf own_pd0 rfl) rfl 2 (Nat.le_of_eq rfl) (by decide) (by decide) (Nat.le_of_ble_eq_true rfl) (Nat.le_of_ble_eq_true rfl) (hb hby at_358) ?_
    intro T157 Lc157 v157 X157 hQ157
    obtain ⟨rfl, N157q, e157⟩ := hQ157
    have N157 := Fr.app N154 N157q
    show own_Go _ _ _ _ (T157.setTop (mkF m 361 #[.val (.long q1), .second, .val (.int p2), .val (.int p3), .val (.ref b1), .val (.long v5_21), .second, .val (.int v7_22), .val (.int (1 : Int32)), .val (.int v9_112), .val (.ref b113), .val (.int v11_127), .unset, .unset, .unset, .unset, .unset] [(.int (own_dg v5_21 g156)), (.int (v11_127 + (7 : Int32))), (.ref b113)]))
    refine own_bas X157 hx hZ e157 A154 ((F + 1) + 7) (own_addk hS (by omega) (by decide) (by decide)) (by omega) (hb hby at_361) ?_
    intro T158 h158 X158 e158 W158 A158
    have f159 := f155.other W158 ne114
    have N158 := Fr.snoc X158 N157 ge113
    have Z158 := own_size_wr W158 Z154
    obtain ⟨fn158, hfn158⟩ : ∃ g : Nat → Int32, g = own_upd fn154 ((F + 1) + 7) (nar .byte (own_dg v5_21 g156)) := ⟨_, rfl⟩
    rw [← hfn158] at A158
    show own_Go _ _ _ _ (T158.setTop (mkF m 362 #[.val (.long q1), .second, .val (.int p2), .val (.int p3), .val (.ref b1), .val (.long v5_21), .second, .val (.int v7_22), .val (.int (1 : Int32)), .val (.int v9_112), .val (.ref b113), .val (.int v11_127), .unset, .unset, .unset, .unset, .unset] []))
    refine own_by (fun _ k => XS.aload X158.here hx rfl (hb hby at_362) rfl rfl k) ?_
    show own_Go _ _ _ _ (T158.setTop (mkF m 364 #[.val (.long q1), .second, .val (.int p2), .val (.int p3), .val (.ref b1), .val (.long v5_21), .second, .val (.int v7_22), .val (.int (1 : Int32)), .val (.int v9_112), .val (.ref b113), .val (.int v11_127), .unset, .unset, .unset, .unset, .unset] [(.ref b113)]))
    refine own_by (fun _ k => XS.iload X158.here hx rfl (hb hby at_364) rfl k) ?_
    show own_Go _ _ _ _ (T158.setTop (mkF m 366 #[.val (.long q1), .second, .val (.int p2), .val (.int p3), .val (.ref b1), .val (.long v5_21), .second, .val (.int v7_22), .val (.int (1 : Int32)), .val (.int v9_112), .val (.ref b113), .val (.int v11_127), .unset, .unset, .unset, .unset, .unset] [(.int v11_127), (.ref b113)]))
    refine own_by (fun _ k => XS.bipush X158.here hx rfl (hb hby at_366) k) ?_
    show own_Go _ _ _ _ (T158.setTop (mkF m 368 #[.val (.long q1), .second, .val (.int p2), .val (.int p3), .val (.ref b1), .val (.long v5_21), .second, .val (.int v7_22), .val (.int (1 : Int32)), .val (.int v9_112), .val (.ref b113), .val (.int v11_127), .unset, .unset, .unset, .unset, .unset] [(.int (8 : Int32)), (.int v11_127), (.ref b113)]))
    refine own_by (fun _ k => XS.iadd X158.here hx rfl (hb hby at_368) rfl k) ?_
    show own_Go _ _ _ _ (T158.setTop (mkF m 369 #[.val (.long q1), .second, .val (.int p2), .val (.int p3), .val (.ref b1), .val (.long v5_21), .second, .val (.int v7_22), .val (.int (1 : Int32)), .val (.int v9_112), .val (.ref b113), .val (.int v11_127), .unset, .unset, .unset, .unset, .unset] [(.int (v11_127 + (8 : Int32))), (.ref b113)]))
    refine own_by (fun _ k => XS.lload X158.here hx rfl (hb hby at_369) rfl k) ?_
    show own_Go _ _ _ _ (T158.setTop (mkF m 371 #[.val (.long q1), .second, .val (.int p2), .val (.int p3), .val (.ref b1), .val (.long v5_21), .second, .val (.int v7_22), .val (.int (1 : Int32)), .val (.int v9_112), .val (.ref b113), .val (.int v11_127), .unset, .unset, .unset, .unset, .unset] [(.long v5_21), (.int (v11_127 + (8 : Int32))), (.ref b113)]))
    refine own_by (fun _ k => XS.aload X158.here hx rfl (hb hby at_371) rfl rfl k) ?_
    show own_Go _ _ _ _ (T158.setTop (mkF m 373 #[.val (.long q1), .second, .val (.int p2), .val (.int p3), .val (.ref b1), .val (.long v5_21), .second, .val (.int v7_22), .val (.int (1 : Int32)), .val (.int v9_112), .val (.ref b113), .val (.int v11_127), .unset, .unset, .unset, .unset, .unset] [(.ref b1), (.long v5_21), (.int (v11_127 + (8 : Int32))), (.ref b113)]))
    refine own_by (fun _ k => XS.bipush X158.here hx rfl (hb hby at_373) k) ?_
    show own_Go _ _ _ _ (T158.setTop (mkF m 375 #[.val (.long q1), .second, .val (.int p2), .val (.int p3), .val (.ref b1), .val (.long v5_21), .second, .val (.int v7_22), .val (.int (1 : Int32)), .val (.int v9_112), .val (.ref b113), .val (.int v11_127), .unset, .unset, .unset, .unset, .unset] [(.int (9 : Int32)), (.ref b1), (.long v5_21), (.int (v11_127 + (8 : Int32))), (.ref b113)]))
    refine own_by (fun _ k => own_lal X158 hx hZ e158 f159 9 (by decide) (by decide) (hb hby at_375) k) ?_
    show own_Go _ _ _ _ (T158.setTop (mkF m 376 #[.val (.long q1), .second, .val (.int p2), .val (.int p3), .val (.ref b1), .val (.long v5_21), .second, .val (.int v7_22), .val (.int (1 : Int32)), .val (.int v9_112), .val (.ref b113), .val (.int v11_127), .unset, .unset, .unset, .unset, .unset] [(.long (own_pw 9)), (.long v5_21), (.int (v11_127 + (8 : Int32))), (.ref b113)]))
    obtain ⟨g160, hg160⟩ : ∃ z_ : Int64, (own_pw 9) = z_ := ⟨_, rfl⟩
    refine own_gen hg160 (fun z_ => T158.setTop (mkF m 376 #[.val (.long q1), .second, .val (.int p2), .val (.int p3), .val (.ref b1), .val (.long v5_21), .second, .val (.int v7_22), .val (.int (1 : Int32)), .val (.int v9_112), .val (.ref b113), .val (.int v11_127), .unset, .unset, .unset, .unset, .unset] [(.long z_), (.long v5_21), (.int (v11_127 + (8 : Int32))), (.ref b113)])) ?_
    refine own_callS X158 hx hZ hown (hw _ (List.mem_of_getElem? (i := 21) rfl)) (hw _ (List.mem_of_getElem? (i := 22) rfl)) (hw _ (List.mem_of_getElem? (i := 23) rfl)) (hw _ (List.mem_of_getElem? (i := 24) rfl)) (by decide) (rm1 l Z a0 hw [] v5_21 g160 h158 n0 Z158 (by rw [← hg160]; exact own_pwz 9 (by decide))) e158 (by rw [hml]; rfl) [(.long v5_21), (.long g160)] [(.int (v11_127 + (8 : Int32))), (.ref b113)] rfl (lenOf own_pd0 rfl) rfl 2 (Nat.le_of_eq rfl) (by decide) (by decide) (Nat.le_of_ble_eq_true rfl) (Nat.le_of_ble_eq_true rfl) (hb hby at_376) ?_
    intro T161 Lc161 v161 X161 hQ161
    obtain ⟨rfl, N161q, e161⟩ := hQ161
    have N161 := Fr.app N158 N161q
    show own_Go _ _ _ _ (T161.setTop (mkF m 379 #[.val (.long q1), .second, .val (.int p2), .val (.int p3), .val (.ref b1), .val (.long v5_21), .second, .val (.int v7_22), .val (.int (1 : Int32)), .val (.int v9_112), .val (.ref b113), .val (.int v11_127), .unset, .unset, .unset, .unset, .unset] [(.int (own_dg v5_21 g160)), (.int (v11_127 + (8 : Int32))), (.ref b113)]))
    refine own_bas X161 hx hZ e161 A158 ((F + 1) + 8) (own_addk hS (by omega) (by decide) (by decide)) (by omega) (hb hby at_379) ?_
    intro T162 h162 X162 e162 W162 A162
    have f163 := f159.other W162 ne114
    have N162 := Fr.snoc X162 N161 ge113
    have Z162 := own_size_wr W162 Z158
    obtain ⟨fn162, hfn162⟩ : ∃ g : Nat → Int32, g = own_upd fn158 ((F + 1) + 8) (nar .byte (own_dg v5_21 g160)) := ⟨_, rfl⟩
    rw [← hfn162] at A162
    show own_Go _ _ _ _ (T162.setTop (mkF m 380 #[.val (.long q1), .second, .val (.int p2), .val (.int p3), .val (.ref b1), .val (.long v5_21), .second, .val (.int v7_22), .val (.int (1 : Int32)), .val (.int v9_112), .val (.ref b113), .val (.int v11_127), .unset, .unset, .unset, .unset, .unset] []))
    refine own_by (fun _ k => XS.aload X162.here hx rfl (hb hby at_380) rfl rfl k) ?_
    show own_Go _ _ _ _ (T162.setTop (mkF m 382 #[.val (.long q1), .second, .val (.int p2), .val (.int p3), .val (.ref b1), .val (.long v5_21), .second, .val (.int v7_22), .val (.int (1 : Int32)), .val (.int v9_112), .val (.ref b113), .val (.int v11_127), .unset, .unset, .unset, .unset, .unset] [(.ref b113)]))
    refine own_by (fun _ k => XS.iload X162.here hx rfl (hb hby at_382) rfl k) ?_
    show own_Go _ _ _ _ (T162.setTop (mkF m 384 #[.val (.long q1), .second, .val (.int p2), .val (.int p3), .val (.ref b1), .val (.long v5_21), .second, .val (.int v7_22), .val (.int (1 : Int32)), .val (.int v9_112), .val (.ref b113), .val (.int v11_127), .unset, .unset, .unset, .unset, .unset] [(.int v11_127), (.ref b113)]))
    refine own_by (fun _ k => XS.bipush X162.here hx rfl (hb hby at_384) k) ?_
    show own_Go _ _ _ _ (T162.setTop (mkF m 386 #[.val (.long q1), .second, .val (.int p2), .val (.int p3), .val (.ref b1), .val (.long v5_21), .second, .val (.int v7_22), .val (.int (1 : Int32)), .val (.int v9_112), .val (.ref b113), .val (.int v11_127), .unset, .unset, .unset, .unset, .unset] [(.int (9 : Int32)), (.int v11_127), (.ref b113)]))
    refine own_by (fun _ k => XS.iadd X162.here hx rfl (hb hby at_386) rfl k) ?_
    show own_Go _ _ _ _ (T162.setTop (mkF m 387 #[.val (.long q1), .second, .val (.int p2), .val (.int p3), .val (.ref b1), .val (.long v5_21), .second, .val (.int v7_22), .val (.int (1 : Int32)), .val (.int v9_112), .val (.ref b113), .val (.int v11_127), .unset, .unset, .unset, .unset, .unset] [(.int (v11_127 + (9 : Int32))), (.ref b113)]))
    refine own_by (fun _ k => XS.lload X162.here hx rfl (hb hby at_387) rfl k) ?_
    show own_Go _ _ _ _ (T162.setTop (mkF m 389 #[.val (.long q1), .second, .val (.int p2), .val (.int p3), .val (.ref b1), .val (.long v5_21), .second, .val (.int v7_22), .val (.int (1 : Int32)), .val (.int v9_112), .val (.ref b113), .val (.int v11_127), .unset, .unset, .unset, .unset, .unset] [(.long v5_21), (.int (v11_127 + (9 : Int32))), (.ref b113)]))
    refine own_by (fun _ k => XS.aload X162.here hx rfl (hb hby at_389) rfl rfl k) ?_
    show own_Go _ _ _ _ (T162.setTop (mkF m 391 #[.val (.long q1), .second, .val (.int p2), .val (.int p3), .val (.ref b1), .val (.long v5_21), .second, .val (.int v7_22), .val (.int (1 : Int32)), .val (.int v9_112), .val (.ref b113), .val (.int v11_127), .unset, .unset, .unset, .unset, .unset] [(.ref b1), (.long v5_21), (.int (v11_127 + (9 : Int32))), (.ref b113)]))
    refine own_by (fun _ k => XS.bipush X162.here hx rfl (hb hby at_391) k) ?_
    show own_Go _ _ _ _ (T162.setTop (mkF m 393 #[.val (.long q1), .second, .val (.int p2), .val (.int p3), .val (.ref b1), .val (.long v5_21), .second, .val (.int v7_22), .val (.int (1 : Int32)), .val (.int v9_112), .val (.ref b113), .val (.int v11_127), .unset, .unset, .unset, .unset, .unset] [(.int (8 : Int32)), (.ref b1), (.long v5_21), (.int (v11_127 + (9 : Int32))), (.ref b113)]))
    refine own_by (fun _ k => own_lal X162 hx hZ e162 f163 8 (by decide) (by decide) (hb hby at_393) k) ?_
    show own_Go _ _ _ _ (T162.setTop (mkF m 394 #[.val (.long q1), .second, .val (.int p2), .val (.int p3), .val (.ref b1), .val (.long v5_21), .second, .val (.int v7_22), .val (.int (1 : Int32)), .val (.int v9_112), .val (.ref b113), .val (.int v11_127), .unset, .unset, .unset, .unset, .unset] [(.long (own_pw 8)), (.long v5_21), (.int (v11_127 + (9 : Int32))), (.ref b113)]))
    obtain ⟨g164, hg164⟩ : ∃ z_ : Int64, (own_pw 8) = z_ := ⟨_, rfl⟩
    refine own_gen hg164 (fun z_ => T162.setTop (mkF m 394 #[.val (.long q1), .second, .val (.int p2), .val (.int p3), .val (.ref b1), .val (.long v5_21), .second, .val (.int v7_22), .val (.int (1 : Int32)), .val (.int v9_112), .val (.ref b113), .val (.int v11_127), .unset, .unset, .unset, .unset, .unset] [(.long z_), (.long v5_21), (.int (v11_127 + (9 : Int32))), (.ref b113)])) ?_
    refine own_callS X162 hx hZ hown (hw _ (List.mem_of_getElem? (i := 21) rfl)) (hw _ (List.mem_of_getElem? (i := 22) rfl)) (hw _ (List.mem_of_getElem? (i := 23) rfl)) (hw _ (List.mem_of_getElem? (i := 24) rfl)) (by decide) (rm1 l Z a0 hw [] v5_21 g164 h162 n0 Z162 (by rw [← hg164]; exact own_pwz 8 (by decide))) e162 (by rw [hml]; rfl) [(.long v5_21), (.long g164)] [(.int (v11_127 + (9 : Int32))), (.ref b113)] rfl (lenOf own_pd0 rfl) rfl 2 (Nat.le_of_eq rfl) (by decide) (by decide) (Nat.le_of_ble_eq_true rfl) (Nat.le_of_ble_eq_true rfl) (hb hby at_394) ?_
    intro T165 Lc165 v165 X165 hQ165
    obtain ⟨rfl, N165q, e165⟩ := hQ165
    have N165 := Fr.app N162 N165q
    show own_Go _ _ _ _ (T165.setTop (mkF m 397 #[.val (.long q1), .second, .val (.int p2), .val (.int p3), .val (.ref b1), .val (.long v5_21), .second, .val (.int v7_22), .val (.int (1 : Int32)), .val (.int v9_112), .val (.ref b113), .val (.int v11_127), .unset, .unset, .unset, .unset, .unset] [(.int (own_dg v5_21 g164)), (.int (v11_127 + (9 : Int32))), (.ref b113)]))
    refine own_bas X165 hx hZ e165 A162 ((F + 1) + 9) (own_addk hS (by omega) (by decide) (by decide)) (by omega) (hb hby at_397) ?_
    intro T166 h166 X166 e166 W166 A166
    have f167 := f163.other W166 ne114
    have N166 := Fr.snoc X166 N165 ge113
    have Z166 := own_size_wr W166 Z162
    obtain ⟨fn166, hfn166⟩ : ∃ g : Nat → Int32, g = own_upd fn162 ((F + 1) + 9) (nar .byte (own_dg v5_21 g164)) := ⟨_, rfl⟩
    rw [← hfn166] at A166
    show own_Go _ _ _ _ (T166.setTop (mkF m 398 #[.val (.long q1), .second, .val (.int p2), .val (.int p3), .val (.ref b1), .val (.long v5_21), .second, .val (.int v7_22), .val (.int (1 : Int32)), .val (.int v9_112), .val (.ref b113), .val (.int v11_127), .unset, .unset, .unset, .unset, .unset] []))
    refine own_by (fun _ k => XS.aload X166.here hx rfl (hb hby at_398) rfl rfl k) ?_
    show own_Go _ _ _ _ (T166.setTop (mkF m 400 #[.val (.long q1), .second, .val (.int p2), .val (.int p3), .val (.ref b1), .val (.long v5_21), .second, .val (.int v7_22), .val (.int (1 : Int32)), .val (.int v9_112), .val (.ref b113), .val (.int v11_127), .unset, .unset, .unset, .unset, .unset] [(.ref b113)]))
    refine own_by (fun _ k => XS.iload X166.here hx rfl (hb hby at_400) rfl k) ?_
    show own_Go _ _ _ _ (T166.setTop (mkF m 402 #[.val (.long q1), .second, .val (.int p2), .val (.int p3), .val (.ref b1), .val (.long v5_21), .second, .val (.int v7_22), .val (.int (1 : Int32)), .val (.int v9_112), .val (.ref b113), .val (.int v11_127), .unset, .unset, .unset, .unset, .unset] [(.int v11_127), (.ref b113)]))
    refine own_by (fun _ k => XS.bipush X166.here hx rfl (hb hby at_402) k) ?_
    show own_Go _ _ _ _ (T166.setTop (mkF m 404 #[.val (.long q1), .second, .val (.int p2), .val (.int p3), .val (.ref b1), .val (.long v5_21), .second, .val (.int v7_22), .val (.int (1 : Int32)), .val (.int v9_112), .val (.ref b113), .val (.int v11_127), .unset, .unset, .unset, .unset, .unset] [(.int (10 : Int32)), (.int v11_127), (.ref b113)]))
    refine own_by (fun _ k => XS.iadd X166.here hx rfl (hb hby at_404) rfl k) ?_
    show own_Go _ _ _ _ (T166.setTop (mkF m 405 #[.val (.long q1), .second, .val (.int p2), .val (.int p3), .val (.ref b1), .val (.long v5_21), .second, .val (.int v7_22), .val (.int (1 : Int32)), .val (.int v9_112), .val (.ref b113), .val (.int v11_127), .unset, .unset, .unset, .unset, .unset] [(.int (v11_127 + (10 : Int32))), (.ref b113)]))
    refine own_by (fun _ k => XS.lload X166.here hx rfl (hb hby at_405) rfl k) ?_
    show own_Go _ _ _ _ (T166.setTop (mkF m 407 #[.val (.long q1), .second, .val (.int p2), .val (.int p3), .val (.ref b1), .val (.long v5_21), .second, .val (.int v7_22), .val (.int (1 : Int32)), .val (.int v9_112), .val (.ref b113), .val (.int v11_127), .unset, .unset, .unset, .unset, .unset] [(.long v5_21), (.int (v11_127 + (10 : Int32))), (.ref b113)]))
    refine own_by (fun _ k => XS.aload X166.here hx rfl (hb hby at_407) rfl rfl k) ?_
    show own_Go _ _ _ _ (T166.setTop (mkF m 409 #[.val (.long q1), .second, .val (.int p2), .val (.int p3), .val (.ref b1), .val (.long v5_21), .second, .val (.int v7_22), .val (.int (1 : Int32)), .val (.int v9_112), .val (.ref b113), .val (.int v11_127), .unset, .unset, .unset, .unset, .unset] [(.ref b1), (.long v5_21), (.int (v11_127 + (10 : Int32))), (.ref b113)]))
    refine own_by (fun _ k => XS.bipush X166.here hx rfl (hb hby at_409) k) ?_
    show own_Go _ _ _ _ (T166.setTop (mkF m 411 #[.val (.long q1), .second, .val (.int p2), .val (.int p3), .val (.ref b1), .val (.long v5_21), .second, .val (.int v7_22), .val (.int (1 : Int32)), .val (.int v9_112), .val (.ref b113), .val (.int v11_127), .unset, .unset, .unset, .unset, .unset] [(.int (7 : Int32)), (.ref b1), (.long v5_21), (.int (v11_127 + (10 : Int32))), (.ref b113)]))
    refine own_by (fun _ k => own_lal X166 hx hZ e166 f167 7 (by decide) (by decide) (hb hby at_411) k) ?_
    show own_Go _ _ _ _ (T166.setTop (mkF m 412 #[.val (.long q1), .second, .val (.int p2), .val (.int p3), .val (.ref b1), .val (.long v5_21), .second, .val (.int v7_22), .val (.int (1 : Int32)), .val (.int v9_112), .val (.ref b113), .val (.int v11_127), .unset, .unset, .unset, .unset, .unset] [(.long (own_pw 7)), (.long v5_21), (.int (v11_127 + (10 : Int32))), (.ref b113)]))
    obtain ⟨g168, hg168⟩ : ∃ z_ : Int64, (own_pw 7) = z_ := ⟨_, rfl⟩
    refine own_gen hg168 (fun z_ => T166.setTop (mkF m 412 #[.val (.long q1), .second, .val (.int p2), .val (.int p3), .val (.ref b1), .val (.long v5_21), .second, .val (.int v7_22), .val (.int (1 : Int32)), .val (.int v9_112), .val (.ref b113), .val (.int v11_127), .unset, .unset, .unset, .unset, .unset] [(.long z_), (.long v5_21), (.int (v11_127 + (10 : Int32))), (.ref b113)])) ?_
    refine own_callS X166 hx hZ hown (hw _ (List.mem_of_getElem? (i := 21) rfl)) (hw _ (List.mem_of_getElem? (i := 22) rfl)) (hw _ (List.mem_of_getElem? (i := 23) rfl)) (hw _ (List.mem_of_getElem? (i := 24) rfl)) (by decide) (rm1 l Z a0 hw [] v5_21 g168 h166 n0 Z166 (by rw [← hg168]; exact own_pwz 7 (by decide))) e166 (by rw [hml]; rfl) [(.long v5_21), (.long g168)] [(.int (v11_127 + (10 : Int32))), (.ref b113)] rfl (lenOf own_pd0 rfl) rfl 2 (Nat.le_of_eq rfl) (by decide) (by decide) (Nat.le_of_ble_eq_true rfl) (Nat.le_of_ble_eq_true rfl) (hb hby at_412) ?_
    intro T169 Lc169 v169 X169 hQ169
    obtain ⟨rfl, N169q, e169⟩ := hQ169
    have N169 := Fr.app N166 N169q
    show own_Go _ _ _ _ (T169.setTop (mkF m 415 #[.val (.long q1), .second, .val (.int p2), .val (.int p3), .val (.ref b1), .val (.long v5_21), .second, .val (.int v7_22), .val (.int (1 : Int32)), .val (.int v9_112), .val (.ref b113), .val (.int v11_127), .unset, .unset, .unset, .unset, .unset] [(.int (own_dg v5_21 g168)), (.int (v11_127 + (10 : Int32))), (.ref b113)]))
    refine own_bas X169 hx hZ e169 A166 ((F + 1) + 10) (own_addk hS (by omega) (by decide) (by decide)) (by omega) (hb hby at_415) ?_
    intro T170 h170 X170 e170 W170 A170
    have f171 := f167.other W170 ne114
    have N170 := Fr.snoc X170 N169 ge113
    have Z170 := own_size_wr W170 Z166
    obtain ⟨fn170, hfn170⟩ : ∃ g : Nat → Int32, g = own_upd fn166 ((F + 1) + 10) (nar .byte (own_dg v5_21 g168)) := ⟨_, rfl⟩
    rw [← hfn170] at A170
    show own_Go _ _ _ _ (T170.setTop (mkF m 416 #[.val (.long q1), .second, .val (.int p2), .val (.int p3), .val (.ref b1), .val (.long v5_21), .second, .val (.int v7_22), .val (.int (1 : Int32)), .val (.int v9_112), .val (.ref b113), .val (.int v11_127), .unset, .unset, .unset, .unset, .unset] []))
    refine own_by (fun _ k => XS.aload X170.here hx rfl (hb hby at_416) rfl rfl k) ?_
    show own_Go _ _ _ _ (T170.setTop (mkF m 418 #[.val (.long q1), .second, .val (.int p2), .val (.int p3), .val (.ref b1), .val (.long v5_21), .second, .val (.int v7_22), .val (.int (1 : Int32)), .val (.int v9_112), .val (.ref b113), .val (.int v11_127), .unset, .unset, .unset, .unset, .unset] [(.ref b113)]))
    refine own_by (fun _ k => XS.iload X170.here hx rfl (hb hby at_418) rfl k) ?_
    show own_Go _ _ _ _ (T170.setTop (mkF m 420 #[.val (.long q1), .second, .val (.int p2), .val (.int p3), .val (.ref b1), .val (.long v5_21), .second, .val (.int v7_22), .val (.int (1 : Int32)), .val (.int v9_112), .val (.ref b113), .val (.int v11_127), .unset, .unset, .unset, .unset, .unset] [(.int v11_127), (.ref b113)]))
    refine own_by (fun _ k => XS.bipush X170.here hx rfl (hb hby at_420) k) ?_
    show own_Go _ _ _ _ (T170.setTop (mkF m 422 #[.val (.long q1), .second, .val (.int p2), .val (.int p3), .val (.ref b1), .val (.long v5_21), .second, .val (.int v7_22), .val (.int (1 : Int32)), .val (.int v9_112), .val (.ref b113), .val (.int v11_127), .unset, .unset, .unset, .unset, .unset] [(.int (11 : Int32)), (.int v11_127), (.ref b113)]))
    refine own_by (fun _ k => XS.iadd X170.here hx rfl (hb hby at_422) rfl k) ?_
    show own_Go _ _ _ _ (T170.setTop (mkF m 423 #[.val (.long q1), .second, .val (.int p2), .val (.int p3), .val (.ref b1), .val (.long v5_21), .second, .val (.int v7_22), .val (.int (1 : Int32)), .val (.int v9_112), .val (.ref b113), .val (.int v11_127), .unset, .unset, .unset, .unset, .unset] [(.int (v11_127 + (11 : Int32))), (.ref b113)]))
    refine own_by (fun _ k => XS.lload X170.here hx rfl (hb hby at_423) rfl k) ?_
    show own_Go _ _ _ _ (T170.setTop (mkF m 425 #[.val (.long q1), .second, .val (.int p2), .val (.int p3), .val (.ref b1), .val (.long v5_21), .second, .val (.int v7_22), .val (.int (1 : Int32)), .val (.int v9_112), .val (.ref b113), .val (.int v11_127), .unset, .unset, .unset, .unset, .unset] [(.long v5_21), (.int (v11_127 + (11 : Int32))), (.ref b113)]))
    refine own_by (fun _ k => XS.aload X170.here hx rfl (hb hby at_425) rfl rfl k) ?_
    show own_Go _ _ _ _ (T170.setTop (mkF m 427 #[.val (.long q1), .second, .val (.int p2), .val (.int p3), .val (.ref b1), .val (.long v5_21), .second, .val (.int v7_22), .val (.int (1 : Int32)), .val (.int v9_112), .val (.ref b113), .val (.int v11_127), .unset, .unset, .unset, .unset, .unset] [(.ref b1), (.long v5_21), (.int (v11_127 + (11 : Int32))), (.ref b113)]))
    refine own_by (fun _ k => XS.bipush X170.here hx rfl (hb hby at_427) k) ?_
    show own_Go _ _ _ _ (T170.setTop (mkF m 429 #[.val (.long q1), .second, .val (.int p2), .val (.int p3), .val (.ref b1), .val (.long v5_21), .second, .val (.int v7_22), .val (.int (1 : Int32)), .val (.int v9_112), .val (.ref b113), .val (.int v11_127), .unset, .unset, .unset, .unset, .unset] [(.int (6 : Int32)), (.ref b1), (.long v5_21), (.int (v11_127 + (11 : Int32))), (.ref b113)]))
    refine own_by (fun _ k => own_lal X170 hx hZ e170 f171 6 (by decide) (by decide) (hb hby at_429) k) ?_
    show own_Go _ _ _ _ (T170.setTop (mkF m 430 #[.val (.long q1), .second, .val (.int p2), .val (.int p3), .val (.ref b1), .val (.long v5_21), .second, .val (.int v7_22), .val (.int (1 : Int32)), .val (.int v9_112), .val (.ref b113), .val (.int v11_127), .unset, .unset, .unset, .unset, .unset] [(.long (own_pw 6)), (.long v5_21), (.int (v11_127 + (11 : Int32))), (.ref b113)]))
    obtain ⟨g172, hg172⟩ : ∃ z_ : Int64, (own_pw 6) = z_ := ⟨_, rfl⟩
    refine own_gen hg172 (fun z_ => T170.setTop (mkF m 430 #[.val (.long q1), .second, .val (.int p2), .val (.int p3), .val (.ref b1), .val (.long v5_21), .second, .val (.int v7_22), .val (.int (1 : Int32)), .val (.int v9_112), .val (.ref b113), .val (.int v11_127), .unset, .unset, .unset, .unset, .unset] [(.long z_), (.long v5_21), (.int (v11_127 + (11 : Int32))), (.ref b113)])) ?_
    refine own_callS X170 hx hZ hown (hw _ (List.mem_of_getElem? (i := 21) rfl)) (hw _ (List.mem_of_getElem? (i := 22) rfl)) (hw _ (List.mem_of_getElem? (i := 23) rfl)) (hw _ (List.mem_of_getElem? (i := 24) rfl)) (by decide) (rm1 l Z a0 hw [] v5_21 g172 h170 n0 Z170 (by rw [← hg172]; exact own_pwz 6 (by decide))) e170 (by rw [hml]; rfl) [(.long v5_21), (.long g172)] [(.int (v11_127 + (11 : Int32))), (.ref b113)] rfl (lenOf own_pd0 rfl) rfl 2 (Nat.le_of_eq rfl) (by decide) (by decide) (Nat.le_of_ble_eq_true rfl) (Nat.le_of_ble_eq_true rfl) (hb hby at_430) ?_
    intro T173 Lc173 v173 X173 hQ173
    obtain ⟨rfl, N173q, e173⟩ := hQ173
    have N173 := Fr.app N170 N173q
    show own_Go _ _ _ _ (T173.setTop (mkF m 433 #[.val (.long q1), .second, .val (.int p2), .val (.int p3), .val (.ref b1), .val (.long v5_21), .second, .val (.int v7_22), .val (.int (1 : Int32)), .val (.int v9_112), .val (.ref b113), .val (.int v11_127), .unset, .unset, .unset, .unset, .unset] [(.int (own_dg v5_21 g172)), (.int (v11_127 + (11 : Int32))), (.ref b113)]))
    refine own_bas X173 hx hZ e173 A170 ((F + 1) + 11) (own_addk hS (by omega) (by decide) (by decide)) (by omega) (hb hby at_433) ?_
    intro T174 h174 X174 e174 W174 A174
    have f175 := f171.other W174 ne114
    have N174 := Fr.snoc X174 N173 ge113
    have Z174 := own_size_wr W174 Z170
    obtain ⟨fn174, hfn174⟩ : ∃ g : Nat → Int32, g = own_upd fn170 ((F + 1) + 11) (nar .byte (own_dg v5_21 g172)) := ⟨_, rfl⟩
    rw [← hfn174] at A174
    show own_Go _ _ _ _ (T174.setTop (mkF m 434 #[.val (.long q1), .second, .val (.int p2), .val (.int p3), .val (.ref b1), .val (.long v5_21), .second, .val (.int v7_22), .val (.int (1 : Int32)), .val (.int v9_112), .val (.ref b113), .val (.int v11_127), .unset, .unset, .unset, .unset, .unset] []))
    refine own_by (fun _ k => XS.aload X174.here hx rfl (hb hby at_434) rfl rfl k) ?_
    show own_Go _ _ _ _ (T174.setTop (mkF m 436 #[.val (.long q1), .second, .val (.int p2), .val (.int p3), .val (.ref b1), .val (.long v5_21), .second, .val (.int v7_22), .val (.int (1 : Int32)), .val (.int v9_112), .val (.ref b113), .val (.int v11_127), .unset, .unset, .unset, .unset, .unset] [(.ref b113)]))
    refine own_by (fun _ k => XS.iload X174.here hx rfl (hb hby at_436) rfl k) ?_
    show own_Go _ _ _ _ (T174.setTop (mkF m 438 #[.val (.long q1), .second, .val (.int p2), .val (.int p3), .val (.ref b1), .val (.long v5_21), .second, .val (.int v7_22), .val (.int (1 : Int32)), .val (.int v9_112), .val (.ref b113), .val (.int v11_127), .unset, .unset, .unset, .unset, .unset] [(.int v11_127), (.ref b113)]))
    refine own_by (fun _ k => XS.bipush X174.here hx rfl (hb hby at_438) k) ?_
    show own_Go _ _ _ _ (T174.setTop (mkF m 440 #[.val (.long q1), .second, .val (.int p2), .val (.int p3), .val (.ref b1), .val (.long v5_21), .second, .val (.int v7_22), .val (.int (1 : Int32)), .val (.int v9_112), .val (.ref b113), .val (.int v11_127), .unset, .unset, .unset, .unset, .unset] [(.int (12 : Int32)), (.int v11_127), (.ref b113)]))
    refine own_by (fun _ k => XS.iadd X174.here hx rfl (hb hby at_440) rfl k) ?_
    show own_Go _ _ _ _ (T174.setTop (mkF m 441 #[.val (.long q1), .second, .val (.int p2), .val (.int p3), .val (.ref b1), .val (.long v5_21), .second, .val (.int v7_22), .val (.int (1 : Int32)), .val (.int v9_112), .val (.ref b113), .val (.int v11_127), .unset, .unset, .unset, .unset, .unset] [(.int (v11_127 + (12 : Int32))), (.ref b113)]))
    refine own_by (fun _ k => XS.lload X174.here hx rfl (hb hby at_441) rfl k) ?_
    show own_Go _ _ _ _ (T174.setTop (mkF m 443 #[.val (.long q1), .second, .val (.int p2), .val (.int p3), .val (.ref b1), .val (.long v5_21), .second, .val (.int v7_22), .val (.int (1 : Int32)), .val (.int v9_112), .val (.ref b113), .val (.int v11_127), .unset, .unset, .unset, .unset, .unset] [(.long v5_21), (.int (v11_127 + (12 : Int32))), (.ref b113)]))
    refine own_by (fun _ k => XS.aload X174.here hx rfl (hb hby at_443) rfl rfl k) ?_
    show own_Go _ _ _ _ (T174.setTop (mkF m 445 #[.val (.long q1), .second, .val (.int p2), .val (.int p3), .val (.ref b1), .val (.long v5_21), .second, .val (.int v7_22), .val (.int (1 : Int32)), .val (.int v9_112), .val (.ref b113), .val (.int v11_127), .unset, .unset, .unset, .unset, .unset] [(.ref b1), (.long v5_21), (.int (v11_127 + (12 : Int32))), (.ref b113)]))
    refine own_by (fun _ k => XS.iconst X174.here hx rfl (hb hby at_445) k) ?_
    show own_Go _ _ _ _ (T174.setTop (mkF m 446 #[.val (.long q1), .second, .val (.int p2), .val (.int p3), .val (.ref b1), .val (.long v5_21), .second, .val (.int v7_22), .val (.int (1 : Int32)), .val (.int v9_112), .val (.ref b113), .val (.int v11_127), .unset, .unset, .unset, .unset, .unset] [(.int (5 : Int32)), (.ref b1), (.long v5_21), (.int (v11_127 + (12 : Int32))), (.ref b113)]))
    refine own_by (fun _ k => own_lal X174 hx hZ e174 f175 5 (by decide) (by decide) (hb hby at_446) k) ?_
    show own_Go _ _ _ _ (T174.setTop (mkF m 447 #[.val (.long q1), .second, .val (.int p2), .val (.int p3), .val (.ref b1), .val (.long v5_21), .second, .val (.int v7_22), .val (.int (1 : Int32)), .val (.int v9_112), .val (.ref b113), .val (.int v11_127), .unset, .unset, .unset, .unset, .unset] [(.long (own_pw 5)), (.long v5_21), (.int (v11_127 + (12 : Int32))), (.ref b113)]))
    obtain ⟨g176, hg176⟩ : ∃ z_ : Int64, (own_pw 5) = z_ := ⟨_, rfl⟩
    refine own_gen hg176 (fun z_ => T174.setTop (mkF m 447 #[.val (.long q1), .second, .val (.int p2), .val (.int p3), .val (.ref b1), .val (.long v5_21), .second, .val (.int v7_22), .val (.int (1 : Int32)), .val (.int v9_112), .val (.ref b113), .val (.int v11_127), .unset, .unset, .unset, .unset, .unset] [(.long z_), (.long v5_21), (.int (v11_127 + (12 : Int32))), (.ref b113)])) ?_
    refine own_callS X174 hx hZ hown (hw _ (List.mem_of_getElem? (i := 21) rfl)) (hw _ (List.mem_of_getElem? (i := 22) rfl)) (hw _ (List.mem_of_getElem? (i := 23) rfl)) (hw _ (List.mem_of_getElem? (i := 24) rfl)) (by decide) (rm1 l Z a0 hw [] v5_21 g176 h174 n0 Z174 (by rw [← hg176]; exact own_pwz 5 (by decide))) e174 (by rw [hml]; rfl) [(.long v5_21), (.long g176)] [(.int (v11_127 + (12 : Int32))), (.ref b113)] rfl (lenOf own_pd0 rfl) rfl 2 (Nat.le_of_eq rfl) (by decide) (by decide) (Nat.le_of_ble_eq_true rfl) (Nat.le_of_ble_eq_true rfl) (hb hby at_447) ?_
    intro T177 Lc177 v177 X177 hQ177
    obtain ⟨rfl, N177q, e177⟩ := hQ177
    have N177 := Fr.app N174 N177q
    show own_Go _ _ _ _ (T177.setTop (mkF m 450 #[.val (.long q1), .second, .val (.int p2), .val (.int p3), .val (.ref b1), .val (.long v5_21), .second, .val (.int v7_22), .val (.int (1 : Int32)), .val (.int v9_112), .val (.ref b113), .val (.int v11_127), .unset, .unset, .unset, .unset, .unset] [(.int (own_dg v5_21 g176)), (.int (v11_127 + (12 : Int32))), (.ref b113)]))
    refine own_bas X177 hx hZ e177 A174 ((F + 1) + 12) (own_addk hS (by omega) (by decide) (by decide)) (by omega) (hb hby at_450) ?_
    intro T178 h178 X178 e178 W178 A178
    have f179 := f175.other W178 ne114
    have N178 := Fr.snoc X178 N177 ge113
    have Z178 := own_size_wr W178 Z174
    obtain ⟨fn178, hfn178⟩ : ∃ g : Nat → Int32, g = own_upd fn174 ((F + 1) + 12) (nar .byte (own_dg v5_21 g176)) := ⟨_, rfl⟩
    rw [← hfn178] at A178
    show own_Go _ _ _ _ (T178.setTop (mkF m 451 #[.val (.long q1), .second, .val (.int p2), .val (.int p3), .val (.ref b1), .val (.long v5_21), .second, .val (.int v7_22), .val (.int (1 : Int32)), .val (.int v9_112), .val (.ref b113), .val (.int v11_127), .unset, .unset, .unset, .unset, .unset] []))
    refine own_by (fun _ k => XS.aload X178.here hx rfl (hb hby at_451) rfl rfl k) ?_
    show own_Go _ _ _ _ (T178.setTop (mkF m 453 #[.val (.long q1), .second, .val (.int p2), .val (.int p3), .val (.ref b1), .val (.long v5_21), .second, .val (.int v7_22), .val (.int (1 : Int32)), .val (.int v9_112), .val (.ref b113), .val (.int v11_127), .unset, .unset, .unset, .unset, .unset] [(.ref b113)]))
    refine own_by (fun _ k => XS.iload X178.here hx rfl (hb hby at_453) rfl k) ?_
    show own_Go _ _ _ _ (T178.setTop (mkF m 455 #[.val (.long q1), .second, .val (.int p2), .val (.int p3), .val (.ref b1), .val (.long v5_21), .second, .val (.int v7_22), .val (.int (1 : Int32)), .val (.int v9_112), .val (.ref b113), .val (.int v11_127), .unset, .unset, .unset, .unset, .unset] [(.int v11_127), (.ref b113)]))
    refine own_by (fun _ k => XS.bipush X178.here hx rfl (hb hby at_455) k) ?_
    show own_Go _ _ _ _ (T178.setTop (mkF m 457 #[.val (.long q1), .second, .val (.int p2), .val (.int p3), .val (.ref b1), .val (.long v5_21), .second, .val (.int v7_22), .val (.int (1 : Int32)), .val (.int v9_112), .val (.ref b113), .val (.int v11_127), .unset, .unset, .unset, .unset, .unset] [(.int (13 : Int32)), (.int v11_127), (.ref b113)]))
    refine own_by (fun _ k => XS.iadd X178.here hx rfl (hb hby at_457) rfl k) ?_
    show own_Go _ _ _ _ (T178.setTop (mkF m 458 #[.val (.long q1), .second, .val (.int p2), .val (.int p3), .val (.ref b1), .val (.long v5_21), .second, .val (.int v7_22), .val (.int (1 : Int32)), .val (.int v9_112), .val (.ref b113), .val (.int v11_127), .unset, .unset, .unset, .unset, .unset] [(.int (v11_127 + (13 : Int32))), (.ref b113)]))
    refine own_by (fun _ k => XS.lload X178.here hx rfl (hb hby at_458) rfl k) ?_
    show own_Go _ _ _ _ (T178.setTop (mkF m 460 #[.val (.long q1), .second, .val (.int p2), .val (.int p3), .val (.ref b1), .val (.long v5_21), .second, .val (.int v7_22), .val (.int (1 : Int32)), .val (.int v9_112), .val (.ref b113), .val (.int v11_127), .unset, .unset, .unset, .unset, .unset] [(.long v5_21), (.int (v11_127 + (13 : Int32))), (.ref b113)]))
    refine own_by (fun _ k => XS.aload X178.here hx rfl (hb hby at_460) rfl rfl k) ?_
    show own_Go _ _ _ _ (T178.setTop (mkF m 462 #[.val (.long q1), .second, .val (.int p2), .val (.int p3), .val (.ref b1), .val (.long v5_21), .second, .val (.int v7_22), .val (.int (1 : Int32)), .val (.int v9_112), .val (.ref b113), .val (.int v11_127), .unset, .unset, .unset, .unset, .unset] [(.ref b1), (.long v5_21), (.int (v11_127 + (13 : Int32))), (.ref b113)]))
    refine own_by (fun _ k => XS.iconst X178.here hx rfl (hb hby at_462) k) ?_
    show own_Go _ _ _ _ (T178.setTop (mkF m 463 #[.val (.long q1), .second, .val (.int p2), .val (.int p3), .val (.ref b1), .val (.long v5_21), .second, .val (.int v7_22), .val (.int (1 : Int32)), .val (.int v9_112), .val (.ref b113), .val (.int v11_127), .unset, .unset, .unset, .unset, .unset] [(.int (4 : Int32)), (.ref b1), (.long v5_21), (.int (v11_127 + (13 : Int32))), (.ref b113)]))
    refine own_by (fun _ k => own_lal X178 hx hZ e178 f179 4 (by decide) (by decide) (hb hby at_463) k) ?_
    show own_Go _ _ _ _ (T178.setTop (mkF m 464 #[.val (.long q1), .second, .val (.int p2), .val (.int p3), .val (.ref b1), .val (.long v5_21), .second, .val (.int v7_22), .val (.int (1 : Int32)), .val (.int v9_112), .val (.ref b113), .val (.int v11_127), .unset, .unset, .unset, .unset, .unset] [(.long (own_pw 4)), (.long v5_21), (.int (v11_127 + (13 : Int32))), (.ref b113)]))
    obtain ⟨g180, hg180⟩ : ∃ z_ : Int64, (own_pw 4) = z_ := ⟨_, rfl⟩
    refine own_gen hg180 (fun z_ => T178.setTop (mkF m 464 #[.val (.long q1), .second, .val (.int p2), .val (.int p3), .val (.ref b1), .val (.long v5_21), .second, .val (.int v7_22), .val (.int (1 : Int32)), .val (.int v9_112), .val (.ref b113), .val (.int v11_127), .unset, .unset, .unset, .unset, .unset] [(.long z_), (.long v5_21), (.int (v11_127 + (13 : Int32))), (.ref b113)])) ?_
    refine own_callS X178 hx hZ hown (hw _ (List.mem_of_getElem? (i := 21) rfl)) (hw _ (List.mem_of_getElem? (i := 22) rfl)) (hw _ (List.mem_of_getElem? (i := 23) rfl)) (hw _ (List.mem_of_getElem? (i := 24) rfl)) (by decide) (rm1 l Z a0 hw [] v5_21 g180 h178 n0 Z178 (by rw [← hg180]; exact own_pwz 4 (by decide))) e178 (by rw [hml]; rfl) [(.long v5_21), (.long g180)] [(.int (v11_127 + (13 : Int32))), (.ref b113)] rfl (lenOf own_pd0 rfl) rfl 2 (Nat.le_of_eq rfl) (by decide) (by decide) (Nat.le_of_ble_eq_true rfl) (Nat.le_of_ble_eq_true rfl) (hb hby at_464) ?_
    intro T181 Lc181 v181 X181 hQ181
    obtain ⟨rfl, N181q, e181⟩ := hQ181
    have N181 := Fr.app N178 N181q
    show own_Go _ _ _ _ (T181.setTop (mkF m 467 #[.val (.long q1), .second, .val (.int p2), .val (.int p3), .val (.ref b1), .val (.long v5_21), .second, .val (.int v7_22), .val (.int (1 : Int32)), .val (.int v9_112), .val (.ref b113), .val (.int v11_127), .unset, .unset, .unset, .unset, .unset] [(.int (own_dg v5_21 g180)), (.int (v11_127 + (13 : Int32))), (.ref b113)]))
    refine own_bas X181 hx hZ e181 A178 ((F + 1) + 13) (own_addk hS (by omega) (by decide) (by decide)) (by omega) (hb hby at_467) ?_
    intro T182 h182 X182 e182 W182 A182
    have f183 := f179.other W182 ne114
    have N182 := Fr.snoc X182 N181 ge113
    have Z182 := own_size_wr W182 Z178
    obtain ⟨fn182, hfn182⟩ : ∃ g : Nat → Int32, g = own_upd fn178 ((F + 1) + 13) (nar .byte (own_dg v5_21 g180)) := ⟨_, rfl⟩
    rw [← hfn182] at A182
    show own_Go _ _ _ _ (T182.setTop (mkF m 468 #[.val (.long q1), .second, .val (.int p2), .val (.int p3), .val (.ref b1), .val (.long v5_21), .second, .val (.int v7_22), .val (.int (1 : Int32)), .val (.int v9_112), .val (.ref b113), .val (.int v11_127), .unset, .unset, .unset, .unset, .unset] []))
    refine own_by (fun _ k => XS.aload X182.here hx rfl (hb hby at_468) rfl rfl k) ?_
    show own_Go _ _ _ _ (T182.setTop (mkF m 470 #[.val (.long q1), .second, .val (.int p2), .val (.int p3), .val (.ref b1), .val (.long v5_21), .second, .val (.int v7_22), .val (.int (1 : Int32)), .val (.int v9_112), .val (.ref b113), .val (.int v11_127), .unset, .unset, .unset, .unset, .unset] [(.ref b113)]))
    refine own_by (fun _ k => XS.iload X182.here hx rfl (hb hby at_470) rfl k) ?_
    show own_Go _ _ _ _ (T182.setTop (mkF m 472 #[.val (.long q1), .second, .val (.int p2), .val (.int p3), .val (.ref b1), .val (.long v5_21), .second, .val (.int v7_22), .val (.int (1 : Int32)), .val (.int v9_112), .val (.ref b113), .val (.int v11_127), .unset, .unset, .unset, .unset, .unset] [(.int v11_127), (.ref b113)]))
    refine own_by (fun _ k => XS.bipush X182.here hx rfl (hb hby at_472) k) ?_
    show own_Go _ _ _ _ (T182.setTop (mkF m 474 #[.val (.long q1), .second, .val (.int p2), .val (.int p3), .val (.ref b1), .val (.long v5_21), .second, .val (.int v7_22), .val (.int (1 : Int32)), .val (.int v9_112), .val (.ref b113), .val (.int v11_127), .unset, .unset, .unset, .unset, .unset] [(.int (14 : Int32)), (.int v11_127), (.ref b113)]))
    refine own_by (fun _ k => XS.iadd X182.here hx rfl (hb hby at_474) rfl k) ?_
    show own_Go _ _ _ _ (T182.setTop (mkF m 475 #[.val (.long q1), .second, .val (.int p2), .val (.int p3), .val (.ref b1), .val (.long v5_21), .second, .val (.int v7_22), .val (.int (1 : Int32)), .val (.int v9_112), .val (.ref b113), .val (.int v11_127), .unset, .unset, .unset, .unset, .unset] [(.int (v11_127 + (14 : Int32))), (.ref b113)]))
    refine own_by (fun _ k => XS.lload X182.here hx rfl (hb hby at_475) rfl k) ?_
    show own_Go _ _ _ _ (T182.setTop (mkF m 477 #[.val (.long q1), .second, .val (.int p2), .val (.int p3), .val (.ref b1), .val (.long v5_21), .second, .val (.int v7_22), .val (.int (1 : Int32)), .val (.int v9_112), .val (.ref b113), .val (.int v11_127), .unset, .unset, .unset, .unset, .unset] [(.long v5_21), (.int (v11_127 + (14 : Int32))), (.ref b113)]))
    refine own_by (fun _ k => XS.aload X182.here hx rfl (hb hby at_477) rfl rfl k) ?_
    show own_Go _ _ _ _ (T182.setTop (mkF m 479 #[.val (.long q1), .second, .val (.int p2), .val (.int p3), .val (.ref b1), .val (.long v5_21), .second, .val (.int v7_22), .val (.int (1 : Int32)), .val (.int v9_112), .val (.ref b113), .val (.int v11_127), .unset, .unset, .unset, .unset, .unset] [(.ref b1), (.long v5_21), (.int (v11_127 + (14 : Int32))), (.ref b113)]))
    refine own_by (fun _ k => XS.iconst X182.here hx rfl (hb hby at_479) k) ?_
    show own_Go _ _ _ _ (T182.setTop (mkF m 480 #[.val (.long q1), .second, .val (.int p2), .val (.int p3), .val (.ref b1), .val (.long v5_21), .second, .val (.int v7_22), .val (.int (1 : Int32)), .val (.int v9_112), .val (.ref b113), .val (.int v11_127), .unset, .unset, .unset, .unset, .unset] [(.int (3 : Int32)), (.ref b1), (.long v5_21), (.int (v11_127 + (14 : Int32))), (.ref b113)]))
    refine own_by (fun _ k => own_lal X182 hx hZ e182 f183 3 (by decide) (by decide) (hb hby at_480) k) ?_
    show own_Go _ _ _ _ (T182.setTop (mkF m 481 #[.val (.long q1), .second, .val (.int p2), .val (.int p3), .val (.ref b1), .val (.long v5_21), .second, .val (.int v7_22), .val (.int (1 : Int32)), .val (.int v9_112), .val (.ref b113), .val (.int v11_127), .unset, .unset, .unset, .unset, .unset] [(.long (own_pw 3)), (.long v5_21), (.int (v11_127 + (14 : Int32))), (.ref b113)]))
    obtain ⟨g184, hg184⟩ : ∃ z_ : Int64, (own_pw 3) = z_ := ⟨_, rfl⟩
    refine own_gen hg184 (fun z_ => T182.setTop (mkF m 481 #[.val (.long q1), .second, .val (.int p2), .val (.int p3), .val (.ref b1), .val (.long v5_21), .second, .val (.int v7_22), .val (.int (1 : Int32)), .val (.int v9_112), .val (.ref b113), .val (.int v11_127), .unset, .unset, .unset, .unset, .unset] [(.long z_), (.long v5_21), (.int (v11_127 + (14 : Int32))), (.ref b113)])) ?_
    refine own_callS X182 hx hZ hown (hw _ (List.mem_of_getElem? (i := 21) rfl)) (hw _ (List.mem_of_getElem? (i := 22) rfl)) (hw _ (List.mem_of_getElem? (i := 23) rfl)) (hw _ (List.mem_of_getElem? (i := 24) rfl)) (by decide) (rm1 l Z a0 hw [] v5_21 g184 h182 n0 Z182 (by rw [← hg184]; exact own_pwz 3 (by decide))) e182 (by rw [hml]; rfl) [(.long v5_21), (.long g184)] [(.int (v11_127 + (14 : Int32))), (.ref b113)] rfl (lenOf own_pd0 rfl) rfl 2 (Nat.le_of_eq rfl) (by decide) (by decide) (Nat.le_of_ble_eq_true rfl) (Nat.le_of_ble_eq_true rfl) (hb hby at_481) ?_
    intro T185 Lc185 v185 X185 hQ185
    obtain ⟨rfl, N185q, e185⟩ := hQ185
    have N185 := Fr.app N182 N185q
    show own_Go _ _ _ _ (T185.setTop (mkF m 484 #[.val (.long q1), .second, .val (.int p2), .val (.int p3), .val (.ref b1), .val (.long v5_21), .second, .val (.int v7_22), .val (.int (1 : Int32)), .val (.int v9_112), .val (.ref b113), .val (.int v11_127), .unset, .unset, .unset, .unset, .unset] [(.int (own_dg v5_21 g184)), (.int (v11_127 + (14 : Int32))), (.ref b113)]))
    refine own_bas X185 hx hZ e185 A182 ((F + 1) + 14) (own_addk hS (by omega) (by decide) (by decide)) (by omega) (hb hby at_484) ?_
    intro T186 h186 X186 e186 W186 A186
    have f187 := f183.other W186 ne114
    have N186 := Fr.snoc X186 N185 ge113
    have Z186 := own_size_wr W186 Z182
    obtain ⟨fn186, hfn186⟩ : ∃ g : Nat → Int32, g = own_upd fn182 ((F + 1) + 14) (nar .byte (own_dg v5_21 g184)) := ⟨_, rfl⟩
    rw [← hfn186] at A186
    show own_Go _ _ _ _ (T186.setTop (mkF m 485 #[.val (.long q1), .second, .val (.int p2), .val (.int p3), .val (.ref b1), .val (.long v5_21), .second, .val (.int v7_22), .val (.int (1 : Int32)), .val (.int v9_112), .val (.ref b113), .val (.int v11_127), .unset, .unset, .unset, .unset, .unset] []))
    refine own_by (fun _ k => XS.aload X186.here hx rfl (hb hby at_485) rfl rfl k) ?_
    show own_Go _ _ _ _ (T186.setTop (mkF m 487 #[.val (.long q1), .second, .val (.int p2), .val (.int p3), .val (.ref b1), .val (.long v5_21), .second, .val (.int v7_22), .val (.int (1 : Int32)), .val (.int v9_112), .val (.ref b113), .val (.int v11_127), .unset, .unset, .unset, .unset, .unset] [(.ref b113)]))
    refine own_by (fun _ k => XS.iload X186.here hx rfl (hb hby at_487) rfl k) ?_
    show own_Go _ _ _ _ (T186.setTop (mkF m 489 #[.val (.long q1), .second, .val (.int p2), .val (.int p3), .val (.ref b1), .val (.long v5_21), .second, .val (.int v7_22), .val (.int (1 : Int32)), .val (.int v9_112), .val (.ref b113), .val (.int v11_127), .unset, .unset, .unset, .unset, .unset] [(.int v11_127), (.ref b113)]))
    refine own_by (fun _ k => XS.bipush X186.here hx rfl (hb hby at_489) k) ?_
    show own_Go _ _ _ _ (T186.setTop (mkF m 491 #[.val (.long q1), .second, .val (.int p2), .val (.int p3), .val (.ref b1), .val (.long v5_21), .second, .val (.int v7_22), .val (.int (1 : Int32)), .val (.int v9_112), .val (.ref b113), .val (.int v11_127), .unset, .unset, .unset, .unset, .unset] [(.int (15 : Int32)), (.int v11_127), (.ref b113)]))
    refine own_by (fun _ k => XS.iadd X186.here hx rfl (hb hby at_491) rfl k) ?_
    show own_Go _ _ _ _ (T186.setTop (mkF m 492 #[.val (.long q1), .second, .val (.int p2), .val (.int p3), .val (.ref b1), .val (.long v5_21), .second, .val (.int v7_22), .val (.int (1 : Int32)), .val (.int v9_112), .val (.ref b113), .val (.int v11_127), .unset, .unset, .unset, .unset, .unset] [(.int (v11_127 + (15 : Int32))), (.ref b113)]))
    refine own_by (fun _ k => XS.lload X186.here hx rfl (hb hby at_492) rfl k) ?_
    show own_Go _ _ _ _ (T186.setTop (mkF m 494 #[.val (.long q1), .second, .val (.int p2), .val (.int p3), .val (.ref b1), .val (.long v5_21), .second, .val (.int v7_22), .val (.int (1 : Int32)), .val (.int v9_112), .val (.ref b113), .val (.int v11_127), .unset, .unset, .unset, .unset, .unset] [(.long v5_21), (.int (v11_127 + (15 : Int32))), (.ref b113)]))
    refine own_by (fun _ k => XS.aload X186.here hx rfl (hb hby at_494) rfl rfl k) ?_
    show own_Go _ _ _ _ (T186.setTop (mkF m 496 #[.val (.long q1), .second, .val (.int p2), .val (.int p3), .val (.ref b1), .val (.long v5_21), .second, .val (.int v7_22), .val (.int (1 : Int32)), .val (.int v9_112), .val (.ref b113), .val (.int v11_127), .unset, .unset, .unset, .unset, .unset] [(.ref b1), (.long v5_21), (.int (v11_127 + (15 : Int32))), (.ref b113)]))
    refine own_by (fun _ k => XS.iconst X186.here hx rfl (hb hby at_496) k) ?_
    show own_Go _ _ _ _ (T186.setTop (mkF m 497 #[.val (.long q1), .second, .val (.int p2), .val (.int p3), .val (.ref b1), .val (.long v5_21), .second, .val (.int v7_22), .val (.int (1 : Int32)), .val (.int v9_112), .val (.ref b113), .val (.int v11_127), .unset, .unset, .unset, .unset, .unset] [(.int (2 : Int32)), (.ref b1), (.long v5_21), (.int (v11_127 + (15 : Int32))), (.ref b113)]))
    refine own_by (fun _ k => own_lal X186 hx hZ e186 f187 2 (by decide) (by decide) (hb hby at_497) k) ?_
    show own_Go _ _ _ _ (T186.setTop (mkF m 498 #[.val (.long q1), .second, .val (.int p2), .val (.int p3), .val (.ref b1), .val (.long v5_21), .second, .val (.int v7_22), .val (.int (1 : Int32)), .val (.int v9_112), .val (.ref b113), .val (.int v11_127), .unset, .unset, .unset, .unset, .unset] [(.long (own_pw 2)), (.long v5_21), (.int (v11_127 + (15 : Int32))), (.ref b113)]))
    obtain ⟨g188, hg188⟩ : ∃ z_ : Int64, (own_pw 2) = z_ := ⟨_, rfl⟩
    refine own_gen hg188 (fun z_ => T186.setTop (mkF m 498 #[.val (.long q1), .second, .val (.int p2), .val (.int p3), .val (.ref b1), .val (.long v5_21), .second, .val (.int v7_22), .val (.int (1 : Int32)), .val (.int v9_112), .val (.ref b113), .val (.int v11_127), .unset, .unset, .unset, .unset, .unset] [(.long z_), (.long v5_21), (.int (v11_127 + (15 : Int32))), (.ref b113)])) ?_
    refine own_callS X186 hx hZ hown (hw _ (List.mem_of_getElem? (i := 21) rfl)) (hw _ (List.mem_of_getElem? (i := 22) rfl)) (hw _ (List.mem_of_getElem? (i := 23) rfl)) (hw _ (List.mem_of_getElem? (i := 24) rfl)) (by decide) (rm1 l Z a0 hw [] v5_21 g188 h186 n0 Z186 (by rw [← hg188]; exact own_pwz 2 (by decide))) e186 (by rw [hml]; rfl) [(.long v5_21), (.long g188)] [(.int (v11_127 + (15 : Int32))), (.ref b113)] rfl (lenOf own_pd0 rfl) rfl 2 (Nat.le_of_eq rfl) (by decide) (by decide) (Nat.le_of_ble_eq_true rfl) (Nat.le_of_ble_eq_true rfl) (hb hby at_498) ?_
    intro T189 Lc189 v189 X189 hQ189
    obtain ⟨rfl, N189q, e189⟩ := hQ189
    have N189 := Fr.app N186 N189q
    show own_Go _ _ _ _ (T189.setTop (mkF m 501 #[.val (.long q1), .second, .val (.int p2), .val (.int p3), .val (.ref b1), .val (.long v5_21), .second, .val (.int v7_22), .val (.int (1 : Int32)), .val (.int v9_112), .val (.ref b113), .val (.int v11_127), .unset, .unset, .unset, .unset, .unset] [(.int (own_dg v5_21 g188)), (.int (v11_127 + (15 : Int32))), (.ref b113)]))
    refine own_bas X189 hx hZ e189 A186 ((F + 1) + 15) (own_addk hS (by omega) (by decide) (by decide)) (by omega) (hb hby at_501) ?_
    intro T190 h190 X190 e190 W190 A190
    have f191 := f187.other W190 ne114
    have N190 := Fr.snoc X190 N189 ge113
    have Z190 := own_size_wr W190 Z186
    obtain ⟨fn190, hfn190⟩ : ∃ g : Nat → Int32, g = own_upd fn186 ((F + 1) + 15) (nar .byte (own_dg v5_21 g188)) := ⟨_, rfl⟩
    rw [← hfn190] at A190
    show own_Go _ _ _ _ (T190.setTop (mkF m 502 #[.val (.long q1), .second, .val (.int p2), .val (.int p3), .val (.ref b1), .val (.long v5_21), .second, .val (.int v7_22), .val (.int (1 : Int32)), .val (.int v9_112), .val (.ref b113), .val (.int v11_127), .unset, .unset, .unset, .unset, .unset] []))
    refine own_by (fun _ k => XS.aload X190.here hx rfl (hb hby at_502) rfl rfl k) ?_
    show own_Go _ _ _ _ (T190.setTop (mkF m 504 #[.val (.long q1), .second, .val (.int p2), .val (.int p3), .val (.ref b1), .val (.long v5_21), .second, .val (.int v7_22), .val (.int (1 : Int32)), .val (.int v9_112), .val (.ref b113), .val (.int v11_127), .unset, .unset, .unset, .unset, .unset] [(.ref b113)]))
    refine own_by (fun _ k => XS.iload X190.here hx rfl (hb hby at_504) rfl k) ?_
    show own_Go _ _ _ _ (T190.setTop (mkF m 506 #[.val (.long q1), .second, .val (.int p2), .val (.int p3), .val (.ref b1), .val (.long v5_21), .second, .val (.int v7_22), .val (.int (1 : Int32)), .val (.int v9_112), .val (.ref b113), .val (.int v11_127), .unset, .unset, .unset, .unset, .unset] [(.int v11_127), (.ref b113)]))
    refine own_by (fun _ k => XS.bipush X190.here hx rfl (hb hby at_506) k) ?_
    show own_Go _ _ _ _ (T190.setTop (mkF m 508 #[.val (.long q1), .second, .val (.int p2), .val (.int p3), .val (.ref b1), .val (.long v5_21), .second, .val (.int v7_22), .val (.int (1 : Int32)), .val (.int v9_112), .val (.ref b113), .val (.int v11_127), .unset, .unset, .unset, .unset, .unset] [(.int (16 : Int32)), (.int v11_127), (.ref b113)]))
    refine own_by (fun _ k => XS.iadd X190.here hx rfl (hb hby at_508) rfl k) ?_
    show own_Go _ _ _ _ (T190.setTop (mkF m 509 #[.val (.long q1), .second, .val (.int p2), .val (.int p3), .val (.ref b1), .val (.long v5_21), .second, .val (.int v7_22), .val (.int (1 : Int32)), .val (.int v9_112), .val (.ref b113), .val (.int v11_127), .unset, .unset, .unset, .unset, .unset] [(.int (v11_127 + (16 : Int32))), (.ref b113)]))
    refine own_by (fun _ k => XS.lload X190.here hx rfl (hb hby at_509) rfl k) ?_
    show own_Go _ _ _ _ (T190.setTop (mkF m 511 #[.val (.long q1), .second, .val (.int p2), .val (.int p3), .val (.ref b1), .val (.long v5_21), .second, .val (.int v7_22), .val (.int (1 : Int32)), .val (.int v9_112), .val (.ref b113), .val (.int v11_127), .unset, .unset, .unset, .unset, .unset] [(.long v5_21), (.int (v11_127 + (16 : Int32))), (.ref b113)]))
    refine own_by (fun _ k => XS.aload X190.here hx rfl (hb hby at_511) rfl rfl k) ?_
    show own_Go _ _ _ _ (T190.setTop (mkF m 513 #[.val (.long q1), .second, .val (.int p2), .val (.int p3), .val (.ref b1), .val (.long v5_21), .second, .val (.int v7_22), .val (.int (1 : Int32)), .val (.int v9_112), .val (.ref b113), .val (.int v11_127), .unset, .unset, .unset, .unset, .unset] [(.ref b1), (.long v5_21), (.int (v11_127 + (16 : Int32))), (.ref b113)]))
    refine own_by (fun _ k => XS.iconst X190.here hx rfl (hb hby at_513) k) ?_
    show own_Go _ _ _ _ (T190.setTop (mkF m 514 #[.val (.long q1), .second, .val (.int p2), .val (.int p3), .val (.ref b1), .val (.long v5_21), .second, .val (.int v7_22), .val (.int (1 : Int32)), .val (.int v9_112), .val (.ref b113), .val (.int v11_127), .unset, .unset, .unset, .unset, .unset] [(.int (1 : Int32)), (.ref b1), (.long v5_21), (.int (v11_127 + (16 : Int32))), (.ref b113)]))
    refine own_by (fun _ k => own_lal X190 hx hZ e190 f191 1 (by decide) (by decide) (hb hby at_514) k) ?_
    show own_Go _ _ _ _ (T190.setTop (mkF m 515 #[.val (.long q1), .second, .val (.int p2), .val (.int p3), .val (.ref b1), .val (.long v5_21), .second, .val (.int v7_22), .val (.int (1 : Int32)), .val (.int v9_112), .val (.ref b113), .val (.int v11_127), .unset, .unset, .unset, .unset, .unset] [(.long (own_pw 1)), (.long v5_21), (.int (v11_127 + (16 : Int32))), (.ref b113)]))
    obtain ⟨g192, hg192⟩ : ∃ z_ : Int64, (own_pw 1) = z_ := ⟨_, rfl⟩
    refine own_gen hg192 (fun z_ => T190.setTop (mkF m 515 #[.val (.long q1), .second, .val (.int p2), .val (.int p3), .val (.ref b1), .val (.long v5_21), .second, .val (.int v7_22), .val (.int (1 : Int32)), .val (.int v9_112), .val (.ref b113), .val (.int v11_127), .unset, .unset, .unset, .unset, .unset] [(.long z_), (.long v5_21), (.int (v11_127 + (16 : Int32))), (.ref b113)])) ?_
    refine own_callS X190 hx hZ hown (hw _ (List.mem_of_getElem? (i := 21) rfl)) (hw _ (List.mem_of_getElem? (i := 22) rfl)) (hw _ (List.mem_of_getElem? (i := 23) rfl)) (hw _ (List.mem_of_getElem? (i := 24) rfl)) (by decide) (rm1 l Z a0 hw [] v5_21 g192 h190 n0 Z190 (by rw [← hg192]; exact own_pwz 1 (by decide))) e190 (by rw [hml]; rfl) [(.long v5_21), (.long g192)] [(.int (v11_127 + (16 : Int32))), (.ref b113)] rfl (lenOf own_pd0 rfl) rfl 2 (Nat.le_of_eq rfl) (by decide) (by decide) (Nat.le_of_ble_eq_true rfl) (Nat.le_of_ble_eq_true rfl) (hb hby at_515) ?_
    intro T193 Lc193 v193 X193 hQ193
    obtain ⟨rfl, N193q, e193⟩ := hQ193
    have N193 := Fr.app N190 N193q
    show own_Go _ _ _ _ (T193.setTop (mkF m 518 #[.val (.long q1), .second, .val (.int p2), .val (.int p3), .val (.ref b1), .val (.long v5_21), .second, .val (.int v7_22), .val (.int (1 : Int32)), .val (.int v9_112), .val (.ref b113), .val (.int v11_127), .unset, .unset, .unset, .unset, .unset] [(.int (own_dg v5_21 g192)), (.int (v11_127 + (16 : Int32))), (.ref b113)]))
    refine own_bas X193 hx hZ e193 A190 ((F + 1) + 16) (own_addk hS (by omega) (by decide) (by decide)) (by omega) (hb hby at_518) ?_
    intro T194 h194 X194 e194 W194 A194
    have f195 := f191.other W194 ne114
    have N194 := Fr.snoc X194 N193 ge113
    have Z194 := own_size_wr W194 Z190
    obtain ⟨fn194, hfn194⟩ : ∃ g : Nat → Int32, g = own_upd fn190 ((F + 1) + 16) (nar .byte (own_dg v5_21 g192)) := ⟨_, rfl⟩
    rw [← hfn194] at A194
    show own_Go _ _ _ _ (T194.setTop (mkF m 519 #[.val (.long q1), .second, .val (.int p2), .val (.int p3), .val (.ref b1), .val (.long v5_21), .second, .val (.int v7_22), .val (.int (1 : Int32)), .val (.int v9_112), .val (.ref b113), .val (.int v11_127), .unset, .unset, .unset, .unset, .unset] []))
    refine own_by (fun _ k => XS.aload X194.here hx rfl (hb hby at_519) rfl rfl k) ?_
    show own_Go _ _ _ _ (T194.setTop (mkF m 521 #[.val (.long q1), .second, .val (.int p2), .val (.int p3), .val (.ref b1), .val (.long v5_21), .second, .val (.int v7_22), .val (.int (1 : Int32)), .val (.int v9_112), .val (.ref b113), .val (.int v11_127), .unset, .unset, .unset, .unset, .unset] [(.ref b113)]))
    refine own_by (fun _ k => XS.iload X194.here hx rfl (hb hby at_521) rfl k) ?_
    show own_Go _ _ _ _ (T194.setTop (mkF m 523 #[.val (.long q1), .second, .val (.int p2), .val (.int p3), .val (.ref b1), .val (.long v5_21), .second, .val (.int v7_22), .val (.int (1 : Int32)), .val (.int v9_112), .val (.ref b113), .val (.int v11_127), .unset, .unset, .unset, .unset, .unset] [(.int v11_127), (.ref b113)]))
    refine own_by (fun _ k => XS.bipush X194.here hx rfl (hb hby at_523) k) ?_
    show own_Go _ _ _ _ (T194.setTop (mkF m 525 #[.val (.long q1), .second, .val (.int p2), .val (.int p3), .val (.ref b1), .val (.long v5_21), .second, .val (.int v7_22), .val (.int (1 : Int32)), .val (.int v9_112), .val (.ref b113), .val (.int v11_127), .unset, .unset, .unset, .unset, .unset] [(.int (17 : Int32)), (.int v11_127), (.ref b113)]))
    refine own_by (fun _ k => XS.iadd X194.here hx rfl (hb hby at_525) rfl k) ?_
    show own_Go _ _ _ _ (T194.setTop (mkF m 526 #[.val (.long q1), .second, .val (.int p2), .val (.int p3), .val (.ref b1), .val (.long v5_21), .second, .val (.int v7_22), .val (.int (1 : Int32)), .val (.int v9_112), .val (.ref b113), .val (.int v11_127), .unset, .unset, .unset, .unset, .unset] [(.int (v11_127 + (17 : Int32))), (.ref b113)]))
    refine own_by (fun _ k => XS.lload X194.here hx rfl (hb hby at_526) rfl k) ?_
    show own_Go _ _ _ _ (T194.setTop (mkF m 528 #[.val (.long q1), .second, .val (.int p2), .val (.int p3), .val (.ref b1), .val (.long v5_21), .second, .val (.int v7_22), .val (.int (1 : Int32)), .val (.int v9_112), .val (.ref b113), .val (.int v11_127), .unset, .unset, .unset, .unset, .unset] [(.long v5_21), (.int (v11_127 + (17 : Int32))), (.ref b113)]))
    refine own_by (fun _ k => XS.aload X194.here hx rfl (hb hby at_528) rfl rfl k) ?_
    show own_Go _ _ _ _ (T194.setTop (mkF m 530 #[.val (.long q1), .second, .val (.int p2), .val (.int p3), .val (.ref b1), .val (.long v5_21), .second, .val (.int v7_22), .val (.int (1 : Int32)), .val (.int v9_112), .val (.ref b113), .val (.int v11_127), .unset, .unset, .unset, .unset, .unset] [(.ref b1), (.long v5_21), (.int (v11_127 + (17 : Int32))), (.ref b113)]))
    refine own_by (fun _ k => XS.iconst X194.here hx rfl (hb hby at_530) k) ?_
    show own_Go _ _ _ _ (T194.setTop (mkF m 531 #[.val (.long q1), .second, .val (.int p2), .val (.int p3), .val (.ref b1), .val (.long v5_21), .second, .val (.int v7_22), .val (.int (1 : Int32)), .val (.int v9_112), .val (.ref b113), .val (.int v11_127), .unset, .unset, .unset, .unset, .unset] [(.int (0 : Int32)), (.ref b1), (.long v5_21), (.int (v11_127 + (17 : Int32))), (.ref b113)]))
    refine own_by (fun _ k => own_lal X194 hx hZ e194 f195 0 (by decide) (by decide) (hb hby at_531) k) ?_
    show own_Go _ _ _ _ (T194.setTop (mkF m 532 #[.val (.long q1), .second, .val (.int p2), .val (.int p3), .val (.ref b1), .val (.long v5_21), .second, .val (.int v7_22), .val (.int (1 : Int32)), .val (.int v9_112), .val (.ref b113), .val (.int v11_127), .unset, .unset, .unset, .unset, .unset] [(.long (own_pw 0)), (.long v5_21), (.int (v11_127 + (17 : Int32))), (.ref b113)]))
    obtain ⟨g196, hg196⟩ : ∃ z_ : Int64, (own_pw 0) = z_ := ⟨_, rfl⟩
    refine own_gen hg196 (fun z_ => T194.setTop (mkF m 532 #[.val (.long q1), .second, .val (.int p2), .val (.int p3), .val (.ref b1), .val (.long v5_21), .second, .val (.int v7_22), .val (.int (1 : Int32)), .val (.int v9_112), .val (.ref b113), .val (.int v11_127), .unset, .unset, .unset, .unset, .unset] [(.long z_), (.long v5_21), (.int (v11_127 + (17 : Int32))), (.ref b113)])) ?_
    refine own_callS X194 hx hZ hown (hw _ (List.mem_of_getElem? (i := 21) rfl)) (hw _ (List.mem_of_getElem? (i := 22) rfl)) (hw _ (List.mem_of_getElem? (i := 23) rfl)) (hw _ (List.mem_of_getElem? (i := 24) rfl)) (by decide) (rm1 l Z a0 hw [] v5_21 g196 h194 n0 Z194 (by rw [← hg196]; exact own_pwz 0 (by decide))) e194 (by rw [hml]; rfl) [(.long v5_21), (.long g196)] [(.int (v11_127 + (17 : Int32))), (.ref b113)] rfl (lenOf own_pd0 rfl) rfl 2 (Nat.le_of_eq rfl) (by decide) (by decide) (Nat.le_of_ble_eq_true rfl) (Nat.le_of_ble_eq_true rfl) (hb hby at_532) ?_
    intro T197 Lc197 v197 X197 hQ197
    obtain ⟨rfl, N197q, e197⟩ := hQ197
    have N197 := Fr.app N194 N197q
    show own_Go _ _ _ _ (T197.setTop (mkF m 535 #[.val (.long q1), .second, .val (.int p2), .val (.int p3), .val (.ref b1), .val (.long v5_21), .second, .val (.int v7_22), .val (.int (1 : Int32)), .val (.int v9_112), .val (.ref b113), .val (.int v11_127), .unset, .unset, .unset, .unset, .unset] [(.int (own_dg v5_21 g196)), (.int (v11_127 + (17 : Int32))), (.ref b113)]))
    refine own_bas X197 hx hZ e197 A194 ((F + 1) + 17) (own_addk hS (by omega) (by decide) (by decide)) (by omega) (hb hby at_535) ?_
    intro T198 h198 X198 e198 W198 A198
    have f199 := f195.other W198 ne114
    have N198 := Fr.snoc X198 N197 ge113
    have Z198 := own_size_wr W198 Z194
    obtain ⟨fn198, hfn198⟩ : ∃ g : Nat → Int32, g = own_upd fn194 ((F + 1) + 17) (nar .byte (own_dg v5_21 g196)) := ⟨_, rfl⟩
    rw [← hfn198] at A198
    show own_Go _ _ _ _ (T198.setTop (mkF m 536 #[.val (.long q1), .second, .val (.int p2), .val (.int p3), .val (.ref b1), .val (.long v5_21), .second, .val (.int v7_22), .val (.int (1 : Int32)), .val (.int v9_112), .val (.ref b113), .val (.int v11_127), .unset, .unset, .unset, .unset, .unset] []))
    refine own_by (fun _ k => XS.iload X198.here hx rfl (hb hby at_536) rfl k) ?_
    show own_Go _ _ _ _ (T198.setTop (mkF m 538 #[.val (.long q1), .second, .val (.int p2), .val (.int p3), .val (.ref b1), .val (.long v5_21), .second, .val (.int v7_22), .val (.int (1 : Int32)), .val (.int v9_112), .val (.ref b113), .val (.int v11_127), .unset, .unset, .unset, .unset, .unset] [(.int v11_127)]))
    refine own_by (fun _ k => XS.iload X198.here hx rfl (hb hby at_538) rfl k) ?_
    show own_Go _ _ _ _ (T198.setTop (mkF m 540 #[.val (.long q1), .second, .val (.int p2), .val (.int p3), .val (.ref b1), .val (.long v5_21), .second, .val (.int v7_22), .val (.int (1 : Int32)), .val (.int v9_112), .val (.ref b113), .val (.int v11_127), .unset, .unset, .unset, .unset, .unset] [(.int v9_112), (.int v11_127)]))
    refine own_by (fun _ k => XS.iadd X198.here hx rfl (hb hby at_540) rfl k) ?_
    show own_Go _ _ _ _ (T198.setTop (mkF m 541 #[.val (.long q1), .second, .val (.int p2), .val (.int p3), .val (.ref b1), .val (.long v5_21), .second, .val (.int v7_22), .val (.int (1 : Int32)), .val (.int v9_112), .val (.ref b113), .val (.int v11_127), .unset, .unset, .unset, .unset, .unset] [(.int (v11_127 + v9_112))]))
    obtain ⟨v12_200, hv12_200⟩ : ∃ z_ : Int32, (v11_127 + v9_112) = z_ := ⟨_, rfl⟩
    refine own_gen hv12_200 (fun z_ => T198.setTop (mkF m 541 #[.val (.long q1), .second, .val (.int p2), .val (.int p3), .val (.ref b1), .val (.long v5_21), .second, .val (.int v7_22), .val (.int (1 : Int32)), .val (.int v9_112), .val (.ref b113), .val (.int v11_127), .unset, .unset, .unset, .unset, .unset] [(.int z_)])) ?_
    refine own_by (fun _ k => XS.istore X198.here hx rfl (hb hby at_541) rfl (l' := #[.val (.long q1), .second, .val (.int p2), .val (.int p3), .val (.ref b1), .val (.long v5_21), .second, .val (.int v7_22), .val (.int (1 : Int32)), .val (.int v9_112), .val (.ref b113), .val (.int v11_127), .val (.int v12_200), .unset, .unset, .unset, .unset]) rfl k) ?_
    have hto : (v12_200).toInt = (((F + 1) + n : Nat) : Int) := by rw [← hv12_200]; exact own_addk hS (by omega) hn (by omega)
    show own_Go _ _ _ _ (T198.setTop (mkF m 543 #[.val (.long q1), .second, .val (.int p2), .val (.int p3), .val (.ref b1), .val (.long v5_21), .second, .val (.int v7_22), .val (.int (1 : Int32)), .val (.int v9_112), .val (.ref b113), .val (.int v11_127), .val (.int v12_200), .unset, .unset, .unset, .unset] []))
    refine own_by (fun _ k => XS.lload X198.here hx rfl (hb hby at_543) rfl k) ?_
    show own_Go _ _ _ _ (T198.setTop (mkF m 545 #[.val (.long q1), .second, .val (.int p2), .val (.int p3), .val (.ref b1), .val (.long v5_21), .second, .val (.int v7_22), .val (.int (1 : Int32)), .val (.int v9_112), .val (.ref b113), .val (.int v11_127), .val (.int v12_200), .unset, .unset, .unset, .unset] [(.long v5_21)]))
    refine own_by (fun _ k => XS.aload X198.here hx rfl (hb hby at_545) rfl rfl k) ?_
    show own_Go _ _ _ _ (T198.setTop (mkF m 547 #[.val (.long q1), .second, .val (.int p2), .val (.int p3), .val (.ref b1), .val (.long v5_21), .second, .val (.int v7_22), .val (.int (1 : Int32)), .val (.int v9_112), .val (.ref b113), .val (.int v11_127), .val (.int v12_200), .unset, .unset, .unset, .unset] [(.ref b1), (.long v5_21)]))
    refine own_by (fun _ k => XS.bipush X198.here hx rfl (hb hby at_547) k) ?_
    show own_Go _ _ _ _ (T198.setTop (mkF m 549 #[.val (.long q1), .second, .val (.int p2), .val (.int p3), .val (.ref b1), .val (.long v5_21), .second, .val (.int v7_22), .val (.int (1 : Int32)), .val (.int v9_112), .val (.ref b113), .val (.int v11_127), .val (.int v12_200), .unset, .unset, .unset, .unset] [(.int (18 : Int32)), (.ref b1), (.long v5_21)]))
    refine own_by (fun _ k => XS.iload X198.here hx rfl (hb hby at_549) rfl k) ?_
    show own_Go _ _ _ _ (T198.setTop (mkF m 551 #[.val (.long q1), .second, .val (.int p2), .val (.int p3), .val (.ref b1), .val (.long v5_21), .second, .val (.int v7_22), .val (.int (1 : Int32)), .val (.int v9_112), .val (.ref b113), .val (.int v11_127), .val (.int v12_200), .unset, .unset, .unset, .unset] [(.int v9_112), (.int (18 : Int32)), (.ref b1), (.long v5_21)]))
    refine own_by (fun _ k => XS.isub X198.here hx rfl (hb hby at_551) rfl k) ?_
    show own_Go _ _ _ _ (T198.setTop (mkF m 552 #[.val (.long q1), .second, .val (.int p2), .val (.int p3), .val (.ref b1), .val (.long v5_21), .second, .val (.int v7_22), .val (.int (1 : Int32)), .val (.int v9_112), .val (.ref b113), .val (.int v11_127), .val (.int v12_200), .unset, .unset, .unset, .unset] [(.int ((18 : Int32) - v9_112)), (.ref b1), (.long v5_21)]))
    refine own_by (fun _ k => own_lal X198 hx hZ e198 f199 (18 - n) (own_ix _ n hn1 hn18 hn) (by omega) (hb hby at_552) k) ?_
    show own_Go _ _ _ _ (T198.setTop (mkF m 553 #[.val (.long q1), .second, .val (.int p2), .val (.int p3), .val (.ref b1), .val (.long v5_21), .second, .val (.int v7_22), .val (.int (1 : Int32)), .val (.int v9_112), .val (.ref b113), .val (.int v11_127), .val (.int v12_200), .unset, .unset, .unset, .unset] [(.long (own_pw (18 - n))), (.long v5_21)]))
    refine own_by (fun _ k => XS.ldiv X198.here hx rfl (hb hby at_553) rfl (own_pwz (18 - n) (by omega)) k) ?_
    show own_Go _ _ _ _ (T198.setTop (mkF m 554 #[.val (.long q1), .second, .val (.int p2), .val (.int p3), .val (.ref b1), .val (.long v5_21), .second, .val (.int v7_22), .val (.int (1 : Int32)), .val (.int v9_112), .val (.ref b113), .val (.int v11_127), .val (.int v12_200), .unset, .unset, .unset, .unset] [(.long (v5_21 / (own_pw (18 - n))))]))
    obtain ⟨v13_201, hv13_201⟩ : ∃ z_ : Int64, (v5_21 / (own_pw (18 - n))) = z_ := ⟨_, rfl⟩
    refine own_gen hv13_201 (fun z_ => T198.setTop (mkF m 554 #[.val (.long q1), .second, .val (.int p2), .val (.int p3), .val (.ref b1), .val (.long v5_21), .second, .val (.int v7_22), .val (.int (1 : Int32)), .val (.int v9_112), .val (.ref b113), .val (.int v11_127), .val (.int v12_200), .unset, .unset, .unset, .unset] [(.long z_)])) ?_
    refine own_by (fun _ k => XS.lstore X198.here hx rfl (hb hby at_554) rfl (l' := #[.val (.long q1), .second, .val (.int p2), .val (.int p3), .val (.ref b1), .val (.long v5_21), .second, .val (.int v7_22), .val (.int (1 : Int32)), .val (.int v9_112), .val (.ref b113), .val (.int v11_127), .val (.int v12_200), .val (.long v13_201), .second, .unset, .unset]) rfl k) ?_
    show own_Go _ _ _ _ (T198.setTop (mkF m 556 #[.val (.long q1), .second, .val (.int p2), .val (.int p3), .val (.ref b1), .val (.long v5_21), .second, .val (.int v7_22), .val (.int (1 : Int32)), .val (.int v9_112), .val (.ref b113), .val (.int v11_127), .val (.int v12_200), .val (.long v13_201), .second, .unset, .unset] []))
    refine own_by (fun _ k => XS.iload X198.here hx rfl (hb hby at_556) rfl k) ?_
    show own_Go _ _ _ _ (T198.setTop (mkF m 558 #[.val (.long q1), .second, .val (.int p2), .val (.int p3), .val (.ref b1), .val (.long v5_21), .second, .val (.int v7_22), .val (.int (1 : Int32)), .val (.int v9_112), .val (.ref b113), .val (.int v11_127), .val (.int v12_200), .val (.long v13_201), .second, .unset, .unset] [(.int (1 : Int32))]))
    refine own_by (fun _ k => XS.ifNo X198.here hx rfl (hb hby at_558) rfl ((if0 _ _).trans (feq (by decide)).1) k) ?_
    show own_Go _ _ _ _ (T198.setTop (mkF m 561 #[.val (.long q1), .second, .val (.int p2), .val (.int p3), .val (.ref b1), .val (.long v5_21), .second, .val (.int v7_22), .val (.int (1 : Int32)), .val (.int v9_112), .val (.ref b113), .val (.int v11_127), .val (.int v12_200), .val (.long v13_201), .second, .unset, .unset] []))
    refine own_by (fun _ k => XS.lload X198.here hx rfl (hb hby at_561) rfl k) ?_
    show own_Go _ _ _ _ (T198.setTop (mkF m 563 #[.val (.long q1), .second, .val (.int p2), .val (.int p3), .val (.ref b1), .val (.long v5_21), .second, .val (.int v7_22), .val (.int (1 : Int32)), .val (.int v9_112), .val (.ref b113), .val (.int v11_127), .val (.int v12_200), .val (.long v13_201), .second, .unset, .unset] [(.long v13_201)]))
    refine own_by (fun _ k => XS.lneg X198.here hx rfl (hb hby at_563) rfl k) ?_
    show own_Go _ _ _ _ (T198.setTop (mkF m 564 #[.val (.long q1), .second, .val (.int p2), .val (.int p3), .val (.ref b1), .val (.long v5_21), .second, .val (.int v7_22), .val (.int (1 : Int32)), .val (.int v9_112), .val (.ref b113), .val (.int v11_127), .val (.int v12_200), .val (.long v13_201), .second, .unset, .unset] [(.long (-v13_201))]))
    refine own_by (fun _ k => XS.goto X198.here hx rfl (pc0 := 564) (pc' := 569) rfl (hb hby at_564) (by decide) (by decide) k) ?_
    show own_Go _ _ _ _ (T198.setTop (mkF m 569 #[.val (.long q1), .second, .val (.int p2), .val (.int p3), .val (.ref b1), .val (.long v5_21), .second, .val (.int v7_22), .val (.int (1 : Int32)), .val (.int v9_112), .val (.ref b113), .val (.int v11_127), .val (.int v12_200), .val (.long v13_201), .second, .unset, .unset] [(.long (-v13_201))]))
    obtain ⟨v15_202, hv15_202⟩ : ∃ z_ : Int64, (-v13_201) = z_ := ⟨_, rfl⟩
    refine own_gen hv15_202 (fun z_ => T198.setTop (mkF m 569 #[.val (.long q1), .second, .val (.int p2), .val (.int p3), .val (.ref b1), .val (.long v5_21), .second, .val (.int v7_22), .val (.int (1 : Int32)), .val (.int v9_112), .val (.ref b113), .val (.int v11_127), .val (.int v12_200), .val (.long v13_201), .second, .unset, .unset] [(.long z_)])) ?_
    refine own_by (fun _ k => XS.lstore X198.here hx rfl (hb hby at_569) rfl (l' := #[.val (.long q1), .second, .val (.int p2), .val (.int p3), .val (.ref b1), .val (.long v5_21), .second, .val (.int v7_22), .val (.int (1 : Int32)), .val (.int v9_112), .val (.ref b113), .val (.int v11_127), .val (.int v12_200), .val (.long v13_201), .second, .val (.long v15_202), .second]) rfl k) ?_
    show own_Go _ _ _ _ (T198.setTop (mkF m 571 #[.val (.long q1), .second, .val (.int p2), .val (.int p3), .val (.ref b1), .val (.long v5_21), .second, .val (.int v7_22), .val (.int (1 : Int32)), .val (.int v9_112), .val (.ref b113), .val (.int v11_127), .val (.int v12_200), .val (.long v13_201), .second, .val (.long v15_202), .second] []))
    refine own_by (fun _ k => XS.aload X198.here hx rfl (hb hby at_571) rfl rfl k) ?_
    show own_Go _ _ _ _ (T198.setTop (mkF m 573 #[.val (.long q1), .second, .val (.int p2), .val (.int p3), .val (.ref b1), .val (.long v5_21), .second, .val (.int v7_22), .val (.int (1 : Int32)), .val (.int v9_112), .val (.ref b113), .val (.int v11_127), .val (.int v12_200), .val (.long v13_201), .second, .val (.long v15_202), .second] [(.ref b113)]))
    refine own_by (fun _ k => XS.iload X198.here hx rfl (hb hby at_573) rfl k) ?_
    show own_Go _ _ _ _ (T198.setTop (mkF m 575 #[.val (.long q1), .second, .val (.int p2), .val (.int p3), .val (.ref b1), .val (.long v5_21), .second, .val (.int v7_22), .val (.int (1 : Int32)), .val (.int v9_112), .val (.ref b113), .val (.int v11_127), .val (.int v12_200), .val (.long v13_201), .second, .val (.long v15_202), .second] [(.int v7_22), (.ref b113)]))
    refine own_by (fun _ k => XS.iload X198.here hx rfl (hb hby at_575) rfl k) ?_
    show own_Go _ _ _ _ (T198.setTop (mkF m 577 #[.val (.long q1), .second, .val (.int p2), .val (.int p3), .val (.ref b1), .val (.long v5_21), .second, .val (.int v7_22), .val (.int (1 : Int32)), .val (.int v9_112), .val (.ref b113), .val (.int v11_127), .val (.int v12_200), .val (.long v13_201), .second, .val (.long v15_202), .second] [(.int v12_200), (.int v7_22), (.ref b113)]))
    obtain ⟨ff, hff⟩ : ∃ g, g = fn198 := ⟨_, rfl⟩
    rw [← hff] at A198
    have hff' : ∀ i, i < 18 → (ff ((F + 1) + i)).toInt = ((48 + (M / 10 ^ (17 - i)) % 10 : Nat) : Int) := by
      intro i hi
      have e : ff ((F + 1) + i) = own_dg v5_21 (own_pw (17 - i)) := by
        have hi' : i = 0 ∨ i = 1 ∨ i = 2 ∨ i = 3 ∨ i = 4 ∨ i = 5 ∨ i = 6 ∨ i = 7 ∨ i = 8 ∨ i = 9 ∨ i = 10 ∨ i = 11 ∨ i = 12 ∨ i = 13 ∨ i = 14 ∨ i = 15 ∨ i = 16 ∨ i = 17 := by omega
        rcases hi' with rfl | rfl | rfl | rfl | rfl | rfl | rfl | rfl | rfl | rfl | rfl | rfl | rfl | rfl | rfl | rfl | rfl | rfl <;> simp [hff, own_upd, own_nardg, hfn198, hfn194, hfn190, hfn186, hfn182, hfn178, hfn174, hfn170, hfn166, hfn162, hfn158, hfn154, hfn150, hfn146, hfn142, hfn138, hfn134, hfn130, hfn125, ← hg128, ← hg132, ← hg136, ← hg140, ← hg144, ← hg148, ← hg152, ← hg156, ← hg160, ← hg164, ← hg168, ← hg172, ← hg176, ← hg180, ← hg184, ← hg188, ← hg192, ← hg196]
      rw [e]; exact own_dgv _ _ M _ hm (own_pwv (17 - i) (by omega)) (Nat.pow_pos (by decide))
    have h45 : ff F = 45 := by simp [hff, own_upd, nar, Nat.add_assoc, hfn198, hfn194, hfn190, hfn186, hfn182, hfn178, hfn174, hfn170, hfn166, hfn162, hfn158, hfn154, hfn150, hfn146, hfn142, hfn138, hfn134, hfn130, hfn125]
    refine own_callS X198 hx hZ hown (hw _ (List.mem_of_getElem? (i := 26) rfl)) (hw _ (List.mem_of_getElem? (i := 27) rfl)) (hw _ (List.mem_of_getElem? (i := 28) rfl)) (hw _ (List.mem_of_getElem? (i := 29) rfl)) (by decide) (rm2 l Z a0 hw [] b113 v7_22 v12_200 ff F ((F + 1) + n) h198 n0 Z198 A198 hF hto (by omega) (by omega)) e198 (by rw [hml]; rfl) [(.ref b113), (.int v7_22), (.int v12_200)] [] rfl (lenOf own_pd1 rfl) rfl 0 (Nat.le_of_eq rfl) (by decide) (by decide) (Nat.le_of_ble_eq_true rfl) (Nat.le_of_ble_eq_true rfl) (hb hby at_577) ?_
    intro T203 Lc203 v203 X203 hQ203
    obtain ⟨rfl, N203q, e203⟩ := hQ203
    have N203 := Fr.app N198 N203q
    show own_Go _ _ _ _ (T203.setTop (mkF m 580 #[.val (.long q1), .second, .val (.int p2), .val (.int p3), .val (.ref b1), .val (.long v5_21), .second, .val (.int v7_22), .val (.int (1 : Int32)), .val (.int v9_112), .val (.ref b113), .val (.int v11_127), .val (.int v12_200), .val (.long v13_201), .second, .val (.long v15_202), .second] [(.long (own_wn ff F ((F + 1) + n)))]))
    refine own_by (fun _ k => XS.lload X203.here hx rfl (hb hby at_580) rfl k) ?_
    show own_Go _ _ _ _ (T203.setTop (mkF m 582 #[.val (.long q1), .second, .val (.int p2), .val (.int p3), .val (.ref b1), .val (.long v5_21), .second, .val (.int v7_22), .val (.int (1 : Int32)), .val (.int v9_112), .val (.ref b113), .val (.int v11_127), .val (.int v12_200), .val (.long v13_201), .second, .val (.long v15_202), .second] [(.long v15_202), (.long (own_wn ff F ((F + 1) + n)))]))
    refine own_by (fun _ k => XS.lcmp X203.here hx rfl (hb hby at_582) rfl k) ?_
    show own_Go _ _ _ _ (T203.setTop (mkF m 583 #[.val (.long q1), .second, .val (.int p2), .val (.int p3), .val (.ref b1), .val (.long v5_21), .second, .val (.int v7_22), .val (.int (1 : Int32)), .val (.int v9_112), .val (.ref b113), .val (.int v11_127), .val (.int v12_200), .val (.long v13_201), .second, .val (.long v15_202), .second] [(.int (lcmpW (own_wn ff F ((F + 1) + n)) v15_202))]))
    refine own_by (fun _ k => XS.ifNo X203.here hx rfl (hb hby at_583) rfl ((if0 _ _).trans (teq ((lw_eq _ _).mpr (own_neg ff F n M _ _ _ _ hM hm hn18 (own_pwv (18 - n) (by omega)) hv13_201 hv15_202 h45 hff'))).2) k) ?_
    show own_Go _ _ _ _ (T203.setTop (mkF m 586 #[.val (.long q1), .second, .val (.int p2), .val (.int p3), .val (.ref b1), .val (.long v5_21), .second, .val (.int v7_22), .val (.int (1 : Int32)), .val (.int v9_112), .val (.ref b113), .val (.int v11_127), .val (.int v12_200), .val (.long v13_201), .second, .val (.long v15_202), .second] []))
    refine own_by (fun _ k => XS.iconst X203.here hx rfl (hb hby at_586) k) ?_
    show own_Go _ _ _ _ (T203.setTop (mkF m 587 #[.val (.long q1), .second, .val (.int p2), .val (.int p3), .val (.ref b1), .val (.long v5_21), .second, .val (.int v7_22), .val (.int (1 : Int32)), .val (.int v9_112), .val (.ref b113), .val (.int v11_127), .val (.int v12_200), .val (.long v13_201), .second, .val (.long v15_202), .second] [(.int (1 : Int32))]))
    refine own_by (fun _ k => XS.goto X203.here hx rfl (pc0 := 587) (pc' := 591) rfl (hb hby at_587) (by decide) (by decide) k) ?_
    show own_Go _ _ _ _ (T203.setTop (mkF m 591 #[.val (.long q1), .second, .val (.int p2), .val (.int p3), .val (.ref b1), .val (.long v5_21), .second, .val (.int v7_22), .val (.int (1 : Int32)), .val (.int v9_112), .val (.ref b113), .val (.int v11_127), .val (.int v12_200), .val (.long v13_201), .second, .val (.long v15_202), .second] [(.int (1 : Int32))]))
    exact own_retN X203 hx Bd.notSynchronized e203 Bd.returns (by simp) (hb hby at_591) (⟨rfl, N203⟩) (by decide) (by decide)
set_option maxRecDepth 65536 in
set_option maxHeartbeats 40000000 in
theorem comes_1 {Post : Tables → Env → Array Value → State → Outcome → State → Prop} (hpost : ∀ tb e args s v u, (limb_1_1.after args s (.returned v) u = true ∧ limb_1_2.after args s (.returned v) u = true ∧ True) → FrameEnd s (.returned v) u (Jvm.fieldLocs frame_1_writes args s ++ Jvm.arrayLocs frame_1_arrays args s ++ Jvm.staticLocs frame_1_statics s) 16 192 → Post tb e args s (.returned v) u) :
    ArmFor flags0 classFile x code maxLocals ret World_1 tables_1 room_1 Calls_1 rest_1 Pre_1 Post := by
  intro l hfl _ _ p e ha hc hk s m args below hf hA hF happ hP
  obtain ⟨hcalls, hrest, hpre⟩ := hP
  obtain ⟨-, -, -, hnamed, -, -, -, hat⟩ := (Spec.applies_iff hf).mp happ
  obtain ⟨hg, hn⟩ := and_e (Cond.before_iff.mp (show (Jvm.Cond.and given_1 narrow_1).before args s = true from hpre))
  obtain ⟨g1, g2⟩ := and_e hg
  obtain ⟨g3, g4⟩ := and_e g2
  obtain ⟨g5, g6⟩ := and_e g4
  obtain ⟨w0, w1, w2, rfl⟩ : ∃ w0 w1 w2 : Value, args = #[w0, w1, w2] := by
    have hs : args.size = 3 := by simpa [Cond.value, given_1] using g1
    obtain ⟨L⟩ := args
    match L, hs with
    | [w0, w1, w2], _ => exact ⟨w0, w1, w2, rfl⟩
  have hw := fun d (hd : d ∈ tables_1) => atoms_spec (ws := Jvm.Cond.code x code maxLocals ret :: tables_1) hat d (List.mem_cons_of_mem _ hd)
  have hfit : Fit s := fun {y c} hc i hi => by
    obtain ⟨ha, rfl⟩ := Array.getElem?_eq_some_iff.mp hc
    have q := List.all_eq_true.mp ((Array.all_eq_true_iff_forall_mem.mp hF) _ (Array.getElem_mem ha)) i (List.mem_range.mpr hi)
    simpa [Array.getElem?_eq_getElem hi] using q
  obtain ⟨i0, ei0⟩ := isL_v g3
  obtain rfl : w0 = (.long i0) := Option.some.inj ei0
  obtain ⟨i1, ei1⟩ := is_v g5
  obtain rfl : w1 = (.int i1) := Option.some.inj ei1
  obtain ⟨i2, ei2⟩ := is_v g6
  obtain rfl : w2 = (.int i2) := Option.some.inj ei2
  obtain ⟨n, o, h1, h2, h3, _, L, rfl, ⟨rfl, N⟩, hq⟩ := rm0 l s _ hw tables_1 i0 i1 i2 s.heap s.heap.size (Nat.le_refl _) p e ha hc hk s m _ below hf ((Spec.applies_iff_loose hf).mp happ).1 ⟨rfl, State.Warmed39.refl s, rfl⟩ trivial
  refine ⟨n, _, h1, h2, h3, hpost _ _ _ _ _ _ ⟨Cond.after_iff.mpr rfl, Cond.after_iff.mpr (eq_i res_at (Term.int_eval (1)) rfl), trivial⟩ ⟨hq.1, hq.2.1, (hq.2.2.sift fun y hy => Or.inr (N y hy)).mono (by decide) (by decide)⟩⟩
theorem main_1_1 : Claimed_1_1 := comes_1 fun _ _ _ _ _ _ h hF => ⟨h.1, hF⟩
theorem main_1_2 : Claimed_1_2 := comes_1 fun _ _ _ _ _ _ h hF => ⟨h.2.1, hF⟩
end Jvm.Pilot.@@N@@
namespace Jvm.Pilot.@@N@@
open Jvm Jvm.ClassFile Sem Op Lib Jvm.Free Jvm.Stand Jvm.Pilot.@@N@@.Jvm.D
/-! MADE BY PROGRAM (witnessworld.py) out of the Statement's table words and the real class files: 11 classes; the members and pool entries that the words name. The judged class is class 1, her method 1. -/
namespace start1
open Jvm.ClassFile
def u (s : String) : CpInfo := .utf8 (stringToUtf16 s)
/-- a pool by its gaps: so many unusable entries, then the entry; so many at the end -/
def gap : Nat → List CpInfo → List CpInfo
  | 0, r => r
  | n + 1, r => .unusable :: gap n r
def poolList (es : List (Nat × CpInfo)) (last : Nat) : List CpInfo := es.foldr (fun e r => gap e.1 (e.2 :: r)) (gap last [])
def pool (es : List (Nat × CpInfo)) (last : Nat) : Array CpInfo := ⟨poolList es last⟩
def fileOf (pool : Array CpInfo) (this : Nat) (attrs : Array Attribute := #[]) (ms : Array MethodInfo := #[]) (fl : Nat := 33) (sup : Nat := 0) (ifs : Array Nat := #[]) (fds : Array FieldInfo := #[]) : ClassFile where
  minorVersion := 0
  majorVersion := 65
  constantPool := pool
  accessFlags := fl
  thisClass := this
  superClass := sup
  interfaces := ifs
  fields := fds
  methods := ms
  attributes := attrs
def plain (name : String) (sup : Option ClassId) : Class where
  name := name
  kind := .ordinary
  loader := none
  accessFlags := 33
  super := sup
  interfaces := #[]
  cf := none
  fields := #[]
  methods := #[]
  instanceTypes := #[]
  staticTypes := #[]
  resolved := #[]
  callSites := []
  init := .initialized
  statics := none
  mirror := none

def pool0 : Array CpInfo := pool [(5, u "<init>"), (0, u "()V"), (1, .class_ 10), (1, u "java/lang/Object")] 113

def k0m0 : Method := { name := "<init>", desc := "()V", sig := { parameters := [], returnType := none }, accessFlags := 1, code := none }
/-- java/lang/Object -/
def k0 : Class := { plain "java/lang/Object" none with
  accessFlags := 33
  interfaces := #[]
  cf := some (fileOf pool0 8 #[] #[{ accessFlags := 1, nameIndex := 5, descriptorIndex := 6, attributes := #[] }] 33 0 #[] #[])
  fields := #[]
  methods := #[k0m0]
  instanceTypes := #[]
  staticTypes := #[]
  resolved := Array.replicate 124 none
  statics := none }

def pool1 : Array CpInfo := pool [(2, .class_ 4), (1, u "java/lang/Object"), (0, u "<init>"), (0, u "()V"), (0, .long 10), (1, .long 100), (1, .long 1000), (1, .long 10000), (1, .long 100000), (1, .long 1000000), (1, .long 10000000), (1, .long 100000000), (1, .long 1000000000), (1, .long 10000000000), (1, .long 100000000000), (1, .long 1000000000000), (1, .long 10000000000000), (1, .long 100000000000000), (1, .long 1000000000000000), (1, .long 10000000000000000), (1, .long 100000000000000000), (3, .long 9223372036854775807), (1, .long 1000000000000000000), (1, .methodref 48 49), (0, .class_ 50), (0, .nameAndType 51 52), (0, u "com/example/settleline/settleline/csv/FieldSyntaxWholeNumberPinLaw"), (0, u "digit"), (0, u "(JJ)B"), (0, .methodref 54 55), (0, .class_ 56), (0, .nameAndType 57 58), (0, u "com/example/settleline/settleline/csv/FieldSyntax"), (0, u "wholeNumber"), (0, u "([BII)J"), (0, .long 48), (3, u "law"), (0, u "(JII)Z")] 7

def k1m0 : Method := { name := "<init>", desc := "()V", sig := { parameters := [], returnType := none }, accessFlags := 1, code := none }
def k1c1 : Code := { maxStack := 6, maxLocals := 17, code := code, exceptionTable := #[], attributes := #[] }
def k1m1 : Method := { name := "law", desc := "(JII)Z", sig := { parameters := [.long, .int, .int], returnType := some .boolean }, accessFlags := 9, code := some k1c1 }
def k1c2 : Code := { maxStack := 6, maxLocals := 4, code := method_3_code, exceptionTable := #[], attributes := #[] }
def k1m2 : Method := { name := "digit", desc := "(JJ)B", sig := { parameters := [.long, .long], returnType := some .byte }, accessFlags := 10, code := some k1c2 }
/-- com/example/settleline/settleline/csv/FieldSyntaxWholeNumberPinLaw -/
def k1 : Class := { plain "com/example/settleline/settleline/csv/FieldSyntaxWholeNumberPinLaw" (some 0) with
  accessFlags := 49
  interfaces := #[]
  cf := some (fileOf pool1 48 #[] #[{ accessFlags := 1, nameIndex := 5, descriptorIndex := 6, attributes := #[] }, { accessFlags := 9, nameIndex := 63, descriptorIndex := 64, attributes := #[] }, { accessFlags := 10, nameIndex := 51, descriptorIndex := 52, attributes := #[] }] 49 2 #[] #[])
  fields := #[]
  methods := #[k1m0, k1m1, k1m2]
  instanceTypes := #[]
  staticTypes := #[]
  resolved := Array.replicate 72 none
  statics := none }

def pool2 : Array CpInfo := pool [(2, .class_ 4), (1, u "java/lang/Object"), (0, u "<init>"), (0, u "()V"), (1, .class_ 10), (1, u "com/example/settleline/settleline/csv/FieldSyntax"), (28, .long 10), (7, u "TIME_DIGITS"), (0, u "[I"), (41, u "LONG_DIGITS"), (0, u "I"), (2, u "SECONDS_PER_DAY"), (1, u "UTC_TIME_LENGTH"), (1, u "OFFSET_TIME_LENGTH"), (10, u "wholeNumber"), (0, u "([BII)J")] 6

def k2m0 : Method := { name := "<init>", desc := "()V", sig := { parameters := [], returnType := none }, accessFlags := 2, code := none }
def k2c1 : Code := { maxStack := 4, maxLocals := 7, code := prog_12_method_4_code, exceptionTable := #[], attributes := #[] }
def k2m1 : Method := { name := "wholeNumber", desc := "([BII)J", sig := { parameters := [(.array .byte), .int, .int], returnType := some .long }, accessFlags := 8, code := some k2c1 }
/-- com/example/settleline/settleline/csv/FieldSyntax -/
def k2 : Class := { plain "com/example/settleline/settleline/csv/FieldSyntax" (some 0) with
  accessFlags := 48
  interfaces := #[]
  cf := some (fileOf pool2 8 #[] #[{ accessFlags := 2, nameIndex := 5, descriptorIndex := 6, attributes := #[] }, { accessFlags := 8, nameIndex := 109, descriptorIndex := 110, attributes := #[] }] 48 2 #[] #[{ accessFlags := 26, nameIndex := 90, descriptorIndex := 91, attributes := #[] }, { accessFlags := 26, nameIndex := 94, descriptorIndex := 91, attributes := #[] }, { accessFlags := 26, nameIndex := 96, descriptorIndex := 91, attributes := #[] }, { accessFlags := 26, nameIndex := 98, descriptorIndex := 91, attributes := #[] }, { accessFlags := 26, nameIndex := 47, descriptorIndex := 48, attributes := #[] }])
  fields := #[{ name := "LONG_DIGITS", type := .int, accessFlags := 26, slot := 0, constantValue := 0 }, { name := "SECONDS_PER_DAY", type := .int, accessFlags := 26, slot := 1, constantValue := 0 }, { name := "UTC_TIME_LENGTH", type := .int, accessFlags := 26, slot := 2, constantValue := 0 }, { name := "OFFSET_TIME_LENGTH", type := .int, accessFlags := 26, slot := 3, constantValue := 0 }, { name := "TIME_DIGITS", type := (.array .int), accessFlags := 26, slot := 4, constantValue := 0 }]
  methods := #[k2m0, k2m1]
  instanceTypes := #[]
  staticTypes := #[.int, .int, .int, .int, (.array .int)]
  resolved := Array.replicate 117 none
  statics := none }

def pool3 : Array CpInfo := pool [(1, u "java/lang/Cloneable"), (0, .class_ 1), (0, u "java/lang/Object"), (0, .class_ 3)] 3

/-- java/lang/Cloneable -/
def k3 : Class := { plain "java/lang/Cloneable" (some 0) with
  accessFlags := 1537
  interfaces := #[]
  cf := some (fileOf pool3 2 #[] #[] 1537 4 #[] #[])
  fields := #[]
  methods := #[]
  instanceTypes := #[]
  staticTypes := #[]
  resolved := Array.replicate 8 none
  statics := none }

def pool4 : Array CpInfo := pool [(1, u "java/io/Serializable"), (0, .class_ 1), (0, u "java/lang/Object"), (0, .class_ 3)] 3

/-- java/io/Serializable -/
def k4 : Class := { plain "java/io/Serializable" (some 0) with
  accessFlags := 1537
  interfaces := #[]
  cf := some (fileOf pool4 2 #[] #[] 1537 4 #[] #[])
  fields := #[]
  methods := #[]
  instanceTypes := #[]
  staticTypes := #[]
  resolved := Array.replicate 8 none
  statics := none }

/-- the primitive byte -/
def k5 : Class := { plain "byte" none with kind := .primitive 'B', accessFlags := 0x411 }
/-- [B -/
def k6 : Class := { plain "[B" (some 0) with kind := .array 5 .byte, interfaces := #[3, 4], accessFlags := 1041 }

/-- the primitive int -/
def k7 : Class := { plain "int" none with kind := .primitive 'I', accessFlags := 0x411 }
/-- [I -/
def k8 : Class := { plain "[I" (some 0) with kind := .array 7 .int, interfaces := #[3, 4], accessFlags := 1041 }

/-- the primitive long -/
def k9 : Class := { plain "long" none with kind := .primitive 'J', accessFlags := 0x411 }
/-- [J -/
def k10 : Class := { plain "[J" (some 0) with kind := .array 9 .long, interfaces := #[3, 4], accessFlags := 1041 }

def heap : Heap := #[]
def classes : Array Class := #[k0, k1, k2, k3, k4, k5, k6, k7, k8, k9, k10]
def interned : List (Array UInt16 × Addr) := []
def slotsUsed : Nat := 0
def theMethod : MethodId := ⟨1, 1⟩
def args0 : Array Value := #[.long 5, .int 9, .int 3]
def aboutOver (below : List Frame) : State where
  vm := { classes := classes, interned := interned.toArray }
  heap := heap
  slotsUsed := slotsUsed
  threads := #[{ frames := .invoking theMethod args0 :: below }]
def below0 : List Frame := [.native { method := ⟨0, 0⟩, args := #[] }]
def about1 : State := aboutOver below0
def p0 : Program := .bare "" "" ""
def e0 : Env := launch0.env 0 0 0
theorem w_frames : about1.frames = Frame.invoking theMethod args0 :: below0 := rfl
set_option maxRecDepth 65536 in
theorem w_args : argsFit about1.vm theMethod args0 = true := by decide +kernel
set_option maxRecDepth 65536 in
theorem w_heap : heapFits about1 = true := by decide +kernel
set_option maxRecDepth 65536 in
theorem w_runnable : about1.curStatus? = some .runnable := by decide +kernel
set_option maxRecDepth 65536 in
theorem w_alone : about1.alone = true := by decide +kernel
set_option maxRecDepth 65536 in
theorem w_named : about1.methodNamed? x = some theMethod := by decide +kernel
set_option maxRecDepth 65536 in
theorem w_hears : about1.hears theMethod below0 = true := by decide +kernel
set_option maxRecDepth 65536 in
theorem w_ripe : about1.ripe theMethod args0 below0 = true := by decide +kernel
theorem w_running : about1.status = .running := rfl
set_option maxRecDepth 65536 in
theorem w_room : about1.hasRoom e0.platform room_1 = true :=
  launch0.hasRoom_least _ room_1 (by decide +kernel) (by decide +kernel) (by decide +kernel) (by decide +kernel) (by decide +kernel) (by decide +kernel)
theorem allAtoms_all (ts : List Jvm.Cond) (a : Array Jvm.Value) (st : Jvm.State) : (allAtoms ts).before a st = ts.all (fun c => c.before a st) := by
  induction ts with
  | nil => rfl
  | cons c t ih =>
    show (Jvm.Cond.and c (allAtoms t)).before a st = _
    rw [Jvm.Cond.before_and, ih, List.all_cons]
def words1 : List Jvm.Cond := Jvm.Cond.code x code maxLocals ret :: tables_1
/-- a 'code' word, met by the world's own term for the bytes: nothing is compared byte by byte -/
theorem code_word {y : MethodName} {bytes : ByteArray} {mx : Nat} {rt : Option FieldType} {a : Array Value} {s : State} {m : MethodId} {meth : Method} {c : Code} (h1 : s.methodNamed? y = some m) (h2 : s.vm.method? m = some meth) (h3 : meth.code = some c) (h4 : c.code = bytes)
    (h5 : (c.maxLocals == mx && c.exceptionTable.isEmpty && decide (c.maxStack ≤ mostOperands) && decide (meth.sig.returnType = rt) && !meth.locks && decide (parseMethodDescriptor y.desc = some meth.sig)) = true) : (Jvm.Cond.code y bytes mx rt).before a s = true := by
  simp only [Bool.and_eq_true, beq_iff_eq, Bool.not_eq_true', decide_eq_true_eq] at h5
  obtain ⟨⟨⟨⟨⟨g1, g2⟩, g3⟩, g4⟩, g5⟩, g6⟩ := h5
  simp [Cond.before, Cond.holds, Cond.value, h1, h2, h3, h4, g1, g2, g3, g4, g5, g6]
def isCode : Jvm.Cond → Bool
  | .code _ _ _ _ => true
  | _ => false
theorem all_split {L : List Jvm.Cond} {P : Jvm.Cond → Bool} (h1 : L.all (fun c => isCode c || P c) = true) (h2 : ∀ c ∈ L.filter isCode, P c = true) : L.all P = true := by
  refine List.all_eq_true.mpr fun c hc => ?_
  have h := List.all_eq_true.mp h1 c hc
  rcases Bool.eq_false_or_eq_true (isCode c) with hi | hi
  · exact h2 c (List.mem_filter.mpr ⟨hc, hi⟩)
  · simpa [hi] using h
set_option maxRecDepth 65536 in
theorem w_c0 : (Jvm.Cond.code x code maxLocals ret).before args0 about1 = true := code_word (m := ⟨1, 1⟩) (meth := k1m1) (c := k1c1) (by decide +kernel) rfl rfl rfl (by decide +kernel)
set_option maxRecDepth 65536 in
theorem w_c1 : (Jvm.Cond.code ({ cls := "com/example/settleline/settleline/csv/FieldSyntaxWholeNumberPinLaw", name := "digit", desc := "(JJ)B" } : Jvm.MethodName) method_3_code (4 : Nat) (Option.some Jvm.ClassFile.FieldType.byte)).before args0 about1 = true := code_word (m := ⟨1, 2⟩) (meth := k1m2) (c := k1c2) (by decide +kernel) rfl rfl rfl (by decide +kernel)
set_option maxRecDepth 65536 in
theorem w_c2 : (Jvm.Cond.code ({ cls := "com/example/settleline/settleline/csv/FieldSyntax", name := "wholeNumber", desc := "([BII)J" } : Jvm.MethodName) prog_12_method_4_code (7 : Nat) (Option.some Jvm.ClassFile.FieldType.long)).before args0 about1 = true := code_word (m := ⟨2, 1⟩) (meth := k2m1) (c := k2c1) (by decide +kernel) rfl rfl rfl (by decide +kernel)
def codes1 : List Jvm.Cond := [Jvm.Cond.code x code maxLocals ret, Jvm.Cond.code ({ cls := "com/example/settleline/settleline/csv/FieldSyntaxWholeNumberPinLaw", name := "digit", desc := "(JJ)B" } : Jvm.MethodName) method_3_code (4 : Nat) (Option.some Jvm.ClassFile.FieldType.byte), Jvm.Cond.code ({ cls := "com/example/settleline/settleline/csv/FieldSyntax", name := "wholeNumber", desc := "([BII)J" } : Jvm.MethodName) prog_12_method_4_code (7 : Nat) (Option.some Jvm.ClassFile.FieldType.long)]
set_option maxRecDepth 65536 in
theorem codes_eq : words1.filter isCode = codes1 := rfl
theorem w_codes : ∀ c ∈ words1.filter isCode, c.before args0 about1 = true := by
  rw [codes_eq]
  intro c hc
  simp only [codes1, List.mem_cons, List.not_mem_nil, or_false] at hc
  rcases hc with rfl | rfl | rfl
  · exact w_c0
  · exact w_c1
  · exact w_c2
set_option maxRecDepth 65536 in
theorem w_t1 : (words1.take 24).all (fun c => isCode c || c.before args0 about1) = true := by decide +kernel
set_option maxRecDepth 65536 in
theorem w_t2 : (words1.drop 24).all (fun c => isCode c || c.before args0 about1) = true := by decide +kernel
theorem w_tables : (allAtoms (Jvm.Cond.code x code maxLocals ret :: tables_1)).before args0 about1 = true := by
  rw [allAtoms_all]
  show words1.all (fun c => c.before args0 about1) = true
  refine all_split ?_ w_codes
  rw [← List.take_append_drop 24 words1, List.all_append, w_t1, w_t2]
  rfl
set_option maxRecDepth 65536 in
theorem w_case : (Jvm.Cond.and given_1 narrow_1).before args0 about1 = true := by decide +kernel
theorem w_applies : (headSpec (Jvm.Cond.code x code maxLocals ret :: tables_1) room_1).applies x e0.platform about1 = true :=
  (Spec.applies_iff w_frames).mpr ⟨w_running, w_runnable, w_alone, w_named, w_hears, w_ripe, w_room, w_tables⟩
theorem atStart : AtStart classFile x code maxLocals ret World_1 tables_1 room_1 Calls_1 rest_1 Pre_1 launch0 p0 e0 about1 theMethod args0 below0 :=
  ⟨lists_1, trivial, launch0.admits_env _ _ _, launch0.least_env, fairChoices_fair.cas, fairChoices_fair.clock, w_frames, w_args, w_heap, w_applies, trivial, trivial, w_case⟩
end start1
theorem witness_1 : WitnessClaimed_1 := ⟨start1.p0, start1.e0, start1.about1, start1.theMethod, start1.args0, start1.below0, start1.atStart⟩
end Jvm.Pilot.@@N@@
