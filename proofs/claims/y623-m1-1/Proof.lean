import JvmDerived
import JvmDerived.Pilot.@@N@@Statement
import JvmDerived.Pilot.@@N@@Code
set_option linter.unusedVariables false
set_option linter.unusedSimpArgs false
namespace Jvm.Pilot.@@N@@
open Jvm Jvm.ClassFile Sem Op Lib Jvm.Free Jvm.Stand Jvm.LawKit Jvm.RoadKit Bundle Jvm.Pilot.@@N@@.Jvm.D
section OwnGo
/-! a run that comes to its end: what a body's walk owes, of any state on the way -/
def own_Go (tb : Tables) (e : Env) (below : List Frame) (Q : Outcome → State → Prop) (U : State) : Prop := ∃ s₂ o, Steps tb e below U s₂ ∧ s₂.status = .running ∧ Ended s₂ below o ∧ Q o s₂
theorem own_by {tb : Tables} {e : Env} {below : List Frame} {Q : Outcome → State → Prop} {U V : State} (h : ∀ t, Steps tb e below V t → Steps tb e below U t) (k : own_Go tb e below Q V) : own_Go tb e below Q U := by
  obtain ⟨s2, o, h1, h2⟩ := k; exact ⟨s2, o, h _ h1, h2⟩
theorem own_tr {tb : Tables} {e : Env} {below : List Frame} {Q : Outcome → State → Prop} {U V : State} (h : Steps tb e below U V) (k : own_Go tb e below Q V) : own_Go tb e below Q U := own_by (fun _ q => h.trans q) k
theorem own_gen {α : Type} {x y : α} (h : x = y) {tb : Tables} {e : Env} {below : List Frame} {Q : Outcome → State → Prop} (F : α → State) (k : own_Go tb e below Q (F y)) : own_Go tb e below Q (F x) := h ▸ k
def own_ap (f : Option Value → Heap → List Loc → Prop) (v : Option Value) (h : Heap) (L : List Loc) : Prop := f v h L
/-- what a body's contract says of its end -/
def own_Q (s : State) (Qh : Option Value → Heap → List Loc → Prop) (C S : Nat) (o : Outcome) (U' : State) : Prop := ∃ v L, o = .returned v ∧ Qh v U'.heap L ∧ FrameEnd s o U' L C S
variable {p : Program} {l : Launch} {e : Env} {R : Room} {s : State} {m : MethodId} {args : Array Value} {below : List Frame} {meth : Method} {c : Code} {T : State} {locs : List Loc} {cells slots : Nat} {Z : State} {h : Heap} {a : Addr} {pc : Nat} {Ls : Array Slot} {rest : List Value} {Qh : Option Value → Heap → List Loc → Prop} {C S : Nat} {Q : Outcome → State → Prop}
theorem own_leave (X : Stand p l e R s m args below meth c T locs cells slots) (hlk : meth.locks = false) {v : Option Value} (hv : meth.sig.returnType = none → v = none) {f : JFrame}
    (hst : ∀ fs, (∀ (f : JFrame) (acts : List Action), f.method = m → f.locked = none → f.entered = [] → (doReturn e (T.setTop f) acts v).1 = T.setFrames fs) → Steps p.tables e below (T.setTop f) (T.setFrames fs))
    (hq : Qh v T.heap locs) (hC : cells ≤ C) (hS : slots ≤ S) : own_Go p.tables e below (own_Q s Qh C S) (T.setTop f) := by
  obtain ⟨fs, hr, hrun, hended, hW, hsame⟩ := X.leave (v := v) hv hlk
  exact ⟨_, _, hst fs hr, hrun, hended, _, _, rfl, hq, ⟨_, rfl⟩, hW, hsame.mono hC hS⟩
theorem own_retI (X : Stand p l e R s m args below meth c T locs cells slots) (hx : p.tables.exec = Jvm.exec) (hlk : meth.locks = false) (eT : T.heap = h) (hret : meth.sig.returnType = some .int) {z : Int32} (hd : decode c.code pc = .ok (.ireturn, 1))
    (hq : Qh (some (.int z)) h locs) (hC : cells ≤ C) (hS : slots ≤ S) : own_Go p.tables e below (own_Q s Qh C S) (T.setTop (mkF m pc Ls (.int z :: rest))) :=
  own_leave X hlk (v := some (.int z)) (fun q => by rw [hret] at q; cases q) (fun fs hr => retOut X hx hret rfl (Or.inl ⟨rfl, Or.inl rfl, z, rfl⟩) hd hr) (eT ▸ hq) hC hS
theorem own_retN (X : Stand p l e R s m args below meth c T locs cells slots) (hx : p.tables.exec = Jvm.exec) (hlk : meth.locks = false) (eT : T.heap = h) {t : FieldType} (hret : meth.sig.returnType = some t) (ht : t = .boolean ∨ t = .byte ∨ t = .char ∨ t = .short) {z : Int32} (hd : decode c.code pc = .ok (.ireturn, 1))
    (hq : Qh (some (.int (nar t z))) h locs) (hC : cells ≤ C) (hS : slots ≤ S) : own_Go p.tables e below (own_Q s Qh C S) (T.setTop (mkF m pc Ls (.int z :: rest))) :=
  own_leave X hlk (v := some (.int (nar t z))) (fun q => by rw [hret] at q; cases q) (fun fs hr => retN X hx hret ht hd hr) (eT ▸ hq) hC hS
theorem own_retJ (X : Stand p l e R s m args below meth c T locs cells slots) (hx : p.tables.exec = Jvm.exec) (hlk : meth.locks = false) (eT : T.heap = h) (hret : meth.sig.returnType = some .long) {z : Int64} (hd : decode c.code pc = .ok (.lreturn, 1))
    (hq : Qh (some (.long z)) h locs) (hC : cells ≤ C) (hS : slots ≤ S) : own_Go p.tables e below (own_Q s Qh C S) (T.setTop (mkF m pc Ls (.long z :: rest))) :=
  own_leave X hlk (v := some (.long z)) (fun q => by rw [hret] at q; cases q) (fun fs hr => retOut X hx hret rfl (Or.inr (Or.inl ⟨rfl, rfl, z, rfl⟩)) hd hr) (eT ▸ hq) hC hS
theorem own_retA (X : Stand p l e R s m args below meth c T locs cells slots) (hx : p.tables.exec = Jvm.exec) (hlk : meth.locks = false) (eT : T.heap = h) {t : FieldType} (hret : meth.sig.returnType = some t) (ht : t.isReference = true) {w : Value} (hn : narrow t w = w) (hw : w.isRef = true) (hd : decode c.code pc = .ok (.areturn, 1))
    (hq : Qh (some w) h locs) (hC : cells ≤ C) (hS : slots ≤ S) : own_Go p.tables e below (own_Q s Qh C S) (T.setTop (mkF m pc Ls (w :: rest))) :=
  own_leave X hlk (v := some w) (fun q => by rw [hret] at q; cases q) (fun fs hr => retOut X hx hret hn (Or.inr (Or.inr (Or.inr (Or.inr ⟨rfl, ht, hw⟩)))) hd hr) (eT ▸ hq) hC hS
theorem own_retV (X : Stand p l e R s m args below meth c T locs cells slots) (hx : p.tables.exec = Jvm.exec) (hlk : meth.locks = false) (eT : T.heap = h) (hret : meth.sig.returnType = none) (hd : decode c.code pc = .ok (.return_, 1))
    (hq : Qh none h locs) (hC : cells ≤ C) (hS : slots ≤ S) : own_Go p.tables e below (own_Q s Qh C S) (T.setTop (mkF m pc Ls [])) :=
  own_leave X hlk (v := none) (fun _ => rfl) (fun fs hr => X.returnOut hx hret hd hr) (eT ▸ hq) hC hS
/-! an array by its places -/
def own_upd {α : Type} (f : Nat → α) (k : Nat) (v : α) : Nat → α := fun j => if j = k then v else f j
theorem own_upd_eq {α : Type} (f : Nat → α) (k : Nat) (v : α) : own_upd f k v k = v := by simp [own_upd]
theorem own_upd_ne {α : Type} (f : Nat → α) {k j : Nat} (v : α) (q : j ≠ k) : own_upd f k v j = f j := by simp [own_upd, q]
def own_Ar (Z : State) (h : Heap) (a : Addr) (ty : FieldType) (n : Nat) (f : Nat → Value) : Prop := ∃ cl : Cell, Arr Z h a cl ty ∧ cl.slots.size = n ∧ ∀ j, j < n → cl.slots[j]? = some (f j)
/-- ints and what is kept as ints -/
abbrev own_AI (Z : State) (h : Heap) (a : Addr) (ty : FieldType) (n : Nat) (f : Nat → Int32) : Prop := own_Ar Z h a ty n (fun j => .int (f j))
abbrev own_AJ (Z : State) (h : Heap) (a : Addr) (n : Nat) (f : Nat → Int64) : Prop := own_Ar Z h a .long n (fun j => .long (f j))
section
variable {h' : Heap} {b : Addr} {ty : FieldType} {n : Nat} {f : Nat → Value} {v : Value} {sl : Nat} {ws : List Addr}
theorem own_Ar.lt (A : own_Ar Z h a ty n f) : a < h.size := by obtain ⟨cl, q, -⟩ := A; exact q.lt
theorem own_Ar.ext (A : own_Ar Z h a ty n f) (E : Ext h h') : own_Ar Z h' a ty n f := by obtain ⟨cl, q, r⟩ := A; exact ⟨cl, q.ext E, r⟩
theorem own_Ar.other (A : own_Ar Z h a ty n f) (W : Wr h h' b sl v) (q : a ≠ b) : own_Ar Z h' a ty n f := by obtain ⟨cl, r, r'⟩ := A; exact ⟨cl, r.other W q, r'⟩
theorem own_Ar.keep (A : own_Ar Z h a ty n f) (K : Keep h h' ws) (q : a ∉ ws) : own_Ar Z h' a ty n f := by obtain ⟨cl, r, r'⟩ := A; exact ⟨cl, ⟨K.2.1 _ _ r.1 q, r.2⟩, r'⟩
theorem own_Ar.congr (A : own_Ar Z h a ty n f) {g : Nat → Value} (q : ∀ j, j < n → f j = g j) : own_Ar Z h a ty n g := by obtain ⟨cl, r, r1, r2⟩ := A; exact ⟨cl, r, r1, fun j hj => by rw [r2 j hj, q j hj]⟩
theorem own_in {j : Int32} {k n : Nat} (hk : j.toInt = (k : Int)) (hn : k < n) {cl : Cell} (S : cl.slots.size = n) : ¬ (j < 0 ∨ cl.slots.size ≤ j.toNatClampNeg) ∧ j.toNatClampNeg = k := by
  have q : j.toNatClampNeg = k := by simp [Int32.toNatClampNeg, hk]
  refine ⟨fun r => ?_, q⟩
  rcases r with r | r
  · rw [Int32.lt_iff_toInt_lt] at r; simp only [Int32.reduceToInt] at r; omega
  · omega
theorem own_Ar.set (A : own_Ar Z h a ty n f) {k : Nat} (hk : k < n) (W : Wr h h' a k v) : own_Ar Z h' a ty n (own_upd f k v) := by
  obtain ⟨cl, r, r1, r2⟩ := A
  refine ⟨_, r.same W, by rw [sz_set]; exact r1, fun j hj => ?_⟩
  show (cl.slots.setIfInBounds k v)[j]? = _
  by_cases q : j = k
  · subst q; simp [own_upd, r1, hj]
  · rw [Array.getElem?_setIfInBounds_ne (fun y => q y.symm), r2 j hj, own_upd_ne _ _ q]
end
theorem own_bal (X : Stand p l e R s m args below meth c T locs cells slots) (hx : p.tables.exec = Jvm.exec) (hZ : Z.Warmed39 s.vm) (eT : T.heap = h) {n : Nat} {f : Nat → Value} (A : own_Ar Z h a .byte n f) {j : Int32} (k : Nat) (hk : j.toInt = (k : Int)) (hn : k < n) (hd : decode c.code pc = .ok (.baload, 1)) {t : State}
    (kt : Steps p.tables e below (T.setTop (mkF m (pc + 1) Ls (f k :: rest))) t) : Steps p.tables e below (T.setTop (mkF m pc Ls (.int j :: .ref a :: rest))) t := by
  obtain ⟨cl, r, r1, r2⟩ := A
  obtain ⟨q1, q2⟩ := own_in hk hn r1
  exact X.baloadBytes hx (j := j) (v := f k) (by rw [eT]; exact r.1) (State.isArrayOf_alike hZ.alike r.2.1) r.2.2 q1 (by rw [q2]; exact r2 k hn) (g := mkF m pc Ls (.int j :: .ref a :: rest)) rfl rfl hd _ kt
theorem own_ial (X : Stand p l e R s m args below meth c T locs cells slots) (hx : p.tables.exec = Jvm.exec) (hZ : Z.Warmed39 s.vm) (eT : T.heap = h) {n : Nat} {f : Nat → Value} (A : own_Ar Z h a .int n f) {j : Int32} (k : Nat) (hk : j.toInt = (k : Int)) (hn : k < n) (hd : decode c.code pc = .ok (.iaload, 1)) {t : State}
    (kt : Steps p.tables e below (T.setTop (mkF m (pc + 1) Ls (f k :: rest))) t) : Steps p.tables e below (T.setTop (mkF m pc Ls (.int j :: .ref a :: rest))) t := by
  obtain ⟨cl, r, r1, r2⟩ := A
  obtain ⟨q1, q2⟩ := own_in hk hn r1
  exact X.iaload hx (j := j) (v := f k) (by rw [eT]; exact r.1) (State.isArrayOf_alike hZ.alike r.2.1) r.2.2 q1 (by rw [q2]; exact r2 k hn) (g := mkF m pc Ls (.int j :: .ref a :: rest)) rfl rfl hd _ kt
theorem own_lal (X : Stand p l e R s m args below meth c T locs cells slots) (hx : p.tables.exec = Jvm.exec) (hZ : Z.Warmed39 s.vm) (eT : T.heap = h) {n : Nat} {f : Nat → Value} (A : own_Ar Z h a .long n f) {j : Int32} (k : Nat) (hk : j.toInt = (k : Int)) (hn : k < n) (hd : decode c.code pc = .ok (.laload, 1)) {t : State}
    (kt : Steps p.tables e below (T.setTop (mkF m (pc + 1) Ls (f k :: rest))) t) : Steps p.tables e below (T.setTop (mkF m pc Ls (.int j :: .ref a :: rest))) t := by
  obtain ⟨cl, r, r1, r2⟩ := A
  obtain ⟨q1, q2⟩ := own_in hk hn r1
  exact X.laload hx (j := j) (v := f k) (by rw [eT]; exact r.1) (State.isArrayOf_alike hZ.alike r.2.1) r.2.2 q1 (by rw [q2]; exact r2 k hn) (g := mkF m pc Ls (.int j :: .ref a :: rest)) rfl rfl hd _ kt
theorem own_len (X : Stand p l e R s m args below meth c T locs cells slots) (hx : p.tables.exec = Jvm.exec) (hZ : Z.Warmed39 s.vm) (eT : T.heap = h) {ty : FieldType} {n : Nat} {f : Nat → Value} (A : own_Ar Z h a ty n f) (z : Int32) (hz : z = n.toInt32) (hd : decode c.code pc = .ok (.arraylength, 1)) {t : State}
    (kt : Steps p.tables e below (T.setTop (mkF m (pc + 1) Ls (.int z :: rest))) t) : Steps p.tables e below (T.setTop (mkF m pc Ls (.ref a :: rest))) t := by
  obtain ⟨cl, r, r1, r2⟩ := A
  refine X.arraylength hx (by rw [eT]; exact r.1) (State.isArrayOf_alike hZ.alike r.2.1) (g := mkF m pc Ls (.ref a :: rest)) rfl rfl hd _ ?_
  rw [r1, ← hz]; exact kt
theorem own_bas (X : Stand p l e R s m args below meth c T locs cells slots) (hx : p.tables.exec = Jvm.exec) (hZ : Z.Warmed39 s.vm) (eT : T.heap = h) {n : Nat} {f : Nat → Int32} (A : own_AI Z h a .byte n f) {j x : Int32} (k : Nat) (hk : j.toInt = (k : Int)) (hn : k < n) (hd : decode c.code pc = .ok (.bastore, 1))
    (K : ∀ T' h', Stand p l e R s m args below meth c T' (locs ++ [⟨a, k⟩]) cells slots → T'.heap = h' → Wr h h' a k (.int (nar .byte x)) → own_AI Z h' a .byte n (own_upd f k (nar .byte x)) → own_Go p.tables e below Q (T'.setTop (mkF m (pc + 1) Ls rest))) :
    own_Go p.tables e below Q (T.setTop (mkF m pc Ls (.int x :: .int j :: .ref a :: rest))) := by
  obtain ⟨cl, r, r1, r2⟩ := id A
  obtain ⟨q1, q2⟩ := own_in hk hn r1
  obtain ⟨T', h', X', e', W, st⟩ := stB X hx hZ eT r (j := j) (x := x) q1 (g := mkF m pc Ls (.int x :: .int j :: .ref a :: rest)) rfl rfl hd
  rw [q2] at X' W
  exact own_by st (K T' h' X' e' W ((A.set hn W).congr fun i hi => by simp only [own_upd]; split <;> rfl))
theorem own_ias (X : Stand p l e R s m args below meth c T locs cells slots) (hx : p.tables.exec = Jvm.exec) (hZ : Z.Warmed39 s.vm) (eT : T.heap = h) {n : Nat} {f : Nat → Int32} (A : own_AI Z h a .int n f) {j x : Int32} (k : Nat) (hk : j.toInt = (k : Int)) (hn : k < n) (hd : decode c.code pc = .ok (.iastore, 1))
    (K : ∀ T' h', Stand p l e R s m args below meth c T' (locs ++ [⟨a, k⟩]) cells slots → T'.heap = h' → Wr h h' a k (.int x) → own_AI Z h' a .int n (own_upd f k x) → own_Go p.tables e below Q (T'.setTop (mkF m (pc + 1) Ls rest))) :
    own_Go p.tables e below Q (T.setTop (mkF m pc Ls (.int x :: .int j :: .ref a :: rest))) := by
  obtain ⟨cl, r, r1, r2⟩ := id A
  obtain ⟨q1, q2⟩ := own_in hk hn r1
  obtain ⟨T', h', X', e', W, st⟩ := stI X hx hZ eT r (j := j) (x := x) q1 (g := mkF m pc Ls (.int x :: .int j :: .ref a :: rest)) rfl rfl hd
  rw [q2] at X' W
  exact own_by st (K T' h' X' e' W ((A.set hn W).congr fun i hi => by simp only [own_upd]; split <;> rfl))
theorem own_las (X : Stand p l e R s m args below meth c T locs cells slots) (hx : p.tables.exec = Jvm.exec) (hZ : Z.Warmed39 s.vm) (eT : T.heap = h) {n : Nat} {f : Nat → Int64} (A : own_AJ Z h a n f) {j : Int32} {x : Int64} (k : Nat) (hk : j.toInt = (k : Int)) (hn : k < n) (hd : decode c.code pc = .ok (.lastore, 1))
    (K : ∀ T' h', Stand p l e R s m args below meth c T' (locs ++ [⟨a, k⟩]) cells slots → T'.heap = h' → Wr h h' a k (.long x) → own_AJ Z h' a n (own_upd f k x) → own_Go p.tables e below Q (T'.setTop (mkF m (pc + 1) Ls rest))) :
    own_Go p.tables e below Q (T.setTop (mkF m pc Ls (.long x :: .int j :: .ref a :: rest))) := by
  obtain ⟨cl, r, r1, r2⟩ := id A
  obtain ⟨q1, q2⟩ := own_in hk hn r1
  obtain ⟨T', h', X', e', W, st⟩ := stJ X hx hZ eT r (j := j) (x := x) q1 (g := mkF m pc Ls (.long x :: .int j :: .ref a :: rest)) rfl rfl hd
  rw [q2] at X' W
  exact own_by st (K T' h' X' e' W ((A.set hn W).congr fun i hi => by simp only [own_upd]; split <;> rfl))
theorem own_newP (X : Stand p l e R s m args below meth c T locs cells slots) (hx : p.tables.exec = Jvm.exec) (hZ : Z.Warmed39 s.vm) {a0 : Array Value} {aty : ArrayType} (w : (Cond.arrayClass (newarray.typeOf aty)).before a0 Z = true) (eT : T.heap = h) {n : Int32} (k : Nat) (hk : n.toInt = (k : Int)) (cap : Nat) (hcap : k ≤ cap) (hb : cap * 8 ≤ 536870912) (hc : cells + 1 ≤ R.cells) (hl : slots + cap ≤ R.slots)
    (hd : decode c.code pc = .ok (.newarray aty, 2))
    (K : ∀ T' h', Stand p l e R s m args below meth c T' locs (cells + 1) (slots + cap) → T'.heap = h' → Ext h h' → own_Ar Z h' h.size (newarray.typeOf aty) k (fun _ => defaultValue (newarray.typeOf aty)) → own_Go p.tables e below Q (T'.setTop (mkF m (pc + 2) Ls (.ref h.size :: rest)))) :
    own_Go p.tables e below Q (T.setTop (mkF m pc Ls (.int n :: rest))) := by
  have q : n.toNatClampNeg = k := by simp [Int32.toNatClampNeg, hk]
  have q0 : ¬ n < 0 := by rw [Int32.lt_iff_toInt_lt]; simp only [Int32.reduceToInt]; omega
  obtain ⟨T', h', kk, X', e', E, A, st⟩ := newP X hx hZ w eT (n := n) (g := mkF m pc Ls (.int n :: rest)) rfl hd rfl q0 (cap := cap) (by rw [q]; exact hcap) hb hc hl
  refine own_by st (K T' h' X' e' E ⟨_, A, by rw [sz_new, q], fun j hj => ?_⟩)
  simp [newA, q, hj]
section
variable {a0 : Array Value} {own : String} {index : Nat} {y : MethodName} {bytes : ByteArray} {maxL : Nat} {ret : Option FieldType} {rm : Room} {as' : Array Value} {Qc : Option Value → Heap → List Loc → Prop} {argsL : List Value} {St : List Value}
/-! calls by contract, with what comes behind -/
theorem own_callS (X : Stand p l e R s m args below meth c T locs cells slots) (hx : p.tables.exec = Jvm.exec) (hZ : Z.Warmed39 s.vm) (hown : s.vm.findClass own = some m.cls)
    (w1 : (Cond.methodLink own index y).before a0 Z = true) (w2 : (Cond.static y).before a0 Z = true) (w3 : (Cond.initialized y.cls).before a0 Z = true) (w4 : (Cond.code y bytes maxL ret).before a0 Z = true) (hy : y.cls ≠ "java/lang/invoke/MethodHandle" ∧ y.cls ≠ "java/lang/invoke/VarHandle")
    (hM : MetFree l y (head1 [Cond.code y bytes maxL ret] rm) (fun a U => a = as' ∧ Z.Warmed39 U.vm ∧ U.heap = h) (fun _ _ _ _ _ => True) (fun _ U o U' => ∃ v L, o = .returned v ∧ Qc v U'.heap L ∧ FrameEnd U o U' L rm.cells rm.slots))
    (eT : T.heap = h) (hsize : Ls.size = c.maxLocals) (argsL rest : List Value) (hst : St = argsL.reverse ++ rest) (hlen : ∀ sig, parseMethodDescriptor y.desc = some sig → argsL.length = sig.parameters.length) (ha : argsL.toArray = as') (W : Nat) (hW : 2 * 0 + (rest.map fun v => v.category).sum ≤ W)
    (hf : rm.frames + 1 ≤ R.frames) (hl : W + (maxL + 11) + rm.locals ≤ R.locals) (hc : cells + rm.cells ≤ R.cells) (hs : slots + rm.slots ≤ R.slots) (hd : decode c.code pc = .ok (.invokestatic index, 3))
    (K : ∀ T' Lc v, Stand p l e R s m args below meth c T' (locs ++ Lc) (cells + rm.cells) (slots + rm.slots) → Qc v T'.heap Lc → own_Go p.tables e below Q (T'.setTop (mkF m (pc + 3) Ls (v.toList ++ rest)))) :
    own_Go p.tables e below Q (T.setTop (mkF m pc Ls St)) := by
  obtain ⟨v, _, ⟨T1, L1, k1, n1⟩, -, X1, ⟨Lc, hQ, l1, y1, z1⟩, st1⟩ := Jvm.LawKit.callS X hx (y := y) hown (mvT hZ w1) (mvT hZ w2) (mvT hZ w3) (mvT hZ w4) hy (backOf (W := W) hM hZ w4 w3 hf hl) (g := mkF m pc Ls St) rfl hsize (argsL := argsL) (rest := rest) hlen hst hW hd (fun _ _ => ⟨ha, eT, hc, hs⟩)
  dsimp only [Pt.U, Pt.locs, Pt.cells, Pt.slots] at X1 l1 y1 z1 st1 hQ
  subst l1 y1 z1
  exact own_by st1 (K T1 Lc v X1 hQ)
theorem own_callI (X : Stand p l e R s m args below meth c T locs cells slots) (hx : p.tables.exec = Jvm.exec) (hZ : Z.Warmed39 s.vm) (hown : s.vm.findClass own = some m.cls) (hy1 : y.name = "<init>")
    (w1 : (Cond.methodLink own index y).before a0 Z = true) (w2 : (Cond.instanceMethod y).before a0 Z = true) (w3 : (Cond.initialized y.cls).before a0 Z = true) (w4 : (Cond.code y bytes maxL none).before a0 Z = true) (hy : y.cls ≠ "java/lang/invoke/MethodHandle" ∧ y.cls ≠ "java/lang/invoke/VarHandle")
    (hM : MetFree l y (head1 [Cond.code y bytes maxL none] rm) (fun a U => a = as' ∧ Z.Warmed39 U.vm ∧ U.heap = h) (fun _ _ _ _ _ => True) (fun _ U o U' => ∃ v L, o = .returned v ∧ Qc v U'.heap L ∧ FrameEnd U o U' L rm.cells rm.slots))
    (eT : T.heap = h) (hsize : Ls.size = c.maxLocals) (b : Addr) (argsL rest : List Value) (hst : St = argsL.reverse ++ .ref b :: rest) (hlen : ∀ sig, parseMethodDescriptor y.desc = some sig → argsL.length = sig.parameters.length) (ha : (Value.ref b :: argsL).toArray = as') (W : Nat) (hW : 2 * 0 + (rest.map fun v => v.category).sum ≤ W)
    (hf : rm.frames + 1 ≤ R.frames) (hl : W + (maxL + 11) + rm.locals ≤ R.locals) (hc : cells + rm.cells ≤ R.cells) (hs : slots + rm.slots ≤ R.slots) (hd : decode c.code pc = .ok (.invokespecial index, 3))
    (K : ∀ T' Lc v, Stand p l e R s m args below meth c T' (locs ++ Lc) (cells + rm.cells) (slots + rm.slots) → Qc v T'.heap Lc → own_Go p.tables e below Q (T'.setTop (mkF m (pc + 3) Ls (v.toList ++ rest)))) :
    own_Go p.tables e below Q (T.setTop (mkF m pc Ls St)) := by
  obtain ⟨v, _, ⟨T1, L1, k1, n1⟩, -, X1, ⟨Lc, hQ, l1, y1, z1⟩, st1⟩ := X.specialBack hx (y := y) hy1 hown (mvT hZ w1) (mvT hZ w2) (mvT hZ w4) hy (backOf (W := W) hM hZ w4 w3 hf hl) (g := mkF m pc Ls St) rfl hsize (Steps.refl _) (a := b) (argsL := argsL) (rest := rest) hlen hst hW hd (fun _ _ => ⟨ha, eT, hc, hs⟩)
  dsimp only [Pt.U, Pt.locs, Pt.cells, Pt.slots] at X1 l1 y1 z1 st1 hQ
  subst l1 y1 z1
  exact own_tr st1 (K T1 Lc v X1 hQ)
theorem own_callV {C : String} {z : MethodName} (X : Stand p l e R s m args below meth c T locs cells slots) (hx : p.tables.exec = Jvm.exec) (hZ : Z.Warmed39 s.vm) (hown : s.vm.findClass own = some m.cls)
    (w1 : (Cond.methodLink own index y).before a0 Z = true) (w2 : (Cond.declares y).before a0 Z = true) (hnf : NotFace s y) (w5 : (Cond.selects C y z).before a0 Z = true) (w6 : (Cond.instanceMethod z).before a0 Z = true) (w3 : (Cond.initialized z.cls).before a0 Z = true) (w4 : (Cond.code z bytes maxL ret).before a0 Z = true) (hy : y.cls ≠ "java/lang/invoke/MethodHandle" ∧ y.cls ≠ "java/lang/invoke/VarHandle")
    (hM : MetFree l z (head1 [Cond.code z bytes maxL ret] rm) (fun a U => a = as' ∧ Z.Warmed39 U.vm ∧ U.heap = h) (fun _ _ _ _ _ => True) (fun _ U o U' => ∃ v L, o = .returned v ∧ Qc v U'.heap L ∧ FrameEnd U o U' L rm.cells rm.slots))
    (eT : T.heap = h) (b : Addr) (E : Exa Z h b C) (hsize : Ls.size = c.maxLocals) (argsL rest : List Value) (hst : St = argsL.reverse ++ .ref b :: rest) (hlen : ∀ sig, parseMethodDescriptor y.desc = some sig → argsL.length = sig.parameters.length) (ha : (Value.ref b :: argsL).toArray = as') (W : Nat) (hW : 2 * 0 + (rest.map fun v => v.category).sum ≤ W)
    (hf : rm.frames + 1 ≤ R.frames) (hl : W + (maxL + 11) + rm.locals ≤ R.locals) (hc : cells + rm.cells ≤ R.cells) (hs : slots + rm.slots ≤ R.slots) (hd : decode c.code pc = .ok (.invokevirtual index, 3))
    (K : ∀ T' Lc v, Stand p l e R s m args below meth c T' (locs ++ Lc) (cells + rm.cells) (slots + rm.slots) → Qc v T'.heap Lc → own_Go p.tables e below Q (T'.setTop (mkF m (pc + 3) Ls (v.toList ++ rest)))) :
    own_Go p.tables e below Q (T.setTop (mkF m pc Ls St)) := by
  obtain ⟨cq, kq, qa, qb, qc⟩ := isOf hZ eT E
  obtain ⟨v, _, ⟨T1, L1, k1, n1⟩, -, X1, ⟨Lc, hQ, l1, y1, z1⟩, st1⟩ := X.virtualBack hx (y := y) (z := z) hown (mvT hZ w1) (mvT hZ w2) hnf (mvT hZ w5) (mvT hZ w6) hy (backOf (W := W) hM hZ w4 w3 hf hl) qa qc (g := mkF m pc Ls St) rfl hsize (Steps.refl _) (argsL := argsL) (rest := rest) hlen hst hW hd (fun _ _ => ⟨ha, eT, hc, hs⟩)
  dsimp only [Pt.U, Pt.locs, Pt.cells, Pt.slots] at X1 l1 y1 z1 st1 hQ
  subst l1 y1 z1
  exact own_tr st1 (K T1 Lc v X1 hQ)
theorem own_selp {s : State} {aa : Array Value} {y y' : MethodName} (hc : y.cls = y'.cls) (w1 : (Cond.selects y'.cls y' y').before aa s = true) (hpriv : s.PrivateAt y) (hinst : (Cond.instanceMethod y).before aa s = true) (hy : y.cls ≠ "java/lang/invoke/MethodHandle" ∧ y.cls ≠ "java/lang/invoke/VarHandle") : (Cond.selects y.cls y y).before aa s = true := by
  obtain ⟨c2, r2, m2, q0, -, q3, -, kP, hkP, hkPi⟩ := Cond.selects_spec w1
  have h1 : s.vm.findClass y'.cls = some m2.cls := findClass_of_methodNamed q3
  exact selects_self_of_private (by rw [hc]; exact h1) hkP hkPi hpriv hinst hy
theorem own_callP {y' : MethodName} (X : Stand p l e R s m args below meth c T locs cells slots) (hx : p.tables.exec = Jvm.exec) (hZ : Z.Warmed39 s.vm) (hown : s.vm.findClass own = some m.cls)
    (w1 : (Cond.methodLink own index y).before a0 Z = true) (w2 : (Cond.instanceMethod y).before a0 Z = true) (w5 : (Cond.privateMethod y).before a0 Z = true) (hcc : y.cls = y'.cls) (w6 : (Cond.selects y'.cls y' y').before a0 Z = true) (w3 : (Cond.initialized y.cls).before a0 Z = true) (w4 : (Cond.code y bytes maxL ret).before a0 Z = true) (hy : y.cls ≠ "java/lang/invoke/MethodHandle" ∧ y.cls ≠ "java/lang/invoke/VarHandle")
    (hM : MetFree l y (head1 [Cond.code y bytes maxL ret] rm) (fun a U => a = as' ∧ Z.Warmed39 U.vm ∧ U.heap = h) (fun _ _ _ _ _ => True) (fun _ U o U' => ∃ v L, o = .returned v ∧ Qc v U'.heap L ∧ FrameEnd U o U' L rm.cells rm.slots))
    (eT : T.heap = h) (b : Addr) {C : String} (E : Exa Z h b C) (hsize : Ls.size = c.maxLocals) (argsL rest : List Value) (hst : St = argsL.reverse ++ .ref b :: rest) (hlen : ∀ sig, parseMethodDescriptor y.desc = some sig → argsL.length = sig.parameters.length) (ha : (Value.ref b :: argsL).toArray = as') (W : Nat) (hW : 2 * 0 + (rest.map fun v => v.category).sum ≤ W)
    (hf : rm.frames + 1 ≤ R.frames) (hl : W + (maxL + 11) + rm.locals ≤ R.locals) (hc : cells + rm.cells ≤ R.cells) (hs : slots + rm.slots ≤ R.slots) (hd : decode c.code pc = .ok (.invokevirtual index, 3))
    (K : ∀ T' Lc v, Stand p l e R s m args below meth c T' (locs ++ Lc) (cells + rm.cells) (slots + rm.slots) → Qc v T'.heap Lc → own_Go p.tables e below Q (T'.setTop (mkF m (pc + 3) Ls (v.toList ++ rest)))) :
    own_Go p.tables e below Q (T.setTop (mkF m pc Ls St)) := by
  obtain ⟨cq, q1, q2⟩ := E.cell
  have hpr := Cond.privateMethod_at (mvP hZ w5 (args := #[]))
  obtain ⟨v, _, ⟨T1, L1, k1, n1⟩, -, X1, ⟨Lc, hQ, l1, y1, z1⟩, st1⟩ := X.privateBack hx (y := y) hown (mvT hZ w1) (mvT hZ w2) (own_selp hcc (mvT hZ w6) hpr (mvT hZ w2) hy) hpr (mvT hZ w4) hy (backOf (W := W) hM hZ w4 w3 hf hl) (g := mkF m pc Ls St) rfl hsize (Steps.refl _) (a := b) (by rw [eT]; exact q1) q2 (argsL := argsL) (rest := rest) hlen hst hW hd (fun _ _ => ⟨ha, eT, hc, hs⟩)
  dsimp only [Pt.U, Pt.locs, Pt.cells, Pt.slots] at X1 l1 y1 z1 st1 hQ
  subst l1 y1 z1
  exact own_tr st1 (K T1 Lc v X1 hQ)
end
theorem own_size_wr {h h' : Heap} {b : Addr} {sl : Nat} {v : Value} {n0 : Nat} (W : Wr h h' b sl v) (q : n0 ≤ h.size) : n0 ≤ h'.size := by rw [W.size]; exact q
end OwnGo
theorem own_inc {i j : Int32} {e : Nat} (h : i.toInt = (e : Int)) (he : e ≤ 100) (hj : i + (1 : Int32) = j) : j.toInt = ((e + 1 : Nat) : Int) := by
  have c := c_iadd i 1
  have l : (1 : Int32).toInt = 1 := by decide
  have r2 := rng32 j
  rw [hj, l] at c
  omega
theorem own_addn {i x : Int32} {e k : Nat} (h : i.toInt = (e : Int)) (he : e ≤ 100) (hx : x.toInt = (k : Int)) (hk : k ≤ 100) : (i + x).toInt = ((e + k : Nat) : Int) := by
  have c := c_iadd i x
  have r2 := rng32 (i + x)
  omega
theorem own_subn {i x : Int32} {e k : Int} (h : i.toInt = e) (hx : x.toInt = k) (he : -1000 ≤ e ∧ e ≤ 1000) (hk : -1000 ≤ k ∧ k ≤ 1000) : (i - x).toInt = e - k := by
  have c := c_isub i x
  have r2 := rng32 (i - x)
  omega
theorem own_narb (z : Int32) (h1 : -128 ≤ z.toInt) (h2 : z.toInt < 128) : nar .byte z = z := by
  have c := c_i2b z
  exact Int32.toInt_inj.mp (by show z.toInt8.toInt32.toInt = _; omega)
theorem own_pow_pos (k : Nat) : 0 < 10 ^ k := Nat.pow_pos (by decide)
theorem own_pow_le (k : Nat) (h : k ≤ 9) : 10 ^ k ≤ 1000000000 := by
  have := Nat.pow_le_pow_right (n := 10) (by decide) h; simpa using this
theorem own_ne1 (p : Int32) (P : Nat) (hp : p.toInt = (P : Int)) : p ≠ -1 := fun e => by
  have : (-1 : Int32).toInt = -1 := by decide
  rw [e] at hp; omega
theorem own_div (m p : Int32) (M P : Nat) (hm : m.toInt = (M : Int)) (hp : p.toInt = (P : Int)) : (m / p).toInt = ((M / P : Nat) : Int) := by
  rw [(c_idiv m p P hp (own_ne1 p P hp)).1 (by omega), hm]; rfl
theorem own_rem (m p : Int32) (M P : Nat) (hm : m.toInt = (M : Int)) (hp : p.toInt = (P : Int)) : (m % p).toInt = ((M % P : Nat) : Int) := by
  rw [(c_irem m p P hp).1 (by omega), hm]; rfl
theorem own_atv (v p : Int32) (V P : Nat) (hv : v.toInt = (V : Int)) (hp : p.toInt = (P : Int)) : (nar .byte (((48 : Int32) + ((v / p) % (10 : Int32))).toInt8.toInt32)).toInt = ((48 + (V / P) % 10 : Nat) : Int) := by
  have e1 := own_rem (v / p) 10 (V / P) 10 (own_div v p V P hv hp) (by decide)
  have c := c_iadd 48 ((v / p) % (10 : Int32))
  have l : (48 : Int32).toInt = 48 := by decide
  have r := rng32 ((48 : Int32) + ((v / p) % (10 : Int32)))
  have c2 := c_i2b ((48 : Int32) + ((v / p) % (10 : Int32)))
  have e2 : nar .byte (((48 : Int32) + ((v / p) % (10 : Int32))).toInt8.toInt32) = ((48 : Int32) + ((v / p) % (10 : Int32))).toInt8.toInt32 := by simp only [nar, Int8.toInt8_toInt32]
  rw [e2]
  rw [l, e1] at c
  omega
/-! the numbers -/
def own_num (d : Nat → Nat) : Nat → Nat
  | 0 => 0
  | n + 1 => own_num d n * 10 + d n
theorem own_num_lt (d : Nat → Nat) (L : Nat) (hd : ∀ j, j < L → d j ≤ 9) : ∀ n, n ≤ L → own_num d n < 10 ^ n
  | 0, _ => by simp [own_num]
  | n + 1, h => by
    have := own_num_lt d L hd n (by omega)
    have := hd n (by omega)
    rw [own_num, Nat.pow_succ]; omega
theorem own_num_of (d : Nat → Nat) (W L : Nat) (hW : W < 10 ^ L) (hd : ∀ j, j < L → d j = (W / 10 ^ (L - 1 - j)) % 10) : ∀ n, n ≤ L → own_num d n = W / 10 ^ (L - n)
  | 0, _ => by rw [own_num, Nat.sub_zero, Nat.div_eq_of_lt hW]
  | n + 1, h => by
    rw [own_num, own_num_of d W L hW hd n (by omega), hd n (by omega)]
    have q : W / 10 ^ (L - n) = (W / 10 ^ (L - 1 - n)) / 10 := by rw [Nat.div_div_eq_div_mul, ← Nat.pow_succ]; congr 2; omega
    rw [q, show L - (n + 1) = L - 1 - n by omega]
    generalize W / 10 ^ (L - 1 - n) = w
    omega
theorem own_num_up (d e : Nat → Nat) (i : Nat) (hlo : ∀ j, j ≠ i → e j = d j) : ∀ n, (n ≤ i → own_num e n = own_num d n) ∧ (i < n → own_num e n + d i * 10 ^ (n - 1 - i) = own_num d n + e i * 10 ^ (n - 1 - i))
  | 0 => ⟨fun _ => rfl, fun h => by omega⟩
  | n + 1 => by
    obtain ⟨h1, h2⟩ := own_num_up d e i hlo n
    refine ⟨fun h => by rw [own_num, own_num, h1 (by omega), hlo n (by omega)], fun h => ?_⟩
    rw [own_num, own_num]
    by_cases q : n = i
    · subst q
      rw [h1 (Nat.le_refl _), show n + 1 - 1 - n = 0 by omega]; omega
    · have := h2 (by omega)
      rw [hlo n q, show n + 1 - 1 - i = (n - 1 - i) + 1 by omega, Nat.pow_succ]
      generalize 10 ^ (n - 1 - i) = t at *
      have a1 : d i * (t * 10) = (d i * t) * 10 := by rw [Nat.mul_assoc]
      have a2 : e i * (t * 10) = (e i * t) * 10 := by rw [Nat.mul_assoc]
      rw [a1, a2]; omega
theorem own_digW (V L k : Nat) (h : k < L) : (V / 10 ^ k) % 10 = ((V % 10 ^ L) / 10 ^ k) % 10 := by
  have e : 10 ^ L = 10 ^ k * 10 ^ (L - k) := by rw [← Nat.pow_add]; congr 1; omega
  rw [e, Nat.mod_mul_right_div_self]
  have e2 : 10 ^ (L - k) = 10 * 10 ^ (L - k - 1) := by rw [Nat.mul_comm, ← Nat.pow_succ]; congr 1; omega
  rw [Nat.mod_mod_of_dvd _ ⟨_, e2⟩]
/-! decimal -/
def own_dl (f : Nat → Int32) : Nat → Nat → Int32 → Int32
  | 0, _, acc => acc
  | r + 1, i, acc => if f i - (48 : Int32) < (0 : Int32) then -1 else if (9 : Int32) < f i - (48 : Int32) then -1 else own_dl f r (i + 1) ((10 : Int32) * acc + (f i - (48 : Int32)))
def own_dec (f : Nat → Int32) (F L : Nat) : Int32 := if L = 0 ∨ 9 < L then -1 else if f F = (48 : Int32) ∧ 1 < L then -1 else own_dl f L F 0
theorem own_l0 : (0 : Int32).toInt = 0 := by decide
theorem own_l9 : (9 : Int32).toInt = 9 := by decide
theorem own_l48 : (48 : Int32).toInt = 48 := by decide
theorem own_lm1 : (-1 : Int32).toInt = -1 := by decide
theorem own_d48 (x : Int32) (h1 : -128 ≤ x.toInt) (h2 : x.toInt < 128) : (x - (48 : Int32)).toInt = x.toInt - 48 := by
  have c := c_isub x 48
  have r := rng32 (x - 48)
  rw [own_l48] at c; omega
theorem own_dl_ok (f : Nat → Int32) (F L : Nat) (d : Nat → Nat) (hL : L ≤ 9) (hd : ∀ j, j < L → d j ≤ 9) (hf : ∀ j, j < L → (f (F + j)).toInt = ((48 + d j : Nat) : Int)) :
    ∀ (r j : Nat) (acc : Int32), j + r = L → acc.toInt = (own_num d j : Int) → (own_dl f r (F + j) acc).toInt = (own_num d L : Int)
  | 0, j, acc, h, ha => by rw [show L = j by omega]; exact ha
  | r + 1, j, acc, h, ha => by
    have h1 := hd j (by omega)
    have h2 := hf j (by omega)
    have h3 := own_d48 (f (F + j)) (by omega) (by omega)
    have h4 := own_num_lt d L hd j (by omega)
    have h4' := own_pow_le j (by omega)
    have h5 := own_num_lt d L hd (j + 1) (by omega)
    have h5' := own_pow_le (j + 1) (by omega)
    rw [own_dl, if_neg (by rw [Int32.lt_iff_toInt_lt, own_l0]; omega), if_neg (by rw [Int32.lt_iff_toInt_lt, own_l9]; omega)]
    have c1 := c_imul 10 acc
    have l10 : (10 : Int32).toInt = 10 := by decide
    have c2 := c_iadd ((10 : Int32) * acc) (f (F + j) - (48 : Int32))
    have r1 := rng32 ((10 : Int32) * acc)
    have r2 := rng32 ((10 : Int32) * acc + (f (F + j) - (48 : Int32)))
    rw [own_num] at h5
    have e : ((10 : Int32) * acc + (f (F + j) - (48 : Int32))).toInt = (own_num d (j + 1) : Int) := by
      rw [own_num]; rw [l10, ha] at c1; omega
    rw [show F + j + 1 = F + (j + 1) by omega]
    exact own_dl_ok f F L d hL hd hf r (j + 1) _ (by omega) e
theorem own_dl_bad (f : Nat → Int32) (F i : Nat) (hb : (f (F + i) - (48 : Int32)).toInt < 0 ∨ 9 < (f (F + i) - (48 : Int32)).toInt) :
    ∀ (r j : Nat) (acc : Int32), j ≤ i → i < j + r → own_dl f r (F + j) acc = -1
  | 0, j, acc, h, h' => by omega
  | r + 1, j, acc, h, h' => by
    rw [own_dl]
    split
    · rfl
    · split
      · rfl
      · rename_i q1 q2
        by_cases q : j = i
        · subst q
          rw [Int32.lt_iff_toInt_lt, own_l0] at q1
          rw [Int32.lt_iff_toInt_lt, own_l9] at q2
          omega
        · rw [show F + j + 1 = F + (j + 1) by omega]; exact own_dl_bad f F i hb r (j + 1) _ (by omega) (by omega)
/-! what the law expects -/
def own_ex (V F L : Nat) (hit : Int32) (P : Nat) (nd : Int) : Int :=
  if L = 0 ∨ 9 < L then -1
  else if ¬ hit = 0 ∧ F ≤ P ∧ P < F + L then
    (if nd < 0 ∨ 9 < nd then -1
     else if (if P = F then nd else (((V % 10 ^ L) / 10 ^ (L - 1) : Nat) : Int)) = 0 ∧ 1 < L then -1
     else ((V % 10 ^ L : Nat) : Int) + (nd - (((V % 10 ^ L) / 10 ^ (L - 1 - (P - F)) % 10 : Nat) : Int)) * ((10 ^ (L - 1 - (P - F)) : Nat) : Int))
  else if (V % 10 ^ L) / 10 ^ (L - 1) = 0 ∧ 1 < L then -1 else ((V % 10 ^ L : Nat) : Int)
theorem own_exA {V F L : Nat} {hit : Int32} {P : Nat} {nd : Int} (h : L = 0 ∨ 9 < L) : own_ex V F L hit P nd = -1 := by rw [own_ex, if_pos h]
theorem own_exB {V F L : Nat} {hit : Int32} {P : Nat} {nd : Int} (h : ¬ (L = 0 ∨ 9 < L)) (h2 : ¬ (¬ hit = 0 ∧ F ≤ P ∧ P < F + L)) : own_ex V F L hit P nd = if (V % 10 ^ L) / 10 ^ (L - 1) = 0 ∧ 1 < L then -1 else ((V % 10 ^ L : Nat) : Int) := by rw [own_ex, if_neg h, if_neg h2]
theorem own_exC {V F L : Nat} {hit : Int32} {P : Nat} {nd : Int} (h : ¬ (L = 0 ∨ 9 < L)) (h2 : ¬ hit = 0 ∧ F ≤ P ∧ P < F + L) (h3 : nd < 0 ∨ 9 < nd) : own_ex V F L hit P nd = -1 := by rw [own_ex, if_neg h, if_pos h2, if_pos h3]
theorem own_exD {V F L : Nat} {hit : Int32} {P : Nat} {nd : Int} (h : ¬ (L = 0 ∨ 9 < L)) (h2 : ¬ hit = 0 ∧ F ≤ P ∧ P < F + L) (h3 : ¬ (nd < 0 ∨ 9 < nd)) : own_ex V F L hit P nd = if (if P = F then nd else (((V % 10 ^ L) / 10 ^ (L - 1) : Nat) : Int)) = 0 ∧ 1 < L then -1 else ((V % 10 ^ L : Nat) : Int) + (nd - (((V % 10 ^ L) / 10 ^ (L - 1 - (P - F)) % 10 : Nat) : Int)) * ((10 ^ (L - 1 - (P - F)) : Nat) : Int) := by rw [own_ex, if_neg h, if_pos h2, if_neg h3]
/-- the two agree: digits as they are -/
theorem own_agree0 (f : Nat → Int32) (V F L : Nat) (hit : Int32) (P : Nat) (nd : Int) (hL : L ≤ 10) (h2 : ¬ (¬ hit = 0 ∧ F ≤ P ∧ P < F + L))
    (hf : ∀ j, j < L → (f (F + j)).toInt = ((48 + (V / 10 ^ (L - 1 - j)) % 10 : Nat) : Int)) : (own_dec f F L).toInt = own_ex V F L hit P nd := by
  by_cases h1 : L = 0 ∨ 9 < L
  · rw [own_exA h1, own_dec, if_pos h1]; exact own_lm1
  rw [own_exB h1 h2, own_dec, if_neg h1]
  have hW : V % 10 ^ L < 10 ^ L := Nat.mod_lt _ (own_pow_pos L)
  have hd : ∀ j, j < L → (fun j => (V / 10 ^ (L - 1 - j)) % 10) j = ((V % 10 ^ L) / 10 ^ (L - 1 - j)) % 10 := fun j hj => own_digW V L _ (by omega)
  have hlead : (f F).toInt = ((48 + (V % 10 ^ L) / 10 ^ (L - 1) : Nat) : Int) := by
    have q := hf 0 (by omega)
    rw [Nat.add_zero, Nat.sub_zero] at q
    have q2 := hd 0 (by omega)
    simp only [Nat.sub_zero] at q2
    have q3 : (V % 10 ^ L) / 10 ^ (L - 1) < 10 := by
      rw [Nat.div_lt_iff_lt_mul (own_pow_pos _), Nat.mul_comm, ← Nat.pow_succ]
      rw [show (L - 1).succ = L by omega]; exact hW
    rw [q, q2, Nat.mod_eq_of_lt q3]
  have hl : f F = (48 : Int32) ↔ (V % 10 ^ L) / 10 ^ (L - 1) = 0 := by
    rw [← Int32.toInt_inj, hlead, own_l48]; omega
  by_cases h3 : (V % 10 ^ L) / 10 ^ (L - 1) = 0 ∧ 1 < L
  · rw [if_pos h3, if_pos ⟨hl.mpr h3.1, h3.2⟩]; exact own_lm1
  · rw [if_neg h3, if_neg (fun q => h3 ⟨hl.mp q.1, q.2⟩)]
    have q := own_dl_ok f F L (fun j => (V / 10 ^ (L - 1 - j)) % 10) (by omega) (fun j _ => by have := Nat.mod_lt (V / 10 ^ (L - 1 - j)) (show 0 < 10 by decide); omega) hf L 0 0 (by omega) rfl
    rw [show F + 0 = F from rfl] at q
    rw [q, own_num_of _ (V % 10 ^ L) L hW hd L (Nat.le_refl _), Nat.sub_self, Nat.pow_zero, Nat.div_one]
/-- the two agree: one digit written over -/
theorem own_agree1 (f : Nat → Int32) (V F L : Nat) (hit nb : Int32) (P : Nat) (hL : L ≤ 10) (h2 : ¬ hit = 0 ∧ F ≤ P ∧ P < F + L) (hb : -128 ≤ nb.toInt ∧ nb.toInt < 128)
    (hP : f P = nb) (hf : ∀ j, j < L → F + j ≠ P → (f (F + j)).toInt = ((48 + (V / 10 ^ (L - 1 - j)) % 10 : Nat) : Int)) : (own_dec f F L).toInt = own_ex V F L hit P (nb.toInt - 48) := by
  by_cases h1 : L = 0 ∨ 9 < L
  · rw [own_exA h1, own_dec, if_pos h1]; exact own_lm1
  have hnb := own_d48 nb hb.1 hb.2
  have hPF : F + (P - F) = P := by omega
  by_cases h3 : nb.toInt - 48 < 0 ∨ 9 < nb.toInt - 48
  · rw [own_exC h1 h2 h3, own_dec, if_neg h1]
    have q := own_dl_bad f F (P - F) (by rw [hPF, hP, hnb]; exact h3) L 0 0 (by omega) (by omega)
    rw [show F + 0 = F from rfl] at q
    split
    · exact own_lm1
    · rw [q]; exact own_lm1
  rw [own_exD h1 h2 h3, own_dec, if_neg h1]
  have hW : V % 10 ^ L < 10 ^ L := Nat.mod_lt _ (own_pow_pos L)
  obtain ⟨nd, hnd⟩ : ∃ nd : Nat, nb.toInt = ((48 + nd : Nat) : Int) := ⟨(nb.toInt - 48).toNat, by omega⟩
  have hnd9 : nd ≤ 9 := by omega
  have hd0 : ∀ j, j < L → (fun j => (V / 10 ^ (L - 1 - j)) % 10) j = ((V % 10 ^ L) / 10 ^ (L - 1 - j)) % 10 := fun j hj => own_digW V L _ (by omega)
  have hd9 : ∀ j, j < L → own_upd (fun j => (V / 10 ^ (L - 1 - j)) % 10) (P - F) nd j ≤ 9 := fun j _ => by
    simp only [own_upd]; split
    · exact hnd9
    · have := Nat.mod_lt (V / 10 ^ (L - 1 - j)) (show 0 < 10 by decide); omega
  have hff : ∀ j, j < L → (f (F + j)).toInt = ((48 + own_upd (fun j => (V / 10 ^ (L - 1 - j)) % 10) (P - F) nd j : Nat) : Int) := fun j hj => by
    by_cases q : j = P - F
    · subst q; rw [hPF, hP, own_upd_eq, hnd]
    · rw [own_upd_ne _ _ q]; exact hf j hj (by omega)
  have hq3 : (V % 10 ^ L) / 10 ^ (L - 1) < 10 := by
    rw [Nat.div_lt_iff_lt_mul (own_pow_pos _), Nat.mul_comm, ← Nat.pow_succ]
    rw [show (L - 1).succ = L by omega]; exact hW
  have hlead : (f F).toInt = 48 + (if P = F then nb.toInt - 48 else (((V % 10 ^ L) / 10 ^ (L - 1) : Nat) : Int)) := by
    by_cases q : P = F
    · rw [if_pos q, ← q, hP]; omega
    · rw [if_neg q]
      have q1 := hf 0 (by omega) (by omega)
      rw [Nat.add_zero, Nat.sub_zero] at q1
      have q2 := hd0 0 (by omega)
      simp only [Nat.sub_zero] at q2
      rw [q1, q2, Nat.mod_eq_of_lt hq3]; omega
  have hl : f F = (48 : Int32) ↔ (if P = F then nb.toInt - 48 else (((V % 10 ^ L) / 10 ^ (L - 1) : Nat) : Int)) = 0 := by
    rw [← Int32.toInt_inj, hlead, own_l48]; omega
  by_cases h4 : (if P = F then nb.toInt - 48 else (((V % 10 ^ L) / 10 ^ (L - 1) : Nat) : Int)) = 0 ∧ 1 < L
  · rw [if_pos h4, if_pos ⟨hl.mpr h4.1, h4.2⟩]; exact own_lm1
  · rw [if_neg h4, if_neg (fun q => h4 ⟨hl.mp q.1, q.2⟩)]
    have q := own_dl_ok f F L _ (by omega) hd9 hff L 0 0 (by omega) rfl
    rw [show F + 0 = F from rfl] at q
    have q2 := (own_num_up (fun j => (V / 10 ^ (L - 1 - j)) % 10) (own_upd (fun j => (V / 10 ^ (L - 1 - j)) % 10) (P - F) nd) (P - F) (fun j hj => own_upd_ne _ _ hj) L).2 (by omega)
    rw [own_num_of _ (V % 10 ^ L) L hW hd0 L (Nat.le_refl _), Nat.sub_self, Nat.pow_zero, Nat.div_one, own_upd_eq] at q2
    have q3 := hd0 (P - F) (by omega)
    simp only at q3
    rw [q, hnd]
    simp only [q3] at q2
    generalize 10 ^ (L - 1 - (P - F)) = t at *
    generalize V % 10 ^ L = W at *
    generalize (W / t) % 10 = od at *
    generalize own_num (own_upd (fun j => V / 10 ^ (L - 1 - j) % 10) (P - F) nd) L = r at *
    have e1 : ((48 + nd : Nat) : Int) - 48 = (nd : Int) := by omega
    rw [e1, Int.sub_mul]
    have q4 : (r : Int) + (od : Int) * (t : Int) = (W : Int) + (nd : Int) * (t : Int) := by exact_mod_cast q2
    omega
theorem own_pd0 : parseMethodDescriptor "(IIIIB)B" = some ⟨[.int, .int, .int, .int, .byte], some .byte⟩ := by decide +kernel
theorem own_pd1 : parseMethodDescriptor "(IIIZIB)I" = some ⟨[.int, .int, .int, .boolean, .int, .byte], some .int⟩ := by decide +kernel
theorem own_pd2 : parseMethodDescriptor "([BII)I" = some ⟨[(.array .byte), .int, .int], some .int⟩ := by decide +kernel
theorem own_pd3 : parseMethodDescriptor "(I)I" = some ⟨[.int], some .int⟩ := by decide +kernel
theorem d4_0 : decode method_5_code 0 = .ok (.bipush 10, 2) := by decide +kernel
theorem d4_2 : decode method_5_code 2 = .ok (.newarray .int, 2) := by decide +kernel
theorem d4_4 : decode method_5_code 4 = .ok (.dup, 1) := by decide +kernel
theorem d4_5 : decode method_5_code 5 = .ok (.iconst 0, 1) := by decide +kernel
theorem d4_6 : decode method_5_code 6 = .ok (.iconst 1, 1) := by decide +kernel
theorem d4_7 : decode method_5_code 7 = .ok (.iastore, 1) := by decide +kernel
theorem d4_8 : decode method_5_code 8 = .ok (.dup, 1) := by decide +kernel
theorem d4_9 : decode method_5_code 9 = .ok (.iconst 1, 1) := by decide +kernel
theorem d4_10 : decode method_5_code 10 = .ok (.bipush 10, 2) := by decide +kernel
theorem d4_12 : decode method_5_code 12 = .ok (.iastore, 1) := by decide +kernel
theorem d4_13 : decode method_5_code 13 = .ok (.dup, 1) := by decide +kernel
theorem d4_14 : decode method_5_code 14 = .ok (.iconst 2, 1) := by decide +kernel
theorem d4_15 : decode method_5_code 15 = .ok (.bipush 100, 2) := by decide +kernel
theorem d4_17 : decode method_5_code 17 = .ok (.iastore, 1) := by decide +kernel
theorem d4_18 : decode method_5_code 18 = .ok (.dup, 1) := by decide +kernel
theorem d4_19 : decode method_5_code 19 = .ok (.iconst 3, 1) := by decide +kernel
theorem d4_20 : decode method_5_code 20 = .ok (.sipush 1000, 3) := by decide +kernel
theorem d4_23 : decode method_5_code 23 = .ok (.iastore, 1) := by decide +kernel
theorem d4_24 : decode method_5_code 24 = .ok (.dup, 1) := by decide +kernel
theorem d4_25 : decode method_5_code 25 = .ok (.iconst 4, 1) := by decide +kernel
theorem d4_26 : decode method_5_code 26 = .ok (.sipush 10000, 3) := by decide +kernel
theorem d4_29 : decode method_5_code 29 = .ok (.iastore, 1) := by decide +kernel
theorem d4_30 : decode method_5_code 30 = .ok (.dup, 1) := by decide +kernel
theorem d4_31 : decode method_5_code 31 = .ok (.iconst 5, 1) := by decide +kernel
theorem d4_32 : decode method_5_code 32 = .ok (.ldc 30, 2) := by decide +kernel
theorem d4_34 : decode method_5_code 34 = .ok (.iastore, 1) := by decide +kernel
theorem d4_35 : decode method_5_code 35 = .ok (.dup, 1) := by decide +kernel
theorem d4_36 : decode method_5_code 36 = .ok (.bipush 6, 2) := by decide +kernel
theorem d4_38 : decode method_5_code 38 = .ok (.ldc 31, 2) := by decide +kernel
theorem d4_40 : decode method_5_code 40 = .ok (.iastore, 1) := by decide +kernel
theorem d4_41 : decode method_5_code 41 = .ok (.dup, 1) := by decide +kernel
theorem d4_42 : decode method_5_code 42 = .ok (.bipush 7, 2) := by decide +kernel
theorem d4_44 : decode method_5_code 44 = .ok (.ldc 32, 2) := by decide +kernel
theorem d4_46 : decode method_5_code 46 = .ok (.iastore, 1) := by decide +kernel
theorem d4_47 : decode method_5_code 47 = .ok (.dup, 1) := by decide +kernel
theorem d4_48 : decode method_5_code 48 = .ok (.bipush 8, 2) := by decide +kernel
theorem d4_50 : decode method_5_code 50 = .ok (.ldc 33, 2) := by decide +kernel
theorem d4_52 : decode method_5_code 52 = .ok (.iastore, 1) := by decide +kernel
theorem d4_53 : decode method_5_code 53 = .ok (.dup, 1) := by decide +kernel
theorem d4_54 : decode method_5_code 54 = .ok (.bipush 9, 2) := by decide +kernel
theorem d4_56 : decode method_5_code 56 = .ok (.ldc 8, 2) := by decide +kernel
theorem d4_58 : decode method_5_code 58 = .ok (.iastore, 1) := by decide +kernel
theorem d4_59 : decode method_5_code 59 = .ok (.astore_n 1, 1) := by decide +kernel
theorem d4_60 : decode method_5_code 60 = .ok (.aload_n 1, 1) := by decide +kernel
theorem d4_61 : decode method_5_code 61 = .ok (.iload_n 0, 1) := by decide +kernel
theorem d4_62 : decode method_5_code 62 = .ok (.iaload, 1) := by decide +kernel
theorem d4_63 : decode method_5_code 63 = .ok (.ireturn, 1) := by decide +kernel
theorem pn_4 : plainName "com/example/link_prestige/linkprestige/PageNamesDecimalPinLaw" = true := by first | (simp [plainName, overriddenIn]; done) | decide +kernel
theorem d1_0 : decode method_3_code 0 = .ok (.iload_n 0, 1) := by decide +kernel
theorem d1_1 : decode method_3_code 1 = .ok (.iload_n 1, 1) := by decide +kernel
theorem d1_2 : decode method_3_code 2 = .ok (.if_icmp .lt 30, 3) := by decide +kernel
theorem d1_5 : decode method_3_code 5 = .ok (.iload_n 0, 1) := by decide +kernel
theorem d1_6 : decode method_3_code 6 = .ok (.iload_n 1, 1) := by decide +kernel
theorem d1_7 : decode method_3_code 7 = .ok (.iload_n 2, 1) := by decide +kernel
theorem d1_8 : decode method_3_code 8 = .ok (.iadd, 1) := by decide +kernel
theorem d1_9 : decode method_3_code 9 = .ok (.if_icmp .ge 23, 3) := by decide +kernel
theorem d1_12 : decode method_3_code 12 = .ok (.bipush 48, 2) := by decide +kernel
theorem d1_14 : decode method_3_code 14 = .ok (.iload_n 3, 1) := by decide +kernel
theorem d1_15 : decode method_3_code 15 = .ok (.iload_n 2, 1) := by decide +kernel
theorem d1_16 : decode method_3_code 16 = .ok (.iconst 1, 1) := by decide +kernel
theorem d1_17 : decode method_3_code 17 = .ok (.isub, 1) := by decide +kernel
theorem d1_18 : decode method_3_code 18 = .ok (.iload_n 0, 1) := by decide +kernel
theorem d1_19 : decode method_3_code 19 = .ok (.iload_n 1, 1) := by decide +kernel
theorem d1_20 : decode method_3_code 20 = .ok (.isub, 1) := by decide +kernel
theorem d1_21 : decode method_3_code 21 = .ok (.isub, 1) := by decide +kernel
theorem d1_22 : decode method_3_code 22 = .ok (.invokestatic 26, 3) := by decide +kernel
theorem d1_25 : decode method_3_code 25 = .ok (.idiv, 1) := by decide +kernel
theorem d1_26 : decode method_3_code 26 = .ok (.bipush 10, 2) := by decide +kernel
theorem d1_28 : decode method_3_code 28 = .ok (.irem, 1) := by decide +kernel
theorem d1_29 : decode method_3_code 29 = .ok (.iadd, 1) := by decide +kernel
theorem d1_30 : decode method_3_code 30 = .ok (.i2b, 1) := by decide +kernel
theorem d1_31 : decode method_3_code 31 = .ok (.ireturn, 1) := by decide +kernel
theorem d1_32 : decode method_3_code 32 = .ok (.iload 4, 2) := by decide +kernel
theorem d1_34 : decode method_3_code 34 = .ok (.ireturn, 1) := by decide +kernel
theorem pn_1 : plainName "com/example/link_prestige/linkprestige/PageNamesDecimalPinLaw" = true := by first | (simp [plainName, overriddenIn]; done) | decide +kernel
theorem d2_0 : decode method_4_code 0 = .ok (.iload_n 2, 1) := by decide +kernel
theorem d2_1 : decode method_4_code 1 = .ok (.ifCond .eq 9, 3) := by decide +kernel
theorem d2_4 : decode method_4_code 4 = .ok (.iload_n 2, 1) := by decide +kernel
theorem d2_5 : decode method_4_code 5 = .ok (.bipush 9, 2) := by decide +kernel
theorem d2_7 : decode method_4_code 7 = .ok (.if_icmp .le 5, 3) := by decide +kernel
theorem d2_10 : decode method_4_code 10 = .ok (.iconst (-1), 1) := by decide +kernel
theorem d2_11 : decode method_4_code 11 = .ok (.ireturn, 1) := by decide +kernel
theorem d2_12 : decode method_4_code 12 = .ok (.iload_n 0, 1) := by decide +kernel
theorem d2_13 : decode method_4_code 13 = .ok (.iload_n 2, 1) := by decide +kernel
theorem d2_14 : decode method_4_code 14 = .ok (.invokestatic 26, 3) := by decide +kernel
theorem d2_17 : decode method_4_code 17 = .ok (.irem, 1) := by decide +kernel
theorem d2_18 : decode method_4_code 18 = .ok (.istore 6, 2) := by decide +kernel
theorem d2_20 : decode method_4_code 20 = .ok (.iload 6, 2) := by decide +kernel
theorem d2_22 : decode method_4_code 22 = .ok (.iload_n 2, 1) := by decide +kernel
theorem d2_23 : decode method_4_code 23 = .ok (.iconst 1, 1) := by decide +kernel
theorem d2_24 : decode method_4_code 24 = .ok (.isub, 1) := by decide +kernel
theorem d2_25 : decode method_4_code 25 = .ok (.invokestatic 26, 3) := by decide +kernel
theorem d2_28 : decode method_4_code 28 = .ok (.idiv, 1) := by decide +kernel
theorem d2_29 : decode method_4_code 29 = .ok (.istore 7, 2) := by decide +kernel
theorem d2_31 : decode method_4_code 31 = .ok (.iload_n 3, 1) := by decide +kernel
theorem d2_32 : decode method_4_code 32 = .ok (.ifCond .eq 90, 3) := by decide +kernel
theorem d2_35 : decode method_4_code 35 = .ok (.iload 4, 2) := by decide +kernel
theorem d2_37 : decode method_4_code 37 = .ok (.iload_n 1, 1) := by decide +kernel
theorem d2_38 : decode method_4_code 38 = .ok (.if_icmp .lt 84, 3) := by decide +kernel
theorem d2_41 : decode method_4_code 41 = .ok (.iload 4, 2) := by decide +kernel
theorem d2_43 : decode method_4_code 43 = .ok (.iload_n 1, 1) := by decide +kernel
theorem d2_44 : decode method_4_code 44 = .ok (.iload_n 2, 1) := by decide +kernel
theorem d2_45 : decode method_4_code 45 = .ok (.iadd, 1) := by decide +kernel
theorem d2_46 : decode method_4_code 46 = .ok (.if_icmp .ge 76, 3) := by decide +kernel
theorem d2_49 : decode method_4_code 49 = .ok (.iload 4, 2) := by decide +kernel
theorem d2_51 : decode method_4_code 51 = .ok (.iload_n 1, 1) := by decide +kernel
theorem d2_52 : decode method_4_code 52 = .ok (.isub, 1) := by decide +kernel
theorem d2_53 : decode method_4_code 53 = .ok (.istore 8, 2) := by decide +kernel
theorem d2_55 : decode method_4_code 55 = .ok (.iload 5, 2) := by decide +kernel
theorem d2_57 : decode method_4_code 57 = .ok (.bipush 48, 2) := by decide +kernel
theorem d2_59 : decode method_4_code 59 = .ok (.isub, 1) := by decide +kernel
theorem d2_60 : decode method_4_code 60 = .ok (.istore 9, 2) := by decide +kernel
theorem d2_62 : decode method_4_code 62 = .ok (.iload 9, 2) := by decide +kernel
theorem d2_64 : decode method_4_code 64 = .ok (.ifCond .lt 10, 3) := by decide +kernel
theorem d2_67 : decode method_4_code 67 = .ok (.iload 9, 2) := by decide +kernel
theorem d2_69 : decode method_4_code 69 = .ok (.bipush 9, 2) := by decide +kernel
theorem d2_71 : decode method_4_code 71 = .ok (.if_icmp .le 5, 3) := by decide +kernel
theorem d2_74 : decode method_4_code 74 = .ok (.iconst (-1), 1) := by decide +kernel
theorem d2_75 : decode method_4_code 75 = .ok (.ireturn, 1) := by decide +kernel
theorem d2_76 : decode method_4_code 76 = .ok (.iload 6, 2) := by decide +kernel
theorem d2_78 : decode method_4_code 78 = .ok (.iload_n 2, 1) := by decide +kernel
theorem d2_79 : decode method_4_code 79 = .ok (.iconst 1, 1) := by decide +kernel
theorem d2_80 : decode method_4_code 80 = .ok (.isub, 1) := by decide +kernel
theorem d2_81 : decode method_4_code 81 = .ok (.iload 8, 2) := by decide +kernel
theorem d2_83 : decode method_4_code 83 = .ok (.isub, 1) := by decide +kernel
theorem d2_84 : decode method_4_code 84 = .ok (.invokestatic 26, 3) := by decide +kernel
theorem d2_87 : decode method_4_code 87 = .ok (.idiv, 1) := by decide +kernel
theorem d2_88 : decode method_4_code 88 = .ok (.bipush 10, 2) := by decide +kernel
theorem d2_90 : decode method_4_code 90 = .ok (.irem, 1) := by decide +kernel
theorem d2_91 : decode method_4_code 91 = .ok (.istore 10, 2) := by decide +kernel
theorem d2_93 : decode method_4_code 93 = .ok (.iload 6, 2) := by decide +kernel
theorem d2_95 : decode method_4_code 95 = .ok (.iload 9, 2) := by decide +kernel
theorem d2_97 : decode method_4_code 97 = .ok (.iload 10, 2) := by decide +kernel
theorem d2_99 : decode method_4_code 99 = .ok (.isub, 1) := by decide +kernel
theorem d2_100 : decode method_4_code 100 = .ok (.iload_n 2, 1) := by decide +kernel
theorem d2_101 : decode method_4_code 101 = .ok (.iconst 1, 1) := by decide +kernel
theorem d2_102 : decode method_4_code 102 = .ok (.isub, 1) := by decide +kernel
theorem d2_103 : decode method_4_code 103 = .ok (.iload 8, 2) := by decide +kernel
theorem d2_105 : decode method_4_code 105 = .ok (.isub, 1) := by decide +kernel
theorem d2_106 : decode method_4_code 106 = .ok (.invokestatic 26, 3) := by decide +kernel
theorem d2_109 : decode method_4_code 109 = .ok (.imul, 1) := by decide +kernel
theorem d2_110 : decode method_4_code 110 = .ok (.iadd, 1) := by decide +kernel
theorem d2_111 : decode method_4_code 111 = .ok (.istore 6, 2) := by decide +kernel
theorem d2_113 : decode method_4_code 113 = .ok (.iload 8, 2) := by decide +kernel
theorem d2_115 : decode method_4_code 115 = .ok (.ifCond .ne 7, 3) := by decide +kernel
theorem d2_118 : decode method_4_code 118 = .ok (.iload 9, 2) := by decide +kernel
theorem d2_120 : decode method_4_code 120 = .ok (.istore 7, 2) := by decide +kernel
theorem d2_122 : decode method_4_code 122 = .ok (.iload 7, 2) := by decide +kernel
theorem d2_124 : decode method_4_code 124 = .ok (.ifCond .ne 10, 3) := by decide +kernel
theorem d2_127 : decode method_4_code 127 = .ok (.iload_n 2, 1) := by decide +kernel
theorem d2_128 : decode method_4_code 128 = .ok (.iconst 1, 1) := by decide +kernel
theorem d2_129 : decode method_4_code 129 = .ok (.if_icmp .le 5, 3) := by decide +kernel
theorem d2_132 : decode method_4_code 132 = .ok (.iconst (-1), 1) := by decide +kernel
theorem d2_133 : decode method_4_code 133 = .ok (.ireturn, 1) := by decide +kernel
theorem d2_134 : decode method_4_code 134 = .ok (.iload 6, 2) := by decide +kernel
theorem d2_136 : decode method_4_code 136 = .ok (.ireturn, 1) := by decide +kernel
theorem pn_2 : plainName "com/example/link_prestige/linkprestige/PageNamesDecimalPinLaw" = true := by first | (simp [plainName, overriddenIn]; done) | decide +kernel
theorem d3_0 : decode prog_27_method_15_code 0 = .ok (.iload_n 2, 1) := by decide +kernel
theorem d3_1 : decode prog_27_method_15_code 1 = .ok (.iload_n 1, 1) := by decide +kernel
theorem d3_2 : decode prog_27_method_15_code 2 = .ok (.isub, 1) := by decide +kernel
theorem d3_3 : decode prog_27_method_15_code 3 = .ok (.istore_n 3, 1) := by decide +kernel
theorem d3_4 : decode prog_27_method_15_code 4 = .ok (.iload_n 3, 1) := by decide +kernel
theorem d3_5 : decode prog_27_method_15_code 5 = .ok (.ifCond .eq 22, 3) := by decide +kernel
theorem d3_8 : decode prog_27_method_15_code 8 = .ok (.iload_n 3, 1) := by decide +kernel
theorem d3_9 : decode prog_27_method_15_code 9 = .ok (.bipush 9, 2) := by decide +kernel
theorem d3_11 : decode prog_27_method_15_code 11 = .ok (.if_icmp .gt 16, 3) := by decide +kernel
theorem d3_14 : decode prog_27_method_15_code 14 = .ok (.aload_n 0, 1) := by decide +kernel
theorem d3_15 : decode prog_27_method_15_code 15 = .ok (.iload_n 1, 1) := by decide +kernel
theorem d3_16 : decode prog_27_method_15_code 16 = .ok (.baload, 1) := by decide +kernel
theorem d3_17 : decode prog_27_method_15_code 17 = .ok (.bipush 48, 2) := by decide +kernel
theorem d3_19 : decode prog_27_method_15_code 19 = .ok (.if_icmp .ne 10, 3) := by decide +kernel
theorem d3_22 : decode prog_27_method_15_code 22 = .ok (.iload_n 3, 1) := by decide +kernel
theorem d3_23 : decode prog_27_method_15_code 23 = .ok (.iconst 1, 1) := by decide +kernel
theorem d3_24 : decode prog_27_method_15_code 24 = .ok (.if_icmp .le 5, 3) := by decide +kernel
theorem d3_27 : decode prog_27_method_15_code 27 = .ok (.iconst (-1), 1) := by decide +kernel
theorem d3_28 : decode prog_27_method_15_code 28 = .ok (.ireturn, 1) := by decide +kernel
theorem d3_29 : decode prog_27_method_15_code 29 = .ok (.iconst 0, 1) := by decide +kernel
theorem d3_30 : decode prog_27_method_15_code 30 = .ok (.istore 4, 2) := by decide +kernel
theorem d3_32 : decode prog_27_method_15_code 32 = .ok (.iload_n 1, 1) := by decide +kernel
theorem d3_33 : decode prog_27_method_15_code 33 = .ok (.istore 5, 2) := by decide +kernel
theorem d3_35 : decode prog_27_method_15_code 35 = .ok (.iload 5, 2) := by decide +kernel
theorem d3_37 : decode prog_27_method_15_code 37 = .ok (.iload_n 2, 1) := by decide +kernel
theorem d3_38 : decode prog_27_method_15_code 38 = .ok (.if_icmp .ge 42, 3) := by decide +kernel
theorem d3_41 : decode prog_27_method_15_code 41 = .ok (.aload_n 0, 1) := by decide +kernel
theorem d3_42 : decode prog_27_method_15_code 42 = .ok (.iload 5, 2) := by decide +kernel
theorem d3_44 : decode prog_27_method_15_code 44 = .ok (.baload, 1) := by decide +kernel
theorem d3_45 : decode prog_27_method_15_code 45 = .ok (.bipush 48, 2) := by decide +kernel
theorem d3_47 : decode prog_27_method_15_code 47 = .ok (.isub, 1) := by decide +kernel
theorem d3_48 : decode prog_27_method_15_code 48 = .ok (.istore 6, 2) := by decide +kernel
theorem d3_50 : decode prog_27_method_15_code 50 = .ok (.iload 6, 2) := by decide +kernel
theorem d3_52 : decode prog_27_method_15_code 52 = .ok (.ifCond .lt 10, 3) := by decide +kernel
theorem d3_55 : decode prog_27_method_15_code 55 = .ok (.iload 6, 2) := by decide +kernel
theorem d3_57 : decode prog_27_method_15_code 57 = .ok (.bipush 9, 2) := by decide +kernel
theorem d3_59 : decode prog_27_method_15_code 59 = .ok (.if_icmp .le 5, 3) := by decide +kernel
theorem d3_62 : decode prog_27_method_15_code 62 = .ok (.iconst (-1), 1) := by decide +kernel
theorem d3_63 : decode prog_27_method_15_code 63 = .ok (.ireturn, 1) := by decide +kernel
theorem d3_64 : decode prog_27_method_15_code 64 = .ok (.bipush 10, 2) := by decide +kernel
theorem d3_66 : decode prog_27_method_15_code 66 = .ok (.iload 4, 2) := by decide +kernel
theorem d3_68 : decode prog_27_method_15_code 68 = .ok (.imul, 1) := by decide +kernel
theorem d3_69 : decode prog_27_method_15_code 69 = .ok (.iload 6, 2) := by decide +kernel
theorem d3_71 : decode prog_27_method_15_code 71 = .ok (.iadd, 1) := by decide +kernel
theorem d3_72 : decode prog_27_method_15_code 72 = .ok (.istore 4, 2) := by decide +kernel
theorem d3_74 : decode prog_27_method_15_code 74 = .ok (.iinc 5 1, 3) := by decide +kernel
theorem d3_77 : decode prog_27_method_15_code 77 = .ok (.goto (-42), 3) := by decide +kernel
theorem d3_80 : decode prog_27_method_15_code 80 = .ok (.iload 4, 2) := by decide +kernel
theorem d3_82 : decode prog_27_method_15_code 82 = .ok (.ireturn, 1) := by decide +kernel
theorem pn_3 : plainName "com/example/link_prestige/linkprestige/PageNames" = true := by first | (simp [plainName, overriddenIn]; done) | decide +kernel
theorem pn_0 : plainName "com/example/link_prestige/linkprestige/PageNamesDecimalPinLaw" = true := by first | (simp [plainName, overriddenIn]; done) | decide +kernel
def own_pw : Nat → Int32 := (own_upd (own_upd (own_upd (own_upd (own_upd (own_upd (own_upd (own_upd (own_upd (own_upd (fun _ => 0) 0 (1 : Int32)) 1 (10 : Int32)) 2 (100 : Int32)) 3 (1000 : Int32)) 4 (10000 : Int32)) 5 (100000 : Int32)) 6 (1000000 : Int32)) 7 (10000000 : Int32)) 8 (100000000 : Int32)) 9 (1000000000 : Int32))
theorem own_pwv (k : Nat) (h : k ≤ 9) : (own_pw k).toInt = ((10 ^ k : Nat) : Int) := by
  have hk : k = 0 ∨ k = 1 ∨ k = 2 ∨ k = 3 ∨ k = 4 ∨ k = 5 ∨ k = 6 ∨ k = 7 ∨ k = 8 ∨ k = 9 := by omega
  rcases hk with rfl | rfl | rfl | rfl | rfl | rfl | rfl | rfl | rfl | rfl <;> decide +kernel
theorem own_pwz (k : Nat) (h : k ≤ 9) : own_pw k ≠ 0 := fun e => by
  have q := own_pwv k h
  have := own_pow_pos k
  rw [e, own_l0] at q
  omega
set_option maxRecDepth 65536 in
set_option maxHeartbeats 40000000 in
theorem rm4 (l : Launch) (Z : State) (a0 : Array Value) (hw : ∀ d ∈ tables_1, d.before a0 Z = true) (ws : List Jvm.Cond) (p1 : Int32) (k1 : Nat) (h0 : Heap) (n0 : Nat) (Z0 : n0 ≤ h0.size) (hk : p1.toInt = (k1 : Int)) (hk9 : k1 ≤ 9) :
    MetFree l (⟨"com/example/link_prestige/linkprestige/PageNamesDecimalPinLaw", "pow", "(I)I"⟩ : MethodName) (head1 (Jvm.Cond.code (⟨"com/example/link_prestige/linkprestige/PageNamesDecimalPinLaw", "pow", "(I)I"⟩ : MethodName) method_5_code 2 (some .int) :: ws) ({ frames := 0, cells := 1, slots := 10, locals := 0 } : Room)) (fun a U => a = #[(.int p1)] ∧ Z.Warmed39 U.vm ∧ U.heap = h0) (fun _ _ _ _ _ => True) (fun _ U o U' => ∃ vv LL, o = .returned vv ∧ own_ap (fun v h L => v = some (.int (own_pw k1)) ∧ Fr n0 L ∧ Keep h0 h []) vv U'.heap LL ∧ FrameEnd U o U' LL 1 10) := by
  refine MetFree.of_bodySF (plainFor_of_name pn_4) hisR ?_
  intro p e s m args below meth c s₁ Bd hml0 hP hK
  obtain ⟨rfl, hZ, hh⟩ := hP
  have hx := Bd.exec
  have hby := Bd.bytes
  have hml : c.maxLocals = 2 := hml0
  have hown : s.vm.findClass "com/example/link_prestige/linkprestige/PageNamesDecimalPinLaw" = some m.cls := findClass_of_methodNamed Bd.named
  have hnm := (name_of_methodNamed Bd.named Bd.method).1
  have X0 : Stand p l e ({ frames := 0, cells := 1, slots := 10, locals := 0 } : Room) s m #[(.int p1)] below meth c s₁ [] 0 0 := Stand.of_body Bd
  have e0 : s₁.heap = h0 := by rw [← hh, Bd.state]; rfl
  have N0 := Fr.nil n0
  show own_Go p.tables e below (own_Q s (fun v h L => v = some (.int (own_pw k1)) ∧ Fr n0 L ∧ Keep h0 h []) 1 10) (s₁.setTop (entryFrame m #[(.int p1)] 2))
  rw [show entryFrame m #[(.int p1)] 2 = mkF m 0 #[.val (.int p1), .unset] [] from by first | (simp [entryFrame, mkF, argsToLocals, Value.category]; done) | rfl]
  show own_Go _ _ _ _ (s₁.setTop (mkF m 0 #[.val (.int p1), .unset] []))
  refine own_by (fun _ k => XS.bipush X0.here hx rfl (hb hby d4_0) k) ?_
  show own_Go _ _ _ _ (s₁.setTop (mkF m 2 #[.val (.int p1), .unset] [(.int (10 : Int32))]))
  refine own_newP X0 hx hZ (hw _ (List.mem_of_getElem? (i := 18) rfl)) e0 10 (by decide) 10 (by decide) (by decide) (by decide) (by decide) (hb hby d4_2) ?_
  intro T1 h1 X1 e1 E1 A1
  show own_Go _ _ _ _ (T1.setTop (mkF m 4 #[.val (.int p1), .unset] [.ref h0.size]))
  obtain ⟨b1, g1⟩ : ∃ z, z = h0.size := ⟨_, rfl⟩
  rw [← g1] at A1
  refine own_gen g1.symm (fun z_ => T1.setTop (mkF m 4 #[.val (.int p1), .unset] [.ref z_])) ?_
  have ge1 : n0 ≤ b1 := Nat.le_trans Z0 (Nat.le_of_eq g1.symm)
  have nw1 : h0.size ≤ b1 := Nat.le_trans (Keep.refl h0 []).1 (Nat.le_of_eq g1.symm)
  have f2 := (Keep.refl h0 []).ext E1
  have Z1 := Nat.le_trans Z0 E1.1
  have f3 : own_AI Z h1 b1 .int 10 (fun _ => 0) := A1
  show own_Go _ _ _ _ (T1.setTop (mkF m 4 #[.val (.int p1), .unset] [(.ref b1)]))
  refine own_by (fun _ k => XS.dup X1.here hx rfl (hb hby d4_4) rfl rfl k) ?_
  show own_Go _ _ _ _ (T1.setTop (mkF m 5 #[.val (.int p1), .unset] [(.ref b1), (.ref b1)]))
  refine own_by (fun _ k => XS.iconst X1.here hx rfl (hb hby d4_5) k) ?_
  show own_Go _ _ _ _ (T1.setTop (mkF m 6 #[.val (.int p1), .unset] [(.int (0 : Int32)), (.ref b1), (.ref b1)]))
  refine own_by (fun _ k => XS.iconst X1.here hx rfl (hb hby d4_6) k) ?_
  show own_Go _ _ _ _ (T1.setTop (mkF m 7 #[.val (.int p1), .unset] [(.int (1 : Int32)), (.int (0 : Int32)), (.ref b1), (.ref b1)]))
  refine own_ias X1 hx hZ e1 f3 0 (by decide) (by decide) (hb hby d4_7) ?_
  intro T4 h4 X4 e4 W4 A4
  have f5 := f2.wr W4 (Or.inr nw1)
  have N4 := Fr.snoc X4 N0 ge1
  have Z4 := own_size_wr W4 Z1
  obtain ⟨fn4, hfn4⟩ : ∃ g : Nat → Int32, g = own_upd (fun _ => 0) 0 (1 : Int32) := ⟨_, rfl⟩
  rw [← hfn4] at A4
  show own_Go _ _ _ _ (T4.setTop (mkF m 8 #[.val (.int p1), .unset] [(.ref b1)]))
  refine own_by (fun _ k => XS.dup X4.here hx rfl (hb hby d4_8) rfl rfl k) ?_
  show own_Go _ _ _ _ (T4.setTop (mkF m 9 #[.val (.int p1), .unset] [(.ref b1), (.ref b1)]))
  refine own_by (fun _ k => XS.iconst X4.here hx rfl (hb hby d4_9) k) ?_
  show own_Go _ _ _ _ (T4.setTop (mkF m 10 #[.val (.int p1), .unset] [(.int (1 : Int32)), (.ref b1), (.ref b1)]))
  refine own_by (fun _ k => XS.bipush X4.here hx rfl (hb hby d4_10) k) ?_
  show own_Go _ _ _ _ (T4.setTop (mkF m 12 #[.val (.int p1), .unset] [(.int (10 : Int32)), (.int (1 : Int32)), (.ref b1), (.ref b1)]))
  refine own_ias X4 hx hZ e4 A4 1 (by decide) (by decide) (hb hby d4_12) ?_
  intro T6 h6 X6 e6 W6 A6
  have f7 := f5.wr W6 (Or.inr nw1)
  have N6 := Fr.snoc X6 N4 ge1
  have Z6 := own_size_wr W6 Z4
  obtain ⟨fn6, hfn6⟩ : ∃ g : Nat → Int32, g = own_upd fn4 1 (10 : Int32) := ⟨_, rfl⟩
  rw [← hfn6] at A6
  show own_Go _ _ _ _ (T6.setTop (mkF m 13 #[.val (.int p1), .unset] [(.ref b1)]))
  refine own_by (fun _ k => XS.dup X6.here hx rfl (hb hby d4_13) rfl rfl k) ?_
  show own_Go _ _ _ _ (T6.setTop (mkF m 14 #[.val (.int p1), .unset] [(.ref b1), (.ref b1)]))
  refine own_by (fun _ k => XS.iconst X6.here hx rfl (hb hby d4_14) k) ?_
  show own_Go _ _ _ _ (T6.setTop (mkF m 15 #[.val (.int p1), .unset] [(.int (2 : Int32)), (.ref b1), (.ref b1)]))
  refine own_by (fun _ k => XS.bipush X6.here hx rfl (hb hby d4_15) k) ?_
  show own_Go _ _ _ _ (T6.setTop (mkF m 17 #[.val (.int p1), .unset] [(.int (100 : Int32)), (.int (2 : Int32)), (.ref b1), (.ref b1)]))
  refine own_ias X6 hx hZ e6 A6 2 (by decide) (by decide) (hb hby d4_17) ?_
  intro T8 h8 X8 e8 W8 A8
  have f9 := f7.wr W8 (Or.inr nw1)
  have N8 := Fr.snoc X8 N6 ge1
  have Z8 := own_size_wr W8 Z6
  obtain ⟨fn8, hfn8⟩ : ∃ g : Nat → Int32, g = own_upd fn6 2 (100 : Int32) := ⟨_, rfl⟩
  rw [← hfn8] at A8
  show own_Go _ _ _ _ (T8.setTop (mkF m 18 #[.val (.int p1), .unset] [(.ref b1)]))
  refine own_by (fun _ k => XS.dup X8.here hx rfl (hb hby d4_18) rfl rfl k) ?_
  show own_Go _ _ _ _ (T8.setTop (mkF m 19 #[.val (.int p1), .unset] [(.ref b1), (.ref b1)]))
  refine own_by (fun _ k => XS.iconst X8.here hx rfl (hb hby d4_19) k) ?_
  show own_Go _ _ _ _ (T8.setTop (mkF m 20 #[.val (.int p1), .unset] [(.int (3 : Int32)), (.ref b1), (.ref b1)]))
  refine own_by (fun _ k => XS.sipush X8.here hx rfl (hb hby d4_20) k) ?_
  show own_Go _ _ _ _ (T8.setTop (mkF m 23 #[.val (.int p1), .unset] [(.int (1000 : Int32)), (.int (3 : Int32)), (.ref b1), (.ref b1)]))
  refine own_ias X8 hx hZ e8 A8 3 (by decide) (by decide) (hb hby d4_23) ?_
  intro T10 h10 X10 e10 W10 A10
  have f11 := f9.wr W10 (Or.inr nw1)
  have N10 := Fr.snoc X10 N8 ge1
  have Z10 := own_size_wr W10 Z8
  obtain ⟨fn10, hfn10⟩ : ∃ g : Nat → Int32, g = own_upd fn8 3 (1000 : Int32) := ⟨_, rfl⟩
  rw [← hfn10] at A10
  show own_Go _ _ _ _ (T10.setTop (mkF m 24 #[.val (.int p1), .unset] [(.ref b1)]))
  refine own_by (fun _ k => XS.dup X10.here hx rfl (hb hby d4_24) rfl rfl k) ?_
  show own_Go _ _ _ _ (T10.setTop (mkF m 25 #[.val (.int p1), .unset] [(.ref b1), (.ref b1)]))
  refine own_by (fun _ k => XS.iconst X10.here hx rfl (hb hby d4_25) k) ?_
  show own_Go _ _ _ _ (T10.setTop (mkF m 26 #[.val (.int p1), .unset] [(.int (4 : Int32)), (.ref b1), (.ref b1)]))
  refine own_by (fun _ k => XS.sipush X10.here hx rfl (hb hby d4_26) k) ?_
  show own_Go _ _ _ _ (T10.setTop (mkF m 29 #[.val (.int p1), .unset] [(.int (10000 : Int32)), (.int (4 : Int32)), (.ref b1), (.ref b1)]))
  refine own_ias X10 hx hZ e10 A10 4 (by decide) (by decide) (hb hby d4_29) ?_
  intro T12 h12 X12 e12 W12 A12
  have f13 := f11.wr W12 (Or.inr nw1)
  have N12 := Fr.snoc X12 N10 ge1
  have Z12 := own_size_wr W12 Z10
  obtain ⟨fn12, hfn12⟩ : ∃ g : Nat → Int32, g = own_upd fn10 4 (10000 : Int32) := ⟨_, rfl⟩
  rw [← hfn12] at A12
  show own_Go _ _ _ _ (T12.setTop (mkF m 30 #[.val (.int p1), .unset] [(.ref b1)]))
  refine own_by (fun _ k => XS.dup X12.here hx rfl (hb hby d4_30) rfl rfl k) ?_
  show own_Go _ _ _ _ (T12.setTop (mkF m 31 #[.val (.int p1), .unset] [(.ref b1), (.ref b1)]))
  refine own_by (fun _ k => XS.iconst X12.here hx rfl (hb hby d4_31) k) ?_
  show own_Go _ _ _ _ (T12.setTop (mkF m 32 #[.val (.int p1), .unset] [(.int (5 : Int32)), (.ref b1), (.ref b1)]))
  refine own_by (fun _ k => X12.ldcInt hx hown (mvT hZ (hw _ (List.mem_of_getElem? (i := 19) rfl))) (g := (mkF m 32 #[.val (.int p1), .unset] [(.int (5 : Int32)), (.ref b1), (.ref b1)])) rfl (hb hby d4_32) _ k) ?_
  show own_Go _ _ _ _ (T12.setTop (mkF m 34 #[.val (.int p1), .unset] [(.int (100000 : Int32)), (.int (5 : Int32)), (.ref b1), (.ref b1)]))
  refine own_ias X12 hx hZ e12 A12 5 (by decide) (by decide) (hb hby d4_34) ?_
  intro T14 h14 X14 e14 W14 A14
  have f15 := f13.wr W14 (Or.inr nw1)
  have N14 := Fr.snoc X14 N12 ge1
  have Z14 := own_size_wr W14 Z12
  obtain ⟨fn14, hfn14⟩ : ∃ g : Nat → Int32, g = own_upd fn12 5 (100000 : Int32) := ⟨_, rfl⟩
  rw [← hfn14] at A14
  show own_Go _ _ _ _ (T14.setTop (mkF m 35 #[.val (.int p1), .unset] [(.ref b1)]))
  refine own_by (fun _ k => XS.dup X14.here hx rfl (hb hby d4_35) rfl rfl k) ?_
  show own_Go _ _ _ _ (T14.setTop (mkF m 36 #[.val (.int p1), .unset] [(.ref b1), (.ref b1)]))
  refine own_by (fun _ k => XS.bipush X14.here hx rfl (hb hby d4_36) k) ?_
  show own_Go _ _ _ _ (T14.setTop (mkF m 38 #[.val (.int p1), .unset] [(.int (6 : Int32)), (.ref b1), (.ref b1)]))
  refine own_by (fun _ k => X14.ldcInt hx hown (mvT hZ (hw _ (List.mem_of_getElem? (i := 20) rfl))) (g := (mkF m 38 #[.val (.int p1), .unset] [(.int (6 : Int32)), (.ref b1), (.ref b1)])) rfl (hb hby d4_38) _ k) ?_
  show own_Go _ _ _ _ (T14.setTop (mkF m 40 #[.val (.int p1), .unset] [(.int (1000000 : Int32)), (.int (6 : Int32)), (.ref b1), (.ref b1)]))
  refine own_ias X14 hx hZ e14 A14 6 (by decide) (by decide) (hb hby d4_40) ?_
  intro T16 h16 X16 e16 W16 A16
  have f17 := f15.wr W16 (Or.inr nw1)
  have N16 := Fr.snoc X16 N14 ge1
  have Z16 := own_size_wr W16 Z14
  obtain ⟨fn16, hfn16⟩ : ∃ g : Nat → Int32, g = own_upd fn14 6 (1000000 : Int32) := ⟨_, rfl⟩
  rw [← hfn16] at A16
  show own_Go _ _ _ _ (T16.setTop (mkF m 41 #[.val (.int p1), .unset] [(.ref b1)]))
  refine own_by (fun _ k => XS.dup X16.here hx rfl (hb hby d4_41) rfl rfl k) ?_
  show own_Go _ _ _ _ (T16.setTop (mkF m 42 #[.val (.int p1), .unset] [(.ref b1), (.ref b1)]))
  refine own_by (fun _ k => XS.bipush X16.here hx rfl (hb hby d4_42) k) ?_
  show own_Go _ _ _ _ (T16.setTop (mkF m 44 #[.val (.int p1), .unset] [(.int (7 : Int32)), (.ref b1), (.ref b1)]))
  refine own_by (fun _ k => X16.ldcInt hx hown (mvT hZ (hw _ (List.mem_of_getElem? (i := 21) rfl))) (g := (mkF m 44 #[.val (.int p1), .unset] [(.int (7 : Int32)), (.ref b1), (.ref b1)])) rfl (hb hby d4_44) _ k) ?_
  show own_Go _ _ _ _ (T16.setTop (mkF m 46 #[.val (.int p1), .unset] [(.int (10000000 : Int32)), (.int (7 : Int32)), (.ref b1), (.ref b1)]))
  refine own_ias X16 hx hZ e16 A16 7 (by decide) (by decide) (hb hby d4_46) ?_
  intro T18 h18 X18 e18 W18 A18
  have f19 := f17.wr W18 (Or.inr nw1)
  have N18 := Fr.snoc X18 N16 ge1
  have Z18 := own_size_wr W18 Z16
  obtain ⟨fn18, hfn18⟩ : ∃ g : Nat → Int32, g = own_upd fn16 7 (10000000 : Int32) := ⟨_, rfl⟩
  rw [← hfn18] at A18
  show own_Go _ _ _ _ (T18.setTop (mkF m 47 #[.val (.int p1), .unset] [(.ref b1)]))
  refine own_by (fun _ k => XS.dup X18.here hx rfl (hb hby d4_47) rfl rfl k) ?_
  show own_Go _ _ _ _ (T18.setTop (mkF m 48 #[.val (.int p1), .unset] [(.ref b1), (.ref b1)]))
  refine own_by (fun _ k => XS.bipush X18.here hx rfl (hb hby d4_48) k) ?_
  show own_Go _ _ _ _ (T18.setTop (mkF m 50 #[.val (.int p1), .unset] [(.int (8 : Int32)), (.ref b1), (.ref b1)]))
  refine own_by (fun _ k => X18.ldcInt hx hown (mvT hZ (hw _ (List.mem_of_getElem? (i := 22) rfl))) (g := (mkF m 50 #[.val (.int p1), .unset] [(.int (8 : Int32)), (.ref b1), (.ref b1)])) rfl (hb hby d4_50) _ k) ?_
  show own_Go _ _ _ _ (T18.setTop (mkF m 52 #[.val (.int p1), .unset] [(.int (100000000 : Int32)), (.int (8 : Int32)), (.ref b1), (.ref b1)]))
  refine own_ias X18 hx hZ e18 A18 8 (by decide) (by decide) (hb hby d4_52) ?_
  intro T20 h20 X20 e20 W20 A20
  have f21 := f19.wr W20 (Or.inr nw1)
  have N20 := Fr.snoc X20 N18 ge1
  have Z20 := own_size_wr W20 Z18
  obtain ⟨fn20, hfn20⟩ : ∃ g : Nat → Int32, g = own_upd fn18 8 (100000000 : Int32) := ⟨_, rfl⟩
  rw [← hfn20] at A20
  show own_Go _ _ _ _ (T20.setTop (mkF m 53 #[.val (.int p1), .unset] [(.ref b1)]))
  refine own_by (fun _ k => XS.dup X20.here hx rfl (hb hby d4_53) rfl rfl k) ?_
  show own_Go _ _ _ _ (T20.setTop (mkF m 54 #[.val (.int p1), .unset] [(.ref b1), (.ref b1)]))
  refine own_by (fun _ k => XS.bipush X20.here hx rfl (hb hby d4_54) k) ?_
  show own_Go _ _ _ _ (T20.setTop (mkF m 56 #[.val (.int p1), .unset] [(.int (9 : Int32)), (.ref b1), (.ref b1)]))
  refine own_by (fun _ k => X20.ldcInt hx hown (mvT hZ (hw _ (List.mem_of_getElem? (i := 1) rfl))) (g := (mkF m 56 #[.val (.int p1), .unset] [(.int (9 : Int32)), (.ref b1), (.ref b1)])) rfl (hb hby d4_56) _ k) ?_
  show own_Go _ _ _ _ (T20.setTop (mkF m 58 #[.val (.int p1), .unset] [(.int (1000000000 : Int32)), (.int (9 : Int32)), (.ref b1), (.ref b1)]))
  refine own_ias X20 hx hZ e20 A20 9 (by decide) (by decide) (hb hby d4_58) ?_
  intro T22 h22 X22 e22 W22 A22
  have f23 := f21.wr W22 (Or.inr nw1)
  have N22 := Fr.snoc X22 N20 ge1
  have Z22 := own_size_wr W22 Z20
  obtain ⟨fn22, hfn22⟩ : ∃ g : Nat → Int32, g = own_upd fn20 9 (1000000000 : Int32) := ⟨_, rfl⟩
  rw [← hfn22] at A22
  show own_Go _ _ _ _ (T22.setTop (mkF m 59 #[.val (.int p1), .unset] [(.ref b1)]))
  refine own_by (fun _ k => XS.astoreN X22.here hx rfl (hb hby d4_59) rfl rfl (l' := #[.val (.int p1), .val (.ref b1)]) rfl k) ?_
  show own_Go _ _ _ _ (T22.setTop (mkF m 60 #[.val (.int p1), .val (.ref b1)] []))
  refine own_by (fun _ k => XS.aloadN X22.here hx rfl (hb hby d4_60) rfl rfl k) ?_
  show own_Go _ _ _ _ (T22.setTop (mkF m 61 #[.val (.int p1), .val (.ref b1)] [(.ref b1)]))
  refine own_by (fun _ k => XS.iloadN X22.here hx rfl (hb hby d4_61) rfl k) ?_
  show own_Go _ _ _ _ (T22.setTop (mkF m 62 #[.val (.int p1), .val (.ref b1)] [(.int p1), (.ref b1)]))
  refine own_by (fun _ k => own_ial X22 hx hZ e22 A22 k1 hk (by omega) (hb hby d4_62) k) ?_
  show own_Go _ _ _ _ (T22.setTop (mkF m 63 #[.val (.int p1), .val (.ref b1)] [(.int (fn22 k1))]))
  have hpw : fn22 = own_pw := by simp only [hfn22, hfn20, hfn18, hfn16, hfn14, hfn12, hfn10, hfn8, hfn6, hfn4]; rfl
  exact own_retI X22 hx Bd.notSynchronized e22 Bd.returns (hb hby d4_63) (⟨by rw [hpw], N22, f23⟩) (by decide) (by decide)
def own_At (F L V K : Nat) (z : Int32) : Prop := F ≤ K → K < F + L → z.toInt = ((48 + (V / 10 ^ (L - 1 - (K - F))) % 10 : Nat) : Int)
set_option maxRecDepth 65536 in
set_option maxHeartbeats 40000000 in
theorem rm1 (l : Launch) (Z : State) (a0 : Array Value) (hw : ∀ d ∈ tables_1, d.before a0 Z = true) (ws : List Jvm.Cond) (p1 : Int32) (p2 : Int32) (p3 : Int32) (p4 : Int32) (p5 : Int32) (K F L V : Nat) (h0 : Heap) (n0 : Nat) (Z0 : n0 ≤ h0.size) (hKK : p1.toInt = (K : Int)) (hF : p2.toInt = (F : Int)) (hL : p3.toInt = (L : Int)) (hV : p4.toInt = (V : Int)) (hK15 : K ≤ 15) (hF3 : F ≤ 3) (hL10 : L ≤ 10) :
    MetFree l (⟨"com/example/link_prestige/linkprestige/PageNamesDecimalPinLaw", "at", "(IIIIB)B"⟩ : MethodName) (head1 (Jvm.Cond.code (⟨"com/example/link_prestige/linkprestige/PageNamesDecimalPinLaw", "at", "(IIIIB)B"⟩ : MethodName) method_3_code 5 (some .byte) :: ws) ({ frames := 1, cells := 1, slots := 10, locals := 15 } : Room)) (fun a U => a = #[(.int p1), (.int p2), (.int p3), (.int p4), (.int p5)] ∧ Z.Warmed39 U.vm ∧ U.heap = h0) (fun _ _ _ _ _ => True) (fun _ U o U' => ∃ vv LL, o = .returned vv ∧ own_ap (fun v h L' => ∃ z : Int32, v = some (.int z) ∧ Fr n0 L' ∧ Keep h0 h [] ∧ own_At F L V K z) vv U'.heap LL ∧ FrameEnd U o U' LL 1 10) := by
  refine MetFree.of_bodySF (plainFor_of_name pn_1) hisR ?_
  intro p e s m args below meth c s₁ Bd hml0 hP hK
  obtain ⟨rfl, hZ, hh⟩ := hP
  have hx := Bd.exec
  have hby := Bd.bytes
  have hml : c.maxLocals = 5 := hml0
  have hown : s.vm.findClass "com/example/link_prestige/linkprestige/PageNamesDecimalPinLaw" = some m.cls := findClass_of_methodNamed Bd.named
  have hnm := (name_of_methodNamed Bd.named Bd.method).1
  have X0 : Stand p l e ({ frames := 1, cells := 1, slots := 10, locals := 15 } : Room) s m #[(.int p1), (.int p2), (.int p3), (.int p4), (.int p5)] below meth c s₁ [] 0 0 := Stand.of_body Bd
  have e0 : s₁.heap = h0 := by rw [← hh, Bd.state]; rfl
  have N0 := Fr.nil n0
  show own_Go p.tables e below (own_Q s (fun v h L' => ∃ z : Int32, v = some (.int z) ∧ Fr n0 L' ∧ Keep h0 h [] ∧ own_At F L V K z) 1 10) (s₁.setTop (entryFrame m #[(.int p1), (.int p2), (.int p3), (.int p4), (.int p5)] 5))
  rw [show entryFrame m #[(.int p1), (.int p2), (.int p3), (.int p4), (.int p5)] 5 = mkF m 0 #[.val (.int p1), .val (.int p2), .val (.int p3), .val (.int p4), .val (.int p5)] [] from by first | (simp [entryFrame, mkF, argsToLocals, Value.category]; done) | rfl]
  show own_Go _ _ _ _ (s₁.setTop (mkF m 0 #[.val (.int p1), .val (.int p2), .val (.int p3), .val (.int p4), .val (.int p5)] []))
  refine own_by (fun _ k => XS.iloadN X0.here hx rfl (hb hby d1_0) rfl k) ?_
  show own_Go _ _ _ _ (s₁.setTop (mkF m 1 #[.val (.int p1), .val (.int p2), .val (.int p3), .val (.int p4), .val (.int p5)] [(.int p1)]))
  refine own_by (fun _ k => XS.iloadN X0.here hx rfl (hb hby d1_1) rfl k) ?_
  show own_Go _ _ _ _ (s₁.setTop (mkF m 2 #[.val (.int p1), .val (.int p2), .val (.int p3), .val (.int p4), .val (.int p5)] [(.int p2), (.int p1)]))
  by_cases hc1 : p1 < p2
  · --
    refine own_by (fun _ k => XS.icmpYes X0.here hx rfl (pc0 := 2) (pc' := 32) rfl (hb hby d1_2) rfl (tlt hc1).1 (by decide) (by decide) k) ?_
    show own_Go _ _ _ _ (s₁.setTop (mkF m 32 #[.val (.int p1), .val (.int p2), .val (.int p3), .val (.int p4), .val (.int p5)] []))
    refine own_by (fun _ k => XS.iload X0.here hx rfl (hb hby d1_32) rfl k) ?_
    show own_Go _ _ _ _ (s₁.setTop (mkF m 34 #[.val (.int p1), .val (.int p2), .val (.int p3), .val (.int p4), .val (.int p5)] [(.int p5)]))
    exact own_retN X0 hx Bd.notSynchronized e0 Bd.returns (by simp) (hb hby d1_34) (⟨_, rfl, N0, (Keep.refl h0 []), fun hb1 hb2 => by have q := own_addn hF (by omega) hL (by omega); have hx := hc1; rw [Int32.lt_iff_toInt_lt, hKK, hF] at hx; omega⟩) (by decide) (by decide)
  · --
    refine own_by (fun _ k => XS.icmpNo X0.here hx rfl (hb hby d1_2) rfl (flt hc1).1 k) ?_
    have hK1 : F ≤ K := by rw [Int32.lt_iff_toInt_lt, hKK, hF] at hc1; omega
    show own_Go _ _ _ _ (s₁.setTop (mkF m 5 #[.val (.int p1), .val (.int p2), .val (.int p3), .val (.int p4), .val (.int p5)] []))
    refine own_by (fun _ k => XS.iloadN X0.here hx rfl (hb hby d1_5) rfl k) ?_
    show own_Go _ _ _ _ (s₁.setTop (mkF m 6 #[.val (.int p1), .val (.int p2), .val (.int p3), .val (.int p4), .val (.int p5)] [(.int p1)]))
    refine own_by (fun _ k => XS.iloadN X0.here hx rfl (hb hby d1_6) rfl k) ?_
    show own_Go _ _ _ _ (s₁.setTop (mkF m 7 #[.val (.int p1), .val (.int p2), .val (.int p3), .val (.int p4), .val (.int p5)] [(.int p2), (.int p1)]))
    refine own_by (fun _ k => XS.iloadN X0.here hx rfl (hb hby d1_7) rfl k) ?_
    show own_Go _ _ _ _ (s₁.setTop (mkF m 8 #[.val (.int p1), .val (.int p2), .val (.int p3), .val (.int p4), .val (.int p5)] [(.int p3), (.int p2), (.int p1)]))
    refine own_by (fun _ k => XS.iadd X0.here hx rfl (hb hby d1_8) rfl k) ?_
    show own_Go _ _ _ _ (s₁.setTop (mkF m 9 #[.val (.int p1), .val (.int p2), .val (.int p3), .val (.int p4), .val (.int p5)] [(.int (p2 + p3)), (.int p1)]))
    by_cases hc2 : p1 < (p2 + p3)
    · --
      refine own_by (fun _ k => XS.icmpNo X0.here hx rfl (hb hby d1_9) rfl (tlt hc2).2.1 k) ?_
      have hK2 : K < F + L := by have q := own_addn hF (by omega) hL (by omega); rw [Int32.lt_iff_toInt_lt, hKK, q] at hc2; omega
      show own_Go _ _ _ _ (s₁.setTop (mkF m 12 #[.val (.int p1), .val (.int p2), .val (.int p3), .val (.int p4), .val (.int p5)] []))
      refine own_by (fun _ k => XS.bipush X0.here hx rfl (hb hby d1_12) k) ?_
      show own_Go _ _ _ _ (s₁.setTop (mkF m 14 #[.val (.int p1), .val (.int p2), .val (.int p3), .val (.int p4), .val (.int p5)] [(.int (48 : Int32))]))
      refine own_by (fun _ k => XS.iloadN X0.here hx rfl (hb hby d1_14) rfl k) ?_
      show own_Go _ _ _ _ (s₁.setTop (mkF m 15 #[.val (.int p1), .val (.int p2), .val (.int p3), .val (.int p4), .val (.int p5)] [(.int p4), (.int (48 : Int32))]))
      refine own_by (fun _ k => XS.iloadN X0.here hx rfl (hb hby d1_15) rfl k) ?_
      show own_Go _ _ _ _ (s₁.setTop (mkF m 16 #[.val (.int p1), .val (.int p2), .val (.int p3), .val (.int p4), .val (.int p5)] [(.int p3), (.int p4), (.int (48 : Int32))]))
      refine own_by (fun _ k => XS.iconst X0.here hx rfl (hb hby d1_16) k) ?_
      show own_Go _ _ _ _ (s₁.setTop (mkF m 17 #[.val (.int p1), .val (.int p2), .val (.int p3), .val (.int p4), .val (.int p5)] [(.int (1 : Int32)), (.int p3), (.int p4), (.int (48 : Int32))]))
      refine own_by (fun _ k => XS.isub X0.here hx rfl (hb hby d1_17) rfl k) ?_
      show own_Go _ _ _ _ (s₁.setTop (mkF m 18 #[.val (.int p1), .val (.int p2), .val (.int p3), .val (.int p4), .val (.int p5)] [(.int (p3 - (1 : Int32))), (.int p4), (.int (48 : Int32))]))
      refine own_by (fun _ k => XS.iloadN X0.here hx rfl (hb hby d1_18) rfl k) ?_
      show own_Go _ _ _ _ (s₁.setTop (mkF m 19 #[.val (.int p1), .val (.int p2), .val (.int p3), .val (.int p4), .val (.int p5)] [(.int p1), (.int (p3 - (1 : Int32))), (.int p4), (.int (48 : Int32))]))
      refine own_by (fun _ k => XS.iloadN X0.here hx rfl (hb hby d1_19) rfl k) ?_
      show own_Go _ _ _ _ (s₁.setTop (mkF m 20 #[.val (.int p1), .val (.int p2), .val (.int p3), .val (.int p4), .val (.int p5)] [(.int p2), (.int p1), (.int (p3 - (1 : Int32))), (.int p4), (.int (48 : Int32))]))
      refine own_by (fun _ k => XS.isub X0.here hx rfl (hb hby d1_20) rfl k) ?_
      show own_Go _ _ _ _ (s₁.setTop (mkF m 21 #[.val (.int p1), .val (.int p2), .val (.int p3), .val (.int p4), .val (.int p5)] [(.int (p1 - p2)), (.int (p3 - (1 : Int32))), (.int p4), (.int (48 : Int32))]))
      refine own_by (fun _ k => XS.isub X0.here hx rfl (hb hby d1_21) rfl k) ?_
      show own_Go _ _ _ _ (s₁.setTop (mkF m 22 #[.val (.int p1), .val (.int p2), .val (.int p3), .val (.int p4), .val (.int p5)] [(.int ((p3 - (1 : Int32)) - (p1 - p2))), (.int p4), (.int (48 : Int32))]))
      obtain ⟨g3, hg3⟩ : ∃ z_ : Int32, ((p3 - (1 : Int32)) - (p1 - p2)) = z_ := ⟨_, rfl⟩
      refine own_gen hg3 (fun z_ => s₁.setTop (mkF m 22 #[.val (.int p1), .val (.int p2), .val (.int p3), .val (.int p4), .val (.int p5)] [(.int z_), (.int p4), (.int (48 : Int32))])) ?_
      refine own_callS X0 hx hZ hown (hw _ (List.mem_of_getElem? (i := 15) rfl)) (hw _ (List.mem_of_getElem? (i := 16) rfl)) (hw _ (List.mem_of_getElem? (i := 6) rfl)) (hw _ (List.mem_of_getElem? (i := 17) rfl)) (by decide) (rm4 l Z a0 hw [] g3 (L - 1 - (K - F)) h0 n0 Z0 (by rw [← hg3, own_subn (own_subn hL (by decide : (1 : Int32).toInt = 1) (by omega) (by omega)) (own_subn hKK hF (by omega) (by omega)) (by omega) (by omega)]; omega) (by omega)) e0 (by rw [hml]; rfl) [(.int g3)] [(.int p4), (.int (48 : Int32))] rfl (lenOf own_pd3 rfl) rfl 2 (Nat.le_of_eq rfl) (by decide) (by decide) (Nat.le_of_ble_eq_true rfl) (Nat.le_of_ble_eq_true rfl) (hb hby d1_22) ?_
      intro T4 Lc4 v4 X4 hQ4
      obtain ⟨h4, e4⟩ : ∃ h, T4.heap = h := ⟨_, rfl⟩
      rw [e4] at hQ4
      obtain ⟨rfl, N4q, K4⟩ := hQ4
      have N4 := Fr.app N0 N4q
      have f5 := (Keep.refl h0 []).trans K4 all0
      have Z4 := Nat.le_trans Z0 K4.1
      show own_Go _ _ _ _ (T4.setTop (mkF m 25 #[.val (.int p1), .val (.int p2), .val (.int p3), .val (.int p4), .val (.int p5)] [(.int (own_pw (L - 1 - (K - F)))), (.int p4), (.int (48 : Int32))]))
      refine own_by (fun _ k => XS.idiv X4.here hx rfl (hb hby d1_25) rfl (own_pwz _ (by omega)) k) ?_
      show own_Go _ _ _ _ (T4.setTop (mkF m 26 #[.val (.int p1), .val (.int p2), .val (.int p3), .val (.int p4), .val (.int p5)] [(.int (p4 / (own_pw (L - 1 - (K - F))))), (.int (48 : Int32))]))
      refine own_by (fun _ k => XS.bipush X4.here hx rfl (hb hby d1_26) k) ?_
      show own_Go _ _ _ _ (T4.setTop (mkF m 28 #[.val (.int p1), .val (.int p2), .val (.int p3), .val (.int p4), .val (.int p5)] [(.int (10 : Int32)), (.int (p4 / (own_pw (L - 1 - (K - F))))), (.int (48 : Int32))]))
      refine own_by (fun _ k => iremM X4 hx rfl (hb hby d1_28) rfl (by decide) k) ?_
      show own_Go _ _ _ _ (T4.setTop (mkF m 29 #[.val (.int p1), .val (.int p2), .val (.int p3), .val (.int p4), .val (.int p5)] [(.int ((p4 / (own_pw (L - 1 - (K - F)))) % (10 : Int32))), (.int (48 : Int32))]))
      refine own_by (fun _ k => XS.iadd X4.here hx rfl (hb hby d1_29) rfl k) ?_
      show own_Go _ _ _ _ (T4.setTop (mkF m 30 #[.val (.int p1), .val (.int p2), .val (.int p3), .val (.int p4), .val (.int p5)] [(.int ((48 : Int32) + ((p4 / (own_pw (L - 1 - (K - F)))) % (10 : Int32))))]))
      refine own_by (fun _ k => XS.i2b X4.here hx rfl (hb hby d1_30) rfl k) ?_
      show own_Go _ _ _ _ (T4.setTop (mkF m 31 #[.val (.int p1), .val (.int p2), .val (.int p3), .val (.int p4), .val (.int p5)] [(.int (((48 : Int32) + ((p4 / (own_pw (L - 1 - (K - F)))) % (10 : Int32))).toInt8.toInt32))]))
      exact own_retN X4 hx Bd.notSynchronized e4 Bd.returns (by simp) (hb hby d1_31) (⟨_, rfl, N4, f5, fun hb1 hb2 => own_atv p4 _ V _ hV (own_pwv _ (by omega))⟩) (by decide) (by decide)
    · --
      refine own_by (fun _ k => XS.icmpYes X0.here hx rfl (pc0 := 9) (pc' := 32) rfl (hb hby d1_9) rfl (flt hc2).2.1 (by decide) (by decide) k) ?_
      show own_Go _ _ _ _ (s₁.setTop (mkF m 32 #[.val (.int p1), .val (.int p2), .val (.int p3), .val (.int p4), .val (.int p5)] []))
      refine own_by (fun _ k => XS.iload X0.here hx rfl (hb hby d1_32) rfl k) ?_
      show own_Go _ _ _ _ (s₁.setTop (mkF m 34 #[.val (.int p1), .val (.int p2), .val (.int p3), .val (.int p4), .val (.int p5)] [(.int p5)]))
      exact own_retN X0 hx Bd.notSynchronized e0 Bd.returns (by simp) (hb hby d1_34) (⟨_, rfl, N0, (Keep.refl h0 []), fun hb1 hb2 => by have q := own_addn hF (by omega) hL (by omega); have hx := hc2; rw [Int32.lt_iff_toInt_lt, hKK, q] at hx; omega⟩) (by decide) (by decide)
theorem own_upw (w nd od p : Int32) (V L i : Nat) (b : Int) (hw : w.toInt = ((V % 10 ^ L : Nat) : Int)) (hnd : nd.toInt = b - 48) (hod : od.toInt = (((V % 10 ^ L) / 10 ^ (L - 1 - i) % 10 : Nat) : Int)) (hp : p.toInt = ((10 ^ (L - 1 - i) : Nat) : Int)) (hL : L ≤ 9) (hi : i < L) (hb : ¬ (b - 48 < 0 ∨ 9 < b - 48)) :
    (w + (nd - od) * p).toInt = ((V % 10 ^ L : Nat) : Int) + (b - 48 - (((V % 10 ^ L) / 10 ^ (L - 1 - i) % 10 : Nat) : Int)) * ((10 ^ (L - 1 - i) : Nat) : Int) := by
  have c1 := c_isub nd od
  have c2 := c_imul (nd - od) p
  have c3 := c_iadd w ((nd - od) * p)
  have r1 := rng32 (nd - od)
  have r2 := rng32 ((nd - od) * p)
  have r3 := rng32 (w + (nd - od) * p)
  have h1 : V % 10 ^ L < 10 ^ L := Nat.mod_lt _ (own_pow_pos L)
  have h2 := own_pow_le L hL
  have tt3 := own_pow_le (L - 1 - i) (by omega)
  have tt3' : 10 ^ (L - 1 - i) ≤ 100000000 := by
    have := Nat.pow_le_pow_right (n := 10) (by decide) (show L - 1 - i ≤ 8 by omega); simpa using this
  have h4 := Nat.mod_lt ((V % 10 ^ L) / 10 ^ (L - 1 - i)) (show 0 < 10 by decide)
  rw [hnd, hod] at c1
  rw [hp] at c2
  generalize hW : V % 10 ^ L = W at *
  generalize hT : 10 ^ (L - 1 - i) = t at *
  generalize hO : W / t % 10 = o at *
  have e1 : (nd - od).toInt = b - 48 - (o : Int) := by omega
  rw [e1] at c2
  have e2 : (b - 48 - (o : Int)) * (t : Int) ≤ 9 * (t : Int) := Int.mul_le_mul_of_nonneg_right (by omega) (by omega)
  have e3 : -9 * (t : Int) ≤ (b - 48 - (o : Int)) * (t : Int) := Int.mul_le_mul_of_nonneg_right (by omega) (by omega)
  generalize (b - 48 - (o : Int)) * (t : Int) = u at *
  omega
set_option maxRecDepth 65536 in
set_option maxHeartbeats 40000000 in
theorem rm2 (l : Launch) (Z : State) (a0 : Array Value) (hw : ∀ d ∈ tables_1, d.before a0 Z = true) (ws : List Jvm.Cond) (p1 : Int32) (p2 : Int32) (p3 : Int32) (p4 : Int32) (p5 : Int32) (p6 : Int32) (V F L P : Nat) (h0 : Heap) (n0 : Nat) (Z0 : n0 ≤ h0.size) (hV : p1.toInt = (V : Int)) (hF : p2.toInt = (F : Int)) (hL : p3.toInt = (L : Int)) (hP : p5.toInt = (P : Int)) (hF3 : F ≤ 3) (hL10 : L ≤ 10) (hP15 : P ≤ 15) (hB : -128 ≤ p6.toInt ∧ p6.toInt < 128) :
    MetFree l (⟨"com/example/link_prestige/linkprestige/PageNamesDecimalPinLaw", "expected", "(IIIZIB)I"⟩ : MethodName) (head1 (Jvm.Cond.code (⟨"com/example/link_prestige/linkprestige/PageNamesDecimalPinLaw", "expected", "(IIIZIB)I"⟩ : MethodName) method_4_code 11 (some .int) :: ws) ({ frames := 1, cells := 4, slots := 40, locals := 15 } : Room)) (fun a U => a = #[(.int p1), (.int p2), (.int p3), (.int p4), (.int p5), (.int p6)] ∧ Z.Warmed39 U.vm ∧ U.heap = h0) (fun _ _ _ _ _ => True) (fun _ U o U' => ∃ vv LL, o = .returned vv ∧ own_ap (fun v h L' => ∃ z : Int32, v = some (.int z) ∧ Fr n0 L' ∧ Keep h0 h [] ∧ z.toInt = own_ex V F L p4 P (p6.toInt - 48)) vv U'.heap LL ∧ FrameEnd U o U' LL 4 40) := by
  refine MetFree.of_bodySF (plainFor_of_name pn_2) hisR ?_
  intro p e s m args below meth c s₁ Bd hml0 hP hK
  obtain ⟨rfl, hZ, hh⟩ := hP
  have hx := Bd.exec
  have hby := Bd.bytes
  have hml : c.maxLocals = 11 := hml0
  have hown : s.vm.findClass "com/example/link_prestige/linkprestige/PageNamesDecimalPinLaw" = some m.cls := findClass_of_methodNamed Bd.named
  have hnm := (name_of_methodNamed Bd.named Bd.method).1
  have X0 : Stand p l e ({ frames := 1, cells := 4, slots := 40, locals := 15 } : Room) s m #[(.int p1), (.int p2), (.int p3), (.int p4), (.int p5), (.int p6)] below meth c s₁ [] 0 0 := Stand.of_body Bd
  have e0 : s₁.heap = h0 := by rw [← hh, Bd.state]; rfl
  have N0 := Fr.nil n0
  show own_Go p.tables e below (own_Q s (fun v h L' => ∃ z : Int32, v = some (.int z) ∧ Fr n0 L' ∧ Keep h0 h [] ∧ z.toInt = own_ex V F L p4 P (p6.toInt - 48)) 4 40) (s₁.setTop (entryFrame m #[(.int p1), (.int p2), (.int p3), (.int p4), (.int p5), (.int p6)] 11))
  rw [show entryFrame m #[(.int p1), (.int p2), (.int p3), (.int p4), (.int p5), (.int p6)] 11 = mkF m 0 #[.val (.int p1), .val (.int p2), .val (.int p3), .val (.int p4), .val (.int p5), .val (.int p6), .unset, .unset, .unset, .unset, .unset] [] from by first | (simp [entryFrame, mkF, argsToLocals, Value.category]; done) | rfl]
  show own_Go _ _ _ _ (s₁.setTop (mkF m 0 #[.val (.int p1), .val (.int p2), .val (.int p3), .val (.int p4), .val (.int p5), .val (.int p6), .unset, .unset, .unset, .unset, .unset] []))
  refine own_by (fun _ k => XS.iloadN X0.here hx rfl (hb hby d2_0) rfl k) ?_
  show own_Go _ _ _ _ (s₁.setTop (mkF m 1 #[.val (.int p1), .val (.int p2), .val (.int p3), .val (.int p4), .val (.int p5), .val (.int p6), .unset, .unset, .unset, .unset, .unset] [(.int p3)]))
  by_cases hc1 : p3 = (0 : Int32)
  · --
    refine own_by (fun _ k => XS.ifYes X0.here hx rfl (pc0 := 1) (pc' := 10) rfl (hb hby d2_1) rfl ((if0 _ _).trans (teq hc1).1) (by decide) (by decide) k) ?_
    show own_Go _ _ _ _ (s₁.setTop (mkF m 10 #[.val (.int p1), .val (.int p2), .val (.int p3), .val (.int p4), .val (.int p5), .val (.int p6), .unset, .unset, .unset, .unset, .unset] []))
    refine own_by (fun _ k => XS.iconst X0.here hx rfl (hb hby d2_10) k) ?_
    show own_Go _ _ _ _ (s₁.setTop (mkF m 11 #[.val (.int p1), .val (.int p2), .val (.int p3), .val (.int p4), .val (.int p5), .val (.int p6), .unset, .unset, .unset, .unset, .unset] [(.int (-1 : Int32))]))
    exact own_retI X0 hx Bd.notSynchronized e0 Bd.returns (hb hby d2_11) (⟨_, rfl, N0, (Keep.refl h0 []), own_lm1.trans (own_exA (Or.inl (by have a := hc1; rw [← Int32.toInt_inj, hL, own_l0] at a; omega))).symm⟩) (by decide) (by decide)
  · --
    refine own_by (fun _ k => XS.ifNo X0.here hx rfl (hb hby d2_1) rfl ((if0 _ _).trans (feq hc1).1) k) ?_
    show own_Go _ _ _ _ (s₁.setTop (mkF m 4 #[.val (.int p1), .val (.int p2), .val (.int p3), .val (.int p4), .val (.int p5), .val (.int p6), .unset, .unset, .unset, .unset, .unset] []))
    refine own_by (fun _ k => XS.iloadN X0.here hx rfl (hb hby d2_4) rfl k) ?_
    show own_Go _ _ _ _ (s₁.setTop (mkF m 5 #[.val (.int p1), .val (.int p2), .val (.int p3), .val (.int p4), .val (.int p5), .val (.int p6), .unset, .unset, .unset, .unset, .unset] [(.int p3)]))
    refine own_by (fun _ k => XS.bipush X0.here hx rfl (hb hby d2_5) k) ?_
    show own_Go _ _ _ _ (s₁.setTop (mkF m 7 #[.val (.int p1), .val (.int p2), .val (.int p3), .val (.int p4), .val (.int p5), .val (.int p6), .unset, .unset, .unset, .unset, .unset] [(.int (9 : Int32)), (.int p3)]))
    by_cases hc2 : (9 : Int32) < p3
    · --
      refine own_by (fun _ k => XS.icmpNo X0.here hx rfl (hb hby d2_7) rfl (tlt hc2).2.2.2 k) ?_
      show own_Go _ _ _ _ (s₁.setTop (mkF m 10 #[.val (.int p1), .val (.int p2), .val (.int p3), .val (.int p4), .val (.int p5), .val (.int p6), .unset, .unset, .unset, .unset, .unset] []))
      refine own_by (fun _ k => XS.iconst X0.here hx rfl (hb hby d2_10) k) ?_
      show own_Go _ _ _ _ (s₁.setTop (mkF m 11 #[.val (.int p1), .val (.int p2), .val (.int p3), .val (.int p4), .val (.int p5), .val (.int p6), .unset, .unset, .unset, .unset, .unset] [(.int (-1 : Int32))]))
      exact own_retI X0 hx Bd.notSynchronized e0 Bd.returns (hb hby d2_11) (⟨_, rfl, N0, (Keep.refl h0 []), own_lm1.trans (own_exA (Or.inr (by have a := hc2; rw [Int32.lt_iff_toInt_lt, own_l9, hL] at a; omega))).symm⟩) (by decide) (by decide)
    · --
      refine own_by (fun _ k => XS.icmpYes X0.here hx rfl (pc0 := 7) (pc' := 12) rfl (hb hby d2_7) rfl (flt hc2).2.2.2 (by decide) (by decide) k) ?_
      have hLL : ¬ (L = 0 ∨ 9 < L) := by have a := hc1; have b := hc2; rw [← Int32.toInt_inj, hL, own_l0] at a; rw [Int32.lt_iff_toInt_lt, own_l9, hL] at b; omega
      show own_Go _ _ _ _ (s₁.setTop (mkF m 12 #[.val (.int p1), .val (.int p2), .val (.int p3), .val (.int p4), .val (.int p5), .val (.int p6), .unset, .unset, .unset, .unset, .unset] []))
      refine own_by (fun _ k => XS.iloadN X0.here hx rfl (hb hby d2_12) rfl k) ?_
      show own_Go _ _ _ _ (s₁.setTop (mkF m 13 #[.val (.int p1), .val (.int p2), .val (.int p3), .val (.int p4), .val (.int p5), .val (.int p6), .unset, .unset, .unset, .unset, .unset] [(.int p1)]))
      refine own_by (fun _ k => XS.iloadN X0.here hx rfl (hb hby d2_13) rfl k) ?_
      show own_Go _ _ _ _ (s₁.setTop (mkF m 14 #[.val (.int p1), .val (.int p2), .val (.int p3), .val (.int p4), .val (.int p5), .val (.int p6), .unset, .unset, .unset, .unset, .unset] [(.int p3), (.int p1)]))
      refine own_callS X0 hx hZ hown (hw _ (List.mem_of_getElem? (i := 15) rfl)) (hw _ (List.mem_of_getElem? (i := 16) rfl)) (hw _ (List.mem_of_getElem? (i := 6) rfl)) (hw _ (List.mem_of_getElem? (i := 17) rfl)) (by decide) (rm4 l Z a0 hw [] p3 (L) h0 n0 Z0 (hL) (by omega)) e0 (by rw [hml]; rfl) [(.int p3)] [(.int p1)] rfl (lenOf own_pd3 rfl) rfl 1 (Nat.le_of_eq rfl) (by decide) (by decide) (Nat.le_of_ble_eq_true rfl) (Nat.le_of_ble_eq_true rfl) (hb hby d2_14) ?_
      intro T3 Lc3 v3 X3 hQ3
      obtain ⟨h3, e3⟩ : ∃ h, T3.heap = h := ⟨_, rfl⟩
      rw [e3] at hQ3
      obtain ⟨rfl, N3q, K3⟩ := hQ3
      have N3 := Fr.app N0 N3q
      have f4 := (Keep.refl h0 []).trans K3 all0
      have Z3 := Nat.le_trans Z0 K3.1
      show own_Go _ _ _ _ (T3.setTop (mkF m 17 #[.val (.int p1), .val (.int p2), .val (.int p3), .val (.int p4), .val (.int p5), .val (.int p6), .unset, .unset, .unset, .unset, .unset] [(.int (own_pw (L))), (.int p1)]))
      refine own_by (fun _ k => iremM X3 hx rfl (hb hby d2_17) rfl (own_pwz _ (by omega)) k) ?_
      show own_Go _ _ _ _ (T3.setTop (mkF m 18 #[.val (.int p1), .val (.int p2), .val (.int p3), .val (.int p4), .val (.int p5), .val (.int p6), .unset, .unset, .unset, .unset, .unset] [(.int (p1 % (own_pw (L))))]))
      obtain ⟨v6_5, hv6_5⟩ : ∃ z_ : Int32, (p1 % (own_pw (L))) = z_ := ⟨_, rfl⟩
      refine own_gen hv6_5 (fun z_ => T3.setTop (mkF m 18 #[.val (.int p1), .val (.int p2), .val (.int p3), .val (.int p4), .val (.int p5), .val (.int p6), .unset, .unset, .unset, .unset, .unset] [(.int z_)])) ?_
      refine own_by (fun _ k => XS.istore X3.here hx rfl (hb hby d2_18) rfl (l' := #[.val (.int p1), .val (.int p2), .val (.int p3), .val (.int p4), .val (.int p5), .val (.int p6), .val (.int v6_5), .unset, .unset, .unset, .unset]) rfl k) ?_
      have tt6 : (v6_5).toInt = ((V % 10 ^ L : Nat) : Int) := by rw [← hv6_5]; exact own_rem _ _ V _ hV (own_pwv L (by omega))
      show own_Go _ _ _ _ (T3.setTop (mkF m 20 #[.val (.int p1), .val (.int p2), .val (.int p3), .val (.int p4), .val (.int p5), .val (.int p6), .val (.int v6_5), .unset, .unset, .unset, .unset] []))
      refine own_by (fun _ k => XS.iload X3.here hx rfl (hb hby d2_20) rfl k) ?_
      show own_Go _ _ _ _ (T3.setTop (mkF m 22 #[.val (.int p1), .val (.int p2), .val (.int p3), .val (.int p4), .val (.int p5), .val (.int p6), .val (.int v6_5), .unset, .unset, .unset, .unset] [(.int v6_5)]))
      refine own_by (fun _ k => XS.iloadN X3.here hx rfl (hb hby d2_22) rfl k) ?_
      show own_Go _ _ _ _ (T3.setTop (mkF m 23 #[.val (.int p1), .val (.int p2), .val (.int p3), .val (.int p4), .val (.int p5), .val (.int p6), .val (.int v6_5), .unset, .unset, .unset, .unset] [(.int p3), (.int v6_5)]))
      refine own_by (fun _ k => XS.iconst X3.here hx rfl (hb hby d2_23) k) ?_
      show own_Go _ _ _ _ (T3.setTop (mkF m 24 #[.val (.int p1), .val (.int p2), .val (.int p3), .val (.int p4), .val (.int p5), .val (.int p6), .val (.int v6_5), .unset, .unset, .unset, .unset] [(.int (1 : Int32)), (.int p3), (.int v6_5)]))
      refine own_by (fun _ k => XS.isub X3.here hx rfl (hb hby d2_24) rfl k) ?_
      show own_Go _ _ _ _ (T3.setTop (mkF m 25 #[.val (.int p1), .val (.int p2), .val (.int p3), .val (.int p4), .val (.int p5), .val (.int p6), .val (.int v6_5), .unset, .unset, .unset, .unset] [(.int (p3 - (1 : Int32))), (.int v6_5)]))
      obtain ⟨g6, hg6⟩ : ∃ z_ : Int32, (p3 - (1 : Int32)) = z_ := ⟨_, rfl⟩
      refine own_gen hg6 (fun z_ => T3.setTop (mkF m 25 #[.val (.int p1), .val (.int p2), .val (.int p3), .val (.int p4), .val (.int p5), .val (.int p6), .val (.int v6_5), .unset, .unset, .unset, .unset] [(.int z_), (.int v6_5)])) ?_
      refine own_callS X3 hx hZ hown (hw _ (List.mem_of_getElem? (i := 15) rfl)) (hw _ (List.mem_of_getElem? (i := 16) rfl)) (hw _ (List.mem_of_getElem? (i := 6) rfl)) (hw _ (List.mem_of_getElem? (i := 17) rfl)) (by decide) (rm4 l Z a0 hw [] g6 (L - 1) h3 n0 Z3 (by rw [← hg6, own_subn hL (by decide : (1 : Int32).toInt = 1) (by omega) (by omega)]; omega) (by omega)) e3 (by rw [hml]; rfl) [(.int g6)] [(.int v6_5)] rfl (lenOf own_pd3 rfl) rfl 1 (Nat.le_of_eq rfl) (by decide) (by decide) (Nat.le_of_ble_eq_true rfl) (Nat.le_of_ble_eq_true rfl) (hb hby d2_25) ?_
      intro T7 Lc7 v7 X7 hQ7
      obtain ⟨h7, e7⟩ : ∃ h, T7.heap = h := ⟨_, rfl⟩
      rw [e7] at hQ7
      obtain ⟨rfl, N7q, K7⟩ := hQ7
      have N7 := Fr.app N3 N7q
      have f8 := f4.trans K7 all0
      have Z7 := Nat.le_trans Z3 K7.1
      show own_Go _ _ _ _ (T7.setTop (mkF m 28 #[.val (.int p1), .val (.int p2), .val (.int p3), .val (.int p4), .val (.int p5), .val (.int p6), .val (.int v6_5), .unset, .unset, .unset, .unset] [(.int (own_pw (L - 1))), (.int v6_5)]))
      refine own_by (fun _ k => XS.idiv X7.here hx rfl (hb hby d2_28) rfl (own_pwz _ (by omega)) k) ?_
      show own_Go _ _ _ _ (T7.setTop (mkF m 29 #[.val (.int p1), .val (.int p2), .val (.int p3), .val (.int p4), .val (.int p5), .val (.int p6), .val (.int v6_5), .unset, .unset, .unset, .unset] [(.int (v6_5 / (own_pw (L - 1))))]))
      obtain ⟨v7_9, hv7_9⟩ : ∃ z_ : Int32, (v6_5 / (own_pw (L - 1))) = z_ := ⟨_, rfl⟩
      refine own_gen hv7_9 (fun z_ => T7.setTop (mkF m 29 #[.val (.int p1), .val (.int p2), .val (.int p3), .val (.int p4), .val (.int p5), .val (.int p6), .val (.int v6_5), .unset, .unset, .unset, .unset] [(.int z_)])) ?_
      refine own_by (fun _ k => XS.istore X7.here hx rfl (hb hby d2_29) rfl (l' := #[.val (.int p1), .val (.int p2), .val (.int p3), .val (.int p4), .val (.int p5), .val (.int p6), .val (.int v6_5), .val (.int v7_9), .unset, .unset, .unset]) rfl k) ?_
      have tt7 : (v7_9).toInt = (((V % 10 ^ L) / 10 ^ (L - 1) : Nat) : Int) := by rw [← hv7_9]; exact own_div _ _ _ _ tt6 (own_pwv (L - 1) (by omega))
      show own_Go _ _ _ _ (T7.setTop (mkF m 31 #[.val (.int p1), .val (.int p2), .val (.int p3), .val (.int p4), .val (.int p5), .val (.int p6), .val (.int v6_5), .val (.int v7_9), .unset, .unset, .unset] []))
      refine own_by (fun _ k => XS.iloadN X7.here hx rfl (hb hby d2_31) rfl k) ?_
      show own_Go _ _ _ _ (T7.setTop (mkF m 32 #[.val (.int p1), .val (.int p2), .val (.int p3), .val (.int p4), .val (.int p5), .val (.int p6), .val (.int v6_5), .val (.int v7_9), .unset, .unset, .unset] [(.int p4)]))
      by_cases hc10 : p4 = (0 : Int32)
      · --
        refine own_by (fun _ k => XS.ifYes X7.here hx rfl (pc0 := 32) (pc' := 122) rfl (hb hby d2_32) rfl ((if0 _ _).trans (teq hc10).1) (by decide) (by decide) k) ?_
        show own_Go _ _ _ _ (T7.setTop (mkF m 122 #[.val (.int p1), .val (.int p2), .val (.int p3), .val (.int p4), .val (.int p5), .val (.int p6), .val (.int v6_5), .val (.int v7_9), .unset, .unset, .unset] []))
        refine own_by (fun _ k => XS.iload X7.here hx rfl (hb hby d2_122) rfl k) ?_
        show own_Go _ _ _ _ (T7.setTop (mkF m 124 #[.val (.int p1), .val (.int p2), .val (.int p3), .val (.int p4), .val (.int p5), .val (.int p6), .val (.int v6_5), .val (.int v7_9), .unset, .unset, .unset] [(.int v7_9)]))
        by_cases hc11 : v7_9 = (0 : Int32)
        · --
          refine own_by (fun _ k => XS.ifNo X7.here hx rfl (hb hby d2_124) rfl ((if0 _ _).trans (teq hc11).2) k) ?_
          show own_Go _ _ _ _ (T7.setTop (mkF m 127 #[.val (.int p1), .val (.int p2), .val (.int p3), .val (.int p4), .val (.int p5), .val (.int p6), .val (.int v6_5), .val (.int v7_9), .unset, .unset, .unset] []))
          refine own_by (fun _ k => XS.iloadN X7.here hx rfl (hb hby d2_127) rfl k) ?_
          show own_Go _ _ _ _ (T7.setTop (mkF m 128 #[.val (.int p1), .val (.int p2), .val (.int p3), .val (.int p4), .val (.int p5), .val (.int p6), .val (.int v6_5), .val (.int v7_9), .unset, .unset, .unset] [(.int p3)]))
          refine own_by (fun _ k => XS.iconst X7.here hx rfl (hb hby d2_128) k) ?_
          show own_Go _ _ _ _ (T7.setTop (mkF m 129 #[.val (.int p1), .val (.int p2), .val (.int p3), .val (.int p4), .val (.int p5), .val (.int p6), .val (.int v6_5), .val (.int v7_9), .unset, .unset, .unset] [(.int (1 : Int32)), (.int p3)]))
          by_cases hc12 : (1 : Int32) < p3
          · --
            refine own_by (fun _ k => XS.icmpNo X7.here hx rfl (hb hby d2_129) rfl (tlt hc12).2.2.2 k) ?_
            show own_Go _ _ _ _ (T7.setTop (mkF m 132 #[.val (.int p1), .val (.int p2), .val (.int p3), .val (.int p4), .val (.int p5), .val (.int p6), .val (.int v6_5), .val (.int v7_9), .unset, .unset, .unset] []))
            refine own_by (fun _ k => XS.iconst X7.here hx rfl (hb hby d2_132) k) ?_
            show own_Go _ _ _ _ (T7.setTop (mkF m 133 #[.val (.int p1), .val (.int p2), .val (.int p3), .val (.int p4), .val (.int p5), .val (.int p6), .val (.int v6_5), .val (.int v7_9), .unset, .unset, .unset] [(.int (-1 : Int32))]))
            have hxx : own_ex V F L p4 P (p6.toInt - 48) = _ := own_exB hLL (fun q => q.1 hc10)
            have hl0 := hc11
            rw [← Int32.toInt_inj, own_l0, tt7] at hl0
            have h1L := hc12
            rw [Int32.lt_iff_toInt_lt, hL, (by decide : (1 : Int32).toInt = 1)] at h1L
            rw [if_pos ⟨by omega, by omega⟩] at hxx
            exact own_retI X7 hx Bd.notSynchronized e7 Bd.returns (hb hby d2_133) (⟨_, rfl, N7, f8, own_lm1.trans hxx.symm⟩) (by decide) (by decide)
          · --
            refine own_by (fun _ k => XS.icmpYes X7.here hx rfl (pc0 := 129) (pc' := 134) rfl (hb hby d2_129) rfl (flt hc12).2.2.2 (by decide) (by decide) k) ?_
            show own_Go _ _ _ _ (T7.setTop (mkF m 134 #[.val (.int p1), .val (.int p2), .val (.int p3), .val (.int p4), .val (.int p5), .val (.int p6), .val (.int v6_5), .val (.int v7_9), .unset, .unset, .unset] []))
            refine own_by (fun _ k => XS.iload X7.here hx rfl (hb hby d2_134) rfl k) ?_
            show own_Go _ _ _ _ (T7.setTop (mkF m 136 #[.val (.int p1), .val (.int p2), .val (.int p3), .val (.int p4), .val (.int p5), .val (.int p6), .val (.int v6_5), .val (.int v7_9), .unset, .unset, .unset] [(.int v6_5)]))
            have hxx : own_ex V F L p4 P (p6.toInt - 48) = _ := own_exB hLL (fun q => q.1 hc10)
            have hl0 := hc11
            rw [← Int32.toInt_inj, own_l0, tt7] at hl0
            have h1L := hc12
            rw [Int32.lt_iff_toInt_lt, hL, (by decide : (1 : Int32).toInt = 1)] at h1L
            rw [if_neg (fun q => by omega)] at hxx
            exact own_retI X7 hx Bd.notSynchronized e7 Bd.returns (hb hby d2_136) (⟨_, rfl, N7, f8, tt6.trans hxx.symm⟩) (by decide) (by decide)
        · --
          refine own_by (fun _ k => XS.ifYes X7.here hx rfl (pc0 := 124) (pc' := 134) rfl (hb hby d2_124) rfl ((if0 _ _).trans (feq hc11).2) (by decide) (by decide) k) ?_
          show own_Go _ _ _ _ (T7.setTop (mkF m 134 #[.val (.int p1), .val (.int p2), .val (.int p3), .val (.int p4), .val (.int p5), .val (.int p6), .val (.int v6_5), .val (.int v7_9), .unset, .unset, .unset] []))
          refine own_by (fun _ k => XS.iload X7.here hx rfl (hb hby d2_134) rfl k) ?_
          show own_Go _ _ _ _ (T7.setTop (mkF m 136 #[.val (.int p1), .val (.int p2), .val (.int p3), .val (.int p4), .val (.int p5), .val (.int p6), .val (.int v6_5), .val (.int v7_9), .unset, .unset, .unset] [(.int v6_5)]))
          have hxx : own_ex V F L p4 P (p6.toInt - 48) = _ := own_exB hLL (fun q => q.1 hc10)
          have hl0 := hc11
          rw [← Int32.toInt_inj, own_l0, tt7] at hl0
          rw [if_neg (fun q => by omega)] at hxx
          exact own_retI X7 hx Bd.notSynchronized e7 Bd.returns (hb hby d2_136) (⟨_, rfl, N7, f8, tt6.trans hxx.symm⟩) (by decide) (by decide)
      · --
        refine own_by (fun _ k => XS.ifNo X7.here hx rfl (hb hby d2_32) rfl ((if0 _ _).trans (feq hc10).1) k) ?_
        show own_Go _ _ _ _ (T7.setTop (mkF m 35 #[.val (.int p1), .val (.int p2), .val (.int p3), .val (.int p4), .val (.int p5), .val (.int p6), .val (.int v6_5), .val (.int v7_9), .unset, .unset, .unset] []))
        refine own_by (fun _ k => XS.iload X7.here hx rfl (hb hby d2_35) rfl k) ?_
        show own_Go _ _ _ _ (T7.setTop (mkF m 37 #[.val (.int p1), .val (.int p2), .val (.int p3), .val (.int p4), .val (.int p5), .val (.int p6), .val (.int v6_5), .val (.int v7_9), .unset, .unset, .unset] [(.int p5)]))
        refine own_by (fun _ k => XS.iloadN X7.here hx rfl (hb hby d2_37) rfl k) ?_
        show own_Go _ _ _ _ (T7.setTop (mkF m 38 #[.val (.int p1), .val (.int p2), .val (.int p3), .val (.int p4), .val (.int p5), .val (.int p6), .val (.int v6_5), .val (.int v7_9), .unset, .unset, .unset] [(.int p2), (.int p5)]))
        by_cases hc13 : p5 < p2
        · --
          refine own_by (fun _ k => XS.icmpYes X7.here hx rfl (pc0 := 38) (pc' := 122) rfl (hb hby d2_38) rfl (tlt hc13).1 (by decide) (by decide) k) ?_
          show own_Go _ _ _ _ (T7.setTop (mkF m 122 #[.val (.int p1), .val (.int p2), .val (.int p3), .val (.int p4), .val (.int p5), .val (.int p6), .val (.int v6_5), .val (.int v7_9), .unset, .unset, .unset] []))
          refine own_by (fun _ k => XS.iload X7.here hx rfl (hb hby d2_122) rfl k) ?_
          show own_Go _ _ _ _ (T7.setTop (mkF m 124 #[.val (.int p1), .val (.int p2), .val (.int p3), .val (.int p4), .val (.int p5), .val (.int p6), .val (.int v6_5), .val (.int v7_9), .unset, .unset, .unset] [(.int v7_9)]))
          by_cases hc14 : v7_9 = (0 : Int32)
          · --
            refine own_by (fun _ k => XS.ifNo X7.here hx rfl (hb hby d2_124) rfl ((if0 _ _).trans (teq hc14).2) k) ?_
            show own_Go _ _ _ _ (T7.setTop (mkF m 127 #[.val (.int p1), .val (.int p2), .val (.int p3), .val (.int p4), .val (.int p5), .val (.int p6), .val (.int v6_5), .val (.int v7_9), .unset, .unset, .unset] []))
            refine own_by (fun _ k => XS.iloadN X7.here hx rfl (hb hby d2_127) rfl k) ?_
            show own_Go _ _ _ _ (T7.setTop (mkF m 128 #[.val (.int p1), .val (.int p2), .val (.int p3), .val (.int p4), .val (.int p5), .val (.int p6), .val (.int v6_5), .val (.int v7_9), .unset, .unset, .unset] [(.int p3)]))
            refine own_by (fun _ k => XS.iconst X7.here hx rfl (hb hby d2_128) k) ?_
            show own_Go _ _ _ _ (T7.setTop (mkF m 129 #[.val (.int p1), .val (.int p2), .val (.int p3), .val (.int p4), .val (.int p5), .val (.int p6), .val (.int v6_5), .val (.int v7_9), .unset, .unset, .unset] [(.int (1 : Int32)), (.int p3)]))
            by_cases hc15 : (1 : Int32) < p3
            · --
              refine own_by (fun _ k => XS.icmpNo X7.here hx rfl (hb hby d2_129) rfl (tlt hc15).2.2.2 k) ?_
              show own_Go _ _ _ _ (T7.setTop (mkF m 132 #[.val (.int p1), .val (.int p2), .val (.int p3), .val (.int p4), .val (.int p5), .val (.int p6), .val (.int v6_5), .val (.int v7_9), .unset, .unset, .unset] []))
              refine own_by (fun _ k => XS.iconst X7.here hx rfl (hb hby d2_132) k) ?_
              show own_Go _ _ _ _ (T7.setTop (mkF m 133 #[.val (.int p1), .val (.int p2), .val (.int p3), .val (.int p4), .val (.int p5), .val (.int p6), .val (.int v6_5), .val (.int v7_9), .unset, .unset, .unset] [(.int (-1 : Int32))]))
              have hxx : own_ex V F L p4 P (p6.toInt - 48) = _ := own_exB hLL (fun q => by have hb := hc13; rw [Int32.lt_iff_toInt_lt, hP, hF] at hb; omega)
              have hl0 := hc14
              rw [← Int32.toInt_inj, own_l0, tt7] at hl0
              have h1L := hc15
              rw [Int32.lt_iff_toInt_lt, hL, (by decide : (1 : Int32).toInt = 1)] at h1L
              rw [if_pos ⟨by omega, by omega⟩] at hxx
              exact own_retI X7 hx Bd.notSynchronized e7 Bd.returns (hb hby d2_133) (⟨_, rfl, N7, f8, own_lm1.trans hxx.symm⟩) (by decide) (by decide)
            · --
              refine own_by (fun _ k => XS.icmpYes X7.here hx rfl (pc0 := 129) (pc' := 134) rfl (hb hby d2_129) rfl (flt hc15).2.2.2 (by decide) (by decide) k) ?_
              show own_Go _ _ _ _ (T7.setTop (mkF m 134 #[.val (.int p1), .val (.int p2), .val (.int p3), .val (.int p4), .val (.int p5), .val (.int p6), .val (.int v6_5), .val (.int v7_9), .unset, .unset, .unset] []))
              refine own_by (fun _ k => XS.iload X7.here hx rfl (hb hby d2_134) rfl k) ?_
              show own_Go _ _ _ _ (T7.setTop (mkF m 136 #[.val (.int p1), .val (.int p2), .val (.int p3), .val (.int p4), .val (.int p5), .val (.int p6), .val (.int v6_5), .val (.int v7_9), .unset, .unset, .unset] [(.int v6_5)]))
              have hxx : own_ex V F L p4 P (p6.toInt - 48) = _ := own_exB hLL (fun q => by have hb := hc13; rw [Int32.lt_iff_toInt_lt, hP, hF] at hb; omega)
              have hl0 := hc14
              rw [← Int32.toInt_inj, own_l0, tt7] at hl0
              have h1L := hc15
              rw [Int32.lt_iff_toInt_lt, hL, (by decide : (1 : Int32).toInt = 1)] at h1L
              rw [if_neg (fun q => by omega)] at hxx
              exact own_retI X7 hx Bd.notSynchronized e7 Bd.returns (hb hby d2_136) (⟨_, rfl, N7, f8, tt6.trans hxx.symm⟩) (by decide) (by decide)
          · --
            refine own_by (fun _ k => XS.ifYes X7.here hx rfl (pc0 := 124) (pc' := 134) rfl (hb hby d2_124) rfl ((if0 _ _).trans (feq hc14).2) (by decide) (by decide) k) ?_
            show own_Go _ _ _ _ (T7.setTop (mkF m 134 #[.val (.int p1), .val (.int p2), .val (.int p3), .val (.int p4), .val (.int p5), .val (.int p6), .val (.int v6_5), .val (.int v7_9), .unset, .unset, .unset] []))
            refine own_by (fun _ k => XS.iload X7.here hx rfl (hb hby d2_134) rfl k) ?_
            show own_Go _ _ _ _ (T7.setTop (mkF m 136 #[.val (.int p1), .val (.int p2), .val (.int p3), .val (.int p4), .val (.int p5), .val (.int p6), .val (.int v6_5), .val (.int v7_9), .unset, .unset, .unset] [(.int v6_5)]))
            have hxx : own_ex V F L p4 P (p6.toInt - 48) = _ := own_exB hLL (fun q => by have hb := hc13; rw [Int32.lt_iff_toInt_lt, hP, hF] at hb; omega)
            have hl0 := hc14
            rw [← Int32.toInt_inj, own_l0, tt7] at hl0
            rw [if_neg (fun q => by omega)] at hxx
            exact own_retI X7 hx Bd.notSynchronized e7 Bd.returns (hb hby d2_136) (⟨_, rfl, N7, f8, tt6.trans hxx.symm⟩) (by decide) (by decide)
        · --
          refine own_by (fun _ k => XS.icmpNo X7.here hx rfl (hb hby d2_38) rfl (flt hc13).1 k) ?_
          show own_Go _ _ _ _ (T7.setTop (mkF m 41 #[.val (.int p1), .val (.int p2), .val (.int p3), .val (.int p4), .val (.int p5), .val (.int p6), .val (.int v6_5), .val (.int v7_9), .unset, .unset, .unset] []))
          refine own_by (fun _ k => XS.iload X7.here hx rfl (hb hby d2_41) rfl k) ?_
          show own_Go _ _ _ _ (T7.setTop (mkF m 43 #[.val (.int p1), .val (.int p2), .val (.int p3), .val (.int p4), .val (.int p5), .val (.int p6), .val (.int v6_5), .val (.int v7_9), .unset, .unset, .unset] [(.int p5)]))
          refine own_by (fun _ k => XS.iloadN X7.here hx rfl (hb hby d2_43) rfl k) ?_
          show own_Go _ _ _ _ (T7.setTop (mkF m 44 #[.val (.int p1), .val (.int p2), .val (.int p3), .val (.int p4), .val (.int p5), .val (.int p6), .val (.int v6_5), .val (.int v7_9), .unset, .unset, .unset] [(.int p2), (.int p5)]))
          refine own_by (fun _ k => XS.iloadN X7.here hx rfl (hb hby d2_44) rfl k) ?_
          show own_Go _ _ _ _ (T7.setTop (mkF m 45 #[.val (.int p1), .val (.int p2), .val (.int p3), .val (.int p4), .val (.int p5), .val (.int p6), .val (.int v6_5), .val (.int v7_9), .unset, .unset, .unset] [(.int p3), (.int p2), (.int p5)]))
          refine own_by (fun _ k => XS.iadd X7.here hx rfl (hb hby d2_45) rfl k) ?_
          show own_Go _ _ _ _ (T7.setTop (mkF m 46 #[.val (.int p1), .val (.int p2), .val (.int p3), .val (.int p4), .val (.int p5), .val (.int p6), .val (.int v6_5), .val (.int v7_9), .unset, .unset, .unset] [(.int (p2 + p3)), (.int p5)]))
          by_cases hc16 : p5 < (p2 + p3)
          · --
            refine own_by (fun _ k => XS.icmpNo X7.here hx rfl (hb hby d2_46) rfl (tlt hc16).2.1 k) ?_
            have hin : ¬ p4 = 0 ∧ F ≤ P ∧ P < F + L := by
              have q := own_addn hF (by omega) hL (by omega)
              have hb := hc13
              have hc := hc16
              rw [Int32.lt_iff_toInt_lt, hP, hF] at hb
              rw [Int32.lt_iff_toInt_lt, hP, q] at hc
              exact ⟨hc10, by omega, by omega⟩
            show own_Go _ _ _ _ (T7.setTop (mkF m 49 #[.val (.int p1), .val (.int p2), .val (.int p3), .val (.int p4), .val (.int p5), .val (.int p6), .val (.int v6_5), .val (.int v7_9), .unset, .unset, .unset] []))
            refine own_by (fun _ k => XS.iload X7.here hx rfl (hb hby d2_49) rfl k) ?_
            show own_Go _ _ _ _ (T7.setTop (mkF m 51 #[.val (.int p1), .val (.int p2), .val (.int p3), .val (.int p4), .val (.int p5), .val (.int p6), .val (.int v6_5), .val (.int v7_9), .unset, .unset, .unset] [(.int p5)]))
            refine own_by (fun _ k => XS.iloadN X7.here hx rfl (hb hby d2_51) rfl k) ?_
            show own_Go _ _ _ _ (T7.setTop (mkF m 52 #[.val (.int p1), .val (.int p2), .val (.int p3), .val (.int p4), .val (.int p5), .val (.int p6), .val (.int v6_5), .val (.int v7_9), .unset, .unset, .unset] [(.int p2), (.int p5)]))
            refine own_by (fun _ k => XS.isub X7.here hx rfl (hb hby d2_52) rfl k) ?_
            show own_Go _ _ _ _ (T7.setTop (mkF m 53 #[.val (.int p1), .val (.int p2), .val (.int p3), .val (.int p4), .val (.int p5), .val (.int p6), .val (.int v6_5), .val (.int v7_9), .unset, .unset, .unset] [(.int (p5 - p2))]))
            obtain ⟨v8_17, hv8_17⟩ : ∃ z_ : Int32, (p5 - p2) = z_ := ⟨_, rfl⟩
            refine own_gen hv8_17 (fun z_ => T7.setTop (mkF m 53 #[.val (.int p1), .val (.int p2), .val (.int p3), .val (.int p4), .val (.int p5), .val (.int p6), .val (.int v6_5), .val (.int v7_9), .unset, .unset, .unset] [(.int z_)])) ?_
            refine own_by (fun _ k => XS.istore X7.here hx rfl (hb hby d2_53) rfl (l' := #[.val (.int p1), .val (.int p2), .val (.int p3), .val (.int p4), .val (.int p5), .val (.int p6), .val (.int v6_5), .val (.int v7_9), .val (.int v8_17), .unset, .unset]) rfl k) ?_
            have tt8 : (v8_17).toInt = ((P - F : Nat) : Int) := by rw [← hv8_17, own_subn hP hF (by omega) (by omega)]; omega
            show own_Go _ _ _ _ (T7.setTop (mkF m 55 #[.val (.int p1), .val (.int p2), .val (.int p3), .val (.int p4), .val (.int p5), .val (.int p6), .val (.int v6_5), .val (.int v7_9), .val (.int v8_17), .unset, .unset] []))
            refine own_by (fun _ k => XS.iload X7.here hx rfl (hb hby d2_55) rfl k) ?_
            show own_Go _ _ _ _ (T7.setTop (mkF m 57 #[.val (.int p1), .val (.int p2), .val (.int p3), .val (.int p4), .val (.int p5), .val (.int p6), .val (.int v6_5), .val (.int v7_9), .val (.int v8_17), .unset, .unset] [(.int p6)]))
            refine own_by (fun _ k => XS.bipush X7.here hx rfl (hb hby d2_57) k) ?_
            show own_Go _ _ _ _ (T7.setTop (mkF m 59 #[.val (.int p1), .val (.int p2), .val (.int p3), .val (.int p4), .val (.int p5), .val (.int p6), .val (.int v6_5), .val (.int v7_9), .val (.int v8_17), .unset, .unset] [(.int (48 : Int32)), (.int p6)]))
            refine own_by (fun _ k => XS.isub X7.here hx rfl (hb hby d2_59) rfl k) ?_
            show own_Go _ _ _ _ (T7.setTop (mkF m 60 #[.val (.int p1), .val (.int p2), .val (.int p3), .val (.int p4), .val (.int p5), .val (.int p6), .val (.int v6_5), .val (.int v7_9), .val (.int v8_17), .unset, .unset] [(.int (p6 - (48 : Int32)))]))
            obtain ⟨v9_18, hv9_18⟩ : ∃ z_ : Int32, (p6 - (48 : Int32)) = z_ := ⟨_, rfl⟩
            refine own_gen hv9_18 (fun z_ => T7.setTop (mkF m 60 #[.val (.int p1), .val (.int p2), .val (.int p3), .val (.int p4), .val (.int p5), .val (.int p6), .val (.int v6_5), .val (.int v7_9), .val (.int v8_17), .unset, .unset] [(.int z_)])) ?_
            refine own_by (fun _ k => XS.istore X7.here hx rfl (hb hby d2_60) rfl (l' := #[.val (.int p1), .val (.int p2), .val (.int p3), .val (.int p4), .val (.int p5), .val (.int p6), .val (.int v6_5), .val (.int v7_9), .val (.int v8_17), .val (.int v9_18), .unset]) rfl k) ?_
            have tt9 : (v9_18).toInt = p6.toInt - 48 := by rw [← hv9_18]; exact own_d48 p6 hB.1 hB.2
            show own_Go _ _ _ _ (T7.setTop (mkF m 62 #[.val (.int p1), .val (.int p2), .val (.int p3), .val (.int p4), .val (.int p5), .val (.int p6), .val (.int v6_5), .val (.int v7_9), .val (.int v8_17), .val (.int v9_18), .unset] []))
            refine own_by (fun _ k => XS.iload X7.here hx rfl (hb hby d2_62) rfl k) ?_
            show own_Go _ _ _ _ (T7.setTop (mkF m 64 #[.val (.int p1), .val (.int p2), .val (.int p3), .val (.int p4), .val (.int p5), .val (.int p6), .val (.int v6_5), .val (.int v7_9), .val (.int v8_17), .val (.int v9_18), .unset] [(.int v9_18)]))
            by_cases hc19 : v9_18 < (0 : Int32)
            · --
              refine own_by (fun _ k => XS.ifYes X7.here hx rfl (pc0 := 64) (pc' := 74) rfl (hb hby d2_64) rfl ((if0 _ _).trans (tlt hc19).1) (by decide) (by decide) k) ?_
              show own_Go _ _ _ _ (T7.setTop (mkF m 74 #[.val (.int p1), .val (.int p2), .val (.int p3), .val (.int p4), .val (.int p5), .val (.int p6), .val (.int v6_5), .val (.int v7_9), .val (.int v8_17), .val (.int v9_18), .unset] []))
              refine own_by (fun _ k => XS.iconst X7.here hx rfl (hb hby d2_74) k) ?_
              show own_Go _ _ _ _ (T7.setTop (mkF m 75 #[.val (.int p1), .val (.int p2), .val (.int p3), .val (.int p4), .val (.int p5), .val (.int p6), .val (.int v6_5), .val (.int v7_9), .val (.int v8_17), .val (.int v9_18), .unset] [(.int (-1 : Int32))]))
              exact own_retI X7 hx Bd.notSynchronized e7 Bd.returns (hb hby d2_75) (⟨_, rfl, N7, f8, own_lm1.trans (own_exC hLL hin (Or.inl (by have a := hc19; rw [Int32.lt_iff_toInt_lt, own_l0, tt9] at a; omega))).symm⟩) (by decide) (by decide)
            · --
              refine own_by (fun _ k => XS.ifNo X7.here hx rfl (hb hby d2_64) rfl ((if0 _ _).trans (flt hc19).1) k) ?_
              show own_Go _ _ _ _ (T7.setTop (mkF m 67 #[.val (.int p1), .val (.int p2), .val (.int p3), .val (.int p4), .val (.int p5), .val (.int p6), .val (.int v6_5), .val (.int v7_9), .val (.int v8_17), .val (.int v9_18), .unset] []))
              refine own_by (fun _ k => XS.iload X7.here hx rfl (hb hby d2_67) rfl k) ?_
              show own_Go _ _ _ _ (T7.setTop (mkF m 69 #[.val (.int p1), .val (.int p2), .val (.int p3), .val (.int p4), .val (.int p5), .val (.int p6), .val (.int v6_5), .val (.int v7_9), .val (.int v8_17), .val (.int v9_18), .unset] [(.int v9_18)]))
              refine own_by (fun _ k => XS.bipush X7.here hx rfl (hb hby d2_69) k) ?_
              show own_Go _ _ _ _ (T7.setTop (mkF m 71 #[.val (.int p1), .val (.int p2), .val (.int p3), .val (.int p4), .val (.int p5), .val (.int p6), .val (.int v6_5), .val (.int v7_9), .val (.int v8_17), .val (.int v9_18), .unset] [(.int (9 : Int32)), (.int v9_18)]))
              by_cases hc20 : (9 : Int32) < v9_18
              · --
                refine own_by (fun _ k => XS.icmpNo X7.here hx rfl (hb hby d2_71) rfl (tlt hc20).2.2.2 k) ?_
                show own_Go _ _ _ _ (T7.setTop (mkF m 74 #[.val (.int p1), .val (.int p2), .val (.int p3), .val (.int p4), .val (.int p5), .val (.int p6), .val (.int v6_5), .val (.int v7_9), .val (.int v8_17), .val (.int v9_18), .unset] []))
                refine own_by (fun _ k => XS.iconst X7.here hx rfl (hb hby d2_74) k) ?_
                show own_Go _ _ _ _ (T7.setTop (mkF m 75 #[.val (.int p1), .val (.int p2), .val (.int p3), .val (.int p4), .val (.int p5), .val (.int p6), .val (.int v6_5), .val (.int v7_9), .val (.int v8_17), .val (.int v9_18), .unset] [(.int (-1 : Int32))]))
                exact own_retI X7 hx Bd.notSynchronized e7 Bd.returns (hb hby d2_75) (⟨_, rfl, N7, f8, own_lm1.trans (own_exC hLL hin (Or.inr (by have a := hc20; rw [Int32.lt_iff_toInt_lt, own_l9, tt9] at a; omega))).symm⟩) (by decide) (by decide)
              · --
                refine own_by (fun _ k => XS.icmpYes X7.here hx rfl (pc0 := 71) (pc' := 76) rfl (hb hby d2_71) rfl (flt hc20).2.2.2 (by decide) (by decide) k) ?_
                have hg9 : ¬ (p6.toInt - 48 < 0 ∨ 9 < p6.toInt - 48) := by have a := hc19; have b := hc20; rw [Int32.lt_iff_toInt_lt, own_l0, tt9] at a; rw [Int32.lt_iff_toInt_lt, own_l9, tt9] at b; omega
                show own_Go _ _ _ _ (T7.setTop (mkF m 76 #[.val (.int p1), .val (.int p2), .val (.int p3), .val (.int p4), .val (.int p5), .val (.int p6), .val (.int v6_5), .val (.int v7_9), .val (.int v8_17), .val (.int v9_18), .unset] []))
                refine own_by (fun _ k => XS.iload X7.here hx rfl (hb hby d2_76) rfl k) ?_
                show own_Go _ _ _ _ (T7.setTop (mkF m 78 #[.val (.int p1), .val (.int p2), .val (.int p3), .val (.int p4), .val (.int p5), .val (.int p6), .val (.int v6_5), .val (.int v7_9), .val (.int v8_17), .val (.int v9_18), .unset] [(.int v6_5)]))
                refine own_by (fun _ k => XS.iloadN X7.here hx rfl (hb hby d2_78) rfl k) ?_
                show own_Go _ _ _ _ (T7.setTop (mkF m 79 #[.val (.int p1), .val (.int p2), .val (.int p3), .val (.int p4), .val (.int p5), .val (.int p6), .val (.int v6_5), .val (.int v7_9), .val (.int v8_17), .val (.int v9_18), .unset] [(.int p3), (.int v6_5)]))
                refine own_by (fun _ k => XS.iconst X7.here hx rfl (hb hby d2_79) k) ?_
                show own_Go _ _ _ _ (T7.setTop (mkF m 80 #[.val (.int p1), .val (.int p2), .val (.int p3), .val (.int p4), .val (.int p5), .val (.int p6), .val (.int v6_5), .val (.int v7_9), .val (.int v8_17), .val (.int v9_18), .unset] [(.int (1 : Int32)), (.int p3), (.int v6_5)]))
                refine own_by (fun _ k => XS.isub X7.here hx rfl (hb hby d2_80) rfl k) ?_
                show own_Go _ _ _ _ (T7.setTop (mkF m 81 #[.val (.int p1), .val (.int p2), .val (.int p3), .val (.int p4), .val (.int p5), .val (.int p6), .val (.int v6_5), .val (.int v7_9), .val (.int v8_17), .val (.int v9_18), .unset] [(.int (p3 - (1 : Int32))), (.int v6_5)]))
                refine own_by (fun _ k => XS.iload X7.here hx rfl (hb hby d2_81) rfl k) ?_
                show own_Go _ _ _ _ (T7.setTop (mkF m 83 #[.val (.int p1), .val (.int p2), .val (.int p3), .val (.int p4), .val (.int p5), .val (.int p6), .val (.int v6_5), .val (.int v7_9), .val (.int v8_17), .val (.int v9_18), .unset] [(.int v8_17), (.int (p3 - (1 : Int32))), (.int v6_5)]))
                refine own_by (fun _ k => XS.isub X7.here hx rfl (hb hby d2_83) rfl k) ?_
                show own_Go _ _ _ _ (T7.setTop (mkF m 84 #[.val (.int p1), .val (.int p2), .val (.int p3), .val (.int p4), .val (.int p5), .val (.int p6), .val (.int v6_5), .val (.int v7_9), .val (.int v8_17), .val (.int v9_18), .unset] [(.int ((p3 - (1 : Int32)) - v8_17)), (.int v6_5)]))
                obtain ⟨g21, hg21⟩ : ∃ z_ : Int32, ((p3 - (1 : Int32)) - v8_17) = z_ := ⟨_, rfl⟩
                refine own_gen hg21 (fun z_ => T7.setTop (mkF m 84 #[.val (.int p1), .val (.int p2), .val (.int p3), .val (.int p4), .val (.int p5), .val (.int p6), .val (.int v6_5), .val (.int v7_9), .val (.int v8_17), .val (.int v9_18), .unset] [(.int z_), (.int v6_5)])) ?_
                refine own_callS X7 hx hZ hown (hw _ (List.mem_of_getElem? (i := 15) rfl)) (hw _ (List.mem_of_getElem? (i := 16) rfl)) (hw _ (List.mem_of_getElem? (i := 6) rfl)) (hw _ (List.mem_of_getElem? (i := 17) rfl)) (by decide) (rm4 l Z a0 hw [] g21 (L - 1 - (P - F)) h7 n0 Z7 (by rw [← hg21, own_subn (own_subn hL (by decide : (1 : Int32).toInt = 1) (by omega) (by omega)) tt8 (by omega) (by omega)]; omega) (by omega)) e7 (by rw [hml]; rfl) [(.int g21)] [(.int v6_5)] rfl (lenOf own_pd3 rfl) rfl 1 (Nat.le_of_eq rfl) (by decide) (by decide) (Nat.le_of_ble_eq_true rfl) (Nat.le_of_ble_eq_true rfl) (hb hby d2_84) ?_
                intro T22 Lc22 v22 X22 hQ22
                obtain ⟨h22, e22⟩ : ∃ h, T22.heap = h := ⟨_, rfl⟩
                rw [e22] at hQ22
                obtain ⟨rfl, N22q, K22⟩ := hQ22
                have N22 := Fr.app N7 N22q
                have f23 := f8.trans K22 all0
                have Z22 := Nat.le_trans Z7 K22.1
                show own_Go _ _ _ _ (T22.setTop (mkF m 87 #[.val (.int p1), .val (.int p2), .val (.int p3), .val (.int p4), .val (.int p5), .val (.int p6), .val (.int v6_5), .val (.int v7_9), .val (.int v8_17), .val (.int v9_18), .unset] [(.int (own_pw (L - 1 - (P - F)))), (.int v6_5)]))
                refine own_by (fun _ k => XS.idiv X22.here hx rfl (hb hby d2_87) rfl (own_pwz _ (by omega)) k) ?_
                show own_Go _ _ _ _ (T22.setTop (mkF m 88 #[.val (.int p1), .val (.int p2), .val (.int p3), .val (.int p4), .val (.int p5), .val (.int p6), .val (.int v6_5), .val (.int v7_9), .val (.int v8_17), .val (.int v9_18), .unset] [(.int (v6_5 / (own_pw (L - 1 - (P - F)))))]))
                refine own_by (fun _ k => XS.bipush X22.here hx rfl (hb hby d2_88) k) ?_
                show own_Go _ _ _ _ (T22.setTop (mkF m 90 #[.val (.int p1), .val (.int p2), .val (.int p3), .val (.int p4), .val (.int p5), .val (.int p6), .val (.int v6_5), .val (.int v7_9), .val (.int v8_17), .val (.int v9_18), .unset] [(.int (10 : Int32)), (.int (v6_5 / (own_pw (L - 1 - (P - F)))))]))
                refine own_by (fun _ k => iremM X22 hx rfl (hb hby d2_90) rfl (by decide) k) ?_
                show own_Go _ _ _ _ (T22.setTop (mkF m 91 #[.val (.int p1), .val (.int p2), .val (.int p3), .val (.int p4), .val (.int p5), .val (.int p6), .val (.int v6_5), .val (.int v7_9), .val (.int v8_17), .val (.int v9_18), .unset] [(.int ((v6_5 / (own_pw (L - 1 - (P - F)))) % (10 : Int32)))]))
                obtain ⟨v10_24, hv10_24⟩ : ∃ z_ : Int32, ((v6_5 / (own_pw (L - 1 - (P - F)))) % (10 : Int32)) = z_ := ⟨_, rfl⟩
                refine own_gen hv10_24 (fun z_ => T22.setTop (mkF m 91 #[.val (.int p1), .val (.int p2), .val (.int p3), .val (.int p4), .val (.int p5), .val (.int p6), .val (.int v6_5), .val (.int v7_9), .val (.int v8_17), .val (.int v9_18), .unset] [(.int z_)])) ?_
                refine own_by (fun _ k => XS.istore X22.here hx rfl (hb hby d2_91) rfl (l' := #[.val (.int p1), .val (.int p2), .val (.int p3), .val (.int p4), .val (.int p5), .val (.int p6), .val (.int v6_5), .val (.int v7_9), .val (.int v8_17), .val (.int v9_18), .val (.int v10_24)]) rfl k) ?_
                have tt10 : (v10_24).toInt = (((V % 10 ^ L) / 10 ^ (L - 1 - (P - F)) % 10 : Nat) : Int) := by rw [← hv10_24]; exact own_rem _ 10 _ 10 (own_div _ _ _ _ tt6 (own_pwv _ (by omega))) (by decide)
                show own_Go _ _ _ _ (T22.setTop (mkF m 93 #[.val (.int p1), .val (.int p2), .val (.int p3), .val (.int p4), .val (.int p5), .val (.int p6), .val (.int v6_5), .val (.int v7_9), .val (.int v8_17), .val (.int v9_18), .val (.int v10_24)] []))
                refine own_by (fun _ k => XS.iload X22.here hx rfl (hb hby d2_93) rfl k) ?_
                show own_Go _ _ _ _ (T22.setTop (mkF m 95 #[.val (.int p1), .val (.int p2), .val (.int p3), .val (.int p4), .val (.int p5), .val (.int p6), .val (.int v6_5), .val (.int v7_9), .val (.int v8_17), .val (.int v9_18), .val (.int v10_24)] [(.int v6_5)]))
                refine own_by (fun _ k => XS.iload X22.here hx rfl (hb hby d2_95) rfl k) ?_
                show own_Go _ _ _ _ (T22.setTop (mkF m 97 #[.val (.int p1), .val (.int p2), .val (.int p3), .val (.int p4), .val (.int p5), .val (.int p6), .val (.int v6_5), .val (.int v7_9), .val (.int v8_17), .val (.int v9_18), .val (.int v10_24)] [(.int v9_18), (.int v6_5)]))
                refine own_by (fun _ k => XS.iload X22.here hx rfl (hb hby d2_97) rfl k) ?_
                show own_Go _ _ _ _ (T22.setTop (mkF m 99 #[.val (.int p1), .val (.int p2), .val (.int p3), .val (.int p4), .val (.int p5), .val (.int p6), .val (.int v6_5), .val (.int v7_9), .val (.int v8_17), .val (.int v9_18), .val (.int v10_24)] [(.int v10_24), (.int v9_18), (.int v6_5)]))
                refine own_by (fun _ k => XS.isub X22.here hx rfl (hb hby d2_99) rfl k) ?_
                show own_Go _ _ _ _ (T22.setTop (mkF m 100 #[.val (.int p1), .val (.int p2), .val (.int p3), .val (.int p4), .val (.int p5), .val (.int p6), .val (.int v6_5), .val (.int v7_9), .val (.int v8_17), .val (.int v9_18), .val (.int v10_24)] [(.int (v9_18 - v10_24)), (.int v6_5)]))
                refine own_by (fun _ k => XS.iloadN X22.here hx rfl (hb hby d2_100) rfl k) ?_
                show own_Go _ _ _ _ (T22.setTop (mkF m 101 #[.val (.int p1), .val (.int p2), .val (.int p3), .val (.int p4), .val (.int p5), .val (.int p6), .val (.int v6_5), .val (.int v7_9), .val (.int v8_17), .val (.int v9_18), .val (.int v10_24)] [(.int p3), (.int (v9_18 - v10_24)), (.int v6_5)]))
                refine own_by (fun _ k => XS.iconst X22.here hx rfl (hb hby d2_101) k) ?_
                show own_Go _ _ _ _ (T22.setTop (mkF m 102 #[.val (.int p1), .val (.int p2), .val (.int p3), .val (.int p4), .val (.int p5), .val (.int p6), .val (.int v6_5), .val (.int v7_9), .val (.int v8_17), .val (.int v9_18), .val (.int v10_24)] [(.int (1 : Int32)), (.int p3), (.int (v9_18 - v10_24)), (.int v6_5)]))
                refine own_by (fun _ k => XS.isub X22.here hx rfl (hb hby d2_102) rfl k) ?_
                show own_Go _ _ _ _ (T22.setTop (mkF m 103 #[.val (.int p1), .val (.int p2), .val (.int p3), .val (.int p4), .val (.int p5), .val (.int p6), .val (.int v6_5), .val (.int v7_9), .val (.int v8_17), .val (.int v9_18), .val (.int v10_24)] [(.int (p3 - (1 : Int32))), (.int (v9_18 - v10_24)), (.int v6_5)]))
                refine own_by (fun _ k => XS.iload X22.here hx rfl (hb hby d2_103) rfl k) ?_
                show own_Go _ _ _ _ (T22.setTop (mkF m 105 #[.val (.int p1), .val (.int p2), .val (.int p3), .val (.int p4), .val (.int p5), .val (.int p6), .val (.int v6_5), .val (.int v7_9), .val (.int v8_17), .val (.int v9_18), .val (.int v10_24)] [(.int v8_17), (.int (p3 - (1 : Int32))), (.int (v9_18 - v10_24)), (.int v6_5)]))
                refine own_by (fun _ k => XS.isub X22.here hx rfl (hb hby d2_105) rfl k) ?_
                show own_Go _ _ _ _ (T22.setTop (mkF m 106 #[.val (.int p1), .val (.int p2), .val (.int p3), .val (.int p4), .val (.int p5), .val (.int p6), .val (.int v6_5), .val (.int v7_9), .val (.int v8_17), .val (.int v9_18), .val (.int v10_24)] [(.int ((p3 - (1 : Int32)) - v8_17)), (.int (v9_18 - v10_24)), (.int v6_5)]))
                obtain ⟨g25, hg25⟩ : ∃ z_ : Int32, ((p3 - (1 : Int32)) - v8_17) = z_ := ⟨_, rfl⟩
                refine own_gen hg25 (fun z_ => T22.setTop (mkF m 106 #[.val (.int p1), .val (.int p2), .val (.int p3), .val (.int p4), .val (.int p5), .val (.int p6), .val (.int v6_5), .val (.int v7_9), .val (.int v8_17), .val (.int v9_18), .val (.int v10_24)] [(.int z_), (.int (v9_18 - v10_24)), (.int v6_5)])) ?_
                refine own_callS X22 hx hZ hown (hw _ (List.mem_of_getElem? (i := 15) rfl)) (hw _ (List.mem_of_getElem? (i := 16) rfl)) (hw _ (List.mem_of_getElem? (i := 6) rfl)) (hw _ (List.mem_of_getElem? (i := 17) rfl)) (by decide) (rm4 l Z a0 hw [] g25 (L - 1 - (P - F)) h22 n0 Z22 (by rw [← hg25, own_subn (own_subn hL (by decide : (1 : Int32).toInt = 1) (by omega) (by omega)) tt8 (by omega) (by omega)]; omega) (by omega)) e22 (by rw [hml]; rfl) [(.int g25)] [(.int (v9_18 - v10_24)), (.int v6_5)] rfl (lenOf own_pd3 rfl) rfl 2 (Nat.le_of_eq rfl) (by decide) (by decide) (Nat.le_of_ble_eq_true rfl) (Nat.le_of_ble_eq_true rfl) (hb hby d2_106) ?_
                intro T26 Lc26 v26 X26 hQ26
                obtain ⟨h26, e26⟩ : ∃ h, T26.heap = h := ⟨_, rfl⟩
                rw [e26] at hQ26
                obtain ⟨rfl, N26q, K26⟩ := hQ26
                have N26 := Fr.app N22 N26q
                have f27 := f23.trans K26 all0
                have Z26 := Nat.le_trans Z22 K26.1
                show own_Go _ _ _ _ (T26.setTop (mkF m 109 #[.val (.int p1), .val (.int p2), .val (.int p3), .val (.int p4), .val (.int p5), .val (.int p6), .val (.int v6_5), .val (.int v7_9), .val (.int v8_17), .val (.int v9_18), .val (.int v10_24)] [(.int (own_pw (L - 1 - (P - F)))), (.int (v9_18 - v10_24)), (.int v6_5)]))
                refine own_by (fun _ k => XS.imul X26.here hx rfl (hb hby d2_109) rfl k) ?_
                show own_Go _ _ _ _ (T26.setTop (mkF m 110 #[.val (.int p1), .val (.int p2), .val (.int p3), .val (.int p4), .val (.int p5), .val (.int p6), .val (.int v6_5), .val (.int v7_9), .val (.int v8_17), .val (.int v9_18), .val (.int v10_24)] [(.int ((v9_18 - v10_24) * (own_pw (L - 1 - (P - F))))), (.int v6_5)]))
                refine own_by (fun _ k => XS.iadd X26.here hx rfl (hb hby d2_110) rfl k) ?_
                show own_Go _ _ _ _ (T26.setTop (mkF m 111 #[.val (.int p1), .val (.int p2), .val (.int p3), .val (.int p4), .val (.int p5), .val (.int p6), .val (.int v6_5), .val (.int v7_9), .val (.int v8_17), .val (.int v9_18), .val (.int v10_24)] [(.int (v6_5 + ((v9_18 - v10_24) * (own_pw (L - 1 - (P - F))))))]))
                obtain ⟨v6_28, hv6_28⟩ : ∃ z_ : Int32, (v6_5 + ((v9_18 - v10_24) * (own_pw (L - 1 - (P - F))))) = z_ := ⟨_, rfl⟩
                refine own_gen hv6_28 (fun z_ => T26.setTop (mkF m 111 #[.val (.int p1), .val (.int p2), .val (.int p3), .val (.int p4), .val (.int p5), .val (.int p6), .val (.int v6_5), .val (.int v7_9), .val (.int v8_17), .val (.int v9_18), .val (.int v10_24)] [(.int z_)])) ?_
                refine own_by (fun _ k => XS.istore X26.here hx rfl (hb hby d2_111) rfl (l' := #[.val (.int p1), .val (.int p2), .val (.int p3), .val (.int p4), .val (.int p5), .val (.int p6), .val (.int v6_28), .val (.int v7_9), .val (.int v8_17), .val (.int v9_18), .val (.int v10_24)]) rfl k) ?_
                have tt6b : (v6_28).toInt = ((V % 10 ^ L : Nat) : Int) + (p6.toInt - 48 - (((V % 10 ^ L) / 10 ^ (L - 1 - (P - F)) % 10 : Nat) : Int)) * ((10 ^ (L - 1 - (P - F)) : Nat) : Int) := by rw [← hv6_28]; exact own_upw _ _ _ _ V L (P - F) _ tt6 tt9 tt10 (own_pwv _ (by omega)) (by omega) (by omega) hg9
                show own_Go _ _ _ _ (T26.setTop (mkF m 113 #[.val (.int p1), .val (.int p2), .val (.int p3), .val (.int p4), .val (.int p5), .val (.int p6), .val (.int v6_28), .val (.int v7_9), .val (.int v8_17), .val (.int v9_18), .val (.int v10_24)] []))
                refine own_by (fun _ k => XS.iload X26.here hx rfl (hb hby d2_113) rfl k) ?_
                show own_Go _ _ _ _ (T26.setTop (mkF m 115 #[.val (.int p1), .val (.int p2), .val (.int p3), .val (.int p4), .val (.int p5), .val (.int p6), .val (.int v6_28), .val (.int v7_9), .val (.int v8_17), .val (.int v9_18), .val (.int v10_24)] [(.int v8_17)]))
                by_cases hc29 : v8_17 = (0 : Int32)
                · --
                  refine own_by (fun _ k => XS.ifNo X26.here hx rfl (hb hby d2_115) rfl ((if0 _ _).trans (teq hc29).2) k) ?_
                  show own_Go _ _ _ _ (T26.setTop (mkF m 118 #[.val (.int p1), .val (.int p2), .val (.int p3), .val (.int p4), .val (.int p5), .val (.int p6), .val (.int v6_28), .val (.int v7_9), .val (.int v8_17), .val (.int v9_18), .val (.int v10_24)] []))
                  refine own_by (fun _ k => XS.iload X26.here hx rfl (hb hby d2_118) rfl k) ?_
                  show own_Go _ _ _ _ (T26.setTop (mkF m 120 #[.val (.int p1), .val (.int p2), .val (.int p3), .val (.int p4), .val (.int p5), .val (.int p6), .val (.int v6_28), .val (.int v7_9), .val (.int v8_17), .val (.int v9_18), .val (.int v10_24)] [(.int v9_18)]))
                  refine own_by (fun _ k => XS.istore X26.here hx rfl (hb hby d2_120) rfl (l' := #[.val (.int p1), .val (.int p2), .val (.int p3), .val (.int p4), .val (.int p5), .val (.int p6), .val (.int v6_28), .val (.int v9_18), .val (.int v8_17), .val (.int v9_18), .val (.int v10_24)]) rfl k) ?_
                  show own_Go _ _ _ _ (T26.setTop (mkF m 122 #[.val (.int p1), .val (.int p2), .val (.int p3), .val (.int p4), .val (.int p5), .val (.int p6), .val (.int v6_28), .val (.int v9_18), .val (.int v8_17), .val (.int v9_18), .val (.int v10_24)] []))
                  refine own_by (fun _ k => XS.iload X26.here hx rfl (hb hby d2_122) rfl k) ?_
                  show own_Go _ _ _ _ (T26.setTop (mkF m 124 #[.val (.int p1), .val (.int p2), .val (.int p3), .val (.int p4), .val (.int p5), .val (.int p6), .val (.int v6_28), .val (.int v9_18), .val (.int v8_17), .val (.int v9_18), .val (.int v10_24)] [(.int v9_18)]))
                  by_cases hc30 : v9_18 = (0 : Int32)
                  · --
                    refine own_by (fun _ k => XS.ifNo X26.here hx rfl (hb hby d2_124) rfl ((if0 _ _).trans (teq hc30).2) k) ?_
                    show own_Go _ _ _ _ (T26.setTop (mkF m 127 #[.val (.int p1), .val (.int p2), .val (.int p3), .val (.int p4), .val (.int p5), .val (.int p6), .val (.int v6_28), .val (.int v9_18), .val (.int v8_17), .val (.int v9_18), .val (.int v10_24)] []))
                    refine own_by (fun _ k => XS.iloadN X26.here hx rfl (hb hby d2_127) rfl k) ?_
                    show own_Go _ _ _ _ (T26.setTop (mkF m 128 #[.val (.int p1), .val (.int p2), .val (.int p3), .val (.int p4), .val (.int p5), .val (.int p6), .val (.int v6_28), .val (.int v9_18), .val (.int v8_17), .val (.int v9_18), .val (.int v10_24)] [(.int p3)]))
                    refine own_by (fun _ k => XS.iconst X26.here hx rfl (hb hby d2_128) k) ?_
                    show own_Go _ _ _ _ (T26.setTop (mkF m 129 #[.val (.int p1), .val (.int p2), .val (.int p3), .val (.int p4), .val (.int p5), .val (.int p6), .val (.int v6_28), .val (.int v9_18), .val (.int v8_17), .val (.int v9_18), .val (.int v10_24)] [(.int (1 : Int32)), (.int p3)]))
                    by_cases hc31 : (1 : Int32) < p3
                    · --
                      refine own_by (fun _ k => XS.icmpNo X26.here hx rfl (hb hby d2_129) rfl (tlt hc31).2.2.2 k) ?_
                      show own_Go _ _ _ _ (T26.setTop (mkF m 132 #[.val (.int p1), .val (.int p2), .val (.int p3), .val (.int p4), .val (.int p5), .val (.int p6), .val (.int v6_28), .val (.int v9_18), .val (.int v8_17), .val (.int v9_18), .val (.int v10_24)] []))
                      refine own_by (fun _ k => XS.iconst X26.here hx rfl (hb hby d2_132) k) ?_
                      show own_Go _ _ _ _ (T26.setTop (mkF m 133 #[.val (.int p1), .val (.int p2), .val (.int p3), .val (.int p4), .val (.int p5), .val (.int p6), .val (.int v6_28), .val (.int v9_18), .val (.int v8_17), .val (.int v9_18), .val (.int v10_24)] [(.int (-1 : Int32))]))
                      have hxx : own_ex V F L p4 P (p6.toInt - 48) = _ := own_exD hLL hin hg9
                      rw [if_pos (c := P = F) (by have a := hc29; rw [← Int32.toInt_inj, tt8, own_l0] at a; omega)] at hxx
                      have hl0 := hc30
                      rw [← Int32.toInt_inj, own_l0, tt9] at hl0
                      have h1L := hc31
                      rw [Int32.lt_iff_toInt_lt, hL, (by decide : (1 : Int32).toInt = 1)] at h1L
                      rw [if_pos ⟨by omega, by omega⟩] at hxx
                      exact own_retI X26 hx Bd.notSynchronized e26 Bd.returns (hb hby d2_133) (⟨_, rfl, N26, f27, own_lm1.trans hxx.symm⟩) (by decide) (by decide)
                    · --
                      refine own_by (fun _ k => XS.icmpYes X26.here hx rfl (pc0 := 129) (pc' := 134) rfl (hb hby d2_129) rfl (flt hc31).2.2.2 (by decide) (by decide) k) ?_
                      show own_Go _ _ _ _ (T26.setTop (mkF m 134 #[.val (.int p1), .val (.int p2), .val (.int p3), .val (.int p4), .val (.int p5), .val (.int p6), .val (.int v6_28), .val (.int v9_18), .val (.int v8_17), .val (.int v9_18), .val (.int v10_24)] []))
                      refine own_by (fun _ k => XS.iload X26.here hx rfl (hb hby d2_134) rfl k) ?_
                      show own_Go _ _ _ _ (T26.setTop (mkF m 136 #[.val (.int p1), .val (.int p2), .val (.int p3), .val (.int p4), .val (.int p5), .val (.int p6), .val (.int v6_28), .val (.int v9_18), .val (.int v8_17), .val (.int v9_18), .val (.int v10_24)] [(.int v6_28)]))
                      have hxx : own_ex V F L p4 P (p6.toInt - 48) = _ := own_exD hLL hin hg9
                      rw [if_pos (c := P = F) (by have a := hc29; rw [← Int32.toInt_inj, tt8, own_l0] at a; omega)] at hxx
                      have hl0 := hc30
                      rw [← Int32.toInt_inj, own_l0, tt9] at hl0
                      have h1L := hc31
                      rw [Int32.lt_iff_toInt_lt, hL, (by decide : (1 : Int32).toInt = 1)] at h1L
                      rw [if_neg (fun q => by omega)] at hxx
                      exact own_retI X26 hx Bd.notSynchronized e26 Bd.returns (hb hby d2_136) (⟨_, rfl, N26, f27, tt6b.trans hxx.symm⟩) (by decide) (by decide)
                  · --
                    refine own_by (fun _ k => XS.ifYes X26.here hx rfl (pc0 := 124) (pc' := 134) rfl (hb hby d2_124) rfl ((if0 _ _).trans (feq hc30).2) (by decide) (by decide) k) ?_
                    show own_Go _ _ _ _ (T26.setTop (mkF m 134 #[.val (.int p1), .val (.int p2), .val (.int p3), .val (.int p4), .val (.int p5), .val (.int p6), .val (.int v6_28), .val (.int v9_18), .val (.int v8_17), .val (.int v9_18), .val (.int v10_24)] []))
                    refine own_by (fun _ k => XS.iload X26.here hx rfl (hb hby d2_134) rfl k) ?_
                    show own_Go _ _ _ _ (T26.setTop (mkF m 136 #[.val (.int p1), .val (.int p2), .val (.int p3), .val (.int p4), .val (.int p5), .val (.int p6), .val (.int v6_28), .val (.int v9_18), .val (.int v8_17), .val (.int v9_18), .val (.int v10_24)] [(.int v6_28)]))
                    have hxx : own_ex V F L p4 P (p6.toInt - 48) = _ := own_exD hLL hin hg9
                    rw [if_pos (c := P = F) (by have a := hc29; rw [← Int32.toInt_inj, tt8, own_l0] at a; omega)] at hxx
                    have hl0 := hc30
                    rw [← Int32.toInt_inj, own_l0, tt9] at hl0
                    rw [if_neg (fun q => by omega)] at hxx
                    exact own_retI X26 hx Bd.notSynchronized e26 Bd.returns (hb hby d2_136) (⟨_, rfl, N26, f27, tt6b.trans hxx.symm⟩) (by decide) (by decide)
                · --
                  refine own_by (fun _ k => XS.ifYes X26.here hx rfl (pc0 := 115) (pc' := 122) rfl (hb hby d2_115) rfl ((if0 _ _).trans (feq hc29).2) (by decide) (by decide) k) ?_
                  show own_Go _ _ _ _ (T26.setTop (mkF m 122 #[.val (.int p1), .val (.int p2), .val (.int p3), .val (.int p4), .val (.int p5), .val (.int p6), .val (.int v6_28), .val (.int v7_9), .val (.int v8_17), .val (.int v9_18), .val (.int v10_24)] []))
                  refine own_by (fun _ k => XS.iload X26.here hx rfl (hb hby d2_122) rfl k) ?_
                  show own_Go _ _ _ _ (T26.setTop (mkF m 124 #[.val (.int p1), .val (.int p2), .val (.int p3), .val (.int p4), .val (.int p5), .val (.int p6), .val (.int v6_28), .val (.int v7_9), .val (.int v8_17), .val (.int v9_18), .val (.int v10_24)] [(.int v7_9)]))
                  by_cases hc32 : v7_9 = (0 : Int32)
                  · --
                    refine own_by (fun _ k => XS.ifNo X26.here hx rfl (hb hby d2_124) rfl ((if0 _ _).trans (teq hc32).2) k) ?_
                    show own_Go _ _ _ _ (T26.setTop (mkF m 127 #[.val (.int p1), .val (.int p2), .val (.int p3), .val (.int p4), .val (.int p5), .val (.int p6), .val (.int v6_28), .val (.int v7_9), .val (.int v8_17), .val (.int v9_18), .val (.int v10_24)] []))
                    refine own_by (fun _ k => XS.iloadN X26.here hx rfl (hb hby d2_127) rfl k) ?_
                    show own_Go _ _ _ _ (T26.setTop (mkF m 128 #[.val (.int p1), .val (.int p2), .val (.int p3), .val (.int p4), .val (.int p5), .val (.int p6), .val (.int v6_28), .val (.int v7_9), .val (.int v8_17), .val (.int v9_18), .val (.int v10_24)] [(.int p3)]))
                    refine own_by (fun _ k => XS.iconst X26.here hx rfl (hb hby d2_128) k) ?_
                    show own_Go _ _ _ _ (T26.setTop (mkF m 129 #[.val (.int p1), .val (.int p2), .val (.int p3), .val (.int p4), .val (.int p5), .val (.int p6), .val (.int v6_28), .val (.int v7_9), .val (.int v8_17), .val (.int v9_18), .val (.int v10_24)] [(.int (1 : Int32)), (.int p3)]))
                    by_cases hc33 : (1 : Int32) < p3
                    · --
                      refine own_by (fun _ k => XS.icmpNo X26.here hx rfl (hb hby d2_129) rfl (tlt hc33).2.2.2 k) ?_
                      show own_Go _ _ _ _ (T26.setTop (mkF m 132 #[.val (.int p1), .val (.int p2), .val (.int p3), .val (.int p4), .val (.int p5), .val (.int p6), .val (.int v6_28), .val (.int v7_9), .val (.int v8_17), .val (.int v9_18), .val (.int v10_24)] []))
                      refine own_by (fun _ k => XS.iconst X26.here hx rfl (hb hby d2_132) k) ?_
                      show own_Go _ _ _ _ (T26.setTop (mkF m 133 #[.val (.int p1), .val (.int p2), .val (.int p3), .val (.int p4), .val (.int p5), .val (.int p6), .val (.int v6_28), .val (.int v7_9), .val (.int v8_17), .val (.int v9_18), .val (.int v10_24)] [(.int (-1 : Int32))]))
                      have hxx : own_ex V F L p4 P (p6.toInt - 48) = _ := own_exD hLL hin hg9
                      rw [if_neg (c := P = F) (by have a := hc29; rw [← Int32.toInt_inj, tt8, own_l0] at a; omega)] at hxx
                      have hl0 := hc32
                      rw [← Int32.toInt_inj, own_l0, tt7] at hl0
                      have h1L := hc33
                      rw [Int32.lt_iff_toInt_lt, hL, (by decide : (1 : Int32).toInt = 1)] at h1L
                      rw [if_pos ⟨by omega, by omega⟩] at hxx
                      exact own_retI X26 hx Bd.notSynchronized e26 Bd.returns (hb hby d2_133) (⟨_, rfl, N26, f27, own_lm1.trans hxx.symm⟩) (by decide) (by decide)
                    · --
                      refine own_by (fun _ k => XS.icmpYes X26.here hx rfl (pc0 := 129) (pc' := 134) rfl (hb hby d2_129) rfl (flt hc33).2.2.2 (by decide) (by decide) k) ?_
                      show own_Go _ _ _ _ (T26.setTop (mkF m 134 #[.val (.int p1), .val (.int p2), .val (.int p3), .val (.int p4), .val (.int p5), .val (.int p6), .val (.int v6_28), .val (.int v7_9), .val (.int v8_17), .val (.int v9_18), .val (.int v10_24)] []))
                      refine own_by (fun _ k => XS.iload X26.here hx rfl (hb hby d2_134) rfl k) ?_
                      show own_Go _ _ _ _ (T26.setTop (mkF m 136 #[.val (.int p1), .val (.int p2), .val (.int p3), .val (.int p4), .val (.int p5), .val (.int p6), .val (.int v6_28), .val (.int v7_9), .val (.int v8_17), .val (.int v9_18), .val (.int v10_24)] [(.int v6_28)]))
                      have hxx : own_ex V F L p4 P (p6.toInt - 48) = _ := own_exD hLL hin hg9
                      rw [if_neg (c := P = F) (by have a := hc29; rw [← Int32.toInt_inj, tt8, own_l0] at a; omega)] at hxx
                      have hl0 := hc32
                      rw [← Int32.toInt_inj, own_l0, tt7] at hl0
                      have h1L := hc33
                      rw [Int32.lt_iff_toInt_lt, hL, (by decide : (1 : Int32).toInt = 1)] at h1L
                      rw [if_neg (fun q => by omega)] at hxx
                      exact own_retI X26 hx Bd.notSynchronized e26 Bd.returns (hb hby d2_136) (⟨_, rfl, N26, f27, tt6b.trans hxx.symm⟩) (by decide) (by decide)
                  · --
                    refine own_by (fun _ k => XS.ifYes X26.here hx rfl (pc0 := 124) (pc' := 134) rfl (hb hby d2_124) rfl ((if0 _ _).trans (feq hc32).2) (by decide) (by decide) k) ?_
                    show own_Go _ _ _ _ (T26.setTop (mkF m 134 #[.val (.int p1), .val (.int p2), .val (.int p3), .val (.int p4), .val (.int p5), .val (.int p6), .val (.int v6_28), .val (.int v7_9), .val (.int v8_17), .val (.int v9_18), .val (.int v10_24)] []))
                    refine own_by (fun _ k => XS.iload X26.here hx rfl (hb hby d2_134) rfl k) ?_
                    show own_Go _ _ _ _ (T26.setTop (mkF m 136 #[.val (.int p1), .val (.int p2), .val (.int p3), .val (.int p4), .val (.int p5), .val (.int p6), .val (.int v6_28), .val (.int v7_9), .val (.int v8_17), .val (.int v9_18), .val (.int v10_24)] [(.int v6_28)]))
                    have hxx : own_ex V F L p4 P (p6.toInt - 48) = _ := own_exD hLL hin hg9
                    rw [if_neg (c := P = F) (by have a := hc29; rw [← Int32.toInt_inj, tt8, own_l0] at a; omega)] at hxx
                    have hl0 := hc32
                    rw [← Int32.toInt_inj, own_l0, tt7] at hl0
                    rw [if_neg (fun q => by omega)] at hxx
                    exact own_retI X26 hx Bd.notSynchronized e26 Bd.returns (hb hby d2_136) (⟨_, rfl, N26, f27, tt6b.trans hxx.symm⟩) (by decide) (by decide)
          · --
            refine own_by (fun _ k => XS.icmpYes X7.here hx rfl (pc0 := 46) (pc' := 122) rfl (hb hby d2_46) rfl (flt hc16).2.1 (by decide) (by decide) k) ?_
            show own_Go _ _ _ _ (T7.setTop (mkF m 122 #[.val (.int p1), .val (.int p2), .val (.int p3), .val (.int p4), .val (.int p5), .val (.int p6), .val (.int v6_5), .val (.int v7_9), .unset, .unset, .unset] []))
            refine own_by (fun _ k => XS.iload X7.here hx rfl (hb hby d2_122) rfl k) ?_
            show own_Go _ _ _ _ (T7.setTop (mkF m 124 #[.val (.int p1), .val (.int p2), .val (.int p3), .val (.int p4), .val (.int p5), .val (.int p6), .val (.int v6_5), .val (.int v7_9), .unset, .unset, .unset] [(.int v7_9)]))
            by_cases hc34 : v7_9 = (0 : Int32)
            · --
              refine own_by (fun _ k => XS.ifNo X7.here hx rfl (hb hby d2_124) rfl ((if0 _ _).trans (teq hc34).2) k) ?_
              show own_Go _ _ _ _ (T7.setTop (mkF m 127 #[.val (.int p1), .val (.int p2), .val (.int p3), .val (.int p4), .val (.int p5), .val (.int p6), .val (.int v6_5), .val (.int v7_9), .unset, .unset, .unset] []))
              refine own_by (fun _ k => XS.iloadN X7.here hx rfl (hb hby d2_127) rfl k) ?_
              show own_Go _ _ _ _ (T7.setTop (mkF m 128 #[.val (.int p1), .val (.int p2), .val (.int p3), .val (.int p4), .val (.int p5), .val (.int p6), .val (.int v6_5), .val (.int v7_9), .unset, .unset, .unset] [(.int p3)]))
              refine own_by (fun _ k => XS.iconst X7.here hx rfl (hb hby d2_128) k) ?_
              show own_Go _ _ _ _ (T7.setTop (mkF m 129 #[.val (.int p1), .val (.int p2), .val (.int p3), .val (.int p4), .val (.int p5), .val (.int p6), .val (.int v6_5), .val (.int v7_9), .unset, .unset, .unset] [(.int (1 : Int32)), (.int p3)]))
              by_cases hc35 : (1 : Int32) < p3
              · --
                refine own_by (fun _ k => XS.icmpNo X7.here hx rfl (hb hby d2_129) rfl (tlt hc35).2.2.2 k) ?_
                show own_Go _ _ _ _ (T7.setTop (mkF m 132 #[.val (.int p1), .val (.int p2), .val (.int p3), .val (.int p4), .val (.int p5), .val (.int p6), .val (.int v6_5), .val (.int v7_9), .unset, .unset, .unset] []))
                refine own_by (fun _ k => XS.iconst X7.here hx rfl (hb hby d2_132) k) ?_
                show own_Go _ _ _ _ (T7.setTop (mkF m 133 #[.val (.int p1), .val (.int p2), .val (.int p3), .val (.int p4), .val (.int p5), .val (.int p6), .val (.int v6_5), .val (.int v7_9), .unset, .unset, .unset] [(.int (-1 : Int32))]))
                have hxx : own_ex V F L p4 P (p6.toInt - 48) = _ := own_exB hLL (fun q => by have hc := hc16; have q2 := own_addn hF (by omega) hL (by omega); rw [Int32.lt_iff_toInt_lt, hP, q2] at hc; omega)
                have hl0 := hc34
                rw [← Int32.toInt_inj, own_l0, tt7] at hl0
                have h1L := hc35
                rw [Int32.lt_iff_toInt_lt, hL, (by decide : (1 : Int32).toInt = 1)] at h1L
                rw [if_pos ⟨by omega, by omega⟩] at hxx
                exact own_retI X7 hx Bd.notSynchronized e7 Bd.returns (hb hby d2_133) (⟨_, rfl, N7, f8, own_lm1.trans hxx.symm⟩) (by decide) (by decide)
              · --
                refine own_by (fun _ k => XS.icmpYes X7.here hx rfl (pc0 := 129) (pc' := 134) rfl (hb hby d2_129) rfl (flt hc35).2.2.2 (by decide) (by decide) k) ?_
                show own_Go _ _ _ _ (T7.setTop (mkF m 134 #[.val (.int p1), .val (.int p2), .val (.int p3), .val (.int p4), .val (.int p5), .val (.int p6), .val (.int v6_5), .val (.int v7_9), .unset, .unset, .unset] []))
                refine own_by (fun _ k => XS.iload X7.here hx rfl (hb hby d2_134) rfl k) ?_
                show own_Go _ _ _ _ (T7.setTop (mkF m 136 #[.val (.int p1), .val (.int p2), .val (.int p3), .val (.int p4), .val (.int p5), .val (.int p6), .val (.int v6_5), .val (.int v7_9), .unset, .unset, .unset] [(.int v6_5)]))
                have hxx : own_ex V F L p4 P (p6.toInt - 48) = _ := own_exB hLL (fun q => by have hc := hc16; have q2 := own_addn hF (by omega) hL (by omega); rw [Int32.lt_iff_toInt_lt, hP, q2] at hc; omega)
                have hl0 := hc34
                rw [← Int32.toInt_inj, own_l0, tt7] at hl0
                have h1L := hc35
                rw [Int32.lt_iff_toInt_lt, hL, (by decide : (1 : Int32).toInt = 1)] at h1L
                rw [if_neg (fun q => by omega)] at hxx
                exact own_retI X7 hx Bd.notSynchronized e7 Bd.returns (hb hby d2_136) (⟨_, rfl, N7, f8, tt6.trans hxx.symm⟩) (by decide) (by decide)
            · --
              refine own_by (fun _ k => XS.ifYes X7.here hx rfl (pc0 := 124) (pc' := 134) rfl (hb hby d2_124) rfl ((if0 _ _).trans (feq hc34).2) (by decide) (by decide) k) ?_
              show own_Go _ _ _ _ (T7.setTop (mkF m 134 #[.val (.int p1), .val (.int p2), .val (.int p3), .val (.int p4), .val (.int p5), .val (.int p6), .val (.int v6_5), .val (.int v7_9), .unset, .unset, .unset] []))
              refine own_by (fun _ k => XS.iload X7.here hx rfl (hb hby d2_134) rfl k) ?_
              show own_Go _ _ _ _ (T7.setTop (mkF m 136 #[.val (.int p1), .val (.int p2), .val (.int p3), .val (.int p4), .val (.int p5), .val (.int p6), .val (.int v6_5), .val (.int v7_9), .unset, .unset, .unset] [(.int v6_5)]))
              have hxx : own_ex V F L p4 P (p6.toInt - 48) = _ := own_exB hLL (fun q => by have hc := hc16; have q2 := own_addn hF (by omega) hL (by omega); rw [Int32.lt_iff_toInt_lt, hP, q2] at hc; omega)
              have hl0 := hc34
              rw [← Int32.toInt_inj, own_l0, tt7] at hl0
              rw [if_neg (fun q => by omega)] at hxx
              exact own_retI X7 hx Bd.notSynchronized e7 Bd.returns (hb hby d2_136) (⟨_, rfl, N7, f8, tt6.trans hxx.symm⟩) (by decide) (by decide)
set_option maxRecDepth 65536 in
set_option maxHeartbeats 40000000 in
theorem rm3 (l : Launch) (Z : State) (a0 : Array Value) (hw : ∀ d ∈ tables_1, d.before a0 Z = true) (ws : List Jvm.Cond) (a1 : Addr) (p1 : Int32) (p2 : Int32) (f : Nat → Int32) (F L : Nat) (h0 : Heap) (n0 : Nat) (Z0 : n0 ≤ h0.size) (A1 : own_AI Z h0 a1 .byte 16 f) (hF : p1.toInt = (F : Int)) (hE : p2.toInt = ((F + L : Nat) : Int)) (hF3 : F ≤ 3) (hL10 : L ≤ 10) :
    MetFree l (⟨"com/example/link_prestige/linkprestige/PageNames", "decimal", "([BII)I"⟩ : MethodName) (head1 (Jvm.Cond.code (⟨"com/example/link_prestige/linkprestige/PageNames", "decimal", "([BII)I"⟩ : MethodName) prog_27_method_15_code 7 (some .int) :: ws) ({ frames := 0, cells := 0, slots := 0, locals := 0 } : Room)) (fun a U => a = #[(.ref a1), (.int p1), (.int p2)] ∧ Z.Warmed39 U.vm ∧ U.heap = h0) (fun _ _ _ _ _ => True) (fun _ U o U' => ∃ vv LL, o = .returned vv ∧ own_ap (fun v h L' => v = some (.int (own_dec f F L)) ∧ Fr n0 L' ∧ h = h0) vv U'.heap LL ∧ FrameEnd U o U' LL 0 0) := by
  refine MetFree.of_bodySF (plainFor_of_name pn_3) hisR ?_
  intro p e s m args below meth c s₁ Bd hml0 hP hK
  obtain ⟨rfl, hZ, hh⟩ := hP
  have hx := Bd.exec
  have hby := Bd.bytes
  have hml : c.maxLocals = 7 := hml0
  have hown : s.vm.findClass "com/example/link_prestige/linkprestige/PageNames" = some m.cls := findClass_of_methodNamed Bd.named
  have hnm := (name_of_methodNamed Bd.named Bd.method).1
  have X0 : Stand p l e ({ frames := 0, cells := 0, slots := 0, locals := 0 } : Room) s m #[(.ref a1), (.int p1), (.int p2)] below meth c s₁ [] 0 0 := Stand.of_body Bd
  have e0 : s₁.heap = h0 := by rw [← hh, Bd.state]; rfl
  have N0 := Fr.nil n0
  show own_Go p.tables e below (own_Q s (fun v h L' => v = some (.int (own_dec f F L)) ∧ Fr n0 L' ∧ h = h0) 0 0) (s₁.setTop (entryFrame m #[(.ref a1), (.int p1), (.int p2)] 7))
  rw [show entryFrame m #[(.ref a1), (.int p1), (.int p2)] 7 = mkF m 0 #[.val (.ref a1), .val (.int p1), .val (.int p2), .unset, .unset, .unset, .unset] [] from by first | (simp [entryFrame, mkF, argsToLocals, Value.category]; done) | rfl]
  show own_Go _ _ _ _ (s₁.setTop (mkF m 0 #[.val (.ref a1), .val (.int p1), .val (.int p2), .unset, .unset, .unset, .unset] []))
  refine own_by (fun _ k => XS.iloadN X0.here hx rfl (hb hby d3_0) rfl k) ?_
  show own_Go _ _ _ _ (s₁.setTop (mkF m 1 #[.val (.ref a1), .val (.int p1), .val (.int p2), .unset, .unset, .unset, .unset] [(.int p2)]))
  refine own_by (fun _ k => XS.iloadN X0.here hx rfl (hb hby d3_1) rfl k) ?_
  show own_Go _ _ _ _ (s₁.setTop (mkF m 2 #[.val (.ref a1), .val (.int p1), .val (.int p2), .unset, .unset, .unset, .unset] [(.int p1), (.int p2)]))
  refine own_by (fun _ k => XS.isub X0.here hx rfl (hb hby d3_2) rfl k) ?_
  show own_Go _ _ _ _ (s₁.setTop (mkF m 3 #[.val (.ref a1), .val (.int p1), .val (.int p2), .unset, .unset, .unset, .unset] [(.int (p2 - p1))]))
  obtain ⟨v3_1, hv3_1⟩ : ∃ z_ : Int32, (p2 - p1) = z_ := ⟨_, rfl⟩
  refine own_gen hv3_1 (fun z_ => s₁.setTop (mkF m 3 #[.val (.ref a1), .val (.int p1), .val (.int p2), .unset, .unset, .unset, .unset] [(.int z_)])) ?_
  refine own_by (fun _ k => XS.istoreN X0.here hx rfl (hb hby d3_3) rfl (l' := #[.val (.ref a1), .val (.int p1), .val (.int p2), .val (.int v3_1), .unset, .unset, .unset]) rfl k) ?_
  have tt3 : (v3_1).toInt = (L : Int) := by rw [← hv3_1, own_subn hE hF (by omega) (by omega)]; omega
  show own_Go _ _ _ _ (s₁.setTop (mkF m 4 #[.val (.ref a1), .val (.int p1), .val (.int p2), .val (.int v3_1), .unset, .unset, .unset] []))
  refine own_by (fun _ k => XS.iloadN X0.here hx rfl (hb hby d3_4) rfl k) ?_
  show own_Go _ _ _ _ (s₁.setTop (mkF m 5 #[.val (.ref a1), .val (.int p1), .val (.int p2), .val (.int v3_1), .unset, .unset, .unset] [(.int v3_1)]))
  by_cases hc2 : v3_1 = (0 : Int32)
  · --
    refine own_by (fun _ k => XS.ifYes X0.here hx rfl (pc0 := 5) (pc' := 27) rfl (hb hby d3_5) rfl ((if0 _ _).trans (teq hc2).1) (by decide) (by decide) k) ?_
    show own_Go _ _ _ _ (s₁.setTop (mkF m 27 #[.val (.ref a1), .val (.int p1), .val (.int p2), .val (.int v3_1), .unset, .unset, .unset] []))
    refine own_by (fun _ k => XS.iconst X0.here hx rfl (hb hby d3_27) k) ?_
    show own_Go _ _ _ _ (s₁.setTop (mkF m 28 #[.val (.ref a1), .val (.int p1), .val (.int p2), .val (.int v3_1), .unset, .unset, .unset] [(.int (-1 : Int32))]))
    exact own_retI X0 hx Bd.notSynchronized e0 Bd.returns (hb hby d3_28) (⟨by rw [own_dec, if_pos (Or.inl (by have a := hc2; rw [← Int32.toInt_inj, tt3, own_l0] at a; omega))], N0, rfl⟩) (by decide) (by decide)
  · --
    refine own_by (fun _ k => XS.ifNo X0.here hx rfl (hb hby d3_5) rfl ((if0 _ _).trans (feq hc2).1) k) ?_
    show own_Go _ _ _ _ (s₁.setTop (mkF m 8 #[.val (.ref a1), .val (.int p1), .val (.int p2), .val (.int v3_1), .unset, .unset, .unset] []))
    refine own_by (fun _ k => XS.iloadN X0.here hx rfl (hb hby d3_8) rfl k) ?_
    show own_Go _ _ _ _ (s₁.setTop (mkF m 9 #[.val (.ref a1), .val (.int p1), .val (.int p2), .val (.int v3_1), .unset, .unset, .unset] [(.int v3_1)]))
    refine own_by (fun _ k => XS.bipush X0.here hx rfl (hb hby d3_9) k) ?_
    show own_Go _ _ _ _ (s₁.setTop (mkF m 11 #[.val (.ref a1), .val (.int p1), .val (.int p2), .val (.int v3_1), .unset, .unset, .unset] [(.int (9 : Int32)), (.int v3_1)]))
    by_cases hc3 : (9 : Int32) < v3_1
    · --
      refine own_by (fun _ k => XS.icmpYes X0.here hx rfl (pc0 := 11) (pc' := 27) rfl (hb hby d3_11) rfl (tlt hc3).2.2.1 (by decide) (by decide) k) ?_
      show own_Go _ _ _ _ (s₁.setTop (mkF m 27 #[.val (.ref a1), .val (.int p1), .val (.int p2), .val (.int v3_1), .unset, .unset, .unset] []))
      refine own_by (fun _ k => XS.iconst X0.here hx rfl (hb hby d3_27) k) ?_
      show own_Go _ _ _ _ (s₁.setTop (mkF m 28 #[.val (.ref a1), .val (.int p1), .val (.int p2), .val (.int v3_1), .unset, .unset, .unset] [(.int (-1 : Int32))]))
      exact own_retI X0 hx Bd.notSynchronized e0 Bd.returns (hb hby d3_28) (⟨by rw [own_dec, if_pos (Or.inr (by have a := hc3; rw [Int32.lt_iff_toInt_lt, own_l9, tt3] at a; omega))], N0, rfl⟩) (by decide) (by decide)
    · --
      refine own_by (fun _ k => XS.icmpNo X0.here hx rfl (hb hby d3_11) rfl (flt hc3).2.2.1 k) ?_
      show own_Go _ _ _ _ (s₁.setTop (mkF m 14 #[.val (.ref a1), .val (.int p1), .val (.int p2), .val (.int v3_1), .unset, .unset, .unset] []))
      refine own_by (fun _ k => XS.aloadN X0.here hx rfl (hb hby d3_14) rfl rfl k) ?_
      show own_Go _ _ _ _ (s₁.setTop (mkF m 15 #[.val (.ref a1), .val (.int p1), .val (.int p2), .val (.int v3_1), .unset, .unset, .unset] [(.ref a1)]))
      refine own_by (fun _ k => XS.iloadN X0.here hx rfl (hb hby d3_15) rfl k) ?_
      show own_Go _ _ _ _ (s₁.setTop (mkF m 16 #[.val (.ref a1), .val (.int p1), .val (.int p2), .val (.int v3_1), .unset, .unset, .unset] [(.int p1), (.ref a1)]))
      refine own_by (fun _ k => own_bal X0 hx hZ e0 A1 F hF (by omega) (hb hby d3_16) k) ?_
      show own_Go _ _ _ _ (s₁.setTop (mkF m 17 #[.val (.ref a1), .val (.int p1), .val (.int p2), .val (.int v3_1), .unset, .unset, .unset] [(.int (f F))]))
      refine own_by (fun _ k => XS.bipush X0.here hx rfl (hb hby d3_17) k) ?_
      show own_Go _ _ _ _ (s₁.setTop (mkF m 19 #[.val (.ref a1), .val (.int p1), .val (.int p2), .val (.int v3_1), .unset, .unset, .unset] [(.int (48 : Int32)), (.int (f F))]))
      by_cases hc4 : (f F) = (48 : Int32)
      · --
        refine own_by (fun _ k => XS.icmpNo X0.here hx rfl (hb hby d3_19) rfl (teq hc4).2 k) ?_
        show own_Go _ _ _ _ (s₁.setTop (mkF m 22 #[.val (.ref a1), .val (.int p1), .val (.int p2), .val (.int v3_1), .unset, .unset, .unset] []))
        refine own_by (fun _ k => XS.iloadN X0.here hx rfl (hb hby d3_22) rfl k) ?_
        show own_Go _ _ _ _ (s₁.setTop (mkF m 23 #[.val (.ref a1), .val (.int p1), .val (.int p2), .val (.int v3_1), .unset, .unset, .unset] [(.int v3_1)]))
        refine own_by (fun _ k => XS.iconst X0.here hx rfl (hb hby d3_23) k) ?_
        show own_Go _ _ _ _ (s₁.setTop (mkF m 24 #[.val (.ref a1), .val (.int p1), .val (.int p2), .val (.int v3_1), .unset, .unset, .unset] [(.int (1 : Int32)), (.int v3_1)]))
        by_cases hc5 : (1 : Int32) < v3_1
        · --
          refine own_by (fun _ k => XS.icmpNo X0.here hx rfl (hb hby d3_24) rfl (tlt hc5).2.2.2 k) ?_
          show own_Go _ _ _ _ (s₁.setTop (mkF m 27 #[.val (.ref a1), .val (.int p1), .val (.int p2), .val (.int v3_1), .unset, .unset, .unset] []))
          refine own_by (fun _ k => XS.iconst X0.here hx rfl (hb hby d3_27) k) ?_
          show own_Go _ _ _ _ (s₁.setTop (mkF m 28 #[.val (.ref a1), .val (.int p1), .val (.int p2), .val (.int v3_1), .unset, .unset, .unset] [(.int (-1 : Int32))]))
          exact own_retI X0 hx Bd.notSynchronized e0 Bd.returns (hb hby d3_28) (⟨by rw [own_dec, if_neg (by have a := hc2; have b := hc3; rw [← Int32.toInt_inj, tt3, own_l0] at a; rw [Int32.lt_iff_toInt_lt, own_l9, tt3] at b; omega), if_pos ⟨hc4, by have a := hc5; rw [Int32.lt_iff_toInt_lt, (by decide : (1 : Int32).toInt = 1), tt3] at a; omega⟩], N0, rfl⟩) (by decide) (by decide)
        · --
          refine own_by (fun _ k => XS.icmpYes X0.here hx rfl (pc0 := 24) (pc' := 29) rfl (hb hby d3_24) rfl (flt hc5).2.2.2 (by decide) (by decide) k) ?_
          show own_Go _ _ _ _ (s₁.setTop (mkF m 29 #[.val (.ref a1), .val (.int p1), .val (.int p2), .val (.int v3_1), .unset, .unset, .unset] []))
          refine own_by (fun _ k => XS.iconst X0.here hx rfl (hb hby d3_29) k) ?_
          show own_Go _ _ _ _ (s₁.setTop (mkF m 30 #[.val (.ref a1), .val (.int p1), .val (.int p2), .val (.int v3_1), .unset, .unset, .unset] [(.int (0 : Int32))]))
          refine own_by (fun _ k => XS.istore X0.here hx rfl (hb hby d3_30) rfl (l' := #[.val (.ref a1), .val (.int p1), .val (.int p2), .val (.int v3_1), .val (.int (0 : Int32)), .unset, .unset]) rfl k) ?_
          show own_Go _ _ _ _ (s₁.setTop (mkF m 32 #[.val (.ref a1), .val (.int p1), .val (.int p2), .val (.int v3_1), .val (.int (0 : Int32)), .unset, .unset] []))
          refine own_by (fun _ k => XS.iloadN X0.here hx rfl (hb hby d3_32) rfl k) ?_
          show own_Go _ _ _ _ (s₁.setTop (mkF m 33 #[.val (.ref a1), .val (.int p1), .val (.int p2), .val (.int v3_1), .val (.int (0 : Int32)), .unset, .unset] [(.int p1)]))
          refine own_by (fun _ k => XS.istore X0.here hx rfl (hb hby d3_33) rfl (l' := #[.val (.ref a1), .val (.int p1), .val (.int p2), .val (.int v3_1), .val (.int (0 : Int32)), .val (.int p1), .unset]) rfl k) ?_
          have hLL : ¬ (L = 0 ∨ 9 < L) := by have a := hc2; have b := hc3; rw [← Int32.toInt_inj, tt3, own_l0] at a; rw [Int32.lt_iff_toInt_lt, own_l9, tt3] at b; omega
          have hn48 : ¬ (f F = (48 : Int32) ∧ 1 < L) := fun q => by have a := hc5; rw [Int32.lt_iff_toInt_lt, (by decide : (1 : Int32).toInt = 1), tt3] at a; omega
          obtain ⟨r, hrr⟩ : ∃ r, own_dl f L F 0 = r := ⟨_, rfl⟩
          have hrw : own_dec f F L = r := by rw [own_dec, if_neg hLL, if_neg hn48, hrr]
          rw [hrw]
          suffices H : ∀ (k' i' : Nat), i' + k' = F + L → ∀ acc : Int32, own_dl f k' i' acc = r → ∀ (i : Int32), i.toInt = (i' : Int) → ∀ sl : Slot, One sl → own_Go p.tables e below (own_Q s (fun v h L' => v = some (.int r) ∧ Fr n0 L' ∧ h = h0) 0 0) (s₁.setTop (mkF m 35 #[.val (.ref a1), .val (.int p1), .val (.int p2), .val (.int v3_1), .val (.int acc), .val (.int i), sl] [])) from H L F rfl 0 hrr _ hF _ One.u
          intro k'
          induction k' with
          | zero =>
            intro i' he acc hr i hi sl hsl
            show own_Go _ _ _ _ (s₁.setTop (mkF m 35 #[.val (.ref a1), .val (.int p1), .val (.int p2), .val (.int v3_1), .val (.int acc), .val (.int i), sl] []))
            refine own_by (fun _ k => XS.iload X0.here hx rfl (hb hby d3_35) rfl k) ?_
            show own_Go _ _ _ _ (s₁.setTop (mkF m 37 #[.val (.ref a1), .val (.int p1), .val (.int p2), .val (.int v3_1), .val (.int acc), .val (.int i), sl] [(.int i)]))
            refine own_by (fun _ k => XS.iloadN X0.here hx rfl (hb hby d3_37) rfl k) ?_
            show own_Go _ _ _ _ (s₁.setTop (mkF m 38 #[.val (.ref a1), .val (.int p1), .val (.int p2), .val (.int v3_1), .val (.int acc), .val (.int i), sl] [(.int p2), (.int i)]))
            refine own_by (fun _ k => XS.icmpYes X0.here hx rfl (pc0 := 38) (pc' := 80) rfl (hb hby d3_38) rfl (flt (by rw [Int32.lt_iff_toInt_lt, hi, hE]; omega)).2.1 (by decide) (by decide) k) ?_
            show own_Go _ _ _ _ (s₁.setTop (mkF m 80 #[.val (.ref a1), .val (.int p1), .val (.int p2), .val (.int v3_1), .val (.int acc), .val (.int i), sl] []))
            refine own_by (fun _ k => XS.iload X0.here hx rfl (hb hby d3_80) rfl k) ?_
            show own_Go _ _ _ _ (s₁.setTop (mkF m 82 #[.val (.ref a1), .val (.int p1), .val (.int p2), .val (.int v3_1), .val (.int acc), .val (.int i), sl] [(.int acc)]))
            exact own_retI X0 hx Bd.notSynchronized e0 Bd.returns (hb hby d3_82) (⟨by rw [← hr]; rfl, N0, rfl⟩) (by decide) (by decide)
          | succ k' ih =>
            intro i' he acc hr i hi sl hsl
            show own_Go _ _ _ _ (s₁.setTop (mkF m 35 #[.val (.ref a1), .val (.int p1), .val (.int p2), .val (.int v3_1), .val (.int acc), .val (.int i), sl] []))
            refine own_by (fun _ k => XS.iload X0.here hx rfl (hb hby d3_35) rfl k) ?_
            show own_Go _ _ _ _ (s₁.setTop (mkF m 37 #[.val (.ref a1), .val (.int p1), .val (.int p2), .val (.int v3_1), .val (.int acc), .val (.int i), sl] [(.int i)]))
            refine own_by (fun _ k => XS.iloadN X0.here hx rfl (hb hby d3_37) rfl k) ?_
            show own_Go _ _ _ _ (s₁.setTop (mkF m 38 #[.val (.ref a1), .val (.int p1), .val (.int p2), .val (.int v3_1), .val (.int acc), .val (.int i), sl] [(.int p2), (.int i)]))
            refine own_by (fun _ k => XS.icmpNo X0.here hx rfl (hb hby d3_38) rfl (tlt (by rw [Int32.lt_iff_toInt_lt, hi, hE]; omega)).2.1 k) ?_
            show own_Go _ _ _ _ (s₁.setTop (mkF m 41 #[.val (.ref a1), .val (.int p1), .val (.int p2), .val (.int v3_1), .val (.int acc), .val (.int i), sl] []))
            refine own_by (fun _ k => XS.aloadN X0.here hx rfl (hb hby d3_41) rfl rfl k) ?_
            show own_Go _ _ _ _ (s₁.setTop (mkF m 42 #[.val (.ref a1), .val (.int p1), .val (.int p2), .val (.int v3_1), .val (.int acc), .val (.int i), sl] [(.ref a1)]))
            refine own_by (fun _ k => XS.iload X0.here hx rfl (hb hby d3_42) rfl k) ?_
            show own_Go _ _ _ _ (s₁.setTop (mkF m 44 #[.val (.ref a1), .val (.int p1), .val (.int p2), .val (.int v3_1), .val (.int acc), .val (.int i), sl] [(.int i), (.ref a1)]))
            refine own_by (fun _ k => own_bal X0 hx hZ e0 A1 i' hi (by omega) (hb hby d3_44) k) ?_
            show own_Go _ _ _ _ (s₁.setTop (mkF m 45 #[.val (.ref a1), .val (.int p1), .val (.int p2), .val (.int v3_1), .val (.int acc), .val (.int i), sl] [(.int (f i'))]))
            refine own_by (fun _ k => XS.bipush X0.here hx rfl (hb hby d3_45) k) ?_
            show own_Go _ _ _ _ (s₁.setTop (mkF m 47 #[.val (.ref a1), .val (.int p1), .val (.int p2), .val (.int v3_1), .val (.int acc), .val (.int i), sl] [(.int (48 : Int32)), (.int (f i'))]))
            refine own_by (fun _ k => XS.isub X0.here hx rfl (hb hby d3_47) rfl k) ?_
            show own_Go _ _ _ _ (s₁.setTop (mkF m 48 #[.val (.ref a1), .val (.int p1), .val (.int p2), .val (.int v3_1), .val (.int acc), .val (.int i), sl] [(.int ((f i') - (48 : Int32)))]))
            obtain ⟨v6_6, hv6_6⟩ : ∃ z_ : Int32, ((f i') - (48 : Int32)) = z_ := ⟨_, rfl⟩
            refine own_gen hv6_6 (fun z_ => s₁.setTop (mkF m 48 #[.val (.ref a1), .val (.int p1), .val (.int p2), .val (.int v3_1), .val (.int acc), .val (.int i), sl] [(.int z_)])) ?_
            refine own_by (fun _ k => XS.istore X0.here hx rfl (hb hby d3_48) rfl (l' := #[.val (.ref a1), .val (.int p1), .val (.int p2), .val (.int v3_1), .val (.int acc), .val (.int i), .val (.int v6_6)]) (by rcases hsl with rfl | ⟨w', rfl, hw'⟩ <;> first | rfl | (cases w' <;> first | rfl | (simp [Value.category] at hw'))) k) ?_
            show own_Go _ _ _ _ (s₁.setTop (mkF m 50 #[.val (.ref a1), .val (.int p1), .val (.int p2), .val (.int v3_1), .val (.int acc), .val (.int i), .val (.int v6_6)] []))
            refine own_by (fun _ k => XS.iload X0.here hx rfl (hb hby d3_50) rfl k) ?_
            show own_Go _ _ _ _ (s₁.setTop (mkF m 52 #[.val (.ref a1), .val (.int p1), .val (.int p2), .val (.int v3_1), .val (.int acc), .val (.int i), .val (.int v6_6)] [(.int v6_6)]))
            by_cases hc7 : v6_6 < (0 : Int32)
            · --
              refine own_by (fun _ k => XS.ifYes X0.here hx rfl (pc0 := 52) (pc' := 62) rfl (hb hby d3_52) rfl ((if0 _ _).trans (tlt hc7).1) (by decide) (by decide) k) ?_
              show own_Go _ _ _ _ (s₁.setTop (mkF m 62 #[.val (.ref a1), .val (.int p1), .val (.int p2), .val (.int v3_1), .val (.int acc), .val (.int i), .val (.int v6_6)] []))
              refine own_by (fun _ k => XS.iconst X0.here hx rfl (hb hby d3_62) k) ?_
              show own_Go _ _ _ _ (s₁.setTop (mkF m 63 #[.val (.ref a1), .val (.int p1), .val (.int p2), .val (.int v3_1), .val (.int acc), .val (.int i), .val (.int v6_6)] [(.int (-1 : Int32))]))
              exact own_retI X0 hx Bd.notSynchronized e0 Bd.returns (hb hby d3_63) (⟨by rw [← hr, own_dl, hv6_6, if_pos hc7], N0, rfl⟩) (by decide) (by decide)
            · --
              refine own_by (fun _ k => XS.ifNo X0.here hx rfl (hb hby d3_52) rfl ((if0 _ _).trans (flt hc7).1) k) ?_
              show own_Go _ _ _ _ (s₁.setTop (mkF m 55 #[.val (.ref a1), .val (.int p1), .val (.int p2), .val (.int v3_1), .val (.int acc), .val (.int i), .val (.int v6_6)] []))
              refine own_by (fun _ k => XS.iload X0.here hx rfl (hb hby d3_55) rfl k) ?_
              show own_Go _ _ _ _ (s₁.setTop (mkF m 57 #[.val (.ref a1), .val (.int p1), .val (.int p2), .val (.int v3_1), .val (.int acc), .val (.int i), .val (.int v6_6)] [(.int v6_6)]))
              refine own_by (fun _ k => XS.bipush X0.here hx rfl (hb hby d3_57) k) ?_
              show own_Go _ _ _ _ (s₁.setTop (mkF m 59 #[.val (.ref a1), .val (.int p1), .val (.int p2), .val (.int v3_1), .val (.int acc), .val (.int i), .val (.int v6_6)] [(.int (9 : Int32)), (.int v6_6)]))
              by_cases hc8 : (9 : Int32) < v6_6
              · --
                refine own_by (fun _ k => XS.icmpNo X0.here hx rfl (hb hby d3_59) rfl (tlt hc8).2.2.2 k) ?_
                show own_Go _ _ _ _ (s₁.setTop (mkF m 62 #[.val (.ref a1), .val (.int p1), .val (.int p2), .val (.int v3_1), .val (.int acc), .val (.int i), .val (.int v6_6)] []))
                refine own_by (fun _ k => XS.iconst X0.here hx rfl (hb hby d3_62) k) ?_
                show own_Go _ _ _ _ (s₁.setTop (mkF m 63 #[.val (.ref a1), .val (.int p1), .val (.int p2), .val (.int v3_1), .val (.int acc), .val (.int i), .val (.int v6_6)] [(.int (-1 : Int32))]))
                exact own_retI X0 hx Bd.notSynchronized e0 Bd.returns (hb hby d3_63) (⟨by rw [← hr, own_dl, hv6_6, if_neg hc7, if_pos hc8], N0, rfl⟩) (by decide) (by decide)
              · --
                refine own_by (fun _ k => XS.icmpYes X0.here hx rfl (pc0 := 59) (pc' := 64) rfl (hb hby d3_59) rfl (flt hc8).2.2.2 (by decide) (by decide) k) ?_
                show own_Go _ _ _ _ (s₁.setTop (mkF m 64 #[.val (.ref a1), .val (.int p1), .val (.int p2), .val (.int v3_1), .val (.int acc), .val (.int i), .val (.int v6_6)] []))
                refine own_by (fun _ k => XS.bipush X0.here hx rfl (hb hby d3_64) k) ?_
                show own_Go _ _ _ _ (s₁.setTop (mkF m 66 #[.val (.ref a1), .val (.int p1), .val (.int p2), .val (.int v3_1), .val (.int acc), .val (.int i), .val (.int v6_6)] [(.int (10 : Int32))]))
                refine own_by (fun _ k => XS.iload X0.here hx rfl (hb hby d3_66) rfl k) ?_
                show own_Go _ _ _ _ (s₁.setTop (mkF m 68 #[.val (.ref a1), .val (.int p1), .val (.int p2), .val (.int v3_1), .val (.int acc), .val (.int i), .val (.int v6_6)] [(.int acc), (.int (10 : Int32))]))
                refine own_by (fun _ k => XS.imul X0.here hx rfl (hb hby d3_68) rfl k) ?_
                show own_Go _ _ _ _ (s₁.setTop (mkF m 69 #[.val (.ref a1), .val (.int p1), .val (.int p2), .val (.int v3_1), .val (.int acc), .val (.int i), .val (.int v6_6)] [(.int ((10 : Int32) * acc))]))
                refine own_by (fun _ k => XS.iload X0.here hx rfl (hb hby d3_69) rfl k) ?_
                show own_Go _ _ _ _ (s₁.setTop (mkF m 71 #[.val (.ref a1), .val (.int p1), .val (.int p2), .val (.int v3_1), .val (.int acc), .val (.int i), .val (.int v6_6)] [(.int v6_6), (.int ((10 : Int32) * acc))]))
                refine own_by (fun _ k => XS.iadd X0.here hx rfl (hb hby d3_71) rfl k) ?_
                show own_Go _ _ _ _ (s₁.setTop (mkF m 72 #[.val (.ref a1), .val (.int p1), .val (.int p2), .val (.int v3_1), .val (.int acc), .val (.int i), .val (.int v6_6)] [(.int (((10 : Int32) * acc) + v6_6))]))
                obtain ⟨v4_9, hv4_9⟩ : ∃ z_ : Int32, (((10 : Int32) * acc) + v6_6) = z_ := ⟨_, rfl⟩
                refine own_gen hv4_9 (fun z_ => s₁.setTop (mkF m 72 #[.val (.ref a1), .val (.int p1), .val (.int p2), .val (.int v3_1), .val (.int acc), .val (.int i), .val (.int v6_6)] [(.int z_)])) ?_
                refine own_by (fun _ k => XS.istore X0.here hx rfl (hb hby d3_72) rfl (l' := #[.val (.ref a1), .val (.int p1), .val (.int p2), .val (.int v3_1), .val (.int v4_9), .val (.int i), .val (.int v6_6)]) rfl k) ?_
                show own_Go _ _ _ _ (s₁.setTop (mkF m 74 #[.val (.ref a1), .val (.int p1), .val (.int p2), .val (.int v3_1), .val (.int v4_9), .val (.int i), .val (.int v6_6)] []))
                refine own_by (fun _ k => XS.iinc X0.here hx rfl (hb hby d3_74) rfl (l' := #[.val (.ref a1), .val (.int p1), .val (.int p2), .val (.int v3_1), .val (.int v4_9), .val (.int (i + (1 : Int32))), .val (.int v6_6)]) rfl k) ?_
                obtain ⟨v5_10, hv5_10⟩ : ∃ z_ : Int32, (i + (1 : Int32)) = z_ := ⟨_, rfl⟩
                refine own_gen hv5_10 (fun z_ => s₁.setTop (mkF m 77 #[.val (.ref a1), .val (.int p1), .val (.int p2), .val (.int v3_1), .val (.int v4_9), .val (.int z_), .val (.int v6_6)] [])) ?_
                show own_Go _ _ _ _ (s₁.setTop (mkF m 77 #[.val (.ref a1), .val (.int p1), .val (.int p2), .val (.int v3_1), .val (.int v4_9), .val (.int v5_10), .val (.int v6_6)] []))
                refine own_by (fun _ k => XS.goto X0.here hx rfl (pc0 := 77) (pc' := 35) rfl (hb hby d3_77) (by decide) (by decide) k) ?_
                exact ih (i' + 1) (by omega) _ (by rw [← hr, own_dl, hv6_6, if_neg hc7, if_neg hc8, hv4_9]) _ (own_inc hi (by omega) hv5_10) _ (One.val rfl)
      · --
        refine own_by (fun _ k => XS.icmpYes X0.here hx rfl (pc0 := 19) (pc' := 29) rfl (hb hby d3_19) rfl (feq hc4).2 (by decide) (by decide) k) ?_
        show own_Go _ _ _ _ (s₁.setTop (mkF m 29 #[.val (.ref a1), .val (.int p1), .val (.int p2), .val (.int v3_1), .unset, .unset, .unset] []))
        refine own_by (fun _ k => XS.iconst X0.here hx rfl (hb hby d3_29) k) ?_
        show own_Go _ _ _ _ (s₁.setTop (mkF m 30 #[.val (.ref a1), .val (.int p1), .val (.int p2), .val (.int v3_1), .unset, .unset, .unset] [(.int (0 : Int32))]))
        refine own_by (fun _ k => XS.istore X0.here hx rfl (hb hby d3_30) rfl (l' := #[.val (.ref a1), .val (.int p1), .val (.int p2), .val (.int v3_1), .val (.int (0 : Int32)), .unset, .unset]) rfl k) ?_
        show own_Go _ _ _ _ (s₁.setTop (mkF m 32 #[.val (.ref a1), .val (.int p1), .val (.int p2), .val (.int v3_1), .val (.int (0 : Int32)), .unset, .unset] []))
        refine own_by (fun _ k => XS.iloadN X0.here hx rfl (hb hby d3_32) rfl k) ?_
        show own_Go _ _ _ _ (s₁.setTop (mkF m 33 #[.val (.ref a1), .val (.int p1), .val (.int p2), .val (.int v3_1), .val (.int (0 : Int32)), .unset, .unset] [(.int p1)]))
        refine own_by (fun _ k => XS.istore X0.here hx rfl (hb hby d3_33) rfl (l' := #[.val (.ref a1), .val (.int p1), .val (.int p2), .val (.int v3_1), .val (.int (0 : Int32)), .val (.int p1), .unset]) rfl k) ?_
        have hLL : ¬ (L = 0 ∨ 9 < L) := by have a := hc2; have b := hc3; rw [← Int32.toInt_inj, tt3, own_l0] at a; rw [Int32.lt_iff_toInt_lt, own_l9, tt3] at b; omega
        have hn48 : ¬ (f F = (48 : Int32) ∧ 1 < L) := fun q => hc4 q.1
        obtain ⟨r, hrr⟩ : ∃ r, own_dl f L F 0 = r := ⟨_, rfl⟩
        have hrw : own_dec f F L = r := by rw [own_dec, if_neg hLL, if_neg hn48, hrr]
        rw [hrw]
        suffices H : ∀ (k' i' : Nat), i' + k' = F + L → ∀ acc : Int32, own_dl f k' i' acc = r → ∀ (i : Int32), i.toInt = (i' : Int) → ∀ sl : Slot, One sl → own_Go p.tables e below (own_Q s (fun v h L' => v = some (.int r) ∧ Fr n0 L' ∧ h = h0) 0 0) (s₁.setTop (mkF m 35 #[.val (.ref a1), .val (.int p1), .val (.int p2), .val (.int v3_1), .val (.int acc), .val (.int i), sl] [])) from H L F rfl 0 hrr _ hF _ One.u
        intro k'
        induction k' with
        | zero =>
          intro i' he acc hr i hi sl hsl
          show own_Go _ _ _ _ (s₁.setTop (mkF m 35 #[.val (.ref a1), .val (.int p1), .val (.int p2), .val (.int v3_1), .val (.int acc), .val (.int i), sl] []))
          refine own_by (fun _ k => XS.iload X0.here hx rfl (hb hby d3_35) rfl k) ?_
          show own_Go _ _ _ _ (s₁.setTop (mkF m 37 #[.val (.ref a1), .val (.int p1), .val (.int p2), .val (.int v3_1), .val (.int acc), .val (.int i), sl] [(.int i)]))
          refine own_by (fun _ k => XS.iloadN X0.here hx rfl (hb hby d3_37) rfl k) ?_
          show own_Go _ _ _ _ (s₁.setTop (mkF m 38 #[.val (.ref a1), .val (.int p1), .val (.int p2), .val (.int v3_1), .val (.int acc), .val (.int i), sl] [(.int p2), (.int i)]))
          refine own_by (fun _ k => XS.icmpYes X0.here hx rfl (pc0 := 38) (pc' := 80) rfl (hb hby d3_38) rfl (flt (by rw [Int32.lt_iff_toInt_lt, hi, hE]; omega)).2.1 (by decide) (by decide) k) ?_
          show own_Go _ _ _ _ (s₁.setTop (mkF m 80 #[.val (.ref a1), .val (.int p1), .val (.int p2), .val (.int v3_1), .val (.int acc), .val (.int i), sl] []))
          refine own_by (fun _ k => XS.iload X0.here hx rfl (hb hby d3_80) rfl k) ?_
          show own_Go _ _ _ _ (s₁.setTop (mkF m 82 #[.val (.ref a1), .val (.int p1), .val (.int p2), .val (.int v3_1), .val (.int acc), .val (.int i), sl] [(.int acc)]))
          exact own_retI X0 hx Bd.notSynchronized e0 Bd.returns (hb hby d3_82) (⟨by rw [← hr]; rfl, N0, rfl⟩) (by decide) (by decide)
        | succ k' ih =>
          intro i' he acc hr i hi sl hsl
          show own_Go _ _ _ _ (s₁.setTop (mkF m 35 #[.val (.ref a1), .val (.int p1), .val (.int p2), .val (.int v3_1), .val (.int acc), .val (.int i), sl] []))
          refine own_by (fun _ k => XS.iload X0.here hx rfl (hb hby d3_35) rfl k) ?_
          show own_Go _ _ _ _ (s₁.setTop (mkF m 37 #[.val (.ref a1), .val (.int p1), .val (.int p2), .val (.int v3_1), .val (.int acc), .val (.int i), sl] [(.int i)]))
          refine own_by (fun _ k => XS.iloadN X0.here hx rfl (hb hby d3_37) rfl k) ?_
          show own_Go _ _ _ _ (s₁.setTop (mkF m 38 #[.val (.ref a1), .val (.int p1), .val (.int p2), .val (.int v3_1), .val (.int acc), .val (.int i), sl] [(.int p2), (.int i)]))
          refine own_by (fun _ k => XS.icmpNo X0.here hx rfl (hb hby d3_38) rfl (tlt (by rw [Int32.lt_iff_toInt_lt, hi, hE]; omega)).2.1 k) ?_
          show own_Go _ _ _ _ (s₁.setTop (mkF m 41 #[.val (.ref a1), .val (.int p1), .val (.int p2), .val (.int v3_1), .val (.int acc), .val (.int i), sl] []))
          refine own_by (fun _ k => XS.aloadN X0.here hx rfl (hb hby d3_41) rfl rfl k) ?_
          show own_Go _ _ _ _ (s₁.setTop (mkF m 42 #[.val (.ref a1), .val (.int p1), .val (.int p2), .val (.int v3_1), .val (.int acc), .val (.int i), sl] [(.ref a1)]))
          refine own_by (fun _ k => XS.iload X0.here hx rfl (hb hby d3_42) rfl k) ?_
          show own_Go _ _ _ _ (s₁.setTop (mkF m 44 #[.val (.ref a1), .val (.int p1), .val (.int p2), .val (.int v3_1), .val (.int acc), .val (.int i), sl] [(.int i), (.ref a1)]))
          refine own_by (fun _ k => own_bal X0 hx hZ e0 A1 i' hi (by omega) (hb hby d3_44) k) ?_
          show own_Go _ _ _ _ (s₁.setTop (mkF m 45 #[.val (.ref a1), .val (.int p1), .val (.int p2), .val (.int v3_1), .val (.int acc), .val (.int i), sl] [(.int (f i'))]))
          refine own_by (fun _ k => XS.bipush X0.here hx rfl (hb hby d3_45) k) ?_
          show own_Go _ _ _ _ (s₁.setTop (mkF m 47 #[.val (.ref a1), .val (.int p1), .val (.int p2), .val (.int v3_1), .val (.int acc), .val (.int i), sl] [(.int (48 : Int32)), (.int (f i'))]))
          refine own_by (fun _ k => XS.isub X0.here hx rfl (hb hby d3_47) rfl k) ?_
          show own_Go _ _ _ _ (s₁.setTop (mkF m 48 #[.val (.ref a1), .val (.int p1), .val (.int p2), .val (.int v3_1), .val (.int acc), .val (.int i), sl] [(.int ((f i') - (48 : Int32)))]))
          obtain ⟨v6_11, hv6_11⟩ : ∃ z_ : Int32, ((f i') - (48 : Int32)) = z_ := ⟨_, rfl⟩
          refine own_gen hv6_11 (fun z_ => s₁.setTop (mkF m 48 #[.val (.ref a1), .val (.int p1), .val (.int p2), .val (.int v3_1), .val (.int acc), .val (.int i), sl] [(.int z_)])) ?_
          refine own_by (fun _ k => XS.istore X0.here hx rfl (hb hby d3_48) rfl (l' := #[.val (.ref a1), .val (.int p1), .val (.int p2), .val (.int v3_1), .val (.int acc), .val (.int i), .val (.int v6_11)]) (by rcases hsl with rfl | ⟨w', rfl, hw'⟩ <;> first | rfl | (cases w' <;> first | rfl | (simp [Value.category] at hw'))) k) ?_
          show own_Go _ _ _ _ (s₁.setTop (mkF m 50 #[.val (.ref a1), .val (.int p1), .val (.int p2), .val (.int v3_1), .val (.int acc), .val (.int i), .val (.int v6_11)] []))
          refine own_by (fun _ k => XS.iload X0.here hx rfl (hb hby d3_50) rfl k) ?_
          show own_Go _ _ _ _ (s₁.setTop (mkF m 52 #[.val (.ref a1), .val (.int p1), .val (.int p2), .val (.int v3_1), .val (.int acc), .val (.int i), .val (.int v6_11)] [(.int v6_11)]))
          by_cases hc12 : v6_11 < (0 : Int32)
          · --
            refine own_by (fun _ k => XS.ifYes X0.here hx rfl (pc0 := 52) (pc' := 62) rfl (hb hby d3_52) rfl ((if0 _ _).trans (tlt hc12).1) (by decide) (by decide) k) ?_
            show own_Go _ _ _ _ (s₁.setTop (mkF m 62 #[.val (.ref a1), .val (.int p1), .val (.int p2), .val (.int v3_1), .val (.int acc), .val (.int i), .val (.int v6_11)] []))
            refine own_by (fun _ k => XS.iconst X0.here hx rfl (hb hby d3_62) k) ?_
            show own_Go _ _ _ _ (s₁.setTop (mkF m 63 #[.val (.ref a1), .val (.int p1), .val (.int p2), .val (.int v3_1), .val (.int acc), .val (.int i), .val (.int v6_11)] [(.int (-1 : Int32))]))
            exact own_retI X0 hx Bd.notSynchronized e0 Bd.returns (hb hby d3_63) (⟨by rw [← hr, own_dl, hv6_11, if_pos hc12], N0, rfl⟩) (by decide) (by decide)
          · --
            refine own_by (fun _ k => XS.ifNo X0.here hx rfl (hb hby d3_52) rfl ((if0 _ _).trans (flt hc12).1) k) ?_
            show own_Go _ _ _ _ (s₁.setTop (mkF m 55 #[.val (.ref a1), .val (.int p1), .val (.int p2), .val (.int v3_1), .val (.int acc), .val (.int i), .val (.int v6_11)] []))
            refine own_by (fun _ k => XS.iload X0.here hx rfl (hb hby d3_55) rfl k) ?_
            show own_Go _ _ _ _ (s₁.setTop (mkF m 57 #[.val (.ref a1), .val (.int p1), .val (.int p2), .val (.int v3_1), .val (.int acc), .val (.int i), .val (.int v6_11)] [(.int v6_11)]))
            refine own_by (fun _ k => XS.bipush X0.here hx rfl (hb hby d3_57) k) ?_
            show own_Go _ _ _ _ (s₁.setTop (mkF m 59 #[.val (.ref a1), .val (.int p1), .val (.int p2), .val (.int v3_1), .val (.int acc), .val (.int i), .val (.int v6_11)] [(.int (9 : Int32)), (.int v6_11)]))
            by_cases hc13 : (9 : Int32) < v6_11
            · --
              refine own_by (fun _ k => XS.icmpNo X0.here hx rfl (hb hby d3_59) rfl (tlt hc13).2.2.2 k) ?_
              show own_Go _ _ _ _ (s₁.setTop (mkF m 62 #[.val (.ref a1), .val (.int p1), .val (.int p2), .val (.int v3_1), .val (.int acc), .val (.int i), .val (.int v6_11)] []))
              refine own_by (fun _ k => XS.iconst X0.here hx rfl (hb hby d3_62) k) ?_
              show own_Go _ _ _ _ (s₁.setTop (mkF m 63 #[.val (.ref a1), .val (.int p1), .val (.int p2), .val (.int v3_1), .val (.int acc), .val (.int i), .val (.int v6_11)] [(.int (-1 : Int32))]))
              exact own_retI X0 hx Bd.notSynchronized e0 Bd.returns (hb hby d3_63) (⟨by rw [← hr, own_dl, hv6_11, if_neg hc12, if_pos hc13], N0, rfl⟩) (by decide) (by decide)
            · --
              refine own_by (fun _ k => XS.icmpYes X0.here hx rfl (pc0 := 59) (pc' := 64) rfl (hb hby d3_59) rfl (flt hc13).2.2.2 (by decide) (by decide) k) ?_
              show own_Go _ _ _ _ (s₁.setTop (mkF m 64 #[.val (.ref a1), .val (.int p1), .val (.int p2), .val (.int v3_1), .val (.int acc), .val (.int i), .val (.int v6_11)] []))
              refine own_by (fun _ k => XS.bipush X0.here hx rfl (hb hby d3_64) k) ?_
              show own_Go _ _ _ _ (s₁.setTop (mkF m 66 #[.val (.ref a1), .val (.int p1), .val (.int p2), .val (.int v3_1), .val (.int acc), .val (.int i), .val (.int v6_11)] [(.int (10 : Int32))]))
              refine own_by (fun _ k => XS.iload X0.here hx rfl (hb hby d3_66) rfl k) ?_
              show own_Go _ _ _ _ (s₁.setTop (mkF m 68 #[.val (.ref a1), .val (.int p1), .val (.int p2), .val (.int v3_1), .val (.int acc), .val (.int i), .val (.int v6_11)] [(.int acc), (.int (10 : Int32))]))
              refine own_by (fun _ k => XS.imul X0.here hx rfl (hb hby d3_68) rfl k) ?_
              show own_Go _ _ _ _ (s₁.setTop (mkF m 69 #[.val (.ref a1), .val (.int p1), .val (.int p2), .val (.int v3_1), .val (.int acc), .val (.int i), .val (.int v6_11)] [(.int ((10 : Int32) * acc))]))
              refine own_by (fun _ k => XS.iload X0.here hx rfl (hb hby d3_69) rfl k) ?_
              show own_Go _ _ _ _ (s₁.setTop (mkF m 71 #[.val (.ref a1), .val (.int p1), .val (.int p2), .val (.int v3_1), .val (.int acc), .val (.int i), .val (.int v6_11)] [(.int v6_11), (.int ((10 : Int32) * acc))]))
              refine own_by (fun _ k => XS.iadd X0.here hx rfl (hb hby d3_71) rfl k) ?_
              show own_Go _ _ _ _ (s₁.setTop (mkF m 72 #[.val (.ref a1), .val (.int p1), .val (.int p2), .val (.int v3_1), .val (.int acc), .val (.int i), .val (.int v6_11)] [(.int (((10 : Int32) * acc) + v6_11))]))
              obtain ⟨v4_14, hv4_14⟩ : ∃ z_ : Int32, (((10 : Int32) * acc) + v6_11) = z_ := ⟨_, rfl⟩
              refine own_gen hv4_14 (fun z_ => s₁.setTop (mkF m 72 #[.val (.ref a1), .val (.int p1), .val (.int p2), .val (.int v3_1), .val (.int acc), .val (.int i), .val (.int v6_11)] [(.int z_)])) ?_
              refine own_by (fun _ k => XS.istore X0.here hx rfl (hb hby d3_72) rfl (l' := #[.val (.ref a1), .val (.int p1), .val (.int p2), .val (.int v3_1), .val (.int v4_14), .val (.int i), .val (.int v6_11)]) rfl k) ?_
              show own_Go _ _ _ _ (s₁.setTop (mkF m 74 #[.val (.ref a1), .val (.int p1), .val (.int p2), .val (.int v3_1), .val (.int v4_14), .val (.int i), .val (.int v6_11)] []))
              refine own_by (fun _ k => XS.iinc X0.here hx rfl (hb hby d3_74) rfl (l' := #[.val (.ref a1), .val (.int p1), .val (.int p2), .val (.int v3_1), .val (.int v4_14), .val (.int (i + (1 : Int32))), .val (.int v6_11)]) rfl k) ?_
              obtain ⟨v5_15, hv5_15⟩ : ∃ z_ : Int32, (i + (1 : Int32)) = z_ := ⟨_, rfl⟩
              refine own_gen hv5_15 (fun z_ => s₁.setTop (mkF m 77 #[.val (.ref a1), .val (.int p1), .val (.int p2), .val (.int v3_1), .val (.int v4_14), .val (.int z_), .val (.int v6_11)] [])) ?_
              show own_Go _ _ _ _ (s₁.setTop (mkF m 77 #[.val (.ref a1), .val (.int p1), .val (.int p2), .val (.int v3_1), .val (.int v4_14), .val (.int v5_15), .val (.int v6_11)] []))
              refine own_by (fun _ k => XS.goto X0.here hx rfl (pc0 := 77) (pc' := 35) rfl (hb hby d3_77) (by decide) (by decide) k) ?_
              exact ih (i' + 1) (by omega) _ (by rw [← hr, own_dl, hv6_11, if_neg hc12, if_neg hc13, hv4_14]) _ (own_inc hi (by omega) hv5_15) _ (One.val rfl)
theorem own_v9 (x v : Int32) (h : (x &&& (2147483647 : Int32)) % (1000000000 : Int32) = v) : ∃ n : Nat, n < 1000000000 ∧ v.toInt = (n : Int) := by
  have c1 := c_and x 2147483647 (by decide)
  have c2 := c_iremV (x &&& (2147483647 : Int32)) 1000000000
  have l1 : (1000000000 : Int32).toInt = 1000000000 := by decide
  rw [h, l1] at c2
  have c3 := c2.1 c1.1 (by decide)
  exact ⟨v.toInt.toNat, by omega, by omega⟩
theorem own_f3 (x v : Int32) (h : x &&& (3 : Int32) = v) : ∃ F : Nat, F ≤ 3 ∧ v.toInt = (F : Int) := by
  have c1 := c_and x 3 (by decide)
  have l : (3 : Int32).toInt = 3 := by decide
  rw [h, l] at c1
  exact ⟨v.toInt.toNat, by omega, by omega⟩
theorem own_p15 (x v : Int32) (h : x &&& (15 : Int32) = v) : ∃ F : Nat, F ≤ 15 ∧ v.toInt = (F : Int) := by
  have c1 := c_and x 15 (by decide)
  have l : (15 : Int32).toInt = 15 := by decide
  rw [h, l] at c1
  exact ⟨v.toInt.toNat, by omega, by omega⟩
theorem own_l10 (x v : Int32) (h : (x &&& (15 : Int32)) % (11 : Int32) = v) : ∃ n : Nat, n ≤ 10 ∧ v.toInt = (n : Int) := by
  have c1 := c_and x 15 (by decide)
  have c2 := c_iremV (x &&& (15 : Int32)) 11
  have l1 : (11 : Int32).toInt = 11 := by decide
  rw [h, l1] at c2
  have c3 := c2.1 c1.1 (by decide)
  exact ⟨v.toInt.toNat, by omega, by omega⟩
theorem own_mb (a b c v : Int32) (h : (if a = (0 : Int32) then (b.toInt8.toInt32) else (c.toInt8.toInt32)) = v) : -128 ≤ v.toInt ∧ v.toInt < 128 := by
  subst h
  have c1 := c_i2b b
  have c2 := c_i2b c
  split <;> omega
set_option maxRecDepth 65536 in
set_option maxHeartbeats 40000000 in
theorem rm0 (l : Launch) (Z : State) (a0 : Array Value) (hw : ∀ d ∈ tables_1, d.before a0 Z = true) (ws : List Jvm.Cond) (p1 : Int32) (p2 : Int32) (p3 : Int32) (p4 : Int32)  (h0 : Heap) (n0 : Nat) (Z0 : n0 ≤ h0.size) :
    MetFree l x (head1 (Jvm.Cond.code x code maxLocals ret :: ws) room_1) (fun a U => a = #[(.int p1), (.int p2), (.int p3), (.int p4)] ∧ Z.Warmed39 U.vm ∧ U.heap = h0) (fun _ _ _ _ _ => True) (fun _ U o U' => ∃ vv LL, o = .returned vv ∧ own_ap (fun v h L => v = some (.int 1) ∧ Fr n0 L) vv U'.heap LL ∧ FrameEnd U o U' LL 40 384) := by
  refine MetFree.of_bodySF (plainFor_of_name pn_0) hisR ?_
  intro p e s m args below meth c s₁ Bd hml0 hP hK
  obtain ⟨rfl, hZ, hh⟩ := hP
  have hx := Bd.exec
  have hby := Bd.bytes
  have hml : c.maxLocals = 14 := hml0
  have hown : s.vm.findClass "com/example/link_prestige/linkprestige/PageNamesDecimalPinLaw" = some m.cls := findClass_of_methodNamed Bd.named
  have hnm := (name_of_methodNamed Bd.named Bd.method).1
  have X0 : Stand p l e room_1 s m #[(.int p1), (.int p2), (.int p3), (.int p4)] below meth c s₁ [] 0 0 := Stand.of_body Bd
  have e0 : s₁.heap = h0 := by rw [← hh, Bd.state]; rfl
  have N0 := Fr.nil n0
  show own_Go p.tables e below (own_Q s (fun v h L => v = some (.int 1) ∧ Fr n0 L) 40 384) (s₁.setTop (entryFrame m #[(.int p1), (.int p2), (.int p3), (.int p4)] maxLocals))
  rw [show entryFrame m #[(.int p1), (.int p2), (.int p3), (.int p4)] maxLocals = mkF m 0 #[.val (.int p1), .val (.int p2), .val (.int p3), .val (.int p4), .unset, .unset, .unset, .unset, .unset, .unset, .unset, .unset, .unset, .unset] [] from by first | (simp [entryFrame, mkF, argsToLocals, Value.category, maxLocals]; done) | rfl]
  show own_Go _ _ _ _ (s₁.setTop (mkF m 0 #[.val (.int p1), .val (.int p2), .val (.int p3), .val (.int p4), .unset, .unset, .unset, .unset, .unset, .unset, .unset, .unset, .unset, .unset] []))
  refine own_by (fun _ k => XS.iloadN X0.here hx rfl (hb hby at_0) rfl k) ?_
  show own_Go _ _ _ _ (s₁.setTop (mkF m 1 #[.val (.int p1), .val (.int p2), .val (.int p3), .val (.int p4), .unset, .unset, .unset, .unset, .unset, .unset, .unset, .unset, .unset, .unset] [(.int p1)]))
  refine own_by (fun _ k => X0.ldcInt hx hown (mvT hZ (hw _ (List.mem_of_getElem? (i := 0) rfl))) (g := (mkF m 1 #[.val (.int p1), .val (.int p2), .val (.int p3), .val (.int p4), .unset, .unset, .unset, .unset, .unset, .unset, .unset, .unset, .unset, .unset] [(.int p1)])) rfl (hb hby at_1) _ k) ?_
  show own_Go _ _ _ _ (s₁.setTop (mkF m 3 #[.val (.int p1), .val (.int p2), .val (.int p3), .val (.int p4), .unset, .unset, .unset, .unset, .unset, .unset, .unset, .unset, .unset, .unset] [(.int (2147483647 : Int32)), (.int p1)]))
  refine own_by (fun _ k => XS.iand X0.here hx rfl (hb hby at_3) rfl k) ?_
  show own_Go _ _ _ _ (s₁.setTop (mkF m 4 #[.val (.int p1), .val (.int p2), .val (.int p3), .val (.int p4), .unset, .unset, .unset, .unset, .unset, .unset, .unset, .unset, .unset, .unset] [(.int (p1 &&& (2147483647 : Int32)))]))
  refine own_by (fun _ k => X0.ldcInt hx hown (mvT hZ (hw _ (List.mem_of_getElem? (i := 1) rfl))) (g := (mkF m 4 #[.val (.int p1), .val (.int p2), .val (.int p3), .val (.int p4), .unset, .unset, .unset, .unset, .unset, .unset, .unset, .unset, .unset, .unset] [(.int (p1 &&& (2147483647 : Int32)))])) rfl (hb hby at_4) _ k) ?_
  show own_Go _ _ _ _ (s₁.setTop (mkF m 6 #[.val (.int p1), .val (.int p2), .val (.int p3), .val (.int p4), .unset, .unset, .unset, .unset, .unset, .unset, .unset, .unset, .unset, .unset] [(.int (1000000000 : Int32)), (.int (p1 &&& (2147483647 : Int32)))]))
  refine own_by (fun _ k => iremM X0 hx rfl (hb hby at_6) rfl (by decide) k) ?_
  show own_Go _ _ _ _ (s₁.setTop (mkF m 7 #[.val (.int p1), .val (.int p2), .val (.int p3), .val (.int p4), .unset, .unset, .unset, .unset, .unset, .unset, .unset, .unset, .unset, .unset] [(.int ((p1 &&& (2147483647 : Int32)) % (1000000000 : Int32)))]))
  obtain ⟨v4_1, hv4_1⟩ : ∃ z_ : Int32, ((p1 &&& (2147483647 : Int32)) % (1000000000 : Int32)) = z_ := ⟨_, rfl⟩
  refine own_gen hv4_1 (fun z_ => s₁.setTop (mkF m 7 #[.val (.int p1), .val (.int p2), .val (.int p3), .val (.int p4), .unset, .unset, .unset, .unset, .unset, .unset, .unset, .unset, .unset, .unset] [(.int z_)])) ?_
  refine own_by (fun _ k => XS.istore X0.here hx rfl (hb hby at_7) rfl (l' := #[.val (.int p1), .val (.int p2), .val (.int p3), .val (.int p4), .val (.int v4_1), .unset, .unset, .unset, .unset, .unset, .unset, .unset, .unset, .unset]) rfl k) ?_
  obtain ⟨V, hV9, hV⟩ := own_v9 _ _ hv4_1
  show own_Go _ _ _ _ (s₁.setTop (mkF m 9 #[.val (.int p1), .val (.int p2), .val (.int p3), .val (.int p4), .val (.int v4_1), .unset, .unset, .unset, .unset, .unset, .unset, .unset, .unset, .unset] []))
  refine own_by (fun _ k => XS.iloadN X0.here hx rfl (hb hby at_9) rfl k) ?_
  show own_Go _ _ _ _ (s₁.setTop (mkF m 10 #[.val (.int p1), .val (.int p2), .val (.int p3), .val (.int p4), .val (.int v4_1), .unset, .unset, .unset, .unset, .unset, .unset, .unset, .unset, .unset] [(.int p2)]))
  refine own_by (fun _ k => XS.iconst X0.here hx rfl (hb hby at_10) k) ?_
  show own_Go _ _ _ _ (s₁.setTop (mkF m 11 #[.val (.int p1), .val (.int p2), .val (.int p3), .val (.int p4), .val (.int v4_1), .unset, .unset, .unset, .unset, .unset, .unset, .unset, .unset, .unset] [(.int (3 : Int32)), (.int p2)]))
  refine own_by (fun _ k => XS.iand X0.here hx rfl (hb hby at_11) rfl k) ?_
  show own_Go _ _ _ _ (s₁.setTop (mkF m 12 #[.val (.int p1), .val (.int p2), .val (.int p3), .val (.int p4), .val (.int v4_1), .unset, .unset, .unset, .unset, .unset, .unset, .unset, .unset, .unset] [(.int (p2 &&& (3 : Int32)))]))
  obtain ⟨v5_2, hv5_2⟩ : ∃ z_ : Int32, (p2 &&& (3 : Int32)) = z_ := ⟨_, rfl⟩
  refine own_gen hv5_2 (fun z_ => s₁.setTop (mkF m 12 #[.val (.int p1), .val (.int p2), .val (.int p3), .val (.int p4), .val (.int v4_1), .unset, .unset, .unset, .unset, .unset, .unset, .unset, .unset, .unset] [(.int z_)])) ?_
  refine own_by (fun _ k => XS.istore X0.here hx rfl (hb hby at_12) rfl (l' := #[.val (.int p1), .val (.int p2), .val (.int p3), .val (.int p4), .val (.int v4_1), .val (.int v5_2), .unset, .unset, .unset, .unset, .unset, .unset, .unset, .unset]) rfl k) ?_
  obtain ⟨F, hF3, hF⟩ := own_f3 _ _ hv5_2
  show own_Go _ _ _ _ (s₁.setTop (mkF m 14 #[.val (.int p1), .val (.int p2), .val (.int p3), .val (.int p4), .val (.int v4_1), .val (.int v5_2), .unset, .unset, .unset, .unset, .unset, .unset, .unset, .unset] []))
  refine own_by (fun _ k => XS.iloadN X0.here hx rfl (hb hby at_14) rfl k) ?_
  show own_Go _ _ _ _ (s₁.setTop (mkF m 15 #[.val (.int p1), .val (.int p2), .val (.int p3), .val (.int p4), .val (.int v4_1), .val (.int v5_2), .unset, .unset, .unset, .unset, .unset, .unset, .unset, .unset] [(.int p2)]))
  refine own_by (fun _ k => XS.iconst X0.here hx rfl (hb hby at_15) k) ?_
  show own_Go _ _ _ _ (s₁.setTop (mkF m 16 #[.val (.int p1), .val (.int p2), .val (.int p3), .val (.int p4), .val (.int v4_1), .val (.int v5_2), .unset, .unset, .unset, .unset, .unset, .unset, .unset, .unset] [(.int (2 : Int32)), (.int p2)]))
  refine own_by (fun _ k => XS.iushr X0.here hx rfl (hb hby at_16) rfl k) ?_
  show own_Go _ _ _ _ (s₁.setTop (mkF m 17 #[.val (.int p1), .val (.int p2), .val (.int p3), .val (.int p4), .val (.int v4_1), .val (.int v5_2), .unset, .unset, .unset, .unset, .unset, .unset, .unset, .unset] [(.int ((p2.toUInt32 >>> ((2 : Int32) &&& 31).toUInt32).toInt32))]))
  refine own_by (fun _ k => XS.bipush X0.here hx rfl (hb hby at_17) k) ?_
  show own_Go _ _ _ _ (s₁.setTop (mkF m 19 #[.val (.int p1), .val (.int p2), .val (.int p3), .val (.int p4), .val (.int v4_1), .val (.int v5_2), .unset, .unset, .unset, .unset, .unset, .unset, .unset, .unset] [(.int (15 : Int32)), (.int ((p2.toUInt32 >>> ((2 : Int32) &&& 31).toUInt32).toInt32))]))
  refine own_by (fun _ k => XS.iand X0.here hx rfl (hb hby at_19) rfl k) ?_
  show own_Go _ _ _ _ (s₁.setTop (mkF m 20 #[.val (.int p1), .val (.int p2), .val (.int p3), .val (.int p4), .val (.int v4_1), .val (.int v5_2), .unset, .unset, .unset, .unset, .unset, .unset, .unset, .unset] [(.int (((p2.toUInt32 >>> ((2 : Int32) &&& 31).toUInt32).toInt32) &&& (15 : Int32)))]))
  refine own_by (fun _ k => XS.bipush X0.here hx rfl (hb hby at_20) k) ?_
  show own_Go _ _ _ _ (s₁.setTop (mkF m 22 #[.val (.int p1), .val (.int p2), .val (.int p3), .val (.int p4), .val (.int v4_1), .val (.int v5_2), .unset, .unset, .unset, .unset, .unset, .unset, .unset, .unset] [(.int (11 : Int32)), (.int (((p2.toUInt32 >>> ((2 : Int32) &&& 31).toUInt32).toInt32) &&& (15 : Int32)))]))
  refine own_by (fun _ k => iremM X0 hx rfl (hb hby at_22) rfl (by decide) k) ?_
  show own_Go _ _ _ _ (s₁.setTop (mkF m 23 #[.val (.int p1), .val (.int p2), .val (.int p3), .val (.int p4), .val (.int v4_1), .val (.int v5_2), .unset, .unset, .unset, .unset, .unset, .unset, .unset, .unset] [(.int ((((p2.toUInt32 >>> ((2 : Int32) &&& 31).toUInt32).toInt32) &&& (15 : Int32)) % (11 : Int32)))]))
  obtain ⟨v6_3, hv6_3⟩ : ∃ z_ : Int32, ((((p2.toUInt32 >>> ((2 : Int32) &&& 31).toUInt32).toInt32) &&& (15 : Int32)) % (11 : Int32)) = z_ := ⟨_, rfl⟩
  refine own_gen hv6_3 (fun z_ => s₁.setTop (mkF m 23 #[.val (.int p1), .val (.int p2), .val (.int p3), .val (.int p4), .val (.int v4_1), .val (.int v5_2), .unset, .unset, .unset, .unset, .unset, .unset, .unset, .unset] [(.int z_)])) ?_
  refine own_by (fun _ k => XS.istore X0.here hx rfl (hb hby at_23) rfl (l' := #[.val (.int p1), .val (.int p2), .val (.int p3), .val (.int p4), .val (.int v4_1), .val (.int v5_2), .val (.int v6_3), .unset, .unset, .unset, .unset, .unset, .unset, .unset]) rfl k) ?_
  obtain ⟨L, hL10, hL⟩ := own_l10 _ _ hv6_3
  show own_Go _ _ _ _ (s₁.setTop (mkF m 25 #[.val (.int p1), .val (.int p2), .val (.int p3), .val (.int p4), .val (.int v4_1), .val (.int v5_2), .val (.int v6_3), .unset, .unset, .unset, .unset, .unset, .unset, .unset] []))
  refine own_by (fun _ k => XS.iload X0.here hx rfl (hb hby at_25) rfl k) ?_
  show own_Go _ _ _ _ (s₁.setTop (mkF m 27 #[.val (.int p1), .val (.int p2), .val (.int p3), .val (.int p4), .val (.int v4_1), .val (.int v5_2), .val (.int v6_3), .unset, .unset, .unset, .unset, .unset, .unset, .unset] [(.int v5_2)]))
  refine own_by (fun _ k => XS.iload X0.here hx rfl (hb hby at_27) rfl k) ?_
  show own_Go _ _ _ _ (s₁.setTop (mkF m 29 #[.val (.int p1), .val (.int p2), .val (.int p3), .val (.int p4), .val (.int v4_1), .val (.int v5_2), .val (.int v6_3), .unset, .unset, .unset, .unset, .unset, .unset, .unset] [(.int v6_3), (.int v5_2)]))
  refine own_by (fun _ k => XS.iadd X0.here hx rfl (hb hby at_29) rfl k) ?_
  show own_Go _ _ _ _ (s₁.setTop (mkF m 30 #[.val (.int p1), .val (.int p2), .val (.int p3), .val (.int p4), .val (.int v4_1), .val (.int v5_2), .val (.int v6_3), .unset, .unset, .unset, .unset, .unset, .unset, .unset] [(.int (v5_2 + v6_3))]))
  obtain ⟨v7_4, hv7_4⟩ : ∃ z_ : Int32, (v5_2 + v6_3) = z_ := ⟨_, rfl⟩
  refine own_gen hv7_4 (fun z_ => s₁.setTop (mkF m 30 #[.val (.int p1), .val (.int p2), .val (.int p3), .val (.int p4), .val (.int v4_1), .val (.int v5_2), .val (.int v6_3), .unset, .unset, .unset, .unset, .unset, .unset, .unset] [(.int z_)])) ?_
  refine own_by (fun _ k => XS.istore X0.here hx rfl (hb hby at_30) rfl (l' := #[.val (.int p1), .val (.int p2), .val (.int p3), .val (.int p4), .val (.int v4_1), .val (.int v5_2), .val (.int v6_3), .val (.int v7_4), .unset, .unset, .unset, .unset, .unset, .unset]) rfl k) ?_
  have hto : (v7_4).toInt = ((F + L : Nat) : Int) := by rw [← hv7_4]; exact own_addn hF (by omega) hL (by omega)
  show own_Go _ _ _ _ (s₁.setTop (mkF m 32 #[.val (.int p1), .val (.int p2), .val (.int p3), .val (.int p4), .val (.int v4_1), .val (.int v5_2), .val (.int v6_3), .val (.int v7_4), .unset, .unset, .unset, .unset, .unset, .unset] []))
  refine own_by (fun _ k => XS.iloadN X0.here hx rfl (hb hby at_32) rfl k) ?_
  show own_Go _ _ _ _ (s₁.setTop (mkF m 33 #[.val (.int p1), .val (.int p2), .val (.int p3), .val (.int p4), .val (.int v4_1), .val (.int v5_2), .val (.int v6_3), .val (.int v7_4), .unset, .unset, .unset, .unset, .unset, .unset] [(.int p4)]))
  refine own_by (fun _ k => XS.iconst X0.here hx rfl (hb hby at_33) k) ?_
  show own_Go _ _ _ _ (s₁.setTop (mkF m 34 #[.val (.int p1), .val (.int p2), .val (.int p3), .val (.int p4), .val (.int v4_1), .val (.int v5_2), .val (.int v6_3), .val (.int v7_4), .unset, .unset, .unset, .unset, .unset, .unset] [(.int (1 : Int32)), (.int p4)]))
  refine own_by (fun _ k => XS.iand X0.here hx rfl (hb hby at_34) rfl k) ?_
  refine own_by (V := s₁.setTop (mkF m 58 #[.val (.int p1), .val (.int p2), .val (.int p3), .val (.int p4), .val (.int v4_1), .val (.int v5_2), .val (.int v6_3), .val (.int v7_4), .unset, .unset, .unset, .unset, .unset, .unset] [(.int (if (p4 &&& (1 : Int32)) = (0 : Int32) then (((p4.toUInt32 >>> ((1 : Int32) &&& 31).toUInt32).toInt32).toInt8.toInt32) else (((48 : Int32) + ((((p4.toUInt32 >>> ((1 : Int32) &&& 31).toUInt32).toInt32) &&& (65535 : Int32)) % (10 : Int32))).toInt8.toInt32)))])) (fun _ kk => ?_) ?_
  · --
    show Steps _ _ _ (s₁.setTop (mkF m 35 #[.val (.int p1), .val (.int p2), .val (.int p3), .val (.int p4), .val (.int v4_1), .val (.int v5_2), .val (.int v6_3), .val (.int v7_4), .unset, .unset, .unset, .unset, .unset, .unset] [(.int (p4 &&& (1 : Int32)))])) _
    by_cases hc5 : (p4 &&& (1 : Int32)) = (0 : Int32)
    · --
      refine XS.ifYes X0.here hx rfl (pc0 := 35) (pc' := 54) rfl (hb hby at_35) rfl ((if0 _ _).trans (teq hc5).1) (by decide) (by decide) ?_
      show Steps _ _ _ (s₁.setTop (mkF m 54 #[.val (.int p1), .val (.int p2), .val (.int p3), .val (.int p4), .val (.int v4_1), .val (.int v5_2), .val (.int v6_3), .val (.int v7_4), .unset, .unset, .unset, .unset, .unset, .unset] [])) _
      refine XS.iloadN X0.here hx rfl (hb hby at_54) rfl ?_
      show Steps _ _ _ (s₁.setTop (mkF m 55 #[.val (.int p1), .val (.int p2), .val (.int p3), .val (.int p4), .val (.int v4_1), .val (.int v5_2), .val (.int v6_3), .val (.int v7_4), .unset, .unset, .unset, .unset, .unset, .unset] [(.int p4)])) _
      refine XS.iconst X0.here hx rfl (hb hby at_55) ?_
      show Steps _ _ _ (s₁.setTop (mkF m 56 #[.val (.int p1), .val (.int p2), .val (.int p3), .val (.int p4), .val (.int v4_1), .val (.int v5_2), .val (.int v6_3), .val (.int v7_4), .unset, .unset, .unset, .unset, .unset, .unset] [(.int (1 : Int32)), (.int p4)])) _
      refine XS.iushr X0.here hx rfl (hb hby at_56) rfl ?_
      show Steps _ _ _ (s₁.setTop (mkF m 57 #[.val (.int p1), .val (.int p2), .val (.int p3), .val (.int p4), .val (.int v4_1), .val (.int v5_2), .val (.int v6_3), .val (.int v7_4), .unset, .unset, .unset, .unset, .unset, .unset] [(.int ((p4.toUInt32 >>> ((1 : Int32) &&& 31).toUInt32).toInt32))])) _
      refine XS.i2b X0.here hx rfl (hb hby at_57) rfl ?_
      show Steps _ _ _ (s₁.setTop (mkF m 58 #[.val (.int p1), .val (.int p2), .val (.int p3), .val (.int p4), .val (.int v4_1), .val (.int v5_2), .val (.int v6_3), .val (.int v7_4), .unset, .unset, .unset, .unset, .unset, .unset] [(.int (((p4.toUInt32 >>> ((1 : Int32) &&& 31).toUInt32).toInt32).toInt8.toInt32))])) _
      try simp only [if_pos hc5] at kk
      exact kk
    · --
      refine XS.ifNo X0.here hx rfl (hb hby at_35) rfl ((if0 _ _).trans (feq hc5).1) ?_
      show Steps _ _ _ (s₁.setTop (mkF m 38 #[.val (.int p1), .val (.int p2), .val (.int p3), .val (.int p4), .val (.int v4_1), .val (.int v5_2), .val (.int v6_3), .val (.int v7_4), .unset, .unset, .unset, .unset, .unset, .unset] [])) _
      refine XS.bipush X0.here hx rfl (hb hby at_38) ?_
      show Steps _ _ _ (s₁.setTop (mkF m 40 #[.val (.int p1), .val (.int p2), .val (.int p3), .val (.int p4), .val (.int v4_1), .val (.int v5_2), .val (.int v6_3), .val (.int v7_4), .unset, .unset, .unset, .unset, .unset, .unset] [(.int (48 : Int32))])) _
      refine XS.iloadN X0.here hx rfl (hb hby at_40) rfl ?_
      show Steps _ _ _ (s₁.setTop (mkF m 41 #[.val (.int p1), .val (.int p2), .val (.int p3), .val (.int p4), .val (.int v4_1), .val (.int v5_2), .val (.int v6_3), .val (.int v7_4), .unset, .unset, .unset, .unset, .unset, .unset] [(.int p4), (.int (48 : Int32))])) _
      refine XS.iconst X0.here hx rfl (hb hby at_41) ?_
      show Steps _ _ _ (s₁.setTop (mkF m 42 #[.val (.int p1), .val (.int p2), .val (.int p3), .val (.int p4), .val (.int v4_1), .val (.int v5_2), .val (.int v6_3), .val (.int v7_4), .unset, .unset, .unset, .unset, .unset, .unset] [(.int (1 : Int32)), (.int p4), (.int (48 : Int32))])) _
      refine XS.iushr X0.here hx rfl (hb hby at_42) rfl ?_
      show Steps _ _ _ (s₁.setTop (mkF m 43 #[.val (.int p1), .val (.int p2), .val (.int p3), .val (.int p4), .val (.int v4_1), .val (.int v5_2), .val (.int v6_3), .val (.int v7_4), .unset, .unset, .unset, .unset, .unset, .unset] [(.int ((p4.toUInt32 >>> ((1 : Int32) &&& 31).toUInt32).toInt32)), (.int (48 : Int32))])) _
      refine X0.ldcInt hx hown (mvT hZ (hw _ (List.mem_of_getElem? (i := 2) rfl))) (g := (mkF m 43 #[.val (.int p1), .val (.int p2), .val (.int p3), .val (.int p4), .val (.int v4_1), .val (.int v5_2), .val (.int v6_3), .val (.int v7_4), .unset, .unset, .unset, .unset, .unset, .unset] [(.int ((p4.toUInt32 >>> ((1 : Int32) &&& 31).toUInt32).toInt32)), (.int (48 : Int32))])) rfl (hb hby at_43) _ ?_
      show Steps _ _ _ (s₁.setTop (mkF m 45 #[.val (.int p1), .val (.int p2), .val (.int p3), .val (.int p4), .val (.int v4_1), .val (.int v5_2), .val (.int v6_3), .val (.int v7_4), .unset, .unset, .unset, .unset, .unset, .unset] [(.int (65535 : Int32)), (.int ((p4.toUInt32 >>> ((1 : Int32) &&& 31).toUInt32).toInt32)), (.int (48 : Int32))])) _
      refine XS.iand X0.here hx rfl (hb hby at_45) rfl ?_
      show Steps _ _ _ (s₁.setTop (mkF m 46 #[.val (.int p1), .val (.int p2), .val (.int p3), .val (.int p4), .val (.int v4_1), .val (.int v5_2), .val (.int v6_3), .val (.int v7_4), .unset, .unset, .unset, .unset, .unset, .unset] [(.int (((p4.toUInt32 >>> ((1 : Int32) &&& 31).toUInt32).toInt32) &&& (65535 : Int32))), (.int (48 : Int32))])) _
      refine XS.bipush X0.here hx rfl (hb hby at_46) ?_
      show Steps _ _ _ (s₁.setTop (mkF m 48 #[.val (.int p1), .val (.int p2), .val (.int p3), .val (.int p4), .val (.int v4_1), .val (.int v5_2), .val (.int v6_3), .val (.int v7_4), .unset, .unset, .unset, .unset, .unset, .unset] [(.int (10 : Int32)), (.int (((p4.toUInt32 >>> ((1 : Int32) &&& 31).toUInt32).toInt32) &&& (65535 : Int32))), (.int (48 : Int32))])) _
      refine iremM X0 hx rfl (hb hby at_48) rfl (by decide) ?_
      show Steps _ _ _ (s₁.setTop (mkF m 49 #[.val (.int p1), .val (.int p2), .val (.int p3), .val (.int p4), .val (.int v4_1), .val (.int v5_2), .val (.int v6_3), .val (.int v7_4), .unset, .unset, .unset, .unset, .unset, .unset] [(.int ((((p4.toUInt32 >>> ((1 : Int32) &&& 31).toUInt32).toInt32) &&& (65535 : Int32)) % (10 : Int32))), (.int (48 : Int32))])) _
      refine XS.iadd X0.here hx rfl (hb hby at_49) rfl ?_
      show Steps _ _ _ (s₁.setTop (mkF m 50 #[.val (.int p1), .val (.int p2), .val (.int p3), .val (.int p4), .val (.int v4_1), .val (.int v5_2), .val (.int v6_3), .val (.int v7_4), .unset, .unset, .unset, .unset, .unset, .unset] [(.int ((48 : Int32) + ((((p4.toUInt32 >>> ((1 : Int32) &&& 31).toUInt32).toInt32) &&& (65535 : Int32)) % (10 : Int32))))])) _
      refine XS.i2b X0.here hx rfl (hb hby at_50) rfl ?_
      show Steps _ _ _ (s₁.setTop (mkF m 51 #[.val (.int p1), .val (.int p2), .val (.int p3), .val (.int p4), .val (.int v4_1), .val (.int v5_2), .val (.int v6_3), .val (.int v7_4), .unset, .unset, .unset, .unset, .unset, .unset] [(.int (((48 : Int32) + ((((p4.toUInt32 >>> ((1 : Int32) &&& 31).toUInt32).toInt32) &&& (65535 : Int32)) % (10 : Int32))).toInt8.toInt32))])) _
      refine XS.goto X0.here hx rfl (pc0 := 51) (pc' := 58) rfl (hb hby at_51) (by decide) (by decide) ?_
      show Steps _ _ _ (s₁.setTop (mkF m 58 #[.val (.int p1), .val (.int p2), .val (.int p3), .val (.int p4), .val (.int v4_1), .val (.int v5_2), .val (.int v6_3), .val (.int v7_4), .unset, .unset, .unset, .unset, .unset, .unset] [(.int (((48 : Int32) + ((((p4.toUInt32 >>> ((1 : Int32) &&& 31).toUInt32).toInt32) &&& (65535 : Int32)) % (10 : Int32))).toInt8.toInt32))])) _
      try simp only [if_neg hc5] at kk
      exact kk
  obtain ⟨m6, hm6⟩ : ∃ z_ : Int32, (if (p4 &&& (1 : Int32)) = (0 : Int32) then (((p4.toUInt32 >>> ((1 : Int32) &&& 31).toUInt32).toInt32).toInt8.toInt32) else (((48 : Int32) + ((((p4.toUInt32 >>> ((1 : Int32) &&& 31).toUInt32).toInt32) &&& (65535 : Int32)) % (10 : Int32))).toInt8.toInt32)) = z_ := ⟨_, rfl⟩
  refine own_gen hm6 (fun z_ => s₁.setTop (mkF m 58 #[.val (.int p1), .val (.int p2), .val (.int p3), .val (.int p4), .val (.int v4_1), .val (.int v5_2), .val (.int v6_3), .val (.int v7_4), .unset, .unset, .unset, .unset, .unset, .unset] [(.int z_)])) ?_
  show own_Go _ _ _ _ (s₁.setTop (mkF m 58 #[.val (.int p1), .val (.int p2), .val (.int p3), .val (.int p4), .val (.int v4_1), .val (.int v5_2), .val (.int v6_3), .val (.int v7_4), .unset, .unset, .unset, .unset, .unset, .unset] [(.int m6)]))
  refine own_by (fun _ k => XS.istore X0.here hx rfl (hb hby at_58) rfl (l' := #[.val (.int p1), .val (.int p2), .val (.int p3), .val (.int p4), .val (.int v4_1), .val (.int v5_2), .val (.int v6_3), .val (.int v7_4), .val (.int m6), .unset, .unset, .unset, .unset, .unset]) rfl k) ?_
  show own_Go _ _ _ _ (s₁.setTop (mkF m 60 #[.val (.int p1), .val (.int p2), .val (.int p3), .val (.int p4), .val (.int v4_1), .val (.int v5_2), .val (.int v6_3), .val (.int v7_4), .val (.int m6), .unset, .unset, .unset, .unset, .unset] []))
  refine own_by (fun _ k => XS.bipush X0.here hx rfl (hb hby at_60) k) ?_
  show own_Go _ _ _ _ (s₁.setTop (mkF m 62 #[.val (.int p1), .val (.int p2), .val (.int p3), .val (.int p4), .val (.int v4_1), .val (.int v5_2), .val (.int v6_3), .val (.int v7_4), .val (.int m6), .unset, .unset, .unset, .unset, .unset] [(.int (16 : Int32))]))
  refine own_newP X0 hx hZ (hw _ (List.mem_of_getElem? (i := 3) rfl)) e0 16 (by decide) 16 (by decide) (by decide) (by decide) (by decide) (hb hby at_62) ?_
  intro T7 h7 X7 e7 E7 A7
  show own_Go _ _ _ _ (T7.setTop (mkF m 64 #[.val (.int p1), .val (.int p2), .val (.int p3), .val (.int p4), .val (.int v4_1), .val (.int v5_2), .val (.int v6_3), .val (.int v7_4), .val (.int m6), .unset, .unset, .unset, .unset, .unset] [.ref h0.size]))
  obtain ⟨b7, g7⟩ : ∃ z, z = h0.size := ⟨_, rfl⟩
  rw [← g7] at A7
  refine own_gen g7.symm (fun z_ => T7.setTop (mkF m 64 #[.val (.int p1), .val (.int p2), .val (.int p3), .val (.int p4), .val (.int v4_1), .val (.int v5_2), .val (.int v6_3), .val (.int v7_4), .val (.int m6), .unset, .unset, .unset, .unset, .unset] [.ref z_])) ?_
  have ge7 : n0 ≤ b7 := Nat.le_trans Z0 (Nat.le_of_eq g7.symm)
  have Z7 := Nat.le_trans Z0 E7.1
  have f8 : own_AI Z h7 b7 .byte 16 (fun _ => 0) := A7
  show own_Go _ _ _ _ (T7.setTop (mkF m 64 #[.val (.int p1), .val (.int p2), .val (.int p3), .val (.int p4), .val (.int v4_1), .val (.int v5_2), .val (.int v6_3), .val (.int v7_4), .val (.int m6), .unset, .unset, .unset, .unset, .unset] [(.ref b7)]))
  refine own_by (fun _ k => XS.dup X7.here hx rfl (hb hby at_64) rfl rfl k) ?_
  show own_Go _ _ _ _ (T7.setTop (mkF m 65 #[.val (.int p1), .val (.int p2), .val (.int p3), .val (.int p4), .val (.int v4_1), .val (.int v5_2), .val (.int v6_3), .val (.int v7_4), .val (.int m6), .unset, .unset, .unset, .unset, .unset] [(.ref b7), (.ref b7)]))
  refine own_by (fun _ k => XS.iconst X7.here hx rfl (hb hby at_65) k) ?_
  show own_Go _ _ _ _ (T7.setTop (mkF m 66 #[.val (.int p1), .val (.int p2), .val (.int p3), .val (.int p4), .val (.int v4_1), .val (.int v5_2), .val (.int v6_3), .val (.int v7_4), .val (.int m6), .unset, .unset, .unset, .unset, .unset] [(.int (0 : Int32)), (.ref b7), (.ref b7)]))
  refine own_by (fun _ k => XS.iconst X7.here hx rfl (hb hby at_66) k) ?_
  show own_Go _ _ _ _ (T7.setTop (mkF m 67 #[.val (.int p1), .val (.int p2), .val (.int p3), .val (.int p4), .val (.int v4_1), .val (.int v5_2), .val (.int v6_3), .val (.int v7_4), .val (.int m6), .unset, .unset, .unset, .unset, .unset] [(.int (0 : Int32)), (.int (0 : Int32)), (.ref b7), (.ref b7)]))
  refine own_by (fun _ k => XS.iload X7.here hx rfl (hb hby at_67) rfl k) ?_
  show own_Go _ _ _ _ (T7.setTop (mkF m 69 #[.val (.int p1), .val (.int p2), .val (.int p3), .val (.int p4), .val (.int v4_1), .val (.int v5_2), .val (.int v6_3), .val (.int v7_4), .val (.int m6), .unset, .unset, .unset, .unset, .unset] [(.int v5_2), (.int (0 : Int32)), (.int (0 : Int32)), (.ref b7), (.ref b7)]))
  refine own_by (fun _ k => XS.iload X7.here hx rfl (hb hby at_69) rfl k) ?_
  show own_Go _ _ _ _ (T7.setTop (mkF m 71 #[.val (.int p1), .val (.int p2), .val (.int p3), .val (.int p4), .val (.int v4_1), .val (.int v5_2), .val (.int v6_3), .val (.int v7_4), .val (.int m6), .unset, .unset, .unset, .unset, .unset] [(.int v6_3), (.int v5_2), (.int (0 : Int32)), (.int (0 : Int32)), (.ref b7), (.ref b7)]))
  refine own_by (fun _ k => XS.iload X7.here hx rfl (hb hby at_71) rfl k) ?_
  show own_Go _ _ _ _ (T7.setTop (mkF m 73 #[.val (.int p1), .val (.int p2), .val (.int p3), .val (.int p4), .val (.int v4_1), .val (.int v5_2), .val (.int v6_3), .val (.int v7_4), .val (.int m6), .unset, .unset, .unset, .unset, .unset] [(.int v4_1), (.int v6_3), (.int v5_2), (.int (0 : Int32)), (.int (0 : Int32)), (.ref b7), (.ref b7)]))
  refine own_by (fun _ k => XS.iload X7.here hx rfl (hb hby at_73) rfl k) ?_
  show own_Go _ _ _ _ (T7.setTop (mkF m 75 #[.val (.int p1), .val (.int p2), .val (.int p3), .val (.int p4), .val (.int v4_1), .val (.int v5_2), .val (.int v6_3), .val (.int v7_4), .val (.int m6), .unset, .unset, .unset, .unset, .unset] [(.int m6), (.int v4_1), (.int v6_3), (.int v5_2), (.int (0 : Int32)), (.int (0 : Int32)), (.ref b7), (.ref b7)]))
  refine own_callS X7 hx hZ hown (hw _ (List.mem_of_getElem? (i := 4) rfl)) (hw _ (List.mem_of_getElem? (i := 5) rfl)) (hw _ (List.mem_of_getElem? (i := 6) rfl)) (hw _ (List.mem_of_getElem? (i := 7) rfl)) (by decide) (rm1 l Z a0 hw [] (0 : Int32) v5_2 v6_3 v4_1 m6 0 F L V h7 n0 Z7 (by decide) hF hL hV (by decide) hF3 hL10) e7 (by rw [hml]; rfl) [(.int (0 : Int32)), (.int v5_2), (.int v6_3), (.int v4_1), (.int m6)] [(.int (0 : Int32)), (.ref b7), (.ref b7)] rfl (lenOf own_pd0 rfl) rfl 3 (Nat.le_of_eq rfl) (by decide) (by decide) (Nat.le_of_ble_eq_true rfl) (Nat.le_of_ble_eq_true rfl) (hb hby at_75) ?_
  intro T9 Lc9 v9 X9 hQ9
  obtain ⟨h9, e9⟩ : ∃ h, T9.heap = h := ⟨_, rfl⟩
  rw [e9] at hQ9
  obtain ⟨z9, rfl, N9q, K9, hz0⟩ := hQ9
  have N9 := Fr.app N0 N9q
  have f10 := f8.keep K9 nin0
  have Z9 := Nat.le_trans Z7 K9.1
  show own_Go _ _ _ _ (T9.setTop (mkF m 78 #[.val (.int p1), .val (.int p2), .val (.int p3), .val (.int p4), .val (.int v4_1), .val (.int v5_2), .val (.int v6_3), .val (.int v7_4), .val (.int m6), .unset, .unset, .unset, .unset, .unset] [(.int z9), (.int (0 : Int32)), (.ref b7), (.ref b7)]))
  refine own_bas X9 hx hZ e9 f10 0 (by decide) (by decide) (hb hby at_78) ?_
  intro T11 h11 X11 e11 W11 A11
  have N11 := Fr.snoc X11 N9 ge7
  have Z11 := own_size_wr W11 Z9
  obtain ⟨fn11, hfn11⟩ : ∃ g : Nat → Int32, g = own_upd (fun _ => 0) 0 (nar .byte z9) := ⟨_, rfl⟩
  rw [← hfn11] at A11
  show own_Go _ _ _ _ (T11.setTop (mkF m 79 #[.val (.int p1), .val (.int p2), .val (.int p3), .val (.int p4), .val (.int v4_1), .val (.int v5_2), .val (.int v6_3), .val (.int v7_4), .val (.int m6), .unset, .unset, .unset, .unset, .unset] [(.ref b7)]))
  refine own_by (fun _ k => XS.dup X11.here hx rfl (hb hby at_79) rfl rfl k) ?_
  show own_Go _ _ _ _ (T11.setTop (mkF m 80 #[.val (.int p1), .val (.int p2), .val (.int p3), .val (.int p4), .val (.int v4_1), .val (.int v5_2), .val (.int v6_3), .val (.int v7_4), .val (.int m6), .unset, .unset, .unset, .unset, .unset] [(.ref b7), (.ref b7)]))
  refine own_by (fun _ k => XS.iconst X11.here hx rfl (hb hby at_80) k) ?_
  show own_Go _ _ _ _ (T11.setTop (mkF m 81 #[.val (.int p1), .val (.int p2), .val (.int p3), .val (.int p4), .val (.int v4_1), .val (.int v5_2), .val (.int v6_3), .val (.int v7_4), .val (.int m6), .unset, .unset, .unset, .unset, .unset] [(.int (1 : Int32)), (.ref b7), (.ref b7)]))
  refine own_by (fun _ k => XS.iconst X11.here hx rfl (hb hby at_81) k) ?_
  show own_Go _ _ _ _ (T11.setTop (mkF m 82 #[.val (.int p1), .val (.int p2), .val (.int p3), .val (.int p4), .val (.int v4_1), .val (.int v5_2), .val (.int v6_3), .val (.int v7_4), .val (.int m6), .unset, .unset, .unset, .unset, .unset] [(.int (1 : Int32)), (.int (1 : Int32)), (.ref b7), (.ref b7)]))
  refine own_by (fun _ k => XS.iload X11.here hx rfl (hb hby at_82) rfl k) ?_
  show own_Go _ _ _ _ (T11.setTop (mkF m 84 #[.val (.int p1), .val (.int p2), .val (.int p3), .val (.int p4), .val (.int v4_1), .val (.int v5_2), .val (.int v6_3), .val (.int v7_4), .val (.int m6), .unset, .unset, .unset, .unset, .unset] [(.int v5_2), (.int (1 : Int32)), (.int (1 : Int32)), (.ref b7), (.ref b7)]))
  refine own_by (fun _ k => XS.iload X11.here hx rfl (hb hby at_84) rfl k) ?_
  show own_Go _ _ _ _ (T11.setTop (mkF m 86 #[.val (.int p1), .val (.int p2), .val (.int p3), .val (.int p4), .val (.int v4_1), .val (.int v5_2), .val (.int v6_3), .val (.int v7_4), .val (.int m6), .unset, .unset, .unset, .unset, .unset] [(.int v6_3), (.int v5_2), (.int (1 : Int32)), (.int (1 : Int32)), (.ref b7), (.ref b7)]))
  refine own_by (fun _ k => XS.iload X11.here hx rfl (hb hby at_86) rfl k) ?_
  show own_Go _ _ _ _ (T11.setTop (mkF m 88 #[.val (.int p1), .val (.int p2), .val (.int p3), .val (.int p4), .val (.int v4_1), .val (.int v5_2), .val (.int v6_3), .val (.int v7_4), .val (.int m6), .unset, .unset, .unset, .unset, .unset] [(.int v4_1), (.int v6_3), (.int v5_2), (.int (1 : Int32)), (.int (1 : Int32)), (.ref b7), (.ref b7)]))
  refine own_by (fun _ k => XS.iload X11.here hx rfl (hb hby at_88) rfl k) ?_
  show own_Go _ _ _ _ (T11.setTop (mkF m 90 #[.val (.int p1), .val (.int p2), .val (.int p3), .val (.int p4), .val (.int v4_1), .val (.int v5_2), .val (.int v6_3), .val (.int v7_4), .val (.int m6), .unset, .unset, .unset, .unset, .unset] [(.int m6), (.int v4_1), (.int v6_3), (.int v5_2), (.int (1 : Int32)), (.int (1 : Int32)), (.ref b7), (.ref b7)]))
  refine own_callS X11 hx hZ hown (hw _ (List.mem_of_getElem? (i := 4) rfl)) (hw _ (List.mem_of_getElem? (i := 5) rfl)) (hw _ (List.mem_of_getElem? (i := 6) rfl)) (hw _ (List.mem_of_getElem? (i := 7) rfl)) (by decide) (rm1 l Z a0 hw [] (1 : Int32) v5_2 v6_3 v4_1 m6 1 F L V h11 n0 Z11 (by decide) hF hL hV (by decide) hF3 hL10) e11 (by rw [hml]; rfl) [(.int (1 : Int32)), (.int v5_2), (.int v6_3), (.int v4_1), (.int m6)] [(.int (1 : Int32)), (.ref b7), (.ref b7)] rfl (lenOf own_pd0 rfl) rfl 3 (Nat.le_of_eq rfl) (by decide) (by decide) (Nat.le_of_ble_eq_true rfl) (Nat.le_of_ble_eq_true rfl) (hb hby at_90) ?_
  intro T12 Lc12 v12 X12 hQ12
  obtain ⟨h12, e12⟩ : ∃ h, T12.heap = h := ⟨_, rfl⟩
  rw [e12] at hQ12
  obtain ⟨z12, rfl, N12q, K12, hz1⟩ := hQ12
  have N12 := Fr.app N11 N12q
  have f13 := A11.keep K12 nin0
  have Z12 := Nat.le_trans Z11 K12.1
  show own_Go _ _ _ _ (T12.setTop (mkF m 93 #[.val (.int p1), .val (.int p2), .val (.int p3), .val (.int p4), .val (.int v4_1), .val (.int v5_2), .val (.int v6_3), .val (.int v7_4), .val (.int m6), .unset, .unset, .unset, .unset, .unset] [(.int z12), (.int (1 : Int32)), (.ref b7), (.ref b7)]))
  refine own_bas X12 hx hZ e12 f13 1 (by decide) (by decide) (hb hby at_93) ?_
  intro T14 h14 X14 e14 W14 A14
  have N14 := Fr.snoc X14 N12 ge7
  have Z14 := own_size_wr W14 Z12
  obtain ⟨fn14, hfn14⟩ : ∃ g : Nat → Int32, g = own_upd fn11 1 (nar .byte z12) := ⟨_, rfl⟩
  rw [← hfn14] at A14
  show own_Go _ _ _ _ (T14.setTop (mkF m 94 #[.val (.int p1), .val (.int p2), .val (.int p3), .val (.int p4), .val (.int v4_1), .val (.int v5_2), .val (.int v6_3), .val (.int v7_4), .val (.int m6), .unset, .unset, .unset, .unset, .unset] [(.ref b7)]))
  refine own_by (fun _ k => XS.dup X14.here hx rfl (hb hby at_94) rfl rfl k) ?_
  show own_Go _ _ _ _ (T14.setTop (mkF m 95 #[.val (.int p1), .val (.int p2), .val (.int p3), .val (.int p4), .val (.int v4_1), .val (.int v5_2), .val (.int v6_3), .val (.int v7_4), .val (.int m6), .unset, .unset, .unset, .unset, .unset] [(.ref b7), (.ref b7)]))
  refine own_by (fun _ k => XS.iconst X14.here hx rfl (hb hby at_95) k) ?_
  show own_Go _ _ _ _ (T14.setTop (mkF m 96 #[.val (.int p1), .val (.int p2), .val (.int p3), .val (.int p4), .val (.int v4_1), .val (.int v5_2), .val (.int v6_3), .val (.int v7_4), .val (.int m6), .unset, .unset, .unset, .unset, .unset] [(.int (2 : Int32)), (.ref b7), (.ref b7)]))
  refine own_by (fun _ k => XS.iconst X14.here hx rfl (hb hby at_96) k) ?_
  show own_Go _ _ _ _ (T14.setTop (mkF m 97 #[.val (.int p1), .val (.int p2), .val (.int p3), .val (.int p4), .val (.int v4_1), .val (.int v5_2), .val (.int v6_3), .val (.int v7_4), .val (.int m6), .unset, .unset, .unset, .unset, .unset] [(.int (2 : Int32)), (.int (2 : Int32)), (.ref b7), (.ref b7)]))
  refine own_by (fun _ k => XS.iload X14.here hx rfl (hb hby at_97) rfl k) ?_
  show own_Go _ _ _ _ (T14.setTop (mkF m 99 #[.val (.int p1), .val (.int p2), .val (.int p3), .val (.int p4), .val (.int v4_1), .val (.int v5_2), .val (.int v6_3), .val (.int v7_4), .val (.int m6), .unset, .unset, .unset, .unset, .unset] [(.int v5_2), (.int (2 : Int32)), (.int (2 : Int32)), (.ref b7), (.ref b7)]))
  refine own_by (fun _ k => XS.iload X14.here hx rfl (hb hby at_99) rfl k) ?_
  show own_Go _ _ _ _ (T14.setTop (mkF m 101 #[.val (.int p1), .val (.int p2), .val (.int p3), .val (.int p4), .val (.int v4_1), .val (.int v5_2), .val (.int v6_3), .val (.int v7_4), .val (.int m6), .unset, .unset, .unset, .unset, .unset] [(.int v6_3), (.int v5_2), (.int (2 : Int32)), (.int (2 : Int32)), (.ref b7), (.ref b7)]))
  refine own_by (fun _ k => XS.iload X14.here hx rfl (hb hby at_101) rfl k) ?_
  show own_Go _ _ _ _ (T14.setTop (mkF m 103 #[.val (.int p1), .val (.int p2), .val (.int p3), .val (.int p4), .val (.int v4_1), .val (.int v5_2), .val (.int v6_3), .val (.int v7_4), .val (.int m6), .unset, .unset, .unset, .unset, .unset] [(.int v4_1), (.int v6_3), (.int v5_2), (.int (2 : Int32)), (.int (2 : Int32)), (.ref b7), (.ref b7)]))
  refine own_by (fun _ k => XS.iload X14.here hx rfl (hb hby at_103) rfl k) ?_
  show own_Go _ _ _ _ (T14.setTop (mkF m 105 #[.val (.int p1), .val (.int p2), .val (.int p3), .val (.int p4), .val (.int v4_1), .val (.int v5_2), .val (.int v6_3), .val (.int v7_4), .val (.int m6), .unset, .unset, .unset, .unset, .unset] [(.int m6), (.int v4_1), (.int v6_3), (.int v5_2), (.int (2 : Int32)), (.int (2 : Int32)), (.ref b7), (.ref b7)]))
  refine own_callS X14 hx hZ hown (hw _ (List.mem_of_getElem? (i := 4) rfl)) (hw _ (List.mem_of_getElem? (i := 5) rfl)) (hw _ (List.mem_of_getElem? (i := 6) rfl)) (hw _ (List.mem_of_getElem? (i := 7) rfl)) (by decide) (rm1 l Z a0 hw [] (2 : Int32) v5_2 v6_3 v4_1 m6 2 F L V h14 n0 Z14 (by decide) hF hL hV (by decide) hF3 hL10) e14 (by rw [hml]; rfl) [(.int (2 : Int32)), (.int v5_2), (.int v6_3), (.int v4_1), (.int m6)] [(.int (2 : Int32)), (.ref b7), (.ref b7)] rfl (lenOf own_pd0 rfl) rfl 3 (Nat.le_of_eq rfl) (by decide) (by decide) (Nat.le_of_ble_eq_true rfl) (Nat.le_of_ble_eq_true rfl) (hb hby at_105) ?_
  intro T15 Lc15 v15 X15 hQ15
  obtain ⟨h15, e15⟩ : ∃ h, T15.heap = h := ⟨_, rfl⟩
  rw [e15] at hQ15
  obtain ⟨z15, rfl, N15q, K15, hz2⟩ := hQ15
  have N15 := Fr.app N14 N15q
  have f16 := A14.keep K15 nin0
  have Z15 := Nat.le_trans Z14 K15.1
  show own_Go _ _ _ _ (T15.setTop (mkF m 108 #[.val (.int p1), .val (.int p2), .val (.int p3), .val (.int p4), .val (.int v4_1), .val (.int v5_2), .val (.int v6_3), .val (.int v7_4), .val (.int m6), .unset, .unset, .unset, .unset, .unset] [(.int z15), (.int (2 : Int32)), (.ref b7), (.ref b7)]))
  refine own_bas X15 hx hZ e15 f16 2 (by decide) (by decide) (hb hby at_108) ?_
  intro T17 h17 X17 e17 W17 A17
  have N17 := Fr.snoc X17 N15 ge7
  have Z17 := own_size_wr W17 Z15
  obtain ⟨fn17, hfn17⟩ : ∃ g : Nat → Int32, g = own_upd fn14 2 (nar .byte z15) := ⟨_, rfl⟩
  rw [← hfn17] at A17
  show own_Go _ _ _ _ (T17.setTop (mkF m 109 #[.val (.int p1), .val (.int p2), .val (.int p3), .val (.int p4), .val (.int v4_1), .val (.int v5_2), .val (.int v6_3), .val (.int v7_4), .val (.int m6), .unset, .unset, .unset, .unset, .unset] [(.ref b7)]))
  refine own_by (fun _ k => XS.dup X17.here hx rfl (hb hby at_109) rfl rfl k) ?_
  show own_Go _ _ _ _ (T17.setTop (mkF m 110 #[.val (.int p1), .val (.int p2), .val (.int p3), .val (.int p4), .val (.int v4_1), .val (.int v5_2), .val (.int v6_3), .val (.int v7_4), .val (.int m6), .unset, .unset, .unset, .unset, .unset] [(.ref b7), (.ref b7)]))
  refine own_by (fun _ k => XS.iconst X17.here hx rfl (hb hby at_110) k) ?_
  show own_Go _ _ _ _ (T17.setTop (mkF m 111 #[.val (.int p1), .val (.int p2), .val (.int p3), .val (.int p4), .val (.int v4_1), .val (.int v5_2), .val (.int v6_3), .val (.int v7_4), .val (.int m6), .unset, .unset, .unset, .unset, .unset] [(.int (3 : Int32)), (.ref b7), (.ref b7)]))
  refine own_by (fun _ k => XS.iconst X17.here hx rfl (hb hby at_111) k) ?_
  show own_Go _ _ _ _ (T17.setTop (mkF m 112 #[.val (.int p1), .val (.int p2), .val (.int p3), .val (.int p4), .val (.int v4_1), .val (.int v5_2), .val (.int v6_3), .val (.int v7_4), .val (.int m6), .unset, .unset, .unset, .unset, .unset] [(.int (3 : Int32)), (.int (3 : Int32)), (.ref b7), (.ref b7)]))
  refine own_by (fun _ k => XS.iload X17.here hx rfl (hb hby at_112) rfl k) ?_
  show own_Go _ _ _ _ (T17.setTop (mkF m 114 #[.val (.int p1), .val (.int p2), .val (.int p3), .val (.int p4), .val (.int v4_1), .val (.int v5_2), .val (.int v6_3), .val (.int v7_4), .val (.int m6), .unset, .unset, .unset, .unset, .unset] [(.int v5_2), (.int (3 : Int32)), (.int (3 : Int32)), (.ref b7), (.ref b7)]))
  refine own_by (fun _ k => XS.iload X17.here hx rfl (hb hby at_114) rfl k) ?_
  show own_Go _ _ _ _ (T17.setTop (mkF m 116 #[.val (.int p1), .val (.int p2), .val (.int p3), .val (.int p4), .val (.int v4_1), .val (.int v5_2), .val (.int v6_3), .val (.int v7_4), .val (.int m6), .unset, .unset, .unset, .unset, .unset] [(.int v6_3), (.int v5_2), (.int (3 : Int32)), (.int (3 : Int32)), (.ref b7), (.ref b7)]))
  refine own_by (fun _ k => XS.iload X17.here hx rfl (hb hby at_116) rfl k) ?_
  show own_Go _ _ _ _ (T17.setTop (mkF m 118 #[.val (.int p1), .val (.int p2), .val (.int p3), .val (.int p4), .val (.int v4_1), .val (.int v5_2), .val (.int v6_3), .val (.int v7_4), .val (.int m6), .unset, .unset, .unset, .unset, .unset] [(.int v4_1), (.int v6_3), (.int v5_2), (.int (3 : Int32)), (.int (3 : Int32)), (.ref b7), (.ref b7)]))
  refine own_by (fun _ k => XS.iload X17.here hx rfl (hb hby at_118) rfl k) ?_
  show own_Go _ _ _ _ (T17.setTop (mkF m 120 #[.val (.int p1), .val (.int p2), .val (.int p3), .val (.int p4), .val (.int v4_1), .val (.int v5_2), .val (.int v6_3), .val (.int v7_4), .val (.int m6), .unset, .unset, .unset, .unset, .unset] [(.int m6), (.int v4_1), (.int v6_3), (.int v5_2), (.int (3 : Int32)), (.int (3 : Int32)), (.ref b7), (.ref b7)]))
  refine own_callS X17 hx hZ hown (hw _ (List.mem_of_getElem? (i := 4) rfl)) (hw _ (List.mem_of_getElem? (i := 5) rfl)) (hw _ (List.mem_of_getElem? (i := 6) rfl)) (hw _ (List.mem_of_getElem? (i := 7) rfl)) (by decide) (rm1 l Z a0 hw [] (3 : Int32) v5_2 v6_3 v4_1 m6 3 F L V h17 n0 Z17 (by decide) hF hL hV (by decide) hF3 hL10) e17 (by rw [hml]; rfl) [(.int (3 : Int32)), (.int v5_2), (.int v6_3), (.int v4_1), (.int m6)] [(.int (3 : Int32)), (.ref b7), (.ref b7)] rfl (lenOf own_pd0 rfl) rfl 3 (Nat.le_of_eq rfl) (by decide) (by decide) (Nat.le_of_ble_eq_true rfl) (Nat.le_of_ble_eq_true rfl) (hb hby at_120) ?_
  intro T18 Lc18 v18 X18 hQ18
  obtain ⟨h18, e18⟩ : ∃ h, T18.heap = h := ⟨_, rfl⟩
  rw [e18] at hQ18
  obtain ⟨z18, rfl, N18q, K18, hz3⟩ := hQ18
  have N18 := Fr.app N17 N18q
  have f19 := A17.keep K18 nin0
  have Z18 := Nat.le_trans Z17 K18.1
  show own_Go _ _ _ _ (T18.setTop (mkF m 123 #[.val (.int p1), .val (.int p2), .val (.int p3), .val (.int p4), .val (.int v4_1), .val (.int v5_2), .val (.int v6_3), .val (.int v7_4), .val (.int m6), .unset, .unset, .unset, .unset, .unset] [(.int z18), (.int (3 : Int32)), (.ref b7), (.ref b7)]))
  refine own_bas X18 hx hZ e18 f19 3 (by decide) (by decide) (hb hby at_123) ?_
  intro T20 h20 X20 e20 W20 A20
  have N20 := Fr.snoc X20 N18 ge7
  have Z20 := own_size_wr W20 Z18
  obtain ⟨fn20, hfn20⟩ : ∃ g : Nat → Int32, g = own_upd fn17 3 (nar .byte z18) := ⟨_, rfl⟩
  rw [← hfn20] at A20
  show own_Go _ _ _ _ (T20.setTop (mkF m 124 #[.val (.int p1), .val (.int p2), .val (.int p3), .val (.int p4), .val (.int v4_1), .val (.int v5_2), .val (.int v6_3), .val (.int v7_4), .val (.int m6), .unset, .unset, .unset, .unset, .unset] [(.ref b7)]))
  refine own_by (fun _ k => XS.dup X20.here hx rfl (hb hby at_124) rfl rfl k) ?_
  show own_Go _ _ _ _ (T20.setTop (mkF m 125 #[.val (.int p1), .val (.int p2), .val (.int p3), .val (.int p4), .val (.int v4_1), .val (.int v5_2), .val (.int v6_3), .val (.int v7_4), .val (.int m6), .unset, .unset, .unset, .unset, .unset] [(.ref b7), (.ref b7)]))
  refine own_by (fun _ k => XS.iconst X20.here hx rfl (hb hby at_125) k) ?_
  show own_Go _ _ _ _ (T20.setTop (mkF m 126 #[.val (.int p1), .val (.int p2), .val (.int p3), .val (.int p4), .val (.int v4_1), .val (.int v5_2), .val (.int v6_3), .val (.int v7_4), .val (.int m6), .unset, .unset, .unset, .unset, .unset] [(.int (4 : Int32)), (.ref b7), (.ref b7)]))
  refine own_by (fun _ k => XS.iconst X20.here hx rfl (hb hby at_126) k) ?_
  show own_Go _ _ _ _ (T20.setTop (mkF m 127 #[.val (.int p1), .val (.int p2), .val (.int p3), .val (.int p4), .val (.int v4_1), .val (.int v5_2), .val (.int v6_3), .val (.int v7_4), .val (.int m6), .unset, .unset, .unset, .unset, .unset] [(.int (4 : Int32)), (.int (4 : Int32)), (.ref b7), (.ref b7)]))
  refine own_by (fun _ k => XS.iload X20.here hx rfl (hb hby at_127) rfl k) ?_
  show own_Go _ _ _ _ (T20.setTop (mkF m 129 #[.val (.int p1), .val (.int p2), .val (.int p3), .val (.int p4), .val (.int v4_1), .val (.int v5_2), .val (.int v6_3), .val (.int v7_4), .val (.int m6), .unset, .unset, .unset, .unset, .unset] [(.int v5_2), (.int (4 : Int32)), (.int (4 : Int32)), (.ref b7), (.ref b7)]))
  refine own_by (fun _ k => XS.iload X20.here hx rfl (hb hby at_129) rfl k) ?_
  show own_Go _ _ _ _ (T20.setTop (mkF m 131 #[.val (.int p1), .val (.int p2), .val (.int p3), .val (.int p4), .val (.int v4_1), .val (.int v5_2), .val (.int v6_3), .val (.int v7_4), .val (.int m6), .unset, .unset, .unset, .unset, .unset] [(.int v6_3), (.int v5_2), (.int (4 : Int32)), (.int (4 : Int32)), (.ref b7), (.ref b7)]))
  refine own_by (fun _ k => XS.iload X20.here hx rfl (hb hby at_131) rfl k) ?_
  show own_Go _ _ _ _ (T20.setTop (mkF m 133 #[.val (.int p1), .val (.int p2), .val (.int p3), .val (.int p4), .val (.int v4_1), .val (.int v5_2), .val (.int v6_3), .val (.int v7_4), .val (.int m6), .unset, .unset, .unset, .unset, .unset] [(.int v4_1), (.int v6_3), (.int v5_2), (.int (4 : Int32)), (.int (4 : Int32)), (.ref b7), (.ref b7)]))
  refine own_by (fun _ k => XS.iload X20.here hx rfl (hb hby at_133) rfl k) ?_
  show own_Go _ _ _ _ (T20.setTop (mkF m 135 #[.val (.int p1), .val (.int p2), .val (.int p3), .val (.int p4), .val (.int v4_1), .val (.int v5_2), .val (.int v6_3), .val (.int v7_4), .val (.int m6), .unset, .unset, .unset, .unset, .unset] [(.int m6), (.int v4_1), (.int v6_3), (.int v5_2), (.int (4 : Int32)), (.int (4 : Int32)), (.ref b7), (.ref b7)]))
  refine own_callS X20 hx hZ hown (hw _ (List.mem_of_getElem? (i := 4) rfl)) (hw _ (List.mem_of_getElem? (i := 5) rfl)) (hw _ (List.mem_of_getElem? (i := 6) rfl)) (hw _ (List.mem_of_getElem? (i := 7) rfl)) (by decide) (rm1 l Z a0 hw [] (4 : Int32) v5_2 v6_3 v4_1 m6 4 F L V h20 n0 Z20 (by decide) hF hL hV (by decide) hF3 hL10) e20 (by rw [hml]; rfl) [(.int (4 : Int32)), (.int v5_2), (.int v6_3), (.int v4_1), (.int m6)] [(.int (4 : Int32)), (.ref b7), (.ref b7)] rfl (lenOf own_pd0 rfl) rfl 3 (Nat.le_of_eq rfl) (by decide) (by decide) (Nat.le_of_ble_eq_true rfl) (Nat.le_of_ble_eq_true rfl) (hb hby at_135) ?_
  intro T21 Lc21 v21 X21 hQ21
  obtain ⟨h21, e21⟩ : ∃ h, T21.heap = h := ⟨_, rfl⟩
  rw [e21] at hQ21
  obtain ⟨z21, rfl, N21q, K21, hz4⟩ := hQ21
  have N21 := Fr.app N20 N21q
  have f22 := A20.keep K21 nin0
  have Z21 := Nat.le_trans Z20 K21.1
  show own_Go _ _ _ _ (T21.setTop (mkF m 138 #[.val (.int p1), .val (.int p2), .val (.int p3), .val (.int p4), .val (.int v4_1), .val (.int v5_2), .val (.int v6_3), .val (.int v7_4), .val (.int m6), .unset, .unset, .unset, .unset, .unset] [(.int z21), (.int (4 : Int32)), (.ref b7), (.ref b7)]))
  refine own_bas X21 hx hZ e21 f22 4 (by decide) (by decide) (hb hby at_138) ?_
  intro T23 h23 X23 e23 W23 A23
  have N23 := Fr.snoc X23 N21 ge7
  have Z23 := own_size_wr W23 Z21
  obtain ⟨fn23, hfn23⟩ : ∃ g : Nat → Int32, g = own_upd fn20 4 (nar .byte z21) := ⟨_, rfl⟩
  rw [← hfn23] at A23
  show own_Go _ _ _ _ (T23.setTop (mkF m 139 #[.val (.int p1), .val (.int p2), .val (.int p3), .val (.int p4), .val (.int v4_1), .val (.int v5_2), .val (.int v6_3), .val (.int v7_4), .val (.int m6), .unset, .unset, .unset, .unset, .unset] [(.ref b7)]))
  refine own_by (fun _ k => XS.dup X23.here hx rfl (hb hby at_139) rfl rfl k) ?_
  show own_Go _ _ _ _ (T23.setTop (mkF m 140 #[.val (.int p1), .val (.int p2), .val (.int p3), .val (.int p4), .val (.int v4_1), .val (.int v5_2), .val (.int v6_3), .val (.int v7_4), .val (.int m6), .unset, .unset, .unset, .unset, .unset] [(.ref b7), (.ref b7)]))
  refine own_by (fun _ k => XS.iconst X23.here hx rfl (hb hby at_140) k) ?_
  show own_Go _ _ _ _ (T23.setTop (mkF m 141 #[.val (.int p1), .val (.int p2), .val (.int p3), .val (.int p4), .val (.int v4_1), .val (.int v5_2), .val (.int v6_3), .val (.int v7_4), .val (.int m6), .unset, .unset, .unset, .unset, .unset] [(.int (5 : Int32)), (.ref b7), (.ref b7)]))
  refine own_by (fun _ k => XS.iconst X23.here hx rfl (hb hby at_141) k) ?_
  show own_Go _ _ _ _ (T23.setTop (mkF m 142 #[.val (.int p1), .val (.int p2), .val (.int p3), .val (.int p4), .val (.int v4_1), .val (.int v5_2), .val (.int v6_3), .val (.int v7_4), .val (.int m6), .unset, .unset, .unset, .unset, .unset] [(.int (5 : Int32)), (.int (5 : Int32)), (.ref b7), (.ref b7)]))
  refine own_by (fun _ k => XS.iload X23.here hx rfl (hb hby at_142) rfl k) ?_
  show own_Go _ _ _ _ (T23.setTop (mkF m 144 #[.val (.int p1), .val (.int p2), .val (.int p3), .val (.int p4), .val (.int v4_1), .val (.int v5_2), .val (.int v6_3), .val (.int v7_4), .val (.int m6), .unset, .unset, .unset, .unset, .unset] [(.int v5_2), (.int (5 : Int32)), (.int (5 : Int32)), (.ref b7), (.ref b7)]))
  refine own_by (fun _ k => XS.iload X23.here hx rfl (hb hby at_144) rfl k) ?_
  show own_Go _ _ _ _ (T23.setTop (mkF m 146 #[.val (.int p1), .val (.int p2), .val (.int p3), .val (.int p4), .val (.int v4_1), .val (.int v5_2), .val (.int v6_3), .val (.int v7_4), .val (.int m6), .unset, .unset, .unset, .unset, .unset] [(.int v6_3), (.int v5_2), (.int (5 : Int32)), (.int (5 : Int32)), (.ref b7), (.ref b7)]))
  refine own_by (fun _ k => XS.iload X23.here hx rfl (hb hby at_146) rfl k) ?_
  show own_Go _ _ _ _ (T23.setTop (mkF m 148 #[.val (.int p1), .val (.int p2), .val (.int p3), .val (.int p4), .val (.int v4_1), .val (.int v5_2), .val (.int v6_3), .val (.int v7_4), .val (.int m6), .unset, .unset, .unset, .unset, .unset] [(.int v4_1), (.int v6_3), (.int v5_2), (.int (5 : Int32)), (.int (5 : Int32)), (.ref b7), (.ref b7)]))
  refine own_by (fun _ k => XS.iload X23.here hx rfl (hb hby at_148) rfl k) ?_
  show own_Go _ _ _ _ (T23.setTop (mkF m 150 #[.val (.int p1), .val (.int p2), .val (.int p3), .val (.int p4), .val (.int v4_1), .val (.int v5_2), .val (.int v6_3), .val (.int v7_4), .val (.int m6), .unset, .unset, .unset, .unset, .unset] [(.int m6), (.int v4_1), (.int v6_3), (.int v5_2), (.int (5 : Int32)), (.int (5 : Int32)), (.ref b7), (.ref b7)]))
  refine own_callS X23 hx hZ hown (hw _ (List.mem_of_getElem? (i := 4) rfl)) (hw _ (List.mem_of_getElem? (i := 5) rfl)) (hw _ (List.mem_of_getElem? (i := 6) rfl)) (hw _ (List.mem_of_getElem? (i := 7) rfl)) (by decide) (rm1 l Z a0 hw [] (5 : Int32) v5_2 v6_3 v4_1 m6 5 F L V h23 n0 Z23 (by decide) hF hL hV (by decide) hF3 hL10) e23 (by rw [hml]; rfl) [(.int (5 : Int32)), (.int v5_2), (.int v6_3), (.int v4_1), (.int m6)] [(.int (5 : Int32)), (.ref b7), (.ref b7)] rfl (lenOf own_pd0 rfl) rfl 3 (Nat.le_of_eq rfl) (by decide) (by decide) (Nat.le_of_ble_eq_true rfl) (Nat.le_of_ble_eq_true rfl) (hb hby at_150) ?_
  intro T24 Lc24 v24 X24 hQ24
  obtain ⟨h24, e24⟩ : ∃ h, T24.heap = h := ⟨_, rfl⟩
  rw [e24] at hQ24
  obtain ⟨z24, rfl, N24q, K24, hz5⟩ := hQ24
  have N24 := Fr.app N23 N24q
  have f25 := A23.keep K24 nin0
  have Z24 := Nat.le_trans Z23 K24.1
  show own_Go _ _ _ _ (T24.setTop (mkF m 153 #[.val (.int p1), .val (.int p2), .val (.int p3), .val (.int p4), .val (.int v4_1), .val (.int v5_2), .val (.int v6_3), .val (.int v7_4), .val (.int m6), .unset, .unset, .unset, .unset, .unset] [(.int z24), (.int (5 : Int32)), (.ref b7), (.ref b7)]))
  refine own_bas X24 hx hZ e24 f25 5 (by decide) (by decide) (hb hby at_153) ?_
  intro T26 h26 X26 e26 W26 A26
  have N26 := Fr.snoc X26 N24 ge7
  have Z26 := own_size_wr W26 Z24
  obtain ⟨fn26, hfn26⟩ : ∃ g : Nat → Int32, g = own_upd fn23 5 (nar .byte z24) := ⟨_, rfl⟩
  rw [← hfn26] at A26
  show own_Go _ _ _ _ (T26.setTop (mkF m 154 #[.val (.int p1), .val (.int p2), .val (.int p3), .val (.int p4), .val (.int v4_1), .val (.int v5_2), .val (.int v6_3), .val (.int v7_4), .val (.int m6), .unset, .unset, .unset, .unset, .unset] [(.ref b7)]))
  refine own_by (fun _ k => XS.dup X26.here hx rfl (hb hby at_154) rfl rfl k) ?_
  show own_Go _ _ _ _ (T26.setTop (mkF m 155 #[.val (.int p1), .val (.int p2), .val (.int p3), .val (.int p4), .val (.int v4_1), .val (.int v5_2), .val (.int v6_3), .val (.int v7_4), .val (.int m6), .unset, .unset, .unset, .unset, .unset] [(.ref b7), (.ref b7)]))
  refine own_by (fun _ k => XS.bipush X26.here hx rfl (hb hby at_155) k) ?_
  show own_Go _ _ _ _ (T26.setTop (mkF m 157 #[.val (.int p1), .val (.int p2), .val (.int p3), .val (.int p4), .val (.int v4_1), .val (.int v5_2), .val (.int v6_3), .val (.int v7_4), .val (.int m6), .unset, .unset, .unset, .unset, .unset] [(.int (6 : Int32)), (.ref b7), (.ref b7)]))
  refine own_by (fun _ k => XS.bipush X26.here hx rfl (hb hby at_157) k) ?_
  show own_Go _ _ _ _ (T26.setTop (mkF m 159 #[.val (.int p1), .val (.int p2), .val (.int p3), .val (.int p4), .val (.int v4_1), .val (.int v5_2), .val (.int v6_3), .val (.int v7_4), .val (.int m6), .unset, .unset, .unset, .unset, .unset] [(.int (6 : Int32)), (.int (6 : Int32)), (.ref b7), (.ref b7)]))
  refine own_by (fun _ k => XS.iload X26.here hx rfl (hb hby at_159) rfl k) ?_
  show own_Go _ _ _ _ (T26.setTop (mkF m 161 #[.val (.int p1), .val (.int p2), .val (.int p3), .val (.int p4), .val (.int v4_1), .val (.int v5_2), .val (.int v6_3), .val (.int v7_4), .val (.int m6), .unset, .unset, .unset, .unset, .unset] [(.int v5_2), (.int (6 : Int32)), (.int (6 : Int32)), (.ref b7), (.ref b7)]))
  refine own_by (fun _ k => XS.iload X26.here hx rfl (hb hby at_161) rfl k) ?_
  show own_Go _ _ _ _ (T26.setTop (mkF m 163 #[.val (.int p1), .val (.int p2), .val (.int p3), .val (.int p4), .val (.int v4_1), .val (.int v5_2), .val (.int v6_3), .val (.int v7_4), .val (.int m6), .unset, .unset, .unset, .unset, .unset] [(.int v6_3), (.int v5_2), (.int (6 : Int32)), (.int (6 : Int32)), (.ref b7), (.ref b7)]))
  refine own_by (fun _ k => XS.iload X26.here hx rfl (hb hby at_163) rfl k) ?_
  show own_Go _ _ _ _ (T26.setTop (mkF m 165 #[.val (.int p1), .val (.int p2), .val (.int p3), .val (.int p4), .val (.int v4_1), .val (.int v5_2), .val (.int v6_3), .val (.int v7_4), .val (.int m6), .unset, .unset, .unset, .unset, .unset] [(.int v4_1), (.int v6_3), (.int v5_2), (.int (6 : Int32)), (.int (6 : Int32)), (.ref b7), (.ref b7)]))
  refine own_by (fun _ k => XS.iload X26.here hx rfl (hb hby at_165) rfl k) ?_
  show own_Go _ _ _ _ (T26.setTop (mkF m 167 #[.val (.int p1), .val (.int p2), .val (.int p3), .val (.int p4), .val (.int v4_1), .val (.int v5_2), .val (.int v6_3), .val (.int v7_4), .val (.int m6), .unset, .unset, .unset, .unset, .unset] [(.int m6), (.int v4_1), (.int v6_3), (.int v5_2), (.int (6 : Int32)), (.int (6 : Int32)), (.ref b7), (.ref b7)]))
  refine own_callS X26 hx hZ hown (hw _ (List.mem_of_getElem? (i := 4) rfl)) (hw _ (List.mem_of_getElem? (i := 5) rfl)) (hw _ (List.mem_of_getElem? (i := 6) rfl)) (hw _ (List.mem_of_getElem? (i := 7) rfl)) (by decide) (rm1 l Z a0 hw [] (6 : Int32) v5_2 v6_3 v4_1 m6 6 F L V h26 n0 Z26 (by decide) hF hL hV (by decide) hF3 hL10) e26 (by rw [hml]; rfl) [(.int (6 : Int32)), (.int v5_2), (.int v6_3), (.int v4_1), (.int m6)] [(.int (6 : Int32)), (.ref b7), (.ref b7)] rfl (lenOf own_pd0 rfl) rfl 3 (Nat.le_of_eq rfl) (by decide) (by decide) (Nat.le_of_ble_eq_true rfl) (Nat.le_of_ble_eq_true rfl) (hb hby at_167) ?_
  intro T27 Lc27 v27 X27 hQ27
  obtain ⟨h27, e27⟩ : ∃ h, T27.heap = h := ⟨_, rfl⟩
  rw [e27] at hQ27
  obtain ⟨z27, rfl, N27q, K27, hz6⟩ := hQ27
  have N27 := Fr.app N26 N27q
  have f28 := A26.keep K27 nin0
  have Z27 := Nat.le_trans Z26 K27.1
  show own_Go _ _ _ _ (T27.setTop (mkF m 170 #[.val (.int p1), .val (.int p2), .val (.int p3), .val (.int p4), .val (.int v4_1), .val (.int v5_2), .val (.int v6_3), .val (.int v7_4), .val (.int m6), .unset, .unset, .unset, .unset, .unset] [(.int z27), (.int (6 : Int32)), (.ref b7), (.ref b7)]))
  refine own_bas X27 hx hZ e27 f28 6 (by decide) (by decide) (hb hby at_170) ?_
  intro T29 h29 X29 e29 W29 A29
  have N29 := Fr.snoc X29 N27 ge7
  have Z29 := own_size_wr W29 Z27
  obtain ⟨fn29, hfn29⟩ : ∃ g : Nat → Int32, g = own_upd fn26 6 (nar .byte z27) := ⟨_, rfl⟩
  rw [← hfn29] at A29
  show own_Go _ _ _ _ (T29.setTop (mkF m 171 #[.val (.int p1), .val (.int p2), .val (.int p3), .val (.int p4), .val (.int v4_1), .val (.int v5_2), .val (.int v6_3), .val (.int v7_4), .val (.int m6), .unset, .unset, .unset, .unset, .unset] [(.ref b7)]))
  refine own_by (fun _ k => XS.dup X29.here hx rfl (hb hby at_171) rfl rfl k) ?_
  show own_Go _ _ _ _ (T29.setTop (mkF m 172 #[.val (.int p1), .val (.int p2), .val (.int p3), .val (.int p4), .val (.int v4_1), .val (.int v5_2), .val (.int v6_3), .val (.int v7_4), .val (.int m6), .unset, .unset, .unset, .unset, .unset] [(.ref b7), (.ref b7)]))
  refine own_by (fun _ k => XS.bipush X29.here hx rfl (hb hby at_172) k) ?_
  show own_Go _ _ _ _ (T29.setTop (mkF m 174 #[.val (.int p1), .val (.int p2), .val (.int p3), .val (.int p4), .val (.int v4_1), .val (.int v5_2), .val (.int v6_3), .val (.int v7_4), .val (.int m6), .unset, .unset, .unset, .unset, .unset] [(.int (7 : Int32)), (.ref b7), (.ref b7)]))
  refine own_by (fun _ k => XS.bipush X29.here hx rfl (hb hby at_174) k) ?_
  show own_Go _ _ _ _ (T29.setTop (mkF m 176 #[.val (.int p1), .val (.int p2), .val (.int p3), .val (.int p4), .val (.int v4_1), .val (.int v5_2), .val (.int v6_3), .val (.int v7_4), .val (.int m6), .unset, .unset, .unset, .unset, .unset] [(.int (7 : Int32)), (.int (7 : Int32)), (.ref b7), (.ref b7)]))
  refine own_by (fun _ k => XS.iload X29.here hx rfl (hb hby at_176) rfl k) ?_
  show own_Go _ _ _ _ (T29.setTop (mkF m 178 #[.val (.int p1), .val (.int p2), .val (.int p3), .val (.int p4), .val (.int v4_1), .val (.int v5_2), .val (.int v6_3), .val (.int v7_4), .val (.int m6), .unset, .unset, .unset, .unset, .unset] [(.int v5_2), (.int (7 : Int32)), (.int (7 : Int32)), (.ref b7), (.ref b7)]))
  refine own_by (fun _ k => XS.iload X29.here hx rfl (hb hby at_178) rfl k) ?_
  show own_Go _ _ _ _ (T29.setTop (mkF m 180 #[.val (.int p1), .val (.int p2), .val (.int p3), .val (.int p4), .val (.int v4_1), .val (.int v5_2), .val (.int v6_3), .val (.int v7_4), .val (.int m6), .unset, .unset, .unset, .unset, .unset] [(.int v6_3), (.int v5_2), (.int (7 : Int32)), (.int (7 : Int32)), (.ref b7), (.ref b7)]))
  refine own_by (fun _ k => XS.iload X29.here hx rfl (hb hby at_180) rfl k) ?_
  show own_Go _ _ _ _ (T29.setTop (mkF m 182 #[.val (.int p1), .val (.int p2), .val (.int p3), .val (.int p4), .val (.int v4_1), .val (.int v5_2), .val (.int v6_3), .val (.int v7_4), .val (.int m6), .unset, .unset, .unset, .unset, .unset] [(.int v4_1), (.int v6_3), (.int v5_2), (.int (7 : Int32)), (.int (7 : Int32)), (.ref b7), (.ref b7)]))
  refine own_by (fun _ k => XS.iload X29.here hx rfl (hb hby at_182) rfl k) ?_
  show own_Go _ _ _ _ (T29.setTop (mkF m 184 #[.val (.int p1), .val (.int p2), .val (.int p3), .val (.int p4), .val (.int v4_1), .val (.int v5_2), .val (.int v6_3), .val (.int v7_4), .val (.int m6), .unset, .unset, .unset, .unset, .unset] [(.int m6), (.int v4_1), (.int v6_3), (.int v5_2), (.int (7 : Int32)), (.int (7 : Int32)), (.ref b7), (.ref b7)]))
  refine own_callS X29 hx hZ hown (hw _ (List.mem_of_getElem? (i := 4) rfl)) (hw _ (List.mem_of_getElem? (i := 5) rfl)) (hw _ (List.mem_of_getElem? (i := 6) rfl)) (hw _ (List.mem_of_getElem? (i := 7) rfl)) (by decide) (rm1 l Z a0 hw [] (7 : Int32) v5_2 v6_3 v4_1 m6 7 F L V h29 n0 Z29 (by decide) hF hL hV (by decide) hF3 hL10) e29 (by rw [hml]; rfl) [(.int (7 : Int32)), (.int v5_2), (.int v6_3), (.int v4_1), (.int m6)] [(.int (7 : Int32)), (.ref b7), (.ref b7)] rfl (lenOf own_pd0 rfl) rfl 3 (Nat.le_of_eq rfl) (by decide) (by decide) (Nat.le_of_ble_eq_true rfl) (Nat.le_of_ble_eq_true rfl) (hb hby at_184) ?_
  intro T30 Lc30 v30 X30 hQ30
  obtain ⟨h30, e30⟩ : ∃ h, T30.heap = h := ⟨_, rfl⟩
  rw [e30] at hQ30
  obtain ⟨z30, rfl, N30q, K30, hz7⟩ := hQ30
  have N30 := Fr.app N29 N30q
  have f31 := A29.keep K30 nin0
  have Z30 := Nat.le_trans Z29 K30.1
  show own_Go _ _ _ _ (T30.setTop (mkF m 187 #[.val (.int p1), .val (.int p2), .val (.int p3), .val (.int p4), .val (.int v4_1), .val (.int v5_2), .val (.int v6_3), .val (.int v7_4), .val (.int m6), .unset, .unset, .unset, .unset, .unset] [(.int z30), (.int (7 : Int32)), (.ref b7), (.ref b7)]))
  refine own_bas X30 hx hZ e30 f31 7 (by decide) (by decide) (hb hby at_187) ?_
  intro T32 h32 X32 e32 W32 A32
  have N32 := Fr.snoc X32 N30 ge7
  have Z32 := own_size_wr W32 Z30
  obtain ⟨fn32, hfn32⟩ : ∃ g : Nat → Int32, g = own_upd fn29 7 (nar .byte z30) := ⟨_, rfl⟩
  rw [← hfn32] at A32
  show own_Go _ _ _ _ (T32.setTop (mkF m 188 #[.val (.int p1), .val (.int p2), .val (.int p3), .val (.int p4), .val (.int v4_1), .val (.int v5_2), .val (.int v6_3), .val (.int v7_4), .val (.int m6), .unset, .unset, .unset, .unset, .unset] [(.ref b7)]))
  refine own_by (fun _ k => XS.dup X32.here hx rfl (hb hby at_188) rfl rfl k) ?_
  show own_Go _ _ _ _ (T32.setTop (mkF m 189 #[.val (.int p1), .val (.int p2), .val (.int p3), .val (.int p4), .val (.int v4_1), .val (.int v5_2), .val (.int v6_3), .val (.int v7_4), .val (.int m6), .unset, .unset, .unset, .unset, .unset] [(.ref b7), (.ref b7)]))
  refine own_by (fun _ k => XS.bipush X32.here hx rfl (hb hby at_189) k) ?_
  show own_Go _ _ _ _ (T32.setTop (mkF m 191 #[.val (.int p1), .val (.int p2), .val (.int p3), .val (.int p4), .val (.int v4_1), .val (.int v5_2), .val (.int v6_3), .val (.int v7_4), .val (.int m6), .unset, .unset, .unset, .unset, .unset] [(.int (8 : Int32)), (.ref b7), (.ref b7)]))
  refine own_by (fun _ k => XS.bipush X32.here hx rfl (hb hby at_191) k) ?_
  show own_Go _ _ _ _ (T32.setTop (mkF m 193 #[.val (.int p1), .val (.int p2), .val (.int p3), .val (.int p4), .val (.int v4_1), .val (.int v5_2), .val (.int v6_3), .val (.int v7_4), .val (.int m6), .unset, .unset, .unset, .unset, .unset] [(.int (8 : Int32)), (.int (8 : Int32)), (.ref b7), (.ref b7)]))
  refine own_by (fun _ k => XS.iload X32.here hx rfl (hb hby at_193) rfl k) ?_
  show own_Go _ _ _ _ (T32.setTop (mkF m 195 #[.val (.int p1), .val (.int p2), .val (.int p3), .val (.int p4), .val (.int v4_1), .val (.int v5_2), .val (.int v6_3), .val (.int v7_4), .val (.int m6), .unset, .unset, .unset, .unset, .unset] [(.int v5_2), (.int (8 : Int32)), (.int (8 : Int32)), (.ref b7), (.ref b7)]))
  refine own_by (fun _ k => XS.iload X32.here hx rfl (hb hby at_195) rfl k) ?_
  show own_Go _ _ _ _ (T32.setTop (mkF m 197 #[.val (.int p1), .val (.int p2), .val (.int p3), .val (.int p4), .val (.int v4_1), .val (.int v5_2), .val (.int v6_3), .val (.int v7_4), .val (.int m6), .unset, .unset, .unset, .unset, .unset] [(.int v6_3), (.int v5_2), (.int (8 : Int32)), (.int (8 : Int32)), (.ref b7), (.ref b7)]))
  refine own_by (fun _ k => XS.iload X32.here hx rfl (hb hby at_197) rfl k) ?_
  show own_Go _ _ _ _ (T32.setTop (mkF m 199 #[.val (.int p1), .val (.int p2), .val (.int p3), .val (.int p4), .val (.int v4_1), .val (.int v5_2), .val (.int v6_3), .val (.int v7_4), .val (.int m6), .unset, .unset, .unset, .unset, .unset] [(.int v4_1), (.int v6_3), (.int v5_2), (.int (8 : Int32)), (.int (8 : Int32)), (.ref b7), (.ref b7)]))
  refine own_by (fun _ k => XS.iload X32.here hx rfl (hb hby at_199) rfl k) ?_
  show own_Go _ _ _ _ (T32.setTop (mkF m 201 #[.val (.int p1), .val (.int p2), .val (.int p3), .val (.int p4), .val (.int v4_1), .val (.int v5_2), .val (.int v6_3), .val (.int v7_4), .val (.int m6), .unset, .unset, .unset, .unset, .unset] [(.int m6), (.int v4_1), (.int v6_3), (.int v5_2), (.int (8 : Int32)), (.int (8 : Int32)), (.ref b7), (.ref b7)]))
  refine own_callS X32 hx hZ hown (hw _ (List.mem_of_getElem? (i := 4) rfl)) (hw _ (List.mem_of_getElem? (i := 5) rfl)) (hw _ (List.mem_of_getElem? (i := 6) rfl)) (hw _ (List.mem_of_getElem? (i := 7) rfl)) (by decide) (rm1 l Z a0 hw [] (8 : Int32) v5_2 v6_3 v4_1 m6 8 F L V h32 n0 Z32 (by decide) hF hL hV (by decide) hF3 hL10) e32 (by rw [hml]; rfl) [(.int (8 : Int32)), (.int v5_2), (.int v6_3), (.int v4_1), (.int m6)] [(.int (8 : Int32)), (.ref b7), (.ref b7)] rfl (lenOf own_pd0 rfl) rfl 3 (Nat.le_of_eq rfl) (by decide) (by decide) (Nat.le_of_ble_eq_true rfl) (Nat.le_of_ble_eq_true rfl) (hb hby at_201) ?_
  intro T33 Lc33 v33 X33 hQ33
  obtain ⟨h33, e33⟩ : ∃ h, T33.heap = h := ⟨_, rfl⟩
  rw [e33] at hQ33
  obtain ⟨z33, rfl, N33q, K33, hz8⟩ := hQ33
  have N33 := Fr.app N32 N33q
  have f34 := A32.keep K33 nin0
  have Z33 := Nat.le_trans Z32 K33.1
  show own_Go _ _ _ _ (T33.setTop (mkF m 204 #[.val (.int p1), .val (.int p2), .val (.int p3), .val (.int p4), .val (.int v4_1), .val (.int v5_2), .val (.int v6_3), .val (.int v7_4), .val (.int m6), .unset, .unset, .unset, .unset, .unset] [(.int z33), (.int (8 : Int32)), (.ref b7), (.ref b7)]))
  refine own_bas X33 hx hZ e33 f34 8 (by decide) (by decide) (hb hby at_204) ?_
  intro T35 h35 X35 e35 W35 A35
  have N35 := Fr.snoc X35 N33 ge7
  have Z35 := own_size_wr W35 Z33
  obtain ⟨fn35, hfn35⟩ : ∃ g : Nat → Int32, g = own_upd fn32 8 (nar .byte z33) := ⟨_, rfl⟩
  rw [← hfn35] at A35
  show own_Go _ _ _ _ (T35.setTop (mkF m 205 #[.val (.int p1), .val (.int p2), .val (.int p3), .val (.int p4), .val (.int v4_1), .val (.int v5_2), .val (.int v6_3), .val (.int v7_4), .val (.int m6), .unset, .unset, .unset, .unset, .unset] [(.ref b7)]))
  refine own_by (fun _ k => XS.dup X35.here hx rfl (hb hby at_205) rfl rfl k) ?_
  show own_Go _ _ _ _ (T35.setTop (mkF m 206 #[.val (.int p1), .val (.int p2), .val (.int p3), .val (.int p4), .val (.int v4_1), .val (.int v5_2), .val (.int v6_3), .val (.int v7_4), .val (.int m6), .unset, .unset, .unset, .unset, .unset] [(.ref b7), (.ref b7)]))
  refine own_by (fun _ k => XS.bipush X35.here hx rfl (hb hby at_206) k) ?_
  show own_Go _ _ _ _ (T35.setTop (mkF m 208 #[.val (.int p1), .val (.int p2), .val (.int p3), .val (.int p4), .val (.int v4_1), .val (.int v5_2), .val (.int v6_3), .val (.int v7_4), .val (.int m6), .unset, .unset, .unset, .unset, .unset] [(.int (9 : Int32)), (.ref b7), (.ref b7)]))
  refine own_by (fun _ k => XS.bipush X35.here hx rfl (hb hby at_208) k) ?_
  show own_Go _ _ _ _ (T35.setTop (mkF m 210 #[.val (.int p1), .val (.int p2), .val (.int p3), .val (.int p4), .val (.int v4_1), .val (.int v5_2), .val (.int v6_3), .val (.int v7_4), .val (.int m6), .unset, .unset, .unset, .unset, .unset] [(.int (9 : Int32)), (.int (9 : Int32)), (.ref b7), (.ref b7)]))
  refine own_by (fun _ k => XS.iload X35.here hx rfl (hb hby at_210) rfl k) ?_
  show own_Go _ _ _ _ (T35.setTop (mkF m 212 #[.val (.int p1), .val (.int p2), .val (.int p3), .val (.int p4), .val (.int v4_1), .val (.int v5_2), .val (.int v6_3), .val (.int v7_4), .val (.int m6), .unset, .unset, .unset, .unset, .unset] [(.int v5_2), (.int (9 : Int32)), (.int (9 : Int32)), (.ref b7), (.ref b7)]))
  refine own_by (fun _ k => XS.iload X35.here hx rfl (hb hby at_212) rfl k) ?_
  show own_Go _ _ _ _ (T35.setTop (mkF m 214 #[.val (.int p1), .val (.int p2), .val (.int p3), .val (.int p4), .val (.int v4_1), .val (.int v5_2), .val (.int v6_3), .val (.int v7_4), .val (.int m6), .unset, .unset, .unset, .unset, .unset] [(.int v6_3), (.int v5_2), (.int (9 : Int32)), (.int (9 : Int32)), (.ref b7), (.ref b7)]))
  refine own_by (fun _ k => XS.iload X35.here hx rfl (hb hby at_214) rfl k) ?_
  show own_Go _ _ _ _ (T35.setTop (mkF m 216 #[.val (.int p1), .val (.int p2), .val (.int p3), .val (.int p4), .val (.int v4_1), .val (.int v5_2), .val (.int v6_3), .val (.int v7_4), .val (.int m6), .unset, .unset, .unset, .unset, .unset] [(.int v4_1), (.int v6_3), (.int v5_2), (.int (9 : Int32)), (.int (9 : Int32)), (.ref b7), (.ref b7)]))
  refine own_by (fun _ k => XS.iload X35.here hx rfl (hb hby at_216) rfl k) ?_
  show own_Go _ _ _ _ (T35.setTop (mkF m 218 #[.val (.int p1), .val (.int p2), .val (.int p3), .val (.int p4), .val (.int v4_1), .val (.int v5_2), .val (.int v6_3), .val (.int v7_4), .val (.int m6), .unset, .unset, .unset, .unset, .unset] [(.int m6), (.int v4_1), (.int v6_3), (.int v5_2), (.int (9 : Int32)), (.int (9 : Int32)), (.ref b7), (.ref b7)]))
  refine own_callS X35 hx hZ hown (hw _ (List.mem_of_getElem? (i := 4) rfl)) (hw _ (List.mem_of_getElem? (i := 5) rfl)) (hw _ (List.mem_of_getElem? (i := 6) rfl)) (hw _ (List.mem_of_getElem? (i := 7) rfl)) (by decide) (rm1 l Z a0 hw [] (9 : Int32) v5_2 v6_3 v4_1 m6 9 F L V h35 n0 Z35 (by decide) hF hL hV (by decide) hF3 hL10) e35 (by rw [hml]; rfl) [(.int (9 : Int32)), (.int v5_2), (.int v6_3), (.int v4_1), (.int m6)] [(.int (9 : Int32)), (.ref b7), (.ref b7)] rfl (lenOf own_pd0 rfl) rfl 3 (Nat.le_of_eq rfl) (by decide) (by decide) (Nat.le_of_ble_eq_true rfl) (Nat.le_of_ble_eq_true rfl) (hb hby at_218) ?_
  intro T36 Lc36 v36 X36 hQ36
  obtain ⟨h36, e36⟩ : ∃ h, T36.heap = h := ⟨_, rfl⟩
  rw [e36] at hQ36
  obtain ⟨z36, rfl, N36q, K36, hz9⟩ := hQ36
  have N36 := Fr.app N35 N36q
  have f37 := A35.keep K36 nin0
  have Z36 := Nat.le_trans Z35 K36.1
  show own_Go _ _ _ _ (T36.setTop (mkF m 221 #[.val (.int p1), .val (.int p2), .val (.int p3), .val (.int p4), .val (.int v4_1), .val (.int v5_2), .val (.int v6_3), .val (.int v7_4), .val (.int m6), .unset, .unset, .unset, .unset, .unset] [(.int z36), (.int (9 : Int32)), (.ref b7), (.ref b7)]))
  refine own_bas X36 hx hZ e36 f37 9 (by decide) (by decide) (hb hby at_221) ?_
  intro T38 h38 X38 e38 W38 A38
  have N38 := Fr.snoc X38 N36 ge7
  have Z38 := own_size_wr W38 Z36
  obtain ⟨fn38, hfn38⟩ : ∃ g : Nat → Int32, g = own_upd fn35 9 (nar .byte z36) := ⟨_, rfl⟩
  rw [← hfn38] at A38
  show own_Go _ _ _ _ (T38.setTop (mkF m 222 #[.val (.int p1), .val (.int p2), .val (.int p3), .val (.int p4), .val (.int v4_1), .val (.int v5_2), .val (.int v6_3), .val (.int v7_4), .val (.int m6), .unset, .unset, .unset, .unset, .unset] [(.ref b7)]))
  refine own_by (fun _ k => XS.dup X38.here hx rfl (hb hby at_222) rfl rfl k) ?_
  show own_Go _ _ _ _ (T38.setTop (mkF m 223 #[.val (.int p1), .val (.int p2), .val (.int p3), .val (.int p4), .val (.int v4_1), .val (.int v5_2), .val (.int v6_3), .val (.int v7_4), .val (.int m6), .unset, .unset, .unset, .unset, .unset] [(.ref b7), (.ref b7)]))
  refine own_by (fun _ k => XS.bipush X38.here hx rfl (hb hby at_223) k) ?_
  show own_Go _ _ _ _ (T38.setTop (mkF m 225 #[.val (.int p1), .val (.int p2), .val (.int p3), .val (.int p4), .val (.int v4_1), .val (.int v5_2), .val (.int v6_3), .val (.int v7_4), .val (.int m6), .unset, .unset, .unset, .unset, .unset] [(.int (10 : Int32)), (.ref b7), (.ref b7)]))
  refine own_by (fun _ k => XS.bipush X38.here hx rfl (hb hby at_225) k) ?_
  show own_Go _ _ _ _ (T38.setTop (mkF m 227 #[.val (.int p1), .val (.int p2), .val (.int p3), .val (.int p4), .val (.int v4_1), .val (.int v5_2), .val (.int v6_3), .val (.int v7_4), .val (.int m6), .unset, .unset, .unset, .unset, .unset] [(.int (10 : Int32)), (.int (10 : Int32)), (.ref b7), (.ref b7)]))
  refine own_by (fun _ k => XS.iload X38.here hx rfl (hb hby at_227) rfl k) ?_
  show own_Go _ _ _ _ (T38.setTop (mkF m 229 #[.val (.int p1), .val (.int p2), .val (.int p3), .val (.int p4), .val (.int v4_1), .val (.int v5_2), .val (.int v6_3), .val (.int v7_4), .val (.int m6), .unset, .unset, .unset, .unset, .unset] [(.int v5_2), (.int (10 : Int32)), (.int (10 : Int32)), (.ref b7), (.ref b7)]))
  refine own_by (fun _ k => XS.iload X38.here hx rfl (hb hby at_229) rfl k) ?_
  show own_Go _ _ _ _ (T38.setTop (mkF m 231 #[.val (.int p1), .val (.int p2), .val (.int p3), .val (.int p4), .val (.int v4_1), .val (.int v5_2), .val (.int v6_3), .val (.int v7_4), .val (.int m6), .unset, .unset, .unset, .unset, .unset] [(.int v6_3), (.int v5_2), (.int (10 : Int32)), (.int (10 : Int32)), (.ref b7), (.ref b7)]))
  refine own_by (fun _ k => XS.iload X38.here hx rfl (hb hby at_231) rfl k) ?_
  show own_Go _ _ _ _ (T38.setTop (mkF m 233 #[.val (.int p1), .val (.int p2), .val (.int p3), .val (.int p4), .val (.int v4_1), .val (.int v5_2), .val (.int v6_3), .val (.int v7_4), .val (.int m6), .unset, .unset, .unset, .unset, .unset] [(.int v4_1), (.int v6_3), (.int v5_2), (.int (10 : Int32)), (.int (10 : Int32)), (.ref b7), (.ref b7)]))
  refine own_by (fun _ k => XS.iload X38.here hx rfl (hb hby at_233) rfl k) ?_
  show own_Go _ _ _ _ (T38.setTop (mkF m 235 #[.val (.int p1), .val (.int p2), .val (.int p3), .val (.int p4), .val (.int v4_1), .val (.int v5_2), .val (.int v6_3), .val (.int v7_4), .val (.int m6), .unset, .unset, .unset, .unset, .unset] [(.int m6), (.int v4_1), (.int v6_3), (.int v5_2), (.int (10 : Int32)), (.int (10 : Int32)), (.ref b7), (.ref b7)]))
  refine own_callS X38 hx hZ hown (hw _ (List.mem_of_getElem? (i := 4) rfl)) (hw _ (List.mem_of_getElem? (i := 5) rfl)) (hw _ (List.mem_of_getElem? (i := 6) rfl)) (hw _ (List.mem_of_getElem? (i := 7) rfl)) (by decide) (rm1 l Z a0 hw [] (10 : Int32) v5_2 v6_3 v4_1 m6 10 F L V h38 n0 Z38 (by decide) hF hL hV (by decide) hF3 hL10) e38 (by rw [hml]; rfl) [(.int (10 : Int32)), (.int v5_2), (.int v6_3), (.int v4_1), (.int m6)] [(.int (10 : Int32)), (.ref b7), (.ref b7)] rfl (lenOf own_pd0 rfl) rfl 3 (Nat.le_of_eq rfl) (by decide) (by decide) (Nat.le_of_ble_eq_true rfl) (Nat.le_of_ble_eq_true rfl) (hb hby at_235) ?_
  intro T39 Lc39 v39 X39 hQ39
  obtain ⟨h39, e39⟩ : ∃ h, T39.heap = h := ⟨_, rfl⟩
  rw [e39] at hQ39
  obtain ⟨z39, rfl, N39q, K39, hz10⟩ := hQ39
  have N39 := Fr.app N38 N39q
  have f40 := A38.keep K39 nin0
  have Z39 := Nat.le_trans Z38 K39.1
  show own_Go _ _ _ _ (T39.setTop (mkF m 238 #[.val (.int p1), .val (.int p2), .val (.int p3), .val (.int p4), .val (.int v4_1), .val (.int v5_2), .val (.int v6_3), .val (.int v7_4), .val (.int m6), .unset, .unset, .unset, .unset, .unset] [(.int z39), (.int (10 : Int32)), (.ref b7), (.ref b7)]))
  refine own_bas X39 hx hZ e39 f40 10 (by decide) (by decide) (hb hby at_238) ?_
  intro T41 h41 X41 e41 W41 A41
  have N41 := Fr.snoc X41 N39 ge7
  have Z41 := own_size_wr W41 Z39
  obtain ⟨fn41, hfn41⟩ : ∃ g : Nat → Int32, g = own_upd fn38 10 (nar .byte z39) := ⟨_, rfl⟩
  rw [← hfn41] at A41
  show own_Go _ _ _ _ (T41.setTop (mkF m 239 #[.val (.int p1), .val (.int p2), .val (.int p3), .val (.int p4), .val (.int v4_1), .val (.int v5_2), .val (.int v6_3), .val (.int v7_4), .val (.int m6), .unset, .unset, .unset, .unset, .unset] [(.ref b7)]))
  refine own_by (fun _ k => XS.dup X41.here hx rfl (hb hby at_239) rfl rfl k) ?_
  show own_Go _ _ _ _ (T41.setTop (mkF m 240 #[.val (.int p1), .val (.int p2), .val (.int p3), .val (.int p4), .val (.int v4_1), .val (.int v5_2), .val (.int v6_3), .val (.int v7_4), .val (.int m6), .unset, .unset, .unset, .unset, .unset] [(.ref b7), (.ref b7)]))
  refine own_by (fun _ k => XS.bipush X41.here hx rfl (hb hby at_240) k) ?_
  show own_Go _ _ _ _ (T41.setTop (mkF m 242 #[.val (.int p1), .val (.int p2), .val (.int p3), .val (.int p4), .val (.int v4_1), .val (.int v5_2), .val (.int v6_3), .val (.int v7_4), .val (.int m6), .unset, .unset, .unset, .unset, .unset] [(.int (11 : Int32)), (.ref b7), (.ref b7)]))
  refine own_by (fun _ k => XS.bipush X41.here hx rfl (hb hby at_242) k) ?_
  show own_Go _ _ _ _ (T41.setTop (mkF m 244 #[.val (.int p1), .val (.int p2), .val (.int p3), .val (.int p4), .val (.int v4_1), .val (.int v5_2), .val (.int v6_3), .val (.int v7_4), .val (.int m6), .unset, .unset, .unset, .unset, .unset] [(.int (11 : Int32)), (.int (11 : Int32)), (.ref b7), (.ref b7)]))
  refine own_by (fun _ k => XS.iload X41.here hx rfl (hb hby at_244) rfl k) ?_
  show own_Go _ _ _ _ (T41.setTop (mkF m 246 #[.val (.int p1), .val (.int p2), .val (.int p3), .val (.int p4), .val (.int v4_1), .val (.int v5_2), .val (.int v6_3), .val (.int v7_4), .val (.int m6), .unset, .unset, .unset, .unset, .unset] [(.int v5_2), (.int (11 : Int32)), (.int (11 : Int32)), (.ref b7), (.ref b7)]))
  refine own_by (fun _ k => XS.iload X41.here hx rfl (hb hby at_246) rfl k) ?_
  show own_Go _ _ _ _ (T41.setTop (mkF m 248 #[.val (.int p1), .val (.int p2), .val (.int p3), .val (.int p4), .val (.int v4_1), .val (.int v5_2), .val (.int v6_3), .val (.int v7_4), .val (.int m6), .unset, .unset, .unset, .unset, .unset] [(.int v6_3), (.int v5_2), (.int (11 : Int32)), (.int (11 : Int32)), (.ref b7), (.ref b7)]))
  refine own_by (fun _ k => XS.iload X41.here hx rfl (hb hby at_248) rfl k) ?_
  show own_Go _ _ _ _ (T41.setTop (mkF m 250 #[.val (.int p1), .val (.int p2), .val (.int p3), .val (.int p4), .val (.int v4_1), .val (.int v5_2), .val (.int v6_3), .val (.int v7_4), .val (.int m6), .unset, .unset, .unset, .unset, .unset] [(.int v4_1), (.int v6_3), (.int v5_2), (.int (11 : Int32)), (.int (11 : Int32)), (.ref b7), (.ref b7)]))
  refine own_by (fun _ k => XS.iload X41.here hx rfl (hb hby at_250) rfl k) ?_
  show own_Go _ _ _ _ (T41.setTop (mkF m 252 #[.val (.int p1), .val (.int p2), .val (.int p3), .val (.int p4), .val (.int v4_1), .val (.int v5_2), .val (.int v6_3), .val (.int v7_4), .val (.int m6), .unset, .unset, .unset, .unset, .unset] [(.int m6), (.int v4_1), (.int v6_3), (.int v5_2), (.int (11 : Int32)), (.int (11 : Int32)), (.ref b7), (.ref b7)]))
  refine own_callS X41 hx hZ hown (hw _ (List.mem_of_getElem? (i := 4) rfl)) (hw _ (List.mem_of_getElem? (i := 5) rfl)) (hw _ (List.mem_of_getElem? (i := 6) rfl)) (hw _ (List.mem_of_getElem? (i := 7) rfl)) (by decide) (rm1 l Z a0 hw [] (11 : Int32) v5_2 v6_3 v4_1 m6 11 F L V h41 n0 Z41 (by decide) hF hL hV (by decide) hF3 hL10) e41 (by rw [hml]; rfl) [(.int (11 : Int32)), (.int v5_2), (.int v6_3), (.int v4_1), (.int m6)] [(.int (11 : Int32)), (.ref b7), (.ref b7)] rfl (lenOf own_pd0 rfl) rfl 3 (Nat.le_of_eq rfl) (by decide) (by decide) (Nat.le_of_ble_eq_true rfl) (Nat.le_of_ble_eq_true rfl) (hb hby at_252) ?_
  intro T42 Lc42 v42 X42 hQ42
  obtain ⟨h42, e42⟩ : ∃ h, T42.heap = h := ⟨_, rfl⟩
  rw [e42] at hQ42
  obtain ⟨z42, rfl, N42q, K42, hz11⟩ := hQ42
  have N42 := Fr.app N41 N42q
  have f43 := A41.keep K42 nin0
  have Z42 := Nat.le_trans Z41 K42.1
  show own_Go _ _ _ _ (T42.setTop (mkF m 255 #[.val (.int p1), .val (.int p2), .val (.int p3), .val (.int p4), .val (.int v4_1), .val (.int v5_2), .val (.int v6_3), .val (.int v7_4), .val (.int m6), .unset, .unset, .unset, .unset, .unset] [(.int z42), (.int (11 : Int32)), (.ref b7), (.ref b7)]))
  refine own_bas X42 hx hZ e42 f43 11 (by decide) (by decide) (hb hby at_255) ?_
  intro T44 h44 X44 e44 W44 A44
  have N44 := Fr.snoc X44 N42 ge7
  have Z44 := own_size_wr W44 Z42
  obtain ⟨fn44, hfn44⟩ : ∃ g : Nat → Int32, g = own_upd fn41 11 (nar .byte z42) := ⟨_, rfl⟩
  rw [← hfn44] at A44
  show own_Go _ _ _ _ (T44.setTop (mkF m 256 #[.val (.int p1), .val (.int p2), .val (.int p3), .val (.int p4), .val (.int v4_1), .val (.int v5_2), .val (.int v6_3), .val (.int v7_4), .val (.int m6), .unset, .unset, .unset, .unset, .unset] [(.ref b7)]))
  refine own_by (fun _ k => XS.dup X44.here hx rfl (hb hby at_256) rfl rfl k) ?_
  show own_Go _ _ _ _ (T44.setTop (mkF m 257 #[.val (.int p1), .val (.int p2), .val (.int p3), .val (.int p4), .val (.int v4_1), .val (.int v5_2), .val (.int v6_3), .val (.int v7_4), .val (.int m6), .unset, .unset, .unset, .unset, .unset] [(.ref b7), (.ref b7)]))
  refine own_by (fun _ k => XS.bipush X44.here hx rfl (hb hby at_257) k) ?_
  show own_Go _ _ _ _ (T44.setTop (mkF m 259 #[.val (.int p1), .val (.int p2), .val (.int p3), .val (.int p4), .val (.int v4_1), .val (.int v5_2), .val (.int v6_3), .val (.int v7_4), .val (.int m6), .unset, .unset, .unset, .unset, .unset] [(.int (12 : Int32)), (.ref b7), (.ref b7)]))
  refine own_by (fun _ k => XS.bipush X44.here hx rfl (hb hby at_259) k) ?_
  show own_Go _ _ _ _ (T44.setTop (mkF m 261 #[.val (.int p1), .val (.int p2), .val (.int p3), .val (.int p4), .val (.int v4_1), .val (.int v5_2), .val (.int v6_3), .val (.int v7_4), .val (.int m6), .unset, .unset, .unset, .unset, .unset] [(.int (12 : Int32)), (.int (12 : Int32)), (.ref b7), (.ref b7)]))
  refine own_by (fun _ k => XS.iload X44.here hx rfl (hb hby at_261) rfl k) ?_
  show own_Go _ _ _ _ (T44.setTop (mkF m 263 #[.val (.int p1), .val (.int p2), .val (.int p3), .val (.int p4), .val (.int v4_1), .val (.int v5_2), .val (.int v6_3), .val (.int v7_4), .val (.int m6), .unset, .unset, .unset, .unset, .unset] [(.int v5_2), (.int (12 : Int32)), (.int (12 : Int32)), (.ref b7), (.ref b7)]))
  refine own_by (fun _ k => XS.iload X44.here hx rfl (hb hby at_263) rfl k) ?_
  show own_Go _ _ _ _ (T44.setTop (mkF m 265 #[.val (.int p1), .val (.int p2), .val (.int p3), .val (.int p4), .val (.int v4_1), .val (.int v5_2), .val (.int v6_3), .val (.int v7_4), .val (.int m6), .unset, .unset, .unset, .unset, .unset] [(.int v6_3), (.int v5_2), (.int (12 : Int32)), (.int (12 : Int32)), (.ref b7), (.ref b7)]))
  refine own_by (fun _ k => XS.iload X44.here hx rfl (hb hby at_265) rfl k) ?_
  show own_Go _ _ _ _ (T44.setTop (mkF m 267 #[.val (.int p1), .val (.int p2), .val (.int p3), .val (.int p4), .val (.int v4_1), .val (.int v5_2), .val (.int v6_3), .val (.int v7_4), .val (.int m6), .unset, .unset, .unset, .unset, .unset] [(.int v4_1), (.int v6_3), (.int v5_2), (.int (12 : Int32)), (.int (12 : Int32)), (.ref b7), (.ref b7)]))
  refine own_by (fun _ k => XS.iload X44.here hx rfl (hb hby at_267) rfl k) ?_
  show own_Go _ _ _ _ (T44.setTop (mkF m 269 #[.val (.int p1), .val (.int p2), .val (.int p3), .val (.int p4), .val (.int v4_1), .val (.int v5_2), .val (.int v6_3), .val (.int v7_4), .val (.int m6), .unset, .unset, .unset, .unset, .unset] [(.int m6), (.int v4_1), (.int v6_3), (.int v5_2), (.int (12 : Int32)), (.int (12 : Int32)), (.ref b7), (.ref b7)]))
  refine own_callS X44 hx hZ hown (hw _ (List.mem_of_getElem? (i := 4) rfl)) (hw _ (List.mem_of_getElem? (i := 5) rfl)) (hw _ (List.mem_of_getElem? (i := 6) rfl)) (hw _ (List.mem_of_getElem? (i := 7) rfl)) (by decide) (rm1 l Z a0 hw [] (12 : Int32) v5_2 v6_3 v4_1 m6 12 F L V h44 n0 Z44 (by decide) hF hL hV (by decide) hF3 hL10) e44 (by rw [hml]; rfl) [(.int (12 : Int32)), (.int v5_2), (.int v6_3), (.int v4_1), (.int m6)] [(.int (12 : Int32)), (.ref b7), (.ref b7)] rfl (lenOf own_pd0 rfl) rfl 3 (Nat.le_of_eq rfl) (by decide) (by decide) (Nat.le_of_ble_eq_true rfl) (Nat.le_of_ble_eq_true rfl) (hb hby at_269) ?_
  intro T45 Lc45 v45 X45 hQ45
  obtain ⟨h45, e45⟩ : ∃ h, T45.heap = h := ⟨_, rfl⟩
  rw [e45] at hQ45
  obtain ⟨z45, rfl, N45q, K45, hz12⟩ := hQ45
  have N45 := Fr.app N44 N45q
  have f46 := A44.keep K45 nin0
  have Z45 := Nat.le_trans Z44 K45.1
  show own_Go _ _ _ _ (T45.setTop (mkF m 272 #[.val (.int p1), .val (.int p2), .val (.int p3), .val (.int p4), .val (.int v4_1), .val (.int v5_2), .val (.int v6_3), .val (.int v7_4), .val (.int m6), .unset, .unset, .unset, .unset, .unset] [(.int z45), (.int (12 : Int32)), (.ref b7), (.ref b7)]))
  refine own_bas X45 hx hZ e45 f46 12 (by decide) (by decide) (hb hby at_272) ?_
  intro T47 h47 X47 e47 W47 A47
  have N47 := Fr.snoc X47 N45 ge7
  have Z47 := own_size_wr W47 Z45
  obtain ⟨fn47, hfn47⟩ : ∃ g : Nat → Int32, g = own_upd fn44 12 (nar .byte z45) := ⟨_, rfl⟩
  rw [← hfn47] at A47
  show own_Go _ _ _ _ (T47.setTop (mkF m 273 #[.val (.int p1), .val (.int p2), .val (.int p3), .val (.int p4), .val (.int v4_1), .val (.int v5_2), .val (.int v6_3), .val (.int v7_4), .val (.int m6), .unset, .unset, .unset, .unset, .unset] [(.ref b7)]))
  refine own_by (fun _ k => XS.dup X47.here hx rfl (hb hby at_273) rfl rfl k) ?_
  show own_Go _ _ _ _ (T47.setTop (mkF m 274 #[.val (.int p1), .val (.int p2), .val (.int p3), .val (.int p4), .val (.int v4_1), .val (.int v5_2), .val (.int v6_3), .val (.int v7_4), .val (.int m6), .unset, .unset, .unset, .unset, .unset] [(.ref b7), (.ref b7)]))
  refine own_by (fun _ k => XS.bipush X47.here hx rfl (hb hby at_274) k) ?_
  show own_Go _ _ _ _ (T47.setTop (mkF m 276 #[.val (.int p1), .val (.int p2), .val (.int p3), .val (.int p4), .val (.int v4_1), .val (.int v5_2), .val (.int v6_3), .val (.int v7_4), .val (.int m6), .unset, .unset, .unset, .unset, .unset] [(.int (13 : Int32)), (.ref b7), (.ref b7)]))
  refine own_by (fun _ k => XS.bipush X47.here hx rfl (hb hby at_276) k) ?_
  show own_Go _ _ _ _ (T47.setTop (mkF m 278 #[.val (.int p1), .val (.int p2), .val (.int p3), .val (.int p4), .val (.int v4_1), .val (.int v5_2), .val (.int v6_3), .val (.int v7_4), .val (.int m6), .unset, .unset, .unset, .unset, .unset] [(.int (13 : Int32)), (.int (13 : Int32)), (.ref b7), (.ref b7)]))
  refine own_by (fun _ k => XS.iload X47.here hx rfl (hb hby at_278) rfl k) ?_
  show own_Go _ _ _ _ (T47.setTop (mkF m 280 #[.val (.int p1), .val (.int p2), .val (.int p3), .val (.int p4), .val (.int v4_1), .val (.int v5_2), .val (.int v6_3), .val (.int v7_4), .val (.int m6), .unset, .unset, .unset, .unset, .unset] [(.int v5_2), (.int (13 : Int32)), (.int (13 : Int32)), (.ref b7), (.ref b7)]))
  refine own_by (fun _ k => XS.iload X47.here hx rfl (hb hby at_280) rfl k) ?_
  show own_Go _ _ _ _ (T47.setTop (mkF m 282 #[.val (.int p1), .val (.int p2), .val (.int p3), .val (.int p4), .val (.int v4_1), .val (.int v5_2), .val (.int v6_3), .val (.int v7_4), .val (.int m6), .unset, .unset, .unset, .unset, .unset] [(.int v6_3), (.int v5_2), (.int (13 : Int32)), (.int (13 : Int32)), (.ref b7), (.ref b7)]))
  refine own_by (fun _ k => XS.iload X47.here hx rfl (hb hby at_282) rfl k) ?_
  show own_Go _ _ _ _ (T47.setTop (mkF m 284 #[.val (.int p1), .val (.int p2), .val (.int p3), .val (.int p4), .val (.int v4_1), .val (.int v5_2), .val (.int v6_3), .val (.int v7_4), .val (.int m6), .unset, .unset, .unset, .unset, .unset] [(.int v4_1), (.int v6_3), (.int v5_2), (.int (13 : Int32)), (.int (13 : Int32)), (.ref b7), (.ref b7)]))
  refine own_by (fun _ k => XS.iload X47.here hx rfl (hb hby at_284) rfl k) ?_
  show own_Go _ _ _ _ (T47.setTop (mkF m 286 #[.val (.int p1), .val (.int p2), .val (.int p3), .val (.int p4), .val (.int v4_1), .val (.int v5_2), .val (.int v6_3), .val (.int v7_4), .val (.int m6), .unset, .unset, .unset, .unset, .unset] [(.int m6), (.int v4_1), (.int v6_3), (.int v5_2), (.int (13 : Int32)), (.int (13 : Int32)), (.ref b7), (.ref b7)]))
  refine own_callS X47 hx hZ hown (hw _ (List.mem_of_getElem? (i := 4) rfl)) (hw _ (List.mem_of_getElem? (i := 5) rfl)) (hw _ (List.mem_of_getElem? (i := 6) rfl)) (hw _ (List.mem_of_getElem? (i := 7) rfl)) (by decide) (rm1 l Z a0 hw [] (13 : Int32) v5_2 v6_3 v4_1 m6 13 F L V h47 n0 Z47 (by decide) hF hL hV (by decide) hF3 hL10) e47 (by rw [hml]; rfl) [(.int (13 : Int32)), (.int v5_2), (.int v6_3), (.int v4_1), (.int m6)] [(.int (13 : Int32)), (.ref b7), (.ref b7)] rfl (lenOf own_pd0 rfl) rfl 3 (Nat.le_of_eq rfl) (by decide) (by decide) (Nat.le_of_ble_eq_true rfl) (Nat.le_of_ble_eq_true rfl) (hb hby at_286) ?_
  intro T48 Lc48 v48 X48 hQ48
  obtain ⟨h48, e48⟩ : ∃ h, T48.heap = h := ⟨_, rfl⟩
  rw [e48] at hQ48
  obtain ⟨z48, rfl, N48q, K48, hz13⟩ := hQ48
  have N48 := Fr.app N47 N48q
  have f49 := A47.keep K48 nin0
  have Z48 := Nat.le_trans Z47 K48.1
  show own_Go _ _ _ _ (T48.setTop (mkF m 289 #[.val (.int p1), .val (.int p2), .val (.int p3), .val (.int p4), .val (.int v4_1), .val (.int v5_2), .val (.int v6_3), .val (.int v7_4), .val (.int m6), .unset, .unset, .unset, .unset, .unset] [(.int z48), (.int (13 : Int32)), (.ref b7), (.ref b7)]))
  refine own_bas X48 hx hZ e48 f49 13 (by decide) (by decide) (hb hby at_289) ?_
  intro T50 h50 X50 e50 W50 A50
  have N50 := Fr.snoc X50 N48 ge7
  have Z50 := own_size_wr W50 Z48
  obtain ⟨fn50, hfn50⟩ : ∃ g : Nat → Int32, g = own_upd fn47 13 (nar .byte z48) := ⟨_, rfl⟩
  rw [← hfn50] at A50
  show own_Go _ _ _ _ (T50.setTop (mkF m 290 #[.val (.int p1), .val (.int p2), .val (.int p3), .val (.int p4), .val (.int v4_1), .val (.int v5_2), .val (.int v6_3), .val (.int v7_4), .val (.int m6), .unset, .unset, .unset, .unset, .unset] [(.ref b7)]))
  refine own_by (fun _ k => XS.dup X50.here hx rfl (hb hby at_290) rfl rfl k) ?_
  show own_Go _ _ _ _ (T50.setTop (mkF m 291 #[.val (.int p1), .val (.int p2), .val (.int p3), .val (.int p4), .val (.int v4_1), .val (.int v5_2), .val (.int v6_3), .val (.int v7_4), .val (.int m6), .unset, .unset, .unset, .unset, .unset] [(.ref b7), (.ref b7)]))
  refine own_by (fun _ k => XS.bipush X50.here hx rfl (hb hby at_291) k) ?_
  show own_Go _ _ _ _ (T50.setTop (mkF m 293 #[.val (.int p1), .val (.int p2), .val (.int p3), .val (.int p4), .val (.int v4_1), .val (.int v5_2), .val (.int v6_3), .val (.int v7_4), .val (.int m6), .unset, .unset, .unset, .unset, .unset] [(.int (14 : Int32)), (.ref b7), (.ref b7)]))
  refine own_by (fun _ k => XS.bipush X50.here hx rfl (hb hby at_293) k) ?_
  show own_Go _ _ _ _ (T50.setTop (mkF m 295 #[.val (.int p1), .val (.int p2), .val (.int p3), .val (.int p4), .val (.int v4_1), .val (.int v5_2), .val (.int v6_3), .val (.int v7_4), .val (.int m6), .unset, .unset, .unset, .unset, .unset] [(.int (14 : Int32)), (.int (14 : Int32)), (.ref b7), (.ref b7)]))
  refine own_by (fun _ k => XS.iload X50.here hx rfl (hb hby at_295) rfl k) ?_
  show own_Go _ _ _ _ (T50.setTop (mkF m 297 #[.val (.int p1), .val (.int p2), .val (.int p3), .val (.int p4), .val (.int v4_1), .val (.int v5_2), .val (.int v6_3), .val (.int v7_4), .val (.int m6), .unset, .unset, .unset, .unset, .unset] [(.int v5_2), (.int (14 : Int32)), (.int (14 : Int32)), (.ref b7), (.ref b7)]))
  refine own_by (fun _ k => XS.iload X50.here hx rfl (hb hby at_297) rfl k) ?_
  show own_Go _ _ _ _ (T50.setTop (mkF m 299 #[.val (.int p1), .val (.int p2), .val (.int p3), .val (.int p4), .val (.int v4_1), .val (.int v5_2), .val (.int v6_3), .val (.int v7_4), .val (.int m6), .unset, .unset, .unset, .unset, .unset] [(.int v6_3), (.int v5_2), (.int (14 : Int32)), (.int (14 : Int32)), (.ref b7), (.ref b7)]))
  refine own_by (fun _ k => XS.iload X50.here hx rfl (hb hby at_299) rfl k) ?_
  show own_Go _ _ _ _ (T50.setTop (mkF m 301 #[.val (.int p1), .val (.int p2), .val (.int p3), .val (.int p4), .val (.int v4_1), .val (.int v5_2), .val (.int v6_3), .val (.int v7_4), .val (.int m6), .unset, .unset, .unset, .unset, .unset] [(.int v4_1), (.int v6_3), (.int v5_2), (.int (14 : Int32)), (.int (14 : Int32)), (.ref b7), (.ref b7)]))
  refine own_by (fun _ k => XS.iload X50.here hx rfl (hb hby at_301) rfl k) ?_
  show own_Go _ _ _ _ (T50.setTop (mkF m 303 #[.val (.int p1), .val (.int p2), .val (.int p3), .val (.int p4), .val (.int v4_1), .val (.int v5_2), .val (.int v6_3), .val (.int v7_4), .val (.int m6), .unset, .unset, .unset, .unset, .unset] [(.int m6), (.int v4_1), (.int v6_3), (.int v5_2), (.int (14 : Int32)), (.int (14 : Int32)), (.ref b7), (.ref b7)]))
  refine own_callS X50 hx hZ hown (hw _ (List.mem_of_getElem? (i := 4) rfl)) (hw _ (List.mem_of_getElem? (i := 5) rfl)) (hw _ (List.mem_of_getElem? (i := 6) rfl)) (hw _ (List.mem_of_getElem? (i := 7) rfl)) (by decide) (rm1 l Z a0 hw [] (14 : Int32) v5_2 v6_3 v4_1 m6 14 F L V h50 n0 Z50 (by decide) hF hL hV (by decide) hF3 hL10) e50 (by rw [hml]; rfl) [(.int (14 : Int32)), (.int v5_2), (.int v6_3), (.int v4_1), (.int m6)] [(.int (14 : Int32)), (.ref b7), (.ref b7)] rfl (lenOf own_pd0 rfl) rfl 3 (Nat.le_of_eq rfl) (by decide) (by decide) (Nat.le_of_ble_eq_true rfl) (Nat.le_of_ble_eq_true rfl) (hb hby at_303) ?_
  intro T51 Lc51 v51 X51 hQ51
  obtain ⟨h51, e51⟩ : ∃ h, T51.heap = h := ⟨_, rfl⟩
  rw [e51] at hQ51
  obtain ⟨z51, rfl, N51q, K51, hz14⟩ := hQ51
  have N51 := Fr.app N50 N51q
  have f52 := A50.keep K51 nin0
  have Z51 := Nat.le_trans Z50 K51.1
  show own_Go _ _ _ _ (T51.setTop (mkF m 306 #[.val (.int p1), .val (.int p2), .val (.int p3), .val (.int p4), .val (.int v4_1), .val (.int v5_2), .val (.int v6_3), .val (.int v7_4), .val (.int m6), .unset, .unset, .unset, .unset, .unset] [(.int z51), (.int (14 : Int32)), (.ref b7), (.ref b7)]))
  refine own_bas X51 hx hZ e51 f52 14 (by decide) (by decide) (hb hby at_306) ?_
  intro T53 h53 X53 e53 W53 A53
  have N53 := Fr.snoc X53 N51 ge7
  have Z53 := own_size_wr W53 Z51
  obtain ⟨fn53, hfn53⟩ : ∃ g : Nat → Int32, g = own_upd fn50 14 (nar .byte z51) := ⟨_, rfl⟩
  rw [← hfn53] at A53
  show own_Go _ _ _ _ (T53.setTop (mkF m 307 #[.val (.int p1), .val (.int p2), .val (.int p3), .val (.int p4), .val (.int v4_1), .val (.int v5_2), .val (.int v6_3), .val (.int v7_4), .val (.int m6), .unset, .unset, .unset, .unset, .unset] [(.ref b7)]))
  refine own_by (fun _ k => XS.dup X53.here hx rfl (hb hby at_307) rfl rfl k) ?_
  show own_Go _ _ _ _ (T53.setTop (mkF m 308 #[.val (.int p1), .val (.int p2), .val (.int p3), .val (.int p4), .val (.int v4_1), .val (.int v5_2), .val (.int v6_3), .val (.int v7_4), .val (.int m6), .unset, .unset, .unset, .unset, .unset] [(.ref b7), (.ref b7)]))
  refine own_by (fun _ k => XS.bipush X53.here hx rfl (hb hby at_308) k) ?_
  show own_Go _ _ _ _ (T53.setTop (mkF m 310 #[.val (.int p1), .val (.int p2), .val (.int p3), .val (.int p4), .val (.int v4_1), .val (.int v5_2), .val (.int v6_3), .val (.int v7_4), .val (.int m6), .unset, .unset, .unset, .unset, .unset] [(.int (15 : Int32)), (.ref b7), (.ref b7)]))
  refine own_by (fun _ k => XS.bipush X53.here hx rfl (hb hby at_310) k) ?_
  show own_Go _ _ _ _ (T53.setTop (mkF m 312 #[.val (.int p1), .val (.int p2), .val (.int p3), .val (.int p4), .val (.int v4_1), .val (.int v5_2), .val (.int v6_3), .val (.int v7_4), .val (.int m6), .unset, .unset, .unset, .unset, .unset] [(.int (15 : Int32)), (.int (15 : Int32)), (.ref b7), (.ref b7)]))
  refine own_by (fun _ k => XS.iload X53.here hx rfl (hb hby at_312) rfl k) ?_
  show own_Go _ _ _ _ (T53.setTop (mkF m 314 #[.val (.int p1), .val (.int p2), .val (.int p3), .val (.int p4), .val (.int v4_1), .val (.int v5_2), .val (.int v6_3), .val (.int v7_4), .val (.int m6), .unset, .unset, .unset, .unset, .unset] [(.int v5_2), (.int (15 : Int32)), (.int (15 : Int32)), (.ref b7), (.ref b7)]))
  refine own_by (fun _ k => XS.iload X53.here hx rfl (hb hby at_314) rfl k) ?_
  show own_Go _ _ _ _ (T53.setTop (mkF m 316 #[.val (.int p1), .val (.int p2), .val (.int p3), .val (.int p4), .val (.int v4_1), .val (.int v5_2), .val (.int v6_3), .val (.int v7_4), .val (.int m6), .unset, .unset, .unset, .unset, .unset] [(.int v6_3), (.int v5_2), (.int (15 : Int32)), (.int (15 : Int32)), (.ref b7), (.ref b7)]))
  refine own_by (fun _ k => XS.iload X53.here hx rfl (hb hby at_316) rfl k) ?_
  show own_Go _ _ _ _ (T53.setTop (mkF m 318 #[.val (.int p1), .val (.int p2), .val (.int p3), .val (.int p4), .val (.int v4_1), .val (.int v5_2), .val (.int v6_3), .val (.int v7_4), .val (.int m6), .unset, .unset, .unset, .unset, .unset] [(.int v4_1), (.int v6_3), (.int v5_2), (.int (15 : Int32)), (.int (15 : Int32)), (.ref b7), (.ref b7)]))
  refine own_by (fun _ k => XS.iload X53.here hx rfl (hb hby at_318) rfl k) ?_
  show own_Go _ _ _ _ (T53.setTop (mkF m 320 #[.val (.int p1), .val (.int p2), .val (.int p3), .val (.int p4), .val (.int v4_1), .val (.int v5_2), .val (.int v6_3), .val (.int v7_4), .val (.int m6), .unset, .unset, .unset, .unset, .unset] [(.int m6), (.int v4_1), (.int v6_3), (.int v5_2), (.int (15 : Int32)), (.int (15 : Int32)), (.ref b7), (.ref b7)]))
  refine own_callS X53 hx hZ hown (hw _ (List.mem_of_getElem? (i := 4) rfl)) (hw _ (List.mem_of_getElem? (i := 5) rfl)) (hw _ (List.mem_of_getElem? (i := 6) rfl)) (hw _ (List.mem_of_getElem? (i := 7) rfl)) (by decide) (rm1 l Z a0 hw [] (15 : Int32) v5_2 v6_3 v4_1 m6 15 F L V h53 n0 Z53 (by decide) hF hL hV (by decide) hF3 hL10) e53 (by rw [hml]; rfl) [(.int (15 : Int32)), (.int v5_2), (.int v6_3), (.int v4_1), (.int m6)] [(.int (15 : Int32)), (.ref b7), (.ref b7)] rfl (lenOf own_pd0 rfl) rfl 3 (Nat.le_of_eq rfl) (by decide) (by decide) (Nat.le_of_ble_eq_true rfl) (Nat.le_of_ble_eq_true rfl) (hb hby at_320) ?_
  intro T54 Lc54 v54 X54 hQ54
  obtain ⟨h54, e54⟩ : ∃ h, T54.heap = h := ⟨_, rfl⟩
  rw [e54] at hQ54
  obtain ⟨z54, rfl, N54q, K54, hz15⟩ := hQ54
  have N54 := Fr.app N53 N54q
  have f55 := A53.keep K54 nin0
  have Z54 := Nat.le_trans Z53 K54.1
  show own_Go _ _ _ _ (T54.setTop (mkF m 323 #[.val (.int p1), .val (.int p2), .val (.int p3), .val (.int p4), .val (.int v4_1), .val (.int v5_2), .val (.int v6_3), .val (.int v7_4), .val (.int m6), .unset, .unset, .unset, .unset, .unset] [(.int z54), (.int (15 : Int32)), (.ref b7), (.ref b7)]))
  refine own_bas X54 hx hZ e54 f55 15 (by decide) (by decide) (hb hby at_323) ?_
  intro T56 h56 X56 e56 W56 A56
  have N56 := Fr.snoc X56 N54 ge7
  have Z56 := own_size_wr W56 Z54
  obtain ⟨fn56, hfn56⟩ : ∃ g : Nat → Int32, g = own_upd fn53 15 (nar .byte z54) := ⟨_, rfl⟩
  rw [← hfn56] at A56
  show own_Go _ _ _ _ (T56.setTop (mkF m 324 #[.val (.int p1), .val (.int p2), .val (.int p3), .val (.int p4), .val (.int v4_1), .val (.int v5_2), .val (.int v6_3), .val (.int v7_4), .val (.int m6), .unset, .unset, .unset, .unset, .unset] [(.ref b7)]))
  refine own_by (fun _ k => XS.astore X56.here hx rfl (hb hby at_324) rfl rfl (l' := #[.val (.int p1), .val (.int p2), .val (.int p3), .val (.int p4), .val (.int v4_1), .val (.int v5_2), .val (.int v6_3), .val (.int v7_4), .val (.int m6), .val (.ref b7), .unset, .unset, .unset, .unset]) rfl k) ?_
  obtain ⟨ff0, hff0⟩ : ∃ g, g = fn56 := ⟨_, rfl⟩
  rw [← hff0] at A56
  have hf0 : ∀ j, j < L → (ff0 (F + j)).toInt = ((48 + (V / 10 ^ (L - 1 - j)) % 10 : Nat) : Int) := by
    intro j hj
    obtain ⟨K, hKK⟩ : ∃ K, F + j = K := ⟨_, rfl⟩
    rw [hKK, show j = K - F by omega]
    have hKK' : K = 0 ∨ K = 1 ∨ K = 2 ∨ K = 3 ∨ K = 4 ∨ K = 5 ∨ K = 6 ∨ K = 7 ∨ K = 8 ∨ K = 9 ∨ K = 10 ∨ K = 11 ∨ K = 12 := by omega
    rcases hKK' with q | q | q | q | q | q | q | q | q | q | q | q | q
    · subst q; have q := hz0 (by omega) (by omega); rw [← q, show ff0 0 = nar .byte z9 from by rw [hff0]; simp [own_upd, hfn56, hfn53, hfn50, hfn47, hfn44, hfn41, hfn38, hfn35, hfn32, hfn29, hfn26, hfn23, hfn20, hfn17, hfn14, hfn11]]; rw [own_narb _ (by omega) (by omega)]
    · subst q; have q := hz1 (by omega) (by omega); rw [← q, show ff0 1 = nar .byte z12 from by rw [hff0]; simp [own_upd, hfn56, hfn53, hfn50, hfn47, hfn44, hfn41, hfn38, hfn35, hfn32, hfn29, hfn26, hfn23, hfn20, hfn17, hfn14, hfn11]]; rw [own_narb _ (by omega) (by omega)]
    · subst q; have q := hz2 (by omega) (by omega); rw [← q, show ff0 2 = nar .byte z15 from by rw [hff0]; simp [own_upd, hfn56, hfn53, hfn50, hfn47, hfn44, hfn41, hfn38, hfn35, hfn32, hfn29, hfn26, hfn23, hfn20, hfn17, hfn14, hfn11]]; rw [own_narb _ (by omega) (by omega)]
    · subst q; have q := hz3 (by omega) (by omega); rw [← q, show ff0 3 = nar .byte z18 from by rw [hff0]; simp [own_upd, hfn56, hfn53, hfn50, hfn47, hfn44, hfn41, hfn38, hfn35, hfn32, hfn29, hfn26, hfn23, hfn20, hfn17, hfn14, hfn11]]; rw [own_narb _ (by omega) (by omega)]
    · subst q; have q := hz4 (by omega) (by omega); rw [← q, show ff0 4 = nar .byte z21 from by rw [hff0]; simp [own_upd, hfn56, hfn53, hfn50, hfn47, hfn44, hfn41, hfn38, hfn35, hfn32, hfn29, hfn26, hfn23, hfn20, hfn17, hfn14, hfn11]]; rw [own_narb _ (by omega) (by omega)]
    · subst q; have q := hz5 (by omega) (by omega); rw [← q, show ff0 5 = nar .byte z24 from by rw [hff0]; simp [own_upd, hfn56, hfn53, hfn50, hfn47, hfn44, hfn41, hfn38, hfn35, hfn32, hfn29, hfn26, hfn23, hfn20, hfn17, hfn14, hfn11]]; rw [own_narb _ (by omega) (by omega)]
    · subst q; have q := hz6 (by omega) (by omega); rw [← q, show ff0 6 = nar .byte z27 from by rw [hff0]; simp [own_upd, hfn56, hfn53, hfn50, hfn47, hfn44, hfn41, hfn38, hfn35, hfn32, hfn29, hfn26, hfn23, hfn20, hfn17, hfn14, hfn11]]; rw [own_narb _ (by omega) (by omega)]
    · subst q; have q := hz7 (by omega) (by omega); rw [← q, show ff0 7 = nar .byte z30 from by rw [hff0]; simp [own_upd, hfn56, hfn53, hfn50, hfn47, hfn44, hfn41, hfn38, hfn35, hfn32, hfn29, hfn26, hfn23, hfn20, hfn17, hfn14, hfn11]]; rw [own_narb _ (by omega) (by omega)]
    · subst q; have q := hz8 (by omega) (by omega); rw [← q, show ff0 8 = nar .byte z33 from by rw [hff0]; simp [own_upd, hfn56, hfn53, hfn50, hfn47, hfn44, hfn41, hfn38, hfn35, hfn32, hfn29, hfn26, hfn23, hfn20, hfn17, hfn14, hfn11]]; rw [own_narb _ (by omega) (by omega)]
    · subst q; have q := hz9 (by omega) (by omega); rw [← q, show ff0 9 = nar .byte z36 from by rw [hff0]; simp [own_upd, hfn56, hfn53, hfn50, hfn47, hfn44, hfn41, hfn38, hfn35, hfn32, hfn29, hfn26, hfn23, hfn20, hfn17, hfn14, hfn11]]; rw [own_narb _ (by omega) (by omega)]
    · subst q; have q := hz10 (by omega) (by omega); rw [← q, show ff0 10 = nar .byte z39 from by rw [hff0]; simp [own_upd, hfn56, hfn53, hfn50, hfn47, hfn44, hfn41, hfn38, hfn35, hfn32, hfn29, hfn26, hfn23, hfn20, hfn17, hfn14, hfn11]]; rw [own_narb _ (by omega) (by omega)]
    · subst q; have q := hz11 (by omega) (by omega); rw [← q, show ff0 11 = nar .byte z42 from by rw [hff0]; simp [own_upd, hfn56, hfn53, hfn50, hfn47, hfn44, hfn41, hfn38, hfn35, hfn32, hfn29, hfn26, hfn23, hfn20, hfn17, hfn14, hfn11]]; rw [own_narb _ (by omega) (by omega)]
    · subst q; have q := hz12 (by omega) (by omega); rw [← q, show ff0 12 = nar .byte z45 from by rw [hff0]; simp [own_upd, hfn56, hfn53, hfn50, hfn47, hfn44, hfn41, hfn38, hfn35, hfn32, hfn29, hfn26, hfn23, hfn20, hfn17, hfn14, hfn11]]; rw [own_narb _ (by omega) (by omega)]
  show own_Go _ _ _ _ (T56.setTop (mkF m 326 #[.val (.int p1), .val (.int p2), .val (.int p3), .val (.int p4), .val (.int v4_1), .val (.int v5_2), .val (.int v6_3), .val (.int v7_4), .val (.int m6), .val (.ref b7), .unset, .unset, .unset, .unset] []))
  refine own_by (fun _ k => XS.iloadN X56.here hx rfl (hb hby at_326) rfl k) ?_
  show own_Go _ _ _ _ (T56.setTop (mkF m 327 #[.val (.int p1), .val (.int p2), .val (.int p3), .val (.int p4), .val (.int v4_1), .val (.int v5_2), .val (.int v6_3), .val (.int v7_4), .val (.int m6), .val (.ref b7), .unset, .unset, .unset, .unset] [(.int p3)]))
  refine own_by (fun _ k => XS.iconst X56.here hx rfl (hb hby at_327) k) ?_
  show own_Go _ _ _ _ (T56.setTop (mkF m 328 #[.val (.int p1), .val (.int p2), .val (.int p3), .val (.int p4), .val (.int v4_1), .val (.int v5_2), .val (.int v6_3), .val (.int v7_4), .val (.int m6), .val (.ref b7), .unset, .unset, .unset, .unset] [(.int (1 : Int32)), (.int p3)]))
  refine own_by (fun _ k => XS.iand X56.here hx rfl (hb hby at_328) rfl k) ?_
  show own_Go _ _ _ _ (T56.setTop (mkF m 329 #[.val (.int p1), .val (.int p2), .val (.int p3), .val (.int p4), .val (.int v4_1), .val (.int v5_2), .val (.int v6_3), .val (.int v7_4), .val (.int m6), .val (.ref b7), .unset, .unset, .unset, .unset] [(.int (p3 &&& (1 : Int32)))]))
  by_cases hc57 : (p3 &&& (1 : Int32)) = (0 : Int32)
  · --
    refine own_by (fun _ k => XS.ifYes X56.here hx rfl (pc0 := 329) (pc' := 336) rfl (hb hby at_329) rfl ((if0 _ _).trans (teq hc57).1) (by decide) (by decide) k) ?_
    show own_Go _ _ _ _ (T56.setTop (mkF m 336 #[.val (.int p1), .val (.int p2), .val (.int p3), .val (.int p4), .val (.int v4_1), .val (.int v5_2), .val (.int v6_3), .val (.int v7_4), .val (.int m6), .val (.ref b7), .unset, .unset, .unset, .unset] []))
    refine own_by (fun _ k => XS.iconst X56.here hx rfl (hb hby at_336) k) ?_
    show own_Go _ _ _ _ (T56.setTop (mkF m 337 #[.val (.int p1), .val (.int p2), .val (.int p3), .val (.int p4), .val (.int v4_1), .val (.int v5_2), .val (.int v6_3), .val (.int v7_4), .val (.int m6), .val (.ref b7), .unset, .unset, .unset, .unset] [(.int (0 : Int32))]))
    refine own_by (fun _ k => XS.istore X56.here hx rfl (hb hby at_337) rfl (l' := #[.val (.int p1), .val (.int p2), .val (.int p3), .val (.int p4), .val (.int v4_1), .val (.int v5_2), .val (.int v6_3), .val (.int v7_4), .val (.int m6), .val (.ref b7), .val (.int (0 : Int32)), .unset, .unset, .unset]) rfl k) ?_
    show own_Go _ _ _ _ (T56.setTop (mkF m 339 #[.val (.int p1), .val (.int p2), .val (.int p3), .val (.int p4), .val (.int v4_1), .val (.int v5_2), .val (.int v6_3), .val (.int v7_4), .val (.int m6), .val (.ref b7), .val (.int (0 : Int32)), .unset, .unset, .unset] []))
    refine own_by (fun _ k => XS.iloadN X56.here hx rfl (hb hby at_339) rfl k) ?_
    show own_Go _ _ _ _ (T56.setTop (mkF m 340 #[.val (.int p1), .val (.int p2), .val (.int p3), .val (.int p4), .val (.int v4_1), .val (.int v5_2), .val (.int v6_3), .val (.int v7_4), .val (.int m6), .val (.ref b7), .val (.int (0 : Int32)), .unset, .unset, .unset] [(.int p3)]))
    refine own_by (fun _ k => XS.iconst X56.here hx rfl (hb hby at_340) k) ?_
    show own_Go _ _ _ _ (T56.setTop (mkF m 341 #[.val (.int p1), .val (.int p2), .val (.int p3), .val (.int p4), .val (.int v4_1), .val (.int v5_2), .val (.int v6_3), .val (.int v7_4), .val (.int m6), .val (.ref b7), .val (.int (0 : Int32)), .unset, .unset, .unset] [(.int (1 : Int32)), (.int p3)]))
    refine own_by (fun _ k => XS.iushr X56.here hx rfl (hb hby at_341) rfl k) ?_
    show own_Go _ _ _ _ (T56.setTop (mkF m 342 #[.val (.int p1), .val (.int p2), .val (.int p3), .val (.int p4), .val (.int v4_1), .val (.int v5_2), .val (.int v6_3), .val (.int v7_4), .val (.int m6), .val (.ref b7), .val (.int (0 : Int32)), .unset, .unset, .unset] [(.int ((p3.toUInt32 >>> ((1 : Int32) &&& 31).toUInt32).toInt32))]))
    refine own_by (fun _ k => XS.bipush X56.here hx rfl (hb hby at_342) k) ?_
    show own_Go _ _ _ _ (T56.setTop (mkF m 344 #[.val (.int p1), .val (.int p2), .val (.int p3), .val (.int p4), .val (.int v4_1), .val (.int v5_2), .val (.int v6_3), .val (.int v7_4), .val (.int m6), .val (.ref b7), .val (.int (0 : Int32)), .unset, .unset, .unset] [(.int (15 : Int32)), (.int ((p3.toUInt32 >>> ((1 : Int32) &&& 31).toUInt32).toInt32))]))
    refine own_by (fun _ k => XS.iand X56.here hx rfl (hb hby at_344) rfl k) ?_
    show own_Go _ _ _ _ (T56.setTop (mkF m 345 #[.val (.int p1), .val (.int p2), .val (.int p3), .val (.int p4), .val (.int v4_1), .val (.int v5_2), .val (.int v6_3), .val (.int v7_4), .val (.int m6), .val (.ref b7), .val (.int (0 : Int32)), .unset, .unset, .unset] [(.int (((p3.toUInt32 >>> ((1 : Int32) &&& 31).toUInt32).toInt32) &&& (15 : Int32)))]))
    obtain ⟨v11_58, hv11_58⟩ : ∃ z_ : Int32, (((p3.toUInt32 >>> ((1 : Int32) &&& 31).toUInt32).toInt32) &&& (15 : Int32)) = z_ := ⟨_, rfl⟩
    refine own_gen hv11_58 (fun z_ => T56.setTop (mkF m 345 #[.val (.int p1), .val (.int p2), .val (.int p3), .val (.int p4), .val (.int v4_1), .val (.int v5_2), .val (.int v6_3), .val (.int v7_4), .val (.int m6), .val (.ref b7), .val (.int (0 : Int32)), .unset, .unset, .unset] [(.int z_)])) ?_
    refine own_by (fun _ k => XS.istore X56.here hx rfl (hb hby at_345) rfl (l' := #[.val (.int p1), .val (.int p2), .val (.int p3), .val (.int p4), .val (.int v4_1), .val (.int v5_2), .val (.int v6_3), .val (.int v7_4), .val (.int m6), .val (.ref b7), .val (.int (0 : Int32)), .val (.int v11_58), .unset, .unset]) rfl k) ?_
    obtain ⟨P, hP15, hP⟩ := own_p15 _ _ hv11_58
    show own_Go _ _ _ _ (T56.setTop (mkF m 347 #[.val (.int p1), .val (.int p2), .val (.int p3), .val (.int p4), .val (.int v4_1), .val (.int v5_2), .val (.int v6_3), .val (.int v7_4), .val (.int m6), .val (.ref b7), .val (.int (0 : Int32)), .val (.int v11_58), .unset, .unset] []))
    refine own_by (fun _ k => XS.iloadN X56.here hx rfl (hb hby at_347) rfl k) ?_
    show own_Go _ _ _ _ (T56.setTop (mkF m 348 #[.val (.int p1), .val (.int p2), .val (.int p3), .val (.int p4), .val (.int v4_1), .val (.int v5_2), .val (.int v6_3), .val (.int v7_4), .val (.int m6), .val (.ref b7), .val (.int (0 : Int32)), .val (.int v11_58), .unset, .unset] [(.int p3)]))
    refine own_by (fun _ k => XS.bipush X56.here hx rfl (hb hby at_348) k) ?_
    show own_Go _ _ _ _ (T56.setTop (mkF m 350 #[.val (.int p1), .val (.int p2), .val (.int p3), .val (.int p4), .val (.int v4_1), .val (.int v5_2), .val (.int v6_3), .val (.int v7_4), .val (.int m6), .val (.ref b7), .val (.int (0 : Int32)), .val (.int v11_58), .unset, .unset] [(.int (32 : Int32)), (.int p3)]))
    refine own_by (fun _ k => XS.iand X56.here hx rfl (hb hby at_350) rfl k) ?_
    refine own_by (V := T56.setTop (mkF m 376 #[.val (.int p1), .val (.int p2), .val (.int p3), .val (.int p4), .val (.int v4_1), .val (.int v5_2), .val (.int v6_3), .val (.int v7_4), .val (.int m6), .val (.ref b7), .val (.int (0 : Int32)), .val (.int v11_58), .unset, .unset] [(.int (if (p3 &&& (32 : Int32)) = (0 : Int32) then (((p3.toUInt32 >>> ((6 : Int32) &&& 31).toUInt32).toInt32).toInt8.toInt32) else (((48 : Int32) + ((((p3.toUInt32 >>> ((6 : Int32) &&& 31).toUInt32).toInt32) &&& (65535 : Int32)) % (10 : Int32))).toInt8.toInt32)))])) (fun _ kk => ?_) ?_
    · --
      show Steps _ _ _ (T56.setTop (mkF m 351 #[.val (.int p1), .val (.int p2), .val (.int p3), .val (.int p4), .val (.int v4_1), .val (.int v5_2), .val (.int v6_3), .val (.int v7_4), .val (.int m6), .val (.ref b7), .val (.int (0 : Int32)), .val (.int v11_58), .unset, .unset] [(.int (p3 &&& (32 : Int32)))])) _
      by_cases hc59 : (p3 &&& (32 : Int32)) = (0 : Int32)
      · --
        refine XS.ifYes X56.here hx rfl (pc0 := 351) (pc' := 371) rfl (hb hby at_351) rfl ((if0 _ _).trans (teq hc59).1) (by decide) (by decide) ?_
        show Steps _ _ _ (T56.setTop (mkF m 371 #[.val (.int p1), .val (.int p2), .val (.int p3), .val (.int p4), .val (.int v4_1), .val (.int v5_2), .val (.int v6_3), .val (.int v7_4), .val (.int m6), .val (.ref b7), .val (.int (0 : Int32)), .val (.int v11_58), .unset, .unset] [])) _
        refine XS.iloadN X56.here hx rfl (hb hby at_371) rfl ?_
        show Steps _ _ _ (T56.setTop (mkF m 372 #[.val (.int p1), .val (.int p2), .val (.int p3), .val (.int p4), .val (.int v4_1), .val (.int v5_2), .val (.int v6_3), .val (.int v7_4), .val (.int m6), .val (.ref b7), .val (.int (0 : Int32)), .val (.int v11_58), .unset, .unset] [(.int p3)])) _
        refine XS.bipush X56.here hx rfl (hb hby at_372) ?_
        show Steps _ _ _ (T56.setTop (mkF m 374 #[.val (.int p1), .val (.int p2), .val (.int p3), .val (.int p4), .val (.int v4_1), .val (.int v5_2), .val (.int v6_3), .val (.int v7_4), .val (.int m6), .val (.ref b7), .val (.int (0 : Int32)), .val (.int v11_58), .unset, .unset] [(.int (6 : Int32)), (.int p3)])) _
        refine XS.iushr X56.here hx rfl (hb hby at_374) rfl ?_
        show Steps _ _ _ (T56.setTop (mkF m 375 #[.val (.int p1), .val (.int p2), .val (.int p3), .val (.int p4), .val (.int v4_1), .val (.int v5_2), .val (.int v6_3), .val (.int v7_4), .val (.int m6), .val (.ref b7), .val (.int (0 : Int32)), .val (.int v11_58), .unset, .unset] [(.int ((p3.toUInt32 >>> ((6 : Int32) &&& 31).toUInt32).toInt32))])) _
        refine XS.i2b X56.here hx rfl (hb hby at_375) rfl ?_
        show Steps _ _ _ (T56.setTop (mkF m 376 #[.val (.int p1), .val (.int p2), .val (.int p3), .val (.int p4), .val (.int v4_1), .val (.int v5_2), .val (.int v6_3), .val (.int v7_4), .val (.int m6), .val (.ref b7), .val (.int (0 : Int32)), .val (.int v11_58), .unset, .unset] [(.int (((p3.toUInt32 >>> ((6 : Int32) &&& 31).toUInt32).toInt32).toInt8.toInt32))])) _
        try simp only [if_pos hc59] at kk
        exact kk
      · --
        refine XS.ifNo X56.here hx rfl (hb hby at_351) rfl ((if0 _ _).trans (feq hc59).1) ?_
        show Steps _ _ _ (T56.setTop (mkF m 354 #[.val (.int p1), .val (.int p2), .val (.int p3), .val (.int p4), .val (.int v4_1), .val (.int v5_2), .val (.int v6_3), .val (.int v7_4), .val (.int m6), .val (.ref b7), .val (.int (0 : Int32)), .val (.int v11_58), .unset, .unset] [])) _
        refine XS.bipush X56.here hx rfl (hb hby at_354) ?_
        show Steps _ _ _ (T56.setTop (mkF m 356 #[.val (.int p1), .val (.int p2), .val (.int p3), .val (.int p4), .val (.int v4_1), .val (.int v5_2), .val (.int v6_3), .val (.int v7_4), .val (.int m6), .val (.ref b7), .val (.int (0 : Int32)), .val (.int v11_58), .unset, .unset] [(.int (48 : Int32))])) _
        refine XS.iloadN X56.here hx rfl (hb hby at_356) rfl ?_
        show Steps _ _ _ (T56.setTop (mkF m 357 #[.val (.int p1), .val (.int p2), .val (.int p3), .val (.int p4), .val (.int v4_1), .val (.int v5_2), .val (.int v6_3), .val (.int v7_4), .val (.int m6), .val (.ref b7), .val (.int (0 : Int32)), .val (.int v11_58), .unset, .unset] [(.int p3), (.int (48 : Int32))])) _
        refine XS.bipush X56.here hx rfl (hb hby at_357) ?_
        show Steps _ _ _ (T56.setTop (mkF m 359 #[.val (.int p1), .val (.int p2), .val (.int p3), .val (.int p4), .val (.int v4_1), .val (.int v5_2), .val (.int v6_3), .val (.int v7_4), .val (.int m6), .val (.ref b7), .val (.int (0 : Int32)), .val (.int v11_58), .unset, .unset] [(.int (6 : Int32)), (.int p3), (.int (48 : Int32))])) _
        refine XS.iushr X56.here hx rfl (hb hby at_359) rfl ?_
        show Steps _ _ _ (T56.setTop (mkF m 360 #[.val (.int p1), .val (.int p2), .val (.int p3), .val (.int p4), .val (.int v4_1), .val (.int v5_2), .val (.int v6_3), .val (.int v7_4), .val (.int m6), .val (.ref b7), .val (.int (0 : Int32)), .val (.int v11_58), .unset, .unset] [(.int ((p3.toUInt32 >>> ((6 : Int32) &&& 31).toUInt32).toInt32)), (.int (48 : Int32))])) _
        refine X56.ldcInt hx hown (mvT hZ (hw _ (List.mem_of_getElem? (i := 2) rfl))) (g := (mkF m 360 #[.val (.int p1), .val (.int p2), .val (.int p3), .val (.int p4), .val (.int v4_1), .val (.int v5_2), .val (.int v6_3), .val (.int v7_4), .val (.int m6), .val (.ref b7), .val (.int (0 : Int32)), .val (.int v11_58), .unset, .unset] [(.int ((p3.toUInt32 >>> ((6 : Int32) &&& 31).toUInt32).toInt32)), (.int (48 : Int32))])) rfl (hb hby at_360) _ ?_
        show Steps _ _ _ (T56.setTop (mkF m 362 #[.val (.int p1), .val (.int p2), .val (.int p3), .val (.int p4), .val (.int v4_1), .val (.int v5_2), .val (.int v6_3), .val (.int v7_4), .val (.int m6), .val (.ref b7), .val (.int (0 : Int32)), .val (.int v11_58), .unset, .unset] [(.int (65535 : Int32)), (.int ((p3.toUInt32 >>> ((6 : Int32) &&& 31).toUInt32).toInt32)), (.int (48 : Int32))])) _
        refine XS.iand X56.here hx rfl (hb hby at_362) rfl ?_
        show Steps _ _ _ (T56.setTop (mkF m 363 #[.val (.int p1), .val (.int p2), .val (.int p3), .val (.int p4), .val (.int v4_1), .val (.int v5_2), .val (.int v6_3), .val (.int v7_4), .val (.int m6), .val (.ref b7), .val (.int (0 : Int32)), .val (.int v11_58), .unset, .unset] [(.int (((p3.toUInt32 >>> ((6 : Int32) &&& 31).toUInt32).toInt32) &&& (65535 : Int32))), (.int (48 : Int32))])) _
        refine XS.bipush X56.here hx rfl (hb hby at_363) ?_
        show Steps _ _ _ (T56.setTop (mkF m 365 #[.val (.int p1), .val (.int p2), .val (.int p3), .val (.int p4), .val (.int v4_1), .val (.int v5_2), .val (.int v6_3), .val (.int v7_4), .val (.int m6), .val (.ref b7), .val (.int (0 : Int32)), .val (.int v11_58), .unset, .unset] [(.int (10 : Int32)), (.int (((p3.toUInt32 >>> ((6 : Int32) &&& 31).toUInt32).toInt32) &&& (65535 : Int32))), (.int (48 : Int32))])) _
        refine iremM X56 hx rfl (hb hby at_365) rfl (by decide) ?_
        show Steps _ _ _ (T56.setTop (mkF m 366 #[.val (.int p1), .val (.int p2), .val (.int p3), .val (.int p4), .val (.int v4_1), .val (.int v5_2), .val (.int v6_3), .val (.int v7_4), .val (.int m6), .val (.ref b7), .val (.int (0 : Int32)), .val (.int v11_58), .unset, .unset] [(.int ((((p3.toUInt32 >>> ((6 : Int32) &&& 31).toUInt32).toInt32) &&& (65535 : Int32)) % (10 : Int32))), (.int (48 : Int32))])) _
        refine XS.iadd X56.here hx rfl (hb hby at_366) rfl ?_
        show Steps _ _ _ (T56.setTop (mkF m 367 #[.val (.int p1), .val (.int p2), .val (.int p3), .val (.int p4), .val (.int v4_1), .val (.int v5_2), .val (.int v6_3), .val (.int v7_4), .val (.int m6), .val (.ref b7), .val (.int (0 : Int32)), .val (.int v11_58), .unset, .unset] [(.int ((48 : Int32) + ((((p3.toUInt32 >>> ((6 : Int32) &&& 31).toUInt32).toInt32) &&& (65535 : Int32)) % (10 : Int32))))])) _
        refine XS.i2b X56.here hx rfl (hb hby at_367) rfl ?_
        show Steps _ _ _ (T56.setTop (mkF m 368 #[.val (.int p1), .val (.int p2), .val (.int p3), .val (.int p4), .val (.int v4_1), .val (.int v5_2), .val (.int v6_3), .val (.int v7_4), .val (.int m6), .val (.ref b7), .val (.int (0 : Int32)), .val (.int v11_58), .unset, .unset] [(.int (((48 : Int32) + ((((p3.toUInt32 >>> ((6 : Int32) &&& 31).toUInt32).toInt32) &&& (65535 : Int32)) % (10 : Int32))).toInt8.toInt32))])) _
        refine XS.goto X56.here hx rfl (pc0 := 368) (pc' := 376) rfl (hb hby at_368) (by decide) (by decide) ?_
        show Steps _ _ _ (T56.setTop (mkF m 376 #[.val (.int p1), .val (.int p2), .val (.int p3), .val (.int p4), .val (.int v4_1), .val (.int v5_2), .val (.int v6_3), .val (.int v7_4), .val (.int m6), .val (.ref b7), .val (.int (0 : Int32)), .val (.int v11_58), .unset, .unset] [(.int (((48 : Int32) + ((((p3.toUInt32 >>> ((6 : Int32) &&& 31).toUInt32).toInt32) &&& (65535 : Int32)) % (10 : Int32))).toInt8.toInt32))])) _
        try simp only [if_neg hc59] at kk
        exact kk
    obtain ⟨m60, hm60⟩ : ∃ z_ : Int32, (if (p3 &&& (32 : Int32)) = (0 : Int32) then (((p3.toUInt32 >>> ((6 : Int32) &&& 31).toUInt32).toInt32).toInt8.toInt32) else (((48 : Int32) + ((((p3.toUInt32 >>> ((6 : Int32) &&& 31).toUInt32).toInt32) &&& (65535 : Int32)) % (10 : Int32))).toInt8.toInt32)) = z_ := ⟨_, rfl⟩
    refine own_gen hm60 (fun z_ => T56.setTop (mkF m 376 #[.val (.int p1), .val (.int p2), .val (.int p3), .val (.int p4), .val (.int v4_1), .val (.int v5_2), .val (.int v6_3), .val (.int v7_4), .val (.int m6), .val (.ref b7), .val (.int (0 : Int32)), .val (.int v11_58), .unset, .unset] [(.int z_)])) ?_
    show own_Go _ _ _ _ (T56.setTop (mkF m 376 #[.val (.int p1), .val (.int p2), .val (.int p3), .val (.int p4), .val (.int v4_1), .val (.int v5_2), .val (.int v6_3), .val (.int v7_4), .val (.int m6), .val (.ref b7), .val (.int (0 : Int32)), .val (.int v11_58), .unset, .unset] [(.int m60)]))
    refine own_by (fun _ k => XS.istore X56.here hx rfl (hb hby at_376) rfl (l' := #[.val (.int p1), .val (.int p2), .val (.int p3), .val (.int p4), .val (.int v4_1), .val (.int v5_2), .val (.int v6_3), .val (.int v7_4), .val (.int m6), .val (.ref b7), .val (.int (0 : Int32)), .val (.int v11_58), .val (.int m60), .unset]) rfl k) ?_
    have hB := own_mb _ _ _ _ hm60
    show own_Go _ _ _ _ (T56.setTop (mkF m 378 #[.val (.int p1), .val (.int p2), .val (.int p3), .val (.int p4), .val (.int v4_1), .val (.int v5_2), .val (.int v6_3), .val (.int v7_4), .val (.int m6), .val (.ref b7), .val (.int (0 : Int32)), .val (.int v11_58), .val (.int m60), .unset] []))
    refine own_by (fun _ k => XS.iload X56.here hx rfl (hb hby at_378) rfl k) ?_
    show own_Go _ _ _ _ (T56.setTop (mkF m 380 #[.val (.int p1), .val (.int p2), .val (.int p3), .val (.int p4), .val (.int v4_1), .val (.int v5_2), .val (.int v6_3), .val (.int v7_4), .val (.int m6), .val (.ref b7), .val (.int (0 : Int32)), .val (.int v11_58), .val (.int m60), .unset] [(.int (0 : Int32))]))
    refine own_by (fun _ k => XS.ifYes X56.here hx rfl (pc0 := 380) (pc' := 390) rfl (hb hby at_380) rfl ((if0 _ _).trans (teq (by decide)).1) (by decide) (by decide) k) ?_
    show own_Go _ _ _ _ (T56.setTop (mkF m 390 #[.val (.int p1), .val (.int p2), .val (.int p3), .val (.int p4), .val (.int v4_1), .val (.int v5_2), .val (.int v6_3), .val (.int v7_4), .val (.int m6), .val (.ref b7), .val (.int (0 : Int32)), .val (.int v11_58), .val (.int m60), .unset] []))
    refine own_by (fun _ k => XS.iload X56.here hx rfl (hb hby at_390) rfl k) ?_
    show own_Go _ _ _ _ (T56.setTop (mkF m 392 #[.val (.int p1), .val (.int p2), .val (.int p3), .val (.int p4), .val (.int v4_1), .val (.int v5_2), .val (.int v6_3), .val (.int v7_4), .val (.int m6), .val (.ref b7), .val (.int (0 : Int32)), .val (.int v11_58), .val (.int m60), .unset] [(.int v4_1)]))
    refine own_by (fun _ k => XS.iload X56.here hx rfl (hb hby at_392) rfl k) ?_
    show own_Go _ _ _ _ (T56.setTop (mkF m 394 #[.val (.int p1), .val (.int p2), .val (.int p3), .val (.int p4), .val (.int v4_1), .val (.int v5_2), .val (.int v6_3), .val (.int v7_4), .val (.int m6), .val (.ref b7), .val (.int (0 : Int32)), .val (.int v11_58), .val (.int m60), .unset] [(.int v5_2), (.int v4_1)]))
    refine own_by (fun _ k => XS.iload X56.here hx rfl (hb hby at_394) rfl k) ?_
    show own_Go _ _ _ _ (T56.setTop (mkF m 396 #[.val (.int p1), .val (.int p2), .val (.int p3), .val (.int p4), .val (.int v4_1), .val (.int v5_2), .val (.int v6_3), .val (.int v7_4), .val (.int m6), .val (.ref b7), .val (.int (0 : Int32)), .val (.int v11_58), .val (.int m60), .unset] [(.int v6_3), (.int v5_2), (.int v4_1)]))
    refine own_by (fun _ k => XS.iload X56.here hx rfl (hb hby at_396) rfl k) ?_
    show own_Go _ _ _ _ (T56.setTop (mkF m 398 #[.val (.int p1), .val (.int p2), .val (.int p3), .val (.int p4), .val (.int v4_1), .val (.int v5_2), .val (.int v6_3), .val (.int v7_4), .val (.int m6), .val (.ref b7), .val (.int (0 : Int32)), .val (.int v11_58), .val (.int m60), .unset] [(.int (0 : Int32)), (.int v6_3), (.int v5_2), (.int v4_1)]))
    refine own_by (fun _ k => XS.iload X56.here hx rfl (hb hby at_398) rfl k) ?_
    show own_Go _ _ _ _ (T56.setTop (mkF m 400 #[.val (.int p1), .val (.int p2), .val (.int p3), .val (.int p4), .val (.int v4_1), .val (.int v5_2), .val (.int v6_3), .val (.int v7_4), .val (.int m6), .val (.ref b7), .val (.int (0 : Int32)), .val (.int v11_58), .val (.int m60), .unset] [(.int v11_58), (.int (0 : Int32)), (.int v6_3), (.int v5_2), (.int v4_1)]))
    refine own_by (fun _ k => XS.iload X56.here hx rfl (hb hby at_400) rfl k) ?_
    show own_Go _ _ _ _ (T56.setTop (mkF m 402 #[.val (.int p1), .val (.int p2), .val (.int p3), .val (.int p4), .val (.int v4_1), .val (.int v5_2), .val (.int v6_3), .val (.int v7_4), .val (.int m6), .val (.ref b7), .val (.int (0 : Int32)), .val (.int v11_58), .val (.int m60), .unset] [(.int m60), (.int v11_58), (.int (0 : Int32)), (.int v6_3), (.int v5_2), (.int v4_1)]))
    refine own_callS X56 hx hZ hown (hw _ (List.mem_of_getElem? (i := 8) rfl)) (hw _ (List.mem_of_getElem? (i := 9) rfl)) (hw _ (List.mem_of_getElem? (i := 6) rfl)) (hw _ (List.mem_of_getElem? (i := 10) rfl)) (by decide) (rm2 l Z a0 hw [] v4_1 v5_2 v6_3 (0 : Int32) v11_58 m60 V F L P h56 n0 Z56 hV hF hL hP hF3 hL10 hP15 hB) e56 (by rw [hml]; rfl) [(.int v4_1), (.int v5_2), (.int v6_3), (.int (0 : Int32)), (.int v11_58), (.int m60)] [] rfl (lenOf own_pd1 rfl) rfl 0 (Nat.le_of_eq rfl) (by decide) (by decide) (Nat.le_of_ble_eq_true rfl) (Nat.le_of_ble_eq_true rfl) (hb hby at_402) ?_
    intro T61 Lc61 v61 X61 hQ61
    obtain ⟨h61, e61⟩ : ∃ h, T61.heap = h := ⟨_, rfl⟩
    rw [e61] at hQ61
    obtain ⟨zx61, rfl, N61q, K61, hx61⟩ := hQ61
    have N61 := Fr.app N56 N61q
    have f62 := A56.keep K61 nin0
    have Z61 := Nat.le_trans Z56 K61.1
    show own_Go _ _ _ _ (T61.setTop (mkF m 405 #[.val (.int p1), .val (.int p2), .val (.int p3), .val (.int p4), .val (.int v4_1), .val (.int v5_2), .val (.int v6_3), .val (.int v7_4), .val (.int m6), .val (.ref b7), .val (.int (0 : Int32)), .val (.int v11_58), .val (.int m60), .unset] [(.int zx61)]))
    refine own_by (fun _ k => XS.istore X61.here hx rfl (hb hby at_405) rfl (l' := #[.val (.int p1), .val (.int p2), .val (.int p3), .val (.int p4), .val (.int v4_1), .val (.int v5_2), .val (.int v6_3), .val (.int v7_4), .val (.int m6), .val (.ref b7), .val (.int (0 : Int32)), .val (.int v11_58), .val (.int m60), .val (.int zx61)]) rfl k) ?_
    show own_Go _ _ _ _ (T61.setTop (mkF m 407 #[.val (.int p1), .val (.int p2), .val (.int p3), .val (.int p4), .val (.int v4_1), .val (.int v5_2), .val (.int v6_3), .val (.int v7_4), .val (.int m6), .val (.ref b7), .val (.int (0 : Int32)), .val (.int v11_58), .val (.int m60), .val (.int zx61)] []))
    refine own_by (fun _ k => XS.aload X61.here hx rfl (hb hby at_407) rfl rfl k) ?_
    show own_Go _ _ _ _ (T61.setTop (mkF m 409 #[.val (.int p1), .val (.int p2), .val (.int p3), .val (.int p4), .val (.int v4_1), .val (.int v5_2), .val (.int v6_3), .val (.int v7_4), .val (.int m6), .val (.ref b7), .val (.int (0 : Int32)), .val (.int v11_58), .val (.int m60), .val (.int zx61)] [(.ref b7)]))
    refine own_by (fun _ k => XS.iload X61.here hx rfl (hb hby at_409) rfl k) ?_
    show own_Go _ _ _ _ (T61.setTop (mkF m 411 #[.val (.int p1), .val (.int p2), .val (.int p3), .val (.int p4), .val (.int v4_1), .val (.int v5_2), .val (.int v6_3), .val (.int v7_4), .val (.int m6), .val (.ref b7), .val (.int (0 : Int32)), .val (.int v11_58), .val (.int m60), .val (.int zx61)] [(.int v5_2), (.ref b7)]))
    refine own_by (fun _ k => XS.iload X61.here hx rfl (hb hby at_411) rfl k) ?_
    show own_Go _ _ _ _ (T61.setTop (mkF m 413 #[.val (.int p1), .val (.int p2), .val (.int p3), .val (.int p4), .val (.int v4_1), .val (.int v5_2), .val (.int v6_3), .val (.int v7_4), .val (.int m6), .val (.ref b7), .val (.int (0 : Int32)), .val (.int v11_58), .val (.int m60), .val (.int zx61)] [(.int v7_4), (.int v5_2), (.ref b7)]))
    obtain ⟨ff, hff⟩ : ∃ g, g = ff0 := ⟨_, rfl⟩
    rw [← hff] at f62
    refine own_callS X61 hx hZ hown (hw _ (List.mem_of_getElem? (i := 11) rfl)) (hw _ (List.mem_of_getElem? (i := 12) rfl)) (hw _ (List.mem_of_getElem? (i := 13) rfl)) (hw _ (List.mem_of_getElem? (i := 14) rfl)) (by decide) (rm3 l Z a0 hw [] b7 v5_2 v7_4 ff F L h61 n0 Z61 f62 hF hto hF3 hL10) e61 (by rw [hml]; rfl) [(.ref b7), (.int v5_2), (.int v7_4)] [] rfl (lenOf own_pd2 rfl) rfl 0 (Nat.le_of_eq rfl) (by decide) (by decide) (Nat.le_of_ble_eq_true rfl) (Nat.le_of_ble_eq_true rfl) (hb hby at_413) ?_
    intro T63 Lc63 v63 X63 hQ63
    obtain ⟨rfl, N63q, e63⟩ := hQ63
    have N63 := Fr.app N61 N63q
    show own_Go _ _ _ _ (T63.setTop (mkF m 416 #[.val (.int p1), .val (.int p2), .val (.int p3), .val (.int p4), .val (.int v4_1), .val (.int v5_2), .val (.int v6_3), .val (.int v7_4), .val (.int m6), .val (.ref b7), .val (.int (0 : Int32)), .val (.int v11_58), .val (.int m60), .val (.int zx61)] [(.int (own_dec ff F L))]))
    refine own_by (fun _ k => XS.iload X63.here hx rfl (hb hby at_416) rfl k) ?_
    show own_Go _ _ _ _ (T63.setTop (mkF m 418 #[.val (.int p1), .val (.int p2), .val (.int p3), .val (.int p4), .val (.int v4_1), .val (.int v5_2), .val (.int v6_3), .val (.int v7_4), .val (.int m6), .val (.ref b7), .val (.int (0 : Int32)), .val (.int v11_58), .val (.int m60), .val (.int zx61)] [(.int zx61), (.int (own_dec ff F L))]))
    refine own_by (fun _ k => XS.icmpNo X63.here hx rfl (hb hby at_418) rfl (teq (Int32.toInt_inj.mp ((own_agree0 ff V F L (0 : Int32) P _ hL10 (fun q => q.1 rfl) (by rw [hff]; exact hf0)).trans hx61.symm))).2 k) ?_
    show own_Go _ _ _ _ (T63.setTop (mkF m 421 #[.val (.int p1), .val (.int p2), .val (.int p3), .val (.int p4), .val (.int v4_1), .val (.int v5_2), .val (.int v6_3), .val (.int v7_4), .val (.int m6), .val (.ref b7), .val (.int (0 : Int32)), .val (.int v11_58), .val (.int m60), .val (.int zx61)] []))
    refine own_by (fun _ k => XS.iconst X63.here hx rfl (hb hby at_421) k) ?_
    show own_Go _ _ _ _ (T63.setTop (mkF m 422 #[.val (.int p1), .val (.int p2), .val (.int p3), .val (.int p4), .val (.int v4_1), .val (.int v5_2), .val (.int v6_3), .val (.int v7_4), .val (.int m6), .val (.ref b7), .val (.int (0 : Int32)), .val (.int v11_58), .val (.int m60), .val (.int zx61)] [(.int (1 : Int32))]))
    refine own_by (fun _ k => XS.goto X63.here hx rfl (pc0 := 422) (pc' := 426) rfl (hb hby at_422) (by decide) (by decide) k) ?_
    show own_Go _ _ _ _ (T63.setTop (mkF m 426 #[.val (.int p1), .val (.int p2), .val (.int p3), .val (.int p4), .val (.int v4_1), .val (.int v5_2), .val (.int v6_3), .val (.int v7_4), .val (.int m6), .val (.ref b7), .val (.int (0 : Int32)), .val (.int v11_58), .val (.int m60), .val (.int zx61)] [(.int (1 : Int32))]))
    exact own_retN X63 hx Bd.notSynchronized e63 Bd.returns (by simp) (hb hby at_426) (⟨rfl, N63⟩) (by decide) (by decide)
  · --
    refine own_by (fun _ k => XS.ifNo X56.here hx rfl (hb hby at_329) rfl ((if0 _ _).trans (feq hc57).1) k) ?_
    show own_Go _ _ _ _ (T56.setTop (mkF m 332 #[.val (.int p1), .val (.int p2), .val (.int p3), .val (.int p4), .val (.int v4_1), .val (.int v5_2), .val (.int v6_3), .val (.int v7_4), .val (.int m6), .val (.ref b7), .unset, .unset, .unset, .unset] []))
    refine own_by (fun _ k => XS.iconst X56.here hx rfl (hb hby at_332) k) ?_
    show own_Go _ _ _ _ (T56.setTop (mkF m 333 #[.val (.int p1), .val (.int p2), .val (.int p3), .val (.int p4), .val (.int v4_1), .val (.int v5_2), .val (.int v6_3), .val (.int v7_4), .val (.int m6), .val (.ref b7), .unset, .unset, .unset, .unset] [(.int (1 : Int32))]))
    refine own_by (fun _ k => XS.goto X56.here hx rfl (pc0 := 333) (pc' := 337) rfl (hb hby at_333) (by decide) (by decide) k) ?_
    show own_Go _ _ _ _ (T56.setTop (mkF m 337 #[.val (.int p1), .val (.int p2), .val (.int p3), .val (.int p4), .val (.int v4_1), .val (.int v5_2), .val (.int v6_3), .val (.int v7_4), .val (.int m6), .val (.ref b7), .unset, .unset, .unset, .unset] [(.int (1 : Int32))]))
    refine own_by (fun _ k => XS.istore X56.here hx rfl (hb hby at_337) rfl (l' := #[.val (.int p1), .val (.int p2), .val (.int p3), .val (.int p4), .val (.int v4_1), .val (.int v5_2), .val (.int v6_3), .val (.int v7_4), .val (.int m6), .val (.ref b7), .val (.int (1 : Int32)), .unset, .unset, .unset]) rfl k) ?_
    show own_Go _ _ _ _ (T56.setTop (mkF m 339 #[.val (.int p1), .val (.int p2), .val (.int p3), .val (.int p4), .val (.int v4_1), .val (.int v5_2), .val (.int v6_3), .val (.int v7_4), .val (.int m6), .val (.ref b7), .val (.int (1 : Int32)), .unset, .unset, .unset] []))
    refine own_by (fun _ k => XS.iloadN X56.here hx rfl (hb hby at_339) rfl k) ?_
    show own_Go _ _ _ _ (T56.setTop (mkF m 340 #[.val (.int p1), .val (.int p2), .val (.int p3), .val (.int p4), .val (.int v4_1), .val (.int v5_2), .val (.int v6_3), .val (.int v7_4), .val (.int m6), .val (.ref b7), .val (.int (1 : Int32)), .unset, .unset, .unset] [(.int p3)]))
    refine own_by (fun _ k => XS.iconst X56.here hx rfl (hb hby at_340) k) ?_
    show own_Go _ _ _ _ (T56.setTop (mkF m 341 #[.val (.int p1), .val (.int p2), .val (.int p3), .val (.int p4), .val (.int v4_1), .val (.int v5_2), .val (.int v6_3), .val (.int v7_4), .val (.int m6), .val (.ref b7), .val (.int (1 : Int32)), .unset, .unset, .unset] [(.int (1 : Int32)), (.int p3)]))
    refine own_by (fun _ k => XS.iushr X56.here hx rfl (hb hby at_341) rfl k) ?_
    show own_Go _ _ _ _ (T56.setTop (mkF m 342 #[.val (.int p1), .val (.int p2), .val (.int p3), .val (.int p4), .val (.int v4_1), .val (.int v5_2), .val (.int v6_3), .val (.int v7_4), .val (.int m6), .val (.ref b7), .val (.int (1 : Int32)), .unset, .unset, .unset] [(.int ((p3.toUInt32 >>> ((1 : Int32) &&& 31).toUInt32).toInt32))]))
    refine own_by (fun _ k => XS.bipush X56.here hx rfl (hb hby at_342) k) ?_
    show own_Go _ _ _ _ (T56.setTop (mkF m 344 #[.val (.int p1), .val (.int p2), .val (.int p3), .val (.int p4), .val (.int v4_1), .val (.int v5_2), .val (.int v6_3), .val (.int v7_4), .val (.int m6), .val (.ref b7), .val (.int (1 : Int32)), .unset, .unset, .unset] [(.int (15 : Int32)), (.int ((p3.toUInt32 >>> ((1 : Int32) &&& 31).toUInt32).toInt32))]))
    refine own_by (fun _ k => XS.iand X56.here hx rfl (hb hby at_344) rfl k) ?_
    show own_Go _ _ _ _ (T56.setTop (mkF m 345 #[.val (.int p1), .val (.int p2), .val (.int p3), .val (.int p4), .val (.int v4_1), .val (.int v5_2), .val (.int v6_3), .val (.int v7_4), .val (.int m6), .val (.ref b7), .val (.int (1 : Int32)), .unset, .unset, .unset] [(.int (((p3.toUInt32 >>> ((1 : Int32) &&& 31).toUInt32).toInt32) &&& (15 : Int32)))]))
    obtain ⟨v11_64, hv11_64⟩ : ∃ z_ : Int32, (((p3.toUInt32 >>> ((1 : Int32) &&& 31).toUInt32).toInt32) &&& (15 : Int32)) = z_ := ⟨_, rfl⟩
    refine own_gen hv11_64 (fun z_ => T56.setTop (mkF m 345 #[.val (.int p1), .val (.int p2), .val (.int p3), .val (.int p4), .val (.int v4_1), .val (.int v5_2), .val (.int v6_3), .val (.int v7_4), .val (.int m6), .val (.ref b7), .val (.int (1 : Int32)), .unset, .unset, .unset] [(.int z_)])) ?_
    refine own_by (fun _ k => XS.istore X56.here hx rfl (hb hby at_345) rfl (l' := #[.val (.int p1), .val (.int p2), .val (.int p3), .val (.int p4), .val (.int v4_1), .val (.int v5_2), .val (.int v6_3), .val (.int v7_4), .val (.int m6), .val (.ref b7), .val (.int (1 : Int32)), .val (.int v11_64), .unset, .unset]) rfl k) ?_
    obtain ⟨P, hP15, hP⟩ := own_p15 _ _ hv11_64
    show own_Go _ _ _ _ (T56.setTop (mkF m 347 #[.val (.int p1), .val (.int p2), .val (.int p3), .val (.int p4), .val (.int v4_1), .val (.int v5_2), .val (.int v6_3), .val (.int v7_4), .val (.int m6), .val (.ref b7), .val (.int (1 : Int32)), .val (.int v11_64), .unset, .unset] []))
    refine own_by (fun _ k => XS.iloadN X56.here hx rfl (hb hby at_347) rfl k) ?_
    show own_Go _ _ _ _ (T56.setTop (mkF m 348 #[.val (.int p1), .val (.int p2), .val (.int p3), .val (.int p4), .val (.int v4_1), .val (.int v5_2), .val (.int v6_3), .val (.int v7_4), .val (.int m6), .val (.ref b7), .val (.int (1 : Int32)), .val (.int v11_64), .unset, .unset] [(.int p3)]))
    refine own_by (fun _ k => XS.bipush X56.here hx rfl (hb hby at_348) k) ?_
    show own_Go _ _ _ _ (T56.setTop (mkF m 350 #[.val (.int p1), .val (.int p2), .val (.int p3), .val (.int p4), .val (.int v4_1), .val (.int v5_2), .val (.int v6_3), .val (.int v7_4), .val (.int m6), .val (.ref b7), .val (.int (1 : Int32)), .val (.int v11_64), .unset, .unset] [(.int (32 : Int32)), (.int p3)]))
    refine own_by (fun _ k => XS.iand X56.here hx rfl (hb hby at_350) rfl k) ?_
    refine own_by (V := T56.setTop (mkF m 376 #[.val (.int p1), .val (.int p2), .val (.int p3), .val (.int p4), .val (.int v4_1), .val (.int v5_2), .val (.int v6_3), .val (.int v7_4), .val (.int m6), .val (.ref b7), .val (.int (1 : Int32)), .val (.int v11_64), .unset, .unset] [(.int (if (p3 &&& (32 : Int32)) = (0 : Int32) then (((p3.toUInt32 >>> ((6 : Int32) &&& 31).toUInt32).toInt32).toInt8.toInt32) else (((48 : Int32) + ((((p3.toUInt32 >>> ((6 : Int32) &&& 31).toUInt32).toInt32) &&& (65535 : Int32)) % (10 : Int32))).toInt8.toInt32)))])) (fun _ kk => ?_) ?_
    · --
      show Steps _ _ _ (T56.setTop (mkF m 351 #[.val (.int p1), .val (.int p2), .val (.int p3), .val (.int p4), .val (.int v4_1), .val (.int v5_2), .val (.int v6_3), .val (.int v7_4), .val (.int m6), .val (.ref b7), .val (.int (1 : Int32)), .val (.int v11_64), .unset, .unset] [(.int (p3 &&& (32 : Int32)))])) _
      by_cases hc65 : (p3 &&& (32 : Int32)) = (0 : Int32)
      · --
        refine XS.ifYes X56.here hx rfl (pc0 := 351) (pc' := 371) rfl (hb hby at_351) rfl ((if0 _ _).trans (teq hc65).1) (by decide) (by decide) ?_
        show Steps _ _ _ (T56.setTop (mkF m 371 #[.val (.int p1), .val (.int p2), .val (.int p3), .val (.int p4), .val (.int v4_1), .val (.int v5_2), .val (.int v6_3), .val (.int v7_4), .val (.int m6), .val (.ref b7), .val (.int (1 : Int32)), .val (.int v11_64), .unset, .unset] [])) _
        refine XS.iloadN X56.here hx rfl (hb hby at_371) rfl ?_
        show Steps _ _ _ (T56.setTop (mkF m 372 #[.val (.int p1), .val (.int p2), .val (.int p3), .val (.int p4), .val (.int v4_1), .val (.int v5_2), .val (.int v6_3), .val (.int v7_4), .val (.int m6), .val (.ref b7), .val (.int (1 : Int32)), .val (.int v11_64), .unset, .unset] [(.int p3)])) _
        refine XS.bipush X56.here hx rfl (hb hby at_372) ?_
        show Steps _ _ _ (T56.setTop (mkF m 374 #[.val (.int p1), .val (.int p2), .val (.int p3), .val (.int p4), .val (.int v4_1), .val (.int v5_2), .val (.int v6_3), .val (.int v7_4), .val (.int m6), .val (.ref b7), .val (.int (1 : Int32)), .val (.int v11_64), .unset, .unset] [(.int (6 : Int32)), (.int p3)])) _
        refine XS.iushr X56.here hx rfl (hb hby at_374) rfl ?_
        show Steps _ _ _ (T56.setTop (mkF m 375 #[.val (.int p1), .val (.int p2), .val (.int p3), .val (.int p4), .val (.int v4_1), .val (.int v5_2), .val (.int v6_3), .val (.int v7_4), .val (.int m6), .val (.ref b7), .val (.int (1 : Int32)), .val (.int v11_64), .unset, .unset] [(.int ((p3.toUInt32 >>> ((6 : Int32) &&& 31).toUInt32).toInt32))])) _
        refine XS.i2b X56.here hx rfl (hb hby at_375) rfl ?_
        show Steps _ _ _ (T56.setTop (mkF m 376 #[.val (.int p1), .val (.int p2), .val (.int p3), .val (.int p4), .val (.int v4_1), .val (.int v5_2), .val (.int v6_3), .val (.int v7_4), .val (.int m6), .val (.ref b7), .val (.int (1 : Int32)), .val (.int v11_64), .unset, .unset] [(.int (((p3.toUInt32 >>> ((6 : Int32) &&& 31).toUInt32).toInt32).toInt8.toInt32))])) _
        try simp only [if_pos hc65] at kk
        exact kk
      · --
        refine XS.ifNo X56.here hx rfl (hb hby at_351) rfl ((if0 _ _).trans (feq hc65).1) ?_
        show Steps _ _ _ (T56.setTop (mkF m 354 #[.val (.int p1), .val (.int p2), .val (.int p3), .val (.int p4), .val (.int v4_1), .val (.int v5_2), .val (.int v6_3), .val (.int v7_4), .val (.int m6), .val (.ref b7), .val (.int (1 : Int32)), .val (.int v11_64), .unset, .unset] [])) _
        refine XS.bipush X56.here hx rfl (hb hby at_354) ?_
        show Steps _ _ _ (T56.setTop (mkF m 356 #[.val (.int p1), .val (.int p2), .val (.int p3), .val (.int p4), .val (.int v4_1), .val (.int v5_2), .val (.int v6_3), .val (.int v7_4), .val (.int m6), .val (.ref b7), .val (.int (1 : Int32)), .val (.int v11_64), .unset, .unset] [(.int (48 : Int32))])) _
        refine XS.iloadN X56.here hx rfl (hb hby at_356) rfl ?_
        show Steps _ _ _ (T56.setTop (mkF m 357 #[.val (.int p1), .val (.int p2), .val (.int p3), .val (.int p4), .val (.int v4_1), .val (.int v5_2), .val (.int v6_3), .val (.int v7_4), .val (.int m6), .val (.ref b7), .val (.int (1 : Int32)), .val (.int v11_64), .unset, .unset] [(.int p3), (.int (48 : Int32))])) _
        refine XS.bipush X56.here hx rfl (hb hby at_357) ?_
        show Steps _ _ _ (T56.setTop (mkF m 359 #[.val (.int p1), .val (.int p2), .val (.int p3), .val (.int p4), .val (.int v4_1), .val (.int v5_2), .val (.int v6_3), .val (.int v7_4), .val (.int m6), .val (.ref b7), .val (.int (1 : Int32)), .val (.int v11_64), .unset, .unset] [(.int (6 : Int32)), (.int p3), (.int (48 : Int32))])) _
        refine XS.iushr X56.here hx rfl (hb hby at_359) rfl ?_
        show Steps _ _ _ (T56.setTop (mkF m 360 #[.val (.int p1), .val (.int p2), .val (.int p3), .val (.int p4), .val (.int v4_1), .val (.int v5_2), .val (.int v6_3), .val (.int v7_4), .val (.int m6), .val (.ref b7), .val (.int (1 : Int32)), .val (.int v11_64), .unset, .unset] [(.int ((p3.toUInt32 >>> ((6 : Int32) &&& 31).toUInt32).toInt32)), (.int (48 : Int32))])) _
        refine X56.ldcInt hx hown (mvT hZ (hw _ (List.mem_of_getElem? (i := 2) rfl))) (g := (mkF m 360 #[.val (.int p1), .val (.int p2), .val (.int p3), .val (.int p4), .val (.int v4_1), .val (.int v5_2), .val (.int v6_3), .val (.int v7_4), .val (.int m6), .val (.ref b7), .val (.int (1 : Int32)), .val (.int v11_64), .unset, .unset] [(.int ((p3.toUInt32 >>> ((6 : Int32) &&& 31).toUInt32).toInt32)), (.int (48 : Int32))])) rfl (hb hby at_360) _ ?_
        show Steps _ _ _ (T56.setTop (mkF m 362 #[.val (.int p1), .val (.int p2), .val (.int p3), .val (.int p4), .val (.int v4_1), .val (.int v5_2), .val (.int v6_3), .val (.int v7_4), .val (.int m6), .val (.ref b7), .val (.int (1 : Int32)), .val (.int v11_64), .unset, .unset] [(.int (65535 : Int32)), (.int ((p3.toUInt32 >>> ((6 : Int32) &&& 31).toUInt32).toInt32)), (.int (48 : Int32))])) _
        refine XS.iand X56.here hx rfl (hb hby at_362) rfl ?_
        show Steps _ _ _ (T56.setTop (mkF m 363 #[.val (.int p1), .val (.int p2), .val (.int p3), .val (.int p4), .val (.int v4_1), .val (.int v5_2), .val (.int v6_3), .val (.int v7_4), .val (.int m6), .val (.ref b7), .val (.int (1 : Int32)), .val (.int v11_64), .unset, .unset] [(.int (((p3.toUInt32 >>> ((6 : Int32) &&& 31).toUInt32).toInt32) &&& (65535 : Int32))), (.int (48 : Int32))])) _
        refine XS.bipush X56.here hx rfl (hb hby at_363) ?_
        show Steps _ _ _ (T56.setTop (mkF m 365 #[.val (.int p1), .val (.int p2), .val (.int p3), .val (.int p4), .val (.int v4_1), .val (.int v5_2), .val (.int v6_3), .val (.int v7_4), .val (.int m6), .val (.ref b7), .val (.int (1 : Int32)), .val (.int v11_64), .unset, .unset] [(.int (10 : Int32)), (.int (((p3.toUInt32 >>> ((6 : Int32) &&& 31).toUInt32).toInt32) &&& (65535 : Int32))), (.int (48 : Int32))])) _
        refine iremM X56 hx rfl (hb hby at_365) rfl (by decide) ?_
        show Steps _ _ _ (T56.setTop (mkF m 366 #[.val (.int p1), .val (.int p2), .val (.int p3), .val (.int p4), .val (.int v4_1), .val (.int v5_2), .val (.int v6_3), .val (.int v7_4), .val (.int m6), .val (.ref b7), .val (.int (1 : Int32)), .val (.int v11_64), .unset, .unset] [(.int ((((p3.toUInt32 >>> ((6 : Int32) &&& 31).toUInt32).toInt32) &&& (65535 : Int32)) % (10 : Int32))), (.int (48 : Int32))])) _
        refine XS.iadd X56.here hx rfl (hb hby at_366) rfl ?_
        show Steps _ _ _ (T56.setTop (mkF m 367 #[.val (.int p1), .val (.int p2), .val (.int p3), .val (.int p4), .val (.int v4_1), .val (.int v5_2), .val (.int v6_3), .val (.int v7_4), .val (.int m6), .val (.ref b7), .val (.int (1 : Int32)), .val (.int v11_64), .unset, .unset] [(.int ((48 : Int32) + ((((p3.toUInt32 >>> ((6 : Int32) &&& 31).toUInt32).toInt32) &&& (65535 : Int32)) % (10 : Int32))))])) _
        refine XS.i2b X56.here hx rfl (hb hby at_367) rfl ?_
        show Steps _ _ _ (T56.setTop (mkF m 368 #[.val (.int p1), .val (.int p2), .val (.int p3), .val (.int p4), .val (.int v4_1), .val (.int v5_2), .val (.int v6_3), .val (.int v7_4), .val (.int m6), .val (.ref b7), .val (.int (1 : Int32)), .val (.int v11_64), .unset, .unset] [(.int (((48 : Int32) + ((((p3.toUInt32 >>> ((6 : Int32) &&& 31).toUInt32).toInt32) &&& (65535 : Int32)) % (10 : Int32))).toInt8.toInt32))])) _
        refine XS.goto X56.here hx rfl (pc0 := 368) (pc' := 376) rfl (hb hby at_368) (by decide) (by decide) ?_
        show Steps _ _ _ (T56.setTop (mkF m 376 #[.val (.int p1), .val (.int p2), .val (.int p3), .val (.int p4), .val (.int v4_1), .val (.int v5_2), .val (.int v6_3), .val (.int v7_4), .val (.int m6), .val (.ref b7), .val (.int (1 : Int32)), .val (.int v11_64), .unset, .unset] [(.int (((48 : Int32) + ((((p3.toUInt32 >>> ((6 : Int32) &&& 31).toUInt32).toInt32) &&& (65535 : Int32)) % (10 : Int32))).toInt8.toInt32))])) _
        try simp only [if_neg hc65] at kk
        exact kk
    obtain ⟨m66, hm66⟩ : ∃ z_ : Int32, (if (p3 &&& (32 : Int32)) = (0 : Int32) then (((p3.toUInt32 >>> ((6 : Int32) &&& 31).toUInt32).toInt32).toInt8.toInt32) else (((48 : Int32) + ((((p3.toUInt32 >>> ((6 : Int32) &&& 31).toUInt32).toInt32) &&& (65535 : Int32)) % (10 : Int32))).toInt8.toInt32)) = z_ := ⟨_, rfl⟩
    refine own_gen hm66 (fun z_ => T56.setTop (mkF m 376 #[.val (.int p1), .val (.int p2), .val (.int p3), .val (.int p4), .val (.int v4_1), .val (.int v5_2), .val (.int v6_3), .val (.int v7_4), .val (.int m6), .val (.ref b7), .val (.int (1 : Int32)), .val (.int v11_64), .unset, .unset] [(.int z_)])) ?_
    show own_Go _ _ _ _ (T56.setTop (mkF m 376 #[.val (.int p1), .val (.int p2), .val (.int p3), .val (.int p4), .val (.int v4_1), .val (.int v5_2), .val (.int v6_3), .val (.int v7_4), .val (.int m6), .val (.ref b7), .val (.int (1 : Int32)), .val (.int v11_64), .unset, .unset] [(.int m66)]))
    refine own_by (fun _ k => XS.istore X56.here hx rfl (hb hby at_376) rfl (l' := #[.val (.int p1), .val (.int p2), .val (.int p3), .val (.int p4), .val (.int v4_1), .val (.int v5_2), .val (.int v6_3), .val (.int v7_4), .val (.int m6), .val (.ref b7), .val (.int (1 : Int32)), .val (.int v11_64), .val (.int m66), .unset]) rfl k) ?_
    have hB := own_mb _ _ _ _ hm66
    show own_Go _ _ _ _ (T56.setTop (mkF m 378 #[.val (.int p1), .val (.int p2), .val (.int p3), .val (.int p4), .val (.int v4_1), .val (.int v5_2), .val (.int v6_3), .val (.int v7_4), .val (.int m6), .val (.ref b7), .val (.int (1 : Int32)), .val (.int v11_64), .val (.int m66), .unset] []))
    refine own_by (fun _ k => XS.iload X56.here hx rfl (hb hby at_378) rfl k) ?_
    show own_Go _ _ _ _ (T56.setTop (mkF m 380 #[.val (.int p1), .val (.int p2), .val (.int p3), .val (.int p4), .val (.int v4_1), .val (.int v5_2), .val (.int v6_3), .val (.int v7_4), .val (.int m6), .val (.ref b7), .val (.int (1 : Int32)), .val (.int v11_64), .val (.int m66), .unset] [(.int (1 : Int32))]))
    refine own_by (fun _ k => XS.ifNo X56.here hx rfl (hb hby at_380) rfl ((if0 _ _).trans (feq (by decide)).1) k) ?_
    show own_Go _ _ _ _ (T56.setTop (mkF m 383 #[.val (.int p1), .val (.int p2), .val (.int p3), .val (.int p4), .val (.int v4_1), .val (.int v5_2), .val (.int v6_3), .val (.int v7_4), .val (.int m6), .val (.ref b7), .val (.int (1 : Int32)), .val (.int v11_64), .val (.int m66), .unset] []))
    refine own_by (fun _ k => XS.aload X56.here hx rfl (hb hby at_383) rfl rfl k) ?_
    show own_Go _ _ _ _ (T56.setTop (mkF m 385 #[.val (.int p1), .val (.int p2), .val (.int p3), .val (.int p4), .val (.int v4_1), .val (.int v5_2), .val (.int v6_3), .val (.int v7_4), .val (.int m6), .val (.ref b7), .val (.int (1 : Int32)), .val (.int v11_64), .val (.int m66), .unset] [(.ref b7)]))
    refine own_by (fun _ k => XS.iload X56.here hx rfl (hb hby at_385) rfl k) ?_
    show own_Go _ _ _ _ (T56.setTop (mkF m 387 #[.val (.int p1), .val (.int p2), .val (.int p3), .val (.int p4), .val (.int v4_1), .val (.int v5_2), .val (.int v6_3), .val (.int v7_4), .val (.int m6), .val (.ref b7), .val (.int (1 : Int32)), .val (.int v11_64), .val (.int m66), .unset] [(.int v11_64), (.ref b7)]))
    refine own_by (fun _ k => XS.iload X56.here hx rfl (hb hby at_387) rfl k) ?_
    show own_Go _ _ _ _ (T56.setTop (mkF m 389 #[.val (.int p1), .val (.int p2), .val (.int p3), .val (.int p4), .val (.int v4_1), .val (.int v5_2), .val (.int v6_3), .val (.int v7_4), .val (.int m6), .val (.ref b7), .val (.int (1 : Int32)), .val (.int v11_64), .val (.int m66), .unset] [(.int m66), (.int v11_64), (.ref b7)]))
    refine own_bas X56 hx hZ e56 A56 P hP (by omega) (hb hby at_389) ?_
    intro T67 h67 X67 e67 W67 A67
    have N67 := Fr.snoc X67 N56 ge7
    have Z67 := own_size_wr W67 Z56
    obtain ⟨fn67, hfn67⟩ : ∃ g : Nat → Int32, g = own_upd ff0 P (nar .byte m66) := ⟨_, rfl⟩
    rw [← hfn67] at A67
    show own_Go _ _ _ _ (T67.setTop (mkF m 390 #[.val (.int p1), .val (.int p2), .val (.int p3), .val (.int p4), .val (.int v4_1), .val (.int v5_2), .val (.int v6_3), .val (.int v7_4), .val (.int m6), .val (.ref b7), .val (.int (1 : Int32)), .val (.int v11_64), .val (.int m66), .unset] []))
    refine own_by (fun _ k => XS.iload X67.here hx rfl (hb hby at_390) rfl k) ?_
    show own_Go _ _ _ _ (T67.setTop (mkF m 392 #[.val (.int p1), .val (.int p2), .val (.int p3), .val (.int p4), .val (.int v4_1), .val (.int v5_2), .val (.int v6_3), .val (.int v7_4), .val (.int m6), .val (.ref b7), .val (.int (1 : Int32)), .val (.int v11_64), .val (.int m66), .unset] [(.int v4_1)]))
    refine own_by (fun _ k => XS.iload X67.here hx rfl (hb hby at_392) rfl k) ?_
    show own_Go _ _ _ _ (T67.setTop (mkF m 394 #[.val (.int p1), .val (.int p2), .val (.int p3), .val (.int p4), .val (.int v4_1), .val (.int v5_2), .val (.int v6_3), .val (.int v7_4), .val (.int m6), .val (.ref b7), .val (.int (1 : Int32)), .val (.int v11_64), .val (.int m66), .unset] [(.int v5_2), (.int v4_1)]))
    refine own_by (fun _ k => XS.iload X67.here hx rfl (hb hby at_394) rfl k) ?_
    show own_Go _ _ _ _ (T67.setTop (mkF m 396 #[.val (.int p1), .val (.int p2), .val (.int p3), .val (.int p4), .val (.int v4_1), .val (.int v5_2), .val (.int v6_3), .val (.int v7_4), .val (.int m6), .val (.ref b7), .val (.int (1 : Int32)), .val (.int v11_64), .val (.int m66), .unset] [(.int v6_3), (.int v5_2), (.int v4_1)]))
    refine own_by (fun _ k => XS.iload X67.here hx rfl (hb hby at_396) rfl k) ?_
    show own_Go _ _ _ _ (T67.setTop (mkF m 398 #[.val (.int p1), .val (.int p2), .val (.int p3), .val (.int p4), .val (.int v4_1), .val (.int v5_2), .val (.int v6_3), .val (.int v7_4), .val (.int m6), .val (.ref b7), .val (.int (1 : Int32)), .val (.int v11_64), .val (.int m66), .unset] [(.int (1 : Int32)), (.int v6_3), (.int v5_2), (.int v4_1)]))
    refine own_by (fun _ k => XS.iload X67.here hx rfl (hb hby at_398) rfl k) ?_
    show own_Go _ _ _ _ (T67.setTop (mkF m 400 #[.val (.int p1), .val (.int p2), .val (.int p3), .val (.int p4), .val (.int v4_1), .val (.int v5_2), .val (.int v6_3), .val (.int v7_4), .val (.int m6), .val (.ref b7), .val (.int (1 : Int32)), .val (.int v11_64), .val (.int m66), .unset] [(.int v11_64), (.int (1 : Int32)), (.int v6_3), (.int v5_2), (.int v4_1)]))
    refine own_by (fun _ k => XS.iload X67.here hx rfl (hb hby at_400) rfl k) ?_
    show own_Go _ _ _ _ (T67.setTop (mkF m 402 #[.val (.int p1), .val (.int p2), .val (.int p3), .val (.int p4), .val (.int v4_1), .val (.int v5_2), .val (.int v6_3), .val (.int v7_4), .val (.int m6), .val (.ref b7), .val (.int (1 : Int32)), .val (.int v11_64), .val (.int m66), .unset] [(.int m66), (.int v11_64), (.int (1 : Int32)), (.int v6_3), (.int v5_2), (.int v4_1)]))
    refine own_callS X67 hx hZ hown (hw _ (List.mem_of_getElem? (i := 8) rfl)) (hw _ (List.mem_of_getElem? (i := 9) rfl)) (hw _ (List.mem_of_getElem? (i := 6) rfl)) (hw _ (List.mem_of_getElem? (i := 10) rfl)) (by decide) (rm2 l Z a0 hw [] v4_1 v5_2 v6_3 (1 : Int32) v11_64 m66 V F L P h67 n0 Z67 hV hF hL hP hF3 hL10 hP15 hB) e67 (by rw [hml]; rfl) [(.int v4_1), (.int v5_2), (.int v6_3), (.int (1 : Int32)), (.int v11_64), (.int m66)] [] rfl (lenOf own_pd1 rfl) rfl 0 (Nat.le_of_eq rfl) (by decide) (by decide) (Nat.le_of_ble_eq_true rfl) (Nat.le_of_ble_eq_true rfl) (hb hby at_402) ?_
    intro T68 Lc68 v68 X68 hQ68
    obtain ⟨h68, e68⟩ : ∃ h, T68.heap = h := ⟨_, rfl⟩
    rw [e68] at hQ68
    obtain ⟨zx68, rfl, N68q, K68, hx68⟩ := hQ68
    have N68 := Fr.app N67 N68q
    have f69 := A67.keep K68 nin0
    have Z68 := Nat.le_trans Z67 K68.1
    show own_Go _ _ _ _ (T68.setTop (mkF m 405 #[.val (.int p1), .val (.int p2), .val (.int p3), .val (.int p4), .val (.int v4_1), .val (.int v5_2), .val (.int v6_3), .val (.int v7_4), .val (.int m6), .val (.ref b7), .val (.int (1 : Int32)), .val (.int v11_64), .val (.int m66), .unset] [(.int zx68)]))
    refine own_by (fun _ k => XS.istore X68.here hx rfl (hb hby at_405) rfl (l' := #[.val (.int p1), .val (.int p2), .val (.int p3), .val (.int p4), .val (.int v4_1), .val (.int v5_2), .val (.int v6_3), .val (.int v7_4), .val (.int m6), .val (.ref b7), .val (.int (1 : Int32)), .val (.int v11_64), .val (.int m66), .val (.int zx68)]) rfl k) ?_
    show own_Go _ _ _ _ (T68.setTop (mkF m 407 #[.val (.int p1), .val (.int p2), .val (.int p3), .val (.int p4), .val (.int v4_1), .val (.int v5_2), .val (.int v6_3), .val (.int v7_4), .val (.int m6), .val (.ref b7), .val (.int (1 : Int32)), .val (.int v11_64), .val (.int m66), .val (.int zx68)] []))
    refine own_by (fun _ k => XS.aload X68.here hx rfl (hb hby at_407) rfl rfl k) ?_
    show own_Go _ _ _ _ (T68.setTop (mkF m 409 #[.val (.int p1), .val (.int p2), .val (.int p3), .val (.int p4), .val (.int v4_1), .val (.int v5_2), .val (.int v6_3), .val (.int v7_4), .val (.int m6), .val (.ref b7), .val (.int (1 : Int32)), .val (.int v11_64), .val (.int m66), .val (.int zx68)] [(.ref b7)]))
    refine own_by (fun _ k => XS.iload X68.here hx rfl (hb hby at_409) rfl k) ?_
    show own_Go _ _ _ _ (T68.setTop (mkF m 411 #[.val (.int p1), .val (.int p2), .val (.int p3), .val (.int p4), .val (.int v4_1), .val (.int v5_2), .val (.int v6_3), .val (.int v7_4), .val (.int m6), .val (.ref b7), .val (.int (1 : Int32)), .val (.int v11_64), .val (.int m66), .val (.int zx68)] [(.int v5_2), (.ref b7)]))
    refine own_by (fun _ k => XS.iload X68.here hx rfl (hb hby at_411) rfl k) ?_
    show own_Go _ _ _ _ (T68.setTop (mkF m 413 #[.val (.int p1), .val (.int p2), .val (.int p3), .val (.int p4), .val (.int v4_1), .val (.int v5_2), .val (.int v6_3), .val (.int v7_4), .val (.int m6), .val (.ref b7), .val (.int (1 : Int32)), .val (.int v11_64), .val (.int m66), .val (.int zx68)] [(.int v7_4), (.int v5_2), (.ref b7)]))
    obtain ⟨ff, hff⟩ : ∃ g, g = fn67 := ⟨_, rfl⟩
    rw [← hff] at f69
    refine own_callS X68 hx hZ hown (hw _ (List.mem_of_getElem? (i := 11) rfl)) (hw _ (List.mem_of_getElem? (i := 12) rfl)) (hw _ (List.mem_of_getElem? (i := 13) rfl)) (hw _ (List.mem_of_getElem? (i := 14) rfl)) (by decide) (rm3 l Z a0 hw [] b7 v5_2 v7_4 ff F L h68 n0 Z68 f69 hF hto hF3 hL10) e68 (by rw [hml]; rfl) [(.ref b7), (.int v5_2), (.int v7_4)] [] rfl (lenOf own_pd2 rfl) rfl 0 (Nat.le_of_eq rfl) (by decide) (by decide) (Nat.le_of_ble_eq_true rfl) (Nat.le_of_ble_eq_true rfl) (hb hby at_413) ?_
    intro T70 Lc70 v70 X70 hQ70
    obtain ⟨rfl, N70q, e70⟩ := hQ70
    have N70 := Fr.app N68 N70q
    show own_Go _ _ _ _ (T70.setTop (mkF m 416 #[.val (.int p1), .val (.int p2), .val (.int p3), .val (.int p4), .val (.int v4_1), .val (.int v5_2), .val (.int v6_3), .val (.int v7_4), .val (.int m6), .val (.ref b7), .val (.int (1 : Int32)), .val (.int v11_64), .val (.int m66), .val (.int zx68)] [(.int (own_dec ff F L))]))
    refine own_by (fun _ k => XS.iload X70.here hx rfl (hb hby at_416) rfl k) ?_
    show own_Go _ _ _ _ (T70.setTop (mkF m 418 #[.val (.int p1), .val (.int p2), .val (.int p3), .val (.int p4), .val (.int v4_1), .val (.int v5_2), .val (.int v6_3), .val (.int v7_4), .val (.int m6), .val (.ref b7), .val (.int (1 : Int32)), .val (.int v11_64), .val (.int m66), .val (.int zx68)] [(.int zx68), (.int (own_dec ff F L))]))
    have hfin : (own_dec ff F L).toInt = own_ex V F L (1 : Int32) P ((m66).toInt - 48) := by
      by_cases hin : F ≤ P ∧ P < F + L
      · refine own_agree1 ff V F L (1 : Int32) m66 P hL10 ⟨by decide, hin.1, hin.2⟩ hB (by rw [hff, hfn67, own_upd_eq, own_narb _ hB.1 hB.2]) (fun j hj hne => by rw [hff, hfn67, own_upd_ne _ _ hne]; exact hf0 j hj)
      · refine own_agree0 ff V F L (1 : Int32) P _ hL10 (fun q => hin q.2) (fun j hj => by rw [hff, hfn67, own_upd_ne _ _ (by omega)]; exact hf0 j hj)
    refine own_by (fun _ k => XS.icmpNo X70.here hx rfl (hb hby at_418) rfl (teq (Int32.toInt_inj.mp (hfin.trans hx68.symm))).2 k) ?_
    show own_Go _ _ _ _ (T70.setTop (mkF m 421 #[.val (.int p1), .val (.int p2), .val (.int p3), .val (.int p4), .val (.int v4_1), .val (.int v5_2), .val (.int v6_3), .val (.int v7_4), .val (.int m6), .val (.ref b7), .val (.int (1 : Int32)), .val (.int v11_64), .val (.int m66), .val (.int zx68)] []))
    refine own_by (fun _ k => XS.iconst X70.here hx rfl (hb hby at_421) k) ?_
    show own_Go _ _ _ _ (T70.setTop (mkF m 422 #[.val (.int p1), .val (.int p2), .val (.int p3), .val (.int p4), .val (.int v4_1), .val (.int v5_2), .val (.int v6_3), .val (.int v7_4), .val (.int m6), .val (.ref b7), .val (.int (1 : Int32)), .val (.int v11_64), .val (.int m66), .val (.int zx68)] [(.int (1 : Int32))]))
    refine own_by (fun _ k => XS.goto X70.here hx rfl (pc0 := 422) (pc' := 426) rfl (hb hby at_422) (by decide) (by decide) k) ?_
    show own_Go _ _ _ _ (T70.setTop (mkF m 426 #[.val (.int p1), .val (.int p2), .val (.int p3), .val (.int p4), .val (.int v4_1), .val (.int v5_2), .val (.int v6_3), .val (.int v7_4), .val (.int m6), .val (.ref b7), .val (.int (1 : Int32)), .val (.int v11_64), .val (.int m66), .val (.int zx68)] [(.int (1 : Int32))]))
    exact own_retN X70 hx Bd.notSynchronized e70 Bd.returns (by simp) (hb hby at_426) (⟨rfl, N70⟩) (by decide) (by decide)
set_option maxRecDepth 65536 in
set_option maxHeartbeats 40000000 in
theorem comes_1 {Post : Tables → Env → Array Value → State → Outcome → State → Prop} (hpost : ∀ tb e args s v u, (limb_1_1.after args s (.returned v) u = true ∧ limb_1_2.after args s (.returned v) u = true ∧ True) → FrameEnd s (.returned v) u (Jvm.fieldLocs frame_1_writes args s ++ Jvm.arrayLocs frame_1_arrays args s ++ Jvm.staticLocs frame_1_statics s) 40 384 → Post tb e args s (.returned v) u) :
    ArmFor flags0 classFile x code maxLocals ret World_1 tables_1 room_1 Calls_1 rest_1 Pre_1 Post := by
  intro l hfl _ _ p e ha hc hk s m args below hf hA hF happ hP
  obtain ⟨hcalls, hrest, hpre⟩ := hP
  obtain ⟨-, -, -, hnamed, -, -, -, hat⟩ := (Spec.applies_iff hf).mp happ
  obtain ⟨hg, hn⟩ := and_e (Cond.before_iff.mp (show (Jvm.Cond.and given_1 narrow_1).before args s = true from hpre))
  obtain ⟨g1, g2⟩ := and_e hg
  obtain ⟨g3, g4⟩ := and_e g2
  obtain ⟨g5, g6⟩ := and_e g4
  obtain ⟨g7, g8⟩ := and_e g6
  obtain ⟨w0, w1, w2, w3, rfl⟩ : ∃ w0 w1 w2 w3 : Value, args = #[w0, w1, w2, w3] := by
    have hs : args.size = 4 := by simpa [Cond.value, given_1] using g1
    obtain ⟨L⟩ := args
    match L, hs with
    | [w0, w1, w2, w3], _ => exact ⟨w0, w1, w2, w3, rfl⟩
  have hw := fun d (hd : d ∈ tables_1) => atoms_spec (ws := Jvm.Cond.code x code maxLocals ret :: tables_1) hat d (List.mem_cons_of_mem _ hd)
  have hfit : Fit s := fun {y c} hc i hi => by
    obtain ⟨ha, rfl⟩ := Array.getElem?_eq_some_iff.mp hc
    have q := List.all_eq_true.mp ((Array.all_eq_true_iff_forall_mem.mp hF) _ (Array.getElem_mem ha)) i (List.mem_range.mpr hi)
    simpa [Array.getElem?_eq_getElem hi] using q
  obtain ⟨i0, ei0⟩ := is_v g3
  obtain rfl : w0 = (.int i0) := Option.some.inj ei0
  obtain ⟨i1, ei1⟩ := is_v g5
  obtain rfl : w1 = (.int i1) := Option.some.inj ei1
  obtain ⟨i2, ei2⟩ := is_v g7
  obtain rfl : w2 = (.int i2) := Option.some.inj ei2
  obtain ⟨i3, ei3⟩ := is_v g8
  obtain rfl : w3 = (.int i3) := Option.some.inj ei3
  obtain ⟨n, o, h1, h2, h3, _, L, rfl, ⟨rfl, N⟩, hq⟩ := rm0 l s _ hw tables_1 i0 i1 i2 i3 s.heap s.heap.size (Nat.le_refl _) p e ha hc hk s m _ below hf ((Spec.applies_iff_loose hf).mp happ).1 ⟨rfl, State.Warmed39.refl s, rfl⟩ trivial
  refine ⟨n, _, h1, h2, h3, hpost _ _ _ _ _ _ ⟨Cond.after_iff.mpr rfl, Cond.after_iff.mpr (eq_i res_at (Term.int_eval (1)) rfl), trivial⟩ ⟨hq.1, hq.2.1, (hq.2.2.sift fun y hy => Or.inr (N y hy)).mono (by decide) (by decide)⟩⟩
theorem main_1_1 : Claimed_1_1 := comes_1 fun _ _ _ _ _ _ h hF => ⟨h.1, hF⟩
theorem main_1_2 : Claimed_1_2 := comes_1 fun _ _ _ _ _ _ h hF => ⟨h.2.1, hF⟩
end Jvm.Pilot.@@N@@
namespace Jvm.Pilot.@@N@@
open Jvm Jvm.ClassFile Sem Op Lib Jvm.Free Jvm.Stand Jvm.Pilot.@@N@@.Jvm.D
/-! MADE BY PROGRAM (witnessworld.py) out of the Statement's table words and the real class files: 9 classes; the members and pool entries that the words name. The judged class is class 1, her method 1. -/
namespace start1
open Jvm.ClassFile
def u (s : String) : CpInfo := .utf8 (stringToUtf16 s)
/-- a pool by its gaps: so many unusable entries, then the entry; so many at the end -/
def gap : Nat → List CpInfo → List CpInfo
  | 0, r => r
  | n + 1, r => .unusable :: gap n r
def poolList (es : List (Nat × CpInfo)) (last : Nat) : List CpInfo := es.foldr (fun e r => gap e.1 (e.2 :: r)) (gap last [])
def pool (es : List (Nat × CpInfo)) (last : Nat) : Array CpInfo := ⟨poolList es last⟩
def fileOf (pool : Array CpInfo) (this : Nat) (attrs : Array Attribute := #[]) (ms : Array MethodInfo := #[]) (fl : Nat := 33) (sup : Nat := 0) (ifs : Array Nat := #[]) (fds : Array FieldInfo := #[]) : ClassFile where
  minorVersion := 0
  majorVersion := 65
  constantPool := pool
  accessFlags := fl
  thisClass := this
  superClass := sup
  interfaces := ifs
  fields := fds
  methods := ms
  attributes := attrs
def plain (name : String) (sup : Option ClassId) : Class where
  name := name
  kind := .ordinary
  loader := none
  accessFlags := 33
  super := sup
  interfaces := #[]
  cf := none
  fields := #[]
  methods := #[]
  instanceTypes := #[]
  staticTypes := #[]
  resolved := #[]
  callSites := []
  init := .initialized
  statics := none
  mirror := none

def pool0 : Array CpInfo := pool [(5, u "<init>"), (0, u "()V"), (1, .class_ 10), (1, u "java/lang/Object")] 113

def k0m0 : Method := { name := "<init>", desc := "()V", sig := { parameters := [], returnType := none }, accessFlags := 1, code := none }
/-- java/lang/Object -/
def k0 : Class := { plain "java/lang/Object" none with
  accessFlags := 33
  interfaces := #[]
  cf := some (fileOf pool0 8 #[] #[{ accessFlags := 1, nameIndex := 5, descriptorIndex := 6, attributes := #[] }] 33 0 #[] #[])
  fields := #[]
  methods := #[k0m0]
  instanceTypes := #[]
  staticTypes := #[]
  resolved := Array.replicate 124 none
  statics := none }

def pool1 : Array CpInfo := pool [(2, .class_ 4), (1, u "java/lang/Object"), (0, u "<init>"), (0, u "()V"), (0, .integer 2147483647), (0, .integer 1000000000), (0, .integer 65535), (0, .methodref 11 12), (0, .class_ 13), (0, .nameAndType 14 15), (0, u "com/example/link_prestige/linkprestige/PageNamesDecimalPinLaw"), (0, u "at"), (0, u "(IIIIB)B"), (0, .methodref 11 17), (0, .nameAndType 18 19), (0, u "expected"), (0, u "(IIIZIB)I"), (0, .methodref 21 22), (0, .class_ 23), (0, .nameAndType 24 25), (0, u "com/example/link_prestige/linkprestige/PageNames"), (0, u "decimal"), (0, u "([BII)I"), (0, .methodref 11 27), (0, .nameAndType 28 29), (0, u "pow"), (0, u "(I)I"), (0, .integer 100000), (0, .integer 1000000), (0, .integer 10000000), (0, .integer 100000000), (2, u "law"), (0, u "(IIII)Z")] 5

def k1m0 : Method := { name := "<init>", desc := "()V", sig := { parameters := [], returnType := none }, accessFlags := 2, code := none }
def k1c1 : Code := { maxStack := 8, maxLocals := 14, code := code, exceptionTable := #[], attributes := #[] }
def k1m1 : Method := { name := "law", desc := "(IIII)Z", sig := { parameters := [.int, .int, .int, .int], returnType := some .boolean }, accessFlags := 9, code := some k1c1 }
def k1c2 : Code := { maxStack := 5, maxLocals := 5, code := method_3_code, exceptionTable := #[], attributes := #[] }
def k1m2 : Method := { name := "at", desc := "(IIIIB)B", sig := { parameters := [.int, .int, .int, .int, .byte], returnType := some .byte }, accessFlags := 10, code := some k1c2 }
def k1c3 : Code := { maxStack := 4, maxLocals := 11, code := method_4_code, exceptionTable := #[], attributes := #[] }
def k1m3 : Method := { name := "expected", desc := "(IIIZIB)I", sig := { parameters := [.int, .int, .int, .boolean, .int, .byte], returnType := some .int }, accessFlags := 10, code := some k1c3 }
def k1c4 : Code := { maxStack := 4, maxLocals := 2, code := method_5_code, exceptionTable := #[], attributes := #[] }
def k1m4 : Method := { name := "pow", desc := "(I)I", sig := { parameters := [.int], returnType := some .int }, accessFlags := 10, code := some k1c4 }
/-- com/example/link_prestige/linkprestige/PageNamesDecimalPinLaw -/
def k1 : Class := { plain "com/example/link_prestige/linkprestige/PageNamesDecimalPinLaw" (some 0) with
  accessFlags := 49
  interfaces := #[]
  cf := some (fileOf pool1 11 #[] #[{ accessFlags := 2, nameIndex := 5, descriptorIndex := 6, attributes := #[] }, { accessFlags := 9, nameIndex := 36, descriptorIndex := 37, attributes := #[] }, { accessFlags := 10, nameIndex := 14, descriptorIndex := 15, attributes := #[] }, { accessFlags := 10, nameIndex := 18, descriptorIndex := 19, attributes := #[] }, { accessFlags := 10, nameIndex := 28, descriptorIndex := 29, attributes := #[] }] 49 2 #[] #[])
  fields := #[]
  methods := #[k1m0, k1m1, k1m2, k1m3, k1m4]
  instanceTypes := #[]
  staticTypes := #[]
  resolved := Array.replicate 43 none
  statics := none }

def pool2 : Array CpInfo := pool [(2, .class_ 4), (1, u "java/lang/Object"), (0, u "<init>"), (0, u "()V"), (1, .class_ 10), (1, u "com/example/link_prestige/linkprestige/PageNames"), (0, u "pool"), (0, u "[B"), (2, u "ends"), (0, u "[I"), (6, u "slots"), (2, u "byNumber"), (2, u "decimal"), (0, u "([BII)I"), (22, u "size"), (0, u "I"), (2, u "poolUsed"), (89, u "hashed"), (56, u "EMPTY"), (2, u "MAX_SLOTS"), (0, u "MAX_DIGITS"), (1, u "NUMBERS"), (1, u "MIN_NUMBERS"), (1, u "NUMBERS_PER_NAME")] 32

def k2m0 : Method := { name := "<init>", desc := "()V", sig := { parameters := [], returnType := none }, accessFlags := 0, code := none }
def k2c1 : Code := { maxStack := 2, maxLocals := 7, code := prog_27_method_15_code, exceptionTable := #[], attributes := #[] }
def k2m1 : Method := { name := "decimal", desc := "([BII)I", sig := { parameters := [(.array .byte), .int, .int], returnType := some .int }, accessFlags := 8, code := some k2c1 }
/-- com/example/link_prestige/linkprestige/PageNames -/
def k2 : Class := { plain "com/example/link_prestige/linkprestige/PageNames" (some 0) with
  accessFlags := 32
  interfaces := #[]
  cf := some (fileOf pool2 8 #[] #[{ accessFlags := 0, nameIndex := 5, descriptorIndex := 6, attributes := #[] }, { accessFlags := 8, nameIndex := 29, descriptorIndex := 30, attributes := #[] }] 32 2 #[] #[{ accessFlags := 26, nameIndex := 204, descriptorIndex := 54, attributes := #[] }, { accessFlags := 26, nameIndex := 207, descriptorIndex := 54, attributes := #[] }, { accessFlags := 26, nameIndex := 208, descriptorIndex := 54, attributes := #[] }, { accessFlags := 26, nameIndex := 210, descriptorIndex := 54, attributes := #[] }, { accessFlags := 26, nameIndex := 212, descriptorIndex := 54, attributes := #[] }, { accessFlags := 26, nameIndex := 214, descriptorIndex := 54, attributes := #[] }, { accessFlags := 2, nameIndex := 11, descriptorIndex := 12, attributes := #[] }, { accessFlags := 2, nameIndex := 57, descriptorIndex := 54, attributes := #[] }, { accessFlags := 2, nameIndex := 15, descriptorIndex := 16, attributes := #[] }, { accessFlags := 2, nameIndex := 53, descriptorIndex := 54, attributes := #[] }, { accessFlags := 2, nameIndex := 23, descriptorIndex := 16, attributes := #[] }, { accessFlags := 2, nameIndex := 147, descriptorIndex := 54, attributes := #[] }, { accessFlags := 2, nameIndex := 26, descriptorIndex := 16, attributes := #[] }])
  fields := #[{ name := "EMPTY", type := .int, accessFlags := 26, slot := 0, constantValue := 0 }, { name := "MAX_SLOTS", type := .int, accessFlags := 26, slot := 1, constantValue := 0 }, { name := "MAX_DIGITS", type := .int, accessFlags := 26, slot := 2, constantValue := 0 }, { name := "NUMBERS", type := .int, accessFlags := 26, slot := 3, constantValue := 0 }, { name := "MIN_NUMBERS", type := .int, accessFlags := 26, slot := 4, constantValue := 0 }, { name := "NUMBERS_PER_NAME", type := .int, accessFlags := 26, slot := 5, constantValue := 0 }, { name := "pool", type := (.array .byte), accessFlags := 2, slot := 0, constantValue := 0 }, { name := "poolUsed", type := .int, accessFlags := 2, slot := 1, constantValue := 0 }, { name := "ends", type := (.array .int), accessFlags := 2, slot := 2, constantValue := 0 }, { name := "size", type := .int, accessFlags := 2, slot := 3, constantValue := 0 }, { name := "slots", type := (.array .int), accessFlags := 2, slot := 4, constantValue := 0 }, { name := "hashed", type := .int, accessFlags := 2, slot := 5, constantValue := 0 }, { name := "byNumber", type := (.array .int), accessFlags := 2, slot := 6, constantValue := 0 }]
  methods := #[k2m0, k2m1]
  instanceTypes := #[(.array .byte), .int, (.array .int), .int, (.array .int), .int, (.array .int)]
  staticTypes := #[.int, .int, .int, .int, .int, .int]
  resolved := Array.replicate 247 none
  statics := none }

def pool3 : Array CpInfo := pool [(1, u "java/lang/Cloneable"), (0, .class_ 1), (0, u "java/lang/Object"), (0, .class_ 3)] 3

/-- java/lang/Cloneable -/
def k3 : Class := { plain "java/lang/Cloneable" (some 0) with
  accessFlags := 1537
  interfaces := #[]
  cf := some (fileOf pool3 2 #[] #[] 1537 4 #[] #[])
  fields := #[]
  methods := #[]
  instanceTypes := #[]
  staticTypes := #[]
  resolved := Array.replicate 8 none
  statics := none }

def pool4 : Array CpInfo := pool [(1, u "java/io/Serializable"), (0, .class_ 1), (0, u "java/lang/Object"), (0, .class_ 3)] 3

/-- java/io/Serializable -/
def k4 : Class := { plain "java/io/Serializable" (some 0) with
  accessFlags := 1537
  interfaces := #[]
  cf := some (fileOf pool4 2 #[] #[] 1537 4 #[] #[])
  fields := #[]
  methods := #[]
  instanceTypes := #[]
  staticTypes := #[]
  resolved := Array.replicate 8 none
  statics := none }

/-- the primitive byte -/
def k5 : Class := { plain "byte" none with kind := .primitive 'B', accessFlags := 0x411 }
/-- [B -/
def k6 : Class := { plain "[B" (some 0) with kind := .array 5 .byte, interfaces := #[3, 4], accessFlags := 1041 }

/-- the primitive int -/
def k7 : Class := { plain "int" none with kind := .primitive 'I', accessFlags := 0x411 }
/-- [I -/
def k8 : Class := { plain "[I" (some 0) with kind := .array 7 .int, interfaces := #[3, 4], accessFlags := 1041 }

def heap : Heap := #[]
def classes : Array Class := #[k0, k1, k2, k3, k4, k5, k6, k7, k8]
def interned : List (Array UInt16 × Addr) := []
def slotsUsed : Nat := 0
def theMethod : MethodId := ⟨1, 1⟩
def args0 : Array Value := #[.int 5, .int 9, .int 1, .int 3]
def aboutOver (below : List Frame) : State where
  vm := { classes := classes, interned := interned.toArray }
  heap := heap
  slotsUsed := slotsUsed
  threads := #[{ frames := .invoking theMethod args0 :: below }]
def below0 : List Frame := [.native { method := ⟨0, 0⟩, args := #[] }]
def about1 : State := aboutOver below0
def p0 : Program := .bare "" "" ""
def e0 : Env := launch0.env 0 0 0
theorem w_frames : about1.frames = Frame.invoking theMethod args0 :: below0 := rfl
set_option maxRecDepth 65536 in
theorem w_args : argsFit about1.vm theMethod args0 = true := by decide +kernel
set_option maxRecDepth 65536 in
theorem w_heap : heapFits about1 = true := by decide +kernel
set_option maxRecDepth 65536 in
theorem w_runnable : about1.curStatus? = some .runnable := by decide +kernel
set_option maxRecDepth 65536 in
theorem w_alone : about1.alone = true := by decide +kernel
set_option maxRecDepth 65536 in
theorem w_named : about1.methodNamed? x = some theMethod := by decide +kernel
set_option maxRecDepth 65536 in
theorem w_hears : about1.hears theMethod below0 = true := by decide +kernel
set_option maxRecDepth 65536 in
theorem w_ripe : about1.ripe theMethod args0 below0 = true := by decide +kernel
theorem w_running : about1.status = .running := rfl
set_option maxRecDepth 65536 in
theorem w_room : about1.hasRoom e0.platform room_1 = true :=
  launch0.hasRoom_least _ room_1 (by decide +kernel) (by decide +kernel) (by decide +kernel) (by decide +kernel) (by decide +kernel) (by decide +kernel)
theorem allAtoms_all (ts : List Jvm.Cond) (a : Array Jvm.Value) (st : Jvm.State) : (allAtoms ts).before a st = ts.all (fun c => c.before a st) := by
  induction ts with
  | nil => rfl
  | cons c t ih =>
    show (Jvm.Cond.and c (allAtoms t)).before a st = _
    rw [Jvm.Cond.before_and, ih, List.all_cons]
def words1 : List Jvm.Cond := Jvm.Cond.code x code maxLocals ret :: tables_1
/-- a 'code' word, met by the world's own term for the bytes: nothing is compared byte by byte -/
theorem code_word {y : MethodName} {bytes : ByteArray} {mx : Nat} {rt : Option FieldType} {a : Array Value} {s : State} {m : MethodId} {meth : Method} {c : Code} (h1 : s.methodNamed? y = some m) (h2 : s.vm.method? m = some meth) (h3 : meth.code = some c) (h4 : c.code = bytes)
    (h5 : (c.maxLocals == mx && c.exceptionTable.isEmpty && decide (c.maxStack ≤ mostOperands) && decide (meth.sig.returnType = rt) && !meth.locks && decide (parseMethodDescriptor y.desc = some meth.sig)) = true) : (Jvm.Cond.code y bytes mx rt).before a s = true := by
  simp only [Bool.and_eq_true, beq_iff_eq, Bool.not_eq_true', decide_eq_true_eq] at h5
  obtain ⟨⟨⟨⟨⟨g1, g2⟩, g3⟩, g4⟩, g5⟩, g6⟩ := h5
  simp [Cond.before, Cond.holds, Cond.value, h1, h2, h3, h4, g1, g2, g3, g4, g5, g6]
def isCode : Jvm.Cond → Bool
  | .code _ _ _ _ => true
  | _ => false
theorem all_split {L : List Jvm.Cond} {P : Jvm.Cond → Bool} (h1 : L.all (fun c => isCode c || P c) = true) (h2 : ∀ c ∈ L.filter isCode, P c = true) : L.all P = true := by
  refine List.all_eq_true.mpr fun c hc => ?_
  have h := List.all_eq_true.mp h1 c hc
  rcases Bool.eq_false_or_eq_true (isCode c) with hi | hi
  · exact h2 c (List.mem_filter.mpr ⟨hc, hi⟩)
  · simpa [hi] using h
set_option maxRecDepth 65536 in
theorem w_c0 : (Jvm.Cond.code x code maxLocals ret).before args0 about1 = true := code_word (m := ⟨1, 1⟩) (meth := k1m1) (c := k1c1) (by decide +kernel) rfl rfl rfl (by decide +kernel)
set_option maxRecDepth 65536 in
theorem w_c1 : (Jvm.Cond.code ({ cls := "com/example/link_prestige/linkprestige/PageNamesDecimalPinLaw", name := "at", desc := "(IIIIB)B" } : Jvm.MethodName) method_3_code (5 : Nat) (Option.some Jvm.ClassFile.FieldType.byte)).before args0 about1 = true := code_word (m := ⟨1, 2⟩) (meth := k1m2) (c := k1c2) (by decide +kernel) rfl rfl rfl (by decide +kernel)
set_option maxRecDepth 65536 in
theorem w_c2 : (Jvm.Cond.code ({ cls := "com/example/link_prestige/linkprestige/PageNamesDecimalPinLaw", name := "expected", desc := "(IIIZIB)I" } : Jvm.MethodName) method_4_code (11 : Nat) (Option.some Jvm.ClassFile.FieldType.int)).before args0 about1 = true := code_word (m := ⟨1, 3⟩) (meth := k1m3) (c := k1c3) (by decide +kernel) rfl rfl rfl (by decide +kernel)
set_option maxRecDepth 65536 in
theorem w_c3 : (Jvm.Cond.code ({ cls := "com/example/link_prestige/linkprestige/PageNames", name := "decimal", desc := "([BII)I" } : Jvm.MethodName) prog_27_method_15_code (7 : Nat) (Option.some Jvm.ClassFile.FieldType.int)).before args0 about1 = true := code_word (m := ⟨2, 1⟩) (meth := k2m1) (c := k2c1) (by decide +kernel) rfl rfl rfl (by decide +kernel)
set_option maxRecDepth 65536 in
theorem w_c4 : (Jvm.Cond.code ({ cls := "com/example/link_prestige/linkprestige/PageNamesDecimalPinLaw", name := "pow", desc := "(I)I" } : Jvm.MethodName) method_5_code (2 : Nat) (Option.some Jvm.ClassFile.FieldType.int)).before args0 about1 = true := code_word (m := ⟨1, 4⟩) (meth := k1m4) (c := k1c4) (by decide +kernel) rfl rfl rfl (by decide +kernel)
def codes1 : List Jvm.Cond := [Jvm.Cond.code x code maxLocals ret, Jvm.Cond.code ({ cls := "com/example/link_prestige/linkprestige/PageNamesDecimalPinLaw", name := "at", desc := "(IIIIB)B" } : Jvm.MethodName) method_3_code (5 : Nat) (Option.some Jvm.ClassFile.FieldType.byte), Jvm.Cond.code ({ cls := "com/example/link_prestige/linkprestige/PageNamesDecimalPinLaw", name := "expected", desc := "(IIIZIB)I" } : Jvm.MethodName) method_4_code (11 : Nat) (Option.some Jvm.ClassFile.FieldType.int), Jvm.Cond.code ({ cls := "com/example/link_prestige/linkprestige/PageNames", name := "decimal", desc := "([BII)I" } : Jvm.MethodName) prog_27_method_15_code (7 : Nat) (Option.some Jvm.ClassFile.FieldType.int), Jvm.Cond.code ({ cls := "com/example/link_prestige/linkprestige/PageNamesDecimalPinLaw", name := "pow", desc := "(I)I" } : Jvm.MethodName) method_5_code (2 : Nat) (Option.some Jvm.ClassFile.FieldType.int)]
set_option maxRecDepth 65536 in
theorem codes_eq : words1.filter isCode = codes1 := rfl
theorem w_codes : ∀ c ∈ words1.filter isCode, c.before args0 about1 = true := by
  rw [codes_eq]
  intro c hc
  simp only [codes1, List.mem_cons, List.not_mem_nil, or_false] at hc
  rcases hc with rfl | rfl | rfl | rfl | rfl
  · exact w_c0
  · exact w_c1
  · exact w_c2
  · exact w_c3
  · exact w_c4
set_option maxRecDepth 65536 in
theorem w_t1 : words1.all (fun c => isCode c || c.before args0 about1) = true := by decide +kernel
theorem w_tables : (allAtoms (Jvm.Cond.code x code maxLocals ret :: tables_1)).before args0 about1 = true := by
  rw [allAtoms_all]
  show words1.all (fun c => c.before args0 about1) = true
  refine all_split ?_ w_codes
  rw [w_t1]
set_option maxRecDepth 65536 in
theorem w_case : (Jvm.Cond.and given_1 narrow_1).before args0 about1 = true := by decide +kernel
theorem w_applies : (headSpec (Jvm.Cond.code x code maxLocals ret :: tables_1) room_1).applies x e0.platform about1 = true :=
  (Spec.applies_iff w_frames).mpr ⟨w_running, w_runnable, w_alone, w_named, w_hears, w_ripe, w_room, w_tables⟩
theorem atStart : AtStart classFile x code maxLocals ret World_1 tables_1 room_1 Calls_1 rest_1 Pre_1 launch0 p0 e0 about1 theMethod args0 below0 :=
  ⟨lists_1, trivial, launch0.admits_env _ _ _, launch0.least_env, fairChoices_fair.cas, fairChoices_fair.clock, w_frames, w_args, w_heap, w_applies, trivial, trivial, w_case⟩
end start1
theorem witness_1 : WitnessClaimed_1 := ⟨start1.p0, start1.e0, start1.about1, start1.theMethod, start1.args0, start1.below0, start1.atStart⟩
end Jvm.Pilot.@@N@@
