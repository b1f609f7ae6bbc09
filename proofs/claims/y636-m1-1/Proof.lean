import JvmDerived
import JvmDerived.Pilot.@@N@@Statement
import JvmDerived.Pilot.@@N@@Code
set_option linter.unusedVariables false
set_option linter.unusedSimpArgs false
namespace Jvm.Pilot.@@N@@
open Jvm Jvm.ClassFile Sem Op Lib Jvm.Free Jvm.Stand Jvm.LawKit Jvm.RoadKit Bundle Jvm.Pilot.@@N@@.Jvm.D
section OwnGo
/-! a run that comes to its end: what a body's walk owes, of any state on the way -/
def own_Go (tb : Tables) (e : Env) (below : List Frame) (Q : Outcome → State → Prop) (U : State) : Prop := ∃ s₂ o, Steps tb e below U s₂ ∧ s₂.status = .running ∧ Ended s₂ below o ∧ Q o s₂
theorem own_by {tb : Tables} {e : Env} {below : List Frame} {Q : Outcome → State → Prop} {U V : State} (h : ∀ t, Steps tb e below V t → Steps tb e below U t) (k : own_Go tb e below Q V) : own_Go tb e below Q U := by
  obtain ⟨s2, o, h1, h2⟩ := k; exact ⟨s2, o, h _ h1, h2⟩
theorem own_tr {tb : Tables} {e : Env} {below : List Frame} {Q : Outcome → State → Prop} {U V : State} (h : Steps tb e below U V) (k : own_Go tb e below Q V) : own_Go tb e below Q U := own_by (fun _ q => h.trans q) k
theorem own_gen {α : Type} {x y : α} (h : x = y) {tb : Tables} {e : Env} {below : List Frame} {Q : Outcome → State → Prop} (F : α → State) (k : own_Go tb e below Q (F y)) : own_Go tb e below Q (F x) := h ▸ k
def own_ap (f : Option Value → Heap → List Loc → Prop) (v : Option Value) (h : Heap) (L : List Loc) : Prop := f v h L
/-- what a body's contract says of its end -/
def own_Q (s : State) (Qh : Option Value → Heap → List Loc → Prop) (C S : Nat) (o : Outcome) (U' : State) : Prop := ∃ v L, o = .returned v ∧ Qh v U'.heap L ∧ FrameEnd s o U' L C S
variable {p : Program} {l : Launch} {e : Env} {R : Room} {s : State} {m : MethodId} {args : Array Value} {below : List Frame} {meth : Method} {c : Code} {T : State} {locs : List Loc} {cells slots : Nat} {Z : State} {h : Heap} {a : Addr} {pc : Nat} {Ls : Array Slot} {rest : List Value} {Qh : Option Value → Heap → List Loc → Prop} {C S : Nat} {Q : Outcome → State → Prop}
theorem own_leave (X : Stand p l e R s m args below meth c T locs cells slots) (hlk : meth.locks = false) {v : Option Value} (hv : meth.sig.returnType = none → v = none) {f : JFrame}
    (hst : ∀ fs, (∀ (f : JFrame) (acts : List Action), f.method = m → f.locked = none → f.entered = [] → (doReturn e (T.setTop f) acts v).1 = T.setFrames fs) → Steps p.tables e below (T.setTop f) (T.setFrames fs))
    (hq : Qh v T.heap locs) (hC : cells ≤ C) (hS : slots ≤ S) : own_Go p.tables e below (own_Q s Qh C S) (T.setTop f) := by
  obtain ⟨fs, hr, hrun, hended, hW, hsame⟩ := X.leave (v := v) hv hlk
  exact ⟨_, _, hst fs hr, hrun, hended, _, _, rfl, hq, ⟨_, rfl⟩, hW, hsame.mono hC hS⟩
theorem own_retI (X : Stand p l e R s m args below meth c T locs cells slots) (hx : p.tables.exec = Jvm.exec) (hlk : meth.locks = false) (eT : T.heap = h) (hret : meth.sig.returnType = some .int) {z : Int32} (hd : decode c.code pc = .ok (.ireturn, 1))
    (hq : Qh (some (.int z)) h locs) (hC : cells ≤ C) (hS : slots ≤ S) : own_Go p.tables e below (own_Q s Qh C S) (T.setTop (mkF m pc Ls (.int z :: rest))) :=
  own_leave X hlk (v := some (.int z)) (fun q => by rw [hret] at q; cases q) (fun fs hr => retOut X hx hret rfl (Or.inl ⟨rfl, Or.inl rfl, z, rfl⟩) hd hr) (eT ▸ hq) hC hS
theorem own_retN (X : Stand p l e R s m args below meth c T locs cells slots) (hx : p.tables.exec = Jvm.exec) (hlk : meth.locks = false) (eT : T.heap = h) {t : FieldType} (hret : meth.sig.returnType = some t) (ht : t = .boolean ∨ t = .byte ∨ t = .char ∨ t = .short) {z : Int32} (hd : decode c.code pc = .ok (.ireturn, 1))
    (hq : Qh (some (.int (nar t z))) h locs) (hC : cells ≤ C) (hS : slots ≤ S) : own_Go p.tables e below (own_Q s Qh C S) (T.setTop (mkF m pc Ls (.int z :: rest))) :=
  own_leave X hlk (v := some (.int (nar t z))) (fun q => by rw [hret] at q; cases q) (fun fs hr => retN X hx hret ht hd hr) (eT ▸ hq) hC hS
theorem own_retJ (X : Stand p l e R s m args below meth c T locs cells slots) (hx : p.tables.exec = Jvm.exec) (hlk : meth.locks = false) (eT : T.heap = h) (hret : meth.sig.returnType = some .long) {z : Int64} (hd : decode c.code pc = .ok (.lreturn, 1))
    (hq : Qh (some (.long z)) h locs) (hC : cells ≤ C) (hS : slots ≤ S) : own_Go p.tables e below (own_Q s Qh C S) (T.setTop (mkF m pc Ls (.long z :: rest))) :=
  own_leave X hlk (v := some (.long z)) (fun q => by rw [hret] at q; cases q) (fun fs hr => retOut X hx hret rfl (Or.inr (Or.inl ⟨rfl, rfl, z, rfl⟩)) hd hr) (eT ▸ hq) hC hS
theorem own_retA (X : Stand p l e R s m args below meth c T locs cells slots) (hx : p.tables.exec = Jvm.exec) (hlk : meth.locks = false) (eT : T.heap = h) {t : FieldType} (hret : meth.sig.returnType = some t) (ht : t.isReference = true) {w : Value} (hn : narrow t w = w) (hw : w.isRef = true) (hd : decode c.code pc = .ok (.areturn, 1))
    (hq : Qh (some w) h locs) (hC : cells ≤ C) (hS : slots ≤ S) : own_Go p.tables e below (own_Q s Qh C S) (T.setTop (mkF m pc Ls (w :: rest))) :=
  own_leave X hlk (v := some w) (fun q => by rw [hret] at q; cases q) (fun fs hr => retOut X hx hret hn (Or.inr (Or.inr (Or.inr (Or.inr ⟨rfl, ht, hw⟩)))) hd hr) (eT ▸ hq) hC hS
theorem own_retV (X : Stand p l e R s m args below meth c T locs cells slots) (hx : p.tables.exec = Jvm.exec) (hlk : meth.locks = false) (eT : T.heap = h) (hret : meth.sig.returnType = none) (hd : decode c.code pc = .ok (.return_, 1))
    (hq : Qh none h locs) (hC : cells ≤ C) (hS : slots ≤ S) : own_Go p.tables e below (own_Q s Qh C S) (T.setTop (mkF m pc Ls [])) :=
  own_leave X hlk (v := none) (fun _ => rfl) (fun fs hr => X.returnOut hx hret hd hr) (eT ▸ hq) hC hS
/-! an array by its places -/
def own_upd {α : Type} (f : Nat → α) (k : Nat) (v : α) : Nat → α := fun j => if j = k then v else f j
theorem own_upd_eq {α : Type} (f : Nat → α) (k : Nat) (v : α) : own_upd f k v k = v := by simp [own_upd]
theorem own_upd_ne {α : Type} (f : Nat → α) {k j : Nat} (v : α) (q : j ≠ k) : own_upd f k v j = f j := by simp [own_upd, q]
def own_Ar (Z : State) (h : Heap) (a : Addr) (ty : FieldType) (n : Nat) (f : Nat → Value) : Prop := ∃ cl : Cell, Arr Z h a cl ty ∧ cl.slots.size = n ∧ ∀ j, j < n → cl.slots[j]? = some (f j)
/-- ints and what is kept as ints -/
abbrev own_AI (Z : State) (h : Heap) (a : Addr) (ty : FieldType) (n : Nat) (f : Nat → Int32) : Prop := own_Ar Z h a ty n (fun j => .int (f j))
abbrev own_AJ (Z : State) (h : Heap) (a : Addr) (n : Nat) (f : Nat → Int64) : Prop := own_Ar Z h a .long n (fun j => .long (f j))
section
variable {h' : Heap} {b : Addr} {ty : FieldType} {n : Nat} {f : Nat → Value} {v : Value} {sl : Nat} {ws : List Addr}
theorem own_Ar.lt (A : own_Ar Z h a ty n f) : a < h.size := by obtain ⟨cl, q, -⟩ := A; exact q.lt
theorem own_Ar.ext (A : own_Ar Z h a ty n f) (E : Ext h h') : own_Ar Z h' a ty n f := by obtain ⟨cl, q, r⟩ := A; exact ⟨cl, q.ext E, r⟩
theorem own_Ar.other (A : own_Ar Z h a ty n f) (W : Wr h h' b sl v) (q : a ≠ b) : own_Ar Z h' a ty n f := by obtain ⟨cl, r, r'⟩ := A; exact ⟨cl, r.other W q, r'⟩
theorem own_Ar.keep (A : own_Ar Z h a ty n f) (K : Keep h h' ws) (q : a ∉ ws) : own_Ar Z h' a ty n f := by obtain ⟨cl, r, r'⟩ := A; exact ⟨cl, ⟨K.2.1 _ _ r.1 q, r.2⟩, r'⟩
theorem own_Ar.congr (A : own_Ar Z h a ty n f) {g : Nat → Value} (q : ∀ j, j < n → f j = g j) : own_Ar Z h a ty n g := by obtain ⟨cl, r, r1, r2⟩ := A; exact ⟨cl, r, r1, fun j hj => by rw [r2 j hj, q j hj]⟩
theorem own_in {j : Int32} {k n : Nat} (hk : j.toInt = (k : Int)) (hn : k < n) {cl : Cell} (S : cl.slots.size = n) : ¬ (j < 0 ∨ cl.slots.size ≤ j.toNatClampNeg) ∧ j.toNatClampNeg = k := by
  have q : j.toNatClampNeg = k := by simp [Int32.toNatClampNeg, hk]
  refine ⟨fun r => ?_, q⟩
  rcases r with r | r
  · rw [Int32.lt_iff_toInt_lt] at r; simp only [Int32.reduceToInt] at r; omega
  · omega
theorem own_Ar.set (A : own_Ar Z h a ty n f) {k : Nat} (hk : k < n) (W : Wr h h' a k v) : own_Ar Z h' a ty n (own_upd f k v) := by
  obtain ⟨cl, r, r1, r2⟩ := A
  refine ⟨_, r.same W, by rw [sz_set]; exact r1, fun j hj => ?_⟩
  show (cl.slots.setIfInBounds k v)[j]? = _
  by_cases q : j = k
  · subst q; simp [own_upd, r1, hj]
  · rw [Array.getElem?_setIfInBounds_ne (fun y => q y.symm), r2 j hj, own_upd_ne _ _ q]
end
theorem own_bal (X : Stand p l e R s m args below meth c T locs cells slots) (hx : p.tables.exec = Jvm.exec) (hZ : Z.Warmed39 s.vm) (eT : T.heap = h) {n : Nat} {f : Nat → Value} (A : own_Ar Z h a .byte n f) {j : Int32} (k : Nat) (hk : j.toInt = (k : Int)) (hn : k < n) (hd : decode c.code pc = .ok (.baload, 1)) {t : State}
    (kt : Steps p.tables e below (T.setTop (mkF m (pc + 1) Ls (f k :: rest))) t) : Steps p.tables e below (T.setTop (mkF m pc Ls (.int j :: .ref a :: rest))) t := by
  obtain ⟨cl, r, r1, r2⟩ := A
  obtain ⟨q1, q2⟩ := own_in hk hn r1
  exact X.baloadBytes hx (j := j) (v := f k) (by rw [eT]; exact r.1) (State.isArrayOf_alike hZ.alike r.2.1) r.2.2 q1 (by rw [q2]; exact r2 k hn) (g := mkF m pc Ls (.int j :: .ref a :: rest)) rfl rfl hd _ kt
theorem own_ial (X : Stand p l e R s m args below meth c T locs cells slots) (hx : p.tables.exec = Jvm.exec) (hZ : Z.Warmed39 s.vm) (eT : T.heap = h) {n : Nat} {f : Nat → Value} (A : own_Ar Z h a .int n f) {j : Int32} (k : Nat) (hk : j.toInt = (k : Int)) (hn : k < n) (hd : decode c.code pc = .ok (.iaload, 1)) {t : State}
    (kt : Steps p.tables e below (T.setTop (mkF m (pc + 1) Ls (f k :: rest))) t) : Steps p.tables e below (T.setTop (mkF m pc Ls (.int j :: .ref a :: rest))) t := by
  obtain ⟨cl, r, r1, r2⟩ := A
  obtain ⟨q1, q2⟩ := own_in hk hn r1
  exact X.iaload hx (j := j) (v := f k) (by rw [eT]; exact r.1) (State.isArrayOf_alike hZ.alike r.2.1) r.2.2 q1 (by rw [q2]; exact r2 k hn) (g := mkF m pc Ls (.int j :: .ref a :: rest)) rfl rfl hd _ kt
theorem own_lal (X : Stand p l e R s m args below meth c T locs cells slots) (hx : p.tables.exec = Jvm.exec) (hZ : Z.Warmed39 s.vm) (eT : T.heap = h) {n : Nat} {f : Nat → Value} (A : own_Ar Z h a .long n f) {j : Int32} (k : Nat) (hk : j.toInt = (k : Int)) (hn : k < n) (hd : decode c.code pc = .ok (.laload, 1)) {t : State}
    (kt : Steps p.tables e below (T.setTop (mkF m (pc + 1) Ls (f k :: rest))) t) : Steps p.tables e below (T.setTop (mkF m pc Ls (.int j :: .ref a :: rest))) t := by
  obtain ⟨cl, r, r1, r2⟩ := A
  obtain ⟨q1, q2⟩ := own_in hk hn r1
  exact X.laload hx (j := j) (v := f k) (by rw [eT]; exact r.1) (State.isArrayOf_alike hZ.alike r.2.1) r.2.2 q1 (by rw [q2]; exact r2 k hn) (g := mkF m pc Ls (.int j :: .ref a :: rest)) rfl rfl hd _ kt
theorem own_len (X : Stand p l e R s m args below meth c T locs cells slots) (hx : p.tables.exec = Jvm.exec) (hZ : Z.Warmed39 s.vm) (eT : T.heap = h) {ty : FieldType} {n : Nat} {f : Nat → Value} (A : own_Ar Z h a ty n f) (z : Int32) (hz : z = n.toInt32) (hd : decode c.code pc = .ok (.arraylength, 1)) {t : State}
    (kt : Steps p.tables e below (T.setTop (mkF m (pc + 1) Ls (.int z :: rest))) t) : Steps p.tables e below (T.setTop (mkF m pc Ls (.ref a :: rest))) t := by
  obtain ⟨cl, r, r1, r2⟩ := A
  refine X.arraylength hx (by rw [eT]; exact r.1) (State.isArrayOf_alike hZ.alike r.2.1) (g := mkF m pc Ls (.ref a :: rest)) rfl rfl hd _ ?_
  rw [r1, ← hz]; exact kt
theorem own_bas (X : Stand p l e R s m args below meth c T locs cells slots) (hx : p.tables.exec = Jvm.exec) (hZ : Z.Warmed39 s.vm) (eT : T.heap = h) {n : Nat} {f : Nat → Int32} (A : own_AI Z h a .byte n f) {j x : Int32} (k : Nat) (hk : j.toInt = (k : Int)) (hn : k < n) (hd : decode c.code pc = .ok (.bastore, 1))
    (K : ∀ T' h', Stand p l e R s m args below meth c T' (locs ++ [⟨a, k⟩]) cells slots → T'.heap = h' → Wr h h' a k (.int (nar .byte x)) → own_AI Z h' a .byte n (own_upd f k (nar .byte x)) → own_Go p.tables e below Q (T'.setTop (mkF m (pc + 1) Ls rest))) :
    own_Go p.tables e below Q (T.setTop (mkF m pc Ls (.int x :: .int j :: .ref a :: rest))) := by
  obtain ⟨cl, r, r1, r2⟩ := id A
  obtain ⟨q1, q2⟩ := own_in hk hn r1
  obtain ⟨T', h', X', e', W, st⟩ := stB X hx hZ eT r (j := j) (x := x) q1 (g := mkF m pc Ls (.int x :: .int j :: .ref a :: rest)) rfl rfl hd
  rw [q2] at X' W
  exact own_by st (K T' h' X' e' W ((A.set hn W).congr fun i hi => by simp only [own_upd]; split <;> rfl))
theorem own_ias (X : Stand p l e R s m args below meth c T locs cells slots) (hx : p.tables.exec = Jvm.exec) (hZ : Z.Warmed39 s.vm) (eT : T.heap = h) {n : Nat} {f : Nat → Int32} (A : own_AI Z h a .int n f) {j x : Int32} (k : Nat) (hk : j.toInt = (k : Int)) (hn : k < n) (hd : decode c.code pc = .ok (.iastore, 1))
    (K : ∀ T' h', Stand p l e R s m args below meth c T' (locs ++ [⟨a, k⟩]) cells slots → T'.heap = h' → Wr h h' a k (.int x) → own_AI Z h' a .int n (own_upd f k x) → own_Go p.tables e below Q (T'.setTop (mkF m (pc + 1) Ls rest))) :
    own_Go p.tables e below Q (T.setTop (mkF m pc Ls (.int x :: .int j :: .ref a :: rest))) := by
  obtain ⟨cl, r, r1, r2⟩ := id A
  obtain ⟨q1, q2⟩ := own_in hk hn r1
  obtain ⟨T', h', X', e', W, st⟩ := stI X hx hZ eT r (j := j) (x := x) q1 (g := mkF m pc Ls (.int x :: .int j :: .ref a :: rest)) rfl rfl hd
  rw [q2] at X' W
  exact own_by st (K T' h' X' e' W ((A.set hn W).congr fun i hi => by simp only [own_upd]; split <;> rfl))
theorem own_las (X : Stand p l e R s m args below meth c T locs cells slots) (hx : p.tables.exec = Jvm.exec) (hZ : Z.Warmed39 s.vm) (eT : T.heap = h) {n : Nat} {f : Nat → Int64} (A : own_AJ Z h a n f) {j : Int32} {x : Int64} (k : Nat) (hk : j.toInt = (k : Int)) (hn : k < n) (hd : decode c.code pc = .ok (.lastore, 1))
    (K : ∀ T' h', Stand p l e R s m args below meth c T' (locs ++ [⟨a, k⟩]) cells slots → T'.heap = h' → Wr h h' a k (.long x) → own_AJ Z h' a n (own_upd f k x) → own_Go p.tables e below Q (T'.setTop (mkF m (pc + 1) Ls rest))) :
    own_Go p.tables e below Q (T.setTop (mkF m pc Ls (.long x :: .int j :: .ref a :: rest))) := by
  obtain ⟨cl, r, r1, r2⟩ := id A
  obtain ⟨q1, q2⟩ := own_in hk hn r1
  obtain ⟨T', h', X', e', W, st⟩ := stJ X hx hZ eT r (j := j) (x := x) q1 (g := mkF m pc Ls (.long x :: .int j :: .ref a :: rest)) rfl rfl hd
  rw [q2] at X' W
  exact own_by st (K T' h' X' e' W ((A.set hn W).congr fun i hi => by simp only [own_upd]; split <;> rfl))
theorem own_newP (X : Stand p l e R s m args below meth c T locs cells slots) (hx : p.tables.exec = Jvm.exec) (hZ : Z.Warmed39 s.vm) {a0 : Array Value} {aty : ArrayType} (w : (Cond.arrayClass (newarray.typeOf aty)).before a0 Z = true) (eT : T.heap = h) {n : Int32} (k : Nat) (hk : n.toInt = (k : Int)) (cap : Nat) (hcap : k ≤ cap) (hb : cap * 8 ≤ 536870912) (hc : cells + 1 ≤ R.cells) (hl : slots + cap ≤ R.slots)
    (hd : decode c.code pc = .ok (.newarray aty, 2))
    (K : ∀ T' h', Stand p l e R s m args below meth c T' locs (cells + 1) (slots + cap) → T'.heap = h' → Ext h h' → own_Ar Z h' h.size (newarray.typeOf aty) k (fun _ => defaultValue (newarray.typeOf aty)) → own_Go p.tables e below Q (T'.setTop (mkF m (pc + 2) Ls (.ref h.size :: rest)))) :
    own_Go p.tables e below Q (T.setTop (mkF m pc Ls (.int n :: rest))) := by
  have q : n.toNatClampNeg = k := by simp [Int32.toNatClampNeg, hk]
  have q0 : ¬ n < 0 := by rw [Int32.lt_iff_toInt_lt]; simp only [Int32.reduceToInt]; omega
  obtain ⟨T', h', kk, X', e', E, A, st⟩ := newP X hx hZ w eT (n := n) (g := mkF m pc Ls (.int n :: rest)) rfl hd rfl q0 (cap := cap) (by rw [q]; exact hcap) hb hc hl
  refine own_by st (K T' h' X' e' E ⟨_, A, by rw [sz_new, q], fun j hj => ?_⟩)
  simp [newA, q, hj]
section
variable {a0 : Array Value} {own : String} {index : Nat} {y : MethodName} {bytes : ByteArray} {maxL : Nat} {ret : Option FieldType} {rm : Room} {as' : Array Value} {Qc : Option Value → Heap → List Loc → Prop} {argsL : List Value} {St : List Value}
/-! calls by contract, with what comes behind -/
theorem own_callS (X : Stand p l e R s m args below meth c T locs cells slots) (hx : p.tables.exec = Jvm.exec) (hZ : Z.Warmed39 s.vm) (hown : s.vm.findClass own = some m.cls)
    (w1 : (Cond.methodLink own index y).before a0 Z = true) (w2 : (Cond.static y).before a0 Z = true) (w3 : (Cond.initialized y.cls).before a0 Z = true) (w4 : (Cond.code y bytes maxL ret).before a0 Z = true) (hy : y.cls ≠ "java/lang/invoke/MethodHandle" ∧ y.cls ≠ "java/lang/invoke/VarHandle")
    (hM : MetFree l y (head1 [Cond.code y bytes maxL ret] rm) (fun a U => a = as' ∧ Z.Warmed39 U.vm ∧ U.heap = h) (fun _ _ _ _ _ => True) (fun _ U o U' => ∃ v L, o = .returned v ∧ Qc v U'.heap L ∧ FrameEnd U o U' L rm.cells rm.slots))
    (eT : T.heap = h) (hsize : Ls.size = c.maxLocals) (argsL rest : List Value) (hst : St = argsL.reverse ++ rest) (hlen : ∀ sig, parseMethodDescriptor y.desc = some sig → argsL.length = sig.parameters.length) (ha : argsL.toArray = as') (W : Nat) (hW : 2 * 0 + (rest.map fun v => v.category).sum ≤ W)
    (hf : rm.frames + 1 ≤ R.frames) (hl : W + (maxL + 11) + rm.locals ≤ R.locals) (hc : cells + rm.cells ≤ R.cells) (hs : slots + rm.slots ≤ R.slots) (hd : decode c.code pc = .ok (.invokestatic index, 3))
    (K : ∀ T' Lc v, Stand p l e R s m args below meth c T' (locs ++ Lc) (cells + rm.cells) (slots + rm.slots) → Qc v T'.heap Lc → own_Go p.tables e below Q (T'.setTop (mkF m (pc + 3) Ls (v.toList ++ rest)))) :
    own_Go p.tables e below Q (T.setTop (mkF m pc Ls St)) := by
  obtain ⟨v, _, ⟨T1, L1, k1, n1⟩, -, X1, ⟨Lc, hQ, l1, y1, z1⟩, st1⟩ := Jvm.LawKit.callS X hx (y := y) hown (mvT hZ w1) (mvT hZ w2) (mvT hZ w3) (mvT hZ w4) hy (backOf (W := W) hM hZ w4 w3 hf hl) (g := mkF m pc Ls St) rfl hsize (argsL := argsL) (rest := rest) hlen hst hW hd (fun _ _ => ⟨ha, eT, hc, hs⟩)
  dsimp only [Pt.U, Pt.locs, Pt.cells, Pt.slots] at X1 l1 y1 z1 st1 hQ
  subst l1 y1 z1
  exact own_by st1 (K T1 Lc v X1 hQ)
theorem own_callI (X : Stand p l e R s m args below meth c T locs cells slots) (hx : p.tables.exec = Jvm.exec) (hZ : Z.Warmed39 s.vm) (hown : s.vm.findClass own = some m.cls) (hy1 : y.name = "<init>")
    (w1 : (Cond.methodLink own index y).before a0 Z = true) (w2 : (Cond.instanceMethod y).before a0 Z = true) (w3 : (Cond.initialized y.cls).before a0 Z = true) (w4 : (Cond.code y bytes maxL none).before a0 Z = true) (hy : y.cls ≠ "java/lang/invoke/MethodHandle" ∧ y.cls ≠ "java/lang/invoke/VarHandle")
    (hM : MetFree l y (head1 [Cond.code y bytes maxL none] rm) (fun a U => a = as' ∧ Z.Warmed39 U.vm ∧ U.heap = h) (fun _ _ _ _ _ => True) (fun _ U o U' => ∃ v L, o = .returned v ∧ Qc v U'.heap L ∧ FrameEnd U o U' L rm.cells rm.slots))
    (eT : T.heap = h) (hsize : Ls.size = c.maxLocals) (b : Addr) (argsL rest : List Value) (hst : St = argsL.reverse ++ .ref b :: rest) (hlen : ∀ sig, parseMethodDescriptor y.desc = some sig → argsL.length = sig.parameters.length) (ha : (Value.ref b :: argsL).toArray = as') (W : Nat) (hW : 2 * 0 + (rest.map fun v => v.category).sum ≤ W)
    (hf : rm.frames + 1 ≤ R.frames) (hl : W + (maxL + 11) + rm.locals ≤ R.locals) (hc : cells + rm.cells ≤ R.cells) (hs : slots + rm.slots ≤ R.slots) (hd : decode c.code pc = .ok (.invokespecial index, 3))
    (K : ∀ T' Lc v, Stand p l e R s m args below meth c T' (locs ++ Lc) (cells + rm.cells) (slots + rm.slots) → Qc v T'.heap Lc → own_Go p.tables e below Q (T'.setTop (mkF m (pc + 3) Ls (v.toList ++ rest)))) :
    own_Go p.tables e below Q (T.setTop (mkF m pc Ls St)) := by
  obtain ⟨v, _, ⟨T1, L1, k1, n1⟩, -, X1, ⟨Lc, hQ, l1, y1, z1⟩, st1⟩ := X.specialBack hx (y := y) hy1 hown (mvT hZ w1) (mvT hZ w2) (mvT hZ w4) hy (backOf (W := W) hM hZ w4 w3 hf hl) (g := mkF m pc Ls St) rfl hsize (Steps.refl _) (a := b) (argsL := argsL) (rest := rest) hlen hst hW hd (fun _ _ => ⟨ha, eT, hc, hs⟩)
  dsimp only [Pt.U, Pt.locs, Pt.cells, Pt.slots] at X1 l1 y1 z1 st1 hQ
  subst l1 y1 z1
  exact own_tr st1 (K T1 Lc v X1 hQ)
theorem own_callV {C : String} {z : MethodName} (X : Stand p l e R s m args below meth c T locs cells slots) (hx : p.tables.exec = Jvm.exec) (hZ : Z.Warmed39 s.vm) (hown : s.vm.findClass own = some m.cls)
    (w1 : (Cond.methodLink own index y).before a0 Z = true) (w2 : (Cond.declares y).before a0 Z = true) (hnf : NotFace s y) (w5 : (Cond.selects C y z).before a0 Z = true) (w6 : (Cond.instanceMethod z).before a0 Z = true) (w3 : (Cond.initialized z.cls).before a0 Z = true) (w4 : (Cond.code z bytes maxL ret).before a0 Z = true) (hy : y.cls ≠ "java/lang/invoke/MethodHandle" ∧ y.cls ≠ "java/lang/invoke/VarHandle")
    (hM : MetFree l z (head1 [Cond.code z bytes maxL ret] rm) (fun a U => a = as' ∧ Z.Warmed39 U.vm ∧ U.heap = h) (fun _ _ _ _ _ => True) (fun _ U o U' => ∃ v L, o = .returned v ∧ Qc v U'.heap L ∧ FrameEnd U o U' L rm.cells rm.slots))
    (eT : T.heap = h) (b : Addr) (E : Exa Z h b C) (hsize : Ls.size = c.maxLocals) (argsL rest : List Value) (hst : St = argsL.reverse ++ .ref b :: rest) (hlen : ∀ sig, parseMethodDescriptor y.desc = some sig → argsL.length = sig.parameters.length) (ha : (Value.ref b :: argsL).toArray = as') (W : Nat) (hW : 2 * 0 + (rest.map fun v => v.category).sum ≤ W)
    (hf : rm.frames + 1 ≤ R.frames) (hl : W + (maxL + 11) + rm.locals ≤ R.locals) (hc : cells + rm.cells ≤ R.cells) (hs : slots + rm.slots ≤ R.slots) (hd : decode c.code pc = .ok (.invokevirtual index, 3))
    (K : ∀ T' Lc v, Stand p l e R s m args below meth c T' (locs ++ Lc) (cells + rm.cells) (slots + rm.slots) → Qc v T'.heap Lc → own_Go p.tables e below Q (T'.setTop (mkF m (pc + 3) Ls (v.toList ++ rest)))) :
    own_Go p.tables e below Q (T.setTop (mkF m pc Ls St)) := by
  obtain ⟨cq, kq, qa, qb, qc⟩ := isOf hZ eT E
  obtain ⟨v, _, ⟨T1, L1, k1, n1⟩, -, X1, ⟨Lc, hQ, l1, y1, z1⟩, st1⟩ := X.virtualBack hx (y := y) (z := z) hown (mvT hZ w1) (mvT hZ w2) hnf (mvT hZ w5) (mvT hZ w6) hy (backOf (W := W) hM hZ w4 w3 hf hl) qa qc (g := mkF m pc Ls St) rfl hsize (Steps.refl _) (argsL := argsL) (rest := rest) hlen hst hW hd (fun _ _ => ⟨ha, eT, hc, hs⟩)
  dsimp only [Pt.U, Pt.locs, Pt.cells, Pt.slots] at X1 l1 y1 z1 st1 hQ
  subst l1 y1 z1
  exact own_tr st1 (K T1 Lc v X1 hQ)
theorem own_selp {s : State} {aa : Array Value} {y y' : MethodName} (hc : y.cls = y'.cls) (w1 : (Cond.selects y'.cls y' y').before aa s = true) (hpriv : s.PrivateAt y) (hinst : (Cond.instanceMethod y).before aa s = true) (hy : y.cls ≠ "java/lang/invoke/MethodHandle" ∧ y.cls ≠ "java/lang/invoke/VarHandle") : (Cond.selects y.cls y y).before aa s = true := by
  obtain ⟨c2, r2, m2, q0, -, q3, -, kP, hkP, hkPi⟩ := Cond.selects_spec w1
  have h1 : s.vm.findClass y'.cls = some m2.cls := findClass_of_methodNamed q3
  exact selects_self_of_private (by rw [hc]; exact h1) hkP hkPi hpriv hinst hy
theorem own_callP {y' : MethodName} (X : Stand p l e R s m args below meth c T locs cells slots) (hx : p.tables.exec = Jvm.exec) (hZ : Z.Warmed39 s.vm) (hown : s.vm.findClass own = some m.cls)
    (w1 : (Cond.methodLink own index y).before a0 Z = true) (w2 : (Cond.instanceMethod y).before a0 Z = true) (w5 : (Cond.privateMethod y).before a0 Z = true) (hcc : y.cls = y'.cls) (w6 : (Cond.selects y'.cls y' y').before a0 Z = true) (w3 : (Cond.initialized y.cls).before a0 Z = true) (w4 : (Cond.code y bytes maxL ret).before a0 Z = true) (hy : y.cls ≠ "java/lang/invoke/MethodHandle" ∧ y.cls ≠ "java/lang/invoke/VarHandle")
    (hM : MetFree l y (head1 [Cond.code y bytes maxL ret] rm) (fun a U => a = as' ∧ Z.Warmed39 U.vm ∧ U.heap = h) (fun _ _ _ _ _ => True) (fun _ U o U' => ∃ v L, o = .returned v ∧ Qc v U'.heap L ∧ FrameEnd U o U' L rm.cells rm.slots))
    (eT : T.heap = h) (b : Addr) {C : String} (E : Exa Z h b C) (hsize : Ls.size = c.maxLocals) (argsL rest : List Value) (hst : St = argsL.reverse ++ .ref b :: rest) (hlen : ∀ sig, parseMethodDescriptor y.desc = some sig → argsL.length = sig.parameters.length) (ha : (Value.ref b :: argsL).toArray = as') (W : Nat) (hW : 2 * 0 + (rest.map fun v => v.category).sum ≤ W)
    (hf : rm.frames + 1 ≤ R.frames) (hl : W + (maxL + 11) + rm.locals ≤ R.locals) (hc : cells + rm.cells ≤ R.cells) (hs : slots + rm.slots ≤ R.slots) (hd : decode c.code pc = .ok (.invokevirtual index, 3))
    (K : ∀ T' Lc v, Stand p l e R s m args below meth c T' (locs ++ Lc) (cells + rm.cells) (slots + rm.slots) → Qc v T'.heap Lc → own_Go p.tables e below Q (T'.setTop (mkF m (pc + 3) Ls (v.toList ++ rest)))) :
    own_Go p.tables e below Q (T.setTop (mkF m pc Ls St)) := by
  obtain ⟨cq, q1, q2⟩ := E.cell
  have hpr := Cond.privateMethod_at (mvP hZ w5 (args := #[]))
  obtain ⟨v, _, ⟨T1, L1, k1, n1⟩, -, X1, ⟨Lc, hQ, l1, y1, z1⟩, st1⟩ := X.privateBack hx (y := y) hown (mvT hZ w1) (mvT hZ w2) (own_selp hcc (mvT hZ w6) hpr (mvT hZ w2) hy) hpr (mvT hZ w4) hy (backOf (W := W) hM hZ w4 w3 hf hl) (g := mkF m pc Ls St) rfl hsize (Steps.refl _) (a := b) (by rw [eT]; exact q1) q2 (argsL := argsL) (rest := rest) hlen hst hW hd (fun _ _ => ⟨ha, eT, hc, hs⟩)
  dsimp only [Pt.U, Pt.locs, Pt.cells, Pt.slots] at X1 l1 y1 z1 st1 hQ
  subst l1 y1 z1
  exact own_tr st1 (K T1 Lc v X1 hQ)
end
theorem own_size_wr {h h' : Heap} {b : Addr} {sl : Nat} {v : Value} {n0 : Nat} (W : Wr h h' b sl v) (q : n0 ≤ h.size) : n0 ≤ h'.size := by rw [W.size]; exact q
end OwnGo
theorem own_pd0 : parseMethodDescriptor "([JII)V" = some ⟨[(.array .long), .int, .int], none⟩ := by decide +kernel
theorem own_pd1 : parseMethodDescriptor "(I)V" = some ⟨[.int], none⟩ := by decide +kernel
theorem own_pd2 : parseMethodDescriptor "(II)I" = some ⟨[.int, .int], some .int⟩ := by decide +kernel
theorem own_pd3 : parseMethodDescriptor "(J)V" = some ⟨[.long], none⟩ := by decide +kernel
theorem own_pd4 : parseMethodDescriptor "([JI)[J" = some ⟨[(.array .long), .int], some (.array .long)⟩ := by decide +kernel
theorem own_pd5 : parseMethodDescriptor "()J" = some ⟨[], some .long⟩ := by decide +kernel
theorem own_pd6 : parseMethodDescriptor "()Z" = some ⟨[], some .boolean⟩ := by decide +kernel
theorem own_ofN {e : Nat} (h : e < 2147483648) : (Int32.ofNat e).toInt = (e : Int) := Int32.toInt_ofNat_small h
theorem own_clamp {z : Int32} {n : Nat} (h : z.toInt = (n : Int)) : z.toNatClampNeg = n ∧ ¬ z < 0 := by
  refine ⟨by simp [Int32.toNatClampNeg, h], ?_⟩
  rw [Int32.lt_iff_toInt_lt]; simp only [Int32.reduceToInt]; omega
theorem own_toArv {Z : State} {h : Heap} {a : Addr} {n : Nat} {f : Nat → Int64} (A : own_AJ Z h a n f) {z : Int32} (hz : z.toInt = (n : Int)) : ∃ k, Arv Z h a k .long z ((List.range n).map fun j => Value.long (f j)) (.long 0) := by
  obtain ⟨cl, r, r1, r2⟩ := A
  obtain ⟨q1, q2⟩ := own_clamp hz
  have g : ∀ i, i < n → ((List.range n).map fun j => Value.long (f j)).getD i (.long 0) = .long (f i) := fun i hi => by
    simp [List.getD_eq_getElem?_getD, hi]
  exact ⟨cl.cls, cl, r, rfl, by rw [r1, q1], q2, fun i hi => by rw [g i (by omega)]; exact r2 i (by omega), fun i hi => by rw [g i (by omega)]; rfl⟩
theorem own_ofArv {Z : State} {h : Heap} {a : Addr} {k : ClassId} {n : Nat} {f : Nat → Int64} {z : Int32} {vs : List Value} {d : Value} (A : Arv Z h a k .long z vs d) (hz : z.toInt = (n : Int)) (hf : ∀ j, j < n → vs.getD j d = .long (f j)) : own_AJ Z h a n f := by
  obtain ⟨cl, r, -, r2, -, r4, -⟩ := A
  obtain ⟨q1, q2⟩ := own_clamp hz
  exact ⟨cl, r, by rw [r2, q1], fun j hj => by rw [r4 j (by omega), hf j hj]⟩
theorem own_cpd (n N : Nat) (h : n ≤ N) (f g : Nat → Int64) (j : Nat) (hj : j < N) : (((List.range N).map fun j => Value.long (g j)).take 0 ++ ((List.range n).map fun i => ((List.range n).map fun j => Value.long (f j)).getD (0 + i) (.long 0)) ++ ((List.range N).map fun j => Value.long (g j)).drop (0 + n)).getD j (.long 0) = .long (if j < n then f j else g j) := by
  simp only [List.take_zero, List.nil_append, Nat.zero_add, List.getD_eq_getElem?_getD]
  by_cases q : j < n
  · rw [List.getElem?_append_left (by simpa using q)]
    simp [q]
  · rw [List.getElem?_append_right (by simpa using Nat.le_of_not_lt q)]
    have e : n + (j - n) = j := by omega
    simp [q, e, hj]
theorem d7_0 : decode jdk_29_method_69_code 0 = .ok (.iload_n 0, 1) := by decide +kernel
theorem d7_1 : decode jdk_29_method_69_code 1 = .ok (.iload_n 1, 1) := by decide +kernel
theorem d7_2 : decode jdk_29_method_69_code 2 = .ok (.if_icmp .gt 7, 3) := by decide +kernel
theorem d7_5 : decode jdk_29_method_69_code 5 = .ok (.iload_n 0, 1) := by decide +kernel
theorem d7_6 : decode jdk_29_method_69_code 6 = .ok (.goto 4, 3) := by decide +kernel
theorem d7_9 : decode jdk_29_method_69_code 9 = .ok (.iload_n 1, 1) := by decide +kernel
theorem d7_10 : decode jdk_29_method_69_code 10 = .ok (.ireturn, 1) := by decide +kernel
theorem d6_0 : decode jdk_65_method_124_code 0 = .ok (.iload_n 1, 1) := by decide +kernel
theorem d6_1 : decode jdk_65_method_124_code 1 = .ok (.aload_n 0, 1) := by decide +kernel
theorem d6_2 : decode jdk_65_method_124_code 2 = .ok (.arraylength, 1) := by decide +kernel
theorem d6_3 : decode jdk_65_method_124_code 3 = .ok (.if_icmp .ne 11, 3) := by decide +kernel
theorem d6_6 : decode jdk_65_method_124_code 6 = .ok (.aload_n 0, 1) := by decide +kernel
theorem d6_7 : decode jdk_65_method_124_code 7 = .ok (.invokevirtual 319, 3) := by decide +kernel
theorem d6_10 : decode jdk_65_method_124_code 10 = .ok (.checkcast 320, 3) := by decide +kernel
theorem d6_13 : decode jdk_65_method_124_code 13 = .ok (.areturn, 1) := by decide +kernel
theorem d6_14 : decode jdk_65_method_124_code 14 = .ok (.iload_n 1, 1) := by decide +kernel
theorem d6_15 : decode jdk_65_method_124_code 15 = .ok (.newarray .long, 2) := by decide +kernel
theorem d6_17 : decode jdk_65_method_124_code 17 = .ok (.astore_n 2, 1) := by decide +kernel
theorem d6_18 : decode jdk_65_method_124_code 18 = .ok (.aload_n 0, 1) := by decide +kernel
theorem d6_19 : decode jdk_65_method_124_code 19 = .ok (.iconst 0, 1) := by decide +kernel
theorem d6_20 : decode jdk_65_method_124_code 20 = .ok (.aload_n 2, 1) := by decide +kernel
theorem d6_21 : decode jdk_65_method_124_code 21 = .ok (.iconst 0, 1) := by decide +kernel
theorem d6_22 : decode jdk_65_method_124_code 22 = .ok (.aload_n 0, 1) := by decide +kernel
theorem d6_23 : decode jdk_65_method_124_code 23 = .ok (.arraylength, 1) := by decide +kernel
theorem d6_24 : decode jdk_65_method_124_code 24 = .ok (.iload_n 1, 1) := by decide +kernel
theorem d6_25 : decode jdk_65_method_124_code 25 = .ok (.invokestatic 304, 3) := by decide +kernel
theorem d6_28 : decode jdk_65_method_124_code 28 = .ok (.invokestatic 150, 3) := by decide +kernel
theorem d6_31 : decode jdk_65_method_124_code 31 = .ok (.aload_n 2, 1) := by decide +kernel
theorem d6_32 : decode jdk_65_method_124_code 32 = .ok (.areturn, 1) := by decide +kernel
theorem pn_6 : plainName "java/util/Arrays" = true := by first | (simp [plainName, overriddenIn]; done) | decide +kernel
set_option maxRecDepth 65536 in
set_option maxHeartbeats 40000000 in
theorem rm7 (l : Launch) (Z : State) (a0 : Array Value) (hw : ∀ d ∈ tables_1, d.before a0 Z = true) (ws : List Jvm.Cond) (p1 : Int32) (p2 : Int32)  (h0 : Heap) (n0 : Nat) (Z0 : n0 ≤ h0.size) :
    MetFree l (⟨"java/lang/Math", "min", "(II)I"⟩ : MethodName) (head1 (Jvm.Cond.code (⟨"java/lang/Math", "min", "(II)I"⟩ : MethodName) jdk_29_method_69_code 2 (some .int) :: ws) ({ frames := 0, cells := 0, slots := 0, locals := 0 } : Room)) (fun a U => a = #[(.int p1), (.int p2)] ∧ Z.Warmed39 U.vm ∧ U.heap = h0) (fun _ _ _ _ _ => True) (fun _ U o U' => ∃ vv LL, o = .returned vv ∧ own_ap (fun v h L => v = some (.int (if p2 < p1 then p2 else p1)) ∧ Fr n0 L ∧ h = h0) vv U'.heap LL ∧ FrameEnd U o U' LL 0 0) := by
  refine MetFree.of_bodySF (Jvm.Free.JP.mathPlain rfl (by decide +kernel)) hisR ?_
  intro p e s m args below meth c s₁ Bd hml0 hP hK
  obtain ⟨rfl, hZ, hh⟩ := hP
  have hx := Bd.exec
  have hby := Bd.bytes
  have hml : c.maxLocals = 2 := hml0
  have hown : s.vm.findClass "java/lang/Math" = some m.cls := findClass_of_methodNamed Bd.named
  have hnm := (name_of_methodNamed Bd.named Bd.method).1
  have X0 : Stand p l e ({ frames := 0, cells := 0, slots := 0, locals := 0 } : Room) s m #[(.int p1), (.int p2)] below meth c s₁ [] 0 0 := Stand.of_body Bd
  have e0 : s₁.heap = h0 := by rw [← hh, Bd.state]; rfl
  have N0 := Fr.nil n0
  show own_Go p.tables e below (own_Q s (fun v h L => v = some (.int (if p2 < p1 then p2 else p1)) ∧ Fr n0 L ∧ h = h0) 0 0) (s₁.setTop (entryFrame m #[(.int p1), (.int p2)] 2))
  rw [show entryFrame m #[(.int p1), (.int p2)] 2 = mkF m 0 #[.val (.int p1), .val (.int p2)] [] from by first | (simp [entryFrame, mkF, argsToLocals, Value.category]; done) | rfl]
  show own_Go _ _ _ _ (s₁.setTop (mkF m 0 #[.val (.int p1), .val (.int p2)] []))
  refine own_by (fun _ k => XS.iloadN X0.here hx rfl (hb hby d7_0) rfl k) ?_
  refine own_by (fun _ k => XS.iloadN X0.here hx rfl (hb hby d7_1) rfl k) ?_
  show own_Go _ _ _ _ (s₁.setTop (mkF m 2 #[.val (.int p1), .val (.int p2)] [(.int p2), (.int p1)]))
  by_cases hc1 : p2 < p1
  · --
    refine own_by (fun _ k => XS.icmpYes X0.here hx rfl (pc0 := 2) (pc' := 9) rfl (hb hby d7_2) rfl (tlt hc1).2.2.1 (by decide) (by decide) k) ?_
    refine own_by (fun _ k => XS.iloadN X0.here hx rfl (hb hby d7_9) rfl k) ?_
    show own_Go _ _ _ _ (s₁.setTop (mkF m 10 #[.val (.int p1), .val (.int p2)] [(.int p2)]))
    exact own_retI X0 hx Bd.notSynchronized e0 Bd.returns (hb hby d7_10) (⟨by simp [hc1], N0, rfl⟩) (by decide) (by decide)
  · --
    refine own_by (fun _ k => XS.icmpNo X0.here hx rfl (hb hby d7_2) rfl (flt hc1).2.2.1 k) ?_
    refine own_by (fun _ k => XS.iloadN X0.here hx rfl (hb hby d7_5) rfl k) ?_
    show own_Go _ _ _ _ (s₁.setTop (mkF m 6 #[.val (.int p1), .val (.int p2)] [(.int p1)]))
    refine own_by (fun _ k => XS.goto X0.here hx rfl (pc0 := 6) (pc' := 10) rfl (hb hby d7_6) (by decide) (by decide) k) ?_
    show own_Go _ _ _ _ (s₁.setTop (mkF m 10 #[.val (.int p1), .val (.int p2)] [(.int p1)]))
    exact own_retI X0 hx Bd.notSynchronized e0 Bd.returns (hb hby d7_10) (⟨by simp [hc1], N0, rfl⟩) (by decide) (by decide)
set_option maxRecDepth 65536 in
set_option maxHeartbeats 40000000 in
theorem rm6 (l : Launch) (Z : State) (a0 : Array Value) (hw : ∀ d ∈ tables_1, d.before a0 Z = true) (ws : List Jvm.Cond) (a1 : Addr) (p1 : Int32) (n N : Nat) (f : Nat → Int64) (h0 : Heap) (n0 : Nat) (Z0 : n0 ≤ h0.size) (PA : own_AJ Z h0 a1 n f) (hN : p1.toInt = (N : Int)) (hnN : n ≤ N) (hne : n ≠ N) (hNc : N ≤ 8) :
    MetFree l (⟨"java/util/Arrays", "copyOf", "([JI)[J"⟩ : MethodName) (head1 (Jvm.Cond.code (⟨"java/util/Arrays", "copyOf", "([JI)[J"⟩ : MethodName) jdk_65_method_124_code 3 (some (.array .long)) :: ws) ({ frames := 1, cells := 1, slots := 8, locals := 60 } : Room)) (fun a U => a = #[(.ref a1), (.int p1)] ∧ Z.Warmed39 U.vm ∧ U.heap = h0) (fun _ _ _ _ _ => True) (fun _ U o U' => ∃ vv LL, o = .returned vv ∧ own_ap (fun v h L => v = some (.ref h0.size) ∧ Fr n0 L ∧ Keep h0 h [] ∧ own_AJ Z h h0.size N (fun j => if j < n then f j else 0)) vv U'.heap LL ∧ FrameEnd U o U' LL 1 8) := by
  refine MetFree.of_bodySF (plainFor_of_name pn_6) hisR ?_
  intro p e s m args below meth c s₁ Bd hml0 hP hK
  obtain ⟨rfl, hZ, hh⟩ := hP
  have hx := Bd.exec
  have hby := Bd.bytes
  have hml : c.maxLocals = 3 := hml0
  have hown : s.vm.findClass "java/util/Arrays" = some m.cls := findClass_of_methodNamed Bd.named
  have hnm := (name_of_methodNamed Bd.named Bd.method).1
  have X0 : Stand p l e ({ frames := 1, cells := 1, slots := 8, locals := 60 } : Room) s m #[(.ref a1), (.int p1)] below meth c s₁ [] 0 0 := Stand.of_body Bd
  have e0 : s₁.heap = h0 := by rw [← hh, Bd.state]; rfl
  have N0 := Fr.nil n0
  show own_Go p.tables e below (own_Q s (fun v h L => v = some (.ref h0.size) ∧ Fr n0 L ∧ Keep h0 h [] ∧ own_AJ Z h h0.size N (fun j => if j < n then f j else 0)) 1 8) (s₁.setTop (entryFrame m #[(.ref a1), (.int p1)] 3))
  rw [show entryFrame m #[(.ref a1), (.int p1)] 3 = mkF m 0 #[.val (.ref a1), .val (.int p1), .unset] [] from by first | (simp [entryFrame, mkF, argsToLocals, Value.category]; done) | rfl]
  obtain ⟨zn, hznE, hzn⟩ : ∃ z : Int32, z = n.toInt32 ∧ z.toInt = (n : Int) := ⟨n.toInt32, rfl, own_ofN (by omega)⟩
  show own_Go _ _ _ _ (s₁.setTop (mkF m 0 #[.val (.ref a1), .val (.int p1), .unset] []))
  refine own_by (fun _ k => XS.iloadN X0.here hx rfl (hb hby d6_0) rfl k) ?_
  refine own_by (fun _ k => XS.aloadN X0.here hx rfl (hb hby d6_1) rfl rfl k) ?_
  show own_Go _ _ _ _ (s₁.setTop (mkF m 2 #[.val (.ref a1), .val (.int p1), .unset] [(.ref a1), (.int p1)]))
  refine own_by (fun _ k => own_len X0 hx hZ e0 PA zn hznE (hb hby d6_2) k) ?_
  show own_Go _ _ _ _ (s₁.setTop (mkF m 3 #[.val (.ref a1), .val (.int p1), .unset] [(.int zn), (.int p1)]))
  refine own_by (fun _ k => XS.icmpYes X0.here hx rfl (pc0 := 3) (pc' := 14) rfl (hb hby d6_3) rfl (feq (fun q => by have q' := congrArg Int32.toInt q; rw [hN, hzn] at q'; omega)).2 (by decide) (by decide) k) ?_
  refine own_by (fun _ k => XS.iloadN X0.here hx rfl (hb hby d6_14) rfl k) ?_
  show own_Go _ _ _ _ (s₁.setTop (mkF m 15 #[.val (.ref a1), .val (.int p1), .unset] [(.int p1)]))
  refine own_newP X0 hx hZ (hw _ (List.mem_of_getElem? (i := 1) rfl)) e0 N hN 8 hNc (by decide) (by decide) (by decide) (hb hby d6_15) ?_
  intro T1 h1 X1 e1 E1 A1
  show own_Go _ _ _ _ (T1.setTop (mkF m 17 #[.val (.ref a1), .val (.int p1), .unset] [.ref h0.size]))
  obtain ⟨b1, g1⟩ : ∃ z, z = h0.size := ⟨_, rfl⟩
  rw [← g1] at A1
  refine own_gen g1.symm (fun z_ => T1.setTop (mkF m 17 #[.val (.ref a1), .val (.int p1), .unset] [.ref z_])) ?_
  have ne2 : a1 ≠ b1 := Nat.ne_of_lt (Nat.lt_of_lt_of_le PA.lt (Nat.le_of_eq g1.symm))
  have ge1 : n0 ≤ b1 := Nat.le_trans Z0 (Nat.le_of_eq g1.symm)
  have nw1 : h0.size ≤ b1 := Nat.le_trans (Keep.refl h0 []).1 (Nat.le_of_eq g1.symm)
  have f3 := PA.ext E1
  have f4 := (Keep.refl h0 []).ext E1
  have Z1 := Nat.le_trans Z0 E1.1
  have f5 : own_AJ Z h1 b1 N (fun _ => 0) := A1
  show own_Go _ _ _ _ (T1.setTop (mkF m 17 #[.val (.ref a1), .val (.int p1), .unset] [(.ref b1)]))
  refine own_by (fun _ k => XS.astoreN X1.here hx rfl (hb hby d6_17) rfl rfl (l' := #[.val (.ref a1), .val (.int p1), .val (.ref b1)]) rfl k) ?_
  refine own_by (fun _ k => XS.aloadN X1.here hx rfl (hb hby d6_18) rfl rfl k) ?_
  refine own_by (fun _ k => XS.iconst X1.here hx rfl (hb hby d6_19) k) ?_
  show own_Go _ _ _ _ (T1.setTop (mkF m 20 #[.val (.ref a1), .val (.int p1), .val (.ref b1)] [(.int (0 : Int32)), (.ref a1)]))
  refine own_by (fun _ k => XS.aloadN X1.here hx rfl (hb hby d6_20) rfl rfl k) ?_
  refine own_by (fun _ k => XS.iconst X1.here hx rfl (hb hby d6_21) k) ?_
  refine own_by (fun _ k => XS.aloadN X1.here hx rfl (hb hby d6_22) rfl rfl k) ?_
  show own_Go _ _ _ _ (T1.setTop (mkF m 23 #[.val (.ref a1), .val (.int p1), .val (.ref b1)] [(.ref a1), (.int (0 : Int32)), (.ref b1), (.int (0 : Int32)), (.ref a1)]))
  refine own_by (fun _ k => own_len X1 hx hZ e1 f3 zn hznE (hb hby d6_23) k) ?_
  refine own_by (fun _ k => XS.iloadN X1.here hx rfl (hb hby d6_24) rfl k) ?_
  show own_Go _ _ _ _ (T1.setTop (mkF m 25 #[.val (.ref a1), .val (.int p1), .val (.ref b1)] [(.int p1), (.int zn), (.int (0 : Int32)), (.ref b1), (.int (0 : Int32)), (.ref a1)]))
  refine own_callS X1 hx hZ hown (hw _ (List.mem_of_getElem? (i := 33) rfl)) (hw _ (List.mem_of_getElem? (i := 34) rfl)) (hw _ (List.mem_of_getElem? (i := 18) rfl)) (hw _ (List.mem_of_getElem? (i := 35) rfl)) (by decide) (rm7 l Z a0 hw [] zn p1 h1 n0 Z1) e1 (by rw [hml]; rfl) [(.int zn), (.int p1)] [(.int (0 : Int32)), (.ref b1), (.int (0 : Int32)), (.ref a1)] rfl (lenOf own_pd2 rfl) rfl 4 (Nat.le_of_eq rfl) (by decide) (by decide) (Nat.le_of_ble_eq_true rfl) (Nat.le_of_ble_eq_true rfl) (hb hby d6_25) ?_
  intro T6 Lc6 v6 X6 hQ6
  obtain ⟨rfl, N6q, e6⟩ := hQ6
  have N6 := Fr.app N0 N6q
  show own_Go _ _ _ _ (T6.setTop (mkF m 28 #[.val (.ref a1), .val (.int p1), .val (.ref b1)] [(.int (if p1 < zn then p1 else zn)), (.int (0 : Int32)), (.ref b1), (.int (0 : Int32)), (.ref a1)]))
  rw [show (if p1 < zn then p1 else zn) = zn from if_neg (by rw [Int32.lt_iff_toInt_lt, hzn, hN]; omega)]
  obtain ⟨ka, Va⟩ := own_toArv f3 hzn
  obtain ⟨kb, Vb⟩ := own_toArv f5 hN
  obtain ⟨T7, h7, L7, X7, e7, N7, K7, V7, st7⟩ := cpA X6 hx hZ hown (hw _ (List.mem_of_getElem? (i := 36) rfl)) (hw _ (List.mem_of_getElem? (i := 39) rfl)) (hw _ (List.mem_of_getElem? (i := 37) rfl)) (hw _ (List.mem_of_getElem? (i := 38) rfl)) e6 Va Vb (Or.inl ⟨rfl, rfl⟩) (sp := (0 : Int32)) (dp := (0 : Int32)) (nn := zn) (by decide) (by decide) (own_clamp hzn).2 (by rw [(own_clamp hzn).1]; simp) (by rw [(own_clamp hzn).1, (own_clamp hN).1]; simpa using hnN) rfl (by rw [(own_clamp hzn).1]; simpa using hnN) N6 ge1 (g := (mkF m 28 #[.val (.ref a1), .val (.int p1), .val (.ref b1)] [(.int zn), (.int (0 : Int32)), (.ref b1), (.int (0 : Int32)), (.ref a1)])) rfl (by rw [hml]; rfl) rfl (hb hby d6_28) (by decide) (W := 0) (by show 2 * 0 + _ ≤ _; exact Nat.le_of_eq rfl) (by decide)
  refine own_by st7 ?_
  have A7 : own_AJ Z h7 b1 N (fun j => if j < n then f j else 0) := own_ofArv V7 hN (fun j hj => by have q := own_cpd n N hnN f (fun _ => 0) j hj; rw [(own_clamp hzn).1]; exact q)
  have f8 := f3.keep K7 (ninS ne2 nin0)
  have f9 := f4.trans K7 (allS (P := fun x => x ∈ [] ∨ h0.size ≤ x) (Or.inr nw1) all0)
  have Z7 := Nat.le_trans Z1 K7.1
  show own_Go _ _ _ _ (T7.setTop (mkF m 31 #[.val (.ref a1), .val (.int p1), .val (.ref b1)] []))
  refine own_by (fun _ k => XS.aloadN X7.here hx rfl (hb hby d6_31) rfl rfl k) ?_
  show own_Go _ _ _ _ (T7.setTop (mkF m 32 #[.val (.ref a1), .val (.int p1), .val (.ref b1)] [(.ref b1)]))
  exact own_retA X7 hx Bd.notSynchronized e7 Bd.returns rfl rfl rfl (hb hby d6_32) (⟨by rw [g1], N7, f9, by rw [← g1]; exact A7⟩) (by decide) (by decide)
theorem d1_0 : decode method_2_code 0 = .ok (.aload_n 0, 1) := by decide +kernel
theorem d1_1 : decode method_2_code 1 = .ok (.iload_n 2, 1) := by decide +kernel
theorem d1_2 : decode method_2_code 2 = .ok (.laload, 1) := by decide +kernel
theorem d1_3 : decode method_2_code 3 = .ok (.aload_n 0, 1) := by decide +kernel
theorem d1_4 : decode method_2_code 4 = .ok (.iload_n 1, 1) := by decide +kernel
theorem d1_5 : decode method_2_code 5 = .ok (.laload, 1) := by decide +kernel
theorem d1_6 : decode method_2_code 6 = .ok (.lcmp, 1) := by decide +kernel
theorem d1_7 : decode method_2_code 7 = .ok (.ifCond .ge 17, 3) := by decide +kernel
theorem d1_10 : decode method_2_code 10 = .ok (.aload_n 0, 1) := by decide +kernel
theorem d1_11 : decode method_2_code 11 = .ok (.iload_n 1, 1) := by decide +kernel
theorem d1_12 : decode method_2_code 12 = .ok (.laload, 1) := by decide +kernel
theorem d1_13 : decode method_2_code 13 = .ok (.lstore_n 3, 1) := by decide +kernel
theorem d1_14 : decode method_2_code 14 = .ok (.aload_n 0, 1) := by decide +kernel
theorem d1_15 : decode method_2_code 15 = .ok (.iload_n 1, 1) := by decide +kernel
theorem d1_16 : decode method_2_code 16 = .ok (.aload_n 0, 1) := by decide +kernel
theorem d1_17 : decode method_2_code 17 = .ok (.iload_n 2, 1) := by decide +kernel
theorem d1_18 : decode method_2_code 18 = .ok (.laload, 1) := by decide +kernel
theorem d1_19 : decode method_2_code 19 = .ok (.lastore, 1) := by decide +kernel
theorem d1_20 : decode method_2_code 20 = .ok (.aload_n 0, 1) := by decide +kernel
theorem d1_21 : decode method_2_code 21 = .ok (.iload_n 2, 1) := by decide +kernel
theorem d1_22 : decode method_2_code 22 = .ok (.lload_n 3, 1) := by decide +kernel
theorem d1_23 : decode method_2_code 23 = .ok (.lastore, 1) := by decide +kernel
theorem d1_24 : decode method_2_code 24 = .ok (.return_, 1) := by decide +kernel
theorem pn_1 : plainName "com/example/libmakespan/libmakespan/planners/LongHeapRemovePinLaw" = true := by first | (simp [plainName, overriddenIn]; done) | decide +kernel
theorem d2_0 : decode prog_91_method_1_code 0 = .ok (.aload_n 0, 1) := by decide +kernel
theorem d2_1 : decode prog_91_method_1_code 1 = .ok (.invokespecial 1, 3) := by decide +kernel
theorem d2_4 : decode prog_91_method_1_code 4 = .ok (.aload_n 0, 1) := by decide +kernel
theorem d2_5 : decode prog_91_method_1_code 5 = .ok (.iconst 1, 1) := by decide +kernel
theorem d2_6 : decode prog_91_method_1_code 6 = .ok (.iload_n 1, 1) := by decide +kernel
theorem d2_7 : decode prog_91_method_1_code 7 = .ok (.invokestatic 7, 3) := by decide +kernel
theorem d2_10 : decode prog_91_method_1_code 10 = .ok (.newarray .long, 2) := by decide +kernel
theorem d2_12 : decode prog_91_method_1_code 12 = .ok (.putfield 13, 3) := by decide +kernel
theorem d2_15 : decode prog_91_method_1_code 15 = .ok (.return_, 1) := by decide +kernel
theorem pn_2 : plainName "com/example/libmakespan/libmakespan/planners/LongHeap" = true := by first | (simp [plainName, overriddenIn]; done) | decide +kernel
theorem d4_0 : decode jdk_29_method_65_code 0 = .ok (.iload_n 0, 1) := by decide +kernel
theorem d4_1 : decode jdk_29_method_65_code 1 = .ok (.iload_n 1, 1) := by decide +kernel
theorem d4_2 : decode jdk_29_method_65_code 2 = .ok (.if_icmp .lt 7, 3) := by decide +kernel
theorem d4_5 : decode jdk_29_method_65_code 5 = .ok (.iload_n 0, 1) := by decide +kernel
theorem d4_6 : decode jdk_29_method_65_code 6 = .ok (.goto 4, 3) := by decide +kernel
theorem d4_9 : decode jdk_29_method_65_code 9 = .ok (.iload_n 1, 1) := by decide +kernel
theorem d4_10 : decode jdk_29_method_65_code 10 = .ok (.ireturn, 1) := by decide +kernel
theorem d5_0 : decode prog_91_method_4_code 0 = .ok (.aload_n 0, 1) := by decide +kernel
theorem d5_1 : decode prog_91_method_4_code 1 = .ok (.getfield 19, 3) := by decide +kernel
theorem d5_4 : decode prog_91_method_4_code 4 = .ok (.aload_n 0, 1) := by decide +kernel
theorem d5_5 : decode prog_91_method_4_code 5 = .ok (.getfield 13, 3) := by decide +kernel
theorem d5_8 : decode prog_91_method_4_code 8 = .ok (.arraylength, 1) := by decide +kernel
theorem d5_9 : decode prog_91_method_4_code 9 = .ok (.if_icmp .ne 20, 3) := by decide +kernel
theorem d5_12 : decode prog_91_method_4_code 12 = .ok (.aload_n 0, 1) := by decide +kernel
theorem d5_13 : decode prog_91_method_4_code 13 = .ok (.aload_n 0, 1) := by decide +kernel
theorem d5_14 : decode prog_91_method_4_code 14 = .ok (.getfield 13, 3) := by decide +kernel
theorem d5_17 : decode prog_91_method_4_code 17 = .ok (.iconst 2, 1) := by decide +kernel
theorem d5_18 : decode prog_91_method_4_code 18 = .ok (.aload_n 0, 1) := by decide +kernel
theorem d5_19 : decode prog_91_method_4_code 19 = .ok (.getfield 19, 3) := by decide +kernel
theorem d5_22 : decode prog_91_method_4_code 22 = .ok (.imul, 1) := by decide +kernel
theorem d5_23 : decode prog_91_method_4_code 23 = .ok (.invokestatic 23, 3) := by decide +kernel
theorem d5_26 : decode prog_91_method_4_code 26 = .ok (.putfield 13, 3) := by decide +kernel
theorem d5_29 : decode prog_91_method_4_code 29 = .ok (.aload_n 0, 1) := by decide +kernel
theorem d5_30 : decode prog_91_method_4_code 30 = .ok (.dup, 1) := by decide +kernel
theorem d5_31 : decode prog_91_method_4_code 31 = .ok (.getfield 19, 3) := by decide +kernel
theorem d5_34 : decode prog_91_method_4_code 34 = .ok (.dup_x1, 1) := by decide +kernel
theorem d5_35 : decode prog_91_method_4_code 35 = .ok (.iconst 1, 1) := by decide +kernel
theorem d5_36 : decode prog_91_method_4_code 36 = .ok (.iadd, 1) := by decide +kernel
theorem d5_37 : decode prog_91_method_4_code 37 = .ok (.putfield 19, 3) := by decide +kernel
theorem d5_40 : decode prog_91_method_4_code 40 = .ok (.istore_n 3, 1) := by decide +kernel
theorem d5_41 : decode prog_91_method_4_code 41 = .ok (.iload_n 3, 1) := by decide +kernel
theorem d5_42 : decode prog_91_method_4_code 42 = .ok (.ifCond .le 44, 3) := by decide +kernel
theorem d5_45 : decode prog_91_method_4_code 45 = .ok (.iload_n 3, 1) := by decide +kernel
theorem d5_46 : decode prog_91_method_4_code 46 = .ok (.iconst 1, 1) := by decide +kernel
theorem d5_47 : decode prog_91_method_4_code 47 = .ok (.isub, 1) := by decide +kernel
theorem d5_48 : decode prog_91_method_4_code 48 = .ok (.iconst 1, 1) := by decide +kernel
theorem d5_49 : decode prog_91_method_4_code 49 = .ok (.iushr, 1) := by decide +kernel
theorem d5_50 : decode prog_91_method_4_code 50 = .ok (.istore 4, 2) := by decide +kernel
theorem d5_52 : decode prog_91_method_4_code 52 = .ok (.aload_n 0, 1) := by decide +kernel
theorem d5_53 : decode prog_91_method_4_code 53 = .ok (.getfield 13, 3) := by decide +kernel
theorem d5_56 : decode prog_91_method_4_code 56 = .ok (.iload 4, 2) := by decide +kernel
theorem d5_58 : decode prog_91_method_4_code 58 = .ok (.laload, 1) := by decide +kernel
theorem d5_59 : decode prog_91_method_4_code 59 = .ok (.lload_n 1, 1) := by decide +kernel
theorem d5_60 : decode prog_91_method_4_code 60 = .ok (.lcmp, 1) := by decide +kernel
theorem d5_61 : decode prog_91_method_4_code 61 = .ok (.ifCond .gt 6, 3) := by decide +kernel
theorem d5_64 : decode prog_91_method_4_code 64 = .ok (.goto 22, 3) := by decide +kernel
theorem d5_67 : decode prog_91_method_4_code 67 = .ok (.aload_n 0, 1) := by decide +kernel
theorem d5_68 : decode prog_91_method_4_code 68 = .ok (.getfield 13, 3) := by decide +kernel
theorem d5_71 : decode prog_91_method_4_code 71 = .ok (.iload_n 3, 1) := by decide +kernel
theorem d5_72 : decode prog_91_method_4_code 72 = .ok (.aload_n 0, 1) := by decide +kernel
theorem d5_73 : decode prog_91_method_4_code 73 = .ok (.getfield 13, 3) := by decide +kernel
theorem d5_76 : decode prog_91_method_4_code 76 = .ok (.iload 4, 2) := by decide +kernel
theorem d5_78 : decode prog_91_method_4_code 78 = .ok (.laload, 1) := by decide +kernel
theorem d5_79 : decode prog_91_method_4_code 79 = .ok (.lastore, 1) := by decide +kernel
theorem d5_80 : decode prog_91_method_4_code 80 = .ok (.iload 4, 2) := by decide +kernel
theorem d5_82 : decode prog_91_method_4_code 82 = .ok (.istore_n 3, 1) := by decide +kernel
theorem d5_83 : decode prog_91_method_4_code 83 = .ok (.goto (-42), 3) := by decide +kernel
theorem d5_86 : decode prog_91_method_4_code 86 = .ok (.aload_n 0, 1) := by decide +kernel
theorem d5_87 : decode prog_91_method_4_code 87 = .ok (.getfield 13, 3) := by decide +kernel
theorem d5_90 : decode prog_91_method_4_code 90 = .ok (.iload_n 3, 1) := by decide +kernel
theorem d5_91 : decode prog_91_method_4_code 91 = .ok (.lload_n 1, 1) := by decide +kernel
theorem d5_92 : decode prog_91_method_4_code 92 = .ok (.lastore, 1) := by decide +kernel
theorem d5_93 : decode prog_91_method_4_code 93 = .ok (.return_, 1) := by decide +kernel
theorem pn_5 : plainName "com/example/libmakespan/libmakespan/planners/LongHeap" = true := by first | (simp [plainName, overriddenIn]; done) | decide +kernel
theorem d8_0 : decode prog_91_method_5_code 0 = .ok (.aload_n 0, 1) := by decide +kernel
theorem d8_1 : decode prog_91_method_5_code 1 = .ok (.getfield 13, 3) := by decide +kernel
theorem d8_4 : decode prog_91_method_5_code 4 = .ok (.iconst 0, 1) := by decide +kernel
theorem d8_5 : decode prog_91_method_5_code 5 = .ok (.laload, 1) := by decide +kernel
theorem d8_6 : decode prog_91_method_5_code 6 = .ok (.lstore_n 1, 1) := by decide +kernel
theorem d8_7 : decode prog_91_method_5_code 7 = .ok (.aload_n 0, 1) := by decide +kernel
theorem d8_8 : decode prog_91_method_5_code 8 = .ok (.getfield 13, 3) := by decide +kernel
theorem d8_11 : decode prog_91_method_5_code 11 = .ok (.aload_n 0, 1) := by decide +kernel
theorem d8_12 : decode prog_91_method_5_code 12 = .ok (.dup, 1) := by decide +kernel
theorem d8_13 : decode prog_91_method_5_code 13 = .ok (.getfield 19, 3) := by decide +kernel
theorem d8_16 : decode prog_91_method_5_code 16 = .ok (.iconst 1, 1) := by decide +kernel
theorem d8_17 : decode prog_91_method_5_code 17 = .ok (.isub, 1) := by decide +kernel
theorem d8_18 : decode prog_91_method_5_code 18 = .ok (.dup_x1, 1) := by decide +kernel
theorem d8_19 : decode prog_91_method_5_code 19 = .ok (.putfield 19, 3) := by decide +kernel
theorem d8_22 : decode prog_91_method_5_code 22 = .ok (.laload, 1) := by decide +kernel
theorem d8_23 : decode prog_91_method_5_code 23 = .ok (.lstore_n 3, 1) := by decide +kernel
theorem d8_24 : decode prog_91_method_5_code 24 = .ok (.iconst 0, 1) := by decide +kernel
theorem d8_25 : decode prog_91_method_5_code 25 = .ok (.istore 5, 2) := by decide +kernel
theorem d8_27 : decode prog_91_method_5_code 27 = .ok (.iconst 2, 1) := by decide +kernel
theorem d8_28 : decode prog_91_method_5_code 28 = .ok (.iload 5, 2) := by decide +kernel
theorem d8_30 : decode prog_91_method_5_code 30 = .ok (.imul, 1) := by decide +kernel
theorem d8_31 : decode prog_91_method_5_code 31 = .ok (.iconst 1, 1) := by decide +kernel
theorem d8_32 : decode prog_91_method_5_code 32 = .ok (.iadd, 1) := by decide +kernel
theorem d8_33 : decode prog_91_method_5_code 33 = .ok (.istore 6, 2) := by decide +kernel
theorem d8_35 : decode prog_91_method_5_code 35 = .ok (.iload 6, 2) := by decide +kernel
theorem d8_37 : decode prog_91_method_5_code 37 = .ok (.aload_n 0, 1) := by decide +kernel
theorem d8_38 : decode prog_91_method_5_code 38 = .ok (.getfield 19, 3) := by decide +kernel
theorem d8_41 : decode prog_91_method_5_code 41 = .ok (.if_icmp .lt 6, 3) := by decide +kernel
theorem d8_44 : decode prog_91_method_5_code 44 = .ok (.goto 73, 3) := by decide +kernel
theorem d8_47 : decode prog_91_method_5_code 47 = .ok (.iload 6, 2) := by decide +kernel
theorem d8_49 : decode prog_91_method_5_code 49 = .ok (.iconst 1, 1) := by decide +kernel
theorem d8_50 : decode prog_91_method_5_code 50 = .ok (.iadd, 1) := by decide +kernel
theorem d8_51 : decode prog_91_method_5_code 51 = .ok (.aload_n 0, 1) := by decide +kernel
theorem d8_52 : decode prog_91_method_5_code 52 = .ok (.getfield 19, 3) := by decide +kernel
theorem d8_55 : decode prog_91_method_5_code 55 = .ok (.if_icmp .ge 26, 3) := by decide +kernel
theorem d8_58 : decode prog_91_method_5_code 58 = .ok (.aload_n 0, 1) := by decide +kernel
theorem d8_59 : decode prog_91_method_5_code 59 = .ok (.getfield 13, 3) := by decide +kernel
theorem d8_62 : decode prog_91_method_5_code 62 = .ok (.iload 6, 2) := by decide +kernel
theorem d8_64 : decode prog_91_method_5_code 64 = .ok (.iconst 1, 1) := by decide +kernel
theorem d8_65 : decode prog_91_method_5_code 65 = .ok (.iadd, 1) := by decide +kernel
theorem d8_66 : decode prog_91_method_5_code 66 = .ok (.laload, 1) := by decide +kernel
theorem d8_67 : decode prog_91_method_5_code 67 = .ok (.aload_n 0, 1) := by decide +kernel
theorem d8_68 : decode prog_91_method_5_code 68 = .ok (.getfield 13, 3) := by decide +kernel
theorem d8_71 : decode prog_91_method_5_code 71 = .ok (.iload 6, 2) := by decide +kernel
theorem d8_73 : decode prog_91_method_5_code 73 = .ok (.laload, 1) := by decide +kernel
theorem d8_74 : decode prog_91_method_5_code 74 = .ok (.lcmp, 1) := by decide +kernel
theorem d8_75 : decode prog_91_method_5_code 75 = .ok (.ifCond .ge 6, 3) := by decide +kernel
theorem d8_78 : decode prog_91_method_5_code 78 = .ok (.iinc 6 1, 3) := by decide +kernel
theorem d8_81 : decode prog_91_method_5_code 81 = .ok (.aload_n 0, 1) := by decide +kernel
theorem d8_82 : decode prog_91_method_5_code 82 = .ok (.getfield 13, 3) := by decide +kernel
theorem d8_85 : decode prog_91_method_5_code 85 = .ok (.iload 6, 2) := by decide +kernel
theorem d8_87 : decode prog_91_method_5_code 87 = .ok (.laload, 1) := by decide +kernel
theorem d8_88 : decode prog_91_method_5_code 88 = .ok (.lload_n 3, 1) := by decide +kernel
theorem d8_89 : decode prog_91_method_5_code 89 = .ok (.lcmp, 1) := by decide +kernel
theorem d8_90 : decode prog_91_method_5_code 90 = .ok (.ifCond .lt 6, 3) := by decide +kernel
theorem d8_93 : decode prog_91_method_5_code 93 = .ok (.goto 24, 3) := by decide +kernel
theorem d8_96 : decode prog_91_method_5_code 96 = .ok (.aload_n 0, 1) := by decide +kernel
theorem d8_97 : decode prog_91_method_5_code 97 = .ok (.getfield 13, 3) := by decide +kernel
theorem d8_100 : decode prog_91_method_5_code 100 = .ok (.iload 5, 2) := by decide +kernel
theorem d8_102 : decode prog_91_method_5_code 102 = .ok (.aload_n 0, 1) := by decide +kernel
theorem d8_103 : decode prog_91_method_5_code 103 = .ok (.getfield 13, 3) := by decide +kernel
theorem d8_106 : decode prog_91_method_5_code 106 = .ok (.iload 6, 2) := by decide +kernel
theorem d8_108 : decode prog_91_method_5_code 108 = .ok (.laload, 1) := by decide +kernel
theorem d8_109 : decode prog_91_method_5_code 109 = .ok (.lastore, 1) := by decide +kernel
theorem d8_110 : decode prog_91_method_5_code 110 = .ok (.iload 6, 2) := by decide +kernel
theorem d8_112 : decode prog_91_method_5_code 112 = .ok (.istore 5, 2) := by decide +kernel
theorem d8_114 : decode prog_91_method_5_code 114 = .ok (.goto (-87), 3) := by decide +kernel
theorem d8_117 : decode prog_91_method_5_code 117 = .ok (.aload_n 0, 1) := by decide +kernel
theorem d8_118 : decode prog_91_method_5_code 118 = .ok (.getfield 13, 3) := by decide +kernel
theorem d8_121 : decode prog_91_method_5_code 121 = .ok (.iload 5, 2) := by decide +kernel
theorem d8_123 : decode prog_91_method_5_code 123 = .ok (.lload_n 3, 1) := by decide +kernel
theorem d8_124 : decode prog_91_method_5_code 124 = .ok (.lastore, 1) := by decide +kernel
theorem d8_125 : decode prog_91_method_5_code 125 = .ok (.lload_n 1, 1) := by decide +kernel
theorem d8_126 : decode prog_91_method_5_code 126 = .ok (.lreturn, 1) := by decide +kernel
theorem pn_8 : plainName "com/example/libmakespan/libmakespan/planners/LongHeap" = true := by first | (simp [plainName, overriddenIn]; done) | decide +kernel
theorem d9_0 : decode prog_91_method_2_code 0 = .ok (.aload_n 0, 1) := by decide +kernel
theorem d9_1 : decode prog_91_method_2_code 1 = .ok (.getfield 19, 3) := by decide +kernel
theorem d9_4 : decode prog_91_method_2_code 4 = .ok (.ifCond .ne 7, 3) := by decide +kernel
theorem d9_7 : decode prog_91_method_2_code 7 = .ok (.iconst 1, 1) := by decide +kernel
theorem d9_8 : decode prog_91_method_2_code 8 = .ok (.goto 4, 3) := by decide +kernel
theorem d9_11 : decode prog_91_method_2_code 11 = .ok (.iconst 0, 1) := by decide +kernel
theorem d9_12 : decode prog_91_method_2_code 12 = .ok (.ireturn, 1) := by decide +kernel
theorem pn_9 : plainName "com/example/libmakespan/libmakespan/planners/LongHeap" = true := by first | (simp [plainName, overriddenIn]; done) | decide +kernel
theorem pn_0 : plainName "com/example/libmakespan/libmakespan/planners/LongHeapRemovePinLaw" = true := by first | (simp [plainName, overriddenIn]; done) | decide +kernel
/-! the heap: its first k places -/
def own_hp (f : Nat → Int64) (k : Nat) : Prop := (1 < k → (f 0).toInt ≤ (f 1).toInt) ∧ (2 < k → (f 0).toInt ≤ (f 2).toInt) ∧ (3 < k → (f 1).toInt ≤ (f 3).toInt) ∧ (4 < k → (f 1).toInt ≤ (f 4).toInt)
def own_one (v x : Int64) : Nat := if v = x then 1 else 0
def own_cnt (f : Nat → Int64) (x : Int64) : Nat → Nat
  | 0 => 0
  | k + 1 => own_cnt f x k + own_one (f k) x
def own_cs (f : Nat → Int64) (i j : Nat) : Nat → Int64 := if f j < f i then own_upd (own_upd f i (f j)) j (f i) else f
theorem own_cntc (f g : Nat → Int64) (x : Int64) : ∀ k, (∀ j, j < k → f j = g j) → own_cnt f x k = own_cnt g x k
  | 0, _ => rfl
  | k + 1, h => by rw [own_cnt, own_cnt, own_cntc f g x k (fun j hj => h j (by omega)), h k (by omega)]
theorem own_hpc (f g : Nat → Int64) (k : Nat) (h : ∀ j, j < k → f j = g j) (H : own_hp f k) : own_hp g k := by
  obtain ⟨h1, h2, h3, h4⟩ := H
  refine ⟨fun q => ?_, fun q => ?_, fun q => ?_, fun q => ?_⟩
  · rw [← h 0 (by omega), ← h 1 (by omega)]; exact h1 q
  · rw [← h 0 (by omega), ← h 2 (by omega)]; exact h2 q
  · rw [← h 1 (by omega), ← h 3 (by omega)]; exact h3 q
  · rw [← h 1 (by omega), ← h 4 (by omega)]; exact h4 q
theorem own_le {x y : Int64} : ¬ y < x ↔ x.toInt ≤ y.toInt := by rw [Int64.lt_iff_toInt_lt]; omega
/-- dominance: the place m is no less than those before it -/
def own_dom (f : Nat → Int64) (m : Nat) : Prop := ∀ j, j < m → (f j).toInt ≤ (f m).toInt
theorem own_dom_step (f : Nat → Int64) (i : Nat) (h : own_dom f i) : own_dom (own_cs f i (i + 1)) (i + 1) := by
  intro j hj
  rw [own_cs]
  by_cases q : f (i + 1) < f i
  · rw [if_pos q]
    rw [Int64.lt_iff_toInt_lt] at q
    by_cases e : j = i
    · subst e; simp [own_upd]; omega
    · have := h j (by omega); simp [own_upd, e, show ¬ j = i + 1 by omega]; exact this
  · rw [if_neg q]
    rw [own_le] at q
    by_cases e : j = i
    · subst e; exact q
    · have := h j (by omega); omega
theorem own_dom_keep (f : Nat → Int64) (i m : Nat) (hm : i + 1 < m) (h : own_dom f m) : own_dom (own_cs f i (i + 1)) m := by
  intro j hj
  rw [own_cs]
  by_cases q : f (i + 1) < f i
  · rw [if_pos q]
    have e2 : own_upd (own_upd f i (f (i + 1))) (i + 1) (f i) m = f m := by simp [own_upd, show ¬ m = i + 1 by omega, show ¬ m = i by omega]
    rw [e2]
    by_cases e : j = i + 1
    · subst e; rw [own_upd_eq]; exact h i (by omega)
    · rw [own_upd_ne _ _ e]
      by_cases e' : j = i
      · subst e'; rw [own_upd_eq]; exact h (j + 1) (by omega)
      · rw [own_upd_ne _ _ e']; exact h j hj
  · rw [if_neg q]; exact h j hj
theorem own_dom0 (f : Nat → Int64) : own_dom f 0 := fun j hj => by omega
theorem own_cs_cnt (f : Nat → Int64) (i : Nat) (hi : i < 4) (x : Int64) : own_cnt (own_cs f i (i + 1)) x 5 = own_cnt f x 5 := by
  rw [own_cs]
  split
  · have hi' : i = 0 ∨ i = 1 ∨ i = 2 ∨ i = 3 := by omega
    rcases hi' with rfl | rfl | rfl | rfl <;> simp [own_cnt, own_upd] <;> omega
  · rfl
/-! two sorted lists with the same members are one -/
def own_cl (x : Int64) : List Int64 → Nat
  | [] => 0
  | y :: ys => own_one y x + own_cl x ys
def own_sd : List Int64 → Prop
  | [] => True
  | y :: ys => (∀ z ∈ ys, y.toInt ≤ z.toInt) ∧ own_sd ys
theorem own_cl_mem (x : Int64) : ∀ ys, 0 < own_cl x ys → x ∈ ys
  | [], h => by simp [own_cl] at h
  | y :: ys, h => by
    by_cases q : y = x
    · subst q; exact List.mem_cons_self ..
    · simp [own_cl, own_one, q] at h; exact List.mem_cons_of_mem _ (own_cl_mem x ys h)
theorem own_uniq : ∀ xs ys : List Int64, own_sd xs → own_sd ys → (∀ x, own_cl x xs = own_cl x ys) → xs = ys
  | [], [], _, _, _ => rfl
  | [], y :: ys, _, _, h => by have := h y; simp [own_cl, own_one] at this; omega
  | x :: xs, [], _, _, h => by have := h x; simp [own_cl, own_one] at this
  | x :: xs, y :: ys, hx, hy, h => by
    have e : x = y := by
      have m1 : x ∈ y :: ys := own_cl_mem x _ (by rw [← h x]; simp [own_cl, own_one]; omega)
      have m2 : y ∈ x :: xs := own_cl_mem y _ (by rw [h y]; simp [own_cl, own_one]; omega)
      have a1 : y.toInt ≤ x.toInt := by
        rcases List.mem_cons.mp m1 with q | q
        · rw [q]; exact Int.le_refl _
        · exact hy.1 x q
      have a2 : x.toInt ≤ y.toInt := by
        rcases List.mem_cons.mp m2 with q | q
        · rw [q]; exact Int.le_refl _
        · exact hx.1 y q
      exact Int64.toInt_inj.mp (by omega)
    subst e
    rw [own_uniq xs ys hx.2 hy.2 (fun z => by have := h z; simp only [own_cl] at this; omega)]
set_option maxRecDepth 65536 in
set_option maxHeartbeats 40000000 in
theorem rm4 (l : Launch) (Z : State) (a0 : Array Value) (hw : ∀ d ∈ tables_1, d.before a0 Z = true) (ws : List Jvm.Cond) (p1 : Int32) (p2 : Int32)  (h0 : Heap) (n0 : Nat) (Z0 : n0 ≤ h0.size) :
    MetFree l (⟨"java/lang/Math", "max", "(II)I"⟩ : MethodName) (head1 (Jvm.Cond.code (⟨"java/lang/Math", "max", "(II)I"⟩ : MethodName) jdk_29_method_65_code 2 (some .int) :: ws) ({ frames := 0, cells := 0, slots := 0, locals := 0 } : Room)) (fun a U => a = #[(.int p1), (.int p2)] ∧ Z.Warmed39 U.vm ∧ U.heap = h0) (fun _ _ _ _ _ => True) (fun _ U o U' => ∃ vv LL, o = .returned vv ∧ own_ap (fun v h L => v = some (.int (if p1 < p2 then p2 else p1)) ∧ Fr n0 L ∧ h = h0) vv U'.heap LL ∧ FrameEnd U o U' LL 0 0) := by
  refine MetFree.of_bodySF (Jvm.Free.JP.mathPlain rfl (by decide +kernel)) hisR ?_
  intro p e s m args below meth c s₁ Bd hml0 hP hK
  obtain ⟨rfl, hZ, hh⟩ := hP
  have hx := Bd.exec
  have hby := Bd.bytes
  have hml : c.maxLocals = 2 := hml0
  have hown : s.vm.findClass "java/lang/Math" = some m.cls := findClass_of_methodNamed Bd.named
  have hnm := (name_of_methodNamed Bd.named Bd.method).1
  have X0 : Stand p l e ({ frames := 0, cells := 0, slots := 0, locals := 0 } : Room) s m #[(.int p1), (.int p2)] below meth c s₁ [] 0 0 := Stand.of_body Bd
  have e0 : s₁.heap = h0 := by rw [← hh, Bd.state]; rfl
  have N0 := Fr.nil n0
  show own_Go p.tables e below (own_Q s (fun v h L => v = some (.int (if p1 < p2 then p2 else p1)) ∧ Fr n0 L ∧ h = h0) 0 0) (s₁.setTop (entryFrame m #[(.int p1), (.int p2)] 2))
  rw [show entryFrame m #[(.int p1), (.int p2)] 2 = mkF m 0 #[.val (.int p1), .val (.int p2)] [] from by first | (simp [entryFrame, mkF, argsToLocals, Value.category]; done) | rfl]
  show own_Go _ _ _ _ (s₁.setTop (mkF m 0 #[.val (.int p1), .val (.int p2)] []))
  refine own_by (fun _ k => XS.iloadN X0.here hx rfl (hb hby d4_0) rfl k) ?_
  refine own_by (fun _ k => XS.iloadN X0.here hx rfl (hb hby d4_1) rfl k) ?_
  show own_Go _ _ _ _ (s₁.setTop (mkF m 2 #[.val (.int p1), .val (.int p2)] [(.int p2), (.int p1)]))
  by_cases hc1 : p1 < p2
  · --
    refine own_by (fun _ k => XS.icmpYes X0.here hx rfl (pc0 := 2) (pc' := 9) rfl (hb hby d4_2) rfl (tlt hc1).1 (by decide) (by decide) k) ?_
    refine own_by (fun _ k => XS.iloadN X0.here hx rfl (hb hby d4_9) rfl k) ?_
    show own_Go _ _ _ _ (s₁.setTop (mkF m 10 #[.val (.int p1), .val (.int p2)] [(.int p2)]))
    exact own_retI X0 hx Bd.notSynchronized e0 Bd.returns (hb hby d4_10) (⟨by simp [hc1], N0, rfl⟩) (by decide) (by decide)
  · --
    refine own_by (fun _ k => XS.icmpNo X0.here hx rfl (hb hby d4_2) rfl (flt hc1).1 k) ?_
    refine own_by (fun _ k => XS.iloadN X0.here hx rfl (hb hby d4_5) rfl k) ?_
    show own_Go _ _ _ _ (s₁.setTop (mkF m 6 #[.val (.int p1), .val (.int p2)] [(.int p1)]))
    refine own_by (fun _ k => XS.goto X0.here hx rfl (pc0 := 6) (pc' := 10) rfl (hb hby d4_6) (by decide) (by decide) k) ?_
    show own_Go _ _ _ _ (s₁.setTop (mkF m 10 #[.val (.int p1), .val (.int p2)] [(.int p1)]))
    exact own_retI X0 hx Bd.notSynchronized e0 Bd.returns (hb hby d4_10) (⟨by simp [hc1], N0, rfl⟩) (by decide) (by decide)
set_option maxRecDepth 65536 in
set_option maxHeartbeats 40000000 in
theorem rm1 (l : Launch) (Z : State) (a0 : Array Value) (hw : ∀ d ∈ tables_1, d.before a0 Z = true) (ws : List Jvm.Cond) (a1 : Addr) (p1 : Int32) (p2 : Int32) (i1 j1 : Nat) (f : Nat → Int64) (h0 : Heap) (n0 : Nat) (Z0 : n0 ≤ h0.size) (PA : own_AJ Z h0 a1 5 f) (hi : p1.toInt = (i1 : Int)) (hi5 : i1 < 5) (hj : p2.toInt = (j1 : Int)) (hj5 : j1 < 5) (hij : i1 ≠ j1) (Pg1 : n0 ≤ a1) :
    MetFree l (⟨"com/example/libmakespan/libmakespan/planners/LongHeapRemovePinLaw", "cs", "([JII)V"⟩ : MethodName) (head1 (Jvm.Cond.code (⟨"com/example/libmakespan/libmakespan/planners/LongHeapRemovePinLaw", "cs", "([JII)V"⟩ : MethodName) method_2_code 5 none :: ws) ({ frames := 0, cells := 0, slots := 0, locals := 0 } : Room)) (fun a U => a = #[(.ref a1), (.int p1), (.int p2)] ∧ Z.Warmed39 U.vm ∧ U.heap = h0) (fun _ _ _ _ _ => True) (fun _ U o U' => ∃ vv LL, o = .returned vv ∧ own_ap (fun v h L => v = none ∧ Fr n0 L ∧ Keep h0 h [a1] ∧ own_AJ Z h a1 5 (own_cs f i1 j1)) vv U'.heap LL ∧ FrameEnd U o U' LL 0 0) := by
  refine MetFree.of_bodySF (plainFor_of_name pn_1) hisR ?_
  intro p e s m args below meth c s₁ Bd hml0 hP hK
  obtain ⟨rfl, hZ, hh⟩ := hP
  have hx := Bd.exec
  have hby := Bd.bytes
  have hml : c.maxLocals = 5 := hml0
  have hown : s.vm.findClass "com/example/libmakespan/libmakespan/planners/LongHeapRemovePinLaw" = some m.cls := findClass_of_methodNamed Bd.named
  have hnm := (name_of_methodNamed Bd.named Bd.method).1
  have X0 : Stand p l e ({ frames := 0, cells := 0, slots := 0, locals := 0 } : Room) s m #[(.ref a1), (.int p1), (.int p2)] below meth c s₁ [] 0 0 := Stand.of_body Bd
  have e0 : s₁.heap = h0 := by rw [← hh, Bd.state]; rfl
  have N0 := Fr.nil n0
  show own_Go p.tables e below (own_Q s (fun v h L => v = none ∧ Fr n0 L ∧ Keep h0 h [a1] ∧ own_AJ Z h a1 5 (own_cs f i1 j1)) 0 0) (s₁.setTop (entryFrame m #[(.ref a1), (.int p1), (.int p2)] 5))
  rw [show entryFrame m #[(.ref a1), (.int p1), (.int p2)] 5 = mkF m 0 #[.val (.ref a1), .val (.int p1), .val (.int p2), .unset, .unset] [] from by first | (simp [entryFrame, mkF, argsToLocals, Value.category]; done) | rfl]
  show own_Go _ _ _ _ (s₁.setTop (mkF m 0 #[.val (.ref a1), .val (.int p1), .val (.int p2), .unset, .unset] []))
  refine own_by (fun _ k => XS.aloadN X0.here hx rfl (hb hby d1_0) rfl rfl k) ?_
  refine own_by (fun _ k => XS.iloadN X0.here hx rfl (hb hby d1_1) rfl k) ?_
  show own_Go _ _ _ _ (s₁.setTop (mkF m 2 #[.val (.ref a1), .val (.int p1), .val (.int p2), .unset, .unset] [(.int p2), (.ref a1)]))
  refine own_by (fun _ k => own_lal X0 hx hZ e0 PA j1 hj hj5 (hb hby d1_2) k) ?_
  refine own_by (fun _ k => XS.aloadN X0.here hx rfl (hb hby d1_3) rfl rfl k) ?_
  refine own_by (fun _ k => XS.iloadN X0.here hx rfl (hb hby d1_4) rfl k) ?_
  show own_Go _ _ _ _ (s₁.setTop (mkF m 5 #[.val (.ref a1), .val (.int p1), .val (.int p2), .unset, .unset] [(.int p1), (.ref a1), (.long (f j1))]))
  refine own_by (fun _ k => own_lal X0 hx hZ e0 PA i1 hi hi5 (hb hby d1_5) k) ?_
  show own_Go _ _ _ _ (s₁.setTop (mkF m 6 #[.val (.ref a1), .val (.int p1), .val (.int p2), .unset, .unset] [(.long (f i1)), (.long (f j1))]))
  refine own_by (fun _ k => XS.lcmp X0.here hx rfl (hb hby d1_6) rfl k) ?_
  show own_Go _ _ _ _ (s₁.setTop (mkF m 7 #[.val (.ref a1), .val (.int p1), .val (.int p2), .unset, .unset] [(.int (lcmpW (f j1) (f i1)))]))
  by_cases hc1 : (f j1) < (f i1)
  · --
    refine own_by (fun _ k => XS.ifNo X0.here hx rfl (hb hby d1_7) rfl ((if0 _ _).trans (tlt ((lw_lt _ _).mpr hc1)).2.1) k) ?_
    refine own_by (fun _ k => XS.aloadN X0.here hx rfl (hb hby d1_10) rfl rfl k) ?_
    refine own_by (fun _ k => XS.iloadN X0.here hx rfl (hb hby d1_11) rfl k) ?_
    show own_Go _ _ _ _ (s₁.setTop (mkF m 12 #[.val (.ref a1), .val (.int p1), .val (.int p2), .unset, .unset] [(.int p1), (.ref a1)]))
    refine own_by (fun _ k => own_lal X0 hx hZ e0 PA i1 hi hi5 (hb hby d1_12) k) ?_
    show own_Go _ _ _ _ (s₁.setTop (mkF m 13 #[.val (.ref a1), .val (.int p1), .val (.int p2), .unset, .unset] [(.long (f i1))]))
    refine own_by (fun _ k => XS.lstoreN X0.here hx rfl (hb hby d1_13) rfl (l' := #[.val (.ref a1), .val (.int p1), .val (.int p2), .val (.long (f i1)), .second]) rfl k) ?_
    refine own_by (fun _ k => XS.aloadN X0.here hx rfl (hb hby d1_14) rfl rfl k) ?_
    refine own_by (fun _ k => XS.iloadN X0.here hx rfl (hb hby d1_15) rfl k) ?_
    show own_Go _ _ _ _ (s₁.setTop (mkF m 16 #[.val (.ref a1), .val (.int p1), .val (.int p2), .val (.long (f i1)), .second] [(.int p1), (.ref a1)]))
    refine own_by (fun _ k => XS.aloadN X0.here hx rfl (hb hby d1_16) rfl rfl k) ?_
    refine own_by (fun _ k => XS.iloadN X0.here hx rfl (hb hby d1_17) rfl k) ?_
    show own_Go _ _ _ _ (s₁.setTop (mkF m 18 #[.val (.ref a1), .val (.int p1), .val (.int p2), .val (.long (f i1)), .second] [(.int p2), (.ref a1), (.int p1), (.ref a1)]))
    refine own_by (fun _ k => own_lal X0 hx hZ e0 PA j1 hj hj5 (hb hby d1_18) k) ?_
    show own_Go _ _ _ _ (s₁.setTop (mkF m 19 #[.val (.ref a1), .val (.int p1), .val (.int p2), .val (.long (f i1)), .second] [(.long (f j1)), (.int p1), (.ref a1)]))
    refine own_las X0 hx hZ e0 PA i1 hi hi5 (hb hby d1_19) ?_
    intro T2 h2 X2 e2 W2 A2
    have f3 := (Keep.refl h0 [a1]).wr W2 (Or.inl (List.mem_of_getElem? (i := 0) rfl))
    have N2 := Fr.snoc X2 N0 Pg1
    have Z2 := own_size_wr W2 Z0
    obtain ⟨fn2, hfn2⟩ : ∃ g : Nat → Int64, g = own_upd f i1 (f j1) := ⟨_, rfl⟩
    rw [← hfn2] at A2
    show own_Go _ _ _ _ (T2.setTop (mkF m 20 #[.val (.ref a1), .val (.int p1), .val (.int p2), .val (.long (f i1)), .second] []))
    refine own_by (fun _ k => XS.aloadN X2.here hx rfl (hb hby d1_20) rfl rfl k) ?_
    refine own_by (fun _ k => XS.iloadN X2.here hx rfl (hb hby d1_21) rfl k) ?_
    refine own_by (fun _ k => XS.lloadN X2.here hx rfl (hb hby d1_22) rfl k) ?_
    show own_Go _ _ _ _ (T2.setTop (mkF m 23 #[.val (.ref a1), .val (.int p1), .val (.int p2), .val (.long (f i1)), .second] [(.long (f i1)), (.int p2), (.ref a1)]))
    refine own_las X2 hx hZ e2 A2 j1 hj hj5 (hb hby d1_23) ?_
    intro T4 h4 X4 e4 W4 A4
    have f5 := f3.wr W4 (Or.inl (List.mem_of_getElem? (i := 0) rfl))
    have N4 := Fr.snoc X4 N2 Pg1
    have Z4 := own_size_wr W4 Z2
    obtain ⟨fn4, hfn4⟩ : ∃ g : Nat → Int64, g = own_upd fn2 j1 (f i1) := ⟨_, rfl⟩
    rw [← hfn4] at A4
    show own_Go _ _ _ _ (T4.setTop (mkF m 24 #[.val (.ref a1), .val (.int p1), .val (.int p2), .val (.long (f i1)), .second] []))
    exact own_retV X4 hx Bd.notSynchronized e4 Bd.returns (hb hby d1_24) (⟨rfl, N4, f5, by rw [own_cs, if_pos hc1, ← hfn2, ← hfn4]; exact A4⟩) (by decide) (by decide)
  · --
    refine own_by (fun _ k => XS.ifYes X0.here hx rfl (pc0 := 7) (pc' := 24) rfl (hb hby d1_7) rfl ((if0 _ _).trans (flt (mt (lw_lt _ _).mp hc1)).2.1) (by decide) (by decide) k) ?_
    show own_Go _ _ _ _ (s₁.setTop (mkF m 24 #[.val (.ref a1), .val (.int p1), .val (.int p2), .unset, .unset] []))
    exact own_retV X0 hx Bd.notSynchronized e0 Bd.returns (hb hby d1_24) (⟨rfl, N0, (Keep.refl h0 [a1]), by rw [own_cs, if_neg hc1]; exact PA⟩) (by decide) (by decide)
set_option maxRecDepth 65536 in
set_option maxHeartbeats 40000000 in
theorem rm2 (l : Launch) (Z : State) (a0 : Array Value) (hw : ∀ d ∈ tables_1, d.before a0 Z = true) (ws : List Jvm.Cond) (a1 : Addr) (p1 : Int32)  (h0 : Heap) (n0 : Nat) (Z0 : n0 ≤ h0.size) (PE : Exa Z h0 a1 "com/example/libmakespan/libmakespan/planners/LongHeap") (PF1 : Fld Z h0 a1 "com/example/libmakespan/libmakespan/planners/LongHeap" "values" "[J" .null) (PF2 : Fld Z h0 a1 "com/example/libmakespan/libmakespan/planners/LongHeap" "size" "I" (.int (0 : Int32))) (Pg1 : n0 ≤ a1) (hp : 0 ≤ p1.toInt ∧ p1.toInt ≤ 3) :
    MetFree l (⟨"com/example/libmakespan/libmakespan/planners/LongHeap", "<init>", "(I)V"⟩ : MethodName) (head1 (Jvm.Cond.code (⟨"com/example/libmakespan/libmakespan/planners/LongHeap", "<init>", "(I)V"⟩ : MethodName) prog_91_method_1_code 2 none :: ws) ({ frames := 1, cells := 1, slots := 3, locals := 16 } : Room)) (fun a U => a = #[(.ref a1), (.int p1)] ∧ Z.Warmed39 U.vm ∧ U.heap = h0) (fun _ _ _ _ _ => True) (fun _ U o U' => ∃ vv LL, o = .returned vv ∧ own_ap (fun v h L => v = none ∧ Fr n0 L ∧ Keep h0 h [a1] ∧ ∃ (b : Addr) (n : Nat), 1 ≤ n ∧ n ≤ 3 ∧ Fld Z h a1 "com/example/libmakespan/libmakespan/planners/LongHeap" "values" "[J" (.ref b) ∧ Fld Z h a1 "com/example/libmakespan/libmakespan/planners/LongHeap" "size" "I" (.int (0 : Int32)) ∧ own_AJ Z h b n (fun _ => 0) ∧ n0 ≤ b ∧ h0.size ≤ b) vv U'.heap LL ∧ FrameEnd U o U' LL 1 3) := by
  refine MetFree.of_bodySF (plainFor_of_name pn_2) hisR ?_
  intro p e s m args below meth c s₁ Bd hml0 hP hK
  obtain ⟨rfl, hZ, hh⟩ := hP
  have hx := Bd.exec
  have hby := Bd.bytes
  have hml : c.maxLocals = 2 := hml0
  have hown : s.vm.findClass "com/example/libmakespan/libmakespan/planners/LongHeap" = some m.cls := findClass_of_methodNamed Bd.named
  have hnm := (name_of_methodNamed Bd.named Bd.method).1
  have X0 : Stand p l e ({ frames := 1, cells := 1, slots := 3, locals := 16 } : Room) s m #[(.ref a1), (.int p1)] below meth c s₁ [] 0 0 := Stand.of_body Bd
  have e0 : s₁.heap = h0 := by rw [← hh, Bd.state]; rfl
  have N0 := Fr.nil n0
  show own_Go p.tables e below (own_Q s (fun v h L => v = none ∧ Fr n0 L ∧ Keep h0 h [a1] ∧ ∃ (b : Addr) (n : Nat), 1 ≤ n ∧ n ≤ 3 ∧ Fld Z h a1 "com/example/libmakespan/libmakespan/planners/LongHeap" "values" "[J" (.ref b) ∧ Fld Z h a1 "com/example/libmakespan/libmakespan/planners/LongHeap" "size" "I" (.int (0 : Int32)) ∧ own_AJ Z h b n (fun _ => 0) ∧ n0 ≤ b ∧ h0.size ≤ b) 1 3) (s₁.setTop (entryFrame m #[(.ref a1), (.int p1)] 2))
  rw [show entryFrame m #[(.ref a1), (.int p1)] 2 = mkF m 0 #[.val (.ref a1), .val (.int p1)] [] from by first | (simp [entryFrame, mkF, argsToLocals, Value.category]; done) | rfl]
  show own_Go _ _ _ _ (s₁.setTop (mkF m 0 #[.val (.ref a1), .val (.int p1)] []))
  refine own_by (fun _ k => XS.aloadN X0.here hx rfl (hb hby d2_0) rfl rfl k) ?_
  show own_Go _ _ _ _ (s₁.setTop (mkF m 1 #[.val (.ref a1), .val (.int p1)] [(.ref a1)]))
  obtain ⟨T1, X1, e1, st1⟩ := initO X0 hx hZ hown (hw _ (List.mem_of_getElem? (i := 13) rfl)) (hw _ (List.mem_of_getElem? (i := 14) rfl)) (hw _ (List.mem_of_getElem? (i := 15) rfl)) e0 (g := (mkF m 1 #[.val (.ref a1), .val (.int p1)] [(.ref a1)])) rfl (by rw [hml]; rfl) rfl (hb hby d2_1) (by decide) (W := 0) (by show 2 * 0 + _ ≤ _; exact Nat.le_of_eq rfl) (by decide)
  refine own_by st1 ?_
  refine own_by (fun _ k => XS.aloadN X1.here hx rfl (hb hby d2_4) rfl rfl k) ?_
  refine own_by (fun _ k => XS.iconst X1.here hx rfl (hb hby d2_5) k) ?_
  show own_Go _ _ _ _ (T1.setTop (mkF m 6 #[.val (.ref a1), .val (.int p1)] [(.int (1 : Int32)), (.ref a1)]))
  refine own_by (fun _ k => XS.iloadN X1.here hx rfl (hb hby d2_6) rfl k) ?_
  show own_Go _ _ _ _ (T1.setTop (mkF m 7 #[.val (.ref a1), .val (.int p1)] [(.int p1), (.int (1 : Int32)), (.ref a1)]))
  refine own_callS X1 hx hZ hown (hw _ (List.mem_of_getElem? (i := 16) rfl)) (hw _ (List.mem_of_getElem? (i := 17) rfl)) (hw _ (List.mem_of_getElem? (i := 18) rfl)) (hw _ (List.mem_of_getElem? (i := 19) rfl)) (by decide) (rm4 l Z a0 hw [] (1 : Int32) p1 h0 n0 Z0) e1 (by rw [hml]; rfl) [(.int (1 : Int32)), (.int p1)] [(.ref a1)] rfl (lenOf own_pd2 rfl) rfl 1 (Nat.le_of_eq rfl) (by decide) (by decide) (Nat.le_of_ble_eq_true rfl) (Nat.le_of_ble_eq_true rfl) (hb hby d2_7) ?_
  intro T2 Lc2 v2 X2 hQ2
  obtain ⟨rfl, N2q, e2⟩ := hQ2
  have N2 := Fr.app N0 N2q
  obtain ⟨n, hn, hn1, hn3⟩ : ∃ n : Nat, ((if (1 : Int32) < p1 then p1 else (1 : Int32))).toInt = (n : Int) ∧ 1 ≤ n ∧ n ≤ 3 := by
    have l1 : (1 : Int32).toInt = 1 := by decide
    by_cases q : (1 : Int32) < p1
    · rw [if_pos q]; rw [Int32.lt_iff_toInt_lt, l1] at q; exact ⟨p1.toInt.toNat, by omega, by omega, by omega⟩
    · rw [if_neg q]; exact ⟨1, l1, by omega, by omega⟩
  show own_Go _ _ _ _ (T2.setTop (mkF m 10 #[.val (.ref a1), .val (.int p1)] [(.int (if (1 : Int32) < p1 then p1 else (1 : Int32))), (.ref a1)]))
  refine own_newP X2 hx hZ (hw _ (List.mem_of_getElem? (i := 1) rfl)) e2 n hn 3 hn3 (by decide) (by decide) (by decide) (hb hby d2_10) ?_
  intro T3 h3 X3 e3 E3 A3
  show own_Go _ _ _ _ (T3.setTop (mkF m 12 #[.val (.ref a1), .val (.int p1)] [.ref h0.size, (.ref a1)]))
  obtain ⟨b3, g3⟩ : ∃ z, z = h0.size := ⟨_, rfl⟩
  rw [← g3] at A3
  refine own_gen g3.symm (fun z_ => T3.setTop (mkF m 12 #[.val (.ref a1), .val (.int p1)] [.ref z_, (.ref a1)])) ?_
  have ne4 : a1 ≠ b3 := Nat.ne_of_lt (Nat.lt_of_lt_of_le PE.lt (Nat.le_of_eq g3.symm))
  have ge3 : n0 ≤ b3 := Nat.le_trans Z0 (Nat.le_of_eq g3.symm)
  have nw3 : h0.size ≤ b3 := Nat.le_trans (Keep.refl h0 [a1]).1 (Nat.le_of_eq g3.symm)
  have f5 := PE.ext E3
  have f6 := PF1.ext E3
  have f7 := PF2.ext E3
  have f8 := (Keep.refl h0 [a1]).ext E3
  have Z3 := Nat.le_trans Z0 E3.1
  have f9 : own_AJ Z h3 b3 n (fun _ => 0) := A3
  show own_Go _ _ _ _ (T3.setTop (mkF m 12 #[.val (.ref a1), .val (.int p1)] [(.ref b3), (.ref a1)]))
  obtain ⟨T10, h10, X10, e10, W10, st10⟩ := putF X3 hx hZ hown (host := "") (Or.inl (hw _ (List.mem_of_getElem? (i := 20) rfl))) Via.refl e3 f6 f5 (Or.inl (hw _ (List.mem_of_getElem? (i := 21) rfl))) (hw _ (List.mem_of_getElem? (i := 8) rfl)) (ty := (.array .long)) (by decide) rfl rfl (g := (mkF m 12 #[.val (.ref a1), .val (.int p1)] [(.ref b3), (.ref a1)])) rfl rfl (hb hby d2_12)
  refine own_by st10 ?_
  have f11 := f6.same W10
  have f12 := f5.wr W10
  have f13 := f7.other W10 (Or.inr (slot_ne (Or.inl (hw _ (List.mem_of_getElem? (i := 28) rfl))) (Or.inl (hw _ (List.mem_of_getElem? (i := 21) rfl))) (by decide) (t := .int) (t' := (.array .long)) (by decide) (by decide)))
  have f14 := f8.wr W10 (Or.inl (List.mem_of_getElem? (i := 0) rfl))
  have f15 := f9.other W10 (Ne.symm ne4)
  have N10 := Fr.snoc X10 N2 Pg1
  have Z10 := own_size_wr W10 Z3
  show own_Go _ _ _ _ (T10.setTop (mkF m 15 #[.val (.ref a1), .val (.int p1)] []))
  exact own_retV X10 hx Bd.notSynchronized e10 Bd.returns (hb hby d2_15) (⟨rfl, N10, f14, _, _, hn1, hn3, f11, f13, f15, ge3, nw3⟩) (by decide) (by decide)
set_option maxRecDepth 65536 in
set_option maxHeartbeats 40000000 in
theorem rm5_0 (l : Launch) (Z : State) (a0 : Array Value) (hw : ∀ d ∈ tables_1, d.before a0 Z = true) (ws : List Jvm.Cond) (a1 : Addr) (q1 : Int64) (b1 : Addr) (n : Nat) (f : Nat → Int64) (h0 : Heap) (n0 : Nat) (Z0 : n0 ≤ h0.size) (PE : Exa Z h0 a1 "com/example/libmakespan/libmakespan/planners/LongHeap") (PF1 : Fld Z h0 a1 "com/example/libmakespan/libmakespan/planners/LongHeap" "values" "[J" (.ref b1)) (PF2 : Fld Z h0 a1 "com/example/libmakespan/libmakespan/planners/LongHeap" "size" "I" (.int (0 : Int32))) (PA : own_AJ Z h0 b1 n f) (Pg1 : n0 ≤ a1) (Pg2 : n0 ≤ b1) (hab : a1 ≠ b1) (hkn : 1 ≤ n) (hn8 : n ≤ 8) (HP : own_hp f 0) :
    MetFree l (⟨"com/example/libmakespan/libmakespan/planners/LongHeap", "add", "(J)V"⟩ : MethodName) (head1 (Jvm.Cond.code (⟨"com/example/libmakespan/libmakespan/planners/LongHeap", "add", "(J)V"⟩ : MethodName) prog_91_method_4_code 5 none :: ws) ({ frames := 2, cells := 1, slots := 8, locals := 75 } : Room)) (fun a U => a = #[(.ref a1), (.long q1)] ∧ Z.Warmed39 U.vm ∧ U.heap = h0) (fun _ _ _ _ _ => True) (fun _ U o U' => ∃ vv LL, o = .returned vv ∧ own_ap (fun v h L => v = none ∧ Fr n0 L ∧ Keep h0 h [a1, b1] ∧ ∃ (b : Addr) (n' : Nat) (f' : Nat → Int64), 1 ≤ n' ∧ n' ≤ 8 ∧ Fld Z h a1 "com/example/libmakespan/libmakespan/planners/LongHeap" "values" "[J" (.ref b) ∧ Fld Z h a1 "com/example/libmakespan/libmakespan/planners/LongHeap" "size" "I" (.int (1 : Int32)) ∧ own_AJ Z h b n' f' ∧ n0 ≤ b ∧ (b = b1 ∨ h0.size ≤ b) ∧ own_hp f' 1 ∧ ∀ x, own_cnt f' x 1 = own_cnt f x 0 + own_one q1 x) vv U'.heap LL ∧ FrameEnd U o U' LL 1 8) := by
  refine MetFree.of_bodySF (plainFor_of_name pn_5) hisR ?_
  intro p e s m args below meth c s₁ Bd hml0 hP hK
  obtain ⟨rfl, hZ, hh⟩ := hP
  have hx := Bd.exec
  have hby := Bd.bytes
  have hml : c.maxLocals = 5 := hml0
  have hown : s.vm.findClass "com/example/libmakespan/libmakespan/planners/LongHeap" = some m.cls := findClass_of_methodNamed Bd.named
  have hnm := (name_of_methodNamed Bd.named Bd.method).1
  have X0 : Stand p l e ({ frames := 2, cells := 1, slots := 8, locals := 75 } : Room) s m #[(.ref a1), (.long q1)] below meth c s₁ [] 0 0 := Stand.of_body Bd
  have e0 : s₁.heap = h0 := by rw [← hh, Bd.state]; rfl
  have N0 := Fr.nil n0
  show own_Go p.tables e below (own_Q s (fun v h L => v = none ∧ Fr n0 L ∧ Keep h0 h [a1, b1] ∧ ∃ (b : Addr) (n' : Nat) (f' : Nat → Int64), 1 ≤ n' ∧ n' ≤ 8 ∧ Fld Z h a1 "com/example/libmakespan/libmakespan/planners/LongHeap" "values" "[J" (.ref b) ∧ Fld Z h a1 "com/example/libmakespan/libmakespan/planners/LongHeap" "size" "I" (.int (1 : Int32)) ∧ own_AJ Z h b n' f' ∧ n0 ≤ b ∧ (b = b1 ∨ h0.size ≤ b) ∧ own_hp f' 1 ∧ ∀ x, own_cnt f' x 1 = own_cnt f x 0 + own_one q1 x) 1 8) (s₁.setTop (entryFrame m #[(.ref a1), (.long q1)] 5))
  rw [show entryFrame m #[(.ref a1), (.long q1)] 5 = mkF m 0 #[.val (.ref a1), .val (.long q1), .second, .unset, .unset] [] from by first | (simp [entryFrame, mkF, argsToLocals, Value.category]; done) | rfl]
  obtain ⟨zn, hznE, hzn⟩ : ∃ z : Int32, z = n.toInt32 ∧ z.toInt = (n : Int) := ⟨n.toInt32, rfl, own_ofN (by omega)⟩
  show own_Go _ _ _ _ (s₁.setTop (mkF m 0 #[.val (.ref a1), .val (.long q1), .second, .unset, .unset] []))
  refine own_by (fun _ k => XS.aloadN X0.here hx rfl (hb hby d5_0) rfl rfl k) ?_
  show own_Go _ _ _ _ (s₁.setTop (mkF m 1 #[.val (.ref a1), .val (.long q1), .second, .unset, .unset] [(.ref a1)]))
  obtain ⟨T1, X1, e1, st1⟩ := getF X0 hx hZ hown (host := "") (Or.inl (hw _ (List.mem_of_getElem? (i := 27) rfl))) Via.refl e0 PF2 (g := (mkF m 1 #[.val (.ref a1), .val (.long q1), .second, .unset, .unset] [(.ref a1)])) rfl rfl (hb hby d5_1)
  refine own_by st1 ?_
  refine own_by (fun _ k => XS.aloadN X1.here hx rfl (hb hby d5_4) rfl rfl k) ?_
  show own_Go _ _ _ _ (T1.setTop (mkF m 5 #[.val (.ref a1), .val (.long q1), .second, .unset, .unset] [(.ref a1), (.int (0 : Int32))]))
  obtain ⟨T2, X2, e2, st2⟩ := getF X1 hx hZ hown (host := "") (Or.inl (hw _ (List.mem_of_getElem? (i := 20) rfl))) Via.refl e1 PF1 (g := (mkF m 5 #[.val (.ref a1), .val (.long q1), .second, .unset, .unset] [(.ref a1), (.int (0 : Int32))])) rfl rfl (hb hby d5_5)
  refine own_by st2 ?_
  show own_Go _ _ _ _ (T2.setTop (mkF m 8 #[.val (.ref a1), .val (.long q1), .second, .unset, .unset] [(.ref b1), (.int (0 : Int32))]))
  refine own_by (fun _ k => own_len X2 hx hZ e2 PA zn hznE (hb hby d5_8) k) ?_
  show own_Go _ _ _ _ (T2.setTop (mkF m 9 #[.val (.ref a1), .val (.long q1), .second, .unset, .unset] [(.int zn), (.int (0 : Int32))]))
  refine own_by (fun _ k => XS.icmpYes X2.here hx rfl (pc0 := 9) (pc' := 29) rfl (hb hby d5_9) rfl (feq (fun q => by have q' := congrArg Int32.toInt q; rw [hzn, (by decide : (0 : Int32).toInt = 0)] at q'; omega)).2 (by decide) (by decide) k) ?_
  refine own_by (fun _ k => XS.aloadN X2.here hx rfl (hb hby d5_29) rfl rfl k) ?_
  show own_Go _ _ _ _ (T2.setTop (mkF m 30 #[.val (.ref a1), .val (.long q1), .second, .unset, .unset] [(.ref a1)]))
  refine own_by (fun _ k => XS.dup X2.here hx rfl (hb hby d5_30) rfl rfl k) ?_
  show own_Go _ _ _ _ (T2.setTop (mkF m 31 #[.val (.ref a1), .val (.long q1), .second, .unset, .unset] [(.ref a1), (.ref a1)]))
  obtain ⟨T3, X3, e3, st3⟩ := getF X2 hx hZ hown (host := "") (Or.inl (hw _ (List.mem_of_getElem? (i := 27) rfl))) Via.refl e2 PF2 (g := (mkF m 31 #[.val (.ref a1), .val (.long q1), .second, .unset, .unset] [(.ref a1), (.ref a1)])) rfl rfl (hb hby d5_31)
  refine own_by st3 ?_
  show own_Go _ _ _ _ (T3.setTop (mkF m 34 #[.val (.ref a1), .val (.long q1), .second, .unset, .unset] [(.int (0 : Int32)), (.ref a1)]))
  refine own_by (fun _ k => XS.dupX1 X3.here hx rfl (hb hby d5_34) rfl rfl rfl k) ?_
  refine own_by (fun _ k => XS.iconst X3.here hx rfl (hb hby d5_35) k) ?_
  show own_Go _ _ _ _ (T3.setTop (mkF m 36 #[.val (.ref a1), .val (.long q1), .second, .unset, .unset] [(.int (1 : Int32)), (.int (0 : Int32)), (.ref a1), (.int (0 : Int32))]))
  refine own_by (fun _ k => XS.iadd X3.here hx rfl (hb hby d5_36) rfl k) ?_
  show own_Go _ _ _ _ (T3.setTop (mkF m 37 #[.val (.ref a1), .val (.long q1), .second, .unset, .unset] [(.int ((0 : Int32) + (1 : Int32))), (.ref a1), (.int (0 : Int32))]))
  rw [(by decide : ((0 : Int32) + (1 : Int32)) = (1 : Int32))]
  show own_Go _ _ _ _ (T3.setTop (mkF m 37 #[.val (.ref a1), .val (.long q1), .second, .unset, .unset] [(.int (1 : Int32)), (.ref a1), (.int (0 : Int32))]))
  obtain ⟨T4, h4, X4, e4, W4, st4⟩ := putF X3 hx hZ hown (host := "") (Or.inl (hw _ (List.mem_of_getElem? (i := 27) rfl))) Via.refl e3 PF2 PE (Or.inl (hw _ (List.mem_of_getElem? (i := 28) rfl))) (hw _ (List.mem_of_getElem? (i := 8) rfl)) (ty := .int) (by decide) rfl rfl (g := (mkF m 37 #[.val (.ref a1), .val (.long q1), .second, .unset, .unset] [(.int (1 : Int32)), (.ref a1), (.int (0 : Int32))])) rfl rfl (hb hby d5_37)
  refine own_by st4 ?_
  have f5 := PF2.same W4
  have f6 := PE.wr W4
  have f7 := PF1.other W4 (Or.inr (slot_ne (Or.inl (hw _ (List.mem_of_getElem? (i := 21) rfl))) (Or.inl (hw _ (List.mem_of_getElem? (i := 28) rfl))) (by decide) (t := (.array .long)) (t' := .int) (by decide) (by decide)))
  have f8 := PA.other W4 (Ne.symm hab)
  have f9 := (Keep.refl h0 [a1, b1]).wr W4 (Or.inl (List.mem_of_getElem? (i := 0) rfl))
  have N4 := Fr.snoc X4 N0 Pg1
  have Z4 := own_size_wr W4 Z0
  show own_Go _ _ _ _ (T4.setTop (mkF m 40 #[.val (.ref a1), .val (.long q1), .second, .unset, .unset] [(.int (0 : Int32))]))
  refine own_by (fun _ k => XS.istoreN X4.here hx rfl (hb hby d5_40) rfl (l' := #[.val (.ref a1), .val (.long q1), .second, .val (.int (0 : Int32)), .unset]) rfl k) ?_
  refine own_by (fun _ k => XS.iloadN X4.here hx rfl (hb hby d5_41) rfl k) ?_
  show own_Go _ _ _ _ (T4.setTop (mkF m 42 #[.val (.ref a1), .val (.long q1), .second, .val (.int (0 : Int32)), .unset] [(.int (0 : Int32))]))
  refine own_by (fun _ k => XS.ifYes X4.here hx rfl (pc0 := 42) (pc' := 86) rfl (hb hby d5_42) rfl ((if0 _ _).trans (flt (by decide)).2.2.2) (by decide) (by decide) k) ?_
  refine own_by (fun _ k => XS.aloadN X4.here hx rfl (hb hby d5_86) rfl rfl k) ?_
  show own_Go _ _ _ _ (T4.setTop (mkF m 87 #[.val (.ref a1), .val (.long q1), .second, .val (.int (0 : Int32)), .unset] [(.ref a1)]))
  obtain ⟨T10, X10, e10, st10⟩ := getF X4 hx hZ hown (host := "") (Or.inl (hw _ (List.mem_of_getElem? (i := 20) rfl))) Via.refl e4 f7 (g := (mkF m 87 #[.val (.ref a1), .val (.long q1), .second, .val (.int (0 : Int32)), .unset] [(.ref a1)])) rfl rfl (hb hby d5_87)
  refine own_by st10 ?_
  refine own_by (fun _ k => XS.iloadN X10.here hx rfl (hb hby d5_90) rfl k) ?_
  refine own_by (fun _ k => XS.lloadN X10.here hx rfl (hb hby d5_91) rfl k) ?_
  show own_Go _ _ _ _ (T10.setTop (mkF m 92 #[.val (.ref a1), .val (.long q1), .second, .val (.int (0 : Int32)), .unset] [(.long q1), (.int (0 : Int32)), (.ref b1)]))
  refine own_las X10 hx hZ e10 f8 0 (by decide) (by omega) (hb hby d5_92) ?_
  intro T11 h11 X11 e11 W11 A11
  have f12 := f6.wr W11
  have f13 := f7.other W11 (Or.inl hab)
  have f14 := f5.other W11 (Or.inl hab)
  have f15 := f9.wr W11 (Or.inl (List.mem_of_getElem? (i := 1) rfl))
  have N11 := Fr.snoc X11 N4 Pg2
  have Z11 := own_size_wr W11 Z4
  obtain ⟨fn11, hfn11⟩ : ∃ g : Nat → Int64, g = own_upd f 0 q1 := ⟨_, rfl⟩
  rw [← hfn11] at A11
  show own_Go _ _ _ _ (T11.setTop (mkF m 93 #[.val (.ref a1), .val (.long q1), .second, .val (.int (0 : Int32)), .unset] []))
  have hfin : own_hp (fn11) 1 ∧ ∀ x, own_cnt (fn11) x 1 = own_cnt f x 0 + own_one q1 x := by
    simp only [hfn11]
    obtain ⟨H1, H2, H3, H4⟩ := HP
    refine ⟨⟨fun q => ?_, fun q => ?_, fun q => ?_, fun q => ?_⟩, fun x => ?_⟩
    · first | omega | (simp [own_upd] at *; omega)
    · first | omega | (simp [own_upd] at *; omega)
    · first | omega | (simp [own_upd] at *; omega)
    · first | omega | (simp [own_upd] at *; omega)
    · simp [own_cnt, own_upd]; try omega
  exact own_retV X11 hx Bd.notSynchronized e11 Bd.returns (hb hby d5_93) (⟨rfl, N11, f15, _, n, _, by omega, by omega, f13, f14, A11, Pg2, Or.inl rfl, hfin.1, hfin.2⟩) (by decide) (by decide)
set_option maxRecDepth 65536 in
set_option maxHeartbeats 40000000 in
theorem rm5_1 (l : Launch) (Z : State) (a0 : Array Value) (hw : ∀ d ∈ tables_1, d.before a0 Z = true) (ws : List Jvm.Cond) (a1 : Addr) (q1 : Int64) (b1 : Addr) (n : Nat) (f : Nat → Int64) (h0 : Heap) (n0 : Nat) (Z0 : n0 ≤ h0.size) (PE : Exa Z h0 a1 "com/example/libmakespan/libmakespan/planners/LongHeap") (PF1 : Fld Z h0 a1 "com/example/libmakespan/libmakespan/planners/LongHeap" "values" "[J" (.ref b1)) (PF2 : Fld Z h0 a1 "com/example/libmakespan/libmakespan/planners/LongHeap" "size" "I" (.int (1 : Int32))) (PA : own_AJ Z h0 b1 n f) (Pg1 : n0 ≤ a1) (Pg2 : n0 ≤ b1) (hab : a1 ≠ b1) (hkn : 1 ≤ n) (hn8 : n ≤ 8) (HP : own_hp f 1) :
    MetFree l (⟨"com/example/libmakespan/libmakespan/planners/LongHeap", "add", "(J)V"⟩ : MethodName) (head1 (Jvm.Cond.code (⟨"com/example/libmakespan/libmakespan/planners/LongHeap", "add", "(J)V"⟩ : MethodName) prog_91_method_4_code 5 none :: ws) ({ frames := 2, cells := 1, slots := 8, locals := 75 } : Room)) (fun a U => a = #[(.ref a1), (.long q1)] ∧ Z.Warmed39 U.vm ∧ U.heap = h0) (fun _ _ _ _ _ => True) (fun _ U o U' => ∃ vv LL, o = .returned vv ∧ own_ap (fun v h L => v = none ∧ Fr n0 L ∧ Keep h0 h [a1, b1] ∧ ∃ (b : Addr) (n' : Nat) (f' : Nat → Int64), 2 ≤ n' ∧ n' ≤ 8 ∧ Fld Z h a1 "com/example/libmakespan/libmakespan/planners/LongHeap" "values" "[J" (.ref b) ∧ Fld Z h a1 "com/example/libmakespan/libmakespan/planners/LongHeap" "size" "I" (.int (2 : Int32)) ∧ own_AJ Z h b n' f' ∧ n0 ≤ b ∧ (b = b1 ∨ h0.size ≤ b) ∧ own_hp f' 2 ∧ ∀ x, own_cnt f' x 2 = own_cnt f x 1 + own_one q1 x) vv U'.heap LL ∧ FrameEnd U o U' LL 1 8) := by
  refine MetFree.of_bodySF (plainFor_of_name pn_5) hisR ?_
  intro p e s m args below meth c s₁ Bd hml0 hP hK
  obtain ⟨rfl, hZ, hh⟩ := hP
  have hx := Bd.exec
  have hby := Bd.bytes
  have hml : c.maxLocals = 5 := hml0
  have hown : s.vm.findClass "com/example/libmakespan/libmakespan/planners/LongHeap" = some m.cls := findClass_of_methodNamed Bd.named
  have hnm := (name_of_methodNamed Bd.named Bd.method).1
  have X0 : Stand p l e ({ frames := 2, cells := 1, slots := 8, locals := 75 } : Room) s m #[(.ref a1), (.long q1)] below meth c s₁ [] 0 0 := Stand.of_body Bd
  have e0 : s₁.heap = h0 := by rw [← hh, Bd.state]; rfl
  have N0 := Fr.nil n0
  show own_Go p.tables e below (own_Q s (fun v h L => v = none ∧ Fr n0 L ∧ Keep h0 h [a1, b1] ∧ ∃ (b : Addr) (n' : Nat) (f' : Nat → Int64), 2 ≤ n' ∧ n' ≤ 8 ∧ Fld Z h a1 "com/example/libmakespan/libmakespan/planners/LongHeap" "values" "[J" (.ref b) ∧ Fld Z h a1 "com/example/libmakespan/libmakespan/planners/LongHeap" "size" "I" (.int (2 : Int32)) ∧ own_AJ Z h b n' f' ∧ n0 ≤ b ∧ (b = b1 ∨ h0.size ≤ b) ∧ own_hp f' 2 ∧ ∀ x, own_cnt f' x 2 = own_cnt f x 1 + own_one q1 x) 1 8) (s₁.setTop (entryFrame m #[(.ref a1), (.long q1)] 5))
  rw [show entryFrame m #[(.ref a1), (.long q1)] 5 = mkF m 0 #[.val (.ref a1), .val (.long q1), .second, .unset, .unset] [] from by first | (simp [entryFrame, mkF, argsToLocals, Value.category]; done) | rfl]
  obtain ⟨zn, hznE, hzn⟩ : ∃ z : Int32, z = n.toInt32 ∧ z.toInt = (n : Int) := ⟨n.toInt32, rfl, own_ofN (by omega)⟩
  show own_Go _ _ _ _ (s₁.setTop (mkF m 0 #[.val (.ref a1), .val (.long q1), .second, .unset, .unset] []))
  refine own_by (fun _ k => XS.aloadN X0.here hx rfl (hb hby d5_0) rfl rfl k) ?_
  show own_Go _ _ _ _ (s₁.setTop (mkF m 1 #[.val (.ref a1), .val (.long q1), .second, .unset, .unset] [(.ref a1)]))
  obtain ⟨T1, X1, e1, st1⟩ := getF X0 hx hZ hown (host := "") (Or.inl (hw _ (List.mem_of_getElem? (i := 27) rfl))) Via.refl e0 PF2 (g := (mkF m 1 #[.val (.ref a1), .val (.long q1), .second, .unset, .unset] [(.ref a1)])) rfl rfl (hb hby d5_1)
  refine own_by st1 ?_
  refine own_by (fun _ k => XS.aloadN X1.here hx rfl (hb hby d5_4) rfl rfl k) ?_
  show own_Go _ _ _ _ (T1.setTop (mkF m 5 #[.val (.ref a1), .val (.long q1), .second, .unset, .unset] [(.ref a1), (.int (1 : Int32))]))
  obtain ⟨T2, X2, e2, st2⟩ := getF X1 hx hZ hown (host := "") (Or.inl (hw _ (List.mem_of_getElem? (i := 20) rfl))) Via.refl e1 PF1 (g := (mkF m 5 #[.val (.ref a1), .val (.long q1), .second, .unset, .unset] [(.ref a1), (.int (1 : Int32))])) rfl rfl (hb hby d5_5)
  refine own_by st2 ?_
  show own_Go _ _ _ _ (T2.setTop (mkF m 8 #[.val (.ref a1), .val (.long q1), .second, .unset, .unset] [(.ref b1), (.int (1 : Int32))]))
  refine own_by (fun _ k => own_len X2 hx hZ e2 PA zn hznE (hb hby d5_8) k) ?_
  show own_Go _ _ _ _ (T2.setTop (mkF m 9 #[.val (.ref a1), .val (.long q1), .second, .unset, .unset] [(.int zn), (.int (1 : Int32))]))
  by_cases hc3 : (1 : Int32) = zn
  · --
    have hnk : n = 1 := by have q' := congrArg Int32.toInt hc3; rw [hzn, (by decide : (1 : Int32).toInt = 1)] at q'; omega
    subst hnk
    refine own_by (fun _ k => XS.icmpNo X2.here hx rfl (hb hby d5_9) rfl (teq hc3).2 k) ?_
    refine own_by (fun _ k => XS.aloadN X2.here hx rfl (hb hby d5_12) rfl rfl k) ?_
    refine own_by (fun _ k => XS.aloadN X2.here hx rfl (hb hby d5_13) rfl rfl k) ?_
    show own_Go _ _ _ _ (T2.setTop (mkF m 14 #[.val (.ref a1), .val (.long q1), .second, .unset, .unset] [(.ref a1), (.ref a1)]))
    obtain ⟨T4, X4, e4, st4⟩ := getF X2 hx hZ hown (host := "") (Or.inl (hw _ (List.mem_of_getElem? (i := 20) rfl))) Via.refl e2 PF1 (g := (mkF m 14 #[.val (.ref a1), .val (.long q1), .second, .unset, .unset] [(.ref a1), (.ref a1)])) rfl rfl (hb hby d5_14)
    refine own_by st4 ?_
    refine own_by (fun _ k => XS.iconst X4.here hx rfl (hb hby d5_17) k) ?_
    refine own_by (fun _ k => XS.aloadN X4.here hx rfl (hb hby d5_18) rfl rfl k) ?_
    show own_Go _ _ _ _ (T4.setTop (mkF m 19 #[.val (.ref a1), .val (.long q1), .second, .unset, .unset] [(.ref a1), (.int (2 : Int32)), (.ref b1), (.ref a1)]))
    obtain ⟨T5, X5, e5, st5⟩ := getF X4 hx hZ hown (host := "") (Or.inl (hw _ (List.mem_of_getElem? (i := 27) rfl))) Via.refl e4 PF2 (g := (mkF m 19 #[.val (.ref a1), .val (.long q1), .second, .unset, .unset] [(.ref a1), (.int (2 : Int32)), (.ref b1), (.ref a1)])) rfl rfl (hb hby d5_19)
    refine own_by st5 ?_
    show own_Go _ _ _ _ (T5.setTop (mkF m 22 #[.val (.ref a1), .val (.long q1), .second, .unset, .unset] [(.int (1 : Int32)), (.int (2 : Int32)), (.ref b1), (.ref a1)]))
    refine own_by (fun _ k => XS.imul X5.here hx rfl (hb hby d5_22) rfl k) ?_
    show own_Go _ _ _ _ (T5.setTop (mkF m 23 #[.val (.ref a1), .val (.long q1), .second, .unset, .unset] [(.int ((2 : Int32) * (1 : Int32))), (.ref b1), (.ref a1)]))
    rw [(by decide : ((2 : Int32) * (1 : Int32)) = (2 : Int32))]
    show own_Go _ _ _ _ (T5.setTop (mkF m 23 #[.val (.ref a1), .val (.long q1), .second, .unset, .unset] [(.int (2 : Int32)), (.ref b1), (.ref a1)]))
    obtain ⟨bn, hbn⟩ : ∃ z, z = h0.size := ⟨_, rfl⟩
    have ne_a1 : a1 ≠ bn := Nat.ne_of_lt (Nat.lt_of_lt_of_le PE.lt (Nat.le_of_eq hbn.symm))
    have ne_b1 : b1 ≠ bn := Nat.ne_of_lt (Nat.lt_of_lt_of_le PA.lt (Nat.le_of_eq hbn.symm))
    have gebn : n0 ≤ bn := Nat.le_trans Z0 (Nat.le_of_eq hbn.symm)
    have nwbn : h0.size ≤ bn := Nat.le_trans (Keep.refl h0 [a1, b1]).1 (Nat.le_of_eq hbn.symm)
    refine own_callS X5 hx hZ hown (hw _ (List.mem_of_getElem? (i := 29) rfl)) (hw _ (List.mem_of_getElem? (i := 30) rfl)) (hw _ (List.mem_of_getElem? (i := 31) rfl)) (hw _ (List.mem_of_getElem? (i := 32) rfl)) (by decide) (rm6 l Z a0 hw [] b1 (2 : Int32) 1 2 f h0 n0 Z0 PA (by decide) (by decide) (by decide) (by decide)) e5 (by rw [hml]; rfl) [(.ref b1), (.int (2 : Int32))] [(.ref a1)] rfl (lenOf own_pd4 rfl) rfl 1 (Nat.le_of_eq rfl) (by decide) (by decide) (Nat.le_of_ble_eq_true rfl) (Nat.le_of_ble_eq_true rfl) (hb hby d5_23) ?_
    intro T6 Lc6 v6 X6 hQ6
    obtain ⟨h6, e6⟩ : ∃ h, T6.heap = h := ⟨_, rfl⟩
    rw [e6] at hQ6
    obtain ⟨rfl, N6q, K6, A6⟩ := hQ6
    have N6 := Fr.app N0 N6q
    have f7 := PE.keep K6
    have f8 := PF1.keep K6 nin0
    have f9 := PF2.keep K6 nin0
    have f10 := PA.keep K6 nin0
    have f11 := (Keep.refl h0 [a1, b1]).trans K6 all0
    have Z6 := Nat.le_trans Z0 K6.1
    rw [← hbn] at A6
    obtain ⟨f2, hf2⟩ : ∃ g : Nat → Int64, g = (fun j => if j < 1 then f j else 0) := ⟨_, rfl⟩
    rw [← hf2] at A6
    have hfe : ∀ j, j < 1 → f j = f2 j := fun j hj => by rw [hf2]; simp [hj]
    have HP2 := own_hpc f f2 1 hfe HP
    have hc2 := fun x => own_cntc f f2 x 1 hfe
    show own_Go _ _ _ _ (T6.setTop (mkF m 26 #[.val (.ref a1), .val (.long q1), .second, .unset, .unset] [(.ref h0.size), (.ref a1)]))
    refine own_gen hbn.symm (fun z_ => T6.setTop (mkF m 26 #[.val (.ref a1), .val (.long q1), .second, .unset, .unset] [(.ref z_), (.ref a1)])) ?_
    show own_Go _ _ _ _ (T6.setTop (mkF m 26 #[.val (.ref a1), .val (.long q1), .second, .unset, .unset] [(.ref bn), (.ref a1)]))
    obtain ⟨T12, h12, X12, e12, W12, st12⟩ := putF X6 hx hZ hown (host := "") (Or.inl (hw _ (List.mem_of_getElem? (i := 20) rfl))) Via.refl e6 f8 f7 (Or.inl (hw _ (List.mem_of_getElem? (i := 21) rfl))) (hw _ (List.mem_of_getElem? (i := 8) rfl)) (ty := (.array .long)) (by decide) rfl rfl (g := (mkF m 26 #[.val (.ref a1), .val (.long q1), .second, .unset, .unset] [(.ref bn), (.ref a1)])) rfl rfl (hb hby d5_26)
    refine own_by st12 ?_
    have f13 := f8.same W12
    have f14 := f7.wr W12
    have f15 := f9.other W12 (Or.inr (slot_ne (Or.inl (hw _ (List.mem_of_getElem? (i := 28) rfl))) (Or.inl (hw _ (List.mem_of_getElem? (i := 21) rfl))) (by decide) (t := .int) (t' := (.array .long)) (by decide) (by decide)))
    have f16 := f10.other W12 (Ne.symm hab)
    have f17 := f11.wr W12 (Or.inl (List.mem_of_getElem? (i := 0) rfl))
    have f18 := A6.other W12 (Ne.symm ne_a1)
    have N12 := Fr.snoc X12 N6 Pg1
    have Z12 := own_size_wr W12 Z6
    show own_Go _ _ _ _ (T12.setTop (mkF m 29 #[.val (.ref a1), .val (.long q1), .second, .unset, .unset] []))
    refine own_by (fun _ k => XS.aloadN X12.here hx rfl (hb hby d5_29) rfl rfl k) ?_
    show own_Go _ _ _ _ (T12.setTop (mkF m 30 #[.val (.ref a1), .val (.long q1), .second, .unset, .unset] [(.ref a1)]))
    refine own_by (fun _ k => XS.dup X12.here hx rfl (hb hby d5_30) rfl rfl k) ?_
    show own_Go _ _ _ _ (T12.setTop (mkF m 31 #[.val (.ref a1), .val (.long q1), .second, .unset, .unset] [(.ref a1), (.ref a1)]))
    obtain ⟨T19, X19, e19, st19⟩ := getF X12 hx hZ hown (host := "") (Or.inl (hw _ (List.mem_of_getElem? (i := 27) rfl))) Via.refl e12 f15 (g := (mkF m 31 #[.val (.ref a1), .val (.long q1), .second, .unset, .unset] [(.ref a1), (.ref a1)])) rfl rfl (hb hby d5_31)
    refine own_by st19 ?_
    show own_Go _ _ _ _ (T19.setTop (mkF m 34 #[.val (.ref a1), .val (.long q1), .second, .unset, .unset] [(.int (1 : Int32)), (.ref a1)]))
    refine own_by (fun _ k => XS.dupX1 X19.here hx rfl (hb hby d5_34) rfl rfl rfl k) ?_
    refine own_by (fun _ k => XS.iconst X19.here hx rfl (hb hby d5_35) k) ?_
    show own_Go _ _ _ _ (T19.setTop (mkF m 36 #[.val (.ref a1), .val (.long q1), .second, .unset, .unset] [(.int (1 : Int32)), (.int (1 : Int32)), (.ref a1), (.int (1 : Int32))]))
    refine own_by (fun _ k => XS.iadd X19.here hx rfl (hb hby d5_36) rfl k) ?_
    show own_Go _ _ _ _ (T19.setTop (mkF m 37 #[.val (.ref a1), .val (.long q1), .second, .unset, .unset] [(.int ((1 : Int32) + (1 : Int32))), (.ref a1), (.int (1 : Int32))]))
    rw [(by decide : ((1 : Int32) + (1 : Int32)) = (2 : Int32))]
    show own_Go _ _ _ _ (T19.setTop (mkF m 37 #[.val (.ref a1), .val (.long q1), .second, .unset, .unset] [(.int (2 : Int32)), (.ref a1), (.int (1 : Int32))]))
    obtain ⟨T20, h20, X20, e20, W20, st20⟩ := putF X19 hx hZ hown (host := "") (Or.inl (hw _ (List.mem_of_getElem? (i := 27) rfl))) Via.refl e19 f15 f14 (Or.inl (hw _ (List.mem_of_getElem? (i := 28) rfl))) (hw _ (List.mem_of_getElem? (i := 8) rfl)) (ty := .int) (by decide) rfl rfl (g := (mkF m 37 #[.val (.ref a1), .val (.long q1), .second, .unset, .unset] [(.int (2 : Int32)), (.ref a1), (.int (1 : Int32))])) rfl rfl (hb hby d5_37)
    refine own_by st20 ?_
    have f21 := f15.same W20
    have f22 := f14.wr W20
    have f23 := f13.other W20 (Or.inr (slot_ne (Or.inl (hw _ (List.mem_of_getElem? (i := 21) rfl))) (Or.inl (hw _ (List.mem_of_getElem? (i := 28) rfl))) (by decide) (t := (.array .long)) (t' := .int) (by decide) (by decide)))
    have f24 := f16.other W20 (Ne.symm hab)
    have f25 := f17.wr W20 (Or.inl (List.mem_of_getElem? (i := 0) rfl))
    have f26 := f18.other W20 (Ne.symm ne_a1)
    have N20 := Fr.snoc X20 N12 Pg1
    have Z20 := own_size_wr W20 Z12
    show own_Go _ _ _ _ (T20.setTop (mkF m 40 #[.val (.ref a1), .val (.long q1), .second, .unset, .unset] [(.int (1 : Int32))]))
    refine own_by (fun _ k => XS.istoreN X20.here hx rfl (hb hby d5_40) rfl (l' := #[.val (.ref a1), .val (.long q1), .second, .val (.int (1 : Int32)), .unset]) rfl k) ?_
    refine own_by (fun _ k => XS.iloadN X20.here hx rfl (hb hby d5_41) rfl k) ?_
    show own_Go _ _ _ _ (T20.setTop (mkF m 42 #[.val (.ref a1), .val (.long q1), .second, .val (.int (1 : Int32)), .unset] [(.int (1 : Int32))]))
    refine own_by (fun _ k => XS.ifNo X20.here hx rfl (hb hby d5_42) rfl ((if0 _ _).trans (tlt (by decide)).2.2.2) k) ?_
    refine own_by (fun _ k => XS.iloadN X20.here hx rfl (hb hby d5_45) rfl k) ?_
    refine own_by (fun _ k => XS.iconst X20.here hx rfl (hb hby d5_46) k) ?_
    show own_Go _ _ _ _ (T20.setTop (mkF m 47 #[.val (.ref a1), .val (.long q1), .second, .val (.int (1 : Int32)), .unset] [(.int (1 : Int32)), (.int (1 : Int32))]))
    refine own_by (fun _ k => XS.isub X20.here hx rfl (hb hby d5_47) rfl k) ?_
    show own_Go _ _ _ _ (T20.setTop (mkF m 48 #[.val (.ref a1), .val (.long q1), .second, .val (.int (1 : Int32)), .unset] [(.int ((1 : Int32) - (1 : Int32)))]))
    rw [(by decide : ((1 : Int32) - (1 : Int32)) = (0 : Int32))]
    refine own_by (fun _ k => XS.iconst X20.here hx rfl (hb hby d5_48) k) ?_
    show own_Go _ _ _ _ (T20.setTop (mkF m 49 #[.val (.ref a1), .val (.long q1), .second, .val (.int (1 : Int32)), .unset] [(.int (1 : Int32)), (.int (0 : Int32))]))
    refine own_by (fun _ k => XS.iushr X20.here hx rfl (hb hby d5_49) rfl k) ?_
    show own_Go _ _ _ _ (T20.setTop (mkF m 50 #[.val (.ref a1), .val (.long q1), .second, .val (.int (1 : Int32)), .unset] [(.int (((0 : Int32).toUInt32 >>> ((1 : Int32) &&& 31).toUInt32).toInt32))]))
    rw [(by decide : (((0 : Int32).toUInt32 >>> ((1 : Int32) &&& 31).toUInt32).toInt32) = (0 : Int32))]
    show own_Go _ _ _ _ (T20.setTop (mkF m 50 #[.val (.ref a1), .val (.long q1), .second, .val (.int (1 : Int32)), .unset] [(.int (0 : Int32))]))
    refine own_by (fun _ k => XS.istore X20.here hx rfl (hb hby d5_50) rfl (l' := #[.val (.ref a1), .val (.long q1), .second, .val (.int (1 : Int32)), .val (.int (0 : Int32))]) rfl k) ?_
    refine own_by (fun _ k => XS.aloadN X20.here hx rfl (hb hby d5_52) rfl rfl k) ?_
    show own_Go _ _ _ _ (T20.setTop (mkF m 53 #[.val (.ref a1), .val (.long q1), .second, .val (.int (1 : Int32)), .val (.int (0 : Int32))] [(.ref a1)]))
    obtain ⟨T27, X27, e27, st27⟩ := getF X20 hx hZ hown (host := "") (Or.inl (hw _ (List.mem_of_getElem? (i := 20) rfl))) Via.refl e20 f23 (g := (mkF m 53 #[.val (.ref a1), .val (.long q1), .second, .val (.int (1 : Int32)), .val (.int (0 : Int32))] [(.ref a1)])) rfl rfl (hb hby d5_53)
    refine own_by st27 ?_
    refine own_by (fun _ k => XS.iload X27.here hx rfl (hb hby d5_56) rfl k) ?_
    show own_Go _ _ _ _ (T27.setTop (mkF m 58 #[.val (.ref a1), .val (.long q1), .second, .val (.int (1 : Int32)), .val (.int (0 : Int32))] [(.int (0 : Int32)), (.ref bn)]))
    refine own_by (fun _ k => own_lal X27 hx hZ e27 f26 0 (by decide) (by decide) (hb hby d5_58) k) ?_
    refine own_by (fun _ k => XS.lloadN X27.here hx rfl (hb hby d5_59) rfl k) ?_
    show own_Go _ _ _ _ (T27.setTop (mkF m 60 #[.val (.ref a1), .val (.long q1), .second, .val (.int (1 : Int32)), .val (.int (0 : Int32))] [(.long q1), (.long (f2 0))]))
    refine own_by (fun _ k => XS.lcmp X27.here hx rfl (hb hby d5_60) rfl k) ?_
    show own_Go _ _ _ _ (T27.setTop (mkF m 61 #[.val (.ref a1), .val (.long q1), .second, .val (.int (1 : Int32)), .val (.int (0 : Int32))] [(.int (lcmpW (f2 0) q1))]))
    by_cases hc28 : q1 < (f2 0)
    · --
      refine own_by (fun _ k => XS.ifYes X27.here hx rfl (pc0 := 61) (pc' := 67) rfl (hb hby d5_61) rfl ((if0 _ _).trans (tlt ((lw_gt _ _).mpr hc28)).2.2.1) (by decide) (by decide) k) ?_
      refine own_by (fun _ k => XS.aloadN X27.here hx rfl (hb hby d5_67) rfl rfl k) ?_
      show own_Go _ _ _ _ (T27.setTop (mkF m 68 #[.val (.ref a1), .val (.long q1), .second, .val (.int (1 : Int32)), .val (.int (0 : Int32))] [(.ref a1)]))
      obtain ⟨T29, X29, e29, st29⟩ := getF X27 hx hZ hown (host := "") (Or.inl (hw _ (List.mem_of_getElem? (i := 20) rfl))) Via.refl e27 f23 (g := (mkF m 68 #[.val (.ref a1), .val (.long q1), .second, .val (.int (1 : Int32)), .val (.int (0 : Int32))] [(.ref a1)])) rfl rfl (hb hby d5_68)
      refine own_by st29 ?_
      refine own_by (fun _ k => XS.iloadN X29.here hx rfl (hb hby d5_71) rfl k) ?_
      refine own_by (fun _ k => XS.aloadN X29.here hx rfl (hb hby d5_72) rfl rfl k) ?_
      show own_Go _ _ _ _ (T29.setTop (mkF m 73 #[.val (.ref a1), .val (.long q1), .second, .val (.int (1 : Int32)), .val (.int (0 : Int32))] [(.ref a1), (.int (1 : Int32)), (.ref bn)]))
      obtain ⟨T30, X30, e30, st30⟩ := getF X29 hx hZ hown (host := "") (Or.inl (hw _ (List.mem_of_getElem? (i := 20) rfl))) Via.refl e29 f23 (g := (mkF m 73 #[.val (.ref a1), .val (.long q1), .second, .val (.int (1 : Int32)), .val (.int (0 : Int32))] [(.ref a1), (.int (1 : Int32)), (.ref bn)])) rfl rfl (hb hby d5_73)
      refine own_by st30 ?_
      refine own_by (fun _ k => XS.iload X30.here hx rfl (hb hby d5_76) rfl k) ?_
      show own_Go _ _ _ _ (T30.setTop (mkF m 78 #[.val (.ref a1), .val (.long q1), .second, .val (.int (1 : Int32)), .val (.int (0 : Int32))] [(.int (0 : Int32)), (.ref bn), (.int (1 : Int32)), (.ref bn)]))
      refine own_by (fun _ k => own_lal X30 hx hZ e30 f26 0 (by decide) (by decide) (hb hby d5_78) k) ?_
      show own_Go _ _ _ _ (T30.setTop (mkF m 79 #[.val (.ref a1), .val (.long q1), .second, .val (.int (1 : Int32)), .val (.int (0 : Int32))] [(.long (f2 0)), (.int (1 : Int32)), (.ref bn)]))
      refine own_las X30 hx hZ e30 f26 1 (by decide) (by decide) (hb hby d5_79) ?_
      intro T31 h31 X31 e31 W31 A31
      have f32 := f22.wr W31
      have f33 := f23.other W31 (Or.inl ne_a1)
      have f34 := f21.other W31 (Or.inl ne_a1)
      have f35 := f24.other W31 ne_b1
      have f36 := f25.wr W31 (Or.inr nwbn)
      have N31 := Fr.snoc X31 N20 gebn
      have Z31 := own_size_wr W31 Z20
      obtain ⟨fn31, hfn31⟩ : ∃ g : Nat → Int64, g = own_upd f2 1 (f2 0) := ⟨_, rfl⟩
      rw [← hfn31] at A31
      show own_Go _ _ _ _ (T31.setTop (mkF m 80 #[.val (.ref a1), .val (.long q1), .second, .val (.int (1 : Int32)), .val (.int (0 : Int32))] []))
      refine own_by (fun _ k => XS.iload X31.here hx rfl (hb hby d5_80) rfl k) ?_
      show own_Go _ _ _ _ (T31.setTop (mkF m 82 #[.val (.ref a1), .val (.long q1), .second, .val (.int (1 : Int32)), .val (.int (0 : Int32))] [(.int (0 : Int32))]))
      refine own_by (fun _ k => XS.istoreN X31.here hx rfl (hb hby d5_82) rfl (l' := #[.val (.ref a1), .val (.long q1), .second, .val (.int (0 : Int32)), .val (.int (0 : Int32))]) rfl k) ?_
      show own_Go _ _ _ _ (T31.setTop (mkF m 83 #[.val (.ref a1), .val (.long q1), .second, .val (.int (0 : Int32)), .val (.int (0 : Int32))] []))
      refine own_by (fun _ k => XS.goto X31.here hx rfl (pc0 := 83) (pc' := 41) rfl (hb hby d5_83) (by decide) (by decide) k) ?_
      refine own_by (fun _ k => XS.iloadN X31.here hx rfl (hb hby d5_41) rfl k) ?_
      show own_Go _ _ _ _ (T31.setTop (mkF m 42 #[.val (.ref a1), .val (.long q1), .second, .val (.int (0 : Int32)), .val (.int (0 : Int32))] [(.int (0 : Int32))]))
      refine own_by (fun _ k => XS.ifYes X31.here hx rfl (pc0 := 42) (pc' := 86) rfl (hb hby d5_42) rfl ((if0 _ _).trans (flt (by decide)).2.2.2) (by decide) (by decide) k) ?_
      refine own_by (fun _ k => XS.aloadN X31.here hx rfl (hb hby d5_86) rfl rfl k) ?_
      show own_Go _ _ _ _ (T31.setTop (mkF m 87 #[.val (.ref a1), .val (.long q1), .second, .val (.int (0 : Int32)), .val (.int (0 : Int32))] [(.ref a1)]))
      obtain ⟨T37, X37, e37, st37⟩ := getF X31 hx hZ hown (host := "") (Or.inl (hw _ (List.mem_of_getElem? (i := 20) rfl))) Via.refl e31 f33 (g := (mkF m 87 #[.val (.ref a1), .val (.long q1), .second, .val (.int (0 : Int32)), .val (.int (0 : Int32))] [(.ref a1)])) rfl rfl (hb hby d5_87)
      refine own_by st37 ?_
      refine own_by (fun _ k => XS.iloadN X37.here hx rfl (hb hby d5_90) rfl k) ?_
      refine own_by (fun _ k => XS.lloadN X37.here hx rfl (hb hby d5_91) rfl k) ?_
      show own_Go _ _ _ _ (T37.setTop (mkF m 92 #[.val (.ref a1), .val (.long q1), .second, .val (.int (0 : Int32)), .val (.int (0 : Int32))] [(.long q1), (.int (0 : Int32)), (.ref bn)]))
      refine own_las X37 hx hZ e37 A31 0 (by decide) (by decide) (hb hby d5_92) ?_
      intro T38 h38 X38 e38 W38 A38
      have f39 := f32.wr W38
      have f40 := f33.other W38 (Or.inl ne_a1)
      have f41 := f34.other W38 (Or.inl ne_a1)
      have f42 := f35.other W38 ne_b1
      have f43 := f36.wr W38 (Or.inr nwbn)
      have N38 := Fr.snoc X38 N31 gebn
      have Z38 := own_size_wr W38 Z31
      obtain ⟨fn38, hfn38⟩ : ∃ g : Nat → Int64, g = own_upd fn31 0 q1 := ⟨_, rfl⟩
      rw [← hfn38] at A38
      show own_Go _ _ _ _ (T38.setTop (mkF m 93 #[.val (.ref a1), .val (.long q1), .second, .val (.int (0 : Int32)), .val (.int (0 : Int32))] []))
      have hfin : own_hp (fn38) 2 ∧ ∀ x, own_cnt (fn38) x 2 = own_cnt f x 1 + own_one q1 x := by
        simp only [hfn38, hfn31]
        simp only [hc2]
        obtain ⟨H1, H2, H3, H4⟩ := HP2
        have hc28' := hc28
        rw [Int64.lt_iff_toInt_lt] at hc28'
        refine ⟨⟨fun q => ?_, fun q => ?_, fun q => ?_, fun q => ?_⟩, fun x => ?_⟩
        · first | omega | (simp [own_upd] at *; omega)
        · first | omega | (simp [own_upd] at *; omega)
        · first | omega | (simp [own_upd] at *; omega)
        · first | omega | (simp [own_upd] at *; omega)
        · simp [own_cnt, own_upd]; try omega
      exact own_retV X38 hx Bd.notSynchronized e38 Bd.returns (hb hby d5_93) (⟨rfl, N38, f43, _, 2, _, by decide, by omega, f40, f41, A38, gebn, Or.inr nwbn, hfin.1, hfin.2⟩) (by decide) (by decide)
    · --
      refine own_by (fun _ k => XS.ifNo X27.here hx rfl (hb hby d5_61) rfl ((if0 _ _).trans (flt (mt (lw_gt _ _).mp hc28)).2.2.1) k) ?_
      show own_Go _ _ _ _ (T27.setTop (mkF m 64 #[.val (.ref a1), .val (.long q1), .second, .val (.int (1 : Int32)), .val (.int (0 : Int32))] []))
      refine own_by (fun _ k => XS.goto X27.here hx rfl (pc0 := 64) (pc' := 86) rfl (hb hby d5_64) (by decide) (by decide) k) ?_
      refine own_by (fun _ k => XS.aloadN X27.here hx rfl (hb hby d5_86) rfl rfl k) ?_
      show own_Go _ _ _ _ (T27.setTop (mkF m 87 #[.val (.ref a1), .val (.long q1), .second, .val (.int (1 : Int32)), .val (.int (0 : Int32))] [(.ref a1)]))
      obtain ⟨T44, X44, e44, st44⟩ := getF X27 hx hZ hown (host := "") (Or.inl (hw _ (List.mem_of_getElem? (i := 20) rfl))) Via.refl e27 f23 (g := (mkF m 87 #[.val (.ref a1), .val (.long q1), .second, .val (.int (1 : Int32)), .val (.int (0 : Int32))] [(.ref a1)])) rfl rfl (hb hby d5_87)
      refine own_by st44 ?_
      refine own_by (fun _ k => XS.iloadN X44.here hx rfl (hb hby d5_90) rfl k) ?_
      refine own_by (fun _ k => XS.lloadN X44.here hx rfl (hb hby d5_91) rfl k) ?_
      show own_Go _ _ _ _ (T44.setTop (mkF m 92 #[.val (.ref a1), .val (.long q1), .second, .val (.int (1 : Int32)), .val (.int (0 : Int32))] [(.long q1), (.int (1 : Int32)), (.ref bn)]))
      refine own_las X44 hx hZ e44 f26 1 (by decide) (by decide) (hb hby d5_92) ?_
      intro T45 h45 X45 e45 W45 A45
      have f46 := f22.wr W45
      have f47 := f23.other W45 (Or.inl ne_a1)
      have f48 := f21.other W45 (Or.inl ne_a1)
      have f49 := f24.other W45 ne_b1
      have f50 := f25.wr W45 (Or.inr nwbn)
      have N45 := Fr.snoc X45 N20 gebn
      have Z45 := own_size_wr W45 Z20
      obtain ⟨fn45, hfn45⟩ : ∃ g : Nat → Int64, g = own_upd f2 1 q1 := ⟨_, rfl⟩
      rw [← hfn45] at A45
      show own_Go _ _ _ _ (T45.setTop (mkF m 93 #[.val (.ref a1), .val (.long q1), .second, .val (.int (1 : Int32)), .val (.int (0 : Int32))] []))
      have hfin : own_hp (fn45) 2 ∧ ∀ x, own_cnt (fn45) x 2 = own_cnt f x 1 + own_one q1 x := by
        simp only [hfn45]
        simp only [hc2]
        obtain ⟨H1, H2, H3, H4⟩ := HP2
        have hc28' := hc28
        rw [Int64.lt_iff_toInt_lt] at hc28'
        refine ⟨⟨fun q => ?_, fun q => ?_, fun q => ?_, fun q => ?_⟩, fun x => ?_⟩
        · first | omega | (simp [own_upd] at *; omega)
        · first | omega | (simp [own_upd] at *; omega)
        · first | omega | (simp [own_upd] at *; omega)
        · first | omega | (simp [own_upd] at *; omega)
        · simp [own_cnt, own_upd]; try omega
      exact own_retV X45 hx Bd.notSynchronized e45 Bd.returns (hb hby d5_93) (⟨rfl, N45, f50, _, 2, _, by decide, by omega, f47, f48, A45, gebn, Or.inr nwbn, hfin.1, hfin.2⟩) (by decide) (by decide)
  · --
    have hnk : 1 + 1 ≤ n := by have q' : ¬ zn.toInt = 1 := fun q => hc3 (Int32.toInt_inj.mp (by rw [q]; decide)); omega
    refine own_by (fun _ k => XS.icmpYes X2.here hx rfl (pc0 := 9) (pc' := 29) rfl (hb hby d5_9) rfl (feq hc3).2 (by decide) (by decide) k) ?_
    refine own_by (fun _ k => XS.aloadN X2.here hx rfl (hb hby d5_29) rfl rfl k) ?_
    show own_Go _ _ _ _ (T2.setTop (mkF m 30 #[.val (.ref a1), .val (.long q1), .second, .unset, .unset] [(.ref a1)]))
    refine own_by (fun _ k => XS.dup X2.here hx rfl (hb hby d5_30) rfl rfl k) ?_
    show own_Go _ _ _ _ (T2.setTop (mkF m 31 #[.val (.ref a1), .val (.long q1), .second, .unset, .unset] [(.ref a1), (.ref a1)]))
    obtain ⟨T51, X51, e51, st51⟩ := getF X2 hx hZ hown (host := "") (Or.inl (hw _ (List.mem_of_getElem? (i := 27) rfl))) Via.refl e2 PF2 (g := (mkF m 31 #[.val (.ref a1), .val (.long q1), .second, .unset, .unset] [(.ref a1), (.ref a1)])) rfl rfl (hb hby d5_31)
    refine own_by st51 ?_
    show own_Go _ _ _ _ (T51.setTop (mkF m 34 #[.val (.ref a1), .val (.long q1), .second, .unset, .unset] [(.int (1 : Int32)), (.ref a1)]))
    refine own_by (fun _ k => XS.dupX1 X51.here hx rfl (hb hby d5_34) rfl rfl rfl k) ?_
    refine own_by (fun _ k => XS.iconst X51.here hx rfl (hb hby d5_35) k) ?_
    show own_Go _ _ _ _ (T51.setTop (mkF m 36 #[.val (.ref a1), .val (.long q1), .second, .unset, .unset] [(.int (1 : Int32)), (.int (1 : Int32)), (.ref a1), (.int (1 : Int32))]))
    refine own_by (fun _ k => XS.iadd X51.here hx rfl (hb hby d5_36) rfl k) ?_
    show own_Go _ _ _ _ (T51.setTop (mkF m 37 #[.val (.ref a1), .val (.long q1), .second, .unset, .unset] [(.int ((1 : Int32) + (1 : Int32))), (.ref a1), (.int (1 : Int32))]))
    rw [(by decide : ((1 : Int32) + (1 : Int32)) = (2 : Int32))]
    show own_Go _ _ _ _ (T51.setTop (mkF m 37 #[.val (.ref a1), .val (.long q1), .second, .unset, .unset] [(.int (2 : Int32)), (.ref a1), (.int (1 : Int32))]))
    obtain ⟨T52, h52, X52, e52, W52, st52⟩ := putF X51 hx hZ hown (host := "") (Or.inl (hw _ (List.mem_of_getElem? (i := 27) rfl))) Via.refl e51 PF2 PE (Or.inl (hw _ (List.mem_of_getElem? (i := 28) rfl))) (hw _ (List.mem_of_getElem? (i := 8) rfl)) (ty := .int) (by decide) rfl rfl (g := (mkF m 37 #[.val (.ref a1), .val (.long q1), .second, .unset, .unset] [(.int (2 : Int32)), (.ref a1), (.int (1 : Int32))])) rfl rfl (hb hby d5_37)
    refine own_by st52 ?_
    have f53 := PF2.same W52
    have f54 := PE.wr W52
    have f55 := PF1.other W52 (Or.inr (slot_ne (Or.inl (hw _ (List.mem_of_getElem? (i := 21) rfl))) (Or.inl (hw _ (List.mem_of_getElem? (i := 28) rfl))) (by decide) (t := (.array .long)) (t' := .int) (by decide) (by decide)))
    have f56 := PA.other W52 (Ne.symm hab)
    have f57 := (Keep.refl h0 [a1, b1]).wr W52 (Or.inl (List.mem_of_getElem? (i := 0) rfl))
    have N52 := Fr.snoc X52 N0 Pg1
    have Z52 := own_size_wr W52 Z0
    show own_Go _ _ _ _ (T52.setTop (mkF m 40 #[.val (.ref a1), .val (.long q1), .second, .unset, .unset] [(.int (1 : Int32))]))
    refine own_by (fun _ k => XS.istoreN X52.here hx rfl (hb hby d5_40) rfl (l' := #[.val (.ref a1), .val (.long q1), .second, .val (.int (1 : Int32)), .unset]) rfl k) ?_
    refine own_by (fun _ k => XS.iloadN X52.here hx rfl (hb hby d5_41) rfl k) ?_
    show own_Go _ _ _ _ (T52.setTop (mkF m 42 #[.val (.ref a1), .val (.long q1), .second, .val (.int (1 : Int32)), .unset] [(.int (1 : Int32))]))
    refine own_by (fun _ k => XS.ifNo X52.here hx rfl (hb hby d5_42) rfl ((if0 _ _).trans (tlt (by decide)).2.2.2) k) ?_
    refine own_by (fun _ k => XS.iloadN X52.here hx rfl (hb hby d5_45) rfl k) ?_
    refine own_by (fun _ k => XS.iconst X52.here hx rfl (hb hby d5_46) k) ?_
    show own_Go _ _ _ _ (T52.setTop (mkF m 47 #[.val (.ref a1), .val (.long q1), .second, .val (.int (1 : Int32)), .unset] [(.int (1 : Int32)), (.int (1 : Int32))]))
    refine own_by (fun _ k => XS.isub X52.here hx rfl (hb hby d5_47) rfl k) ?_
    show own_Go _ _ _ _ (T52.setTop (mkF m 48 #[.val (.ref a1), .val (.long q1), .second, .val (.int (1 : Int32)), .unset] [(.int ((1 : Int32) - (1 : Int32)))]))
    rw [(by decide : ((1 : Int32) - (1 : Int32)) = (0 : Int32))]
    refine own_by (fun _ k => XS.iconst X52.here hx rfl (hb hby d5_48) k) ?_
    show own_Go _ _ _ _ (T52.setTop (mkF m 49 #[.val (.ref a1), .val (.long q1), .second, .val (.int (1 : Int32)), .unset] [(.int (1 : Int32)), (.int (0 : Int32))]))
    refine own_by (fun _ k => XS.iushr X52.here hx rfl (hb hby d5_49) rfl k) ?_
    show own_Go _ _ _ _ (T52.setTop (mkF m 50 #[.val (.ref a1), .val (.long q1), .second, .val (.int (1 : Int32)), .unset] [(.int (((0 : Int32).toUInt32 >>> ((1 : Int32) &&& 31).toUInt32).toInt32))]))
    rw [(by decide : (((0 : Int32).toUInt32 >>> ((1 : Int32) &&& 31).toUInt32).toInt32) = (0 : Int32))]
    show own_Go _ _ _ _ (T52.setTop (mkF m 50 #[.val (.ref a1), .val (.long q1), .second, .val (.int (1 : Int32)), .unset] [(.int (0 : Int32))]))
    refine own_by (fun _ k => XS.istore X52.here hx rfl (hb hby d5_50) rfl (l' := #[.val (.ref a1), .val (.long q1), .second, .val (.int (1 : Int32)), .val (.int (0 : Int32))]) rfl k) ?_
    refine own_by (fun _ k => XS.aloadN X52.here hx rfl (hb hby d5_52) rfl rfl k) ?_
    show own_Go _ _ _ _ (T52.setTop (mkF m 53 #[.val (.ref a1), .val (.long q1), .second, .val (.int (1 : Int32)), .val (.int (0 : Int32))] [(.ref a1)]))
    obtain ⟨T58, X58, e58, st58⟩ := getF X52 hx hZ hown (host := "") (Or.inl (hw _ (List.mem_of_getElem? (i := 20) rfl))) Via.refl e52 f55 (g := (mkF m 53 #[.val (.ref a1), .val (.long q1), .second, .val (.int (1 : Int32)), .val (.int (0 : Int32))] [(.ref a1)])) rfl rfl (hb hby d5_53)
    refine own_by st58 ?_
    refine own_by (fun _ k => XS.iload X58.here hx rfl (hb hby d5_56) rfl k) ?_
    show own_Go _ _ _ _ (T58.setTop (mkF m 58 #[.val (.ref a1), .val (.long q1), .second, .val (.int (1 : Int32)), .val (.int (0 : Int32))] [(.int (0 : Int32)), (.ref b1)]))
    refine own_by (fun _ k => own_lal X58 hx hZ e58 f56 0 (by decide) (by omega) (hb hby d5_58) k) ?_
    refine own_by (fun _ k => XS.lloadN X58.here hx rfl (hb hby d5_59) rfl k) ?_
    show own_Go _ _ _ _ (T58.setTop (mkF m 60 #[.val (.ref a1), .val (.long q1), .second, .val (.int (1 : Int32)), .val (.int (0 : Int32))] [(.long q1), (.long (f 0))]))
    refine own_by (fun _ k => XS.lcmp X58.here hx rfl (hb hby d5_60) rfl k) ?_
    show own_Go _ _ _ _ (T58.setTop (mkF m 61 #[.val (.ref a1), .val (.long q1), .second, .val (.int (1 : Int32)), .val (.int (0 : Int32))] [(.int (lcmpW (f 0) q1))]))
    by_cases hc59 : q1 < (f 0)
    · --
      refine own_by (fun _ k => XS.ifYes X58.here hx rfl (pc0 := 61) (pc' := 67) rfl (hb hby d5_61) rfl ((if0 _ _).trans (tlt ((lw_gt _ _).mpr hc59)).2.2.1) (by decide) (by decide) k) ?_
      refine own_by (fun _ k => XS.aloadN X58.here hx rfl (hb hby d5_67) rfl rfl k) ?_
      show own_Go _ _ _ _ (T58.setTop (mkF m 68 #[.val (.ref a1), .val (.long q1), .second, .val (.int (1 : Int32)), .val (.int (0 : Int32))] [(.ref a1)]))
      obtain ⟨T60, X60, e60, st60⟩ := getF X58 hx hZ hown (host := "") (Or.inl (hw _ (List.mem_of_getElem? (i := 20) rfl))) Via.refl e58 f55 (g := (mkF m 68 #[.val (.ref a1), .val (.long q1), .second, .val (.int (1 : Int32)), .val (.int (0 : Int32))] [(.ref a1)])) rfl rfl (hb hby d5_68)
      refine own_by st60 ?_
      refine own_by (fun _ k => XS.iloadN X60.here hx rfl (hb hby d5_71) rfl k) ?_
      refine own_by (fun _ k => XS.aloadN X60.here hx rfl (hb hby d5_72) rfl rfl k) ?_
      show own_Go _ _ _ _ (T60.setTop (mkF m 73 #[.val (.ref a1), .val (.long q1), .second, .val (.int (1 : Int32)), .val (.int (0 : Int32))] [(.ref a1), (.int (1 : Int32)), (.ref b1)]))
      obtain ⟨T61, X61, e61, st61⟩ := getF X60 hx hZ hown (host := "") (Or.inl (hw _ (List.mem_of_getElem? (i := 20) rfl))) Via.refl e60 f55 (g := (mkF m 73 #[.val (.ref a1), .val (.long q1), .second, .val (.int (1 : Int32)), .val (.int (0 : Int32))] [(.ref a1), (.int (1 : Int32)), (.ref b1)])) rfl rfl (hb hby d5_73)
      refine own_by st61 ?_
      refine own_by (fun _ k => XS.iload X61.here hx rfl (hb hby d5_76) rfl k) ?_
      show own_Go _ _ _ _ (T61.setTop (mkF m 78 #[.val (.ref a1), .val (.long q1), .second, .val (.int (1 : Int32)), .val (.int (0 : Int32))] [(.int (0 : Int32)), (.ref b1), (.int (1 : Int32)), (.ref b1)]))
      refine own_by (fun _ k => own_lal X61 hx hZ e61 f56 0 (by decide) (by omega) (hb hby d5_78) k) ?_
      show own_Go _ _ _ _ (T61.setTop (mkF m 79 #[.val (.ref a1), .val (.long q1), .second, .val (.int (1 : Int32)), .val (.int (0 : Int32))] [(.long (f 0)), (.int (1 : Int32)), (.ref b1)]))
      refine own_las X61 hx hZ e61 f56 1 (by decide) (by omega) (hb hby d5_79) ?_
      intro T62 h62 X62 e62 W62 A62
      have f63 := f54.wr W62
      have f64 := f55.other W62 (Or.inl hab)
      have f65 := f53.other W62 (Or.inl hab)
      have f66 := f57.wr W62 (Or.inl (List.mem_of_getElem? (i := 1) rfl))
      have N62 := Fr.snoc X62 N52 Pg2
      have Z62 := own_size_wr W62 Z52
      obtain ⟨fn62, hfn62⟩ : ∃ g : Nat → Int64, g = own_upd f 1 (f 0) := ⟨_, rfl⟩
      rw [← hfn62] at A62
      show own_Go _ _ _ _ (T62.setTop (mkF m 80 #[.val (.ref a1), .val (.long q1), .second, .val (.int (1 : Int32)), .val (.int (0 : Int32))] []))
      refine own_by (fun _ k => XS.iload X62.here hx rfl (hb hby d5_80) rfl k) ?_
      show own_Go _ _ _ _ (T62.setTop (mkF m 82 #[.val (.ref a1), .val (.long q1), .second, .val (.int (1 : Int32)), .val (.int (0 : Int32))] [(.int (0 : Int32))]))
      refine own_by (fun _ k => XS.istoreN X62.here hx rfl (hb hby d5_82) rfl (l' := #[.val (.ref a1), .val (.long q1), .second, .val (.int (0 : Int32)), .val (.int (0 : Int32))]) rfl k) ?_
      show own_Go _ _ _ _ (T62.setTop (mkF m 83 #[.val (.ref a1), .val (.long q1), .second, .val (.int (0 : Int32)), .val (.int (0 : Int32))] []))
      refine own_by (fun _ k => XS.goto X62.here hx rfl (pc0 := 83) (pc' := 41) rfl (hb hby d5_83) (by decide) (by decide) k) ?_
      refine own_by (fun _ k => XS.iloadN X62.here hx rfl (hb hby d5_41) rfl k) ?_
      show own_Go _ _ _ _ (T62.setTop (mkF m 42 #[.val (.ref a1), .val (.long q1), .second, .val (.int (0 : Int32)), .val (.int (0 : Int32))] [(.int (0 : Int32))]))
      refine own_by (fun _ k => XS.ifYes X62.here hx rfl (pc0 := 42) (pc' := 86) rfl (hb hby d5_42) rfl ((if0 _ _).trans (flt (by decide)).2.2.2) (by decide) (by decide) k) ?_
      refine own_by (fun _ k => XS.aloadN X62.here hx rfl (hb hby d5_86) rfl rfl k) ?_
      show own_Go _ _ _ _ (T62.setTop (mkF m 87 #[.val (.ref a1), .val (.long q1), .second, .val (.int (0 : Int32)), .val (.int (0 : Int32))] [(.ref a1)]))
      obtain ⟨T67, X67, e67, st67⟩ := getF X62 hx hZ hown (host := "") (Or.inl (hw _ (List.mem_of_getElem? (i := 20) rfl))) Via.refl e62 f64 (g := (mkF m 87 #[.val (.ref a1), .val (.long q1), .second, .val (.int (0 : Int32)), .val (.int (0 : Int32))] [(.ref a1)])) rfl rfl (hb hby d5_87)
      refine own_by st67 ?_
      refine own_by (fun _ k => XS.iloadN X67.here hx rfl (hb hby d5_90) rfl k) ?_
      refine own_by (fun _ k => XS.lloadN X67.here hx rfl (hb hby d5_91) rfl k) ?_
      show own_Go _ _ _ _ (T67.setTop (mkF m 92 #[.val (.ref a1), .val (.long q1), .second, .val (.int (0 : Int32)), .val (.int (0 : Int32))] [(.long q1), (.int (0 : Int32)), (.ref b1)]))
      refine own_las X67 hx hZ e67 A62 0 (by decide) (by omega) (hb hby d5_92) ?_
      intro T68 h68 X68 e68 W68 A68
      have f69 := f63.wr W68
      have f70 := f64.other W68 (Or.inl hab)
      have f71 := f65.other W68 (Or.inl hab)
      have f72 := f66.wr W68 (Or.inl (List.mem_of_getElem? (i := 1) rfl))
      have N68 := Fr.snoc X68 N62 Pg2
      have Z68 := own_size_wr W68 Z62
      obtain ⟨fn68, hfn68⟩ : ∃ g : Nat → Int64, g = own_upd fn62 0 q1 := ⟨_, rfl⟩
      rw [← hfn68] at A68
      show own_Go _ _ _ _ (T68.setTop (mkF m 93 #[.val (.ref a1), .val (.long q1), .second, .val (.int (0 : Int32)), .val (.int (0 : Int32))] []))
      have hfin : own_hp (fn68) 2 ∧ ∀ x, own_cnt (fn68) x 2 = own_cnt f x 1 + own_one q1 x := by
        simp only [hfn68, hfn62]
        obtain ⟨H1, H2, H3, H4⟩ := HP
        have hc59' := hc59
        rw [Int64.lt_iff_toInt_lt] at hc59'
        refine ⟨⟨fun q => ?_, fun q => ?_, fun q => ?_, fun q => ?_⟩, fun x => ?_⟩
        · first | omega | (simp [own_upd] at *; omega)
        · first | omega | (simp [own_upd] at *; omega)
        · first | omega | (simp [own_upd] at *; omega)
        · first | omega | (simp [own_upd] at *; omega)
        · simp [own_cnt, own_upd]; try omega
      exact own_retV X68 hx Bd.notSynchronized e68 Bd.returns (hb hby d5_93) (⟨rfl, N68, f72, _, n, _, by omega, by omega, f70, f71, A68, Pg2, Or.inl rfl, hfin.1, hfin.2⟩) (by decide) (by decide)
    · --
      refine own_by (fun _ k => XS.ifNo X58.here hx rfl (hb hby d5_61) rfl ((if0 _ _).trans (flt (mt (lw_gt _ _).mp hc59)).2.2.1) k) ?_
      show own_Go _ _ _ _ (T58.setTop (mkF m 64 #[.val (.ref a1), .val (.long q1), .second, .val (.int (1 : Int32)), .val (.int (0 : Int32))] []))
      refine own_by (fun _ k => XS.goto X58.here hx rfl (pc0 := 64) (pc' := 86) rfl (hb hby d5_64) (by decide) (by decide) k) ?_
      refine own_by (fun _ k => XS.aloadN X58.here hx rfl (hb hby d5_86) rfl rfl k) ?_
      show own_Go _ _ _ _ (T58.setTop (mkF m 87 #[.val (.ref a1), .val (.long q1), .second, .val (.int (1 : Int32)), .val (.int (0 : Int32))] [(.ref a1)]))
      obtain ⟨T73, X73, e73, st73⟩ := getF X58 hx hZ hown (host := "") (Or.inl (hw _ (List.mem_of_getElem? (i := 20) rfl))) Via.refl e58 f55 (g := (mkF m 87 #[.val (.ref a1), .val (.long q1), .second, .val (.int (1 : Int32)), .val (.int (0 : Int32))] [(.ref a1)])) rfl rfl (hb hby d5_87)
      refine own_by st73 ?_
      refine own_by (fun _ k => XS.iloadN X73.here hx rfl (hb hby d5_90) rfl k) ?_
      refine own_by (fun _ k => XS.lloadN X73.here hx rfl (hb hby d5_91) rfl k) ?_
      show own_Go _ _ _ _ (T73.setTop (mkF m 92 #[.val (.ref a1), .val (.long q1), .second, .val (.int (1 : Int32)), .val (.int (0 : Int32))] [(.long q1), (.int (1 : Int32)), (.ref b1)]))
      refine own_las X73 hx hZ e73 f56 1 (by decide) (by omega) (hb hby d5_92) ?_
      intro T74 h74 X74 e74 W74 A74
      have f75 := f54.wr W74
      have f76 := f55.other W74 (Or.inl hab)
      have f77 := f53.other W74 (Or.inl hab)
      have f78 := f57.wr W74 (Or.inl (List.mem_of_getElem? (i := 1) rfl))
      have N74 := Fr.snoc X74 N52 Pg2
      have Z74 := own_size_wr W74 Z52
      obtain ⟨fn74, hfn74⟩ : ∃ g : Nat → Int64, g = own_upd f 1 q1 := ⟨_, rfl⟩
      rw [← hfn74] at A74
      show own_Go _ _ _ _ (T74.setTop (mkF m 93 #[.val (.ref a1), .val (.long q1), .second, .val (.int (1 : Int32)), .val (.int (0 : Int32))] []))
      have hfin : own_hp (fn74) 2 ∧ ∀ x, own_cnt (fn74) x 2 = own_cnt f x 1 + own_one q1 x := by
        simp only [hfn74]
        obtain ⟨H1, H2, H3, H4⟩ := HP
        have hc59' := hc59
        rw [Int64.lt_iff_toInt_lt] at hc59'
        refine ⟨⟨fun q => ?_, fun q => ?_, fun q => ?_, fun q => ?_⟩, fun x => ?_⟩
        · first | omega | (simp [own_upd] at *; omega)
        · first | omega | (simp [own_upd] at *; omega)
        · first | omega | (simp [own_upd] at *; omega)
        · first | omega | (simp [own_upd] at *; omega)
        · simp [own_cnt, own_upd]; try omega
      exact own_retV X74 hx Bd.notSynchronized e74 Bd.returns (hb hby d5_93) (⟨rfl, N74, f78, _, n, _, by omega, by omega, f76, f77, A74, Pg2, Or.inl rfl, hfin.1, hfin.2⟩) (by decide) (by decide)
set_option maxRecDepth 65536 in
set_option maxHeartbeats 40000000 in
theorem rm5_2 (l : Launch) (Z : State) (a0 : Array Value) (hw : ∀ d ∈ tables_1, d.before a0 Z = true) (ws : List Jvm.Cond) (a1 : Addr) (q1 : Int64) (b1 : Addr) (n : Nat) (f : Nat → Int64) (h0 : Heap) (n0 : Nat) (Z0 : n0 ≤ h0.size) (PE : Exa Z h0 a1 "com/example/libmakespan/libmakespan/planners/LongHeap") (PF1 : Fld Z h0 a1 "com/example/libmakespan/libmakespan/planners/LongHeap" "values" "[J" (.ref b1)) (PF2 : Fld Z h0 a1 "com/example/libmakespan/libmakespan/planners/LongHeap" "size" "I" (.int (2 : Int32))) (PA : own_AJ Z h0 b1 n f) (Pg1 : n0 ≤ a1) (Pg2 : n0 ≤ b1) (hab : a1 ≠ b1) (hkn : 2 ≤ n) (hn8 : n ≤ 8) (HP : own_hp f 2) :
    MetFree l (⟨"com/example/libmakespan/libmakespan/planners/LongHeap", "add", "(J)V"⟩ : MethodName) (head1 (Jvm.Cond.code (⟨"com/example/libmakespan/libmakespan/planners/LongHeap", "add", "(J)V"⟩ : MethodName) prog_91_method_4_code 5 none :: ws) ({ frames := 2, cells := 1, slots := 8, locals := 75 } : Room)) (fun a U => a = #[(.ref a1), (.long q1)] ∧ Z.Warmed39 U.vm ∧ U.heap = h0) (fun _ _ _ _ _ => True) (fun _ U o U' => ∃ vv LL, o = .returned vv ∧ own_ap (fun v h L => v = none ∧ Fr n0 L ∧ Keep h0 h [a1, b1] ∧ ∃ (b : Addr) (n' : Nat) (f' : Nat → Int64), 3 ≤ n' ∧ n' ≤ 8 ∧ Fld Z h a1 "com/example/libmakespan/libmakespan/planners/LongHeap" "values" "[J" (.ref b) ∧ Fld Z h a1 "com/example/libmakespan/libmakespan/planners/LongHeap" "size" "I" (.int (3 : Int32)) ∧ own_AJ Z h b n' f' ∧ n0 ≤ b ∧ (b = b1 ∨ h0.size ≤ b) ∧ own_hp f' 3 ∧ ∀ x, own_cnt f' x 3 = own_cnt f x 2 + own_one q1 x) vv U'.heap LL ∧ FrameEnd U o U' LL 1 8) := by
  refine MetFree.of_bodySF (plainFor_of_name pn_5) hisR ?_
  intro p e s m args below meth c s₁ Bd hml0 hP hK
  obtain ⟨rfl, hZ, hh⟩ := hP
  have hx := Bd.exec
  have hby := Bd.bytes
  have hml : c.maxLocals = 5 := hml0
  have hown : s.vm.findClass "com/example/libmakespan/libmakespan/planners/LongHeap" = some m.cls := findClass_of_methodNamed Bd.named
  have hnm := (name_of_methodNamed Bd.named Bd.method).1
  have X0 : Stand p l e ({ frames := 2, cells := 1, slots := 8, locals := 75 } : Room) s m #[(.ref a1), (.long q1)] below meth c s₁ [] 0 0 := Stand.of_body Bd
  have e0 : s₁.heap = h0 := by rw [← hh, Bd.state]; rfl
  have N0 := Fr.nil n0
  show own_Go p.tables e below (own_Q s (fun v h L => v = none ∧ Fr n0 L ∧ Keep h0 h [a1, b1] ∧ ∃ (b : Addr) (n' : Nat) (f' : Nat → Int64), 3 ≤ n' ∧ n' ≤ 8 ∧ Fld Z h a1 "com/example/libmakespan/libmakespan/planners/LongHeap" "values" "[J" (.ref b) ∧ Fld Z h a1 "com/example/libmakespan/libmakespan/planners/LongHeap" "size" "I" (.int (3 : Int32)) ∧ own_AJ Z h b n' f' ∧ n0 ≤ b ∧ (b = b1 ∨ h0.size ≤ b) ∧ own_hp f' 3 ∧ ∀ x, own_cnt f' x 3 = own_cnt f x 2 + own_one q1 x) 1 8) (s₁.setTop (entryFrame m #[(.ref a1), (.long q1)] 5))
  rw [show entryFrame m #[(.ref a1), (.long q1)] 5 = mkF m 0 #[.val (.ref a1), .val (.long q1), .second, .unset, .unset] [] from by first | (simp [entryFrame, mkF, argsToLocals, Value.category]; done) | rfl]
  obtain ⟨zn, hznE, hzn⟩ : ∃ z : Int32, z = n.toInt32 ∧ z.toInt = (n : Int) := ⟨n.toInt32, rfl, own_ofN (by omega)⟩
  show own_Go _ _ _ _ (s₁.setTop (mkF m 0 #[.val (.ref a1), .val (.long q1), .second, .unset, .unset] []))
  refine own_by (fun _ k => XS.aloadN X0.here hx rfl (hb hby d5_0) rfl rfl k) ?_
  show own_Go _ _ _ _ (s₁.setTop (mkF m 1 #[.val (.ref a1), .val (.long q1), .second, .unset, .unset] [(.ref a1)]))
  obtain ⟨T1, X1, e1, st1⟩ := getF X0 hx hZ hown (host := "") (Or.inl (hw _ (List.mem_of_getElem? (i := 27) rfl))) Via.refl e0 PF2 (g := (mkF m 1 #[.val (.ref a1), .val (.long q1), .second, .unset, .unset] [(.ref a1)])) rfl rfl (hb hby d5_1)
  refine own_by st1 ?_
  refine own_by (fun _ k => XS.aloadN X1.here hx rfl (hb hby d5_4) rfl rfl k) ?_
  show own_Go _ _ _ _ (T1.setTop (mkF m 5 #[.val (.ref a1), .val (.long q1), .second, .unset, .unset] [(.ref a1), (.int (2 : Int32))]))
  obtain ⟨T2, X2, e2, st2⟩ := getF X1 hx hZ hown (host := "") (Or.inl (hw _ (List.mem_of_getElem? (i := 20) rfl))) Via.refl e1 PF1 (g := (mkF m 5 #[.val (.ref a1), .val (.long q1), .second, .unset, .unset] [(.ref a1), (.int (2 : Int32))])) rfl rfl (hb hby d5_5)
  refine own_by st2 ?_
  show own_Go _ _ _ _ (T2.setTop (mkF m 8 #[.val (.ref a1), .val (.long q1), .second, .unset, .unset] [(.ref b1), (.int (2 : Int32))]))
  refine own_by (fun _ k => own_len X2 hx hZ e2 PA zn hznE (hb hby d5_8) k) ?_
  show own_Go _ _ _ _ (T2.setTop (mkF m 9 #[.val (.ref a1), .val (.long q1), .second, .unset, .unset] [(.int zn), (.int (2 : Int32))]))
  by_cases hc3 : (2 : Int32) = zn
  · --
    have hnk : n = 2 := by have q' := congrArg Int32.toInt hc3; rw [hzn, (by decide : (2 : Int32).toInt = 2)] at q'; omega
    subst hnk
    refine own_by (fun _ k => XS.icmpNo X2.here hx rfl (hb hby d5_9) rfl (teq hc3).2 k) ?_
    refine own_by (fun _ k => XS.aloadN X2.here hx rfl (hb hby d5_12) rfl rfl k) ?_
    refine own_by (fun _ k => XS.aloadN X2.here hx rfl (hb hby d5_13) rfl rfl k) ?_
    show own_Go _ _ _ _ (T2.setTop (mkF m 14 #[.val (.ref a1), .val (.long q1), .second, .unset, .unset] [(.ref a1), (.ref a1)]))
    obtain ⟨T4, X4, e4, st4⟩ := getF X2 hx hZ hown (host := "") (Or.inl (hw _ (List.mem_of_getElem? (i := 20) rfl))) Via.refl e2 PF1 (g := (mkF m 14 #[.val (.ref a1), .val (.long q1), .second, .unset, .unset] [(.ref a1), (.ref a1)])) rfl rfl (hb hby d5_14)
    refine own_by st4 ?_
    refine own_by (fun _ k => XS.iconst X4.here hx rfl (hb hby d5_17) k) ?_
    refine own_by (fun _ k => XS.aloadN X4.here hx rfl (hb hby d5_18) rfl rfl k) ?_
    show own_Go _ _ _ _ (T4.setTop (mkF m 19 #[.val (.ref a1), .val (.long q1), .second, .unset, .unset] [(.ref a1), (.int (2 : Int32)), (.ref b1), (.ref a1)]))
    obtain ⟨T5, X5, e5, st5⟩ := getF X4 hx hZ hown (host := "") (Or.inl (hw _ (List.mem_of_getElem? (i := 27) rfl))) Via.refl e4 PF2 (g := (mkF m 19 #[.val (.ref a1), .val (.long q1), .second, .unset, .unset] [(.ref a1), (.int (2 : Int32)), (.ref b1), (.ref a1)])) rfl rfl (hb hby d5_19)
    refine own_by st5 ?_
    show own_Go _ _ _ _ (T5.setTop (mkF m 22 #[.val (.ref a1), .val (.long q1), .second, .unset, .unset] [(.int (2 : Int32)), (.int (2 : Int32)), (.ref b1), (.ref a1)]))
    refine own_by (fun _ k => XS.imul X5.here hx rfl (hb hby d5_22) rfl k) ?_
    show own_Go _ _ _ _ (T5.setTop (mkF m 23 #[.val (.ref a1), .val (.long q1), .second, .unset, .unset] [(.int ((2 : Int32) * (2 : Int32))), (.ref b1), (.ref a1)]))
    rw [(by decide : ((2 : Int32) * (2 : Int32)) = (4 : Int32))]
    show own_Go _ _ _ _ (T5.setTop (mkF m 23 #[.val (.ref a1), .val (.long q1), .second, .unset, .unset] [(.int (4 : Int32)), (.ref b1), (.ref a1)]))
    obtain ⟨bn, hbn⟩ : ∃ z, z = h0.size := ⟨_, rfl⟩
    have ne_a1 : a1 ≠ bn := Nat.ne_of_lt (Nat.lt_of_lt_of_le PE.lt (Nat.le_of_eq hbn.symm))
    have ne_b1 : b1 ≠ bn := Nat.ne_of_lt (Nat.lt_of_lt_of_le PA.lt (Nat.le_of_eq hbn.symm))
    have gebn : n0 ≤ bn := Nat.le_trans Z0 (Nat.le_of_eq hbn.symm)
    have nwbn : h0.size ≤ bn := Nat.le_trans (Keep.refl h0 [a1, b1]).1 (Nat.le_of_eq hbn.symm)
    refine own_callS X5 hx hZ hown (hw _ (List.mem_of_getElem? (i := 29) rfl)) (hw _ (List.mem_of_getElem? (i := 30) rfl)) (hw _ (List.mem_of_getElem? (i := 31) rfl)) (hw _ (List.mem_of_getElem? (i := 32) rfl)) (by decide) (rm6 l Z a0 hw [] b1 (4 : Int32) 2 4 f h0 n0 Z0 PA (by decide) (by decide) (by decide) (by decide)) e5 (by rw [hml]; rfl) [(.ref b1), (.int (4 : Int32))] [(.ref a1)] rfl (lenOf own_pd4 rfl) rfl 1 (Nat.le_of_eq rfl) (by decide) (by decide) (Nat.le_of_ble_eq_true rfl) (Nat.le_of_ble_eq_true rfl) (hb hby d5_23) ?_
    intro T6 Lc6 v6 X6 hQ6
    obtain ⟨h6, e6⟩ : ∃ h, T6.heap = h := ⟨_, rfl⟩
    rw [e6] at hQ6
    obtain ⟨rfl, N6q, K6, A6⟩ := hQ6
    have N6 := Fr.app N0 N6q
    have f7 := PE.keep K6
    have f8 := PF1.keep K6 nin0
    have f9 := PF2.keep K6 nin0
    have f10 := PA.keep K6 nin0
    have f11 := (Keep.refl h0 [a1, b1]).trans K6 all0
    have Z6 := Nat.le_trans Z0 K6.1
    rw [← hbn] at A6
    obtain ⟨f2, hf2⟩ : ∃ g : Nat → Int64, g = (fun j => if j < 2 then f j else 0) := ⟨_, rfl⟩
    rw [← hf2] at A6
    have hfe : ∀ j, j < 2 → f j = f2 j := fun j hj => by rw [hf2]; simp [hj]
    have HP2 := own_hpc f f2 2 hfe HP
    have hc2 := fun x => own_cntc f f2 x 2 hfe
    show own_Go _ _ _ _ (T6.setTop (mkF m 26 #[.val (.ref a1), .val (.long q1), .second, .unset, .unset] [(.ref h0.size), (.ref a1)]))
    refine own_gen hbn.symm (fun z_ => T6.setTop (mkF m 26 #[.val (.ref a1), .val (.long q1), .second, .unset, .unset] [(.ref z_), (.ref a1)])) ?_
    show own_Go _ _ _ _ (T6.setTop (mkF m 26 #[.val (.ref a1), .val (.long q1), .second, .unset, .unset] [(.ref bn), (.ref a1)]))
    obtain ⟨T12, h12, X12, e12, W12, st12⟩ := putF X6 hx hZ hown (host := "") (Or.inl (hw _ (List.mem_of_getElem? (i := 20) rfl))) Via.refl e6 f8 f7 (Or.inl (hw _ (List.mem_of_getElem? (i := 21) rfl))) (hw _ (List.mem_of_getElem? (i := 8) rfl)) (ty := (.array .long)) (by decide) rfl rfl (g := (mkF m 26 #[.val (.ref a1), .val (.long q1), .second, .unset, .unset] [(.ref bn), (.ref a1)])) rfl rfl (hb hby d5_26)
    refine own_by st12 ?_
    have f13 := f8.same W12
    have f14 := f7.wr W12
    have f15 := f9.other W12 (Or.inr (slot_ne (Or.inl (hw _ (List.mem_of_getElem? (i := 28) rfl))) (Or.inl (hw _ (List.mem_of_getElem? (i := 21) rfl))) (by decide) (t := .int) (t' := (.array .long)) (by decide) (by decide)))
    have f16 := f10.other W12 (Ne.symm hab)
    have f17 := f11.wr W12 (Or.inl (List.mem_of_getElem? (i := 0) rfl))
    have f18 := A6.other W12 (Ne.symm ne_a1)
    have N12 := Fr.snoc X12 N6 Pg1
    have Z12 := own_size_wr W12 Z6
    show own_Go _ _ _ _ (T12.setTop (mkF m 29 #[.val (.ref a1), .val (.long q1), .second, .unset, .unset] []))
    refine own_by (fun _ k => XS.aloadN X12.here hx rfl (hb hby d5_29) rfl rfl k) ?_
    show own_Go _ _ _ _ (T12.setTop (mkF m 30 #[.val (.ref a1), .val (.long q1), .second, .unset, .unset] [(.ref a1)]))
    refine own_by (fun _ k => XS.dup X12.here hx rfl (hb hby d5_30) rfl rfl k) ?_
    show own_Go _ _ _ _ (T12.setTop (mkF m 31 #[.val (.ref a1), .val (.long q1), .second, .unset, .unset] [(.ref a1), (.ref a1)]))
    obtain ⟨T19, X19, e19, st19⟩ := getF X12 hx hZ hown (host := "") (Or.inl (hw _ (List.mem_of_getElem? (i := 27) rfl))) Via.refl e12 f15 (g := (mkF m 31 #[.val (.ref a1), .val (.long q1), .second, .unset, .unset] [(.ref a1), (.ref a1)])) rfl rfl (hb hby d5_31)
    refine own_by st19 ?_
    show own_Go _ _ _ _ (T19.setTop (mkF m 34 #[.val (.ref a1), .val (.long q1), .second, .unset, .unset] [(.int (2 : Int32)), (.ref a1)]))
    refine own_by (fun _ k => XS.dupX1 X19.here hx rfl (hb hby d5_34) rfl rfl rfl k) ?_
    refine own_by (fun _ k => XS.iconst X19.here hx rfl (hb hby d5_35) k) ?_
    show own_Go _ _ _ _ (T19.setTop (mkF m 36 #[.val (.ref a1), .val (.long q1), .second, .unset, .unset] [(.int (1 : Int32)), (.int (2 : Int32)), (.ref a1), (.int (2 : Int32))]))
    refine own_by (fun _ k => XS.iadd X19.here hx rfl (hb hby d5_36) rfl k) ?_
    show own_Go _ _ _ _ (T19.setTop (mkF m 37 #[.val (.ref a1), .val (.long q1), .second, .unset, .unset] [(.int ((2 : Int32) + (1 : Int32))), (.ref a1), (.int (2 : Int32))]))
    rw [(by decide : ((2 : Int32) + (1 : Int32)) = (3 : Int32))]
    show own_Go _ _ _ _ (T19.setTop (mkF m 37 #[.val (.ref a1), .val (.long q1), .second, .unset, .unset] [(.int (3 : Int32)), (.ref a1), (.int (2 : Int32))]))
    obtain ⟨T20, h20, X20, e20, W20, st20⟩ := putF X19 hx hZ hown (host := "") (Or.inl (hw _ (List.mem_of_getElem? (i := 27) rfl))) Via.refl e19 f15 f14 (Or.inl (hw _ (List.mem_of_getElem? (i := 28) rfl))) (hw _ (List.mem_of_getElem? (i := 8) rfl)) (ty := .int) (by decide) rfl rfl (g := (mkF m 37 #[.val (.ref a1), .val (.long q1), .second, .unset, .unset] [(.int (3 : Int32)), (.ref a1), (.int (2 : Int32))])) rfl rfl (hb hby d5_37)
    refine own_by st20 ?_
    have f21 := f15.same W20
    have f22 := f14.wr W20
    have f23 := f13.other W20 (Or.inr (slot_ne (Or.inl (hw _ (List.mem_of_getElem? (i := 21) rfl))) (Or.inl (hw _ (List.mem_of_getElem? (i := 28) rfl))) (by decide) (t := (.array .long)) (t' := .int) (by decide) (by decide)))
    have f24 := f16.other W20 (Ne.symm hab)
    have f25 := f17.wr W20 (Or.inl (List.mem_of_getElem? (i := 0) rfl))
    have f26 := f18.other W20 (Ne.symm ne_a1)
    have N20 := Fr.snoc X20 N12 Pg1
    have Z20 := own_size_wr W20 Z12
    show own_Go _ _ _ _ (T20.setTop (mkF m 40 #[.val (.ref a1), .val (.long q1), .second, .unset, .unset] [(.int (2 : Int32))]))
    refine own_by (fun _ k => XS.istoreN X20.here hx rfl (hb hby d5_40) rfl (l' := #[.val (.ref a1), .val (.long q1), .second, .val (.int (2 : Int32)), .unset]) rfl k) ?_
    refine own_by (fun _ k => XS.iloadN X20.here hx rfl (hb hby d5_41) rfl k) ?_
    show own_Go _ _ _ _ (T20.setTop (mkF m 42 #[.val (.ref a1), .val (.long q1), .second, .val (.int (2 : Int32)), .unset] [(.int (2 : Int32))]))
    refine own_by (fun _ k => XS.ifNo X20.here hx rfl (hb hby d5_42) rfl ((if0 _ _).trans (tlt (by decide)).2.2.2) k) ?_
    refine own_by (fun _ k => XS.iloadN X20.here hx rfl (hb hby d5_45) rfl k) ?_
    refine own_by (fun _ k => XS.iconst X20.here hx rfl (hb hby d5_46) k) ?_
    show own_Go _ _ _ _ (T20.setTop (mkF m 47 #[.val (.ref a1), .val (.long q1), .second, .val (.int (2 : Int32)), .unset] [(.int (1 : Int32)), (.int (2 : Int32))]))
    refine own_by (fun _ k => XS.isub X20.here hx rfl (hb hby d5_47) rfl k) ?_
    show own_Go _ _ _ _ (T20.setTop (mkF m 48 #[.val (.ref a1), .val (.long q1), .second, .val (.int (2 : Int32)), .unset] [(.int ((2 : Int32) - (1 : Int32)))]))
    rw [(by decide : ((2 : Int32) - (1 : Int32)) = (1 : Int32))]
    refine own_by (fun _ k => XS.iconst X20.here hx rfl (hb hby d5_48) k) ?_
    show own_Go _ _ _ _ (T20.setTop (mkF m 49 #[.val (.ref a1), .val (.long q1), .second, .val (.int (2 : Int32)), .unset] [(.int (1 : Int32)), (.int (1 : Int32))]))
    refine own_by (fun _ k => XS.iushr X20.here hx rfl (hb hby d5_49) rfl k) ?_
    show own_Go _ _ _ _ (T20.setTop (mkF m 50 #[.val (.ref a1), .val (.long q1), .second, .val (.int (2 : Int32)), .unset] [(.int (((1 : Int32).toUInt32 >>> ((1 : Int32) &&& 31).toUInt32).toInt32))]))
    rw [(by decide : (((1 : Int32).toUInt32 >>> ((1 : Int32) &&& 31).toUInt32).toInt32) = (0 : Int32))]
    show own_Go _ _ _ _ (T20.setTop (mkF m 50 #[.val (.ref a1), .val (.long q1), .second, .val (.int (2 : Int32)), .unset] [(.int (0 : Int32))]))
    refine own_by (fun _ k => XS.istore X20.here hx rfl (hb hby d5_50) rfl (l' := #[.val (.ref a1), .val (.long q1), .second, .val (.int (2 : Int32)), .val (.int (0 : Int32))]) rfl k) ?_
    refine own_by (fun _ k => XS.aloadN X20.here hx rfl (hb hby d5_52) rfl rfl k) ?_
    show own_Go _ _ _ _ (T20.setTop (mkF m 53 #[.val (.ref a1), .val (.long q1), .second, .val (.int (2 : Int32)), .val (.int (0 : Int32))] [(.ref a1)]))
    obtain ⟨T27, X27, e27, st27⟩ := getF X20 hx hZ hown (host := "") (Or.inl (hw _ (List.mem_of_getElem? (i := 20) rfl))) Via.refl e20 f23 (g := (mkF m 53 #[.val (.ref a1), .val (.long q1), .second, .val (.int (2 : Int32)), .val (.int (0 : Int32))] [(.ref a1)])) rfl rfl (hb hby d5_53)
    refine own_by st27 ?_
    refine own_by (fun _ k => XS.iload X27.here hx rfl (hb hby d5_56) rfl k) ?_
    show own_Go _ _ _ _ (T27.setTop (mkF m 58 #[.val (.ref a1), .val (.long q1), .second, .val (.int (2 : Int32)), .val (.int (0 : Int32))] [(.int (0 : Int32)), (.ref bn)]))
    refine own_by (fun _ k => own_lal X27 hx hZ e27 f26 0 (by decide) (by decide) (hb hby d5_58) k) ?_
    refine own_by (fun _ k => XS.lloadN X27.here hx rfl (hb hby d5_59) rfl k) ?_
    show own_Go _ _ _ _ (T27.setTop (mkF m 60 #[.val (.ref a1), .val (.long q1), .second, .val (.int (2 : Int32)), .val (.int (0 : Int32))] [(.long q1), (.long (f2 0))]))
    refine own_by (fun _ k => XS.lcmp X27.here hx rfl (hb hby d5_60) rfl k) ?_
    show own_Go _ _ _ _ (T27.setTop (mkF m 61 #[.val (.ref a1), .val (.long q1), .second, .val (.int (2 : Int32)), .val (.int (0 : Int32))] [(.int (lcmpW (f2 0) q1))]))
    by_cases hc28 : q1 < (f2 0)
    · --
      refine own_by (fun _ k => XS.ifYes X27.here hx rfl (pc0 := 61) (pc' := 67) rfl (hb hby d5_61) rfl ((if0 _ _).trans (tlt ((lw_gt _ _).mpr hc28)).2.2.1) (by decide) (by decide) k) ?_
      refine own_by (fun _ k => XS.aloadN X27.here hx rfl (hb hby d5_67) rfl rfl k) ?_
      show own_Go _ _ _ _ (T27.setTop (mkF m 68 #[.val (.ref a1), .val (.long q1), .second, .val (.int (2 : Int32)), .val (.int (0 : Int32))] [(.ref a1)]))
      obtain ⟨T29, X29, e29, st29⟩ := getF X27 hx hZ hown (host := "") (Or.inl (hw _ (List.mem_of_getElem? (i := 20) rfl))) Via.refl e27 f23 (g := (mkF m 68 #[.val (.ref a1), .val (.long q1), .second, .val (.int (2 : Int32)), .val (.int (0 : Int32))] [(.ref a1)])) rfl rfl (hb hby d5_68)
      refine own_by st29 ?_
      refine own_by (fun _ k => XS.iloadN X29.here hx rfl (hb hby d5_71) rfl k) ?_
      refine own_by (fun _ k => XS.aloadN X29.here hx rfl (hb hby d5_72) rfl rfl k) ?_
      show own_Go _ _ _ _ (T29.setTop (mkF m 73 #[.val (.ref a1), .val (.long q1), .second, .val (.int (2 : Int32)), .val (.int (0 : Int32))] [(.ref a1), (.int (2 : Int32)), (.ref bn)]))
      obtain ⟨T30, X30, e30, st30⟩ := getF X29 hx hZ hown (host := "") (Or.inl (hw _ (List.mem_of_getElem? (i := 20) rfl))) Via.refl e29 f23 (g := (mkF m 73 #[.val (.ref a1), .val (.long q1), .second, .val (.int (2 : Int32)), .val (.int (0 : Int32))] [(.ref a1), (.int (2 : Int32)), (.ref bn)])) rfl rfl (hb hby d5_73)
      refine own_by st30 ?_
      refine own_by (fun _ k => XS.iload X30.here hx rfl (hb hby d5_76) rfl k) ?_
      show own_Go _ _ _ _ (T30.setTop (mkF m 78 #[.val (.ref a1), .val (.long q1), .second, .val (.int (2 : Int32)), .val (.int (0 : Int32))] [(.int (0 : Int32)), (.ref bn), (.int (2 : Int32)), (.ref bn)]))
      refine own_by (fun _ k => own_lal X30 hx hZ e30 f26 0 (by decide) (by decide) (hb hby d5_78) k) ?_
      show own_Go _ _ _ _ (T30.setTop (mkF m 79 #[.val (.ref a1), .val (.long q1), .second, .val (.int (2 : Int32)), .val (.int (0 : Int32))] [(.long (f2 0)), (.int (2 : Int32)), (.ref bn)]))
      refine own_las X30 hx hZ e30 f26 2 (by decide) (by decide) (hb hby d5_79) ?_
      intro T31 h31 X31 e31 W31 A31
      have f32 := f22.wr W31
      have f33 := f23.other W31 (Or.inl ne_a1)
      have f34 := f21.other W31 (Or.inl ne_a1)
      have f35 := f24.other W31 ne_b1
      have f36 := f25.wr W31 (Or.inr nwbn)
      have N31 := Fr.snoc X31 N20 gebn
      have Z31 := own_size_wr W31 Z20
      obtain ⟨fn31, hfn31⟩ : ∃ g : Nat → Int64, g = own_upd f2 2 (f2 0) := ⟨_, rfl⟩
      rw [← hfn31] at A31
      show own_Go _ _ _ _ (T31.setTop (mkF m 80 #[.val (.ref a1), .val (.long q1), .second, .val (.int (2 : Int32)), .val (.int (0 : Int32))] []))
      refine own_by (fun _ k => XS.iload X31.here hx rfl (hb hby d5_80) rfl k) ?_
      show own_Go _ _ _ _ (T31.setTop (mkF m 82 #[.val (.ref a1), .val (.long q1), .second, .val (.int (2 : Int32)), .val (.int (0 : Int32))] [(.int (0 : Int32))]))
      refine own_by (fun _ k => XS.istoreN X31.here hx rfl (hb hby d5_82) rfl (l' := #[.val (.ref a1), .val (.long q1), .second, .val (.int (0 : Int32)), .val (.int (0 : Int32))]) rfl k) ?_
      show own_Go _ _ _ _ (T31.setTop (mkF m 83 #[.val (.ref a1), .val (.long q1), .second, .val (.int (0 : Int32)), .val (.int (0 : Int32))] []))
      refine own_by (fun _ k => XS.goto X31.here hx rfl (pc0 := 83) (pc' := 41) rfl (hb hby d5_83) (by decide) (by decide) k) ?_
      refine own_by (fun _ k => XS.iloadN X31.here hx rfl (hb hby d5_41) rfl k) ?_
      show own_Go _ _ _ _ (T31.setTop (mkF m 42 #[.val (.ref a1), .val (.long q1), .second, .val (.int (0 : Int32)), .val (.int (0 : Int32))] [(.int (0 : Int32))]))
      refine own_by (fun _ k => XS.ifYes X31.here hx rfl (pc0 := 42) (pc' := 86) rfl (hb hby d5_42) rfl ((if0 _ _).trans (flt (by decide)).2.2.2) (by decide) (by decide) k) ?_
      refine own_by (fun _ k => XS.aloadN X31.here hx rfl (hb hby d5_86) rfl rfl k) ?_
      show own_Go _ _ _ _ (T31.setTop (mkF m 87 #[.val (.ref a1), .val (.long q1), .second, .val (.int (0 : Int32)), .val (.int (0 : Int32))] [(.ref a1)]))
      obtain ⟨T37, X37, e37, st37⟩ := getF X31 hx hZ hown (host := "") (Or.inl (hw _ (List.mem_of_getElem? (i := 20) rfl))) Via.refl e31 f33 (g := (mkF m 87 #[.val (.ref a1), .val (.long q1), .second, .val (.int (0 : Int32)), .val (.int (0 : Int32))] [(.ref a1)])) rfl rfl (hb hby d5_87)
      refine own_by st37 ?_
      refine own_by (fun _ k => XS.iloadN X37.here hx rfl (hb hby d5_90) rfl k) ?_
      refine own_by (fun _ k => XS.lloadN X37.here hx rfl (hb hby d5_91) rfl k) ?_
      show own_Go _ _ _ _ (T37.setTop (mkF m 92 #[.val (.ref a1), .val (.long q1), .second, .val (.int (0 : Int32)), .val (.int (0 : Int32))] [(.long q1), (.int (0 : Int32)), (.ref bn)]))
      refine own_las X37 hx hZ e37 A31 0 (by decide) (by decide) (hb hby d5_92) ?_
      intro T38 h38 X38 e38 W38 A38
      have f39 := f32.wr W38
      have f40 := f33.other W38 (Or.inl ne_a1)
      have f41 := f34.other W38 (Or.inl ne_a1)
      have f42 := f35.other W38 ne_b1
      have f43 := f36.wr W38 (Or.inr nwbn)
      have N38 := Fr.snoc X38 N31 gebn
      have Z38 := own_size_wr W38 Z31
      obtain ⟨fn38, hfn38⟩ : ∃ g : Nat → Int64, g = own_upd fn31 0 q1 := ⟨_, rfl⟩
      rw [← hfn38] at A38
      show own_Go _ _ _ _ (T38.setTop (mkF m 93 #[.val (.ref a1), .val (.long q1), .second, .val (.int (0 : Int32)), .val (.int (0 : Int32))] []))
      have hfin : own_hp (fn38) 3 ∧ ∀ x, own_cnt (fn38) x 3 = own_cnt f x 2 + own_one q1 x := by
        simp only [hfn38, hfn31]
        simp only [hc2]
        obtain ⟨H1, H2, H3, H4⟩ := HP2
        have hc28' := hc28
        rw [Int64.lt_iff_toInt_lt] at hc28'
        refine ⟨⟨fun q => ?_, fun q => ?_, fun q => ?_, fun q => ?_⟩, fun x => ?_⟩
        · first | omega | (simp [own_upd] at *; omega)
        · first | omega | (simp [own_upd] at *; omega)
        · first | omega | (simp [own_upd] at *; omega)
        · first | omega | (simp [own_upd] at *; omega)
        · simp [own_cnt, own_upd]; try omega
      exact own_retV X38 hx Bd.notSynchronized e38 Bd.returns (hb hby d5_93) (⟨rfl, N38, f43, _, 4, _, by decide, by omega, f40, f41, A38, gebn, Or.inr nwbn, hfin.1, hfin.2⟩) (by decide) (by decide)
    · --
      refine own_by (fun _ k => XS.ifNo X27.here hx rfl (hb hby d5_61) rfl ((if0 _ _).trans (flt (mt (lw_gt _ _).mp hc28)).2.2.1) k) ?_
      show own_Go _ _ _ _ (T27.setTop (mkF m 64 #[.val (.ref a1), .val (.long q1), .second, .val (.int (2 : Int32)), .val (.int (0 : Int32))] []))
      refine own_by (fun _ k => XS.goto X27.here hx rfl (pc0 := 64) (pc' := 86) rfl (hb hby d5_64) (by decide) (by decide) k) ?_
      refine own_by (fun _ k => XS.aloadN X27.here hx rfl (hb hby d5_86) rfl rfl k) ?_
      show own_Go _ _ _ _ (T27.setTop (mkF m 87 #[.val (.ref a1), .val (.long q1), .second, .val (.int (2 : Int32)), .val (.int (0 : Int32))] [(.ref a1)]))
      obtain ⟨T44, X44, e44, st44⟩ := getF X27 hx hZ hown (host := "") (Or.inl (hw _ (List.mem_of_getElem? (i := 20) rfl))) Via.refl e27 f23 (g := (mkF m 87 #[.val (.ref a1), .val (.long q1), .second, .val (.int (2 : Int32)), .val (.int (0 : Int32))] [(.ref a1)])) rfl rfl (hb hby d5_87)
      refine own_by st44 ?_
      refine own_by (fun _ k => XS.iloadN X44.here hx rfl (hb hby d5_90) rfl k) ?_
      refine own_by (fun _ k => XS.lloadN X44.here hx rfl (hb hby d5_91) rfl k) ?_
      show own_Go _ _ _ _ (T44.setTop (mkF m 92 #[.val (.ref a1), .val (.long q1), .second, .val (.int (2 : Int32)), .val (.int (0 : Int32))] [(.long q1), (.int (2 : Int32)), (.ref bn)]))
      refine own_las X44 hx hZ e44 f26 2 (by decide) (by decide) (hb hby d5_92) ?_
      intro T45 h45 X45 e45 W45 A45
      have f46 := f22.wr W45
      have f47 := f23.other W45 (Or.inl ne_a1)
      have f48 := f21.other W45 (Or.inl ne_a1)
      have f49 := f24.other W45 ne_b1
      have f50 := f25.wr W45 (Or.inr nwbn)
      have N45 := Fr.snoc X45 N20 gebn
      have Z45 := own_size_wr W45 Z20
      obtain ⟨fn45, hfn45⟩ : ∃ g : Nat → Int64, g = own_upd f2 2 q1 := ⟨_, rfl⟩
      rw [← hfn45] at A45
      show own_Go _ _ _ _ (T45.setTop (mkF m 93 #[.val (.ref a1), .val (.long q1), .second, .val (.int (2 : Int32)), .val (.int (0 : Int32))] []))
      have hfin : own_hp (fn45) 3 ∧ ∀ x, own_cnt (fn45) x 3 = own_cnt f x 2 + own_one q1 x := by
        simp only [hfn45]
        simp only [hc2]
        obtain ⟨H1, H2, H3, H4⟩ := HP2
        have hc28' := hc28
        rw [Int64.lt_iff_toInt_lt] at hc28'
        refine ⟨⟨fun q => ?_, fun q => ?_, fun q => ?_, fun q => ?_⟩, fun x => ?_⟩
        · first | omega | (simp [own_upd] at *; omega)
        · first | omega | (simp [own_upd] at *; omega)
        · first | omega | (simp [own_upd] at *; omega)
        · first | omega | (simp [own_upd] at *; omega)
        · simp [own_cnt, own_upd]; try omega
      exact own_retV X45 hx Bd.notSynchronized e45 Bd.returns (hb hby d5_93) (⟨rfl, N45, f50, _, 4, _, by decide, by omega, f47, f48, A45, gebn, Or.inr nwbn, hfin.1, hfin.2⟩) (by decide) (by decide)
  · --
    have hnk : 2 + 1 ≤ n := by have q' : ¬ zn.toInt = 2 := fun q => hc3 (Int32.toInt_inj.mp (by rw [q]; decide)); omega
    refine own_by (fun _ k => XS.icmpYes X2.here hx rfl (pc0 := 9) (pc' := 29) rfl (hb hby d5_9) rfl (feq hc3).2 (by decide) (by decide) k) ?_
    refine own_by (fun _ k => XS.aloadN X2.here hx rfl (hb hby d5_29) rfl rfl k) ?_
    show own_Go _ _ _ _ (T2.setTop (mkF m 30 #[.val (.ref a1), .val (.long q1), .second, .unset, .unset] [(.ref a1)]))
    refine own_by (fun _ k => XS.dup X2.here hx rfl (hb hby d5_30) rfl rfl k) ?_
    show own_Go _ _ _ _ (T2.setTop (mkF m 31 #[.val (.ref a1), .val (.long q1), .second, .unset, .unset] [(.ref a1), (.ref a1)]))
    obtain ⟨T51, X51, e51, st51⟩ := getF X2 hx hZ hown (host := "") (Or.inl (hw _ (List.mem_of_getElem? (i := 27) rfl))) Via.refl e2 PF2 (g := (mkF m 31 #[.val (.ref a1), .val (.long q1), .second, .unset, .unset] [(.ref a1), (.ref a1)])) rfl rfl (hb hby d5_31)
    refine own_by st51 ?_
    show own_Go _ _ _ _ (T51.setTop (mkF m 34 #[.val (.ref a1), .val (.long q1), .second, .unset, .unset] [(.int (2 : Int32)), (.ref a1)]))
    refine own_by (fun _ k => XS.dupX1 X51.here hx rfl (hb hby d5_34) rfl rfl rfl k) ?_
    refine own_by (fun _ k => XS.iconst X51.here hx rfl (hb hby d5_35) k) ?_
    show own_Go _ _ _ _ (T51.setTop (mkF m 36 #[.val (.ref a1), .val (.long q1), .second, .unset, .unset] [(.int (1 : Int32)), (.int (2 : Int32)), (.ref a1), (.int (2 : Int32))]))
    refine own_by (fun _ k => XS.iadd X51.here hx rfl (hb hby d5_36) rfl k) ?_
    show own_Go _ _ _ _ (T51.setTop (mkF m 37 #[.val (.ref a1), .val (.long q1), .second, .unset, .unset] [(.int ((2 : Int32) + (1 : Int32))), (.ref a1), (.int (2 : Int32))]))
    rw [(by decide : ((2 : Int32) + (1 : Int32)) = (3 : Int32))]
    show own_Go _ _ _ _ (T51.setTop (mkF m 37 #[.val (.ref a1), .val (.long q1), .second, .unset, .unset] [(.int (3 : Int32)), (.ref a1), (.int (2 : Int32))]))
    obtain ⟨T52, h52, X52, e52, W52, st52⟩ := putF X51 hx hZ hown (host := "") (Or.inl (hw _ (List.mem_of_getElem? (i := 27) rfl))) Via.refl e51 PF2 PE (Or.inl (hw _ (List.mem_of_getElem? (i := 28) rfl))) (hw _ (List.mem_of_getElem? (i := 8) rfl)) (ty := .int) (by decide) rfl rfl (g := (mkF m 37 #[.val (.ref a1), .val (.long q1), .second, .unset, .unset] [(.int (3 : Int32)), (.ref a1), (.int (2 : Int32))])) rfl rfl (hb hby d5_37)
    refine own_by st52 ?_
    have f53 := PF2.same W52
    have f54 := PE.wr W52
    have f55 := PF1.other W52 (Or.inr (slot_ne (Or.inl (hw _ (List.mem_of_getElem? (i := 21) rfl))) (Or.inl (hw _ (List.mem_of_getElem? (i := 28) rfl))) (by decide) (t := (.array .long)) (t' := .int) (by decide) (by decide)))
    have f56 := PA.other W52 (Ne.symm hab)
    have f57 := (Keep.refl h0 [a1, b1]).wr W52 (Or.inl (List.mem_of_getElem? (i := 0) rfl))
    have N52 := Fr.snoc X52 N0 Pg1
    have Z52 := own_size_wr W52 Z0
    show own_Go _ _ _ _ (T52.setTop (mkF m 40 #[.val (.ref a1), .val (.long q1), .second, .unset, .unset] [(.int (2 : Int32))]))
    refine own_by (fun _ k => XS.istoreN X52.here hx rfl (hb hby d5_40) rfl (l' := #[.val (.ref a1), .val (.long q1), .second, .val (.int (2 : Int32)), .unset]) rfl k) ?_
    refine own_by (fun _ k => XS.iloadN X52.here hx rfl (hb hby d5_41) rfl k) ?_
    show own_Go _ _ _ _ (T52.setTop (mkF m 42 #[.val (.ref a1), .val (.long q1), .second, .val (.int (2 : Int32)), .unset] [(.int (2 : Int32))]))
    refine own_by (fun _ k => XS.ifNo X52.here hx rfl (hb hby d5_42) rfl ((if0 _ _).trans (tlt (by decide)).2.2.2) k) ?_
    refine own_by (fun _ k => XS.iloadN X52.here hx rfl (hb hby d5_45) rfl k) ?_
    refine own_by (fun _ k => XS.iconst X52.here hx rfl (hb hby d5_46) k) ?_
    show own_Go _ _ _ _ (T52.setTop (mkF m 47 #[.val (.ref a1), .val (.long q1), .second, .val (.int (2 : Int32)), .unset] [(.int (1 : Int32)), (.int (2 : Int32))]))
    refine own_by (fun _ k => XS.isub X52.here hx rfl (hb hby d5_47) rfl k) ?_
    show own_Go _ _ _ _ (T52.setTop (mkF m 48 #[.val (.ref a1), .val (.long q1), .second, .val (.int (2 : Int32)), .unset] [(.int ((2 : Int32) - (1 : Int32)))]))
    rw [(by decide : ((2 : Int32) - (1 : Int32)) = (1 : Int32))]
    refine own_by (fun _ k => XS.iconst X52.here hx rfl (hb hby d5_48) k) ?_
    show own_Go _ _ _ _ (T52.setTop (mkF m 49 #[.val (.ref a1), .val (.long q1), .second, .val (.int (2 : Int32)), .unset] [(.int (1 : Int32)), (.int (1 : Int32))]))
    refine own_by (fun _ k => XS.iushr X52.here hx rfl (hb hby d5_49) rfl k) ?_
    show own_Go _ _ _ _ (T52.setTop (mkF m 50 #[.val (.ref a1), .val (.long q1), .second, .val (.int (2 : Int32)), .unset] [(.int (((1 : Int32).toUInt32 >>> ((1 : Int32) &&& 31).toUInt32).toInt32))]))
    rw [(by decide : (((1 : Int32).toUInt32 >>> ((1 : Int32) &&& 31).toUInt32).toInt32) = (0 : Int32))]
    show own_Go _ _ _ _ (T52.setTop (mkF m 50 #[.val (.ref a1), .val (.long q1), .second, .val (.int (2 : Int32)), .unset] [(.int (0 : Int32))]))
    refine own_by (fun _ k => XS.istore X52.here hx rfl (hb hby d5_50) rfl (l' := #[.val (.ref a1), .val (.long q1), .second, .val (.int (2 : Int32)), .val (.int (0 : Int32))]) rfl k) ?_
    refine own_by (fun _ k => XS.aloadN X52.here hx rfl (hb hby d5_52) rfl rfl k) ?_
    show own_Go _ _ _ _ (T52.setTop (mkF m 53 #[.val (.ref a1), .val (.long q1), .second, .val (.int (2 : Int32)), .val (.int (0 : Int32))] [(.ref a1)]))
    obtain ⟨T58, X58, e58, st58⟩ := getF X52 hx hZ hown (host := "") (Or.inl (hw _ (List.mem_of_getElem? (i := 20) rfl))) Via.refl e52 f55 (g := (mkF m 53 #[.val (.ref a1), .val (.long q1), .second, .val (.int (2 : Int32)), .val (.int (0 : Int32))] [(.ref a1)])) rfl rfl (hb hby d5_53)
    refine own_by st58 ?_
    refine own_by (fun _ k => XS.iload X58.here hx rfl (hb hby d5_56) rfl k) ?_
    show own_Go _ _ _ _ (T58.setTop (mkF m 58 #[.val (.ref a1), .val (.long q1), .second, .val (.int (2 : Int32)), .val (.int (0 : Int32))] [(.int (0 : Int32)), (.ref b1)]))
    refine own_by (fun _ k => own_lal X58 hx hZ e58 f56 0 (by decide) (by omega) (hb hby d5_58) k) ?_
    refine own_by (fun _ k => XS.lloadN X58.here hx rfl (hb hby d5_59) rfl k) ?_
    show own_Go _ _ _ _ (T58.setTop (mkF m 60 #[.val (.ref a1), .val (.long q1), .second, .val (.int (2 : Int32)), .val (.int (0 : Int32))] [(.long q1), (.long (f 0))]))
    refine own_by (fun _ k => XS.lcmp X58.here hx rfl (hb hby d5_60) rfl k) ?_
    show own_Go _ _ _ _ (T58.setTop (mkF m 61 #[.val (.ref a1), .val (.long q1), .second, .val (.int (2 : Int32)), .val (.int (0 : Int32))] [(.int (lcmpW (f 0) q1))]))
    by_cases hc59 : q1 < (f 0)
    · --
      refine own_by (fun _ k => XS.ifYes X58.here hx rfl (pc0 := 61) (pc' := 67) rfl (hb hby d5_61) rfl ((if0 _ _).trans (tlt ((lw_gt _ _).mpr hc59)).2.2.1) (by decide) (by decide) k) ?_
      refine own_by (fun _ k => XS.aloadN X58.here hx rfl (hb hby d5_67) rfl rfl k) ?_
      show own_Go _ _ _ _ (T58.setTop (mkF m 68 #[.val (.ref a1), .val (.long q1), .second, .val (.int (2 : Int32)), .val (.int (0 : Int32))] [(.ref a1)]))
      obtain ⟨T60, X60, e60, st60⟩ := getF X58 hx hZ hown (host := "") (Or.inl (hw _ (List.mem_of_getElem? (i := 20) rfl))) Via.refl e58 f55 (g := (mkF m 68 #[.val (.ref a1), .val (.long q1), .second, .val (.int (2 : Int32)), .val (.int (0 : Int32))] [(.ref a1)])) rfl rfl (hb hby d5_68)
      refine own_by st60 ?_
      refine own_by (fun _ k => XS.iloadN X60.here hx rfl (hb hby d5_71) rfl k) ?_
      refine own_by (fun _ k => XS.aloadN X60.here hx rfl (hb hby d5_72) rfl rfl k) ?_
      show own_Go _ _ _ _ (T60.setTop (mkF m 73 #[.val (.ref a1), .val (.long q1), .second, .val (.int (2 : Int32)), .val (.int (0 : Int32))] [(.ref a1), (.int (2 : Int32)), (.ref b1)]))
      obtain ⟨T61, X61, e61, st61⟩ := getF X60 hx hZ hown (host := "") (Or.inl (hw _ (List.mem_of_getElem? (i := 20) rfl))) Via.refl e60 f55 (g := (mkF m 73 #[.val (.ref a1), .val (.long q1), .second, .val (.int (2 : Int32)), .val (.int (0 : Int32))] [(.ref a1), (.int (2 : Int32)), (.ref b1)])) rfl rfl (hb hby d5_73)
      refine own_by st61 ?_
      refine own_by (fun _ k => XS.iload X61.here hx rfl (hb hby d5_76) rfl k) ?_
      show own_Go _ _ _ _ (T61.setTop (mkF m 78 #[.val (.ref a1), .val (.long q1), .second, .val (.int (2 : Int32)), .val (.int (0 : Int32))] [(.int (0 : Int32)), (.ref b1), (.int (2 : Int32)), (.ref b1)]))
      refine own_by (fun _ k => own_lal X61 hx hZ e61 f56 0 (by decide) (by omega) (hb hby d5_78) k) ?_
      show own_Go _ _ _ _ (T61.setTop (mkF m 79 #[.val (.ref a1), .val (.long q1), .second, .val (.int (2 : Int32)), .val (.int (0 : Int32))] [(.long (f 0)), (.int (2 : Int32)), (.ref b1)]))
      refine own_las X61 hx hZ e61 f56 2 (by decide) (by omega) (hb hby d5_79) ?_
      intro T62 h62 X62 e62 W62 A62
      have f63 := f54.wr W62
      have f64 := f55.other W62 (Or.inl hab)
      have f65 := f53.other W62 (Or.inl hab)
      have f66 := f57.wr W62 (Or.inl (List.mem_of_getElem? (i := 1) rfl))
      have N62 := Fr.snoc X62 N52 Pg2
      have Z62 := own_size_wr W62 Z52
      obtain ⟨fn62, hfn62⟩ : ∃ g : Nat → Int64, g = own_upd f 2 (f 0) := ⟨_, rfl⟩
      rw [← hfn62] at A62
      show own_Go _ _ _ _ (T62.setTop (mkF m 80 #[.val (.ref a1), .val (.long q1), .second, .val (.int (2 : Int32)), .val (.int (0 : Int32))] []))
      refine own_by (fun _ k => XS.iload X62.here hx rfl (hb hby d5_80) rfl k) ?_
      show own_Go _ _ _ _ (T62.setTop (mkF m 82 #[.val (.ref a1), .val (.long q1), .second, .val (.int (2 : Int32)), .val (.int (0 : Int32))] [(.int (0 : Int32))]))
      refine own_by (fun _ k => XS.istoreN X62.here hx rfl (hb hby d5_82) rfl (l' := #[.val (.ref a1), .val (.long q1), .second, .val (.int (0 : Int32)), .val (.int (0 : Int32))]) rfl k) ?_
      show own_Go _ _ _ _ (T62.setTop (mkF m 83 #[.val (.ref a1), .val (.long q1), .second, .val (.int (0 : Int32)), .val (.int (0 : Int32))] []))
      refine own_by (fun _ k => XS.goto X62.here hx rfl (pc0 := 83) (pc' := 41) rfl (hb hby d5_83) (by decide) (by decide) k) ?_
      refine own_by (fun _ k => XS.iloadN X62.here hx rfl (hb hby d5_41) rfl k) ?_
      show own_Go _ _ _ _ (T62.setTop (mkF m 42 #[.val (.ref a1), .val (.long q1), .second, .val (.int (0 : Int32)), .val (.int (0 : Int32))] [(.int (0 : Int32))]))
      refine own_by (fun _ k => XS.ifYes X62.here hx rfl (pc0 := 42) (pc' := 86) rfl (hb hby d5_42) rfl ((if0 _ _).trans (flt (by decide)).2.2.2) (by decide) (by decide) k) ?_
      refine own_by (fun _ k => XS.aloadN X62.here hx rfl (hb hby d5_86) rfl rfl k) ?_
      show own_Go _ _ _ _ (T62.setTop (mkF m 87 #[.val (.ref a1), .val (.long q1), .second, .val (.int (0 : Int32)), .val (.int (0 : Int32))] [(.ref a1)]))
      obtain ⟨T67, X67, e67, st67⟩ := getF X62 hx hZ hown (host := "") (Or.inl (hw _ (List.mem_of_getElem? (i := 20) rfl))) Via.refl e62 f64 (g := (mkF m 87 #[.val (.ref a1), .val (.long q1), .second, .val (.int (0 : Int32)), .val (.int (0 : Int32))] [(.ref a1)])) rfl rfl (hb hby d5_87)
      refine own_by st67 ?_
      refine own_by (fun _ k => XS.iloadN X67.here hx rfl (hb hby d5_90) rfl k) ?_
      refine own_by (fun _ k => XS.lloadN X67.here hx rfl (hb hby d5_91) rfl k) ?_
      show own_Go _ _ _ _ (T67.setTop (mkF m 92 #[.val (.ref a1), .val (.long q1), .second, .val (.int (0 : Int32)), .val (.int (0 : Int32))] [(.long q1), (.int (0 : Int32)), (.ref b1)]))
      refine own_las X67 hx hZ e67 A62 0 (by decide) (by omega) (hb hby d5_92) ?_
      intro T68 h68 X68 e68 W68 A68
      have f69 := f63.wr W68
      have f70 := f64.other W68 (Or.inl hab)
      have f71 := f65.other W68 (Or.inl hab)
      have f72 := f66.wr W68 (Or.inl (List.mem_of_getElem? (i := 1) rfl))
      have N68 := Fr.snoc X68 N62 Pg2
      have Z68 := own_size_wr W68 Z62
      obtain ⟨fn68, hfn68⟩ : ∃ g : Nat → Int64, g = own_upd fn62 0 q1 := ⟨_, rfl⟩
      rw [← hfn68] at A68
      show own_Go _ _ _ _ (T68.setTop (mkF m 93 #[.val (.ref a1), .val (.long q1), .second, .val (.int (0 : Int32)), .val (.int (0 : Int32))] []))
      have hfin : own_hp (fn68) 3 ∧ ∀ x, own_cnt (fn68) x 3 = own_cnt f x 2 + own_one q1 x := by
        simp only [hfn68, hfn62]
        obtain ⟨H1, H2, H3, H4⟩ := HP
        have hc59' := hc59
        rw [Int64.lt_iff_toInt_lt] at hc59'
        refine ⟨⟨fun q => ?_, fun q => ?_, fun q => ?_, fun q => ?_⟩, fun x => ?_⟩
        · first | omega | (simp [own_upd] at *; omega)
        · first | omega | (simp [own_upd] at *; omega)
        · first | omega | (simp [own_upd] at *; omega)
        · first | omega | (simp [own_upd] at *; omega)
        · simp [own_cnt, own_upd]; try omega
      exact own_retV X68 hx Bd.notSynchronized e68 Bd.returns (hb hby d5_93) (⟨rfl, N68, f72, _, n, _, by omega, by omega, f70, f71, A68, Pg2, Or.inl rfl, hfin.1, hfin.2⟩) (by decide) (by decide)
    · --
      refine own_by (fun _ k => XS.ifNo X58.here hx rfl (hb hby d5_61) rfl ((if0 _ _).trans (flt (mt (lw_gt _ _).mp hc59)).2.2.1) k) ?_
      show own_Go _ _ _ _ (T58.setTop (mkF m 64 #[.val (.ref a1), .val (.long q1), .second, .val (.int (2 : Int32)), .val (.int (0 : Int32))] []))
      refine own_by (fun _ k => XS.goto X58.here hx rfl (pc0 := 64) (pc' := 86) rfl (hb hby d5_64) (by decide) (by decide) k) ?_
      refine own_by (fun _ k => XS.aloadN X58.here hx rfl (hb hby d5_86) rfl rfl k) ?_
      show own_Go _ _ _ _ (T58.setTop (mkF m 87 #[.val (.ref a1), .val (.long q1), .second, .val (.int (2 : Int32)), .val (.int (0 : Int32))] [(.ref a1)]))
      obtain ⟨T73, X73, e73, st73⟩ := getF X58 hx hZ hown (host := "") (Or.inl (hw _ (List.mem_of_getElem? (i := 20) rfl))) Via.refl e58 f55 (g := (mkF m 87 #[.val (.ref a1), .val (.long q1), .second, .val (.int (2 : Int32)), .val (.int (0 : Int32))] [(.ref a1)])) rfl rfl (hb hby d5_87)
      refine own_by st73 ?_
      refine own_by (fun _ k => XS.iloadN X73.here hx rfl (hb hby d5_90) rfl k) ?_
      refine own_by (fun _ k => XS.lloadN X73.here hx rfl (hb hby d5_91) rfl k) ?_
      show own_Go _ _ _ _ (T73.setTop (mkF m 92 #[.val (.ref a1), .val (.long q1), .second, .val (.int (2 : Int32)), .val (.int (0 : Int32))] [(.long q1), (.int (2 : Int32)), (.ref b1)]))
      refine own_las X73 hx hZ e73 f56 2 (by decide) (by omega) (hb hby d5_92) ?_
      intro T74 h74 X74 e74 W74 A74
      have f75 := f54.wr W74
      have f76 := f55.other W74 (Or.inl hab)
      have f77 := f53.other W74 (Or.inl hab)
      have f78 := f57.wr W74 (Or.inl (List.mem_of_getElem? (i := 1) rfl))
      have N74 := Fr.snoc X74 N52 Pg2
      have Z74 := own_size_wr W74 Z52
      obtain ⟨fn74, hfn74⟩ : ∃ g : Nat → Int64, g = own_upd f 2 q1 := ⟨_, rfl⟩
      rw [← hfn74] at A74
      show own_Go _ _ _ _ (T74.setTop (mkF m 93 #[.val (.ref a1), .val (.long q1), .second, .val (.int (2 : Int32)), .val (.int (0 : Int32))] []))
      have hfin : own_hp (fn74) 3 ∧ ∀ x, own_cnt (fn74) x 3 = own_cnt f x 2 + own_one q1 x := by
        simp only [hfn74]
        obtain ⟨H1, H2, H3, H4⟩ := HP
        have hc59' := hc59
        rw [Int64.lt_iff_toInt_lt] at hc59'
        refine ⟨⟨fun q => ?_, fun q => ?_, fun q => ?_, fun q => ?_⟩, fun x => ?_⟩
        · first | omega | (simp [own_upd] at *; omega)
        · first | omega | (simp [own_upd] at *; omega)
        · first | omega | (simp [own_upd] at *; omega)
        · first | omega | (simp [own_upd] at *; omega)
        · simp [own_cnt, own_upd]; try omega
      exact own_retV X74 hx Bd.notSynchronized e74 Bd.returns (hb hby d5_93) (⟨rfl, N74, f78, _, n, _, by omega, by omega, f76, f77, A74, Pg2, Or.inl rfl, hfin.1, hfin.2⟩) (by decide) (by decide)
set_option maxRecDepth 65536 in
set_option maxHeartbeats 40000000 in
theorem rm5_3 (l : Launch) (Z : State) (a0 : Array Value) (hw : ∀ d ∈ tables_1, d.before a0 Z = true) (ws : List Jvm.Cond) (a1 : Addr) (q1 : Int64) (b1 : Addr) (n : Nat) (f : Nat → Int64) (h0 : Heap) (n0 : Nat) (Z0 : n0 ≤ h0.size) (PE : Exa Z h0 a1 "com/example/libmakespan/libmakespan/planners/LongHeap") (PF1 : Fld Z h0 a1 "com/example/libmakespan/libmakespan/planners/LongHeap" "values" "[J" (.ref b1)) (PF2 : Fld Z h0 a1 "com/example/libmakespan/libmakespan/planners/LongHeap" "size" "I" (.int (3 : Int32))) (PA : own_AJ Z h0 b1 n f) (Pg1 : n0 ≤ a1) (Pg2 : n0 ≤ b1) (hab : a1 ≠ b1) (hkn : 3 ≤ n) (hn8 : n ≤ 8) (HP : own_hp f 3) :
    MetFree l (⟨"com/example/libmakespan/libmakespan/planners/LongHeap", "add", "(J)V"⟩ : MethodName) (head1 (Jvm.Cond.code (⟨"com/example/libmakespan/libmakespan/planners/LongHeap", "add", "(J)V"⟩ : MethodName) prog_91_method_4_code 5 none :: ws) ({ frames := 2, cells := 1, slots := 8, locals := 75 } : Room)) (fun a U => a = #[(.ref a1), (.long q1)] ∧ Z.Warmed39 U.vm ∧ U.heap = h0) (fun _ _ _ _ _ => True) (fun _ U o U' => ∃ vv LL, o = .returned vv ∧ own_ap (fun v h L => v = none ∧ Fr n0 L ∧ Keep h0 h [a1, b1] ∧ ∃ (b : Addr) (n' : Nat) (f' : Nat → Int64), 4 ≤ n' ∧ n' ≤ 8 ∧ Fld Z h a1 "com/example/libmakespan/libmakespan/planners/LongHeap" "values" "[J" (.ref b) ∧ Fld Z h a1 "com/example/libmakespan/libmakespan/planners/LongHeap" "size" "I" (.int (4 : Int32)) ∧ own_AJ Z h b n' f' ∧ n0 ≤ b ∧ (b = b1 ∨ h0.size ≤ b) ∧ own_hp f' 4 ∧ ∀ x, own_cnt f' x 4 = own_cnt f x 3 + own_one q1 x) vv U'.heap LL ∧ FrameEnd U o U' LL 1 8) := by
  refine MetFree.of_bodySF (plainFor_of_name pn_5) hisR ?_
  intro p e s m args below meth c s₁ Bd hml0 hP hK
  obtain ⟨rfl, hZ, hh⟩ := hP
  have hx := Bd.exec
  have hby := Bd.bytes
  have hml : c.maxLocals = 5 := hml0
  have hown : s.vm.findClass "com/example/libmakespan/libmakespan/planners/LongHeap" = some m.cls := findClass_of_methodNamed Bd.named
  have hnm := (name_of_methodNamed Bd.named Bd.method).1
  have X0 : Stand p l e ({ frames := 2, cells := 1, slots := 8, locals := 75 } : Room) s m #[(.ref a1), (.long q1)] below meth c s₁ [] 0 0 := Stand.of_body Bd
  have e0 : s₁.heap = h0 := by rw [← hh, Bd.state]; rfl
  have N0 := Fr.nil n0
  show own_Go p.tables e below (own_Q s (fun v h L => v = none ∧ Fr n0 L ∧ Keep h0 h [a1, b1] ∧ ∃ (b : Addr) (n' : Nat) (f' : Nat → Int64), 4 ≤ n' ∧ n' ≤ 8 ∧ Fld Z h a1 "com/example/libmakespan/libmakespan/planners/LongHeap" "values" "[J" (.ref b) ∧ Fld Z h a1 "com/example/libmakespan/libmakespan/planners/LongHeap" "size" "I" (.int (4 : Int32)) ∧ own_AJ Z h b n' f' ∧ n0 ≤ b ∧ (b = b1 ∨ h0.size ≤ b) ∧ own_hp f' 4 ∧ ∀ x, own_cnt f' x 4 = own_cnt f x 3 + own_one q1 x) 1 8) (s₁.setTop (entryFrame m #[(.ref a1), (.long q1)] 5))
  rw [show entryFrame m #[(.ref a1), (.long q1)] 5 = mkF m 0 #[.val (.ref a1), .val (.long q1), .second, .unset, .unset] [] from by first | (simp [entryFrame, mkF, argsToLocals, Value.category]; done) | rfl]
  obtain ⟨zn, hznE, hzn⟩ : ∃ z : Int32, z = n.toInt32 ∧ z.toInt = (n : Int) := ⟨n.toInt32, rfl, own_ofN (by omega)⟩
  show own_Go _ _ _ _ (s₁.setTop (mkF m 0 #[.val (.ref a1), .val (.long q1), .second, .unset, .unset] []))
  refine own_by (fun _ k => XS.aloadN X0.here hx rfl (hb hby d5_0) rfl rfl k) ?_
  show own_Go _ _ _ _ (s₁.setTop (mkF m 1 #[.val (.ref a1), .val (.long q1), .second, .unset, .unset] [(.ref a1)]))
  obtain ⟨T1, X1, e1, st1⟩ := getF X0 hx hZ hown (host := "") (Or.inl (hw _ (List.mem_of_getElem? (i := 27) rfl))) Via.refl e0 PF2 (g := (mkF m 1 #[.val (.ref a1), .val (.long q1), .second, .unset, .unset] [(.ref a1)])) rfl rfl (hb hby d5_1)
  refine own_by st1 ?_
  refine own_by (fun _ k => XS.aloadN X1.here hx rfl (hb hby d5_4) rfl rfl k) ?_
  show own_Go _ _ _ _ (T1.setTop (mkF m 5 #[.val (.ref a1), .val (.long q1), .second, .unset, .unset] [(.ref a1), (.int (3 : Int32))]))
  obtain ⟨T2, X2, e2, st2⟩ := getF X1 hx hZ hown (host := "") (Or.inl (hw _ (List.mem_of_getElem? (i := 20) rfl))) Via.refl e1 PF1 (g := (mkF m 5 #[.val (.ref a1), .val (.long q1), .second, .unset, .unset] [(.ref a1), (.int (3 : Int32))])) rfl rfl (hb hby d5_5)
  refine own_by st2 ?_
  show own_Go _ _ _ _ (T2.setTop (mkF m 8 #[.val (.ref a1), .val (.long q1), .second, .unset, .unset] [(.ref b1), (.int (3 : Int32))]))
  refine own_by (fun _ k => own_len X2 hx hZ e2 PA zn hznE (hb hby d5_8) k) ?_
  show own_Go _ _ _ _ (T2.setTop (mkF m 9 #[.val (.ref a1), .val (.long q1), .second, .unset, .unset] [(.int zn), (.int (3 : Int32))]))
  by_cases hc3 : (3 : Int32) = zn
  · --
    have hnk : n = 3 := by have q' := congrArg Int32.toInt hc3; rw [hzn, (by decide : (3 : Int32).toInt = 3)] at q'; omega
    subst hnk
    refine own_by (fun _ k => XS.icmpNo X2.here hx rfl (hb hby d5_9) rfl (teq hc3).2 k) ?_
    refine own_by (fun _ k => XS.aloadN X2.here hx rfl (hb hby d5_12) rfl rfl k) ?_
    refine own_by (fun _ k => XS.aloadN X2.here hx rfl (hb hby d5_13) rfl rfl k) ?_
    show own_Go _ _ _ _ (T2.setTop (mkF m 14 #[.val (.ref a1), .val (.long q1), .second, .unset, .unset] [(.ref a1), (.ref a1)]))
    obtain ⟨T4, X4, e4, st4⟩ := getF X2 hx hZ hown (host := "") (Or.inl (hw _ (List.mem_of_getElem? (i := 20) rfl))) Via.refl e2 PF1 (g := (mkF m 14 #[.val (.ref a1), .val (.long q1), .second, .unset, .unset] [(.ref a1), (.ref a1)])) rfl rfl (hb hby d5_14)
    refine own_by st4 ?_
    refine own_by (fun _ k => XS.iconst X4.here hx rfl (hb hby d5_17) k) ?_
    refine own_by (fun _ k => XS.aloadN X4.here hx rfl (hb hby d5_18) rfl rfl k) ?_
    show own_Go _ _ _ _ (T4.setTop (mkF m 19 #[.val (.ref a1), .val (.long q1), .second, .unset, .unset] [(.ref a1), (.int (2 : Int32)), (.ref b1), (.ref a1)]))
    obtain ⟨T5, X5, e5, st5⟩ := getF X4 hx hZ hown (host := "") (Or.inl (hw _ (List.mem_of_getElem? (i := 27) rfl))) Via.refl e4 PF2 (g := (mkF m 19 #[.val (.ref a1), .val (.long q1), .second, .unset, .unset] [(.ref a1), (.int (2 : Int32)), (.ref b1), (.ref a1)])) rfl rfl (hb hby d5_19)
    refine own_by st5 ?_
    show own_Go _ _ _ _ (T5.setTop (mkF m 22 #[.val (.ref a1), .val (.long q1), .second, .unset, .unset] [(.int (3 : Int32)), (.int (2 : Int32)), (.ref b1), (.ref a1)]))
    refine own_by (fun _ k => XS.imul X5.here hx rfl (hb hby d5_22) rfl k) ?_
    show own_Go _ _ _ _ (T5.setTop (mkF m 23 #[.val (.ref a1), .val (.long q1), .second, .unset, .unset] [(.int ((2 : Int32) * (3 : Int32))), (.ref b1), (.ref a1)]))
    rw [(by decide : ((2 : Int32) * (3 : Int32)) = (6 : Int32))]
    show own_Go _ _ _ _ (T5.setTop (mkF m 23 #[.val (.ref a1), .val (.long q1), .second, .unset, .unset] [(.int (6 : Int32)), (.ref b1), (.ref a1)]))
    obtain ⟨bn, hbn⟩ : ∃ z, z = h0.size := ⟨_, rfl⟩
    have ne_a1 : a1 ≠ bn := Nat.ne_of_lt (Nat.lt_of_lt_of_le PE.lt (Nat.le_of_eq hbn.symm))
    have ne_b1 : b1 ≠ bn := Nat.ne_of_lt (Nat.lt_of_lt_of_le PA.lt (Nat.le_of_eq hbn.symm))
    have gebn : n0 ≤ bn := Nat.le_trans Z0 (Nat.le_of_eq hbn.symm)
    have nwbn : h0.size ≤ bn := Nat.le_trans (Keep.refl h0 [a1, b1]).1 (Nat.le_of_eq hbn.symm)
    refine own_callS X5 hx hZ hown (hw _ (List.mem_of_getElem? (i := 29) rfl)) (hw _ (List.mem_of_getElem? (i := 30) rfl)) (hw _ (List.mem_of_getElem? (i := 31) rfl)) (hw _ (List.mem_of_getElem? (i := 32) rfl)) (by decide) (rm6 l Z a0 hw [] b1 (6 : Int32) 3 6 f h0 n0 Z0 PA (by decide) (by decide) (by decide) (by decide)) e5 (by rw [hml]; rfl) [(.ref b1), (.int (6 : Int32))] [(.ref a1)] rfl (lenOf own_pd4 rfl) rfl 1 (Nat.le_of_eq rfl) (by decide) (by decide) (Nat.le_of_ble_eq_true rfl) (Nat.le_of_ble_eq_true rfl) (hb hby d5_23) ?_
    intro T6 Lc6 v6 X6 hQ6
    obtain ⟨h6, e6⟩ : ∃ h, T6.heap = h := ⟨_, rfl⟩
    rw [e6] at hQ6
    obtain ⟨rfl, N6q, K6, A6⟩ := hQ6
    have N6 := Fr.app N0 N6q
    have f7 := PE.keep K6
    have f8 := PF1.keep K6 nin0
    have f9 := PF2.keep K6 nin0
    have f10 := PA.keep K6 nin0
    have f11 := (Keep.refl h0 [a1, b1]).trans K6 all0
    have Z6 := Nat.le_trans Z0 K6.1
    rw [← hbn] at A6
    obtain ⟨f2, hf2⟩ : ∃ g : Nat → Int64, g = (fun j => if j < 3 then f j else 0) := ⟨_, rfl⟩
    rw [← hf2] at A6
    have hfe : ∀ j, j < 3 → f j = f2 j := fun j hj => by rw [hf2]; simp [hj]
    have HP2 := own_hpc f f2 3 hfe HP
    have hc2 := fun x => own_cntc f f2 x 3 hfe
    show own_Go _ _ _ _ (T6.setTop (mkF m 26 #[.val (.ref a1), .val (.long q1), .second, .unset, .unset] [(.ref h0.size), (.ref a1)]))
    refine own_gen hbn.symm (fun z_ => T6.setTop (mkF m 26 #[.val (.ref a1), .val (.long q1), .second, .unset, .unset] [(.ref z_), (.ref a1)])) ?_
    show own_Go _ _ _ _ (T6.setTop (mkF m 26 #[.val (.ref a1), .val (.long q1), .second, .unset, .unset] [(.ref bn), (.ref a1)]))
    obtain ⟨T12, h12, X12, e12, W12, st12⟩ := putF X6 hx hZ hown (host := "") (Or.inl (hw _ (List.mem_of_getElem? (i := 20) rfl))) Via.refl e6 f8 f7 (Or.inl (hw _ (List.mem_of_getElem? (i := 21) rfl))) (hw _ (List.mem_of_getElem? (i := 8) rfl)) (ty := (.array .long)) (by decide) rfl rfl (g := (mkF m 26 #[.val (.ref a1), .val (.long q1), .second, .unset, .unset] [(.ref bn), (.ref a1)])) rfl rfl (hb hby d5_26)
    refine own_by st12 ?_
    have f13 := f8.same W12
    have f14 := f7.wr W12
    have f15 := f9.other W12 (Or.inr (slot_ne (Or.inl (hw _ (List.mem_of_getElem? (i := 28) rfl))) (Or.inl (hw _ (List.mem_of_getElem? (i := 21) rfl))) (by decide) (t := .int) (t' := (.array .long)) (by decide) (by decide)))
    have f16 := f10.other W12 (Ne.symm hab)
    have f17 := f11.wr W12 (Or.inl (List.mem_of_getElem? (i := 0) rfl))
    have f18 := A6.other W12 (Ne.symm ne_a1)
    have N12 := Fr.snoc X12 N6 Pg1
    have Z12 := own_size_wr W12 Z6
    show own_Go _ _ _ _ (T12.setTop (mkF m 29 #[.val (.ref a1), .val (.long q1), .second, .unset, .unset] []))
    refine own_by (fun _ k => XS.aloadN X12.here hx rfl (hb hby d5_29) rfl rfl k) ?_
    show own_Go _ _ _ _ (T12.setTop (mkF m 30 #[.val (.ref a1), .val (.long q1), .second, .unset, .unset] [(.ref a1)]))
    refine own_by (fun _ k => XS.dup X12.here hx rfl (hb hby d5_30) rfl rfl k) ?_
    show own_Go _ _ _ _ (T12.setTop (mkF m 31 #[.val (.ref a1), .val (.long q1), .second, .unset, .unset] [(.ref a1), (.ref a1)]))
    obtain ⟨T19, X19, e19, st19⟩ := getF X12 hx hZ hown (host := "") (Or.inl (hw _ (List.mem_of_getElem? (i := 27) rfl))) Via.refl e12 f15 (g := (mkF m 31 #[.val (.ref a1), .val (.long q1), .second, .unset, .unset] [(.ref a1), (.ref a1)])) rfl rfl (hb hby d5_31)
    refine own_by st19 ?_
    show own_Go _ _ _ _ (T19.setTop (mkF m 34 #[.val (.ref a1), .val (.long q1), .second, .unset, .unset] [(.int (3 : Int32)), (.ref a1)]))
    refine own_by (fun _ k => XS.dupX1 X19.here hx rfl (hb hby d5_34) rfl rfl rfl k) ?_
    refine own_by (fun _ k => XS.iconst X19.here hx rfl (hb hby d5_35) k) ?_
    show own_Go _ _ _ _ (T19.setTop (mkF m 36 #[.val (.ref a1), .val (.long q1), .second, .unset, .unset] [(.int (1 : Int32)), (.int (3 : Int32)), (.ref a1), (.int (3 : Int32))]))
    refine own_by (fun _ k => XS.iadd X19.here hx rfl (hb hby d5_36) rfl k) ?_
    show own_Go _ _ _ _ (T19.setTop (mkF m 37 #[.val (.ref a1), .val (.long q1), .second, .unset, .unset] [(.int ((3 : Int32) + (1 : Int32))), (.ref a1), (.int (3 : Int32))]))
    rw [(by decide : ((3 : Int32) + (1 : Int32)) = (4 : Int32))]
    show own_Go _ _ _ _ (T19.setTop (mkF m 37 #[.val (.ref a1), .val (.long q1), .second, .unset, .unset] [(.int (4 : Int32)), (.ref a1), (.int (3 : Int32))]))
    obtain ⟨T20, h20, X20, e20, W20, st20⟩ := putF X19 hx hZ hown (host := "") (Or.inl (hw _ (List.mem_of_getElem? (i := 27) rfl))) Via.refl e19 f15 f14 (Or.inl (hw _ (List.mem_of_getElem? (i := 28) rfl))) (hw _ (List.mem_of_getElem? (i := 8) rfl)) (ty := .int) (by decide) rfl rfl (g := (mkF m 37 #[.val (.ref a1), .val (.long q1), .second, .unset, .unset] [(.int (4 : Int32)), (.ref a1), (.int (3 : Int32))])) rfl rfl (hb hby d5_37)
    refine own_by st20 ?_
    have f21 := f15.same W20
    have f22 := f14.wr W20
    have f23 := f13.other W20 (Or.inr (slot_ne (Or.inl (hw _ (List.mem_of_getElem? (i := 21) rfl))) (Or.inl (hw _ (List.mem_of_getElem? (i := 28) rfl))) (by decide) (t := (.array .long)) (t' := .int) (by decide) (by decide)))
    have f24 := f16.other W20 (Ne.symm hab)
    have f25 := f17.wr W20 (Or.inl (List.mem_of_getElem? (i := 0) rfl))
    have f26 := f18.other W20 (Ne.symm ne_a1)
    have N20 := Fr.snoc X20 N12 Pg1
    have Z20 := own_size_wr W20 Z12
    show own_Go _ _ _ _ (T20.setTop (mkF m 40 #[.val (.ref a1), .val (.long q1), .second, .unset, .unset] [(.int (3 : Int32))]))
    refine own_by (fun _ k => XS.istoreN X20.here hx rfl (hb hby d5_40) rfl (l' := #[.val (.ref a1), .val (.long q1), .second, .val (.int (3 : Int32)), .unset]) rfl k) ?_
    refine own_by (fun _ k => XS.iloadN X20.here hx rfl (hb hby d5_41) rfl k) ?_
    show own_Go _ _ _ _ (T20.setTop (mkF m 42 #[.val (.ref a1), .val (.long q1), .second, .val (.int (3 : Int32)), .unset] [(.int (3 : Int32))]))
    refine own_by (fun _ k => XS.ifNo X20.here hx rfl (hb hby d5_42) rfl ((if0 _ _).trans (tlt (by decide)).2.2.2) k) ?_
    refine own_by (fun _ k => XS.iloadN X20.here hx rfl (hb hby d5_45) rfl k) ?_
    refine own_by (fun _ k => XS.iconst X20.here hx rfl (hb hby d5_46) k) ?_
    show own_Go _ _ _ _ (T20.setTop (mkF m 47 #[.val (.ref a1), .val (.long q1), .second, .val (.int (3 : Int32)), .unset] [(.int (1 : Int32)), (.int (3 : Int32))]))
    refine own_by (fun _ k => XS.isub X20.here hx rfl (hb hby d5_47) rfl k) ?_
    show own_Go _ _ _ _ (T20.setTop (mkF m 48 #[.val (.ref a1), .val (.long q1), .second, .val (.int (3 : Int32)), .unset] [(.int ((3 : Int32) - (1 : Int32)))]))
    rw [(by decide : ((3 : Int32) - (1 : Int32)) = (2 : Int32))]
    refine own_by (fun _ k => XS.iconst X20.here hx rfl (hb hby d5_48) k) ?_
    show own_Go _ _ _ _ (T20.setTop (mkF m 49 #[.val (.ref a1), .val (.long q1), .second, .val (.int (3 : Int32)), .unset] [(.int (1 : Int32)), (.int (2 : Int32))]))
    refine own_by (fun _ k => XS.iushr X20.here hx rfl (hb hby d5_49) rfl k) ?_
    show own_Go _ _ _ _ (T20.setTop (mkF m 50 #[.val (.ref a1), .val (.long q1), .second, .val (.int (3 : Int32)), .unset] [(.int (((2 : Int32).toUInt32 >>> ((1 : Int32) &&& 31).toUInt32).toInt32))]))
    rw [(by decide : (((2 : Int32).toUInt32 >>> ((1 : Int32) &&& 31).toUInt32).toInt32) = (1 : Int32))]
    show own_Go _ _ _ _ (T20.setTop (mkF m 50 #[.val (.ref a1), .val (.long q1), .second, .val (.int (3 : Int32)), .unset] [(.int (1 : Int32))]))
    refine own_by (fun _ k => XS.istore X20.here hx rfl (hb hby d5_50) rfl (l' := #[.val (.ref a1), .val (.long q1), .second, .val (.int (3 : Int32)), .val (.int (1 : Int32))]) rfl k) ?_
    refine own_by (fun _ k => XS.aloadN X20.here hx rfl (hb hby d5_52) rfl rfl k) ?_
    show own_Go _ _ _ _ (T20.setTop (mkF m 53 #[.val (.ref a1), .val (.long q1), .second, .val (.int (3 : Int32)), .val (.int (1 : Int32))] [(.ref a1)]))
    obtain ⟨T27, X27, e27, st27⟩ := getF X20 hx hZ hown (host := "") (Or.inl (hw _ (List.mem_of_getElem? (i := 20) rfl))) Via.refl e20 f23 (g := (mkF m 53 #[.val (.ref a1), .val (.long q1), .second, .val (.int (3 : Int32)), .val (.int (1 : Int32))] [(.ref a1)])) rfl rfl (hb hby d5_53)
    refine own_by st27 ?_
    refine own_by (fun _ k => XS.iload X27.here hx rfl (hb hby d5_56) rfl k) ?_
    show own_Go _ _ _ _ (T27.setTop (mkF m 58 #[.val (.ref a1), .val (.long q1), .second, .val (.int (3 : Int32)), .val (.int (1 : Int32))] [(.int (1 : Int32)), (.ref bn)]))
    refine own_by (fun _ k => own_lal X27 hx hZ e27 f26 1 (by decide) (by decide) (hb hby d5_58) k) ?_
    refine own_by (fun _ k => XS.lloadN X27.here hx rfl (hb hby d5_59) rfl k) ?_
    show own_Go _ _ _ _ (T27.setTop (mkF m 60 #[.val (.ref a1), .val (.long q1), .second, .val (.int (3 : Int32)), .val (.int (1 : Int32))] [(.long q1), (.long (f2 1))]))
    refine own_by (fun _ k => XS.lcmp X27.here hx rfl (hb hby d5_60) rfl k) ?_
    show own_Go _ _ _ _ (T27.setTop (mkF m 61 #[.val (.ref a1), .val (.long q1), .second, .val (.int (3 : Int32)), .val (.int (1 : Int32))] [(.int (lcmpW (f2 1) q1))]))
    by_cases hc28 : q1 < (f2 1)
    · --
      refine own_by (fun _ k => XS.ifYes X27.here hx rfl (pc0 := 61) (pc' := 67) rfl (hb hby d5_61) rfl ((if0 _ _).trans (tlt ((lw_gt _ _).mpr hc28)).2.2.1) (by decide) (by decide) k) ?_
      refine own_by (fun _ k => XS.aloadN X27.here hx rfl (hb hby d5_67) rfl rfl k) ?_
      show own_Go _ _ _ _ (T27.setTop (mkF m 68 #[.val (.ref a1), .val (.long q1), .second, .val (.int (3 : Int32)), .val (.int (1 : Int32))] [(.ref a1)]))
      obtain ⟨T29, X29, e29, st29⟩ := getF X27 hx hZ hown (host := "") (Or.inl (hw _ (List.mem_of_getElem? (i := 20) rfl))) Via.refl e27 f23 (g := (mkF m 68 #[.val (.ref a1), .val (.long q1), .second, .val (.int (3 : Int32)), .val (.int (1 : Int32))] [(.ref a1)])) rfl rfl (hb hby d5_68)
      refine own_by st29 ?_
      refine own_by (fun _ k => XS.iloadN X29.here hx rfl (hb hby d5_71) rfl k) ?_
      refine own_by (fun _ k => XS.aloadN X29.here hx rfl (hb hby d5_72) rfl rfl k) ?_
      show own_Go _ _ _ _ (T29.setTop (mkF m 73 #[.val (.ref a1), .val (.long q1), .second, .val (.int (3 : Int32)), .val (.int (1 : Int32))] [(.ref a1), (.int (3 : Int32)), (.ref bn)]))
      obtain ⟨T30, X30, e30, st30⟩ := getF X29 hx hZ hown (host := "") (Or.inl (hw _ (List.mem_of_getElem? (i := 20) rfl))) Via.refl e29 f23 (g := (mkF m 73 #[.val (.ref a1), .val (.long q1), .second, .val (.int (3 : Int32)), .val (.int (1 : Int32))] [(.ref a1), (.int (3 : Int32)), (.ref bn)])) rfl rfl (hb hby d5_73)
      refine own_by st30 ?_
      refine own_by (fun _ k => XS.iload X30.here hx rfl (hb hby d5_76) rfl k) ?_
      show own_Go _ _ _ _ (T30.setTop (mkF m 78 #[.val (.ref a1), .val (.long q1), .second, .val (.int (3 : Int32)), .val (.int (1 : Int32))] [(.int (1 : Int32)), (.ref bn), (.int (3 : Int32)), (.ref bn)]))
      refine own_by (fun _ k => own_lal X30 hx hZ e30 f26 1 (by decide) (by decide) (hb hby d5_78) k) ?_
      show own_Go _ _ _ _ (T30.setTop (mkF m 79 #[.val (.ref a1), .val (.long q1), .second, .val (.int (3 : Int32)), .val (.int (1 : Int32))] [(.long (f2 1)), (.int (3 : Int32)), (.ref bn)]))
      refine own_las X30 hx hZ e30 f26 3 (by decide) (by decide) (hb hby d5_79) ?_
      intro T31 h31 X31 e31 W31 A31
      have f32 := f22.wr W31
      have f33 := f23.other W31 (Or.inl ne_a1)
      have f34 := f21.other W31 (Or.inl ne_a1)
      have f35 := f24.other W31 ne_b1
      have f36 := f25.wr W31 (Or.inr nwbn)
      have N31 := Fr.snoc X31 N20 gebn
      have Z31 := own_size_wr W31 Z20
      obtain ⟨fn31, hfn31⟩ : ∃ g : Nat → Int64, g = own_upd f2 3 (f2 1) := ⟨_, rfl⟩
      rw [← hfn31] at A31
      show own_Go _ _ _ _ (T31.setTop (mkF m 80 #[.val (.ref a1), .val (.long q1), .second, .val (.int (3 : Int32)), .val (.int (1 : Int32))] []))
      refine own_by (fun _ k => XS.iload X31.here hx rfl (hb hby d5_80) rfl k) ?_
      show own_Go _ _ _ _ (T31.setTop (mkF m 82 #[.val (.ref a1), .val (.long q1), .second, .val (.int (3 : Int32)), .val (.int (1 : Int32))] [(.int (1 : Int32))]))
      refine own_by (fun _ k => XS.istoreN X31.here hx rfl (hb hby d5_82) rfl (l' := #[.val (.ref a1), .val (.long q1), .second, .val (.int (1 : Int32)), .val (.int (1 : Int32))]) rfl k) ?_
      show own_Go _ _ _ _ (T31.setTop (mkF m 83 #[.val (.ref a1), .val (.long q1), .second, .val (.int (1 : Int32)), .val (.int (1 : Int32))] []))
      refine own_by (fun _ k => XS.goto X31.here hx rfl (pc0 := 83) (pc' := 41) rfl (hb hby d5_83) (by decide) (by decide) k) ?_
      refine own_by (fun _ k => XS.iloadN X31.here hx rfl (hb hby d5_41) rfl k) ?_
      show own_Go _ _ _ _ (T31.setTop (mkF m 42 #[.val (.ref a1), .val (.long q1), .second, .val (.int (1 : Int32)), .val (.int (1 : Int32))] [(.int (1 : Int32))]))
      refine own_by (fun _ k => XS.ifNo X31.here hx rfl (hb hby d5_42) rfl ((if0 _ _).trans (tlt (by decide)).2.2.2) k) ?_
      refine own_by (fun _ k => XS.iloadN X31.here hx rfl (hb hby d5_45) rfl k) ?_
      refine own_by (fun _ k => XS.iconst X31.here hx rfl (hb hby d5_46) k) ?_
      show own_Go _ _ _ _ (T31.setTop (mkF m 47 #[.val (.ref a1), .val (.long q1), .second, .val (.int (1 : Int32)), .val (.int (1 : Int32))] [(.int (1 : Int32)), (.int (1 : Int32))]))
      refine own_by (fun _ k => XS.isub X31.here hx rfl (hb hby d5_47) rfl k) ?_
      show own_Go _ _ _ _ (T31.setTop (mkF m 48 #[.val (.ref a1), .val (.long q1), .second, .val (.int (1 : Int32)), .val (.int (1 : Int32))] [(.int ((1 : Int32) - (1 : Int32)))]))
      rw [(by decide : ((1 : Int32) - (1 : Int32)) = (0 : Int32))]
      refine own_by (fun _ k => XS.iconst X31.here hx rfl (hb hby d5_48) k) ?_
      show own_Go _ _ _ _ (T31.setTop (mkF m 49 #[.val (.ref a1), .val (.long q1), .second, .val (.int (1 : Int32)), .val (.int (1 : Int32))] [(.int (1 : Int32)), (.int (0 : Int32))]))
      refine own_by (fun _ k => XS.iushr X31.here hx rfl (hb hby d5_49) rfl k) ?_
      show own_Go _ _ _ _ (T31.setTop (mkF m 50 #[.val (.ref a1), .val (.long q1), .second, .val (.int (1 : Int32)), .val (.int (1 : Int32))] [(.int (((0 : Int32).toUInt32 >>> ((1 : Int32) &&& 31).toUInt32).toInt32))]))
      rw [(by decide : (((0 : Int32).toUInt32 >>> ((1 : Int32) &&& 31).toUInt32).toInt32) = (0 : Int32))]
      show own_Go _ _ _ _ (T31.setTop (mkF m 50 #[.val (.ref a1), .val (.long q1), .second, .val (.int (1 : Int32)), .val (.int (1 : Int32))] [(.int (0 : Int32))]))
      refine own_by (fun _ k => XS.istore X31.here hx rfl (hb hby d5_50) rfl (l' := #[.val (.ref a1), .val (.long q1), .second, .val (.int (1 : Int32)), .val (.int (0 : Int32))]) rfl k) ?_
      refine own_by (fun _ k => XS.aloadN X31.here hx rfl (hb hby d5_52) rfl rfl k) ?_
      show own_Go _ _ _ _ (T31.setTop (mkF m 53 #[.val (.ref a1), .val (.long q1), .second, .val (.int (1 : Int32)), .val (.int (0 : Int32))] [(.ref a1)]))
      obtain ⟨T37, X37, e37, st37⟩ := getF X31 hx hZ hown (host := "") (Or.inl (hw _ (List.mem_of_getElem? (i := 20) rfl))) Via.refl e31 f33 (g := (mkF m 53 #[.val (.ref a1), .val (.long q1), .second, .val (.int (1 : Int32)), .val (.int (0 : Int32))] [(.ref a1)])) rfl rfl (hb hby d5_53)
      refine own_by st37 ?_
      refine own_by (fun _ k => XS.iload X37.here hx rfl (hb hby d5_56) rfl k) ?_
      show own_Go _ _ _ _ (T37.setTop (mkF m 58 #[.val (.ref a1), .val (.long q1), .second, .val (.int (1 : Int32)), .val (.int (0 : Int32))] [(.int (0 : Int32)), (.ref bn)]))
      refine own_by (fun _ k => own_lal X37 hx hZ e37 A31 0 (by decide) (by decide) (hb hby d5_58) k) ?_
      show own_Go _ _ _ _ (T37.setTop (mkF m 59 #[.val (.ref a1), .val (.long q1), .second, .val (.int (1 : Int32)), .val (.int (0 : Int32))] [(.long (fn31 0))]))
      rw [show (fn31 0) = (f2 0) from by simp [own_upd, hfn31]]
      refine own_by (fun _ k => XS.lloadN X37.here hx rfl (hb hby d5_59) rfl k) ?_
      show own_Go _ _ _ _ (T37.setTop (mkF m 60 #[.val (.ref a1), .val (.long q1), .second, .val (.int (1 : Int32)), .val (.int (0 : Int32))] [(.long q1), (.long (f2 0))]))
      refine own_by (fun _ k => XS.lcmp X37.here hx rfl (hb hby d5_60) rfl k) ?_
      show own_Go _ _ _ _ (T37.setTop (mkF m 61 #[.val (.ref a1), .val (.long q1), .second, .val (.int (1 : Int32)), .val (.int (0 : Int32))] [(.int (lcmpW (f2 0) q1))]))
      by_cases hc38 : q1 < (f2 0)
      · --
        refine own_by (fun _ k => XS.ifYes X37.here hx rfl (pc0 := 61) (pc' := 67) rfl (hb hby d5_61) rfl ((if0 _ _).trans (tlt ((lw_gt _ _).mpr hc38)).2.2.1) (by decide) (by decide) k) ?_
        refine own_by (fun _ k => XS.aloadN X37.here hx rfl (hb hby d5_67) rfl rfl k) ?_
        show own_Go _ _ _ _ (T37.setTop (mkF m 68 #[.val (.ref a1), .val (.long q1), .second, .val (.int (1 : Int32)), .val (.int (0 : Int32))] [(.ref a1)]))
        obtain ⟨T39, X39, e39, st39⟩ := getF X37 hx hZ hown (host := "") (Or.inl (hw _ (List.mem_of_getElem? (i := 20) rfl))) Via.refl e37 f33 (g := (mkF m 68 #[.val (.ref a1), .val (.long q1), .second, .val (.int (1 : Int32)), .val (.int (0 : Int32))] [(.ref a1)])) rfl rfl (hb hby d5_68)
        refine own_by st39 ?_
        refine own_by (fun _ k => XS.iloadN X39.here hx rfl (hb hby d5_71) rfl k) ?_
        refine own_by (fun _ k => XS.aloadN X39.here hx rfl (hb hby d5_72) rfl rfl k) ?_
        show own_Go _ _ _ _ (T39.setTop (mkF m 73 #[.val (.ref a1), .val (.long q1), .second, .val (.int (1 : Int32)), .val (.int (0 : Int32))] [(.ref a1), (.int (1 : Int32)), (.ref bn)]))
        obtain ⟨T40, X40, e40, st40⟩ := getF X39 hx hZ hown (host := "") (Or.inl (hw _ (List.mem_of_getElem? (i := 20) rfl))) Via.refl e39 f33 (g := (mkF m 73 #[.val (.ref a1), .val (.long q1), .second, .val (.int (1 : Int32)), .val (.int (0 : Int32))] [(.ref a1), (.int (1 : Int32)), (.ref bn)])) rfl rfl (hb hby d5_73)
        refine own_by st40 ?_
        refine own_by (fun _ k => XS.iload X40.here hx rfl (hb hby d5_76) rfl k) ?_
        show own_Go _ _ _ _ (T40.setTop (mkF m 78 #[.val (.ref a1), .val (.long q1), .second, .val (.int (1 : Int32)), .val (.int (0 : Int32))] [(.int (0 : Int32)), (.ref bn), (.int (1 : Int32)), (.ref bn)]))
        refine own_by (fun _ k => own_lal X40 hx hZ e40 A31 0 (by decide) (by decide) (hb hby d5_78) k) ?_
        show own_Go _ _ _ _ (T40.setTop (mkF m 79 #[.val (.ref a1), .val (.long q1), .second, .val (.int (1 : Int32)), .val (.int (0 : Int32))] [(.long (fn31 0)), (.int (1 : Int32)), (.ref bn)]))
        rw [show (fn31 0) = (f2 0) from by simp [own_upd, hfn31]]
        show own_Go _ _ _ _ (T40.setTop (mkF m 79 #[.val (.ref a1), .val (.long q1), .second, .val (.int (1 : Int32)), .val (.int (0 : Int32))] [(.long (f2 0)), (.int (1 : Int32)), (.ref bn)]))
        refine own_las X40 hx hZ e40 A31 1 (by decide) (by decide) (hb hby d5_79) ?_
        intro T41 h41 X41 e41 W41 A41
        have f42 := f32.wr W41
        have f43 := f33.other W41 (Or.inl ne_a1)
        have f44 := f34.other W41 (Or.inl ne_a1)
        have f45 := f35.other W41 ne_b1
        have f46 := f36.wr W41 (Or.inr nwbn)
        have N41 := Fr.snoc X41 N31 gebn
        have Z41 := own_size_wr W41 Z31
        obtain ⟨fn41, hfn41⟩ : ∃ g : Nat → Int64, g = own_upd fn31 1 (f2 0) := ⟨_, rfl⟩
        rw [← hfn41] at A41
        show own_Go _ _ _ _ (T41.setTop (mkF m 80 #[.val (.ref a1), .val (.long q1), .second, .val (.int (1 : Int32)), .val (.int (0 : Int32))] []))
        refine own_by (fun _ k => XS.iload X41.here hx rfl (hb hby d5_80) rfl k) ?_
        show own_Go _ _ _ _ (T41.setTop (mkF m 82 #[.val (.ref a1), .val (.long q1), .second, .val (.int (1 : Int32)), .val (.int (0 : Int32))] [(.int (0 : Int32))]))
        refine own_by (fun _ k => XS.istoreN X41.here hx rfl (hb hby d5_82) rfl (l' := #[.val (.ref a1), .val (.long q1), .second, .val (.int (0 : Int32)), .val (.int (0 : Int32))]) rfl k) ?_
        show own_Go _ _ _ _ (T41.setTop (mkF m 83 #[.val (.ref a1), .val (.long q1), .second, .val (.int (0 : Int32)), .val (.int (0 : Int32))] []))
        refine own_by (fun _ k => XS.goto X41.here hx rfl (pc0 := 83) (pc' := 41) rfl (hb hby d5_83) (by decide) (by decide) k) ?_
        refine own_by (fun _ k => XS.iloadN X41.here hx rfl (hb hby d5_41) rfl k) ?_
        show own_Go _ _ _ _ (T41.setTop (mkF m 42 #[.val (.ref a1), .val (.long q1), .second, .val (.int (0 : Int32)), .val (.int (0 : Int32))] [(.int (0 : Int32))]))
        refine own_by (fun _ k => XS.ifYes X41.here hx rfl (pc0 := 42) (pc' := 86) rfl (hb hby d5_42) rfl ((if0 _ _).trans (flt (by decide)).2.2.2) (by decide) (by decide) k) ?_
        refine own_by (fun _ k => XS.aloadN X41.here hx rfl (hb hby d5_86) rfl rfl k) ?_
        show own_Go _ _ _ _ (T41.setTop (mkF m 87 #[.val (.ref a1), .val (.long q1), .second, .val (.int (0 : Int32)), .val (.int (0 : Int32))] [(.ref a1)]))
        obtain ⟨T47, X47, e47, st47⟩ := getF X41 hx hZ hown (host := "") (Or.inl (hw _ (List.mem_of_getElem? (i := 20) rfl))) Via.refl e41 f43 (g := (mkF m 87 #[.val (.ref a1), .val (.long q1), .second, .val (.int (0 : Int32)), .val (.int (0 : Int32))] [(.ref a1)])) rfl rfl (hb hby d5_87)
        refine own_by st47 ?_
        refine own_by (fun _ k => XS.iloadN X47.here hx rfl (hb hby d5_90) rfl k) ?_
        refine own_by (fun _ k => XS.lloadN X47.here hx rfl (hb hby d5_91) rfl k) ?_
        show own_Go _ _ _ _ (T47.setTop (mkF m 92 #[.val (.ref a1), .val (.long q1), .second, .val (.int (0 : Int32)), .val (.int (0 : Int32))] [(.long q1), (.int (0 : Int32)), (.ref bn)]))
        refine own_las X47 hx hZ e47 A41 0 (by decide) (by decide) (hb hby d5_92) ?_
        intro T48 h48 X48 e48 W48 A48
        have f49 := f42.wr W48
        have f50 := f43.other W48 (Or.inl ne_a1)
        have f51 := f44.other W48 (Or.inl ne_a1)
        have f52 := f45.other W48 ne_b1
        have f53 := f46.wr W48 (Or.inr nwbn)
        have N48 := Fr.snoc X48 N41 gebn
        have Z48 := own_size_wr W48 Z41
        obtain ⟨fn48, hfn48⟩ : ∃ g : Nat → Int64, g = own_upd fn41 0 q1 := ⟨_, rfl⟩
        rw [← hfn48] at A48
        show own_Go _ _ _ _ (T48.setTop (mkF m 93 #[.val (.ref a1), .val (.long q1), .second, .val (.int (0 : Int32)), .val (.int (0 : Int32))] []))
        have hfin : own_hp (fn48) 4 ∧ ∀ x, own_cnt (fn48) x 4 = own_cnt f x 3 + own_one q1 x := by
          simp only [hfn48, hfn41, hfn31]
          simp only [hc2]
          obtain ⟨H1, H2, H3, H4⟩ := HP2
          have hc28' := hc28
          rw [Int64.lt_iff_toInt_lt] at hc28'
          have hc38' := hc38
          rw [Int64.lt_iff_toInt_lt] at hc38'
          refine ⟨⟨fun q => ?_, fun q => ?_, fun q => ?_, fun q => ?_⟩, fun x => ?_⟩
          · first | omega | (simp [own_upd] at *; omega)
          · first | omega | (simp [own_upd] at *; omega)
          · first | omega | (simp [own_upd] at *; omega)
          · first | omega | (simp [own_upd] at *; omega)
          · simp [own_cnt, own_upd]; try omega
        exact own_retV X48 hx Bd.notSynchronized e48 Bd.returns (hb hby d5_93) (⟨rfl, N48, f53, _, 6, _, by decide, by omega, f50, f51, A48, gebn, Or.inr nwbn, hfin.1, hfin.2⟩) (by decide) (by decide)
      · --
        refine own_by (fun _ k => XS.ifNo X37.here hx rfl (hb hby d5_61) rfl ((if0 _ _).trans (flt (mt (lw_gt _ _).mp hc38)).2.2.1) k) ?_
        show own_Go _ _ _ _ (T37.setTop (mkF m 64 #[.val (.ref a1), .val (.long q1), .second, .val (.int (1 : Int32)), .val (.int (0 : Int32))] []))
        refine own_by (fun _ k => XS.goto X37.here hx rfl (pc0 := 64) (pc' := 86) rfl (hb hby d5_64) (by decide) (by decide) k) ?_
        refine own_by (fun _ k => XS.aloadN X37.here hx rfl (hb hby d5_86) rfl rfl k) ?_
        show own_Go _ _ _ _ (T37.setTop (mkF m 87 #[.val (.ref a1), .val (.long q1), .second, .val (.int (1 : Int32)), .val (.int (0 : Int32))] [(.ref a1)]))
        obtain ⟨T54, X54, e54, st54⟩ := getF X37 hx hZ hown (host := "") (Or.inl (hw _ (List.mem_of_getElem? (i := 20) rfl))) Via.refl e37 f33 (g := (mkF m 87 #[.val (.ref a1), .val (.long q1), .second, .val (.int (1 : Int32)), .val (.int (0 : Int32))] [(.ref a1)])) rfl rfl (hb hby d5_87)
        refine own_by st54 ?_
        refine own_by (fun _ k => XS.iloadN X54.here hx rfl (hb hby d5_90) rfl k) ?_
        refine own_by (fun _ k => XS.lloadN X54.here hx rfl (hb hby d5_91) rfl k) ?_
        show own_Go _ _ _ _ (T54.setTop (mkF m 92 #[.val (.ref a1), .val (.long q1), .second, .val (.int (1 : Int32)), .val (.int (0 : Int32))] [(.long q1), (.int (1 : Int32)), (.ref bn)]))
        refine own_las X54 hx hZ e54 A31 1 (by decide) (by decide) (hb hby d5_92) ?_
        intro T55 h55 X55 e55 W55 A55
        have f56 := f32.wr W55
        have f57 := f33.other W55 (Or.inl ne_a1)
        have f58 := f34.other W55 (Or.inl ne_a1)
        have f59 := f35.other W55 ne_b1
        have f60 := f36.wr W55 (Or.inr nwbn)
        have N55 := Fr.snoc X55 N31 gebn
        have Z55 := own_size_wr W55 Z31
        obtain ⟨fn55, hfn55⟩ : ∃ g : Nat → Int64, g = own_upd fn31 1 q1 := ⟨_, rfl⟩
        rw [← hfn55] at A55
        show own_Go _ _ _ _ (T55.setTop (mkF m 93 #[.val (.ref a1), .val (.long q1), .second, .val (.int (1 : Int32)), .val (.int (0 : Int32))] []))
        have hfin : own_hp (fn55) 4 ∧ ∀ x, own_cnt (fn55) x 4 = own_cnt f x 3 + own_one q1 x := by
          simp only [hfn55, hfn31]
          simp only [hc2]
          obtain ⟨H1, H2, H3, H4⟩ := HP2
          have hc28' := hc28
          rw [Int64.lt_iff_toInt_lt] at hc28'
          have hc38' := hc38
          rw [Int64.lt_iff_toInt_lt] at hc38'
          refine ⟨⟨fun q => ?_, fun q => ?_, fun q => ?_, fun q => ?_⟩, fun x => ?_⟩
          · first | omega | (simp [own_upd] at *; omega)
          · first | omega | (simp [own_upd] at *; omega)
          · first | omega | (simp [own_upd] at *; omega)
          · first | omega | (simp [own_upd] at *; omega)
          · simp [own_cnt, own_upd]; try omega
        exact own_retV X55 hx Bd.notSynchronized e55 Bd.returns (hb hby d5_93) (⟨rfl, N55, f60, _, 6, _, by decide, by omega, f57, f58, A55, gebn, Or.inr nwbn, hfin.1, hfin.2⟩) (by decide) (by decide)
    · --
      refine own_by (fun _ k => XS.ifNo X27.here hx rfl (hb hby d5_61) rfl ((if0 _ _).trans (flt (mt (lw_gt _ _).mp hc28)).2.2.1) k) ?_
      show own_Go _ _ _ _ (T27.setTop (mkF m 64 #[.val (.ref a1), .val (.long q1), .second, .val (.int (3 : Int32)), .val (.int (1 : Int32))] []))
      refine own_by (fun _ k => XS.goto X27.here hx rfl (pc0 := 64) (pc' := 86) rfl (hb hby d5_64) (by decide) (by decide) k) ?_
      refine own_by (fun _ k => XS.aloadN X27.here hx rfl (hb hby d5_86) rfl rfl k) ?_
      show own_Go _ _ _ _ (T27.setTop (mkF m 87 #[.val (.ref a1), .val (.long q1), .second, .val (.int (3 : Int32)), .val (.int (1 : Int32))] [(.ref a1)]))
      obtain ⟨T61, X61, e61, st61⟩ := getF X27 hx hZ hown (host := "") (Or.inl (hw _ (List.mem_of_getElem? (i := 20) rfl))) Via.refl e27 f23 (g := (mkF m 87 #[.val (.ref a1), .val (.long q1), .second, .val (.int (3 : Int32)), .val (.int (1 : Int32))] [(.ref a1)])) rfl rfl (hb hby d5_87)
      refine own_by st61 ?_
      refine own_by (fun _ k => XS.iloadN X61.here hx rfl (hb hby d5_90) rfl k) ?_
      refine own_by (fun _ k => XS.lloadN X61.here hx rfl (hb hby d5_91) rfl k) ?_
      show own_Go _ _ _ _ (T61.setTop (mkF m 92 #[.val (.ref a1), .val (.long q1), .second, .val (.int (3 : Int32)), .val (.int (1 : Int32))] [(.long q1), (.int (3 : Int32)), (.ref bn)]))
      refine own_las X61 hx hZ e61 f26 3 (by decide) (by decide) (hb hby d5_92) ?_
      intro T62 h62 X62 e62 W62 A62
      have f63 := f22.wr W62
      have f64 := f23.other W62 (Or.inl ne_a1)
      have f65 := f21.other W62 (Or.inl ne_a1)
      have f66 := f24.other W62 ne_b1
      have f67 := f25.wr W62 (Or.inr nwbn)
      have N62 := Fr.snoc X62 N20 gebn
      have Z62 := own_size_wr W62 Z20
      obtain ⟨fn62, hfn62⟩ : ∃ g : Nat → Int64, g = own_upd f2 3 q1 := ⟨_, rfl⟩
      rw [← hfn62] at A62
      show own_Go _ _ _ _ (T62.setTop (mkF m 93 #[.val (.ref a1), .val (.long q1), .second, .val (.int (3 : Int32)), .val (.int (1 : Int32))] []))
      have hfin : own_hp (fn62) 4 ∧ ∀ x, own_cnt (fn62) x 4 = own_cnt f x 3 + own_one q1 x := by
        simp only [hfn62]
        simp only [hc2]
        obtain ⟨H1, H2, H3, H4⟩ := HP2
        have hc28' := hc28
        rw [Int64.lt_iff_toInt_lt] at hc28'
        refine ⟨⟨fun q => ?_, fun q => ?_, fun q => ?_, fun q => ?_⟩, fun x => ?_⟩
        · first | omega | (simp [own_upd] at *; omega)
        · first | omega | (simp [own_upd] at *; omega)
        · first | omega | (simp [own_upd] at *; omega)
        · first | omega | (simp [own_upd] at *; omega)
        · simp [own_cnt, own_upd]; try omega
      exact own_retV X62 hx Bd.notSynchronized e62 Bd.returns (hb hby d5_93) (⟨rfl, N62, f67, _, 6, _, by decide, by omega, f64, f65, A62, gebn, Or.inr nwbn, hfin.1, hfin.2⟩) (by decide) (by decide)
  · --
    have hnk : 3 + 1 ≤ n := by have q' : ¬ zn.toInt = 3 := fun q => hc3 (Int32.toInt_inj.mp (by rw [q]; decide)); omega
    refine own_by (fun _ k => XS.icmpYes X2.here hx rfl (pc0 := 9) (pc' := 29) rfl (hb hby d5_9) rfl (feq hc3).2 (by decide) (by decide) k) ?_
    refine own_by (fun _ k => XS.aloadN X2.here hx rfl (hb hby d5_29) rfl rfl k) ?_
    show own_Go _ _ _ _ (T2.setTop (mkF m 30 #[.val (.ref a1), .val (.long q1), .second, .unset, .unset] [(.ref a1)]))
    refine own_by (fun _ k => XS.dup X2.here hx rfl (hb hby d5_30) rfl rfl k) ?_
    show own_Go _ _ _ _ (T2.setTop (mkF m 31 #[.val (.ref a1), .val (.long q1), .second, .unset, .unset] [(.ref a1), (.ref a1)]))
    obtain ⟨T68, X68, e68, st68⟩ := getF X2 hx hZ hown (host := "") (Or.inl (hw _ (List.mem_of_getElem? (i := 27) rfl))) Via.refl e2 PF2 (g := (mkF m 31 #[.val (.ref a1), .val (.long q1), .second, .unset, .unset] [(.ref a1), (.ref a1)])) rfl rfl (hb hby d5_31)
    refine own_by st68 ?_
    show own_Go _ _ _ _ (T68.setTop (mkF m 34 #[.val (.ref a1), .val (.long q1), .second, .unset, .unset] [(.int (3 : Int32)), (.ref a1)]))
    refine own_by (fun _ k => XS.dupX1 X68.here hx rfl (hb hby d5_34) rfl rfl rfl k) ?_
    refine own_by (fun _ k => XS.iconst X68.here hx rfl (hb hby d5_35) k) ?_
    show own_Go _ _ _ _ (T68.setTop (mkF m 36 #[.val (.ref a1), .val (.long q1), .second, .unset, .unset] [(.int (1 : Int32)), (.int (3 : Int32)), (.ref a1), (.int (3 : Int32))]))
    refine own_by (fun _ k => XS.iadd X68.here hx rfl (hb hby d5_36) rfl k) ?_
    show own_Go _ _ _ _ (T68.setTop (mkF m 37 #[.val (.ref a1), .val (.long q1), .second, .unset, .unset] [(.int ((3 : Int32) + (1 : Int32))), (.ref a1), (.int (3 : Int32))]))
    rw [(by decide : ((3 : Int32) + (1 : Int32)) = (4 : Int32))]
    show own_Go _ _ _ _ (T68.setTop (mkF m 37 #[.val (.ref a1), .val (.long q1), .second, .unset, .unset] [(.int (4 : Int32)), (.ref a1), (.int (3 : Int32))]))
    obtain ⟨T69, h69, X69, e69, W69, st69⟩ := putF X68 hx hZ hown (host := "") (Or.inl (hw _ (List.mem_of_getElem? (i := 27) rfl))) Via.refl e68 PF2 PE (Or.inl (hw _ (List.mem_of_getElem? (i := 28) rfl))) (hw _ (List.mem_of_getElem? (i := 8) rfl)) (ty := .int) (by decide) rfl rfl (g := (mkF m 37 #[.val (.ref a1), .val (.long q1), .second, .unset, .unset] [(.int (4 : Int32)), (.ref a1), (.int (3 : Int32))])) rfl rfl (hb hby d5_37)
    refine own_by st69 ?_
    have f70 := PF2.same W69
    have f71 := PE.wr W69
    have f72 := PF1.other W69 (Or.inr (slot_ne (Or.inl (hw _ (List.mem_of_getElem? (i := 21) rfl))) (Or.inl (hw _ (List.mem_of_getElem? (i := 28) rfl))) (by decide) (t := (.array .long)) (t' := .int) (by decide) (by decide)))
    have f73 := PA.other W69 (Ne.symm hab)
    have f74 := (Keep.refl h0 [a1, b1]).wr W69 (Or.inl (List.mem_of_getElem? (i := 0) rfl))
    have N69 := Fr.snoc X69 N0 Pg1
    have Z69 := own_size_wr W69 Z0
    show own_Go _ _ _ _ (T69.setTop (mkF m 40 #[.val (.ref a1), .val (.long q1), .second, .unset, .unset] [(.int (3 : Int32))]))
    refine own_by (fun _ k => XS.istoreN X69.here hx rfl (hb hby d5_40) rfl (l' := #[.val (.ref a1), .val (.long q1), .second, .val (.int (3 : Int32)), .unset]) rfl k) ?_
    refine own_by (fun _ k => XS.iloadN X69.here hx rfl (hb hby d5_41) rfl k) ?_
    show own_Go _ _ _ _ (T69.setTop (mkF m 42 #[.val (.ref a1), .val (.long q1), .second, .val (.int (3 : Int32)), .unset] [(.int (3 : Int32))]))
    refine own_by (fun _ k => XS.ifNo X69.here hx rfl (hb hby d5_42) rfl ((if0 _ _).trans (tlt (by decide)).2.2.2) k) ?_
    refine own_by (fun _ k => XS.iloadN X69.here hx rfl (hb hby d5_45) rfl k) ?_
    refine own_by (fun _ k => XS.iconst X69.here hx rfl (hb hby d5_46) k) ?_
    show own_Go _ _ _ _ (T69.setTop (mkF m 47 #[.val (.ref a1), .val (.long q1), .second, .val (.int (3 : Int32)), .unset] [(.int (1 : Int32)), (.int (3 : Int32))]))
    refine own_by (fun _ k => XS.isub X69.here hx rfl (hb hby d5_47) rfl k) ?_
    show own_Go _ _ _ _ (T69.setTop (mkF m 48 #[.val (.ref a1), .val (.long q1), .second, .val (.int (3 : Int32)), .unset] [(.int ((3 : Int32) - (1 : Int32)))]))
    rw [(by decide : ((3 : Int32) - (1 : Int32)) = (2 : Int32))]
    refine own_by (fun _ k => XS.iconst X69.here hx rfl (hb hby d5_48) k) ?_
    show own_Go _ _ _ _ (T69.setTop (mkF m 49 #[.val (.ref a1), .val (.long q1), .second, .val (.int (3 : Int32)), .unset] [(.int (1 : Int32)), (.int (2 : Int32))]))
    refine own_by (fun _ k => XS.iushr X69.here hx rfl (hb hby d5_49) rfl k) ?_
    show own_Go _ _ _ _ (T69.setTop (mkF m 50 #[.val (.ref a1), .val (.long q1), .second, .val (.int (3 : Int32)), .unset] [(.int (((2 : Int32).toUInt32 >>> ((1 : Int32) &&& 31).toUInt32).toInt32))]))
    rw [(by decide : (((2 : Int32).toUInt32 >>> ((1 : Int32) &&& 31).toUInt32).toInt32) = (1 : Int32))]
    show own_Go _ _ _ _ (T69.setTop (mkF m 50 #[.val (.ref a1), .val (.long q1), .second, .val (.int (3 : Int32)), .unset] [(.int (1 : Int32))]))
    refine own_by (fun _ k => XS.istore X69.here hx rfl (hb hby d5_50) rfl (l' := #[.val (.ref a1), .val (.long q1), .second, .val (.int (3 : Int32)), .val (.int (1 : Int32))]) rfl k) ?_
    refine own_by (fun _ k => XS.aloadN X69.here hx rfl (hb hby d5_52) rfl rfl k) ?_
    show own_Go _ _ _ _ (T69.setTop (mkF m 53 #[.val (.ref a1), .val (.long q1), .second, .val (.int (3 : Int32)), .val (.int (1 : Int32))] [(.ref a1)]))
    obtain ⟨T75, X75, e75, st75⟩ := getF X69 hx hZ hown (host := "") (Or.inl (hw _ (List.mem_of_getElem? (i := 20) rfl))) Via.refl e69 f72 (g := (mkF m 53 #[.val (.ref a1), .val (.long q1), .second, .val (.int (3 : Int32)), .val (.int (1 : Int32))] [(.ref a1)])) rfl rfl (hb hby d5_53)
    refine own_by st75 ?_
    refine own_by (fun _ k => XS.iload X75.here hx rfl (hb hby d5_56) rfl k) ?_
    show own_Go _ _ _ _ (T75.setTop (mkF m 58 #[.val (.ref a1), .val (.long q1), .second, .val (.int (3 : Int32)), .val (.int (1 : Int32))] [(.int (1 : Int32)), (.ref b1)]))
    refine own_by (fun _ k => own_lal X75 hx hZ e75 f73 1 (by decide) (by omega) (hb hby d5_58) k) ?_
    refine own_by (fun _ k => XS.lloadN X75.here hx rfl (hb hby d5_59) rfl k) ?_
    show own_Go _ _ _ _ (T75.setTop (mkF m 60 #[.val (.ref a1), .val (.long q1), .second, .val (.int (3 : Int32)), .val (.int (1 : Int32))] [(.long q1), (.long (f 1))]))
    refine own_by (fun _ k => XS.lcmp X75.here hx rfl (hb hby d5_60) rfl k) ?_
    show own_Go _ _ _ _ (T75.setTop (mkF m 61 #[.val (.ref a1), .val (.long q1), .second, .val (.int (3 : Int32)), .val (.int (1 : Int32))] [(.int (lcmpW (f 1) q1))]))
    by_cases hc76 : q1 < (f 1)
    · --
      refine own_by (fun _ k => XS.ifYes X75.here hx rfl (pc0 := 61) (pc' := 67) rfl (hb hby d5_61) rfl ((if0 _ _).trans (tlt ((lw_gt _ _).mpr hc76)).2.2.1) (by decide) (by decide) k) ?_
      refine own_by (fun _ k => XS.aloadN X75.here hx rfl (hb hby d5_67) rfl rfl k) ?_
      show own_Go _ _ _ _ (T75.setTop (mkF m 68 #[.val (.ref a1), .val (.long q1), .second, .val (.int (3 : Int32)), .val (.int (1 : Int32))] [(.ref a1)]))
      obtain ⟨T77, X77, e77, st77⟩ := getF X75 hx hZ hown (host := "") (Or.inl (hw _ (List.mem_of_getElem? (i := 20) rfl))) Via.refl e75 f72 (g := (mkF m 68 #[.val (.ref a1), .val (.long q1), .second, .val (.int (3 : Int32)), .val (.int (1 : Int32))] [(.ref a1)])) rfl rfl (hb hby d5_68)
      refine own_by st77 ?_
      refine own_by (fun _ k => XS.iloadN X77.here hx rfl (hb hby d5_71) rfl k) ?_
      refine own_by (fun _ k => XS.aloadN X77.here hx rfl (hb hby d5_72) rfl rfl k) ?_
      show own_Go _ _ _ _ (T77.setTop (mkF m 73 #[.val (.ref a1), .val (.long q1), .second, .val (.int (3 : Int32)), .val (.int (1 : Int32))] [(.ref a1), (.int (3 : Int32)), (.ref b1)]))
      obtain ⟨T78, X78, e78, st78⟩ := getF X77 hx hZ hown (host := "") (Or.inl (hw _ (List.mem_of_getElem? (i := 20) rfl))) Via.refl e77 f72 (g := (mkF m 73 #[.val (.ref a1), .val (.long q1), .second, .val (.int (3 : Int32)), .val (.int (1 : Int32))] [(.ref a1), (.int (3 : Int32)), (.ref b1)])) rfl rfl (hb hby d5_73)
      refine own_by st78 ?_
      refine own_by (fun _ k => XS.iload X78.here hx rfl (hb hby d5_76) rfl k) ?_
      show own_Go _ _ _ _ (T78.setTop (mkF m 78 #[.val (.ref a1), .val (.long q1), .second, .val (.int (3 : Int32)), .val (.int (1 : Int32))] [(.int (1 : Int32)), (.ref b1), (.int (3 : Int32)), (.ref b1)]))
      refine own_by (fun _ k => own_lal X78 hx hZ e78 f73 1 (by decide) (by omega) (hb hby d5_78) k) ?_
      show own_Go _ _ _ _ (T78.setTop (mkF m 79 #[.val (.ref a1), .val (.long q1), .second, .val (.int (3 : Int32)), .val (.int (1 : Int32))] [(.long (f 1)), (.int (3 : Int32)), (.ref b1)]))
      refine own_las X78 hx hZ e78 f73 3 (by decide) (by omega) (hb hby d5_79) ?_
      intro T79 h79 X79 e79 W79 A79
      have f80 := f71.wr W79
      have f81 := f72.other W79 (Or.inl hab)
      have f82 := f70.other W79 (Or.inl hab)
      have f83 := f74.wr W79 (Or.inl (List.mem_of_getElem? (i := 1) rfl))
      have N79 := Fr.snoc X79 N69 Pg2
      have Z79 := own_size_wr W79 Z69
      obtain ⟨fn79, hfn79⟩ : ∃ g : Nat → Int64, g = own_upd f 3 (f 1) := ⟨_, rfl⟩
      rw [← hfn79] at A79
      show own_Go _ _ _ _ (T79.setTop (mkF m 80 #[.val (.ref a1), .val (.long q1), .second, .val (.int (3 : Int32)), .val (.int (1 : Int32))] []))
      refine own_by (fun _ k => XS.iload X79.here hx rfl (hb hby d5_80) rfl k) ?_
      show own_Go _ _ _ _ (T79.setTop (mkF m 82 #[.val (.ref a1), .val (.long q1), .second, .val (.int (3 : Int32)), .val (.int (1 : Int32))] [(.int (1 : Int32))]))
      refine own_by (fun _ k => XS.istoreN X79.here hx rfl (hb hby d5_82) rfl (l' := #[.val (.ref a1), .val (.long q1), .second, .val (.int (1 : Int32)), .val (.int (1 : Int32))]) rfl k) ?_
      show own_Go _ _ _ _ (T79.setTop (mkF m 83 #[.val (.ref a1), .val (.long q1), .second, .val (.int (1 : Int32)), .val (.int (1 : Int32))] []))
      refine own_by (fun _ k => XS.goto X79.here hx rfl (pc0 := 83) (pc' := 41) rfl (hb hby d5_83) (by decide) (by decide) k) ?_
      refine own_by (fun _ k => XS.iloadN X79.here hx rfl (hb hby d5_41) rfl k) ?_
      show own_Go _ _ _ _ (T79.setTop (mkF m 42 #[.val (.ref a1), .val (.long q1), .second, .val (.int (1 : Int32)), .val (.int (1 : Int32))] [(.int (1 : Int32))]))
      refine own_by (fun _ k => XS.ifNo X79.here hx rfl (hb hby d5_42) rfl ((if0 _ _).trans (tlt (by decide)).2.2.2) k) ?_
      refine own_by (fun _ k => XS.iloadN X79.here hx rfl (hb hby d5_45) rfl k) ?_
      refine own_by (fun _ k => XS.iconst X79.here hx rfl (hb hby d5_46) k) ?_
      show own_Go _ _ _ _ (T79.setTop (mkF m 47 #[.val (.ref a1), .val (.long q1), .second, .val (.int (1 : Int32)), .val (.int (1 : Int32))] [(.int (1 : Int32)), (.int (1 : Int32))]))
      refine own_by (fun _ k => XS.isub X79.here hx rfl (hb hby d5_47) rfl k) ?_
      show own_Go _ _ _ _ (T79.setTop (mkF m 48 #[.val (.ref a1), .val (.long q1), .second, .val (.int (1 : Int32)), .val (.int (1 : Int32))] [(.int ((1 : Int32) - (1 : Int32)))]))
      rw [(by decide : ((1 : Int32) - (1 : Int32)) = (0 : Int32))]
      refine own_by (fun _ k => XS.iconst X79.here hx rfl (hb hby d5_48) k) ?_
      show own_Go _ _ _ _ (T79.setTop (mkF m 49 #[.val (.ref a1), .val (.long q1), .second, .val (.int (1 : Int32)), .val (.int (1 : Int32))] [(.int (1 : Int32)), (.int (0 : Int32))]))
      refine own_by (fun _ k => XS.iushr X79.here hx rfl (hb hby d5_49) rfl k) ?_
      show own_Go _ _ _ _ (T79.setTop (mkF m 50 #[.val (.ref a1), .val (.long q1), .second, .val (.int (1 : Int32)), .val (.int (1 : Int32))] [(.int (((0 : Int32).toUInt32 >>> ((1 : Int32) &&& 31).toUInt32).toInt32))]))
      rw [(by decide : (((0 : Int32).toUInt32 >>> ((1 : Int32) &&& 31).toUInt32).toInt32) = (0 : Int32))]
      show own_Go _ _ _ _ (T79.setTop (mkF m 50 #[.val (.ref a1), .val (.long q1), .second, .val (.int (1 : Int32)), .val (.int (1 : Int32))] [(.int (0 : Int32))]))
      refine own_by (fun _ k => XS.istore X79.here hx rfl (hb hby d5_50) rfl (l' := #[.val (.ref a1), .val (.long q1), .second, .val (.int (1 : Int32)), .val (.int (0 : Int32))]) rfl k) ?_
      refine own_by (fun _ k => XS.aloadN X79.here hx rfl (hb hby d5_52) rfl rfl k) ?_
      show own_Go _ _ _ _ (T79.setTop (mkF m 53 #[.val (.ref a1), .val (.long q1), .second, .val (.int (1 : Int32)), .val (.int (0 : Int32))] [(.ref a1)]))
      obtain ⟨T84, X84, e84, st84⟩ := getF X79 hx hZ hown (host := "") (Or.inl (hw _ (List.mem_of_getElem? (i := 20) rfl))) Via.refl e79 f81 (g := (mkF m 53 #[.val (.ref a1), .val (.long q1), .second, .val (.int (1 : Int32)), .val (.int (0 : Int32))] [(.ref a1)])) rfl rfl (hb hby d5_53)
      refine own_by st84 ?_
      refine own_by (fun _ k => XS.iload X84.here hx rfl (hb hby d5_56) rfl k) ?_
      show own_Go _ _ _ _ (T84.setTop (mkF m 58 #[.val (.ref a1), .val (.long q1), .second, .val (.int (1 : Int32)), .val (.int (0 : Int32))] [(.int (0 : Int32)), (.ref b1)]))
      refine own_by (fun _ k => own_lal X84 hx hZ e84 A79 0 (by decide) (by omega) (hb hby d5_58) k) ?_
      show own_Go _ _ _ _ (T84.setTop (mkF m 59 #[.val (.ref a1), .val (.long q1), .second, .val (.int (1 : Int32)), .val (.int (0 : Int32))] [(.long (fn79 0))]))
      rw [show (fn79 0) = (f 0) from by simp [own_upd, hfn79]]
      refine own_by (fun _ k => XS.lloadN X84.here hx rfl (hb hby d5_59) rfl k) ?_
      show own_Go _ _ _ _ (T84.setTop (mkF m 60 #[.val (.ref a1), .val (.long q1), .second, .val (.int (1 : Int32)), .val (.int (0 : Int32))] [(.long q1), (.long (f 0))]))
      refine own_by (fun _ k => XS.lcmp X84.here hx rfl (hb hby d5_60) rfl k) ?_
      show own_Go _ _ _ _ (T84.setTop (mkF m 61 #[.val (.ref a1), .val (.long q1), .second, .val (.int (1 : Int32)), .val (.int (0 : Int32))] [(.int (lcmpW (f 0) q1))]))
      by_cases hc85 : q1 < (f 0)
      · --
        refine own_by (fun _ k => XS.ifYes X84.here hx rfl (pc0 := 61) (pc' := 67) rfl (hb hby d5_61) rfl ((if0 _ _).trans (tlt ((lw_gt _ _).mpr hc85)).2.2.1) (by decide) (by decide) k) ?_
        refine own_by (fun _ k => XS.aloadN X84.here hx rfl (hb hby d5_67) rfl rfl k) ?_
        show own_Go _ _ _ _ (T84.setTop (mkF m 68 #[.val (.ref a1), .val (.long q1), .second, .val (.int (1 : Int32)), .val (.int (0 : Int32))] [(.ref a1)]))
        obtain ⟨T86, X86, e86, st86⟩ := getF X84 hx hZ hown (host := "") (Or.inl (hw _ (List.mem_of_getElem? (i := 20) rfl))) Via.refl e84 f81 (g := (mkF m 68 #[.val (.ref a1), .val (.long q1), .second, .val (.int (1 : Int32)), .val (.int (0 : Int32))] [(.ref a1)])) rfl rfl (hb hby d5_68)
        refine own_by st86 ?_
        refine own_by (fun _ k => XS.iloadN X86.here hx rfl (hb hby d5_71) rfl k) ?_
        refine own_by (fun _ k => XS.aloadN X86.here hx rfl (hb hby d5_72) rfl rfl k) ?_
        show own_Go _ _ _ _ (T86.setTop (mkF m 73 #[.val (.ref a1), .val (.long q1), .second, .val (.int (1 : Int32)), .val (.int (0 : Int32))] [(.ref a1), (.int (1 : Int32)), (.ref b1)]))
        obtain ⟨T87, X87, e87, st87⟩ := getF X86 hx hZ hown (host := "") (Or.inl (hw _ (List.mem_of_getElem? (i := 20) rfl))) Via.refl e86 f81 (g := (mkF m 73 #[.val (.ref a1), .val (.long q1), .second, .val (.int (1 : Int32)), .val (.int (0 : Int32))] [(.ref a1), (.int (1 : Int32)), (.ref b1)])) rfl rfl (hb hby d5_73)
        refine own_by st87 ?_
        refine own_by (fun _ k => XS.iload X87.here hx rfl (hb hby d5_76) rfl k) ?_
        show own_Go _ _ _ _ (T87.setTop (mkF m 78 #[.val (.ref a1), .val (.long q1), .second, .val (.int (1 : Int32)), .val (.int (0 : Int32))] [(.int (0 : Int32)), (.ref b1), (.int (1 : Int32)), (.ref b1)]))
        refine own_by (fun _ k => own_lal X87 hx hZ e87 A79 0 (by decide) (by omega) (hb hby d5_78) k) ?_
        show own_Go _ _ _ _ (T87.setTop (mkF m 79 #[.val (.ref a1), .val (.long q1), .second, .val (.int (1 : Int32)), .val (.int (0 : Int32))] [(.long (fn79 0)), (.int (1 : Int32)), (.ref b1)]))
        rw [show (fn79 0) = (f 0) from by simp [own_upd, hfn79]]
        show own_Go _ _ _ _ (T87.setTop (mkF m 79 #[.val (.ref a1), .val (.long q1), .second, .val (.int (1 : Int32)), .val (.int (0 : Int32))] [(.long (f 0)), (.int (1 : Int32)), (.ref b1)]))
        refine own_las X87 hx hZ e87 A79 1 (by decide) (by omega) (hb hby d5_79) ?_
        intro T88 h88 X88 e88 W88 A88
        have f89 := f80.wr W88
        have f90 := f81.other W88 (Or.inl hab)
        have f91 := f82.other W88 (Or.inl hab)
        have f92 := f83.wr W88 (Or.inl (List.mem_of_getElem? (i := 1) rfl))
        have N88 := Fr.snoc X88 N79 Pg2
        have Z88 := own_size_wr W88 Z79
        obtain ⟨fn88, hfn88⟩ : ∃ g : Nat → Int64, g = own_upd fn79 1 (f 0) := ⟨_, rfl⟩
        rw [← hfn88] at A88
        show own_Go _ _ _ _ (T88.setTop (mkF m 80 #[.val (.ref a1), .val (.long q1), .second, .val (.int (1 : Int32)), .val (.int (0 : Int32))] []))
        refine own_by (fun _ k => XS.iload X88.here hx rfl (hb hby d5_80) rfl k) ?_
        show own_Go _ _ _ _ (T88.setTop (mkF m 82 #[.val (.ref a1), .val (.long q1), .second, .val (.int (1 : Int32)), .val (.int (0 : Int32))] [(.int (0 : Int32))]))
        refine own_by (fun _ k => XS.istoreN X88.here hx rfl (hb hby d5_82) rfl (l' := #[.val (.ref a1), .val (.long q1), .second, .val (.int (0 : Int32)), .val (.int (0 : Int32))]) rfl k) ?_
        show own_Go _ _ _ _ (T88.setTop (mkF m 83 #[.val (.ref a1), .val (.long q1), .second, .val (.int (0 : Int32)), .val (.int (0 : Int32))] []))
        refine own_by (fun _ k => XS.goto X88.here hx rfl (pc0 := 83) (pc' := 41) rfl (hb hby d5_83) (by decide) (by decide) k) ?_
        refine own_by (fun _ k => XS.iloadN X88.here hx rfl (hb hby d5_41) rfl k) ?_
        show own_Go _ _ _ _ (T88.setTop (mkF m 42 #[.val (.ref a1), .val (.long q1), .second, .val (.int (0 : Int32)), .val (.int (0 : Int32))] [(.int (0 : Int32))]))
        refine own_by (fun _ k => XS.ifYes X88.here hx rfl (pc0 := 42) (pc' := 86) rfl (hb hby d5_42) rfl ((if0 _ _).trans (flt (by decide)).2.2.2) (by decide) (by decide) k) ?_
        refine own_by (fun _ k => XS.aloadN X88.here hx rfl (hb hby d5_86) rfl rfl k) ?_
        show own_Go _ _ _ _ (T88.setTop (mkF m 87 #[.val (.ref a1), .val (.long q1), .second, .val (.int (0 : Int32)), .val (.int (0 : Int32))] [(.ref a1)]))
        obtain ⟨T93, X93, e93, st93⟩ := getF X88 hx hZ hown (host := "") (Or.inl (hw _ (List.mem_of_getElem? (i := 20) rfl))) Via.refl e88 f90 (g := (mkF m 87 #[.val (.ref a1), .val (.long q1), .second, .val (.int (0 : Int32)), .val (.int (0 : Int32))] [(.ref a1)])) rfl rfl (hb hby d5_87)
        refine own_by st93 ?_
        refine own_by (fun _ k => XS.iloadN X93.here hx rfl (hb hby d5_90) rfl k) ?_
        refine own_by (fun _ k => XS.lloadN X93.here hx rfl (hb hby d5_91) rfl k) ?_
        show own_Go _ _ _ _ (T93.setTop (mkF m 92 #[.val (.ref a1), .val (.long q1), .second, .val (.int (0 : Int32)), .val (.int (0 : Int32))] [(.long q1), (.int (0 : Int32)), (.ref b1)]))
        refine own_las X93 hx hZ e93 A88 0 (by decide) (by omega) (hb hby d5_92) ?_
        intro T94 h94 X94 e94 W94 A94
        have f95 := f89.wr W94
        have f96 := f90.other W94 (Or.inl hab)
        have f97 := f91.other W94 (Or.inl hab)
        have f98 := f92.wr W94 (Or.inl (List.mem_of_getElem? (i := 1) rfl))
        have N94 := Fr.snoc X94 N88 Pg2
        have Z94 := own_size_wr W94 Z88
        obtain ⟨fn94, hfn94⟩ : ∃ g : Nat → Int64, g = own_upd fn88 0 q1 := ⟨_, rfl⟩
        rw [← hfn94] at A94
        show own_Go _ _ _ _ (T94.setTop (mkF m 93 #[.val (.ref a1), .val (.long q1), .second, .val (.int (0 : Int32)), .val (.int (0 : Int32))] []))
        have hfin : own_hp (fn94) 4 ∧ ∀ x, own_cnt (fn94) x 4 = own_cnt f x 3 + own_one q1 x := by
          simp only [hfn94, hfn88, hfn79]
          obtain ⟨H1, H2, H3, H4⟩ := HP
          have hc76' := hc76
          rw [Int64.lt_iff_toInt_lt] at hc76'
          have hc85' := hc85
          rw [Int64.lt_iff_toInt_lt] at hc85'
          refine ⟨⟨fun q => ?_, fun q => ?_, fun q => ?_, fun q => ?_⟩, fun x => ?_⟩
          · first | omega | (simp [own_upd] at *; omega)
          · first | omega | (simp [own_upd] at *; omega)
          · first | omega | (simp [own_upd] at *; omega)
          · first | omega | (simp [own_upd] at *; omega)
          · simp [own_cnt, own_upd]; try omega
        exact own_retV X94 hx Bd.notSynchronized e94 Bd.returns (hb hby d5_93) (⟨rfl, N94, f98, _, n, _, by omega, by omega, f96, f97, A94, Pg2, Or.inl rfl, hfin.1, hfin.2⟩) (by decide) (by decide)
      · --
        refine own_by (fun _ k => XS.ifNo X84.here hx rfl (hb hby d5_61) rfl ((if0 _ _).trans (flt (mt (lw_gt _ _).mp hc85)).2.2.1) k) ?_
        show own_Go _ _ _ _ (T84.setTop (mkF m 64 #[.val (.ref a1), .val (.long q1), .second, .val (.int (1 : Int32)), .val (.int (0 : Int32))] []))
        refine own_by (fun _ k => XS.goto X84.here hx rfl (pc0 := 64) (pc' := 86) rfl (hb hby d5_64) (by decide) (by decide) k) ?_
        refine own_by (fun _ k => XS.aloadN X84.here hx rfl (hb hby d5_86) rfl rfl k) ?_
        show own_Go _ _ _ _ (T84.setTop (mkF m 87 #[.val (.ref a1), .val (.long q1), .second, .val (.int (1 : Int32)), .val (.int (0 : Int32))] [(.ref a1)]))
        obtain ⟨T99, X99, e99, st99⟩ := getF X84 hx hZ hown (host := "") (Or.inl (hw _ (List.mem_of_getElem? (i := 20) rfl))) Via.refl e84 f81 (g := (mkF m 87 #[.val (.ref a1), .val (.long q1), .second, .val (.int (1 : Int32)), .val (.int (0 : Int32))] [(.ref a1)])) rfl rfl (hb hby d5_87)
        refine own_by st99 ?_
        refine own_by (fun _ k => XS.iloadN X99.here hx rfl (hb hby d5_90) rfl k) ?_
        refine own_by (fun _ k => XS.lloadN X99.here hx rfl (hb hby d5_91) rfl k) ?_
        show own_Go _ _ _ _ (T99.setTop (mkF m 92 #[.val (.ref a1), .val (.long q1), .second, .val (.int (1 : Int32)), .val (.int (0 : Int32))] [(.long q1), (.int (1 : Int32)), (.ref b1)]))
        refine own_las X99 hx hZ e99 A79 1 (by decide) (by omega) (hb hby d5_92) ?_
        intro T100 h100 X100 e100 W100 A100
        have f101 := f80.wr W100
        have f102 := f81.other W100 (Or.inl hab)
        have f103 := f82.other W100 (Or.inl hab)
        have f104 := f83.wr W100 (Or.inl (List.mem_of_getElem? (i := 1) rfl))
        have N100 := Fr.snoc X100 N79 Pg2
        have Z100 := own_size_wr W100 Z79
        obtain ⟨fn100, hfn100⟩ : ∃ g : Nat → Int64, g = own_upd fn79 1 q1 := ⟨_, rfl⟩
        rw [← hfn100] at A100
        show own_Go _ _ _ _ (T100.setTop (mkF m 93 #[.val (.ref a1), .val (.long q1), .second, .val (.int (1 : Int32)), .val (.int (0 : Int32))] []))
        have hfin : own_hp (fn100) 4 ∧ ∀ x, own_cnt (fn100) x 4 = own_cnt f x 3 + own_one q1 x := by
          simp only [hfn100, hfn79]
          obtain ⟨H1, H2, H3, H4⟩ := HP
          have hc76' := hc76
          rw [Int64.lt_iff_toInt_lt] at hc76'
          have hc85' := hc85
          rw [Int64.lt_iff_toInt_lt] at hc85'
          refine ⟨⟨fun q => ?_, fun q => ?_, fun q => ?_, fun q => ?_⟩, fun x => ?_⟩
          · first | omega | (simp [own_upd] at *; omega)
          · first | omega | (simp [own_upd] at *; omega)
          · first | omega | (simp [own_upd] at *; omega)
          · first | omega | (simp [own_upd] at *; omega)
          · simp [own_cnt, own_upd]; try omega
        exact own_retV X100 hx Bd.notSynchronized e100 Bd.returns (hb hby d5_93) (⟨rfl, N100, f104, _, n, _, by omega, by omega, f102, f103, A100, Pg2, Or.inl rfl, hfin.1, hfin.2⟩) (by decide) (by decide)
    · --
      refine own_by (fun _ k => XS.ifNo X75.here hx rfl (hb hby d5_61) rfl ((if0 _ _).trans (flt (mt (lw_gt _ _).mp hc76)).2.2.1) k) ?_
      show own_Go _ _ _ _ (T75.setTop (mkF m 64 #[.val (.ref a1), .val (.long q1), .second, .val (.int (3 : Int32)), .val (.int (1 : Int32))] []))
      refine own_by (fun _ k => XS.goto X75.here hx rfl (pc0 := 64) (pc' := 86) rfl (hb hby d5_64) (by decide) (by decide) k) ?_
      refine own_by (fun _ k => XS.aloadN X75.here hx rfl (hb hby d5_86) rfl rfl k) ?_
      show own_Go _ _ _ _ (T75.setTop (mkF m 87 #[.val (.ref a1), .val (.long q1), .second, .val (.int (3 : Int32)), .val (.int (1 : Int32))] [(.ref a1)]))
      obtain ⟨T105, X105, e105, st105⟩ := getF X75 hx hZ hown (host := "") (Or.inl (hw _ (List.mem_of_getElem? (i := 20) rfl))) Via.refl e75 f72 (g := (mkF m 87 #[.val (.ref a1), .val (.long q1), .second, .val (.int (3 : Int32)), .val (.int (1 : Int32))] [(.ref a1)])) rfl rfl (hb hby d5_87)
      refine own_by st105 ?_
      refine own_by (fun _ k => XS.iloadN X105.here hx rfl (hb hby d5_90) rfl k) ?_
      refine own_by (fun _ k => XS.lloadN X105.here hx rfl (hb hby d5_91) rfl k) ?_
      show own_Go _ _ _ _ (T105.setTop (mkF m 92 #[.val (.ref a1), .val (.long q1), .second, .val (.int (3 : Int32)), .val (.int (1 : Int32))] [(.long q1), (.int (3 : Int32)), (.ref b1)]))
      refine own_las X105 hx hZ e105 f73 3 (by decide) (by omega) (hb hby d5_92) ?_
      intro T106 h106 X106 e106 W106 A106
      have f107 := f71.wr W106
      have f108 := f72.other W106 (Or.inl hab)
      have f109 := f70.other W106 (Or.inl hab)
      have f110 := f74.wr W106 (Or.inl (List.mem_of_getElem? (i := 1) rfl))
      have N106 := Fr.snoc X106 N69 Pg2
      have Z106 := own_size_wr W106 Z69
      obtain ⟨fn106, hfn106⟩ : ∃ g : Nat → Int64, g = own_upd f 3 q1 := ⟨_, rfl⟩
      rw [← hfn106] at A106
      show own_Go _ _ _ _ (T106.setTop (mkF m 93 #[.val (.ref a1), .val (.long q1), .second, .val (.int (3 : Int32)), .val (.int (1 : Int32))] []))
      have hfin : own_hp (fn106) 4 ∧ ∀ x, own_cnt (fn106) x 4 = own_cnt f x 3 + own_one q1 x := by
        simp only [hfn106]
        obtain ⟨H1, H2, H3, H4⟩ := HP
        have hc76' := hc76
        rw [Int64.lt_iff_toInt_lt] at hc76'
        refine ⟨⟨fun q => ?_, fun q => ?_, fun q => ?_, fun q => ?_⟩, fun x => ?_⟩
        · first | omega | (simp [own_upd] at *; omega)
        · first | omega | (simp [own_upd] at *; omega)
        · first | omega | (simp [own_upd] at *; omega)
        · first | omega | (simp [own_upd] at *; omega)
        · simp [own_cnt, own_upd]; try omega
      exact own_retV X106 hx Bd.notSynchronized e106 Bd.returns (hb hby d5_93) (⟨rfl, N106, f110, _, n, _, by omega, by omega, f108, f109, A106, Pg2, Or.inl rfl, hfin.1, hfin.2⟩) (by decide) (by decide)
set_option maxRecDepth 65536 in
set_option maxHeartbeats 40000000 in
theorem rm5_4 (l : Launch) (Z : State) (a0 : Array Value) (hw : ∀ d ∈ tables_1, d.before a0 Z = true) (ws : List Jvm.Cond) (a1 : Addr) (q1 : Int64) (b1 : Addr) (n : Nat) (f : Nat → Int64) (h0 : Heap) (n0 : Nat) (Z0 : n0 ≤ h0.size) (PE : Exa Z h0 a1 "com/example/libmakespan/libmakespan/planners/LongHeap") (PF1 : Fld Z h0 a1 "com/example/libmakespan/libmakespan/planners/LongHeap" "values" "[J" (.ref b1)) (PF2 : Fld Z h0 a1 "com/example/libmakespan/libmakespan/planners/LongHeap" "size" "I" (.int (4 : Int32))) (PA : own_AJ Z h0 b1 n f) (Pg1 : n0 ≤ a1) (Pg2 : n0 ≤ b1) (hab : a1 ≠ b1) (hkn : 4 ≤ n) (hn8 : n ≤ 8) (HP : own_hp f 4) :
    MetFree l (⟨"com/example/libmakespan/libmakespan/planners/LongHeap", "add", "(J)V"⟩ : MethodName) (head1 (Jvm.Cond.code (⟨"com/example/libmakespan/libmakespan/planners/LongHeap", "add", "(J)V"⟩ : MethodName) prog_91_method_4_code 5 none :: ws) ({ frames := 2, cells := 1, slots := 8, locals := 75 } : Room)) (fun a U => a = #[(.ref a1), (.long q1)] ∧ Z.Warmed39 U.vm ∧ U.heap = h0) (fun _ _ _ _ _ => True) (fun _ U o U' => ∃ vv LL, o = .returned vv ∧ own_ap (fun v h L => v = none ∧ Fr n0 L ∧ Keep h0 h [a1, b1] ∧ ∃ (b : Addr) (n' : Nat) (f' : Nat → Int64), 5 ≤ n' ∧ n' ≤ 8 ∧ Fld Z h a1 "com/example/libmakespan/libmakespan/planners/LongHeap" "values" "[J" (.ref b) ∧ Fld Z h a1 "com/example/libmakespan/libmakespan/planners/LongHeap" "size" "I" (.int (5 : Int32)) ∧ own_AJ Z h b n' f' ∧ n0 ≤ b ∧ (b = b1 ∨ h0.size ≤ b) ∧ own_hp f' 5 ∧ ∀ x, own_cnt f' x 5 = own_cnt f x 4 + own_one q1 x) vv U'.heap LL ∧ FrameEnd U o U' LL 1 8) := by
  refine MetFree.of_bodySF (plainFor_of_name pn_5) hisR ?_
  intro p e s m args below meth c s₁ Bd hml0 hP hK
  obtain ⟨rfl, hZ, hh⟩ := hP
  have hx := Bd.exec
  have hby := Bd.bytes
  have hml : c.maxLocals = 5 := hml0
  have hown : s.vm.findClass "com/example/libmakespan/libmakespan/planners/LongHeap" = some m.cls := findClass_of_methodNamed Bd.named
  have hnm := (name_of_methodNamed Bd.named Bd.method).1
  have X0 : Stand p l e ({ frames := 2, cells := 1, slots := 8, locals := 75 } : Room) s m #[(.ref a1), (.long q1)] below meth c s₁ [] 0 0 := Stand.of_body Bd
  have e0 : s₁.heap = h0 := by rw [← hh, Bd.state]; rfl
  have N0 := Fr.nil n0
  show own_Go p.tables e below (own_Q s (fun v h L => v = none ∧ Fr n0 L ∧ Keep h0 h [a1, b1] ∧ ∃ (b : Addr) (n' : Nat) (f' : Nat → Int64), 5 ≤ n' ∧ n' ≤ 8 ∧ Fld Z h a1 "com/example/libmakespan/libmakespan/planners/LongHeap" "values" "[J" (.ref b) ∧ Fld Z h a1 "com/example/libmakespan/libmakespan/planners/LongHeap" "size" "I" (.int (5 : Int32)) ∧ own_AJ Z h b n' f' ∧ n0 ≤ b ∧ (b = b1 ∨ h0.size ≤ b) ∧ own_hp f' 5 ∧ ∀ x, own_cnt f' x 5 = own_cnt f x 4 + own_one q1 x) 1 8) (s₁.setTop (entryFrame m #[(.ref a1), (.long q1)] 5))
  rw [show entryFrame m #[(.ref a1), (.long q1)] 5 = mkF m 0 #[.val (.ref a1), .val (.long q1), .second, .unset, .unset] [] from by first | (simp [entryFrame, mkF, argsToLocals, Value.category]; done) | rfl]
  obtain ⟨zn, hznE, hzn⟩ : ∃ z : Int32, z = n.toInt32 ∧ z.toInt = (n : Int) := ⟨n.toInt32, rfl, own_ofN (by omega)⟩
  show own_Go _ _ _ _ (s₁.setTop (mkF m 0 #[.val (.ref a1), .val (.long q1), .second, .unset, .unset] []))
  refine own_by (fun _ k => XS.aloadN X0.here hx rfl (hb hby d5_0) rfl rfl k) ?_
  show own_Go _ _ _ _ (s₁.setTop (mkF m 1 #[.val (.ref a1), .val (.long q1), .second, .unset, .unset] [(.ref a1)]))
  obtain ⟨T1, X1, e1, st1⟩ := getF X0 hx hZ hown (host := "") (Or.inl (hw _ (List.mem_of_getElem? (i := 27) rfl))) Via.refl e0 PF2 (g := (mkF m 1 #[.val (.ref a1), .val (.long q1), .second, .unset, .unset] [(.ref a1)])) rfl rfl (hb hby d5_1)
  refine own_by st1 ?_
  refine own_by (fun _ k => XS.aloadN X1.here hx rfl (hb hby d5_4) rfl rfl k) ?_
  show own_Go _ _ _ _ (T1.setTop (mkF m 5 #[.val (.ref a1), .val (.long q1), .second, .unset, .unset] [(.ref a1), (.int (4 : Int32))]))
  obtain ⟨T2, X2, e2, st2⟩ := getF X1 hx hZ hown (host := "") (Or.inl (hw _ (List.mem_of_getElem? (i := 20) rfl))) Via.refl e1 PF1 (g := (mkF m 5 #[.val (.ref a1), .val (.long q1), .second, .unset, .unset] [(.ref a1), (.int (4 : Int32))])) rfl rfl (hb hby d5_5)
  refine own_by st2 ?_
  show own_Go _ _ _ _ (T2.setTop (mkF m 8 #[.val (.ref a1), .val (.long q1), .second, .unset, .unset] [(.ref b1), (.int (4 : Int32))]))
  refine own_by (fun _ k => own_len X2 hx hZ e2 PA zn hznE (hb hby d5_8) k) ?_
  show own_Go _ _ _ _ (T2.setTop (mkF m 9 #[.val (.ref a1), .val (.long q1), .second, .unset, .unset] [(.int zn), (.int (4 : Int32))]))
  by_cases hc3 : (4 : Int32) = zn
  · --
    have hnk : n = 4 := by have q' := congrArg Int32.toInt hc3; rw [hzn, (by decide : (4 : Int32).toInt = 4)] at q'; omega
    subst hnk
    refine own_by (fun _ k => XS.icmpNo X2.here hx rfl (hb hby d5_9) rfl (teq hc3).2 k) ?_
    refine own_by (fun _ k => XS.aloadN X2.here hx rfl (hb hby d5_12) rfl rfl k) ?_
    refine own_by (fun _ k => XS.aloadN X2.here hx rfl (hb hby d5_13) rfl rfl k) ?_
    show own_Go _ _ _ _ (T2.setTop (mkF m 14 #[.val (.ref a1), .val (.long q1), .second, .unset, .unset] [(.ref a1), (.ref a1)]))
    obtain ⟨T4, X4, e4, st4⟩ := getF X2 hx hZ hown (host := "") (Or.inl (hw _ (List.mem_of_getElem? (i := 20) rfl))) Via.refl e2 PF1 (g := (mkF m 14 #[.val (.ref a1), .val (.long q1), .second, .unset, .unset] [(.ref a1), (.ref a1)])) rfl rfl (hb hby d5_14)
    refine own_by st4 ?_
    refine own_by (fun _ k => XS.iconst X4.here hx rfl (hb hby d5_17) k) ?_
    refine own_by (fun _ k => XS.aloadN X4.here hx rfl (hb hby d5_18) rfl rfl k) ?_
    show own_Go _ _ _ _ (T4.setTop (mkF m 19 #[.val (.ref a1), .val (.long q1), .second, .unset, .unset] [(.ref a1), (.int (2 : Int32)), (.ref b1), (.ref a1)]))
    obtain ⟨T5, X5, e5, st5⟩ := getF X4 hx hZ hown (host := "") (Or.inl (hw _ (List.mem_of_getElem? (i := 27) rfl))) Via.refl e4 PF2 (g := (mkF m 19 #[.val (.ref a1), .val (.long q1), .second, .unset, .unset] [(.ref a1), (.int (2 : Int32)), (.ref b1), (.ref a1)])) rfl rfl (hb hby d5_19)
    refine own_by st5 ?_
    show own_Go _ _ _ _ (T5.setTop (mkF m 22 #[.val (.ref a1), .val (.long q1), .second, .unset, .unset] [(.int (4 : Int32)), (.int (2 : Int32)), (.ref b1), (.ref a1)]))
    refine own_by (fun _ k => XS.imul X5.here hx rfl (hb hby d5_22) rfl k) ?_
    show own_Go _ _ _ _ (T5.setTop (mkF m 23 #[.val (.ref a1), .val (.long q1), .second, .unset, .unset] [(.int ((2 : Int32) * (4 : Int32))), (.ref b1), (.ref a1)]))
    rw [(by decide : ((2 : Int32) * (4 : Int32)) = (8 : Int32))]
    show own_Go _ _ _ _ (T5.setTop (mkF m 23 #[.val (.ref a1), .val (.long q1), .second, .unset, .unset] [(.int (8 : Int32)), (.ref b1), (.ref a1)]))
    obtain ⟨bn, hbn⟩ : ∃ z, z = h0.size := ⟨_, rfl⟩
    have ne_a1 : a1 ≠ bn := Nat.ne_of_lt (Nat.lt_of_lt_of_le PE.lt (Nat.le_of_eq hbn.symm))
    have ne_b1 : b1 ≠ bn := Nat.ne_of_lt (Nat.lt_of_lt_of_le PA.lt (Nat.le_of_eq hbn.symm))
    have gebn : n0 ≤ bn := Nat.le_trans Z0 (Nat.le_of_eq hbn.symm)
    have nwbn : h0.size ≤ bn := Nat.le_trans (Keep.refl h0 [a1, b1]).1 (Nat.le_of_eq hbn.symm)
    refine own_callS X5 hx hZ hown (hw _ (List.mem_of_getElem? (i := 29) rfl)) (hw _ (List.mem_of_getElem? (i := 30) rfl)) (hw _ (List.mem_of_getElem? (i := 31) rfl)) (hw _ (List.mem_of_getElem? (i := 32) rfl)) (by decide) (rm6 l Z a0 hw [] b1 (8 : Int32) 4 8 f h0 n0 Z0 PA (by decide) (by decide) (by decide) (by decide)) e5 (by rw [hml]; rfl) [(.ref b1), (.int (8 : Int32))] [(.ref a1)] rfl (lenOf own_pd4 rfl) rfl 1 (Nat.le_of_eq rfl) (by decide) (by decide) (Nat.le_of_ble_eq_true rfl) (Nat.le_of_ble_eq_true rfl) (hb hby d5_23) ?_
    intro T6 Lc6 v6 X6 hQ6
    obtain ⟨h6, e6⟩ : ∃ h, T6.heap = h := ⟨_, rfl⟩
    rw [e6] at hQ6
    obtain ⟨rfl, N6q, K6, A6⟩ := hQ6
    have N6 := Fr.app N0 N6q
    have f7 := PE.keep K6
    have f8 := PF1.keep K6 nin0
    have f9 := PF2.keep K6 nin0
    have f10 := PA.keep K6 nin0
    have f11 := (Keep.refl h0 [a1, b1]).trans K6 all0
    have Z6 := Nat.le_trans Z0 K6.1
    rw [← hbn] at A6
    obtain ⟨f2, hf2⟩ : ∃ g : Nat → Int64, g = (fun j => if j < 4 then f j else 0) := ⟨_, rfl⟩
    rw [← hf2] at A6
    have hfe : ∀ j, j < 4 → f j = f2 j := fun j hj => by rw [hf2]; simp [hj]
    have HP2 := own_hpc f f2 4 hfe HP
    have hc2 := fun x => own_cntc f f2 x 4 hfe
    show own_Go _ _ _ _ (T6.setTop (mkF m 26 #[.val (.ref a1), .val (.long q1), .second, .unset, .unset] [(.ref h0.size), (.ref a1)]))
    refine own_gen hbn.symm (fun z_ => T6.setTop (mkF m 26 #[.val (.ref a1), .val (.long q1), .second, .unset, .unset] [(.ref z_), (.ref a1)])) ?_
    show own_Go _ _ _ _ (T6.setTop (mkF m 26 #[.val (.ref a1), .val (.long q1), .second, .unset, .unset] [(.ref bn), (.ref a1)]))
    obtain ⟨T12, h12, X12, e12, W12, st12⟩ := putF X6 hx hZ hown (host := "") (Or.inl (hw _ (List.mem_of_getElem? (i := 20) rfl))) Via.refl e6 f8 f7 (Or.inl (hw _ (List.mem_of_getElem? (i := 21) rfl))) (hw _ (List.mem_of_getElem? (i := 8) rfl)) (ty := (.array .long)) (by decide) rfl rfl (g := (mkF m 26 #[.val (.ref a1), .val (.long q1), .second, .unset, .unset] [(.ref bn), (.ref a1)])) rfl rfl (hb hby d5_26)
    refine own_by st12 ?_
    have f13 := f8.same W12
    have f14 := f7.wr W12
    have f15 := f9.other W12 (Or.inr (slot_ne (Or.inl (hw _ (List.mem_of_getElem? (i := 28) rfl))) (Or.inl (hw _ (List.mem_of_getElem? (i := 21) rfl))) (by decide) (t := .int) (t' := (.array .long)) (by decide) (by decide)))
    have f16 := f10.other W12 (Ne.symm hab)
    have f17 := f11.wr W12 (Or.inl (List.mem_of_getElem? (i := 0) rfl))
    have f18 := A6.other W12 (Ne.symm ne_a1)
    have N12 := Fr.snoc X12 N6 Pg1
    have Z12 := own_size_wr W12 Z6
    show own_Go _ _ _ _ (T12.setTop (mkF m 29 #[.val (.ref a1), .val (.long q1), .second, .unset, .unset] []))
    refine own_by (fun _ k => XS.aloadN X12.here hx rfl (hb hby d5_29) rfl rfl k) ?_
    show own_Go _ _ _ _ (T12.setTop (mkF m 30 #[.val (.ref a1), .val (.long q1), .second, .unset, .unset] [(.ref a1)]))
    refine own_by (fun _ k => XS.dup X12.here hx rfl (hb hby d5_30) rfl rfl k) ?_
    show own_Go _ _ _ _ (T12.setTop (mkF m 31 #[.val (.ref a1), .val (.long q1), .second, .unset, .unset] [(.ref a1), (.ref a1)]))
    obtain ⟨T19, X19, e19, st19⟩ := getF X12 hx hZ hown (host := "") (Or.inl (hw _ (List.mem_of_getElem? (i := 27) rfl))) Via.refl e12 f15 (g := (mkF m 31 #[.val (.ref a1), .val (.long q1), .second, .unset, .unset] [(.ref a1), (.ref a1)])) rfl rfl (hb hby d5_31)
    refine own_by st19 ?_
    show own_Go _ _ _ _ (T19.setTop (mkF m 34 #[.val (.ref a1), .val (.long q1), .second, .unset, .unset] [(.int (4 : Int32)), (.ref a1)]))
    refine own_by (fun _ k => XS.dupX1 X19.here hx rfl (hb hby d5_34) rfl rfl rfl k) ?_
    refine own_by (fun _ k => XS.iconst X19.here hx rfl (hb hby d5_35) k) ?_
    show own_Go _ _ _ _ (T19.setTop (mkF m 36 #[.val (.ref a1), .val (.long q1), .second, .unset, .unset] [(.int (1 : Int32)), (.int (4 : Int32)), (.ref a1), (.int (4 : Int32))]))
    refine own_by (fun _ k => XS.iadd X19.here hx rfl (hb hby d5_36) rfl k) ?_
    show own_Go _ _ _ _ (T19.setTop (mkF m 37 #[.val (.ref a1), .val (.long q1), .second, .unset, .unset] [(.int ((4 : Int32) + (1 : Int32))), (.ref a1), (.int (4 : Int32))]))
    rw [(by decide : ((4 : Int32) + (1 : Int32)) = (5 : Int32))]
    show own_Go _ _ _ _ (T19.setTop (mkF m 37 #[.val (.ref a1), .val (.long q1), .second, .unset, .unset] [(.int (5 : Int32)), (.ref a1), (.int (4 : Int32))]))
    obtain ⟨T20, h20, X20, e20, W20, st20⟩ := putF X19 hx hZ hown (host := "") (Or.inl (hw _ (List.mem_of_getElem? (i := 27) rfl))) Via.refl e19 f15 f14 (Or.inl (hw _ (List.mem_of_getElem? (i := 28) rfl))) (hw _ (List.mem_of_getElem? (i := 8) rfl)) (ty := .int) (by decide) rfl rfl (g := (mkF m 37 #[.val (.ref a1), .val (.long q1), .second, .unset, .unset] [(.int (5 : Int32)), (.ref a1), (.int (4 : Int32))])) rfl rfl (hb hby d5_37)
    refine own_by st20 ?_
    have f21 := f15.same W20
    have f22 := f14.wr W20
    have f23 := f13.other W20 (Or.inr (slot_ne (Or.inl (hw _ (List.mem_of_getElem? (i := 21) rfl))) (Or.inl (hw _ (List.mem_of_getElem? (i := 28) rfl))) (by decide) (t := (.array .long)) (t' := .int) (by decide) (by decide)))
    have f24 := f16.other W20 (Ne.symm hab)
    have f25 := f17.wr W20 (Or.inl (List.mem_of_getElem? (i := 0) rfl))
    have f26 := f18.other W20 (Ne.symm ne_a1)
    have N20 := Fr.snoc X20 N12 Pg1
    have Z20 := own_size_wr W20 Z12
    show own_Go _ _ _ _ (T20.setTop (mkF m 40 #[.val (.ref a1), .val (.long q1), .second, .unset, .unset] [(.int (4 : Int32))]))
    refine own_by (fun _ k => XS.istoreN X20.here hx rfl (hb hby d5_40) rfl (l' := #[.val (.ref a1), .val (.long q1), .second, .val (.int (4 : Int32)), .unset]) rfl k) ?_
    refine own_by (fun _ k => XS.iloadN X20.here hx rfl (hb hby d5_41) rfl k) ?_
    show own_Go _ _ _ _ (T20.setTop (mkF m 42 #[.val (.ref a1), .val (.long q1), .second, .val (.int (4 : Int32)), .unset] [(.int (4 : Int32))]))
    refine own_by (fun _ k => XS.ifNo X20.here hx rfl (hb hby d5_42) rfl ((if0 _ _).trans (tlt (by decide)).2.2.2) k) ?_
    refine own_by (fun _ k => XS.iloadN X20.here hx rfl (hb hby d5_45) rfl k) ?_
    refine own_by (fun _ k => XS.iconst X20.here hx rfl (hb hby d5_46) k) ?_
    show own_Go _ _ _ _ (T20.setTop (mkF m 47 #[.val (.ref a1), .val (.long q1), .second, .val (.int (4 : Int32)), .unset] [(.int (1 : Int32)), (.int (4 : Int32))]))
    refine own_by (fun _ k => XS.isub X20.here hx rfl (hb hby d5_47) rfl k) ?_
    show own_Go _ _ _ _ (T20.setTop (mkF m 48 #[.val (.ref a1), .val (.long q1), .second, .val (.int (4 : Int32)), .unset] [(.int ((4 : Int32) - (1 : Int32)))]))
    rw [(by decide : ((4 : Int32) - (1 : Int32)) = (3 : Int32))]
    refine own_by (fun _ k => XS.iconst X20.here hx rfl (hb hby d5_48) k) ?_
    show own_Go _ _ _ _ (T20.setTop (mkF m 49 #[.val (.ref a1), .val (.long q1), .second, .val (.int (4 : Int32)), .unset] [(.int (1 : Int32)), (.int (3 : Int32))]))
    refine own_by (fun _ k => XS.iushr X20.here hx rfl (hb hby d5_49) rfl k) ?_
    show own_Go _ _ _ _ (T20.setTop (mkF m 50 #[.val (.ref a1), .val (.long q1), .second, .val (.int (4 : Int32)), .unset] [(.int (((3 : Int32).toUInt32 >>> ((1 : Int32) &&& 31).toUInt32).toInt32))]))
    rw [(by decide : (((3 : Int32).toUInt32 >>> ((1 : Int32) &&& 31).toUInt32).toInt32) = (1 : Int32))]
    show own_Go _ _ _ _ (T20.setTop (mkF m 50 #[.val (.ref a1), .val (.long q1), .second, .val (.int (4 : Int32)), .unset] [(.int (1 : Int32))]))
    refine own_by (fun _ k => XS.istore X20.here hx rfl (hb hby d5_50) rfl (l' := #[.val (.ref a1), .val (.long q1), .second, .val (.int (4 : Int32)), .val (.int (1 : Int32))]) rfl k) ?_
    refine own_by (fun _ k => XS.aloadN X20.here hx rfl (hb hby d5_52) rfl rfl k) ?_
    show own_Go _ _ _ _ (T20.setTop (mkF m 53 #[.val (.ref a1), .val (.long q1), .second, .val (.int (4 : Int32)), .val (.int (1 : Int32))] [(.ref a1)]))
    obtain ⟨T27, X27, e27, st27⟩ := getF X20 hx hZ hown (host := "") (Or.inl (hw _ (List.mem_of_getElem? (i := 20) rfl))) Via.refl e20 f23 (g := (mkF m 53 #[.val (.ref a1), .val (.long q1), .second, .val (.int (4 : Int32)), .val (.int (1 : Int32))] [(.ref a1)])) rfl rfl (hb hby d5_53)
    refine own_by st27 ?_
    refine own_by (fun _ k => XS.iload X27.here hx rfl (hb hby d5_56) rfl k) ?_
    show own_Go _ _ _ _ (T27.setTop (mkF m 58 #[.val (.ref a1), .val (.long q1), .second, .val (.int (4 : Int32)), .val (.int (1 : Int32))] [(.int (1 : Int32)), (.ref bn)]))
    refine own_by (fun _ k => own_lal X27 hx hZ e27 f26 1 (by decide) (by decide) (hb hby d5_58) k) ?_
    refine own_by (fun _ k => XS.lloadN X27.here hx rfl (hb hby d5_59) rfl k) ?_
    show own_Go _ _ _ _ (T27.setTop (mkF m 60 #[.val (.ref a1), .val (.long q1), .second, .val (.int (4 : Int32)), .val (.int (1 : Int32))] [(.long q1), (.long (f2 1))]))
    refine own_by (fun _ k => XS.lcmp X27.here hx rfl (hb hby d5_60) rfl k) ?_
    show own_Go _ _ _ _ (T27.setTop (mkF m 61 #[.val (.ref a1), .val (.long q1), .second, .val (.int (4 : Int32)), .val (.int (1 : Int32))] [(.int (lcmpW (f2 1) q1))]))
    by_cases hc28 : q1 < (f2 1)
    · --
      refine own_by (fun _ k => XS.ifYes X27.here hx rfl (pc0 := 61) (pc' := 67) rfl (hb hby d5_61) rfl ((if0 _ _).trans (tlt ((lw_gt _ _).mpr hc28)).2.2.1) (by decide) (by decide) k) ?_
      refine own_by (fun _ k => XS.aloadN X27.here hx rfl (hb hby d5_67) rfl rfl k) ?_
      show own_Go _ _ _ _ (T27.setTop (mkF m 68 #[.val (.ref a1), .val (.long q1), .second, .val (.int (4 : Int32)), .val (.int (1 : Int32))] [(.ref a1)]))
      obtain ⟨T29, X29, e29, st29⟩ := getF X27 hx hZ hown (host := "") (Or.inl (hw _ (List.mem_of_getElem? (i := 20) rfl))) Via.refl e27 f23 (g := (mkF m 68 #[.val (.ref a1), .val (.long q1), .second, .val (.int (4 : Int32)), .val (.int (1 : Int32))] [(.ref a1)])) rfl rfl (hb hby d5_68)
      refine own_by st29 ?_
      refine own_by (fun _ k => XS.iloadN X29.here hx rfl (hb hby d5_71) rfl k) ?_
      refine own_by (fun _ k => XS.aloadN X29.here hx rfl (hb hby d5_72) rfl rfl k) ?_
      show own_Go _ _ _ _ (T29.setTop (mkF m 73 #[.val (.ref a1), .val (.long q1), .second, .val (.int (4 : Int32)), .val (.int (1 : Int32))] [(.ref a1), (.int (4 : Int32)), (.ref bn)]))
      obtain ⟨T30, X30, e30, st30⟩ := getF X29 hx hZ hown (host := "") (Or.inl (hw _ (List.mem_of_getElem? (i := 20) rfl))) Via.refl e29 f23 (g := (mkF m 73 #[.val (.ref a1), .val (.long q1), .second, .val (.int (4 : Int32)), .val (.int (1 : Int32))] [(.ref a1), (.int (4 : Int32)), (.ref bn)])) rfl rfl (hb hby d5_73)
      refine own_by st30 ?_
      refine own_by (fun _ k => XS.iload X30.here hx rfl (hb hby d5_76) rfl k) ?_
      show own_Go _ _ _ _ (T30.setTop (mkF m 78 #[.val (.ref a1), .val (.long q1), .second, .val (.int (4 : Int32)), .val (.int (1 : Int32))] [(.int (1 : Int32)), (.ref bn), (.int (4 : Int32)), (.ref bn)]))
      refine own_by (fun _ k => own_lal X30 hx hZ e30 f26 1 (by decide) (by decide) (hb hby d5_78) k) ?_
      show own_Go _ _ _ _ (T30.setTop (mkF m 79 #[.val (.ref a1), .val (.long q1), .second, .val (.int (4 : Int32)), .val (.int (1 : Int32))] [(.long (f2 1)), (.int (4 : Int32)), (.ref bn)]))
      refine own_las X30 hx hZ e30 f26 4 (by decide) (by decide) (hb hby d5_79) ?_
      intro T31 h31 X31 e31 W31 A31
      have f32 := f22.wr W31
      have f33 := f23.other W31 (Or.inl ne_a1)
      have f34 := f21.other W31 (Or.inl ne_a1)
      have f35 := f24.other W31 ne_b1
      have f36 := f25.wr W31 (Or.inr nwbn)
      have N31 := Fr.snoc X31 N20 gebn
      have Z31 := own_size_wr W31 Z20
      obtain ⟨fn31, hfn31⟩ : ∃ g : Nat → Int64, g = own_upd f2 4 (f2 1) := ⟨_, rfl⟩
      rw [← hfn31] at A31
      show own_Go _ _ _ _ (T31.setTop (mkF m 80 #[.val (.ref a1), .val (.long q1), .second, .val (.int (4 : Int32)), .val (.int (1 : Int32))] []))
      refine own_by (fun _ k => XS.iload X31.here hx rfl (hb hby d5_80) rfl k) ?_
      show own_Go _ _ _ _ (T31.setTop (mkF m 82 #[.val (.ref a1), .val (.long q1), .second, .val (.int (4 : Int32)), .val (.int (1 : Int32))] [(.int (1 : Int32))]))
      refine own_by (fun _ k => XS.istoreN X31.here hx rfl (hb hby d5_82) rfl (l' := #[.val (.ref a1), .val (.long q1), .second, .val (.int (1 : Int32)), .val (.int (1 : Int32))]) rfl k) ?_
      show own_Go _ _ _ _ (T31.setTop (mkF m 83 #[.val (.ref a1), .val (.long q1), .second, .val (.int (1 : Int32)), .val (.int (1 : Int32))] []))
      refine own_by (fun _ k => XS.goto X31.here hx rfl (pc0 := 83) (pc' := 41) rfl (hb hby d5_83) (by decide) (by decide) k) ?_
      refine own_by (fun _ k => XS.iloadN X31.here hx rfl (hb hby d5_41) rfl k) ?_
      show own_Go _ _ _ _ (T31.setTop (mkF m 42 #[.val (.ref a1), .val (.long q1), .second, .val (.int (1 : Int32)), .val (.int (1 : Int32))] [(.int (1 : Int32))]))
      refine own_by (fun _ k => XS.ifNo X31.here hx rfl (hb hby d5_42) rfl ((if0 _ _).trans (tlt (by decide)).2.2.2) k) ?_
      refine own_by (fun _ k => XS.iloadN X31.here hx rfl (hb hby d5_45) rfl k) ?_
      refine own_by (fun _ k => XS.iconst X31.here hx rfl (hb hby d5_46) k) ?_
      show own_Go _ _ _ _ (T31.setTop (mkF m 47 #[.val (.ref a1), .val (.long q1), .second, .val (.int (1 : Int32)), .val (.int (1 : Int32))] [(.int (1 : Int32)), (.int (1 : Int32))]))
      refine own_by (fun _ k => XS.isub X31.here hx rfl (hb hby d5_47) rfl k) ?_
      show own_Go _ _ _ _ (T31.setTop (mkF m 48 #[.val (.ref a1), .val (.long q1), .second, .val (.int (1 : Int32)), .val (.int (1 : Int32))] [(.int ((1 : Int32) - (1 : Int32)))]))
      rw [(by decide : ((1 : Int32) - (1 : Int32)) = (0 : Int32))]
      refine own_by (fun _ k => XS.iconst X31.here hx rfl (hb hby d5_48) k) ?_
      show own_Go _ _ _ _ (T31.setTop (mkF m 49 #[.val (.ref a1), .val (.long q1), .second, .val (.int (1 : Int32)), .val (.int (1 : Int32))] [(.int (1 : Int32)), (.int (0 : Int32))]))
      refine own_by (fun _ k => XS.iushr X31.here hx rfl (hb hby d5_49) rfl k) ?_
      show own_Go _ _ _ _ (T31.setTop (mkF m 50 #[.val (.ref a1), .val (.long q1), .second, .val (.int (1 : Int32)), .val (.int (1 : Int32))] [(.int (((0 : Int32).toUInt32 >>> ((1 : Int32) &&& 31).toUInt32).toInt32))]))
      rw [(by decide : (((0 : Int32).toUInt32 >>> ((1 : Int32) &&& 31).toUInt32).toInt32) = (0 : Int32))]
      show own_Go _ _ _ _ (T31.setTop (mkF m 50 #[.val (.ref a1), .val (.long q1), .second, .val (.int (1 : Int32)), .val (.int (1 : Int32))] [(.int (0 : Int32))]))
      refine own_by (fun _ k => XS.istore X31.here hx rfl (hb hby d5_50) rfl (l' := #[.val (.ref a1), .val (.long q1), .second, .val (.int (1 : Int32)), .val (.int (0 : Int32))]) rfl k) ?_
      refine own_by (fun _ k => XS.aloadN X31.here hx rfl (hb hby d5_52) rfl rfl k) ?_
      show own_Go _ _ _ _ (T31.setTop (mkF m 53 #[.val (.ref a1), .val (.long q1), .second, .val (.int (1 : Int32)), .val (.int (0 : Int32))] [(.ref a1)]))
      obtain ⟨T37, X37, e37, st37⟩ := getF X31 hx hZ hown (host := "") (Or.inl (hw _ (List.mem_of_getElem? (i := 20) rfl))) Via.refl e31 f33 (g := (mkF m 53 #[.val (.ref a1), .val (.long q1), .second, .val (.int (1 : Int32)), .val (.int (0 : Int32))] [(.ref a1)])) rfl rfl (hb hby d5_53)
      refine own_by st37 ?_
      refine own_by (fun _ k => XS.iload X37.here hx rfl (hb hby d5_56) rfl k) ?_
      show own_Go _ _ _ _ (T37.setTop (mkF m 58 #[.val (.ref a1), .val (.long q1), .second, .val (.int (1 : Int32)), .val (.int (0 : Int32))] [(.int (0 : Int32)), (.ref bn)]))
      refine own_by (fun _ k => own_lal X37 hx hZ e37 A31 0 (by decide) (by decide) (hb hby d5_58) k) ?_
      show own_Go _ _ _ _ (T37.setTop (mkF m 59 #[.val (.ref a1), .val (.long q1), .second, .val (.int (1 : Int32)), .val (.int (0 : Int32))] [(.long (fn31 0))]))
      rw [show (fn31 0) = (f2 0) from by simp [own_upd, hfn31]]
      refine own_by (fun _ k => XS.lloadN X37.here hx rfl (hb hby d5_59) rfl k) ?_
      show own_Go _ _ _ _ (T37.setTop (mkF m 60 #[.val (.ref a1), .val (.long q1), .second, .val (.int (1 : Int32)), .val (.int (0 : Int32))] [(.long q1), (.long (f2 0))]))
      refine own_by (fun _ k => XS.lcmp X37.here hx rfl (hb hby d5_60) rfl k) ?_
      show own_Go _ _ _ _ (T37.setTop (mkF m 61 #[.val (.ref a1), .val (.long q1), .second, .val (.int (1 : Int32)), .val (.int (0 : Int32))] [(.int (lcmpW (f2 0) q1))]))
      by_cases hc38 : q1 < (f2 0)
      · --
        refine own_by (fun _ k => XS.ifYes X37.here hx rfl (pc0 := 61) (pc' := 67) rfl (hb hby d5_61) rfl ((if0 _ _).trans (tlt ((lw_gt _ _).mpr hc38)).2.2.1) (by decide) (by decide) k) ?_
        refine own_by (fun _ k => XS.aloadN X37.here hx rfl (hb hby d5_67) rfl rfl k) ?_
        show own_Go _ _ _ _ (T37.setTop (mkF m 68 #[.val (.ref a1), .val (.long q1), .second, .val (.int (1 : Int32)), .val (.int (0 : Int32))] [(.ref a1)]))
        obtain ⟨T39, X39, e39, st39⟩ := getF X37 hx hZ hown (host := "") (Or.inl (hw _ (List.mem_of_getElem? (i := 20) rfl))) Via.refl e37 f33 (g := (mkF m 68 #[.val (.ref a1), .val (.long q1), .second, .val (.int (1 : Int32)), .val (.int (0 : Int32))] [(.ref a1)])) rfl rfl (hb hby d5_68)
        refine own_by st39 ?_
        refine own_by (fun _ k => XS.iloadN X39.here hx rfl (hb hby d5_71) rfl k) ?_
        refine own_by (fun _ k => XS.aloadN X39.here hx rfl (hb hby d5_72) rfl rfl k) ?_
        show own_Go _ _ _ _ (T39.setTop (mkF m 73 #[.val (.ref a1), .val (.long q1), .second, .val (.int (1 : Int32)), .val (.int (0 : Int32))] [(.ref a1), (.int (1 : Int32)), (.ref bn)]))
        obtain ⟨T40, X40, e40, st40⟩ := getF X39 hx hZ hown (host := "") (Or.inl (hw _ (List.mem_of_getElem? (i := 20) rfl))) Via.refl e39 f33 (g := (mkF m 73 #[.val (.ref a1), .val (.long q1), .second, .val (.int (1 : Int32)), .val (.int (0 : Int32))] [(.ref a1), (.int (1 : Int32)), (.ref bn)])) rfl rfl (hb hby d5_73)
        refine own_by st40 ?_
        refine own_by (fun _ k => XS.iload X40.here hx rfl (hb hby d5_76) rfl k) ?_
        show own_Go _ _ _ _ (T40.setTop (mkF m 78 #[.val (.ref a1), .val (.long q1), .second, .val (.int (1 : Int32)), .val (.int (0 : Int32))] [(.int (0 : Int32)), (.ref bn), (.int (1 : Int32)), (.ref bn)]))
        refine own_by (fun _ k => own_lal X40 hx hZ e40 A31 0 (by decide) (by decide) (hb hby d5_78) k) ?_
        show own_Go _ _ _ _ (T40.setTop (mkF m 79 #[.val (.ref a1), .val (.long q1), .second, .val (.int (1 : Int32)), .val (.int (0 : Int32))] [(.long (fn31 0)), (.int (1 : Int32)), (.ref bn)]))
        rw [show (fn31 0) = (f2 0) from by simp [own_upd, hfn31]]
        show own_Go _ _ _ _ (T40.setTop (mkF m 79 #[.val (.ref a1), .val (.long q1), .second, .val (.int (1 : Int32)), .val (.int (0 : Int32))] [(.long (f2 0)), (.int (1 : Int32)), (.ref bn)]))
        refine own_las X40 hx hZ e40 A31 1 (by decide) (by decide) (hb hby d5_79) ?_
        intro T41 h41 X41 e41 W41 A41
        have f42 := f32.wr W41
        have f43 := f33.other W41 (Or.inl ne_a1)
        have f44 := f34.other W41 (Or.inl ne_a1)
        have f45 := f35.other W41 ne_b1
        have f46 := f36.wr W41 (Or.inr nwbn)
        have N41 := Fr.snoc X41 N31 gebn
        have Z41 := own_size_wr W41 Z31
        obtain ⟨fn41, hfn41⟩ : ∃ g : Nat → Int64, g = own_upd fn31 1 (f2 0) := ⟨_, rfl⟩
        rw [← hfn41] at A41
        show own_Go _ _ _ _ (T41.setTop (mkF m 80 #[.val (.ref a1), .val (.long q1), .second, .val (.int (1 : Int32)), .val (.int (0 : Int32))] []))
        refine own_by (fun _ k => XS.iload X41.here hx rfl (hb hby d5_80) rfl k) ?_
        show own_Go _ _ _ _ (T41.setTop (mkF m 82 #[.val (.ref a1), .val (.long q1), .second, .val (.int (1 : Int32)), .val (.int (0 : Int32))] [(.int (0 : Int32))]))
        refine own_by (fun _ k => XS.istoreN X41.here hx rfl (hb hby d5_82) rfl (l' := #[.val (.ref a1), .val (.long q1), .second, .val (.int (0 : Int32)), .val (.int (0 : Int32))]) rfl k) ?_
        show own_Go _ _ _ _ (T41.setTop (mkF m 83 #[.val (.ref a1), .val (.long q1), .second, .val (.int (0 : Int32)), .val (.int (0 : Int32))] []))
        refine own_by (fun _ k => XS.goto X41.here hx rfl (pc0 := 83) (pc' := 41) rfl (hb hby d5_83) (by decide) (by decide) k) ?_
        refine own_by (fun _ k => XS.iloadN X41.here hx rfl (hb hby d5_41) rfl k) ?_
        show own_Go _ _ _ _ (T41.setTop (mkF m 42 #[.val (.ref a1), .val (.long q1), .second, .val (.int (0 : Int32)), .val (.int (0 : Int32))] [(.int (0 : Int32))]))
        refine own_by (fun _ k => XS.ifYes X41.here hx rfl (pc0 := 42) (pc' := 86) rfl (hb hby d5_42) rfl ((if0 _ _).trans (flt (by decide)).2.2.2) (by decide) (by decide) k) ?_
        refine own_by (fun _ k => XS.aloadN X41.here hx rfl (hb hby d5_86) rfl rfl k) ?_
        show own_Go _ _ _ _ (T41.setTop (mkF m 87 #[.val (.ref a1), .val (.long q1), .second, .val (.int (0 : Int32)), .val (.int (0 : Int32))] [(.ref a1)]))
        obtain ⟨T47, X47, e47, st47⟩ := getF X41 hx hZ hown (host := "") (Or.inl (hw _ (List.mem_of_getElem? (i := 20) rfl))) Via.refl e41 f43 (g := (mkF m 87 #[.val (.ref a1), .val (.long q1), .second, .val (.int (0 : Int32)), .val (.int (0 : Int32))] [(.ref a1)])) rfl rfl (hb hby d5_87)
        refine own_by st47 ?_
        refine own_by (fun _ k => XS.iloadN X47.here hx rfl (hb hby d5_90) rfl k) ?_
        refine own_by (fun _ k => XS.lloadN X47.here hx rfl (hb hby d5_91) rfl k) ?_
        show own_Go _ _ _ _ (T47.setTop (mkF m 92 #[.val (.ref a1), .val (.long q1), .second, .val (.int (0 : Int32)), .val (.int (0 : Int32))] [(.long q1), (.int (0 : Int32)), (.ref bn)]))
        refine own_las X47 hx hZ e47 A41 0 (by decide) (by decide) (hb hby d5_92) ?_
        intro T48 h48 X48 e48 W48 A48
        have f49 := f42.wr W48
        have f50 := f43.other W48 (Or.inl ne_a1)
        have f51 := f44.other W48 (Or.inl ne_a1)
        have f52 := f45.other W48 ne_b1
        have f53 := f46.wr W48 (Or.inr nwbn)
        have N48 := Fr.snoc X48 N41 gebn
        have Z48 := own_size_wr W48 Z41
        obtain ⟨fn48, hfn48⟩ : ∃ g : Nat → Int64, g = own_upd fn41 0 q1 := ⟨_, rfl⟩
        rw [← hfn48] at A48
        show own_Go _ _ _ _ (T48.setTop (mkF m 93 #[.val (.ref a1), .val (.long q1), .second, .val (.int (0 : Int32)), .val (.int (0 : Int32))] []))
        have hfin : own_hp (fn48) 5 ∧ ∀ x, own_cnt (fn48) x 5 = own_cnt f x 4 + own_one q1 x := by
          simp only [hfn48, hfn41, hfn31]
          simp only [hc2]
          obtain ⟨H1, H2, H3, H4⟩ := HP2
          have hc28' := hc28
          rw [Int64.lt_iff_toInt_lt] at hc28'
          have hc38' := hc38
          rw [Int64.lt_iff_toInt_lt] at hc38'
          refine ⟨⟨fun q => ?_, fun q => ?_, fun q => ?_, fun q => ?_⟩, fun x => ?_⟩
          · first | omega | (simp [own_upd] at *; omega)
          · first | omega | (simp [own_upd] at *; omega)
          · first | omega | (simp [own_upd] at *; omega)
          · first | omega | (simp [own_upd] at *; omega)
          · simp [own_cnt, own_upd]; try omega
        exact own_retV X48 hx Bd.notSynchronized e48 Bd.returns (hb hby d5_93) (⟨rfl, N48, f53, _, 8, _, by decide, by omega, f50, f51, A48, gebn, Or.inr nwbn, hfin.1, hfin.2⟩) (by decide) (by decide)
      · --
        refine own_by (fun _ k => XS.ifNo X37.here hx rfl (hb hby d5_61) rfl ((if0 _ _).trans (flt (mt (lw_gt _ _).mp hc38)).2.2.1) k) ?_
        show own_Go _ _ _ _ (T37.setTop (mkF m 64 #[.val (.ref a1), .val (.long q1), .second, .val (.int (1 : Int32)), .val (.int (0 : Int32))] []))
        refine own_by (fun _ k => XS.goto X37.here hx rfl (pc0 := 64) (pc' := 86) rfl (hb hby d5_64) (by decide) (by decide) k) ?_
        refine own_by (fun _ k => XS.aloadN X37.here hx rfl (hb hby d5_86) rfl rfl k) ?_
        show own_Go _ _ _ _ (T37.setTop (mkF m 87 #[.val (.ref a1), .val (.long q1), .second, .val (.int (1 : Int32)), .val (.int (0 : Int32))] [(.ref a1)]))
        obtain ⟨T54, X54, e54, st54⟩ := getF X37 hx hZ hown (host := "") (Or.inl (hw _ (List.mem_of_getElem? (i := 20) rfl))) Via.refl e37 f33 (g := (mkF m 87 #[.val (.ref a1), .val (.long q1), .second, .val (.int (1 : Int32)), .val (.int (0 : Int32))] [(.ref a1)])) rfl rfl (hb hby d5_87)
        refine own_by st54 ?_
        refine own_by (fun _ k => XS.iloadN X54.here hx rfl (hb hby d5_90) rfl k) ?_
        refine own_by (fun _ k => XS.lloadN X54.here hx rfl (hb hby d5_91) rfl k) ?_
        show own_Go _ _ _ _ (T54.setTop (mkF m 92 #[.val (.ref a1), .val (.long q1), .second, .val (.int (1 : Int32)), .val (.int (0 : Int32))] [(.long q1), (.int (1 : Int32)), (.ref bn)]))
        refine own_las X54 hx hZ e54 A31 1 (by decide) (by decide) (hb hby d5_92) ?_
        intro T55 h55 X55 e55 W55 A55
        have f56 := f32.wr W55
        have f57 := f33.other W55 (Or.inl ne_a1)
        have f58 := f34.other W55 (Or.inl ne_a1)
        have f59 := f35.other W55 ne_b1
        have f60 := f36.wr W55 (Or.inr nwbn)
        have N55 := Fr.snoc X55 N31 gebn
        have Z55 := own_size_wr W55 Z31
        obtain ⟨fn55, hfn55⟩ : ∃ g : Nat → Int64, g = own_upd fn31 1 q1 := ⟨_, rfl⟩
        rw [← hfn55] at A55
        show own_Go _ _ _ _ (T55.setTop (mkF m 93 #[.val (.ref a1), .val (.long q1), .second, .val (.int (1 : Int32)), .val (.int (0 : Int32))] []))
        have hfin : own_hp (fn55) 5 ∧ ∀ x, own_cnt (fn55) x 5 = own_cnt f x 4 + own_one q1 x := by
          simp only [hfn55, hfn31]
          simp only [hc2]
          obtain ⟨H1, H2, H3, H4⟩ := HP2
          have hc28' := hc28
          rw [Int64.lt_iff_toInt_lt] at hc28'
          have hc38' := hc38
          rw [Int64.lt_iff_toInt_lt] at hc38'
          refine ⟨⟨fun q => ?_, fun q => ?_, fun q => ?_, fun q => ?_⟩, fun x => ?_⟩
          · first | omega | (simp [own_upd] at *; omega)
          · first | omega | (simp [own_upd] at *; omega)
          · first | omega | (simp [own_upd] at *; omega)
          · first | omega | (simp [own_upd] at *; omega)
          · simp [own_cnt, own_upd]; try omega
        exact own_retV X55 hx Bd.notSynchronized e55 Bd.returns (hb hby d5_93) (⟨rfl, N55, f60, _, 8, _, by decide, by omega, f57, f58, A55, gebn, Or.inr nwbn, hfin.1, hfin.2⟩) (by decide) (by decide)
    · --
      refine own_by (fun _ k => XS.ifNo X27.here hx rfl (hb hby d5_61) rfl ((if0 _ _).trans (flt (mt (lw_gt _ _).mp hc28)).2.2.1) k) ?_
      show own_Go _ _ _ _ (T27.setTop (mkF m 64 #[.val (.ref a1), .val (.long q1), .second, .val (.int (4 : Int32)), .val (.int (1 : Int32))] []))
      refine own_by (fun _ k => XS.goto X27.here hx rfl (pc0 := 64) (pc' := 86) rfl (hb hby d5_64) (by decide) (by decide) k) ?_
      refine own_by (fun _ k => XS.aloadN X27.here hx rfl (hb hby d5_86) rfl rfl k) ?_
      show own_Go _ _ _ _ (T27.setTop (mkF m 87 #[.val (.ref a1), .val (.long q1), .second, .val (.int (4 : Int32)), .val (.int (1 : Int32))] [(.ref a1)]))
      obtain ⟨T61, X61, e61, st61⟩ := getF X27 hx hZ hown (host := "") (Or.inl (hw _ (List.mem_of_getElem? (i := 20) rfl))) Via.refl e27 f23 (g := (mkF m 87 #[.val (.ref a1), .val (.long q1), .second, .val (.int (4 : Int32)), .val (.int (1 : Int32))] [(.ref a1)])) rfl rfl (hb hby d5_87)
      refine own_by st61 ?_
      refine own_by (fun _ k => XS.iloadN X61.here hx rfl (hb hby d5_90) rfl k) ?_
      refine own_by (fun _ k => XS.lloadN X61.here hx rfl (hb hby d5_91) rfl k) ?_
      show own_Go _ _ _ _ (T61.setTop (mkF m 92 #[.val (.ref a1), .val (.long q1), .second, .val (.int (4 : Int32)), .val (.int (1 : Int32))] [(.long q1), (.int (4 : Int32)), (.ref bn)]))
      refine own_las X61 hx hZ e61 f26 4 (by decide) (by decide) (hb hby d5_92) ?_
      intro T62 h62 X62 e62 W62 A62
      have f63 := f22.wr W62
      have f64 := f23.other W62 (Or.inl ne_a1)
      have f65 := f21.other W62 (Or.inl ne_a1)
      have f66 := f24.other W62 ne_b1
      have f67 := f25.wr W62 (Or.inr nwbn)
      have N62 := Fr.snoc X62 N20 gebn
      have Z62 := own_size_wr W62 Z20
      obtain ⟨fn62, hfn62⟩ : ∃ g : Nat → Int64, g = own_upd f2 4 q1 := ⟨_, rfl⟩
      rw [← hfn62] at A62
      show own_Go _ _ _ _ (T62.setTop (mkF m 93 #[.val (.ref a1), .val (.long q1), .second, .val (.int (4 : Int32)), .val (.int (1 : Int32))] []))
      have hfin : own_hp (fn62) 5 ∧ ∀ x, own_cnt (fn62) x 5 = own_cnt f x 4 + own_one q1 x := by
        simp only [hfn62]
        simp only [hc2]
        obtain ⟨H1, H2, H3, H4⟩ := HP2
        have hc28' := hc28
        rw [Int64.lt_iff_toInt_lt] at hc28'
        refine ⟨⟨fun q => ?_, fun q => ?_, fun q => ?_, fun q => ?_⟩, fun x => ?_⟩
        · first | omega | (simp [own_upd] at *; omega)
        · first | omega | (simp [own_upd] at *; omega)
        · first | omega | (simp [own_upd] at *; omega)
        · first | omega | (simp [own_upd] at *; omega)
        · simp [own_cnt, own_upd]; try omega
      exact own_retV X62 hx Bd.notSynchronized e62 Bd.returns (hb hby d5_93) (⟨rfl, N62, f67, _, 8, _, by decide, by omega, f64, f65, A62, gebn, Or.inr nwbn, hfin.1, hfin.2⟩) (by decide) (by decide)
  · --
    have hnk : 4 + 1 ≤ n := by have q' : ¬ zn.toInt = 4 := fun q => hc3 (Int32.toInt_inj.mp (by rw [q]; decide)); omega
    refine own_by (fun _ k => XS.icmpYes X2.here hx rfl (pc0 := 9) (pc' := 29) rfl (hb hby d5_9) rfl (feq hc3).2 (by decide) (by decide) k) ?_
    refine own_by (fun _ k => XS.aloadN X2.here hx rfl (hb hby d5_29) rfl rfl k) ?_
    show own_Go _ _ _ _ (T2.setTop (mkF m 30 #[.val (.ref a1), .val (.long q1), .second, .unset, .unset] [(.ref a1)]))
    refine own_by (fun _ k => XS.dup X2.here hx rfl (hb hby d5_30) rfl rfl k) ?_
    show own_Go _ _ _ _ (T2.setTop (mkF m 31 #[.val (.ref a1), .val (.long q1), .second, .unset, .unset] [(.ref a1), (.ref a1)]))
    obtain ⟨T68, X68, e68, st68⟩ := getF X2 hx hZ hown (host := "") (Or.inl (hw _ (List.mem_of_getElem? (i := 27) rfl))) Via.refl e2 PF2 (g := (mkF m 31 #[.val (.ref a1), .val (.long q1), .second, .unset, .unset] [(.ref a1), (.ref a1)])) rfl rfl (hb hby d5_31)
    refine own_by st68 ?_
    show own_Go _ _ _ _ (T68.setTop (mkF m 34 #[.val (.ref a1), .val (.long q1), .second, .unset, .unset] [(.int (4 : Int32)), (.ref a1)]))
    refine own_by (fun _ k => XS.dupX1 X68.here hx rfl (hb hby d5_34) rfl rfl rfl k) ?_
    refine own_by (fun _ k => XS.iconst X68.here hx rfl (hb hby d5_35) k) ?_
    show own_Go _ _ _ _ (T68.setTop (mkF m 36 #[.val (.ref a1), .val (.long q1), .second, .unset, .unset] [(.int (1 : Int32)), (.int (4 : Int32)), (.ref a1), (.int (4 : Int32))]))
    refine own_by (fun _ k => XS.iadd X68.here hx rfl (hb hby d5_36) rfl k) ?_
    show own_Go _ _ _ _ (T68.setTop (mkF m 37 #[.val (.ref a1), .val (.long q1), .second, .unset, .unset] [(.int ((4 : Int32) + (1 : Int32))), (.ref a1), (.int (4 : Int32))]))
    rw [(by decide : ((4 : Int32) + (1 : Int32)) = (5 : Int32))]
    show own_Go _ _ _ _ (T68.setTop (mkF m 37 #[.val (.ref a1), .val (.long q1), .second, .unset, .unset] [(.int (5 : Int32)), (.ref a1), (.int (4 : Int32))]))
    obtain ⟨T69, h69, X69, e69, W69, st69⟩ := putF X68 hx hZ hown (host := "") (Or.inl (hw _ (List.mem_of_getElem? (i := 27) rfl))) Via.refl e68 PF2 PE (Or.inl (hw _ (List.mem_of_getElem? (i := 28) rfl))) (hw _ (List.mem_of_getElem? (i := 8) rfl)) (ty := .int) (by decide) rfl rfl (g := (mkF m 37 #[.val (.ref a1), .val (.long q1), .second, .unset, .unset] [(.int (5 : Int32)), (.ref a1), (.int (4 : Int32))])) rfl rfl (hb hby d5_37)
    refine own_by st69 ?_
    have f70 := PF2.same W69
    have f71 := PE.wr W69
    have f72 := PF1.other W69 (Or.inr (slot_ne (Or.inl (hw _ (List.mem_of_getElem? (i := 21) rfl))) (Or.inl (hw _ (List.mem_of_getElem? (i := 28) rfl))) (by decide) (t := (.array .long)) (t' := .int) (by decide) (by decide)))
    have f73 := PA.other W69 (Ne.symm hab)
    have f74 := (Keep.refl h0 [a1, b1]).wr W69 (Or.inl (List.mem_of_getElem? (i := 0) rfl))
    have N69 := Fr.snoc X69 N0 Pg1
    have Z69 := own_size_wr W69 Z0
    show own_Go _ _ _ _ (T69.setTop (mkF m 40 #[.val (.ref a1), .val (.long q1), .second, .unset, .unset] [(.int (4 : Int32))]))
    refine own_by (fun _ k => XS.istoreN X69.here hx rfl (hb hby d5_40) rfl (l' := #[.val (.ref a1), .val (.long q1), .second, .val (.int (4 : Int32)), .unset]) rfl k) ?_
    refine own_by (fun _ k => XS.iloadN X69.here hx rfl (hb hby d5_41) rfl k) ?_
    show own_Go _ _ _ _ (T69.setTop (mkF m 42 #[.val (.ref a1), .val (.long q1), .second, .val (.int (4 : Int32)), .unset] [(.int (4 : Int32))]))
    refine own_by (fun _ k => XS.ifNo X69.here hx rfl (hb hby d5_42) rfl ((if0 _ _).trans (tlt (by decide)).2.2.2) k) ?_
    refine own_by (fun _ k => XS.iloadN X69.here hx rfl (hb hby d5_45) rfl k) ?_
    refine own_by (fun _ k => XS.iconst X69.here hx rfl (hb hby d5_46) k) ?_
    show own_Go _ _ _ _ (T69.setTop (mkF m 47 #[.val (.ref a1), .val (.long q1), .second, .val (.int (4 : Int32)), .unset] [(.int (1 : Int32)), (.int (4 : Int32))]))
    refine own_by (fun _ k => XS.isub X69.here hx rfl (hb hby d5_47) rfl k) ?_
    show own_Go _ _ _ _ (T69.setTop (mkF m 48 #[.val (.ref a1), .val (.long q1), .second, .val (.int (4 : Int32)), .unset] [(.int ((4 : Int32) - (1 : Int32)))]))
    rw [(by decide : ((4 : Int32) - (1 : Int32)) = (3 : Int32))]
    refine own_by (fun _ k => XS.iconst X69.here hx rfl (hb hby d5_48) k) ?_
    show own_Go _ _ _ _ (T69.setTop (mkF m 49 #[.val (.ref a1), .val (.long q1), .second, .val (.int (4 : Int32)), .unset] [(.int (1 : Int32)), (.int (3 : Int32))]))
    refine own_by (fun _ k => XS.iushr X69.here hx rfl (hb hby d5_49) rfl k) ?_
    show own_Go _ _ _ _ (T69.setTop (mkF m 50 #[.val (.ref a1), .val (.long q1), .second, .val (.int (4 : Int32)), .unset] [(.int (((3 : Int32).toUInt32 >>> ((1 : Int32) &&& 31).toUInt32).toInt32))]))
    rw [(by decide : (((3 : Int32).toUInt32 >>> ((1 : Int32) &&& 31).toUInt32).toInt32) = (1 : Int32))]
    show own_Go _ _ _ _ (T69.setTop (mkF m 50 #[.val (.ref a1), .val (.long q1), .second, .val (.int (4 : Int32)), .unset] [(.int (1 : Int32))]))
    refine own_by (fun _ k => XS.istore X69.here hx rfl (hb hby d5_50) rfl (l' := #[.val (.ref a1), .val (.long q1), .second, .val (.int (4 : Int32)), .val (.int (1 : Int32))]) rfl k) ?_
    refine own_by (fun _ k => XS.aloadN X69.here hx rfl (hb hby d5_52) rfl rfl k) ?_
    show own_Go _ _ _ _ (T69.setTop (mkF m 53 #[.val (.ref a1), .val (.long q1), .second, .val (.int (4 : Int32)), .val (.int (1 : Int32))] [(.ref a1)]))
    obtain ⟨T75, X75, e75, st75⟩ := getF X69 hx hZ hown (host := "") (Or.inl (hw _ (List.mem_of_getElem? (i := 20) rfl))) Via.refl e69 f72 (g := (mkF m 53 #[.val (.ref a1), .val (.long q1), .second, .val (.int (4 : Int32)), .val (.int (1 : Int32))] [(.ref a1)])) rfl rfl (hb hby d5_53)
    refine own_by st75 ?_
    refine own_by (fun _ k => XS.iload X75.here hx rfl (hb hby d5_56) rfl k) ?_
    show own_Go _ _ _ _ (T75.setTop (mkF m 58 #[.val (.ref a1), .val (.long q1), .second, .val (.int (4 : Int32)), .val (.int (1 : Int32))] [(.int (1 : Int32)), (.ref b1)]))
    refine own_by (fun _ k => own_lal X75 hx hZ e75 f73 1 (by decide) (by omega) (hb hby d5_58) k) ?_
    refine own_by (fun _ k => XS.lloadN X75.here hx rfl (hb hby d5_59) rfl k) ?_
    show own_Go _ _ _ _ (T75.setTop (mkF m 60 #[.val (.ref a1), .val (.long q1), .second, .val (.int (4 : Int32)), .val (.int (1 : Int32))] [(.long q1), (.long (f 1))]))
    refine own_by (fun _ k => XS.lcmp X75.here hx rfl (hb hby d5_60) rfl k) ?_
    show own_Go _ _ _ _ (T75.setTop (mkF m 61 #[.val (.ref a1), .val (.long q1), .second, .val (.int (4 : Int32)), .val (.int (1 : Int32))] [(.int (lcmpW (f 1) q1))]))
    by_cases hc76 : q1 < (f 1)
    · --
      refine own_by (fun _ k => XS.ifYes X75.here hx rfl (pc0 := 61) (pc' := 67) rfl (hb hby d5_61) rfl ((if0 _ _).trans (tlt ((lw_gt _ _).mpr hc76)).2.2.1) (by decide) (by decide) k) ?_
      refine own_by (fun _ k => XS.aloadN X75.here hx rfl (hb hby d5_67) rfl rfl k) ?_
      show own_Go _ _ _ _ (T75.setTop (mkF m 68 #[.val (.ref a1), .val (.long q1), .second, .val (.int (4 : Int32)), .val (.int (1 : Int32))] [(.ref a1)]))
      obtain ⟨T77, X77, e77, st77⟩ := getF X75 hx hZ hown (host := "") (Or.inl (hw _ (List.mem_of_getElem? (i := 20) rfl))) Via.refl e75 f72 (g := (mkF m 68 #[.val (.ref a1), .val (.long q1), .second, .val (.int (4 : Int32)), .val (.int (1 : Int32))] [(.ref a1)])) rfl rfl (hb hby d5_68)
      refine own_by st77 ?_
      refine own_by (fun _ k => XS.iloadN X77.here hx rfl (hb hby d5_71) rfl k) ?_
      refine own_by (fun _ k => XS.aloadN X77.here hx rfl (hb hby d5_72) rfl rfl k) ?_
      show own_Go _ _ _ _ (T77.setTop (mkF m 73 #[.val (.ref a1), .val (.long q1), .second, .val (.int (4 : Int32)), .val (.int (1 : Int32))] [(.ref a1), (.int (4 : Int32)), (.ref b1)]))
      obtain ⟨T78, X78, e78, st78⟩ := getF X77 hx hZ hown (host := "") (Or.inl (hw _ (List.mem_of_getElem? (i := 20) rfl))) Via.refl e77 f72 (g := (mkF m 73 #[.val (.ref a1), .val (.long q1), .second, .val (.int (4 : Int32)), .val (.int (1 : Int32))] [(.ref a1), (.int (4 : Int32)), (.ref b1)])) rfl rfl (hb hby d5_73)
      refine own_by st78 ?_
      refine own_by (fun _ k => XS.iload X78.here hx rfl (hb hby d5_76) rfl k) ?_
      show own_Go _ _ _ _ (T78.setTop (mkF m 78 #[.val (.ref a1), .val (.long q1), .second, .val (.int (4 : Int32)), .val (.int (1 : Int32))] [(.int (1 : Int32)), (.ref b1), (.int (4 : Int32)), (.ref b1)]))
      refine own_by (fun _ k => own_lal X78 hx hZ e78 f73 1 (by decide) (by omega) (hb hby d5_78) k) ?_
      show own_Go _ _ _ _ (T78.setTop (mkF m 79 #[.val (.ref a1), .val (.long q1), .second, .val (.int (4 : Int32)), .val (.int (1 : Int32))] [(.long (f 1)), (.int (4 : Int32)), (.ref b1)]))
      refine own_las X78 hx hZ e78 f73 4 (by decide) (by omega) (hb hby d5_79) ?_
      intro T79 h79 X79 e79 W79 A79
      have f80 := f71.wr W79
      have f81 := f72.other W79 (Or.inl hab)
      have f82 := f70.other W79 (Or.inl hab)
      have f83 := f74.wr W79 (Or.inl (List.mem_of_getElem? (i := 1) rfl))
      have N79 := Fr.snoc X79 N69 Pg2
      have Z79 := own_size_wr W79 Z69
      obtain ⟨fn79, hfn79⟩ : ∃ g : Nat → Int64, g = own_upd f 4 (f 1) := ⟨_, rfl⟩
      rw [← hfn79] at A79
      show own_Go _ _ _ _ (T79.setTop (mkF m 80 #[.val (.ref a1), .val (.long q1), .second, .val (.int (4 : Int32)), .val (.int (1 : Int32))] []))
      refine own_by (fun _ k => XS.iload X79.here hx rfl (hb hby d5_80) rfl k) ?_
      show own_Go _ _ _ _ (T79.setTop (mkF m 82 #[.val (.ref a1), .val (.long q1), .second, .val (.int (4 : Int32)), .val (.int (1 : Int32))] [(.int (1 : Int32))]))
      refine own_by (fun _ k => XS.istoreN X79.here hx rfl (hb hby d5_82) rfl (l' := #[.val (.ref a1), .val (.long q1), .second, .val (.int (1 : Int32)), .val (.int (1 : Int32))]) rfl k) ?_
      show own_Go _ _ _ _ (T79.setTop (mkF m 83 #[.val (.ref a1), .val (.long q1), .second, .val (.int (1 : Int32)), .val (.int (1 : Int32))] []))
      refine own_by (fun _ k => XS.goto X79.here hx rfl (pc0 := 83) (pc' := 41) rfl (hb hby d5_83) (by decide) (by decide) k) ?_
      refine own_by (fun _ k => XS.iloadN X79.here hx rfl (hb hby d5_41) rfl k) ?_
      show own_Go _ _ _ _ (T79.setTop (mkF m 42 #[.val (.ref a1), .val (.long q1), .second, .val (.int (1 : Int32)), .val (.int (1 : Int32))] [(.int (1 : Int32))]))
      refine own_by (fun _ k => XS.ifNo X79.here hx rfl (hb hby d5_42) rfl ((if0 _ _).trans (tlt (by decide)).2.2.2) k) ?_
      refine own_by (fun _ k => XS.iloadN X79.here hx rfl (hb hby d5_45) rfl k) ?_
      refine own_by (fun _ k => XS.iconst X79.here hx rfl (hb hby d5_46) k) ?_
      show own_Go _ _ _ _ (T79.setTop (mkF m 47 #[.val (.ref a1), .val (.long q1), .second, .val (.int (1 : Int32)), .val (.int (1 : Int32))] [(.int (1 : Int32)), (.int (1 : Int32))]))
      refine own_by (fun _ k => XS.isub X79.here hx rfl (hb hby d5_47) rfl k) ?_
      show own_Go _ _ _ _ (T79.setTop (mkF m 48 #[.val (.ref a1), .val (.long q1), .second, .val (.int (1 : Int32)), .val (.int (1 : Int32))] [(.int ((1 : Int32) - (1 : Int32)))]))
      rw [(by decide : ((1 : Int32) - (1 : Int32)) = (0 : Int32))]
      refine own_by (fun _ k => XS.iconst X79.here hx rfl (hb hby d5_48) k) ?_
      show own_Go _ _ _ _ (T79.setTop (mkF m 49 #[.val (.ref a1), .val (.long q1), .second, .val (.int (1 : Int32)), .val (.int (1 : Int32))] [(.int (1 : Int32)), (.int (0 : Int32))]))
      refine own_by (fun _ k => XS.iushr X79.here hx rfl (hb hby d5_49) rfl k) ?_
      show own_Go _ _ _ _ (T79.setTop (mkF m 50 #[.val (.ref a1), .val (.long q1), .second, .val (.int (1 : Int32)), .val (.int (1 : Int32))] [(.int (((0 : Int32).toUInt32 >>> ((1 : Int32) &&& 31).toUInt32).toInt32))]))
      rw [(by decide : (((0 : Int32).toUInt32 >>> ((1 : Int32) &&& 31).toUInt32).toInt32) = (0 : Int32))]
      show own_Go _ _ _ _ (T79.setTop (mkF m 50 #[.val (.ref a1), .val (.long q1), .second, .val (.int (1 : Int32)), .val (.int (1 : Int32))] [(.int (0 : Int32))]))
      refine own_by (fun _ k => XS.istore X79.here hx rfl (hb hby d5_50) rfl (l' := #[.val (.ref a1), .val (.long q1), .second, .val (.int (1 : Int32)), .val (.int (0 : Int32))]) rfl k) ?_
      refine own_by (fun _ k => XS.aloadN X79.here hx rfl (hb hby d5_52) rfl rfl k) ?_
      show own_Go _ _ _ _ (T79.setTop (mkF m 53 #[.val (.ref a1), .val (.long q1), .second, .val (.int (1 : Int32)), .val (.int (0 : Int32))] [(.ref a1)]))
      obtain ⟨T84, X84, e84, st84⟩ := getF X79 hx hZ hown (host := "") (Or.inl (hw _ (List.mem_of_getElem? (i := 20) rfl))) Via.refl e79 f81 (g := (mkF m 53 #[.val (.ref a1), .val (.long q1), .second, .val (.int (1 : Int32)), .val (.int (0 : Int32))] [(.ref a1)])) rfl rfl (hb hby d5_53)
      refine own_by st84 ?_
      refine own_by (fun _ k => XS.iload X84.here hx rfl (hb hby d5_56) rfl k) ?_
      show own_Go _ _ _ _ (T84.setTop (mkF m 58 #[.val (.ref a1), .val (.long q1), .second, .val (.int (1 : Int32)), .val (.int (0 : Int32))] [(.int (0 : Int32)), (.ref b1)]))
      refine own_by (fun _ k => own_lal X84 hx hZ e84 A79 0 (by decide) (by omega) (hb hby d5_58) k) ?_
      show own_Go _ _ _ _ (T84.setTop (mkF m 59 #[.val (.ref a1), .val (.long q1), .second, .val (.int (1 : Int32)), .val (.int (0 : Int32))] [(.long (fn79 0))]))
      rw [show (fn79 0) = (f 0) from by simp [own_upd, hfn79]]
      refine own_by (fun _ k => XS.lloadN X84.here hx rfl (hb hby d5_59) rfl k) ?_
      show own_Go _ _ _ _ (T84.setTop (mkF m 60 #[.val (.ref a1), .val (.long q1), .second, .val (.int (1 : Int32)), .val (.int (0 : Int32))] [(.long q1), (.long (f 0))]))
      refine own_by (fun _ k => XS.lcmp X84.here hx rfl (hb hby d5_60) rfl k) ?_
      show own_Go _ _ _ _ (T84.setTop (mkF m 61 #[.val (.ref a1), .val (.long q1), .second, .val (.int (1 : Int32)), .val (.int (0 : Int32))] [(.int (lcmpW (f 0) q1))]))
      by_cases hc85 : q1 < (f 0)
      · --
        refine own_by (fun _ k => XS.ifYes X84.here hx rfl (pc0 := 61) (pc' := 67) rfl (hb hby d5_61) rfl ((if0 _ _).trans (tlt ((lw_gt _ _).mpr hc85)).2.2.1) (by decide) (by decide) k) ?_
        refine own_by (fun _ k => XS.aloadN X84.here hx rfl (hb hby d5_67) rfl rfl k) ?_
        show own_Go _ _ _ _ (T84.setTop (mkF m 68 #[.val (.ref a1), .val (.long q1), .second, .val (.int (1 : Int32)), .val (.int (0 : Int32))] [(.ref a1)]))
        obtain ⟨T86, X86, e86, st86⟩ := getF X84 hx hZ hown (host := "") (Or.inl (hw _ (List.mem_of_getElem? (i := 20) rfl))) Via.refl e84 f81 (g := (mkF m 68 #[.val (.ref a1), .val (.long q1), .second, .val (.int (1 : Int32)), .val (.int (0 : Int32))] [(.ref a1)])) rfl rfl (hb hby d5_68)
        refine own_by st86 ?_
        refine own_by (fun _ k => XS.iloadN X86.here hx rfl (hb hby d5_71) rfl k) ?_
        refine own_by (fun _ k => XS.aloadN X86.here hx rfl (hb hby d5_72) rfl rfl k) ?_
        show own_Go _ _ _ _ (T86.setTop (mkF m 73 #[.val (.ref a1), .val (.long q1), .second, .val (.int (1 : Int32)), .val (.int (0 : Int32))] [(.ref a1), (.int (1 : Int32)), (.ref b1)]))
        obtain ⟨T87, X87, e87, st87⟩ := getF X86 hx hZ hown (host := "") (Or.inl (hw _ (List.mem_of_getElem? (i := 20) rfl))) Via.refl e86 f81 (g := (mkF m 73 #[.val (.ref a1), .val (.long q1), .second, .val (.int (1 : Int32)), .val (.int (0 : Int32))] [(.ref a1), (.int (1 : Int32)), (.ref b1)])) rfl rfl (hb hby d5_73)
        refine own_by st87 ?_
        refine own_by (fun _ k => XS.iload X87.here hx rfl (hb hby d5_76) rfl k) ?_
        show own_Go _ _ _ _ (T87.setTop (mkF m 78 #[.val (.ref a1), .val (.long q1), .second, .val (.int (1 : Int32)), .val (.int (0 : Int32))] [(.int (0 : Int32)), (.ref b1), (.int (1 : Int32)), (.ref b1)]))
        refine own_by (fun _ k => own_lal X87 hx hZ e87 A79 0 (by decide) (by omega) (hb hby d5_78) k) ?_
        show own_Go _ _ _ _ (T87.setTop (mkF m 79 #[.val (.ref a1), .val (.long q1), .second, .val (.int (1 : Int32)), .val (.int (0 : Int32))] [(.long (fn79 0)), (.int (1 : Int32)), (.ref b1)]))
        rw [show (fn79 0) = (f 0) from by simp [own_upd, hfn79]]
        show own_Go _ _ _ _ (T87.setTop (mkF m 79 #[.val (.ref a1), .val (.long q1), .second, .val (.int (1 : Int32)), .val (.int (0 : Int32))] [(.long (f 0)), (.int (1 : Int32)), (.ref b1)]))
        refine own_las X87 hx hZ e87 A79 1 (by decide) (by omega) (hb hby d5_79) ?_
        intro T88 h88 X88 e88 W88 A88
        have f89 := f80.wr W88
        have f90 := f81.other W88 (Or.inl hab)
        have f91 := f82.other W88 (Or.inl hab)
        have f92 := f83.wr W88 (Or.inl (List.mem_of_getElem? (i := 1) rfl))
        have N88 := Fr.snoc X88 N79 Pg2
        have Z88 := own_size_wr W88 Z79
        obtain ⟨fn88, hfn88⟩ : ∃ g : Nat → Int64, g = own_upd fn79 1 (f 0) := ⟨_, rfl⟩
        rw [← hfn88] at A88
        show own_Go _ _ _ _ (T88.setTop (mkF m 80 #[.val (.ref a1), .val (.long q1), .second, .val (.int (1 : Int32)), .val (.int (0 : Int32))] []))
        refine own_by (fun _ k => XS.iload X88.here hx rfl (hb hby d5_80) rfl k) ?_
        show own_Go _ _ _ _ (T88.setTop (mkF m 82 #[.val (.ref a1), .val (.long q1), .second, .val (.int (1 : Int32)), .val (.int (0 : Int32))] [(.int (0 : Int32))]))
        refine own_by (fun _ k => XS.istoreN X88.here hx rfl (hb hby d5_82) rfl (l' := #[.val (.ref a1), .val (.long q1), .second, .val (.int (0 : Int32)), .val (.int (0 : Int32))]) rfl k) ?_
        show own_Go _ _ _ _ (T88.setTop (mkF m 83 #[.val (.ref a1), .val (.long q1), .second, .val (.int (0 : Int32)), .val (.int (0 : Int32))] []))
        refine own_by (fun _ k => XS.goto X88.here hx rfl (pc0 := 83) (pc' := 41) rfl (hb hby d5_83) (by decide) (by decide) k) ?_
        refine own_by (fun _ k => XS.iloadN X88.here hx rfl (hb hby d5_41) rfl k) ?_
        show own_Go _ _ _ _ (T88.setTop (mkF m 42 #[.val (.ref a1), .val (.long q1), .second, .val (.int (0 : Int32)), .val (.int (0 : Int32))] [(.int (0 : Int32))]))
        refine own_by (fun _ k => XS.ifYes X88.here hx rfl (pc0 := 42) (pc' := 86) rfl (hb hby d5_42) rfl ((if0 _ _).trans (flt (by decide)).2.2.2) (by decide) (by decide) k) ?_
        refine own_by (fun _ k => XS.aloadN X88.here hx rfl (hb hby d5_86) rfl rfl k) ?_
        show own_Go _ _ _ _ (T88.setTop (mkF m 87 #[.val (.ref a1), .val (.long q1), .second, .val (.int (0 : Int32)), .val (.int (0 : Int32))] [(.ref a1)]))
        obtain ⟨T93, X93, e93, st93⟩ := getF X88 hx hZ hown (host := "") (Or.inl (hw _ (List.mem_of_getElem? (i := 20) rfl))) Via.refl e88 f90 (g := (mkF m 87 #[.val (.ref a1), .val (.long q1), .second, .val (.int (0 : Int32)), .val (.int (0 : Int32))] [(.ref a1)])) rfl rfl (hb hby d5_87)
        refine own_by st93 ?_
        refine own_by (fun _ k => XS.iloadN X93.here hx rfl (hb hby d5_90) rfl k) ?_
        refine own_by (fun _ k => XS.lloadN X93.here hx rfl (hb hby d5_91) rfl k) ?_
        show own_Go _ _ _ _ (T93.setTop (mkF m 92 #[.val (.ref a1), .val (.long q1), .second, .val (.int (0 : Int32)), .val (.int (0 : Int32))] [(.long q1), (.int (0 : Int32)), (.ref b1)]))
        refine own_las X93 hx hZ e93 A88 0 (by decide) (by omega) (hb hby d5_92) ?_
        intro T94 h94 X94 e94 W94 A94
        have f95 := f89.wr W94
        have f96 := f90.other W94 (Or.inl hab)
        have f97 := f91.other W94 (Or.inl hab)
        have f98 := f92.wr W94 (Or.inl (List.mem_of_getElem? (i := 1) rfl))
        have N94 := Fr.snoc X94 N88 Pg2
        have Z94 := own_size_wr W94 Z88
        obtain ⟨fn94, hfn94⟩ : ∃ g : Nat → Int64, g = own_upd fn88 0 q1 := ⟨_, rfl⟩
        rw [← hfn94] at A94
        show own_Go _ _ _ _ (T94.setTop (mkF m 93 #[.val (.ref a1), .val (.long q1), .second, .val (.int (0 : Int32)), .val (.int (0 : Int32))] []))
        have hfin : own_hp (fn94) 5 ∧ ∀ x, own_cnt (fn94) x 5 = own_cnt f x 4 + own_one q1 x := by
          simp only [hfn94, hfn88, hfn79]
          obtain ⟨H1, H2, H3, H4⟩ := HP
          have hc76' := hc76
          rw [Int64.lt_iff_toInt_lt] at hc76'
          have hc85' := hc85
          rw [Int64.lt_iff_toInt_lt] at hc85'
          refine ⟨⟨fun q => ?_, fun q => ?_, fun q => ?_, fun q => ?_⟩, fun x => ?_⟩
          · first | omega | (simp [own_upd] at *; omega)
          · first | omega | (simp [own_upd] at *; omega)
          · first | omega | (simp [own_upd] at *; omega)
          · first | omega | (simp [own_upd] at *; omega)
          · simp [own_cnt, own_upd]; try omega
        exact own_retV X94 hx Bd.notSynchronized e94 Bd.returns (hb hby d5_93) (⟨rfl, N94, f98, _, n, _, by omega, by omega, f96, f97, A94, Pg2, Or.inl rfl, hfin.1, hfin.2⟩) (by decide) (by decide)
      · --
        refine own_by (fun _ k => XS.ifNo X84.here hx rfl (hb hby d5_61) rfl ((if0 _ _).trans (flt (mt (lw_gt _ _).mp hc85)).2.2.1) k) ?_
        show own_Go _ _ _ _ (T84.setTop (mkF m 64 #[.val (.ref a1), .val (.long q1), .second, .val (.int (1 : Int32)), .val (.int (0 : Int32))] []))
        refine own_by (fun _ k => XS.goto X84.here hx rfl (pc0 := 64) (pc' := 86) rfl (hb hby d5_64) (by decide) (by decide) k) ?_
        refine own_by (fun _ k => XS.aloadN X84.here hx rfl (hb hby d5_86) rfl rfl k) ?_
        show own_Go _ _ _ _ (T84.setTop (mkF m 87 #[.val (.ref a1), .val (.long q1), .second, .val (.int (1 : Int32)), .val (.int (0 : Int32))] [(.ref a1)]))
        obtain ⟨T99, X99, e99, st99⟩ := getF X84 hx hZ hown (host := "") (Or.inl (hw _ (List.mem_of_getElem? (i := 20) rfl))) Via.refl e84 f81 (g := (mkF m 87 #[.val (.ref a1), .val (.long q1), .second, .val (.int (1 : Int32)), .val (.int (0 : Int32))] [(.ref a1)])) rfl rfl (hb hby d5_87)
        refine own_by st99 ?_
        refine own_by (fun _ k => XS.iloadN X99.here hx rfl (hb hby d5_90) rfl k) ?_
        refine own_by (fun _ k => XS.lloadN X99.here hx rfl (hb hby d5_91) rfl k) ?_
        show own_Go _ _ _ _ (T99.setTop (mkF m 92 #[.val (.ref a1), .val (.long q1), .second, .val (.int (1 : Int32)), .val (.int (0 : Int32))] [(.long q1), (.int (1 : Int32)), (.ref b1)]))
        refine own_las X99 hx hZ e99 A79 1 (by decide) (by omega) (hb hby d5_92) ?_
        intro T100 h100 X100 e100 W100 A100
        have f101 := f80.wr W100
        have f102 := f81.other W100 (Or.inl hab)
        have f103 := f82.other W100 (Or.inl hab)
        have f104 := f83.wr W100 (Or.inl (List.mem_of_getElem? (i := 1) rfl))
        have N100 := Fr.snoc X100 N79 Pg2
        have Z100 := own_size_wr W100 Z79
        obtain ⟨fn100, hfn100⟩ : ∃ g : Nat → Int64, g = own_upd fn79 1 q1 := ⟨_, rfl⟩
        rw [← hfn100] at A100
        show own_Go _ _ _ _ (T100.setTop (mkF m 93 #[.val (.ref a1), .val (.long q1), .second, .val (.int (1 : Int32)), .val (.int (0 : Int32))] []))
        have hfin : own_hp (fn100) 5 ∧ ∀ x, own_cnt (fn100) x 5 = own_cnt f x 4 + own_one q1 x := by
          simp only [hfn100, hfn79]
          obtain ⟨H1, H2, H3, H4⟩ := HP
          have hc76' := hc76
          rw [Int64.lt_iff_toInt_lt] at hc76'
          have hc85' := hc85
          rw [Int64.lt_iff_toInt_lt] at hc85'
          refine ⟨⟨fun q => ?_, fun q => ?_, fun q => ?_, fun q => ?_⟩, fun x => ?_⟩
          · first | omega | (simp [own_upd] at *; omega)
          · first | omega | (simp [own_upd] at *; omega)
          · first | omega | (simp [own_upd] at *; omega)
          · first | omega | (simp [own_upd] at *; omega)
          · simp [own_cnt, own_upd]; try omega
        exact own_retV X100 hx Bd.notSynchronized e100 Bd.returns (hb hby d5_93) (⟨rfl, N100, f104, _, n, _, by omega, by omega, f102, f103, A100, Pg2, Or.inl rfl, hfin.1, hfin.2⟩) (by decide) (by decide)
    · --
      refine own_by (fun _ k => XS.ifNo X75.here hx rfl (hb hby d5_61) rfl ((if0 _ _).trans (flt (mt (lw_gt _ _).mp hc76)).2.2.1) k) ?_
      show own_Go _ _ _ _ (T75.setTop (mkF m 64 #[.val (.ref a1), .val (.long q1), .second, .val (.int (4 : Int32)), .val (.int (1 : Int32))] []))
      refine own_by (fun _ k => XS.goto X75.here hx rfl (pc0 := 64) (pc' := 86) rfl (hb hby d5_64) (by decide) (by decide) k) ?_
      refine own_by (fun _ k => XS.aloadN X75.here hx rfl (hb hby d5_86) rfl rfl k) ?_
      show own_Go _ _ _ _ (T75.setTop (mkF m 87 #[.val (.ref a1), .val (.long q1), .second, .val (.int (4 : Int32)), .val (.int (1 : Int32))] [(.ref a1)]))
      obtain ⟨T105, X105, e105, st105⟩ := getF X75 hx hZ hown (host := "") (Or.inl (hw _ (List.mem_of_getElem? (i := 20) rfl))) Via.refl e75 f72 (g := (mkF m 87 #[.val (.ref a1), .val (.long q1), .second, .val (.int (4 : Int32)), .val (.int (1 : Int32))] [(.ref a1)])) rfl rfl (hb hby d5_87)
      refine own_by st105 ?_
      refine own_by (fun _ k => XS.iloadN X105.here hx rfl (hb hby d5_90) rfl k) ?_
      refine own_by (fun _ k => XS.lloadN X105.here hx rfl (hb hby d5_91) rfl k) ?_
      show own_Go _ _ _ _ (T105.setTop (mkF m 92 #[.val (.ref a1), .val (.long q1), .second, .val (.int (4 : Int32)), .val (.int (1 : Int32))] [(.long q1), (.int (4 : Int32)), (.ref b1)]))
      refine own_las X105 hx hZ e105 f73 4 (by decide) (by omega) (hb hby d5_92) ?_
      intro T106 h106 X106 e106 W106 A106
      have f107 := f71.wr W106
      have f108 := f72.other W106 (Or.inl hab)
      have f109 := f70.other W106 (Or.inl hab)
      have f110 := f74.wr W106 (Or.inl (List.mem_of_getElem? (i := 1) rfl))
      have N106 := Fr.snoc X106 N69 Pg2
      have Z106 := own_size_wr W106 Z69
      obtain ⟨fn106, hfn106⟩ : ∃ g : Nat → Int64, g = own_upd f 4 q1 := ⟨_, rfl⟩
      rw [← hfn106] at A106
      show own_Go _ _ _ _ (T106.setTop (mkF m 93 #[.val (.ref a1), .val (.long q1), .second, .val (.int (4 : Int32)), .val (.int (1 : Int32))] []))
      have hfin : own_hp (fn106) 5 ∧ ∀ x, own_cnt (fn106) x 5 = own_cnt f x 4 + own_one q1 x := by
        simp only [hfn106]
        obtain ⟨H1, H2, H3, H4⟩ := HP
        have hc76' := hc76
        rw [Int64.lt_iff_toInt_lt] at hc76'
        refine ⟨⟨fun q => ?_, fun q => ?_, fun q => ?_, fun q => ?_⟩, fun x => ?_⟩
        · first | omega | (simp [own_upd] at *; omega)
        · first | omega | (simp [own_upd] at *; omega)
        · first | omega | (simp [own_upd] at *; omega)
        · first | omega | (simp [own_upd] at *; omega)
        · simp [own_cnt, own_upd]; try omega
      exact own_retV X106 hx Bd.notSynchronized e106 Bd.returns (hb hby d5_93) (⟨rfl, N106, f110, _, n, _, by omega, by omega, f108, f109, A106, Pg2, Or.inl rfl, hfin.1, hfin.2⟩) (by decide) (by decide)
set_option maxRecDepth 65536 in
set_option maxHeartbeats 40000000 in
theorem rm8_1 (l : Launch) (Z : State) (a0 : Array Value) (hw : ∀ d ∈ tables_1, d.before a0 Z = true) (ws : List Jvm.Cond) (a1 : Addr) (b1 : Addr) (n : Nat) (f : Nat → Int64) (h0 : Heap) (n0 : Nat) (Z0 : n0 ≤ h0.size) (PE : Exa Z h0 a1 "com/example/libmakespan/libmakespan/planners/LongHeap") (PF1 : Fld Z h0 a1 "com/example/libmakespan/libmakespan/planners/LongHeap" "values" "[J" (.ref b1)) (PF2 : Fld Z h0 a1 "com/example/libmakespan/libmakespan/planners/LongHeap" "size" "I" (.int (1 : Int32))) (PA : own_AJ Z h0 b1 n f) (Pg1 : n0 ≤ a1) (Pg2 : n0 ≤ b1) (hab : a1 ≠ b1) (hkn : 1 ≤ n) (hn8 : n ≤ 8) (HP : own_hp f 1) :
    MetFree l (⟨"com/example/libmakespan/libmakespan/planners/LongHeap", "remove", "()J"⟩ : MethodName) (head1 (Jvm.Cond.code (⟨"com/example/libmakespan/libmakespan/planners/LongHeap", "remove", "()J"⟩ : MethodName) prog_91_method_5_code 7 (some .long) :: ws) ({ frames := 0, cells := 0, slots := 0, locals := 0 } : Room)) (fun a U => a = #[(.ref a1)] ∧ Z.Warmed39 U.vm ∧ U.heap = h0) (fun _ _ _ _ _ => True) (fun _ U o U' => ∃ vv LL, o = .returned vv ∧ own_ap (fun v h L => v = some (.long (f 0)) ∧ Fr n0 L ∧ Keep h0 h [a1, b1] ∧ ∃ (f' : Nat → Int64), Fld Z h a1 "com/example/libmakespan/libmakespan/planners/LongHeap" "values" "[J" (.ref b1) ∧ Fld Z h a1 "com/example/libmakespan/libmakespan/planners/LongHeap" "size" "I" (.int (0 : Int32)) ∧ own_AJ Z h b1 n f' ∧ own_hp f' 0 ∧ ∀ x, own_cnt f x 1 = own_one (f 0) x + own_cnt f' x 0) vv U'.heap LL ∧ FrameEnd U o U' LL 0 0) := by
  refine MetFree.of_bodySF (plainFor_of_name pn_8) hisR ?_
  intro p e s m args below meth c s₁ Bd hml0 hP hK
  obtain ⟨rfl, hZ, hh⟩ := hP
  have hx := Bd.exec
  have hby := Bd.bytes
  have hml : c.maxLocals = 7 := hml0
  have hown : s.vm.findClass "com/example/libmakespan/libmakespan/planners/LongHeap" = some m.cls := findClass_of_methodNamed Bd.named
  have hnm := (name_of_methodNamed Bd.named Bd.method).1
  have X0 : Stand p l e ({ frames := 0, cells := 0, slots := 0, locals := 0 } : Room) s m #[(.ref a1)] below meth c s₁ [] 0 0 := Stand.of_body Bd
  have e0 : s₁.heap = h0 := by rw [← hh, Bd.state]; rfl
  have N0 := Fr.nil n0
  show own_Go p.tables e below (own_Q s (fun v h L => v = some (.long (f 0)) ∧ Fr n0 L ∧ Keep h0 h [a1, b1] ∧ ∃ (f' : Nat → Int64), Fld Z h a1 "com/example/libmakespan/libmakespan/planners/LongHeap" "values" "[J" (.ref b1) ∧ Fld Z h a1 "com/example/libmakespan/libmakespan/planners/LongHeap" "size" "I" (.int (0 : Int32)) ∧ own_AJ Z h b1 n f' ∧ own_hp f' 0 ∧ ∀ x, own_cnt f x 1 = own_one (f 0) x + own_cnt f' x 0) 0 0) (s₁.setTop (entryFrame m #[(.ref a1)] 7))
  rw [show entryFrame m #[(.ref a1)] 7 = mkF m 0 #[.val (.ref a1), .unset, .unset, .unset, .unset, .unset, .unset] [] from by first | (simp [entryFrame, mkF, argsToLocals, Value.category]; done) | rfl]
  show own_Go _ _ _ _ (s₁.setTop (mkF m 0 #[.val (.ref a1), .unset, .unset, .unset, .unset, .unset, .unset] []))
  refine own_by (fun _ k => XS.aloadN X0.here hx rfl (hb hby d8_0) rfl rfl k) ?_
  show own_Go _ _ _ _ (s₁.setTop (mkF m 1 #[.val (.ref a1), .unset, .unset, .unset, .unset, .unset, .unset] [(.ref a1)]))
  obtain ⟨T1, X1, e1, st1⟩ := getF X0 hx hZ hown (host := "") (Or.inl (hw _ (List.mem_of_getElem? (i := 20) rfl))) Via.refl e0 PF1 (g := (mkF m 1 #[.val (.ref a1), .unset, .unset, .unset, .unset, .unset, .unset] [(.ref a1)])) rfl rfl (hb hby d8_1)
  refine own_by st1 ?_
  refine own_by (fun _ k => XS.iconst X1.here hx rfl (hb hby d8_4) k) ?_
  show own_Go _ _ _ _ (T1.setTop (mkF m 5 #[.val (.ref a1), .unset, .unset, .unset, .unset, .unset, .unset] [(.int (0 : Int32)), (.ref b1)]))
  refine own_by (fun _ k => own_lal X1 hx hZ e1 PA 0 (by decide) (by omega) (hb hby d8_5) k) ?_
  show own_Go _ _ _ _ (T1.setTop (mkF m 6 #[.val (.ref a1), .unset, .unset, .unset, .unset, .unset, .unset] [(.long (f 0))]))
  refine own_by (fun _ k => XS.lstoreN X1.here hx rfl (hb hby d8_6) rfl (l' := #[.val (.ref a1), .val (.long (f 0)), .second, .unset, .unset, .unset, .unset]) rfl k) ?_
  refine own_by (fun _ k => XS.aloadN X1.here hx rfl (hb hby d8_7) rfl rfl k) ?_
  show own_Go _ _ _ _ (T1.setTop (mkF m 8 #[.val (.ref a1), .val (.long (f 0)), .second, .unset, .unset, .unset, .unset] [(.ref a1)]))
  obtain ⟨T2, X2, e2, st2⟩ := getF X1 hx hZ hown (host := "") (Or.inl (hw _ (List.mem_of_getElem? (i := 20) rfl))) Via.refl e1 PF1 (g := (mkF m 8 #[.val (.ref a1), .val (.long (f 0)), .second, .unset, .unset, .unset, .unset] [(.ref a1)])) rfl rfl (hb hby d8_8)
  refine own_by st2 ?_
  refine own_by (fun _ k => XS.aloadN X2.here hx rfl (hb hby d8_11) rfl rfl k) ?_
  show own_Go _ _ _ _ (T2.setTop (mkF m 12 #[.val (.ref a1), .val (.long (f 0)), .second, .unset, .unset, .unset, .unset] [(.ref a1), (.ref b1)]))
  refine own_by (fun _ k => XS.dup X2.here hx rfl (hb hby d8_12) rfl rfl k) ?_
  show own_Go _ _ _ _ (T2.setTop (mkF m 13 #[.val (.ref a1), .val (.long (f 0)), .second, .unset, .unset, .unset, .unset] [(.ref a1), (.ref a1), (.ref b1)]))
  obtain ⟨T3, X3, e3, st3⟩ := getF X2 hx hZ hown (host := "") (Or.inl (hw _ (List.mem_of_getElem? (i := 27) rfl))) Via.refl e2 PF2 (g := (mkF m 13 #[.val (.ref a1), .val (.long (f 0)), .second, .unset, .unset, .unset, .unset] [(.ref a1), (.ref a1), (.ref b1)])) rfl rfl (hb hby d8_13)
  refine own_by st3 ?_
  refine own_by (fun _ k => XS.iconst X3.here hx rfl (hb hby d8_16) k) ?_
  show own_Go _ _ _ _ (T3.setTop (mkF m 17 #[.val (.ref a1), .val (.long (f 0)), .second, .unset, .unset, .unset, .unset] [(.int (1 : Int32)), (.int (1 : Int32)), (.ref a1), (.ref b1)]))
  refine own_by (fun _ k => XS.isub X3.here hx rfl (hb hby d8_17) rfl k) ?_
  show own_Go _ _ _ _ (T3.setTop (mkF m 18 #[.val (.ref a1), .val (.long (f 0)), .second, .unset, .unset, .unset, .unset] [(.int ((1 : Int32) - (1 : Int32))), (.ref a1), (.ref b1)]))
  rw [(by decide : ((1 : Int32) - (1 : Int32)) = (0 : Int32))]
  show own_Go _ _ _ _ (T3.setTop (mkF m 18 #[.val (.ref a1), .val (.long (f 0)), .second, .unset, .unset, .unset, .unset] [(.int (0 : Int32)), (.ref a1), (.ref b1)]))
  refine own_by (fun _ k => XS.dupX1 X3.here hx rfl (hb hby d8_18) rfl rfl rfl k) ?_
  show own_Go _ _ _ _ (T3.setTop (mkF m 19 #[.val (.ref a1), .val (.long (f 0)), .second, .unset, .unset, .unset, .unset] [(.int (0 : Int32)), (.ref a1), (.int (0 : Int32)), (.ref b1)]))
  obtain ⟨T4, h4, X4, e4, W4, st4⟩ := putF X3 hx hZ hown (host := "") (Or.inl (hw _ (List.mem_of_getElem? (i := 27) rfl))) Via.refl e3 PF2 PE (Or.inl (hw _ (List.mem_of_getElem? (i := 28) rfl))) (hw _ (List.mem_of_getElem? (i := 8) rfl)) (ty := .int) (by decide) rfl rfl (g := (mkF m 19 #[.val (.ref a1), .val (.long (f 0)), .second, .unset, .unset, .unset, .unset] [(.int (0 : Int32)), (.ref a1), (.int (0 : Int32)), (.ref b1)])) rfl rfl (hb hby d8_19)
  refine own_by st4 ?_
  have f5 := PF2.same W4
  have f6 := PE.wr W4
  have f7 := PF1.other W4 (Or.inr (slot_ne (Or.inl (hw _ (List.mem_of_getElem? (i := 21) rfl))) (Or.inl (hw _ (List.mem_of_getElem? (i := 28) rfl))) (by decide) (t := (.array .long)) (t' := .int) (by decide) (by decide)))
  have f8 := PA.other W4 (Ne.symm hab)
  have f9 := (Keep.refl h0 [a1, b1]).wr W4 (Or.inl (List.mem_of_getElem? (i := 0) rfl))
  have N4 := Fr.snoc X4 N0 Pg1
  have Z4 := own_size_wr W4 Z0
  show own_Go _ _ _ _ (T4.setTop (mkF m 22 #[.val (.ref a1), .val (.long (f 0)), .second, .unset, .unset, .unset, .unset] [(.int (0 : Int32)), (.ref b1)]))
  refine own_by (fun _ k => own_lal X4 hx hZ e4 f8 0 (by decide) (by omega) (hb hby d8_22) k) ?_
  show own_Go _ _ _ _ (T4.setTop (mkF m 23 #[.val (.ref a1), .val (.long (f 0)), .second, .unset, .unset, .unset, .unset] [(.long (f 0))]))
  refine own_by (fun _ k => XS.lstoreN X4.here hx rfl (hb hby d8_23) rfl (l' := #[.val (.ref a1), .val (.long (f 0)), .second, .val (.long (f 0)), .second, .unset, .unset]) rfl k) ?_
  refine own_by (fun _ k => XS.iconst X4.here hx rfl (hb hby d8_24) k) ?_
  show own_Go _ _ _ _ (T4.setTop (mkF m 25 #[.val (.ref a1), .val (.long (f 0)), .second, .val (.long (f 0)), .second, .unset, .unset] [(.int (0 : Int32))]))
  refine own_by (fun _ k => XS.istore X4.here hx rfl (hb hby d8_25) rfl (l' := #[.val (.ref a1), .val (.long (f 0)), .second, .val (.long (f 0)), .second, .val (.int (0 : Int32)), .unset]) rfl k) ?_
  refine own_by (fun _ k => XS.iconst X4.here hx rfl (hb hby d8_27) k) ?_
  refine own_by (fun _ k => XS.iload X4.here hx rfl (hb hby d8_28) rfl k) ?_
  show own_Go _ _ _ _ (T4.setTop (mkF m 30 #[.val (.ref a1), .val (.long (f 0)), .second, .val (.long (f 0)), .second, .val (.int (0 : Int32)), .unset] [(.int (0 : Int32)), (.int (2 : Int32))]))
  refine own_by (fun _ k => XS.imul X4.here hx rfl (hb hby d8_30) rfl k) ?_
  show own_Go _ _ _ _ (T4.setTop (mkF m 31 #[.val (.ref a1), .val (.long (f 0)), .second, .val (.long (f 0)), .second, .val (.int (0 : Int32)), .unset] [(.int ((2 : Int32) * (0 : Int32)))]))
  rw [(by decide : ((2 : Int32) * (0 : Int32)) = (0 : Int32))]
  refine own_by (fun _ k => XS.iconst X4.here hx rfl (hb hby d8_31) k) ?_
  show own_Go _ _ _ _ (T4.setTop (mkF m 32 #[.val (.ref a1), .val (.long (f 0)), .second, .val (.long (f 0)), .second, .val (.int (0 : Int32)), .unset] [(.int (1 : Int32)), (.int (0 : Int32))]))
  refine own_by (fun _ k => XS.iadd X4.here hx rfl (hb hby d8_32) rfl k) ?_
  show own_Go _ _ _ _ (T4.setTop (mkF m 33 #[.val (.ref a1), .val (.long (f 0)), .second, .val (.long (f 0)), .second, .val (.int (0 : Int32)), .unset] [(.int ((0 : Int32) + (1 : Int32)))]))
  rw [(by decide : ((0 : Int32) + (1 : Int32)) = (1 : Int32))]
  show own_Go _ _ _ _ (T4.setTop (mkF m 33 #[.val (.ref a1), .val (.long (f 0)), .second, .val (.long (f 0)), .second, .val (.int (0 : Int32)), .unset] [(.int (1 : Int32))]))
  refine own_by (fun _ k => XS.istore X4.here hx rfl (hb hby d8_33) rfl (l' := #[.val (.ref a1), .val (.long (f 0)), .second, .val (.long (f 0)), .second, .val (.int (0 : Int32)), .val (.int (1 : Int32))]) rfl k) ?_
  refine own_by (fun _ k => XS.iload X4.here hx rfl (hb hby d8_35) rfl k) ?_
  refine own_by (fun _ k => XS.aloadN X4.here hx rfl (hb hby d8_37) rfl rfl k) ?_
  show own_Go _ _ _ _ (T4.setTop (mkF m 38 #[.val (.ref a1), .val (.long (f 0)), .second, .val (.long (f 0)), .second, .val (.int (0 : Int32)), .val (.int (1 : Int32))] [(.ref a1), (.int (1 : Int32))]))
  obtain ⟨T10, X10, e10, st10⟩ := getF X4 hx hZ hown (host := "") (Or.inl (hw _ (List.mem_of_getElem? (i := 27) rfl))) Via.refl e4 f5 (g := (mkF m 38 #[.val (.ref a1), .val (.long (f 0)), .second, .val (.long (f 0)), .second, .val (.int (0 : Int32)), .val (.int (1 : Int32))] [(.ref a1), (.int (1 : Int32))])) rfl rfl (hb hby d8_38)
  refine own_by st10 ?_
  show own_Go _ _ _ _ (T10.setTop (mkF m 41 #[.val (.ref a1), .val (.long (f 0)), .second, .val (.long (f 0)), .second, .val (.int (0 : Int32)), .val (.int (1 : Int32))] [(.int (0 : Int32)), (.int (1 : Int32))]))
  refine own_by (fun _ k => XS.icmpNo X10.here hx rfl (hb hby d8_41) rfl (flt (by decide)).1 k) ?_
  show own_Go _ _ _ _ (T10.setTop (mkF m 44 #[.val (.ref a1), .val (.long (f 0)), .second, .val (.long (f 0)), .second, .val (.int (0 : Int32)), .val (.int (1 : Int32))] []))
  refine own_by (fun _ k => XS.goto X10.here hx rfl (pc0 := 44) (pc' := 117) rfl (hb hby d8_44) (by decide) (by decide) k) ?_
  refine own_by (fun _ k => XS.aloadN X10.here hx rfl (hb hby d8_117) rfl rfl k) ?_
  show own_Go _ _ _ _ (T10.setTop (mkF m 118 #[.val (.ref a1), .val (.long (f 0)), .second, .val (.long (f 0)), .second, .val (.int (0 : Int32)), .val (.int (1 : Int32))] [(.ref a1)]))
  obtain ⟨T11, X11, e11, st11⟩ := getF X10 hx hZ hown (host := "") (Or.inl (hw _ (List.mem_of_getElem? (i := 20) rfl))) Via.refl e10 f7 (g := (mkF m 118 #[.val (.ref a1), .val (.long (f 0)), .second, .val (.long (f 0)), .second, .val (.int (0 : Int32)), .val (.int (1 : Int32))] [(.ref a1)])) rfl rfl (hb hby d8_118)
  refine own_by st11 ?_
  refine own_by (fun _ k => XS.iload X11.here hx rfl (hb hby d8_121) rfl k) ?_
  refine own_by (fun _ k => XS.lloadN X11.here hx rfl (hb hby d8_123) rfl k) ?_
  show own_Go _ _ _ _ (T11.setTop (mkF m 124 #[.val (.ref a1), .val (.long (f 0)), .second, .val (.long (f 0)), .second, .val (.int (0 : Int32)), .val (.int (1 : Int32))] [(.long (f 0)), (.int (0 : Int32)), (.ref b1)]))
  refine own_las X11 hx hZ e11 f8 0 (by decide) (by omega) (hb hby d8_124) ?_
  intro T12 h12 X12 e12 W12 A12
  have f13 := f6.wr W12
  have f14 := f7.other W12 (Or.inl hab)
  have f15 := f5.other W12 (Or.inl hab)
  have f16 := f9.wr W12 (Or.inl (List.mem_of_getElem? (i := 1) rfl))
  have N12 := Fr.snoc X12 N4 Pg2
  have Z12 := own_size_wr W12 Z4
  obtain ⟨fn12, hfn12⟩ : ∃ g : Nat → Int64, g = own_upd f 0 (f 0) := ⟨_, rfl⟩
  rw [← hfn12] at A12
  show own_Go _ _ _ _ (T12.setTop (mkF m 125 #[.val (.ref a1), .val (.long (f 0)), .second, .val (.long (f 0)), .second, .val (.int (0 : Int32)), .val (.int (1 : Int32))] []))
  refine own_by (fun _ k => XS.lloadN X12.here hx rfl (hb hby d8_125) rfl k) ?_
  show own_Go _ _ _ _ (T12.setTop (mkF m 126 #[.val (.ref a1), .val (.long (f 0)), .second, .val (.long (f 0)), .second, .val (.int (0 : Int32)), .val (.int (1 : Int32))] [(.long (f 0))]))
  have hfin : own_hp (fn12) 0 ∧ (∀ x, own_cnt f x 1 = own_one (f 0) x + own_cnt (fn12) x 0) := by
    simp only [hfn12]
    obtain ⟨H1, H2, H3, H4⟩ := HP
    refine ⟨⟨fun q => ?_, fun q => ?_, fun q => ?_, fun q => ?_⟩, fun x => ?_⟩
    · first | omega | (simp [own_upd] at *; omega)
    · first | omega | (simp [own_upd] at *; omega)
    · first | omega | (simp [own_upd] at *; omega)
    · first | omega | (simp [own_upd] at *; omega)
    · simp [own_cnt, own_upd]; try omega
  exact own_retJ X12 hx Bd.notSynchronized e12 Bd.returns (hb hby d8_126) (⟨rfl, N12, f16, _, f14, f15, A12, hfin.1, hfin.2⟩) (by decide) (by decide)
set_option maxRecDepth 65536 in
set_option maxHeartbeats 40000000 in
theorem rm8_2 (l : Launch) (Z : State) (a0 : Array Value) (hw : ∀ d ∈ tables_1, d.before a0 Z = true) (ws : List Jvm.Cond) (a1 : Addr) (b1 : Addr) (n : Nat) (f : Nat → Int64) (h0 : Heap) (n0 : Nat) (Z0 : n0 ≤ h0.size) (PE : Exa Z h0 a1 "com/example/libmakespan/libmakespan/planners/LongHeap") (PF1 : Fld Z h0 a1 "com/example/libmakespan/libmakespan/planners/LongHeap" "values" "[J" (.ref b1)) (PF2 : Fld Z h0 a1 "com/example/libmakespan/libmakespan/planners/LongHeap" "size" "I" (.int (2 : Int32))) (PA : own_AJ Z h0 b1 n f) (Pg1 : n0 ≤ a1) (Pg2 : n0 ≤ b1) (hab : a1 ≠ b1) (hkn : 2 ≤ n) (hn8 : n ≤ 8) (HP : own_hp f 2) :
    MetFree l (⟨"com/example/libmakespan/libmakespan/planners/LongHeap", "remove", "()J"⟩ : MethodName) (head1 (Jvm.Cond.code (⟨"com/example/libmakespan/libmakespan/planners/LongHeap", "remove", "()J"⟩ : MethodName) prog_91_method_5_code 7 (some .long) :: ws) ({ frames := 0, cells := 0, slots := 0, locals := 0 } : Room)) (fun a U => a = #[(.ref a1)] ∧ Z.Warmed39 U.vm ∧ U.heap = h0) (fun _ _ _ _ _ => True) (fun _ U o U' => ∃ vv LL, o = .returned vv ∧ own_ap (fun v h L => v = some (.long (f 0)) ∧ Fr n0 L ∧ Keep h0 h [a1, b1] ∧ ∃ (f' : Nat → Int64), Fld Z h a1 "com/example/libmakespan/libmakespan/planners/LongHeap" "values" "[J" (.ref b1) ∧ Fld Z h a1 "com/example/libmakespan/libmakespan/planners/LongHeap" "size" "I" (.int (1 : Int32)) ∧ own_AJ Z h b1 n f' ∧ own_hp f' 1 ∧ ∀ x, own_cnt f x 2 = own_one (f 0) x + own_cnt f' x 1) vv U'.heap LL ∧ FrameEnd U o U' LL 0 0) := by
  refine MetFree.of_bodySF (plainFor_of_name pn_8) hisR ?_
  intro p e s m args below meth c s₁ Bd hml0 hP hK
  obtain ⟨rfl, hZ, hh⟩ := hP
  have hx := Bd.exec
  have hby := Bd.bytes
  have hml : c.maxLocals = 7 := hml0
  have hown : s.vm.findClass "com/example/libmakespan/libmakespan/planners/LongHeap" = some m.cls := findClass_of_methodNamed Bd.named
  have hnm := (name_of_methodNamed Bd.named Bd.method).1
  have X0 : Stand p l e ({ frames := 0, cells := 0, slots := 0, locals := 0 } : Room) s m #[(.ref a1)] below meth c s₁ [] 0 0 := Stand.of_body Bd
  have e0 : s₁.heap = h0 := by rw [← hh, Bd.state]; rfl
  have N0 := Fr.nil n0
  show own_Go p.tables e below (own_Q s (fun v h L => v = some (.long (f 0)) ∧ Fr n0 L ∧ Keep h0 h [a1, b1] ∧ ∃ (f' : Nat → Int64), Fld Z h a1 "com/example/libmakespan/libmakespan/planners/LongHeap" "values" "[J" (.ref b1) ∧ Fld Z h a1 "com/example/libmakespan/libmakespan/planners/LongHeap" "size" "I" (.int (1 : Int32)) ∧ own_AJ Z h b1 n f' ∧ own_hp f' 1 ∧ ∀ x, own_cnt f x 2 = own_one (f 0) x + own_cnt f' x 1) 0 0) (s₁.setTop (entryFrame m #[(.ref a1)] 7))
  rw [show entryFrame m #[(.ref a1)] 7 = mkF m 0 #[.val (.ref a1), .unset, .unset, .unset, .unset, .unset, .unset] [] from by first | (simp [entryFrame, mkF, argsToLocals, Value.category]; done) | rfl]
  show own_Go _ _ _ _ (s₁.setTop (mkF m 0 #[.val (.ref a1), .unset, .unset, .unset, .unset, .unset, .unset] []))
  refine own_by (fun _ k => XS.aloadN X0.here hx rfl (hb hby d8_0) rfl rfl k) ?_
  show own_Go _ _ _ _ (s₁.setTop (mkF m 1 #[.val (.ref a1), .unset, .unset, .unset, .unset, .unset, .unset] [(.ref a1)]))
  obtain ⟨T1, X1, e1, st1⟩ := getF X0 hx hZ hown (host := "") (Or.inl (hw _ (List.mem_of_getElem? (i := 20) rfl))) Via.refl e0 PF1 (g := (mkF m 1 #[.val (.ref a1), .unset, .unset, .unset, .unset, .unset, .unset] [(.ref a1)])) rfl rfl (hb hby d8_1)
  refine own_by st1 ?_
  refine own_by (fun _ k => XS.iconst X1.here hx rfl (hb hby d8_4) k) ?_
  show own_Go _ _ _ _ (T1.setTop (mkF m 5 #[.val (.ref a1), .unset, .unset, .unset, .unset, .unset, .unset] [(.int (0 : Int32)), (.ref b1)]))
  refine own_by (fun _ k => own_lal X1 hx hZ e1 PA 0 (by decide) (by omega) (hb hby d8_5) k) ?_
  show own_Go _ _ _ _ (T1.setTop (mkF m 6 #[.val (.ref a1), .unset, .unset, .unset, .unset, .unset, .unset] [(.long (f 0))]))
  refine own_by (fun _ k => XS.lstoreN X1.here hx rfl (hb hby d8_6) rfl (l' := #[.val (.ref a1), .val (.long (f 0)), .second, .unset, .unset, .unset, .unset]) rfl k) ?_
  refine own_by (fun _ k => XS.aloadN X1.here hx rfl (hb hby d8_7) rfl rfl k) ?_
  show own_Go _ _ _ _ (T1.setTop (mkF m 8 #[.val (.ref a1), .val (.long (f 0)), .second, .unset, .unset, .unset, .unset] [(.ref a1)]))
  obtain ⟨T2, X2, e2, st2⟩ := getF X1 hx hZ hown (host := "") (Or.inl (hw _ (List.mem_of_getElem? (i := 20) rfl))) Via.refl e1 PF1 (g := (mkF m 8 #[.val (.ref a1), .val (.long (f 0)), .second, .unset, .unset, .unset, .unset] [(.ref a1)])) rfl rfl (hb hby d8_8)
  refine own_by st2 ?_
  refine own_by (fun _ k => XS.aloadN X2.here hx rfl (hb hby d8_11) rfl rfl k) ?_
  show own_Go _ _ _ _ (T2.setTop (mkF m 12 #[.val (.ref a1), .val (.long (f 0)), .second, .unset, .unset, .unset, .unset] [(.ref a1), (.ref b1)]))
  refine own_by (fun _ k => XS.dup X2.here hx rfl (hb hby d8_12) rfl rfl k) ?_
  show own_Go _ _ _ _ (T2.setTop (mkF m 13 #[.val (.ref a1), .val (.long (f 0)), .second, .unset, .unset, .unset, .unset] [(.ref a1), (.ref a1), (.ref b1)]))
  obtain ⟨T3, X3, e3, st3⟩ := getF X2 hx hZ hown (host := "") (Or.inl (hw _ (List.mem_of_getElem? (i := 27) rfl))) Via.refl e2 PF2 (g := (mkF m 13 #[.val (.ref a1), .val (.long (f 0)), .second, .unset, .unset, .unset, .unset] [(.ref a1), (.ref a1), (.ref b1)])) rfl rfl (hb hby d8_13)
  refine own_by st3 ?_
  refine own_by (fun _ k => XS.iconst X3.here hx rfl (hb hby d8_16) k) ?_
  show own_Go _ _ _ _ (T3.setTop (mkF m 17 #[.val (.ref a1), .val (.long (f 0)), .second, .unset, .unset, .unset, .unset] [(.int (1 : Int32)), (.int (2 : Int32)), (.ref a1), (.ref b1)]))
  refine own_by (fun _ k => XS.isub X3.here hx rfl (hb hby d8_17) rfl k) ?_
  show own_Go _ _ _ _ (T3.setTop (mkF m 18 #[.val (.ref a1), .val (.long (f 0)), .second, .unset, .unset, .unset, .unset] [(.int ((2 : Int32) - (1 : Int32))), (.ref a1), (.ref b1)]))
  rw [(by decide : ((2 : Int32) - (1 : Int32)) = (1 : Int32))]
  show own_Go _ _ _ _ (T3.setTop (mkF m 18 #[.val (.ref a1), .val (.long (f 0)), .second, .unset, .unset, .unset, .unset] [(.int (1 : Int32)), (.ref a1), (.ref b1)]))
  refine own_by (fun _ k => XS.dupX1 X3.here hx rfl (hb hby d8_18) rfl rfl rfl k) ?_
  show own_Go _ _ _ _ (T3.setTop (mkF m 19 #[.val (.ref a1), .val (.long (f 0)), .second, .unset, .unset, .unset, .unset] [(.int (1 : Int32)), (.ref a1), (.int (1 : Int32)), (.ref b1)]))
  obtain ⟨T4, h4, X4, e4, W4, st4⟩ := putF X3 hx hZ hown (host := "") (Or.inl (hw _ (List.mem_of_getElem? (i := 27) rfl))) Via.refl e3 PF2 PE (Or.inl (hw _ (List.mem_of_getElem? (i := 28) rfl))) (hw _ (List.mem_of_getElem? (i := 8) rfl)) (ty := .int) (by decide) rfl rfl (g := (mkF m 19 #[.val (.ref a1), .val (.long (f 0)), .second, .unset, .unset, .unset, .unset] [(.int (1 : Int32)), (.ref a1), (.int (1 : Int32)), (.ref b1)])) rfl rfl (hb hby d8_19)
  refine own_by st4 ?_
  have f5 := PF2.same W4
  have f6 := PE.wr W4
  have f7 := PF1.other W4 (Or.inr (slot_ne (Or.inl (hw _ (List.mem_of_getElem? (i := 21) rfl))) (Or.inl (hw _ (List.mem_of_getElem? (i := 28) rfl))) (by decide) (t := (.array .long)) (t' := .int) (by decide) (by decide)))
  have f8 := PA.other W4 (Ne.symm hab)
  have f9 := (Keep.refl h0 [a1, b1]).wr W4 (Or.inl (List.mem_of_getElem? (i := 0) rfl))
  have N4 := Fr.snoc X4 N0 Pg1
  have Z4 := own_size_wr W4 Z0
  show own_Go _ _ _ _ (T4.setTop (mkF m 22 #[.val (.ref a1), .val (.long (f 0)), .second, .unset, .unset, .unset, .unset] [(.int (1 : Int32)), (.ref b1)]))
  refine own_by (fun _ k => own_lal X4 hx hZ e4 f8 1 (by decide) (by omega) (hb hby d8_22) k) ?_
  show own_Go _ _ _ _ (T4.setTop (mkF m 23 #[.val (.ref a1), .val (.long (f 0)), .second, .unset, .unset, .unset, .unset] [(.long (f 1))]))
  refine own_by (fun _ k => XS.lstoreN X4.here hx rfl (hb hby d8_23) rfl (l' := #[.val (.ref a1), .val (.long (f 0)), .second, .val (.long (f 1)), .second, .unset, .unset]) rfl k) ?_
  refine own_by (fun _ k => XS.iconst X4.here hx rfl (hb hby d8_24) k) ?_
  show own_Go _ _ _ _ (T4.setTop (mkF m 25 #[.val (.ref a1), .val (.long (f 0)), .second, .val (.long (f 1)), .second, .unset, .unset] [(.int (0 : Int32))]))
  refine own_by (fun _ k => XS.istore X4.here hx rfl (hb hby d8_25) rfl (l' := #[.val (.ref a1), .val (.long (f 0)), .second, .val (.long (f 1)), .second, .val (.int (0 : Int32)), .unset]) rfl k) ?_
  refine own_by (fun _ k => XS.iconst X4.here hx rfl (hb hby d8_27) k) ?_
  refine own_by (fun _ k => XS.iload X4.here hx rfl (hb hby d8_28) rfl k) ?_
  show own_Go _ _ _ _ (T4.setTop (mkF m 30 #[.val (.ref a1), .val (.long (f 0)), .second, .val (.long (f 1)), .second, .val (.int (0 : Int32)), .unset] [(.int (0 : Int32)), (.int (2 : Int32))]))
  refine own_by (fun _ k => XS.imul X4.here hx rfl (hb hby d8_30) rfl k) ?_
  show own_Go _ _ _ _ (T4.setTop (mkF m 31 #[.val (.ref a1), .val (.long (f 0)), .second, .val (.long (f 1)), .second, .val (.int (0 : Int32)), .unset] [(.int ((2 : Int32) * (0 : Int32)))]))
  rw [(by decide : ((2 : Int32) * (0 : Int32)) = (0 : Int32))]
  refine own_by (fun _ k => XS.iconst X4.here hx rfl (hb hby d8_31) k) ?_
  show own_Go _ _ _ _ (T4.setTop (mkF m 32 #[.val (.ref a1), .val (.long (f 0)), .second, .val (.long (f 1)), .second, .val (.int (0 : Int32)), .unset] [(.int (1 : Int32)), (.int (0 : Int32))]))
  refine own_by (fun _ k => XS.iadd X4.here hx rfl (hb hby d8_32) rfl k) ?_
  show own_Go _ _ _ _ (T4.setTop (mkF m 33 #[.val (.ref a1), .val (.long (f 0)), .second, .val (.long (f 1)), .second, .val (.int (0 : Int32)), .unset] [(.int ((0 : Int32) + (1 : Int32)))]))
  rw [(by decide : ((0 : Int32) + (1 : Int32)) = (1 : Int32))]
  show own_Go _ _ _ _ (T4.setTop (mkF m 33 #[.val (.ref a1), .val (.long (f 0)), .second, .val (.long (f 1)), .second, .val (.int (0 : Int32)), .unset] [(.int (1 : Int32))]))
  refine own_by (fun _ k => XS.istore X4.here hx rfl (hb hby d8_33) rfl (l' := #[.val (.ref a1), .val (.long (f 0)), .second, .val (.long (f 1)), .second, .val (.int (0 : Int32)), .val (.int (1 : Int32))]) rfl k) ?_
  refine own_by (fun _ k => XS.iload X4.here hx rfl (hb hby d8_35) rfl k) ?_
  refine own_by (fun _ k => XS.aloadN X4.here hx rfl (hb hby d8_37) rfl rfl k) ?_
  show own_Go _ _ _ _ (T4.setTop (mkF m 38 #[.val (.ref a1), .val (.long (f 0)), .second, .val (.long (f 1)), .second, .val (.int (0 : Int32)), .val (.int (1 : Int32))] [(.ref a1), (.int (1 : Int32))]))
  obtain ⟨T10, X10, e10, st10⟩ := getF X4 hx hZ hown (host := "") (Or.inl (hw _ (List.mem_of_getElem? (i := 27) rfl))) Via.refl e4 f5 (g := (mkF m 38 #[.val (.ref a1), .val (.long (f 0)), .second, .val (.long (f 1)), .second, .val (.int (0 : Int32)), .val (.int (1 : Int32))] [(.ref a1), (.int (1 : Int32))])) rfl rfl (hb hby d8_38)
  refine own_by st10 ?_
  show own_Go _ _ _ _ (T10.setTop (mkF m 41 #[.val (.ref a1), .val (.long (f 0)), .second, .val (.long (f 1)), .second, .val (.int (0 : Int32)), .val (.int (1 : Int32))] [(.int (1 : Int32)), (.int (1 : Int32))]))
  refine own_by (fun _ k => XS.icmpNo X10.here hx rfl (hb hby d8_41) rfl (flt (by decide)).1 k) ?_
  show own_Go _ _ _ _ (T10.setTop (mkF m 44 #[.val (.ref a1), .val (.long (f 0)), .second, .val (.long (f 1)), .second, .val (.int (0 : Int32)), .val (.int (1 : Int32))] []))
  refine own_by (fun _ k => XS.goto X10.here hx rfl (pc0 := 44) (pc' := 117) rfl (hb hby d8_44) (by decide) (by decide) k) ?_
  refine own_by (fun _ k => XS.aloadN X10.here hx rfl (hb hby d8_117) rfl rfl k) ?_
  show own_Go _ _ _ _ (T10.setTop (mkF m 118 #[.val (.ref a1), .val (.long (f 0)), .second, .val (.long (f 1)), .second, .val (.int (0 : Int32)), .val (.int (1 : Int32))] [(.ref a1)]))
  obtain ⟨T11, X11, e11, st11⟩ := getF X10 hx hZ hown (host := "") (Or.inl (hw _ (List.mem_of_getElem? (i := 20) rfl))) Via.refl e10 f7 (g := (mkF m 118 #[.val (.ref a1), .val (.long (f 0)), .second, .val (.long (f 1)), .second, .val (.int (0 : Int32)), .val (.int (1 : Int32))] [(.ref a1)])) rfl rfl (hb hby d8_118)
  refine own_by st11 ?_
  refine own_by (fun _ k => XS.iload X11.here hx rfl (hb hby d8_121) rfl k) ?_
  refine own_by (fun _ k => XS.lloadN X11.here hx rfl (hb hby d8_123) rfl k) ?_
  show own_Go _ _ _ _ (T11.setTop (mkF m 124 #[.val (.ref a1), .val (.long (f 0)), .second, .val (.long (f 1)), .second, .val (.int (0 : Int32)), .val (.int (1 : Int32))] [(.long (f 1)), (.int (0 : Int32)), (.ref b1)]))
  refine own_las X11 hx hZ e11 f8 0 (by decide) (by omega) (hb hby d8_124) ?_
  intro T12 h12 X12 e12 W12 A12
  have f13 := f6.wr W12
  have f14 := f7.other W12 (Or.inl hab)
  have f15 := f5.other W12 (Or.inl hab)
  have f16 := f9.wr W12 (Or.inl (List.mem_of_getElem? (i := 1) rfl))
  have N12 := Fr.snoc X12 N4 Pg2
  have Z12 := own_size_wr W12 Z4
  obtain ⟨fn12, hfn12⟩ : ∃ g : Nat → Int64, g = own_upd f 0 (f 1) := ⟨_, rfl⟩
  rw [← hfn12] at A12
  show own_Go _ _ _ _ (T12.setTop (mkF m 125 #[.val (.ref a1), .val (.long (f 0)), .second, .val (.long (f 1)), .second, .val (.int (0 : Int32)), .val (.int (1 : Int32))] []))
  refine own_by (fun _ k => XS.lloadN X12.here hx rfl (hb hby d8_125) rfl k) ?_
  show own_Go _ _ _ _ (T12.setTop (mkF m 126 #[.val (.ref a1), .val (.long (f 0)), .second, .val (.long (f 1)), .second, .val (.int (0 : Int32)), .val (.int (1 : Int32))] [(.long (f 0))]))
  have hfin : own_hp (fn12) 1 ∧ (∀ x, own_cnt f x 2 = own_one (f 0) x + own_cnt (fn12) x 1) := by
    simp only [hfn12]
    obtain ⟨H1, H2, H3, H4⟩ := HP
    refine ⟨⟨fun q => ?_, fun q => ?_, fun q => ?_, fun q => ?_⟩, fun x => ?_⟩
    · first | omega | (simp [own_upd] at *; omega)
    · first | omega | (simp [own_upd] at *; omega)
    · first | omega | (simp [own_upd] at *; omega)
    · first | omega | (simp [own_upd] at *; omega)
    · simp [own_cnt, own_upd]; try omega
  exact own_retJ X12 hx Bd.notSynchronized e12 Bd.returns (hb hby d8_126) (⟨rfl, N12, f16, _, f14, f15, A12, hfin.1, hfin.2⟩) (by decide) (by decide)
set_option maxRecDepth 65536 in
set_option maxHeartbeats 40000000 in
theorem rm8_3 (l : Launch) (Z : State) (a0 : Array Value) (hw : ∀ d ∈ tables_1, d.before a0 Z = true) (ws : List Jvm.Cond) (a1 : Addr) (b1 : Addr) (n : Nat) (f : Nat → Int64) (h0 : Heap) (n0 : Nat) (Z0 : n0 ≤ h0.size) (PE : Exa Z h0 a1 "com/example/libmakespan/libmakespan/planners/LongHeap") (PF1 : Fld Z h0 a1 "com/example/libmakespan/libmakespan/planners/LongHeap" "values" "[J" (.ref b1)) (PF2 : Fld Z h0 a1 "com/example/libmakespan/libmakespan/planners/LongHeap" "size" "I" (.int (3 : Int32))) (PA : own_AJ Z h0 b1 n f) (Pg1 : n0 ≤ a1) (Pg2 : n0 ≤ b1) (hab : a1 ≠ b1) (hkn : 3 ≤ n) (hn8 : n ≤ 8) (HP : own_hp f 3) :
    MetFree l (⟨"com/example/libmakespan/libmakespan/planners/LongHeap", "remove", "()J"⟩ : MethodName) (head1 (Jvm.Cond.code (⟨"com/example/libmakespan/libmakespan/planners/LongHeap", "remove", "()J"⟩ : MethodName) prog_91_method_5_code 7 (some .long) :: ws) ({ frames := 0, cells := 0, slots := 0, locals := 0 } : Room)) (fun a U => a = #[(.ref a1)] ∧ Z.Warmed39 U.vm ∧ U.heap = h0) (fun _ _ _ _ _ => True) (fun _ U o U' => ∃ vv LL, o = .returned vv ∧ own_ap (fun v h L => v = some (.long (f 0)) ∧ Fr n0 L ∧ Keep h0 h [a1, b1] ∧ ∃ (f' : Nat → Int64), Fld Z h a1 "com/example/libmakespan/libmakespan/planners/LongHeap" "values" "[J" (.ref b1) ∧ Fld Z h a1 "com/example/libmakespan/libmakespan/planners/LongHeap" "size" "I" (.int (2 : Int32)) ∧ own_AJ Z h b1 n f' ∧ own_hp f' 2 ∧ ∀ x, own_cnt f x 3 = own_one (f 0) x + own_cnt f' x 2) vv U'.heap LL ∧ FrameEnd U o U' LL 0 0) := by
  refine MetFree.of_bodySF (plainFor_of_name pn_8) hisR ?_
  intro p e s m args below meth c s₁ Bd hml0 hP hK
  obtain ⟨rfl, hZ, hh⟩ := hP
  have hx := Bd.exec
  have hby := Bd.bytes
  have hml : c.maxLocals = 7 := hml0
  have hown : s.vm.findClass "com/example/libmakespan/libmakespan/planners/LongHeap" = some m.cls := findClass_of_methodNamed Bd.named
  have hnm := (name_of_methodNamed Bd.named Bd.method).1
  have X0 : Stand p l e ({ frames := 0, cells := 0, slots := 0, locals := 0 } : Room) s m #[(.ref a1)] below meth c s₁ [] 0 0 := Stand.of_body Bd
  have e0 : s₁.heap = h0 := by rw [← hh, Bd.state]; rfl
  have N0 := Fr.nil n0
  show own_Go p.tables e below (own_Q s (fun v h L => v = some (.long (f 0)) ∧ Fr n0 L ∧ Keep h0 h [a1, b1] ∧ ∃ (f' : Nat → Int64), Fld Z h a1 "com/example/libmakespan/libmakespan/planners/LongHeap" "values" "[J" (.ref b1) ∧ Fld Z h a1 "com/example/libmakespan/libmakespan/planners/LongHeap" "size" "I" (.int (2 : Int32)) ∧ own_AJ Z h b1 n f' ∧ own_hp f' 2 ∧ ∀ x, own_cnt f x 3 = own_one (f 0) x + own_cnt f' x 2) 0 0) (s₁.setTop (entryFrame m #[(.ref a1)] 7))
  rw [show entryFrame m #[(.ref a1)] 7 = mkF m 0 #[.val (.ref a1), .unset, .unset, .unset, .unset, .unset, .unset] [] from by first | (simp [entryFrame, mkF, argsToLocals, Value.category]; done) | rfl]
  show own_Go _ _ _ _ (s₁.setTop (mkF m 0 #[.val (.ref a1), .unset, .unset, .unset, .unset, .unset, .unset] []))
  refine own_by (fun _ k => XS.aloadN X0.here hx rfl (hb hby d8_0) rfl rfl k) ?_
  show own_Go _ _ _ _ (s₁.setTop (mkF m 1 #[.val (.ref a1), .unset, .unset, .unset, .unset, .unset, .unset] [(.ref a1)]))
  obtain ⟨T1, X1, e1, st1⟩ := getF X0 hx hZ hown (host := "") (Or.inl (hw _ (List.mem_of_getElem? (i := 20) rfl))) Via.refl e0 PF1 (g := (mkF m 1 #[.val (.ref a1), .unset, .unset, .unset, .unset, .unset, .unset] [(.ref a1)])) rfl rfl (hb hby d8_1)
  refine own_by st1 ?_
  refine own_by (fun _ k => XS.iconst X1.here hx rfl (hb hby d8_4) k) ?_
  show own_Go _ _ _ _ (T1.setTop (mkF m 5 #[.val (.ref a1), .unset, .unset, .unset, .unset, .unset, .unset] [(.int (0 : Int32)), (.ref b1)]))
  refine own_by (fun _ k => own_lal X1 hx hZ e1 PA 0 (by decide) (by omega) (hb hby d8_5) k) ?_
  show own_Go _ _ _ _ (T1.setTop (mkF m 6 #[.val (.ref a1), .unset, .unset, .unset, .unset, .unset, .unset] [(.long (f 0))]))
  refine own_by (fun _ k => XS.lstoreN X1.here hx rfl (hb hby d8_6) rfl (l' := #[.val (.ref a1), .val (.long (f 0)), .second, .unset, .unset, .unset, .unset]) rfl k) ?_
  refine own_by (fun _ k => XS.aloadN X1.here hx rfl (hb hby d8_7) rfl rfl k) ?_
  show own_Go _ _ _ _ (T1.setTop (mkF m 8 #[.val (.ref a1), .val (.long (f 0)), .second, .unset, .unset, .unset, .unset] [(.ref a1)]))
  obtain ⟨T2, X2, e2, st2⟩ := getF X1 hx hZ hown (host := "") (Or.inl (hw _ (List.mem_of_getElem? (i := 20) rfl))) Via.refl e1 PF1 (g := (mkF m 8 #[.val (.ref a1), .val (.long (f 0)), .second, .unset, .unset, .unset, .unset] [(.ref a1)])) rfl rfl (hb hby d8_8)
  refine own_by st2 ?_
  refine own_by (fun _ k => XS.aloadN X2.here hx rfl (hb hby d8_11) rfl rfl k) ?_
  show own_Go _ _ _ _ (T2.setTop (mkF m 12 #[.val (.ref a1), .val (.long (f 0)), .second, .unset, .unset, .unset, .unset] [(.ref a1), (.ref b1)]))
  refine own_by (fun _ k => XS.dup X2.here hx rfl (hb hby d8_12) rfl rfl k) ?_
  show own_Go _ _ _ _ (T2.setTop (mkF m 13 #[.val (.ref a1), .val (.long (f 0)), .second, .unset, .unset, .unset, .unset] [(.ref a1), (.ref a1), (.ref b1)]))
  obtain ⟨T3, X3, e3, st3⟩ := getF X2 hx hZ hown (host := "") (Or.inl (hw _ (List.mem_of_getElem? (i := 27) rfl))) Via.refl e2 PF2 (g := (mkF m 13 #[.val (.ref a1), .val (.long (f 0)), .second, .unset, .unset, .unset, .unset] [(.ref a1), (.ref a1), (.ref b1)])) rfl rfl (hb hby d8_13)
  refine own_by st3 ?_
  refine own_by (fun _ k => XS.iconst X3.here hx rfl (hb hby d8_16) k) ?_
  show own_Go _ _ _ _ (T3.setTop (mkF m 17 #[.val (.ref a1), .val (.long (f 0)), .second, .unset, .unset, .unset, .unset] [(.int (1 : Int32)), (.int (3 : Int32)), (.ref a1), (.ref b1)]))
  refine own_by (fun _ k => XS.isub X3.here hx rfl (hb hby d8_17) rfl k) ?_
  show own_Go _ _ _ _ (T3.setTop (mkF m 18 #[.val (.ref a1), .val (.long (f 0)), .second, .unset, .unset, .unset, .unset] [(.int ((3 : Int32) - (1 : Int32))), (.ref a1), (.ref b1)]))
  rw [(by decide : ((3 : Int32) - (1 : Int32)) = (2 : Int32))]
  show own_Go _ _ _ _ (T3.setTop (mkF m 18 #[.val (.ref a1), .val (.long (f 0)), .second, .unset, .unset, .unset, .unset] [(.int (2 : Int32)), (.ref a1), (.ref b1)]))
  refine own_by (fun _ k => XS.dupX1 X3.here hx rfl (hb hby d8_18) rfl rfl rfl k) ?_
  show own_Go _ _ _ _ (T3.setTop (mkF m 19 #[.val (.ref a1), .val (.long (f 0)), .second, .unset, .unset, .unset, .unset] [(.int (2 : Int32)), (.ref a1), (.int (2 : Int32)), (.ref b1)]))
  obtain ⟨T4, h4, X4, e4, W4, st4⟩ := putF X3 hx hZ hown (host := "") (Or.inl (hw _ (List.mem_of_getElem? (i := 27) rfl))) Via.refl e3 PF2 PE (Or.inl (hw _ (List.mem_of_getElem? (i := 28) rfl))) (hw _ (List.mem_of_getElem? (i := 8) rfl)) (ty := .int) (by decide) rfl rfl (g := (mkF m 19 #[.val (.ref a1), .val (.long (f 0)), .second, .unset, .unset, .unset, .unset] [(.int (2 : Int32)), (.ref a1), (.int (2 : Int32)), (.ref b1)])) rfl rfl (hb hby d8_19)
  refine own_by st4 ?_
  have f5 := PF2.same W4
  have f6 := PE.wr W4
  have f7 := PF1.other W4 (Or.inr (slot_ne (Or.inl (hw _ (List.mem_of_getElem? (i := 21) rfl))) (Or.inl (hw _ (List.mem_of_getElem? (i := 28) rfl))) (by decide) (t := (.array .long)) (t' := .int) (by decide) (by decide)))
  have f8 := PA.other W4 (Ne.symm hab)
  have f9 := (Keep.refl h0 [a1, b1]).wr W4 (Or.inl (List.mem_of_getElem? (i := 0) rfl))
  have N4 := Fr.snoc X4 N0 Pg1
  have Z4 := own_size_wr W4 Z0
  show own_Go _ _ _ _ (T4.setTop (mkF m 22 #[.val (.ref a1), .val (.long (f 0)), .second, .unset, .unset, .unset, .unset] [(.int (2 : Int32)), (.ref b1)]))
  refine own_by (fun _ k => own_lal X4 hx hZ e4 f8 2 (by decide) (by omega) (hb hby d8_22) k) ?_
  show own_Go _ _ _ _ (T4.setTop (mkF m 23 #[.val (.ref a1), .val (.long (f 0)), .second, .unset, .unset, .unset, .unset] [(.long (f 2))]))
  refine own_by (fun _ k => XS.lstoreN X4.here hx rfl (hb hby d8_23) rfl (l' := #[.val (.ref a1), .val (.long (f 0)), .second, .val (.long (f 2)), .second, .unset, .unset]) rfl k) ?_
  refine own_by (fun _ k => XS.iconst X4.here hx rfl (hb hby d8_24) k) ?_
  show own_Go _ _ _ _ (T4.setTop (mkF m 25 #[.val (.ref a1), .val (.long (f 0)), .second, .val (.long (f 2)), .second, .unset, .unset] [(.int (0 : Int32))]))
  refine own_by (fun _ k => XS.istore X4.here hx rfl (hb hby d8_25) rfl (l' := #[.val (.ref a1), .val (.long (f 0)), .second, .val (.long (f 2)), .second, .val (.int (0 : Int32)), .unset]) rfl k) ?_
  refine own_by (fun _ k => XS.iconst X4.here hx rfl (hb hby d8_27) k) ?_
  refine own_by (fun _ k => XS.iload X4.here hx rfl (hb hby d8_28) rfl k) ?_
  show own_Go _ _ _ _ (T4.setTop (mkF m 30 #[.val (.ref a1), .val (.long (f 0)), .second, .val (.long (f 2)), .second, .val (.int (0 : Int32)), .unset] [(.int (0 : Int32)), (.int (2 : Int32))]))
  refine own_by (fun _ k => XS.imul X4.here hx rfl (hb hby d8_30) rfl k) ?_
  show own_Go _ _ _ _ (T4.setTop (mkF m 31 #[.val (.ref a1), .val (.long (f 0)), .second, .val (.long (f 2)), .second, .val (.int (0 : Int32)), .unset] [(.int ((2 : Int32) * (0 : Int32)))]))
  rw [(by decide : ((2 : Int32) * (0 : Int32)) = (0 : Int32))]
  refine own_by (fun _ k => XS.iconst X4.here hx rfl (hb hby d8_31) k) ?_
  show own_Go _ _ _ _ (T4.setTop (mkF m 32 #[.val (.ref a1), .val (.long (f 0)), .second, .val (.long (f 2)), .second, .val (.int (0 : Int32)), .unset] [(.int (1 : Int32)), (.int (0 : Int32))]))
  refine own_by (fun _ k => XS.iadd X4.here hx rfl (hb hby d8_32) rfl k) ?_
  show own_Go _ _ _ _ (T4.setTop (mkF m 33 #[.val (.ref a1), .val (.long (f 0)), .second, .val (.long (f 2)), .second, .val (.int (0 : Int32)), .unset] [(.int ((0 : Int32) + (1 : Int32)))]))
  rw [(by decide : ((0 : Int32) + (1 : Int32)) = (1 : Int32))]
  show own_Go _ _ _ _ (T4.setTop (mkF m 33 #[.val (.ref a1), .val (.long (f 0)), .second, .val (.long (f 2)), .second, .val (.int (0 : Int32)), .unset] [(.int (1 : Int32))]))
  refine own_by (fun _ k => XS.istore X4.here hx rfl (hb hby d8_33) rfl (l' := #[.val (.ref a1), .val (.long (f 0)), .second, .val (.long (f 2)), .second, .val (.int (0 : Int32)), .val (.int (1 : Int32))]) rfl k) ?_
  refine own_by (fun _ k => XS.iload X4.here hx rfl (hb hby d8_35) rfl k) ?_
  refine own_by (fun _ k => XS.aloadN X4.here hx rfl (hb hby d8_37) rfl rfl k) ?_
  show own_Go _ _ _ _ (T4.setTop (mkF m 38 #[.val (.ref a1), .val (.long (f 0)), .second, .val (.long (f 2)), .second, .val (.int (0 : Int32)), .val (.int (1 : Int32))] [(.ref a1), (.int (1 : Int32))]))
  obtain ⟨T10, X10, e10, st10⟩ := getF X4 hx hZ hown (host := "") (Or.inl (hw _ (List.mem_of_getElem? (i := 27) rfl))) Via.refl e4 f5 (g := (mkF m 38 #[.val (.ref a1), .val (.long (f 0)), .second, .val (.long (f 2)), .second, .val (.int (0 : Int32)), .val (.int (1 : Int32))] [(.ref a1), (.int (1 : Int32))])) rfl rfl (hb hby d8_38)
  refine own_by st10 ?_
  show own_Go _ _ _ _ (T10.setTop (mkF m 41 #[.val (.ref a1), .val (.long (f 0)), .second, .val (.long (f 2)), .second, .val (.int (0 : Int32)), .val (.int (1 : Int32))] [(.int (2 : Int32)), (.int (1 : Int32))]))
  refine own_by (fun _ k => XS.icmpYes X10.here hx rfl (pc0 := 41) (pc' := 47) rfl (hb hby d8_41) rfl (tlt (by decide)).1 (by decide) (by decide) k) ?_
  refine own_by (fun _ k => XS.iload X10.here hx rfl (hb hby d8_47) rfl k) ?_
  refine own_by (fun _ k => XS.iconst X10.here hx rfl (hb hby d8_49) k) ?_
  show own_Go _ _ _ _ (T10.setTop (mkF m 50 #[.val (.ref a1), .val (.long (f 0)), .second, .val (.long (f 2)), .second, .val (.int (0 : Int32)), .val (.int (1 : Int32))] [(.int (1 : Int32)), (.int (1 : Int32))]))
  refine own_by (fun _ k => XS.iadd X10.here hx rfl (hb hby d8_50) rfl k) ?_
  show own_Go _ _ _ _ (T10.setTop (mkF m 51 #[.val (.ref a1), .val (.long (f 0)), .second, .val (.long (f 2)), .second, .val (.int (0 : Int32)), .val (.int (1 : Int32))] [(.int ((1 : Int32) + (1 : Int32)))]))
  rw [(by decide : ((1 : Int32) + (1 : Int32)) = (2 : Int32))]
  refine own_by (fun _ k => XS.aloadN X10.here hx rfl (hb hby d8_51) rfl rfl k) ?_
  show own_Go _ _ _ _ (T10.setTop (mkF m 52 #[.val (.ref a1), .val (.long (f 0)), .second, .val (.long (f 2)), .second, .val (.int (0 : Int32)), .val (.int (1 : Int32))] [(.ref a1), (.int (2 : Int32))]))
  obtain ⟨T11, X11, e11, st11⟩ := getF X10 hx hZ hown (host := "") (Or.inl (hw _ (List.mem_of_getElem? (i := 27) rfl))) Via.refl e10 f5 (g := (mkF m 52 #[.val (.ref a1), .val (.long (f 0)), .second, .val (.long (f 2)), .second, .val (.int (0 : Int32)), .val (.int (1 : Int32))] [(.ref a1), (.int (2 : Int32))])) rfl rfl (hb hby d8_52)
  refine own_by st11 ?_
  show own_Go _ _ _ _ (T11.setTop (mkF m 55 #[.val (.ref a1), .val (.long (f 0)), .second, .val (.long (f 2)), .second, .val (.int (0 : Int32)), .val (.int (1 : Int32))] [(.int (2 : Int32)), (.int (2 : Int32))]))
  refine own_by (fun _ k => XS.icmpYes X11.here hx rfl (pc0 := 55) (pc' := 81) rfl (hb hby d8_55) rfl (flt (by decide)).2.1 (by decide) (by decide) k) ?_
  refine own_by (fun _ k => XS.aloadN X11.here hx rfl (hb hby d8_81) rfl rfl k) ?_
  show own_Go _ _ _ _ (T11.setTop (mkF m 82 #[.val (.ref a1), .val (.long (f 0)), .second, .val (.long (f 2)), .second, .val (.int (0 : Int32)), .val (.int (1 : Int32))] [(.ref a1)]))
  obtain ⟨T12, X12, e12, st12⟩ := getF X11 hx hZ hown (host := "") (Or.inl (hw _ (List.mem_of_getElem? (i := 20) rfl))) Via.refl e11 f7 (g := (mkF m 82 #[.val (.ref a1), .val (.long (f 0)), .second, .val (.long (f 2)), .second, .val (.int (0 : Int32)), .val (.int (1 : Int32))] [(.ref a1)])) rfl rfl (hb hby d8_82)
  refine own_by st12 ?_
  refine own_by (fun _ k => XS.iload X12.here hx rfl (hb hby d8_85) rfl k) ?_
  show own_Go _ _ _ _ (T12.setTop (mkF m 87 #[.val (.ref a1), .val (.long (f 0)), .second, .val (.long (f 2)), .second, .val (.int (0 : Int32)), .val (.int (1 : Int32))] [(.int (1 : Int32)), (.ref b1)]))
  refine own_by (fun _ k => own_lal X12 hx hZ e12 f8 1 (by decide) (by omega) (hb hby d8_87) k) ?_
  refine own_by (fun _ k => XS.lloadN X12.here hx rfl (hb hby d8_88) rfl k) ?_
  show own_Go _ _ _ _ (T12.setTop (mkF m 89 #[.val (.ref a1), .val (.long (f 0)), .second, .val (.long (f 2)), .second, .val (.int (0 : Int32)), .val (.int (1 : Int32))] [(.long (f 2)), (.long (f 1))]))
  refine own_by (fun _ k => XS.lcmp X12.here hx rfl (hb hby d8_89) rfl k) ?_
  show own_Go _ _ _ _ (T12.setTop (mkF m 90 #[.val (.ref a1), .val (.long (f 0)), .second, .val (.long (f 2)), .second, .val (.int (0 : Int32)), .val (.int (1 : Int32))] [(.int (lcmpW (f 1) (f 2)))]))
  by_cases hc13 : (f 1) < (f 2)
  · --
    refine own_by (fun _ k => XS.ifYes X12.here hx rfl (pc0 := 90) (pc' := 96) rfl (hb hby d8_90) rfl ((if0 _ _).trans (tlt ((lw_lt _ _).mpr hc13)).1) (by decide) (by decide) k) ?_
    refine own_by (fun _ k => XS.aloadN X12.here hx rfl (hb hby d8_96) rfl rfl k) ?_
    show own_Go _ _ _ _ (T12.setTop (mkF m 97 #[.val (.ref a1), .val (.long (f 0)), .second, .val (.long (f 2)), .second, .val (.int (0 : Int32)), .val (.int (1 : Int32))] [(.ref a1)]))
    obtain ⟨T14, X14, e14, st14⟩ := getF X12 hx hZ hown (host := "") (Or.inl (hw _ (List.mem_of_getElem? (i := 20) rfl))) Via.refl e12 f7 (g := (mkF m 97 #[.val (.ref a1), .val (.long (f 0)), .second, .val (.long (f 2)), .second, .val (.int (0 : Int32)), .val (.int (1 : Int32))] [(.ref a1)])) rfl rfl (hb hby d8_97)
    refine own_by st14 ?_
    refine own_by (fun _ k => XS.iload X14.here hx rfl (hb hby d8_100) rfl k) ?_
    refine own_by (fun _ k => XS.aloadN X14.here hx rfl (hb hby d8_102) rfl rfl k) ?_
    show own_Go _ _ _ _ (T14.setTop (mkF m 103 #[.val (.ref a1), .val (.long (f 0)), .second, .val (.long (f 2)), .second, .val (.int (0 : Int32)), .val (.int (1 : Int32))] [(.ref a1), (.int (0 : Int32)), (.ref b1)]))
    obtain ⟨T15, X15, e15, st15⟩ := getF X14 hx hZ hown (host := "") (Or.inl (hw _ (List.mem_of_getElem? (i := 20) rfl))) Via.refl e14 f7 (g := (mkF m 103 #[.val (.ref a1), .val (.long (f 0)), .second, .val (.long (f 2)), .second, .val (.int (0 : Int32)), .val (.int (1 : Int32))] [(.ref a1), (.int (0 : Int32)), (.ref b1)])) rfl rfl (hb hby d8_103)
    refine own_by st15 ?_
    refine own_by (fun _ k => XS.iload X15.here hx rfl (hb hby d8_106) rfl k) ?_
    show own_Go _ _ _ _ (T15.setTop (mkF m 108 #[.val (.ref a1), .val (.long (f 0)), .second, .val (.long (f 2)), .second, .val (.int (0 : Int32)), .val (.int (1 : Int32))] [(.int (1 : Int32)), (.ref b1), (.int (0 : Int32)), (.ref b1)]))
    refine own_by (fun _ k => own_lal X15 hx hZ e15 f8 1 (by decide) (by omega) (hb hby d8_108) k) ?_
    show own_Go _ _ _ _ (T15.setTop (mkF m 109 #[.val (.ref a1), .val (.long (f 0)), .second, .val (.long (f 2)), .second, .val (.int (0 : Int32)), .val (.int (1 : Int32))] [(.long (f 1)), (.int (0 : Int32)), (.ref b1)]))
    refine own_las X15 hx hZ e15 f8 0 (by decide) (by omega) (hb hby d8_109) ?_
    intro T16 h16 X16 e16 W16 A16
    have f17 := f6.wr W16
    have f18 := f7.other W16 (Or.inl hab)
    have f19 := f5.other W16 (Or.inl hab)
    have f20 := f9.wr W16 (Or.inl (List.mem_of_getElem? (i := 1) rfl))
    have N16 := Fr.snoc X16 N4 Pg2
    have Z16 := own_size_wr W16 Z4
    obtain ⟨fn16, hfn16⟩ : ∃ g : Nat → Int64, g = own_upd f 0 (f 1) := ⟨_, rfl⟩
    rw [← hfn16] at A16
    show own_Go _ _ _ _ (T16.setTop (mkF m 110 #[.val (.ref a1), .val (.long (f 0)), .second, .val (.long (f 2)), .second, .val (.int (0 : Int32)), .val (.int (1 : Int32))] []))
    refine own_by (fun _ k => XS.iload X16.here hx rfl (hb hby d8_110) rfl k) ?_
    show own_Go _ _ _ _ (T16.setTop (mkF m 112 #[.val (.ref a1), .val (.long (f 0)), .second, .val (.long (f 2)), .second, .val (.int (0 : Int32)), .val (.int (1 : Int32))] [(.int (1 : Int32))]))
    refine own_by (fun _ k => XS.istore X16.here hx rfl (hb hby d8_112) rfl (l' := #[.val (.ref a1), .val (.long (f 0)), .second, .val (.long (f 2)), .second, .val (.int (1 : Int32)), .val (.int (1 : Int32))]) rfl k) ?_
    show own_Go _ _ _ _ (T16.setTop (mkF m 114 #[.val (.ref a1), .val (.long (f 0)), .second, .val (.long (f 2)), .second, .val (.int (1 : Int32)), .val (.int (1 : Int32))] []))
    refine own_by (fun _ k => XS.goto X16.here hx rfl (pc0 := 114) (pc' := 27) rfl (hb hby d8_114) (by decide) (by decide) k) ?_
    refine own_by (fun _ k => XS.iconst X16.here hx rfl (hb hby d8_27) k) ?_
    refine own_by (fun _ k => XS.iload X16.here hx rfl (hb hby d8_28) rfl k) ?_
    show own_Go _ _ _ _ (T16.setTop (mkF m 30 #[.val (.ref a1), .val (.long (f 0)), .second, .val (.long (f 2)), .second, .val (.int (1 : Int32)), .val (.int (1 : Int32))] [(.int (1 : Int32)), (.int (2 : Int32))]))
    refine own_by (fun _ k => XS.imul X16.here hx rfl (hb hby d8_30) rfl k) ?_
    show own_Go _ _ _ _ (T16.setTop (mkF m 31 #[.val (.ref a1), .val (.long (f 0)), .second, .val (.long (f 2)), .second, .val (.int (1 : Int32)), .val (.int (1 : Int32))] [(.int ((2 : Int32) * (1 : Int32)))]))
    rw [(by decide : ((2 : Int32) * (1 : Int32)) = (2 : Int32))]
    refine own_by (fun _ k => XS.iconst X16.here hx rfl (hb hby d8_31) k) ?_
    show own_Go _ _ _ _ (T16.setTop (mkF m 32 #[.val (.ref a1), .val (.long (f 0)), .second, .val (.long (f 2)), .second, .val (.int (1 : Int32)), .val (.int (1 : Int32))] [(.int (1 : Int32)), (.int (2 : Int32))]))
    refine own_by (fun _ k => XS.iadd X16.here hx rfl (hb hby d8_32) rfl k) ?_
    show own_Go _ _ _ _ (T16.setTop (mkF m 33 #[.val (.ref a1), .val (.long (f 0)), .second, .val (.long (f 2)), .second, .val (.int (1 : Int32)), .val (.int (1 : Int32))] [(.int ((2 : Int32) + (1 : Int32)))]))
    rw [(by decide : ((2 : Int32) + (1 : Int32)) = (3 : Int32))]
    show own_Go _ _ _ _ (T16.setTop (mkF m 33 #[.val (.ref a1), .val (.long (f 0)), .second, .val (.long (f 2)), .second, .val (.int (1 : Int32)), .val (.int (1 : Int32))] [(.int (3 : Int32))]))
    refine own_by (fun _ k => XS.istore X16.here hx rfl (hb hby d8_33) rfl (l' := #[.val (.ref a1), .val (.long (f 0)), .second, .val (.long (f 2)), .second, .val (.int (1 : Int32)), .val (.int (3 : Int32))]) rfl k) ?_
    refine own_by (fun _ k => XS.iload X16.here hx rfl (hb hby d8_35) rfl k) ?_
    refine own_by (fun _ k => XS.aloadN X16.here hx rfl (hb hby d8_37) rfl rfl k) ?_
    show own_Go _ _ _ _ (T16.setTop (mkF m 38 #[.val (.ref a1), .val (.long (f 0)), .second, .val (.long (f 2)), .second, .val (.int (1 : Int32)), .val (.int (3 : Int32))] [(.ref a1), (.int (3 : Int32))]))
    obtain ⟨T21, X21, e21, st21⟩ := getF X16 hx hZ hown (host := "") (Or.inl (hw _ (List.mem_of_getElem? (i := 27) rfl))) Via.refl e16 f19 (g := (mkF m 38 #[.val (.ref a1), .val (.long (f 0)), .second, .val (.long (f 2)), .second, .val (.int (1 : Int32)), .val (.int (3 : Int32))] [(.ref a1), (.int (3 : Int32))])) rfl rfl (hb hby d8_38)
    refine own_by st21 ?_
    show own_Go _ _ _ _ (T21.setTop (mkF m 41 #[.val (.ref a1), .val (.long (f 0)), .second, .val (.long (f 2)), .second, .val (.int (1 : Int32)), .val (.int (3 : Int32))] [(.int (2 : Int32)), (.int (3 : Int32))]))
    refine own_by (fun _ k => XS.icmpNo X21.here hx rfl (hb hby d8_41) rfl (flt (by decide)).1 k) ?_
    show own_Go _ _ _ _ (T21.setTop (mkF m 44 #[.val (.ref a1), .val (.long (f 0)), .second, .val (.long (f 2)), .second, .val (.int (1 : Int32)), .val (.int (3 : Int32))] []))
    refine own_by (fun _ k => XS.goto X21.here hx rfl (pc0 := 44) (pc' := 117) rfl (hb hby d8_44) (by decide) (by decide) k) ?_
    refine own_by (fun _ k => XS.aloadN X21.here hx rfl (hb hby d8_117) rfl rfl k) ?_
    show own_Go _ _ _ _ (T21.setTop (mkF m 118 #[.val (.ref a1), .val (.long (f 0)), .second, .val (.long (f 2)), .second, .val (.int (1 : Int32)), .val (.int (3 : Int32))] [(.ref a1)]))
    obtain ⟨T22, X22, e22, st22⟩ := getF X21 hx hZ hown (host := "") (Or.inl (hw _ (List.mem_of_getElem? (i := 20) rfl))) Via.refl e21 f18 (g := (mkF m 118 #[.val (.ref a1), .val (.long (f 0)), .second, .val (.long (f 2)), .second, .val (.int (1 : Int32)), .val (.int (3 : Int32))] [(.ref a1)])) rfl rfl (hb hby d8_118)
    refine own_by st22 ?_
    refine own_by (fun _ k => XS.iload X22.here hx rfl (hb hby d8_121) rfl k) ?_
    refine own_by (fun _ k => XS.lloadN X22.here hx rfl (hb hby d8_123) rfl k) ?_
    show own_Go _ _ _ _ (T22.setTop (mkF m 124 #[.val (.ref a1), .val (.long (f 0)), .second, .val (.long (f 2)), .second, .val (.int (1 : Int32)), .val (.int (3 : Int32))] [(.long (f 2)), (.int (1 : Int32)), (.ref b1)]))
    refine own_las X22 hx hZ e22 A16 1 (by decide) (by omega) (hb hby d8_124) ?_
    intro T23 h23 X23 e23 W23 A23
    have f24 := f17.wr W23
    have f25 := f18.other W23 (Or.inl hab)
    have f26 := f19.other W23 (Or.inl hab)
    have f27 := f20.wr W23 (Or.inl (List.mem_of_getElem? (i := 1) rfl))
    have N23 := Fr.snoc X23 N16 Pg2
    have Z23 := own_size_wr W23 Z16
    obtain ⟨fn23, hfn23⟩ : ∃ g : Nat → Int64, g = own_upd fn16 1 (f 2) := ⟨_, rfl⟩
    rw [← hfn23] at A23
    show own_Go _ _ _ _ (T23.setTop (mkF m 125 #[.val (.ref a1), .val (.long (f 0)), .second, .val (.long (f 2)), .second, .val (.int (1 : Int32)), .val (.int (3 : Int32))] []))
    refine own_by (fun _ k => XS.lloadN X23.here hx rfl (hb hby d8_125) rfl k) ?_
    show own_Go _ _ _ _ (T23.setTop (mkF m 126 #[.val (.ref a1), .val (.long (f 0)), .second, .val (.long (f 2)), .second, .val (.int (1 : Int32)), .val (.int (3 : Int32))] [(.long (f 0))]))
    have hfin : own_hp (fn23) 2 ∧ (∀ x, own_cnt f x 3 = own_one (f 0) x + own_cnt (fn23) x 2) := by
      simp only [hfn23, hfn16]
      obtain ⟨H1, H2, H3, H4⟩ := HP
      have hc13' := hc13
      rw [Int64.lt_iff_toInt_lt] at hc13'
      refine ⟨⟨fun q => ?_, fun q => ?_, fun q => ?_, fun q => ?_⟩, fun x => ?_⟩
      · first | omega | (simp [own_upd] at *; omega)
      · first | omega | (simp [own_upd] at *; omega)
      · first | omega | (simp [own_upd] at *; omega)
      · first | omega | (simp [own_upd] at *; omega)
      · simp [own_cnt, own_upd]; try omega
    exact own_retJ X23 hx Bd.notSynchronized e23 Bd.returns (hb hby d8_126) (⟨rfl, N23, f27, _, f25, f26, A23, hfin.1, hfin.2⟩) (by decide) (by decide)
  · --
    refine own_by (fun _ k => XS.ifNo X12.here hx rfl (hb hby d8_90) rfl ((if0 _ _).trans (flt (mt (lw_lt _ _).mp hc13)).1) k) ?_
    show own_Go _ _ _ _ (T12.setTop (mkF m 93 #[.val (.ref a1), .val (.long (f 0)), .second, .val (.long (f 2)), .second, .val (.int (0 : Int32)), .val (.int (1 : Int32))] []))
    refine own_by (fun _ k => XS.goto X12.here hx rfl (pc0 := 93) (pc' := 117) rfl (hb hby d8_93) (by decide) (by decide) k) ?_
    refine own_by (fun _ k => XS.aloadN X12.here hx rfl (hb hby d8_117) rfl rfl k) ?_
    show own_Go _ _ _ _ (T12.setTop (mkF m 118 #[.val (.ref a1), .val (.long (f 0)), .second, .val (.long (f 2)), .second, .val (.int (0 : Int32)), .val (.int (1 : Int32))] [(.ref a1)]))
    obtain ⟨T28, X28, e28, st28⟩ := getF X12 hx hZ hown (host := "") (Or.inl (hw _ (List.mem_of_getElem? (i := 20) rfl))) Via.refl e12 f7 (g := (mkF m 118 #[.val (.ref a1), .val (.long (f 0)), .second, .val (.long (f 2)), .second, .val (.int (0 : Int32)), .val (.int (1 : Int32))] [(.ref a1)])) rfl rfl (hb hby d8_118)
    refine own_by st28 ?_
    refine own_by (fun _ k => XS.iload X28.here hx rfl (hb hby d8_121) rfl k) ?_
    refine own_by (fun _ k => XS.lloadN X28.here hx rfl (hb hby d8_123) rfl k) ?_
    show own_Go _ _ _ _ (T28.setTop (mkF m 124 #[.val (.ref a1), .val (.long (f 0)), .second, .val (.long (f 2)), .second, .val (.int (0 : Int32)), .val (.int (1 : Int32))] [(.long (f 2)), (.int (0 : Int32)), (.ref b1)]))
    refine own_las X28 hx hZ e28 f8 0 (by decide) (by omega) (hb hby d8_124) ?_
    intro T29 h29 X29 e29 W29 A29
    have f30 := f6.wr W29
    have f31 := f7.other W29 (Or.inl hab)
    have f32 := f5.other W29 (Or.inl hab)
    have f33 := f9.wr W29 (Or.inl (List.mem_of_getElem? (i := 1) rfl))
    have N29 := Fr.snoc X29 N4 Pg2
    have Z29 := own_size_wr W29 Z4
    obtain ⟨fn29, hfn29⟩ : ∃ g : Nat → Int64, g = own_upd f 0 (f 2) := ⟨_, rfl⟩
    rw [← hfn29] at A29
    show own_Go _ _ _ _ (T29.setTop (mkF m 125 #[.val (.ref a1), .val (.long (f 0)), .second, .val (.long (f 2)), .second, .val (.int (0 : Int32)), .val (.int (1 : Int32))] []))
    refine own_by (fun _ k => XS.lloadN X29.here hx rfl (hb hby d8_125) rfl k) ?_
    show own_Go _ _ _ _ (T29.setTop (mkF m 126 #[.val (.ref a1), .val (.long (f 0)), .second, .val (.long (f 2)), .second, .val (.int (0 : Int32)), .val (.int (1 : Int32))] [(.long (f 0))]))
    have hfin : own_hp (fn29) 2 ∧ (∀ x, own_cnt f x 3 = own_one (f 0) x + own_cnt (fn29) x 2) := by
      simp only [hfn29]
      obtain ⟨H1, H2, H3, H4⟩ := HP
      have hc13' := hc13
      rw [Int64.lt_iff_toInt_lt] at hc13'
      refine ⟨⟨fun q => ?_, fun q => ?_, fun q => ?_, fun q => ?_⟩, fun x => ?_⟩
      · first | omega | (simp [own_upd] at *; omega)
      · first | omega | (simp [own_upd] at *; omega)
      · first | omega | (simp [own_upd] at *; omega)
      · first | omega | (simp [own_upd] at *; omega)
      · simp [own_cnt, own_upd]; try omega
    exact own_retJ X29 hx Bd.notSynchronized e29 Bd.returns (hb hby d8_126) (⟨rfl, N29, f33, _, f31, f32, A29, hfin.1, hfin.2⟩) (by decide) (by decide)
set_option maxRecDepth 65536 in
set_option maxHeartbeats 40000000 in
theorem rm8_4 (l : Launch) (Z : State) (a0 : Array Value) (hw : ∀ d ∈ tables_1, d.before a0 Z = true) (ws : List Jvm.Cond) (a1 : Addr) (b1 : Addr) (n : Nat) (f : Nat → Int64) (h0 : Heap) (n0 : Nat) (Z0 : n0 ≤ h0.size) (PE : Exa Z h0 a1 "com/example/libmakespan/libmakespan/planners/LongHeap") (PF1 : Fld Z h0 a1 "com/example/libmakespan/libmakespan/planners/LongHeap" "values" "[J" (.ref b1)) (PF2 : Fld Z h0 a1 "com/example/libmakespan/libmakespan/planners/LongHeap" "size" "I" (.int (4 : Int32))) (PA : own_AJ Z h0 b1 n f) (Pg1 : n0 ≤ a1) (Pg2 : n0 ≤ b1) (hab : a1 ≠ b1) (hkn : 4 ≤ n) (hn8 : n ≤ 8) (HP : own_hp f 4) :
    MetFree l (⟨"com/example/libmakespan/libmakespan/planners/LongHeap", "remove", "()J"⟩ : MethodName) (head1 (Jvm.Cond.code (⟨"com/example/libmakespan/libmakespan/planners/LongHeap", "remove", "()J"⟩ : MethodName) prog_91_method_5_code 7 (some .long) :: ws) ({ frames := 0, cells := 0, slots := 0, locals := 0 } : Room)) (fun a U => a = #[(.ref a1)] ∧ Z.Warmed39 U.vm ∧ U.heap = h0) (fun _ _ _ _ _ => True) (fun _ U o U' => ∃ vv LL, o = .returned vv ∧ own_ap (fun v h L => v = some (.long (f 0)) ∧ Fr n0 L ∧ Keep h0 h [a1, b1] ∧ ∃ (f' : Nat → Int64), Fld Z h a1 "com/example/libmakespan/libmakespan/planners/LongHeap" "values" "[J" (.ref b1) ∧ Fld Z h a1 "com/example/libmakespan/libmakespan/planners/LongHeap" "size" "I" (.int (3 : Int32)) ∧ own_AJ Z h b1 n f' ∧ own_hp f' 3 ∧ ∀ x, own_cnt f x 4 = own_one (f 0) x + own_cnt f' x 3) vv U'.heap LL ∧ FrameEnd U o U' LL 0 0) := by
  refine MetFree.of_bodySF (plainFor_of_name pn_8) hisR ?_
  intro p e s m args below meth c s₁ Bd hml0 hP hK
  obtain ⟨rfl, hZ, hh⟩ := hP
  have hx := Bd.exec
  have hby := Bd.bytes
  have hml : c.maxLocals = 7 := hml0
  have hown : s.vm.findClass "com/example/libmakespan/libmakespan/planners/LongHeap" = some m.cls := findClass_of_methodNamed Bd.named
  have hnm := (name_of_methodNamed Bd.named Bd.method).1
  have X0 : Stand p l e ({ frames := 0, cells := 0, slots := 0, locals := 0 } : Room) s m #[(.ref a1)] below meth c s₁ [] 0 0 := Stand.of_body Bd
  have e0 : s₁.heap = h0 := by rw [← hh, Bd.state]; rfl
  have N0 := Fr.nil n0
  show own_Go p.tables e below (own_Q s (fun v h L => v = some (.long (f 0)) ∧ Fr n0 L ∧ Keep h0 h [a1, b1] ∧ ∃ (f' : Nat → Int64), Fld Z h a1 "com/example/libmakespan/libmakespan/planners/LongHeap" "values" "[J" (.ref b1) ∧ Fld Z h a1 "com/example/libmakespan/libmakespan/planners/LongHeap" "size" "I" (.int (3 : Int32)) ∧ own_AJ Z h b1 n f' ∧ own_hp f' 3 ∧ ∀ x, own_cnt f x 4 = own_one (f 0) x + own_cnt f' x 3) 0 0) (s₁.setTop (entryFrame m #[(.ref a1)] 7))
  rw [show entryFrame m #[(.ref a1)] 7 = mkF m 0 #[.val (.ref a1), .unset, .unset, .unset, .unset, .unset, .unset] [] from by first | (simp [entryFrame, mkF, argsToLocals, Value.category]; done) | rfl]
  show own_Go _ _ _ _ (s₁.setTop (mkF m 0 #[.val (.ref a1), .unset, .unset, .unset, .unset, .unset, .unset] []))
  refine own_by (fun _ k => XS.aloadN X0.here hx rfl (hb hby d8_0) rfl rfl k) ?_
  show own_Go _ _ _ _ (s₁.setTop (mkF m 1 #[.val (.ref a1), .unset, .unset, .unset, .unset, .unset, .unset] [(.ref a1)]))
  obtain ⟨T1, X1, e1, st1⟩ := getF X0 hx hZ hown (host := "") (Or.inl (hw _ (List.mem_of_getElem? (i := 20) rfl))) Via.refl e0 PF1 (g := (mkF m 1 #[.val (.ref a1), .unset, .unset, .unset, .unset, .unset, .unset] [(.ref a1)])) rfl rfl (hb hby d8_1)
  refine own_by st1 ?_
  refine own_by (fun _ k => XS.iconst X1.here hx rfl (hb hby d8_4) k) ?_
  show own_Go _ _ _ _ (T1.setTop (mkF m 5 #[.val (.ref a1), .unset, .unset, .unset, .unset, .unset, .unset] [(.int (0 : Int32)), (.ref b1)]))
  refine own_by (fun _ k => own_lal X1 hx hZ e1 PA 0 (by decide) (by omega) (hb hby d8_5) k) ?_
  show own_Go _ _ _ _ (T1.setTop (mkF m 6 #[.val (.ref a1), .unset, .unset, .unset, .unset, .unset, .unset] [(.long (f 0))]))
  refine own_by (fun _ k => XS.lstoreN X1.here hx rfl (hb hby d8_6) rfl (l' := #[.val (.ref a1), .val (.long (f 0)), .second, .unset, .unset, .unset, .unset]) rfl k) ?_
  refine own_by (fun _ k => XS.aloadN X1.here hx rfl (hb hby d8_7) rfl rfl k) ?_
  show own_Go _ _ _ _ (T1.setTop (mkF m 8 #[.val (.ref a1), .val (.long (f 0)), .second, .unset, .unset, .unset, .unset] [(.ref a1)]))
  obtain ⟨T2, X2, e2, st2⟩ := getF X1 hx hZ hown (host := "") (Or.inl (hw _ (List.mem_of_getElem? (i := 20) rfl))) Via.refl e1 PF1 (g := (mkF m 8 #[.val (.ref a1), .val (.long (f 0)), .second, .unset, .unset, .unset, .unset] [(.ref a1)])) rfl rfl (hb hby d8_8)
  refine own_by st2 ?_
  refine own_by (fun _ k => XS.aloadN X2.here hx rfl (hb hby d8_11) rfl rfl k) ?_
  show own_Go _ _ _ _ (T2.setTop (mkF m 12 #[.val (.ref a1), .val (.long (f 0)), .second, .unset, .unset, .unset, .unset] [(.ref a1), (.ref b1)]))
  refine own_by (fun _ k => XS.dup X2.here hx rfl (hb hby d8_12) rfl rfl k) ?_
  show own_Go _ _ _ _ (T2.setTop (mkF m 13 #[.val (.ref a1), .val (.long (f 0)), .second, .unset, .unset, .unset, .unset] [(.ref a1), (.ref a1), (.ref b1)]))
  obtain ⟨T3, X3, e3, st3⟩ := getF X2 hx hZ hown (host := "") (Or.inl (hw _ (List.mem_of_getElem? (i := 27) rfl))) Via.refl e2 PF2 (g := (mkF m 13 #[.val (.ref a1), .val (.long (f 0)), .second, .unset, .unset, .unset, .unset] [(.ref a1), (.ref a1), (.ref b1)])) rfl rfl (hb hby d8_13)
  refine own_by st3 ?_
  refine own_by (fun _ k => XS.iconst X3.here hx rfl (hb hby d8_16) k) ?_
  show own_Go _ _ _ _ (T3.setTop (mkF m 17 #[.val (.ref a1), .val (.long (f 0)), .second, .unset, .unset, .unset, .unset] [(.int (1 : Int32)), (.int (4 : Int32)), (.ref a1), (.ref b1)]))
  refine own_by (fun _ k => XS.isub X3.here hx rfl (hb hby d8_17) rfl k) ?_
  show own_Go _ _ _ _ (T3.setTop (mkF m 18 #[.val (.ref a1), .val (.long (f 0)), .second, .unset, .unset, .unset, .unset] [(.int ((4 : Int32) - (1 : Int32))), (.ref a1), (.ref b1)]))
  rw [(by decide : ((4 : Int32) - (1 : Int32)) = (3 : Int32))]
  show own_Go _ _ _ _ (T3.setTop (mkF m 18 #[.val (.ref a1), .val (.long (f 0)), .second, .unset, .unset, .unset, .unset] [(.int (3 : Int32)), (.ref a1), (.ref b1)]))
  refine own_by (fun _ k => XS.dupX1 X3.here hx rfl (hb hby d8_18) rfl rfl rfl k) ?_
  show own_Go _ _ _ _ (T3.setTop (mkF m 19 #[.val (.ref a1), .val (.long (f 0)), .second, .unset, .unset, .unset, .unset] [(.int (3 : Int32)), (.ref a1), (.int (3 : Int32)), (.ref b1)]))
  obtain ⟨T4, h4, X4, e4, W4, st4⟩ := putF X3 hx hZ hown (host := "") (Or.inl (hw _ (List.mem_of_getElem? (i := 27) rfl))) Via.refl e3 PF2 PE (Or.inl (hw _ (List.mem_of_getElem? (i := 28) rfl))) (hw _ (List.mem_of_getElem? (i := 8) rfl)) (ty := .int) (by decide) rfl rfl (g := (mkF m 19 #[.val (.ref a1), .val (.long (f 0)), .second, .unset, .unset, .unset, .unset] [(.int (3 : Int32)), (.ref a1), (.int (3 : Int32)), (.ref b1)])) rfl rfl (hb hby d8_19)
  refine own_by st4 ?_
  have f5 := PF2.same W4
  have f6 := PE.wr W4
  have f7 := PF1.other W4 (Or.inr (slot_ne (Or.inl (hw _ (List.mem_of_getElem? (i := 21) rfl))) (Or.inl (hw _ (List.mem_of_getElem? (i := 28) rfl))) (by decide) (t := (.array .long)) (t' := .int) (by decide) (by decide)))
  have f8 := PA.other W4 (Ne.symm hab)
  have f9 := (Keep.refl h0 [a1, b1]).wr W4 (Or.inl (List.mem_of_getElem? (i := 0) rfl))
  have N4 := Fr.snoc X4 N0 Pg1
  have Z4 := own_size_wr W4 Z0
  show own_Go _ _ _ _ (T4.setTop (mkF m 22 #[.val (.ref a1), .val (.long (f 0)), .second, .unset, .unset, .unset, .unset] [(.int (3 : Int32)), (.ref b1)]))
  refine own_by (fun _ k => own_lal X4 hx hZ e4 f8 3 (by decide) (by omega) (hb hby d8_22) k) ?_
  show own_Go _ _ _ _ (T4.setTop (mkF m 23 #[.val (.ref a1), .val (.long (f 0)), .second, .unset, .unset, .unset, .unset] [(.long (f 3))]))
  refine own_by (fun _ k => XS.lstoreN X4.here hx rfl (hb hby d8_23) rfl (l' := #[.val (.ref a1), .val (.long (f 0)), .second, .val (.long (f 3)), .second, .unset, .unset]) rfl k) ?_
  refine own_by (fun _ k => XS.iconst X4.here hx rfl (hb hby d8_24) k) ?_
  show own_Go _ _ _ _ (T4.setTop (mkF m 25 #[.val (.ref a1), .val (.long (f 0)), .second, .val (.long (f 3)), .second, .unset, .unset] [(.int (0 : Int32))]))
  refine own_by (fun _ k => XS.istore X4.here hx rfl (hb hby d8_25) rfl (l' := #[.val (.ref a1), .val (.long (f 0)), .second, .val (.long (f 3)), .second, .val (.int (0 : Int32)), .unset]) rfl k) ?_
  refine own_by (fun _ k => XS.iconst X4.here hx rfl (hb hby d8_27) k) ?_
  refine own_by (fun _ k => XS.iload X4.here hx rfl (hb hby d8_28) rfl k) ?_
  show own_Go _ _ _ _ (T4.setTop (mkF m 30 #[.val (.ref a1), .val (.long (f 0)), .second, .val (.long (f 3)), .second, .val (.int (0 : Int32)), .unset] [(.int (0 : Int32)), (.int (2 : Int32))]))
  refine own_by (fun _ k => XS.imul X4.here hx rfl (hb hby d8_30) rfl k) ?_
  show own_Go _ _ _ _ (T4.setTop (mkF m 31 #[.val (.ref a1), .val (.long (f 0)), .second, .val (.long (f 3)), .second, .val (.int (0 : Int32)), .unset] [(.int ((2 : Int32) * (0 : Int32)))]))
  rw [(by decide : ((2 : Int32) * (0 : Int32)) = (0 : Int32))]
  refine own_by (fun _ k => XS.iconst X4.here hx rfl (hb hby d8_31) k) ?_
  show own_Go _ _ _ _ (T4.setTop (mkF m 32 #[.val (.ref a1), .val (.long (f 0)), .second, .val (.long (f 3)), .second, .val (.int (0 : Int32)), .unset] [(.int (1 : Int32)), (.int (0 : Int32))]))
  refine own_by (fun _ k => XS.iadd X4.here hx rfl (hb hby d8_32) rfl k) ?_
  show own_Go _ _ _ _ (T4.setTop (mkF m 33 #[.val (.ref a1), .val (.long (f 0)), .second, .val (.long (f 3)), .second, .val (.int (0 : Int32)), .unset] [(.int ((0 : Int32) + (1 : Int32)))]))
  rw [(by decide : ((0 : Int32) + (1 : Int32)) = (1 : Int32))]
  show own_Go _ _ _ _ (T4.setTop (mkF m 33 #[.val (.ref a1), .val (.long (f 0)), .second, .val (.long (f 3)), .second, .val (.int (0 : Int32)), .unset] [(.int (1 : Int32))]))
  refine own_by (fun _ k => XS.istore X4.here hx rfl (hb hby d8_33) rfl (l' := #[.val (.ref a1), .val (.long (f 0)), .second, .val (.long (f 3)), .second, .val (.int (0 : Int32)), .val (.int (1 : Int32))]) rfl k) ?_
  refine own_by (fun _ k => XS.iload X4.here hx rfl (hb hby d8_35) rfl k) ?_
  refine own_by (fun _ k => XS.aloadN X4.here hx rfl (hb hby d8_37) rfl rfl k) ?_
  show own_Go _ _ _ _ (T4.setTop (mkF m 38 #[.val (.ref a1), .val (.long (f 0)), .second, .val (.long (f 3)), .second, .val (.int (0 : Int32)), .val (.int (1 : Int32))] [(.ref a1), (.int (1 : Int32))]))
  obtain ⟨T10, X10, e10, st10⟩ := getF X4 hx hZ hown (host := "") (Or.inl (hw _ (List.mem_of_getElem? (i := 27) rfl))) Via.refl e4 f5 (g := (mkF m 38 #[.val (.ref a1), .val (.long (f 0)), .second, .val (.long (f 3)), .second, .val (.int (0 : Int32)), .val (.int (1 : Int32))] [(.ref a1), (.int (1 : Int32))])) rfl rfl (hb hby d8_38)
  refine own_by st10 ?_
  show own_Go _ _ _ _ (T10.setTop (mkF m 41 #[.val (.ref a1), .val (.long (f 0)), .second, .val (.long (f 3)), .second, .val (.int (0 : Int32)), .val (.int (1 : Int32))] [(.int (3 : Int32)), (.int (1 : Int32))]))
  refine own_by (fun _ k => XS.icmpYes X10.here hx rfl (pc0 := 41) (pc' := 47) rfl (hb hby d8_41) rfl (tlt (by decide)).1 (by decide) (by decide) k) ?_
  refine own_by (fun _ k => XS.iload X10.here hx rfl (hb hby d8_47) rfl k) ?_
  refine own_by (fun _ k => XS.iconst X10.here hx rfl (hb hby d8_49) k) ?_
  show own_Go _ _ _ _ (T10.setTop (mkF m 50 #[.val (.ref a1), .val (.long (f 0)), .second, .val (.long (f 3)), .second, .val (.int (0 : Int32)), .val (.int (1 : Int32))] [(.int (1 : Int32)), (.int (1 : Int32))]))
  refine own_by (fun _ k => XS.iadd X10.here hx rfl (hb hby d8_50) rfl k) ?_
  show own_Go _ _ _ _ (T10.setTop (mkF m 51 #[.val (.ref a1), .val (.long (f 0)), .second, .val (.long (f 3)), .second, .val (.int (0 : Int32)), .val (.int (1 : Int32))] [(.int ((1 : Int32) + (1 : Int32)))]))
  rw [(by decide : ((1 : Int32) + (1 : Int32)) = (2 : Int32))]
  refine own_by (fun _ k => XS.aloadN X10.here hx rfl (hb hby d8_51) rfl rfl k) ?_
  show own_Go _ _ _ _ (T10.setTop (mkF m 52 #[.val (.ref a1), .val (.long (f 0)), .second, .val (.long (f 3)), .second, .val (.int (0 : Int32)), .val (.int (1 : Int32))] [(.ref a1), (.int (2 : Int32))]))
  obtain ⟨T11, X11, e11, st11⟩ := getF X10 hx hZ hown (host := "") (Or.inl (hw _ (List.mem_of_getElem? (i := 27) rfl))) Via.refl e10 f5 (g := (mkF m 52 #[.val (.ref a1), .val (.long (f 0)), .second, .val (.long (f 3)), .second, .val (.int (0 : Int32)), .val (.int (1 : Int32))] [(.ref a1), (.int (2 : Int32))])) rfl rfl (hb hby d8_52)
  refine own_by st11 ?_
  show own_Go _ _ _ _ (T11.setTop (mkF m 55 #[.val (.ref a1), .val (.long (f 0)), .second, .val (.long (f 3)), .second, .val (.int (0 : Int32)), .val (.int (1 : Int32))] [(.int (3 : Int32)), (.int (2 : Int32))]))
  refine own_by (fun _ k => XS.icmpNo X11.here hx rfl (hb hby d8_55) rfl (tlt (by decide)).2.1 k) ?_
  refine own_by (fun _ k => XS.aloadN X11.here hx rfl (hb hby d8_58) rfl rfl k) ?_
  show own_Go _ _ _ _ (T11.setTop (mkF m 59 #[.val (.ref a1), .val (.long (f 0)), .second, .val (.long (f 3)), .second, .val (.int (0 : Int32)), .val (.int (1 : Int32))] [(.ref a1)]))
  obtain ⟨T12, X12, e12, st12⟩ := getF X11 hx hZ hown (host := "") (Or.inl (hw _ (List.mem_of_getElem? (i := 20) rfl))) Via.refl e11 f7 (g := (mkF m 59 #[.val (.ref a1), .val (.long (f 0)), .second, .val (.long (f 3)), .second, .val (.int (0 : Int32)), .val (.int (1 : Int32))] [(.ref a1)])) rfl rfl (hb hby d8_59)
  refine own_by st12 ?_
  refine own_by (fun _ k => XS.iload X12.here hx rfl (hb hby d8_62) rfl k) ?_
  refine own_by (fun _ k => XS.iconst X12.here hx rfl (hb hby d8_64) k) ?_
  show own_Go _ _ _ _ (T12.setTop (mkF m 65 #[.val (.ref a1), .val (.long (f 0)), .second, .val (.long (f 3)), .second, .val (.int (0 : Int32)), .val (.int (1 : Int32))] [(.int (1 : Int32)), (.int (1 : Int32)), (.ref b1)]))
  refine own_by (fun _ k => XS.iadd X12.here hx rfl (hb hby d8_65) rfl k) ?_
  show own_Go _ _ _ _ (T12.setTop (mkF m 66 #[.val (.ref a1), .val (.long (f 0)), .second, .val (.long (f 3)), .second, .val (.int (0 : Int32)), .val (.int (1 : Int32))] [(.int ((1 : Int32) + (1 : Int32))), (.ref b1)]))
  rw [(by decide : ((1 : Int32) + (1 : Int32)) = (2 : Int32))]
  show own_Go _ _ _ _ (T12.setTop (mkF m 66 #[.val (.ref a1), .val (.long (f 0)), .second, .val (.long (f 3)), .second, .val (.int (0 : Int32)), .val (.int (1 : Int32))] [(.int (2 : Int32)), (.ref b1)]))
  refine own_by (fun _ k => own_lal X12 hx hZ e12 f8 2 (by decide) (by omega) (hb hby d8_66) k) ?_
  refine own_by (fun _ k => XS.aloadN X12.here hx rfl (hb hby d8_67) rfl rfl k) ?_
  show own_Go _ _ _ _ (T12.setTop (mkF m 68 #[.val (.ref a1), .val (.long (f 0)), .second, .val (.long (f 3)), .second, .val (.int (0 : Int32)), .val (.int (1 : Int32))] [(.ref a1), (.long (f 2))]))
  obtain ⟨T13, X13, e13, st13⟩ := getF X12 hx hZ hown (host := "") (Or.inl (hw _ (List.mem_of_getElem? (i := 20) rfl))) Via.refl e12 f7 (g := (mkF m 68 #[.val (.ref a1), .val (.long (f 0)), .second, .val (.long (f 3)), .second, .val (.int (0 : Int32)), .val (.int (1 : Int32))] [(.ref a1), (.long (f 2))])) rfl rfl (hb hby d8_68)
  refine own_by st13 ?_
  refine own_by (fun _ k => XS.iload X13.here hx rfl (hb hby d8_71) rfl k) ?_
  show own_Go _ _ _ _ (T13.setTop (mkF m 73 #[.val (.ref a1), .val (.long (f 0)), .second, .val (.long (f 3)), .second, .val (.int (0 : Int32)), .val (.int (1 : Int32))] [(.int (1 : Int32)), (.ref b1), (.long (f 2))]))
  refine own_by (fun _ k => own_lal X13 hx hZ e13 f8 1 (by decide) (by omega) (hb hby d8_73) k) ?_
  show own_Go _ _ _ _ (T13.setTop (mkF m 74 #[.val (.ref a1), .val (.long (f 0)), .second, .val (.long (f 3)), .second, .val (.int (0 : Int32)), .val (.int (1 : Int32))] [(.long (f 1)), (.long (f 2))]))
  refine own_by (fun _ k => XS.lcmp X13.here hx rfl (hb hby d8_74) rfl k) ?_
  show own_Go _ _ _ _ (T13.setTop (mkF m 75 #[.val (.ref a1), .val (.long (f 0)), .second, .val (.long (f 3)), .second, .val (.int (0 : Int32)), .val (.int (1 : Int32))] [(.int (lcmpW (f 2) (f 1)))]))
  by_cases hc14 : (f 2) < (f 1)
  · --
    refine own_by (fun _ k => XS.ifNo X13.here hx rfl (hb hby d8_75) rfl ((if0 _ _).trans (tlt ((lw_lt _ _).mpr hc14)).2.1) k) ?_
    show own_Go _ _ _ _ (T13.setTop (mkF m 78 #[.val (.ref a1), .val (.long (f 0)), .second, .val (.long (f 3)), .second, .val (.int (0 : Int32)), .val (.int (1 : Int32))] []))
    refine own_by (fun _ k => XS.iinc X13.here hx rfl (hb hby d8_78) rfl (l' := #[.val (.ref a1), .val (.long (f 0)), .second, .val (.long (f 3)), .second, .val (.int (0 : Int32)), .val (.int ((1 : Int32) + (1 : Int32)))]) rfl k) ?_
    show own_Go _ _ _ _ (T13.setTop (mkF m 81 #[.val (.ref a1), .val (.long (f 0)), .second, .val (.long (f 3)), .second, .val (.int (0 : Int32)), .val (.int ((1 : Int32) + (1 : Int32)))] []))
    rw [(by decide : ((1 : Int32) + (1 : Int32)) = (2 : Int32))]
    refine own_by (fun _ k => XS.aloadN X13.here hx rfl (hb hby d8_81) rfl rfl k) ?_
    show own_Go _ _ _ _ (T13.setTop (mkF m 82 #[.val (.ref a1), .val (.long (f 0)), .second, .val (.long (f 3)), .second, .val (.int (0 : Int32)), .val (.int (2 : Int32))] [(.ref a1)]))
    obtain ⟨T15, X15, e15, st15⟩ := getF X13 hx hZ hown (host := "") (Or.inl (hw _ (List.mem_of_getElem? (i := 20) rfl))) Via.refl e13 f7 (g := (mkF m 82 #[.val (.ref a1), .val (.long (f 0)), .second, .val (.long (f 3)), .second, .val (.int (0 : Int32)), .val (.int (2 : Int32))] [(.ref a1)])) rfl rfl (hb hby d8_82)
    refine own_by st15 ?_
    refine own_by (fun _ k => XS.iload X15.here hx rfl (hb hby d8_85) rfl k) ?_
    show own_Go _ _ _ _ (T15.setTop (mkF m 87 #[.val (.ref a1), .val (.long (f 0)), .second, .val (.long (f 3)), .second, .val (.int (0 : Int32)), .val (.int (2 : Int32))] [(.int (2 : Int32)), (.ref b1)]))
    refine own_by (fun _ k => own_lal X15 hx hZ e15 f8 2 (by decide) (by omega) (hb hby d8_87) k) ?_
    refine own_by (fun _ k => XS.lloadN X15.here hx rfl (hb hby d8_88) rfl k) ?_
    show own_Go _ _ _ _ (T15.setTop (mkF m 89 #[.val (.ref a1), .val (.long (f 0)), .second, .val (.long (f 3)), .second, .val (.int (0 : Int32)), .val (.int (2 : Int32))] [(.long (f 3)), (.long (f 2))]))
    refine own_by (fun _ k => XS.lcmp X15.here hx rfl (hb hby d8_89) rfl k) ?_
    show own_Go _ _ _ _ (T15.setTop (mkF m 90 #[.val (.ref a1), .val (.long (f 0)), .second, .val (.long (f 3)), .second, .val (.int (0 : Int32)), .val (.int (2 : Int32))] [(.int (lcmpW (f 2) (f 3)))]))
    by_cases hc16 : (f 2) < (f 3)
    · --
      refine own_by (fun _ k => XS.ifYes X15.here hx rfl (pc0 := 90) (pc' := 96) rfl (hb hby d8_90) rfl ((if0 _ _).trans (tlt ((lw_lt _ _).mpr hc16)).1) (by decide) (by decide) k) ?_
      refine own_by (fun _ k => XS.aloadN X15.here hx rfl (hb hby d8_96) rfl rfl k) ?_
      show own_Go _ _ _ _ (T15.setTop (mkF m 97 #[.val (.ref a1), .val (.long (f 0)), .second, .val (.long (f 3)), .second, .val (.int (0 : Int32)), .val (.int (2 : Int32))] [(.ref a1)]))
      obtain ⟨T17, X17, e17, st17⟩ := getF X15 hx hZ hown (host := "") (Or.inl (hw _ (List.mem_of_getElem? (i := 20) rfl))) Via.refl e15 f7 (g := (mkF m 97 #[.val (.ref a1), .val (.long (f 0)), .second, .val (.long (f 3)), .second, .val (.int (0 : Int32)), .val (.int (2 : Int32))] [(.ref a1)])) rfl rfl (hb hby d8_97)
      refine own_by st17 ?_
      refine own_by (fun _ k => XS.iload X17.here hx rfl (hb hby d8_100) rfl k) ?_
      refine own_by (fun _ k => XS.aloadN X17.here hx rfl (hb hby d8_102) rfl rfl k) ?_
      show own_Go _ _ _ _ (T17.setTop (mkF m 103 #[.val (.ref a1), .val (.long (f 0)), .second, .val (.long (f 3)), .second, .val (.int (0 : Int32)), .val (.int (2 : Int32))] [(.ref a1), (.int (0 : Int32)), (.ref b1)]))
      obtain ⟨T18, X18, e18, st18⟩ := getF X17 hx hZ hown (host := "") (Or.inl (hw _ (List.mem_of_getElem? (i := 20) rfl))) Via.refl e17 f7 (g := (mkF m 103 #[.val (.ref a1), .val (.long (f 0)), .second, .val (.long (f 3)), .second, .val (.int (0 : Int32)), .val (.int (2 : Int32))] [(.ref a1), (.int (0 : Int32)), (.ref b1)])) rfl rfl (hb hby d8_103)
      refine own_by st18 ?_
      refine own_by (fun _ k => XS.iload X18.here hx rfl (hb hby d8_106) rfl k) ?_
      show own_Go _ _ _ _ (T18.setTop (mkF m 108 #[.val (.ref a1), .val (.long (f 0)), .second, .val (.long (f 3)), .second, .val (.int (0 : Int32)), .val (.int (2 : Int32))] [(.int (2 : Int32)), (.ref b1), (.int (0 : Int32)), (.ref b1)]))
      refine own_by (fun _ k => own_lal X18 hx hZ e18 f8 2 (by decide) (by omega) (hb hby d8_108) k) ?_
      show own_Go _ _ _ _ (T18.setTop (mkF m 109 #[.val (.ref a1), .val (.long (f 0)), .second, .val (.long (f 3)), .second, .val (.int (0 : Int32)), .val (.int (2 : Int32))] [(.long (f 2)), (.int (0 : Int32)), (.ref b1)]))
      refine own_las X18 hx hZ e18 f8 0 (by decide) (by omega) (hb hby d8_109) ?_
      intro T19 h19 X19 e19 W19 A19
      have f20 := f6.wr W19
      have f21 := f7.other W19 (Or.inl hab)
      have f22 := f5.other W19 (Or.inl hab)
      have f23 := f9.wr W19 (Or.inl (List.mem_of_getElem? (i := 1) rfl))
      have N19 := Fr.snoc X19 N4 Pg2
      have Z19 := own_size_wr W19 Z4
      obtain ⟨fn19, hfn19⟩ : ∃ g : Nat → Int64, g = own_upd f 0 (f 2) := ⟨_, rfl⟩
      rw [← hfn19] at A19
      show own_Go _ _ _ _ (T19.setTop (mkF m 110 #[.val (.ref a1), .val (.long (f 0)), .second, .val (.long (f 3)), .second, .val (.int (0 : Int32)), .val (.int (2 : Int32))] []))
      refine own_by (fun _ k => XS.iload X19.here hx rfl (hb hby d8_110) rfl k) ?_
      show own_Go _ _ _ _ (T19.setTop (mkF m 112 #[.val (.ref a1), .val (.long (f 0)), .second, .val (.long (f 3)), .second, .val (.int (0 : Int32)), .val (.int (2 : Int32))] [(.int (2 : Int32))]))
      refine own_by (fun _ k => XS.istore X19.here hx rfl (hb hby d8_112) rfl (l' := #[.val (.ref a1), .val (.long (f 0)), .second, .val (.long (f 3)), .second, .val (.int (2 : Int32)), .val (.int (2 : Int32))]) rfl k) ?_
      show own_Go _ _ _ _ (T19.setTop (mkF m 114 #[.val (.ref a1), .val (.long (f 0)), .second, .val (.long (f 3)), .second, .val (.int (2 : Int32)), .val (.int (2 : Int32))] []))
      refine own_by (fun _ k => XS.goto X19.here hx rfl (pc0 := 114) (pc' := 27) rfl (hb hby d8_114) (by decide) (by decide) k) ?_
      refine own_by (fun _ k => XS.iconst X19.here hx rfl (hb hby d8_27) k) ?_
      refine own_by (fun _ k => XS.iload X19.here hx rfl (hb hby d8_28) rfl k) ?_
      show own_Go _ _ _ _ (T19.setTop (mkF m 30 #[.val (.ref a1), .val (.long (f 0)), .second, .val (.long (f 3)), .second, .val (.int (2 : Int32)), .val (.int (2 : Int32))] [(.int (2 : Int32)), (.int (2 : Int32))]))
      refine own_by (fun _ k => XS.imul X19.here hx rfl (hb hby d8_30) rfl k) ?_
      show own_Go _ _ _ _ (T19.setTop (mkF m 31 #[.val (.ref a1), .val (.long (f 0)), .second, .val (.long (f 3)), .second, .val (.int (2 : Int32)), .val (.int (2 : Int32))] [(.int ((2 : Int32) * (2 : Int32)))]))
      rw [(by decide : ((2 : Int32) * (2 : Int32)) = (4 : Int32))]
      refine own_by (fun _ k => XS.iconst X19.here hx rfl (hb hby d8_31) k) ?_
      show own_Go _ _ _ _ (T19.setTop (mkF m 32 #[.val (.ref a1), .val (.long (f 0)), .second, .val (.long (f 3)), .second, .val (.int (2 : Int32)), .val (.int (2 : Int32))] [(.int (1 : Int32)), (.int (4 : Int32))]))
      refine own_by (fun _ k => XS.iadd X19.here hx rfl (hb hby d8_32) rfl k) ?_
      show own_Go _ _ _ _ (T19.setTop (mkF m 33 #[.val (.ref a1), .val (.long (f 0)), .second, .val (.long (f 3)), .second, .val (.int (2 : Int32)), .val (.int (2 : Int32))] [(.int ((4 : Int32) + (1 : Int32)))]))
      rw [(by decide : ((4 : Int32) + (1 : Int32)) = (5 : Int32))]
      show own_Go _ _ _ _ (T19.setTop (mkF m 33 #[.val (.ref a1), .val (.long (f 0)), .second, .val (.long (f 3)), .second, .val (.int (2 : Int32)), .val (.int (2 : Int32))] [(.int (5 : Int32))]))
      refine own_by (fun _ k => XS.istore X19.here hx rfl (hb hby d8_33) rfl (l' := #[.val (.ref a1), .val (.long (f 0)), .second, .val (.long (f 3)), .second, .val (.int (2 : Int32)), .val (.int (5 : Int32))]) rfl k) ?_
      refine own_by (fun _ k => XS.iload X19.here hx rfl (hb hby d8_35) rfl k) ?_
      refine own_by (fun _ k => XS.aloadN X19.here hx rfl (hb hby d8_37) rfl rfl k) ?_
      show own_Go _ _ _ _ (T19.setTop (mkF m 38 #[.val (.ref a1), .val (.long (f 0)), .second, .val (.long (f 3)), .second, .val (.int (2 : Int32)), .val (.int (5 : Int32))] [(.ref a1), (.int (5 : Int32))]))
      obtain ⟨T24, X24, e24, st24⟩ := getF X19 hx hZ hown (host := "") (Or.inl (hw _ (List.mem_of_getElem? (i := 27) rfl))) Via.refl e19 f22 (g := (mkF m 38 #[.val (.ref a1), .val (.long (f 0)), .second, .val (.long (f 3)), .second, .val (.int (2 : Int32)), .val (.int (5 : Int32))] [(.ref a1), (.int (5 : Int32))])) rfl rfl (hb hby d8_38)
      refine own_by st24 ?_
      show own_Go _ _ _ _ (T24.setTop (mkF m 41 #[.val (.ref a1), .val (.long (f 0)), .second, .val (.long (f 3)), .second, .val (.int (2 : Int32)), .val (.int (5 : Int32))] [(.int (3 : Int32)), (.int (5 : Int32))]))
      refine own_by (fun _ k => XS.icmpNo X24.here hx rfl (hb hby d8_41) rfl (flt (by decide)).1 k) ?_
      show own_Go _ _ _ _ (T24.setTop (mkF m 44 #[.val (.ref a1), .val (.long (f 0)), .second, .val (.long (f 3)), .second, .val (.int (2 : Int32)), .val (.int (5 : Int32))] []))
      refine own_by (fun _ k => XS.goto X24.here hx rfl (pc0 := 44) (pc' := 117) rfl (hb hby d8_44) (by decide) (by decide) k) ?_
      refine own_by (fun _ k => XS.aloadN X24.here hx rfl (hb hby d8_117) rfl rfl k) ?_
      show own_Go _ _ _ _ (T24.setTop (mkF m 118 #[.val (.ref a1), .val (.long (f 0)), .second, .val (.long (f 3)), .second, .val (.int (2 : Int32)), .val (.int (5 : Int32))] [(.ref a1)]))
      obtain ⟨T25, X25, e25, st25⟩ := getF X24 hx hZ hown (host := "") (Or.inl (hw _ (List.mem_of_getElem? (i := 20) rfl))) Via.refl e24 f21 (g := (mkF m 118 #[.val (.ref a1), .val (.long (f 0)), .second, .val (.long (f 3)), .second, .val (.int (2 : Int32)), .val (.int (5 : Int32))] [(.ref a1)])) rfl rfl (hb hby d8_118)
      refine own_by st25 ?_
      refine own_by (fun _ k => XS.iload X25.here hx rfl (hb hby d8_121) rfl k) ?_
      refine own_by (fun _ k => XS.lloadN X25.here hx rfl (hb hby d8_123) rfl k) ?_
      show own_Go _ _ _ _ (T25.setTop (mkF m 124 #[.val (.ref a1), .val (.long (f 0)), .second, .val (.long (f 3)), .second, .val (.int (2 : Int32)), .val (.int (5 : Int32))] [(.long (f 3)), (.int (2 : Int32)), (.ref b1)]))
      refine own_las X25 hx hZ e25 A19 2 (by decide) (by omega) (hb hby d8_124) ?_
      intro T26 h26 X26 e26 W26 A26
      have f27 := f20.wr W26
      have f28 := f21.other W26 (Or.inl hab)
      have f29 := f22.other W26 (Or.inl hab)
      have f30 := f23.wr W26 (Or.inl (List.mem_of_getElem? (i := 1) rfl))
      have N26 := Fr.snoc X26 N19 Pg2
      have Z26 := own_size_wr W26 Z19
      obtain ⟨fn26, hfn26⟩ : ∃ g : Nat → Int64, g = own_upd fn19 2 (f 3) := ⟨_, rfl⟩
      rw [← hfn26] at A26
      show own_Go _ _ _ _ (T26.setTop (mkF m 125 #[.val (.ref a1), .val (.long (f 0)), .second, .val (.long (f 3)), .second, .val (.int (2 : Int32)), .val (.int (5 : Int32))] []))
      refine own_by (fun _ k => XS.lloadN X26.here hx rfl (hb hby d8_125) rfl k) ?_
      show own_Go _ _ _ _ (T26.setTop (mkF m 126 #[.val (.ref a1), .val (.long (f 0)), .second, .val (.long (f 3)), .second, .val (.int (2 : Int32)), .val (.int (5 : Int32))] [(.long (f 0))]))
      have hfin : own_hp (fn26) 3 ∧ (∀ x, own_cnt f x 4 = own_one (f 0) x + own_cnt (fn26) x 3) := by
        simp only [hfn26, hfn19]
        obtain ⟨H1, H2, H3, H4⟩ := HP
        have hc14' := hc14
        rw [Int64.lt_iff_toInt_lt] at hc14'
        have hc16' := hc16
        rw [Int64.lt_iff_toInt_lt] at hc16'
        refine ⟨⟨fun q => ?_, fun q => ?_, fun q => ?_, fun q => ?_⟩, fun x => ?_⟩
        · first | omega | (simp [own_upd] at *; omega)
        · first | omega | (simp [own_upd] at *; omega)
        · first | omega | (simp [own_upd] at *; omega)
        · first | omega | (simp [own_upd] at *; omega)
        · simp [own_cnt, own_upd]; try omega
      exact own_retJ X26 hx Bd.notSynchronized e26 Bd.returns (hb hby d8_126) (⟨rfl, N26, f30, _, f28, f29, A26, hfin.1, hfin.2⟩) (by decide) (by decide)
    · --
      refine own_by (fun _ k => XS.ifNo X15.here hx rfl (hb hby d8_90) rfl ((if0 _ _).trans (flt (mt (lw_lt _ _).mp hc16)).1) k) ?_
      show own_Go _ _ _ _ (T15.setTop (mkF m 93 #[.val (.ref a1), .val (.long (f 0)), .second, .val (.long (f 3)), .second, .val (.int (0 : Int32)), .val (.int (2 : Int32))] []))
      refine own_by (fun _ k => XS.goto X15.here hx rfl (pc0 := 93) (pc' := 117) rfl (hb hby d8_93) (by decide) (by decide) k) ?_
      refine own_by (fun _ k => XS.aloadN X15.here hx rfl (hb hby d8_117) rfl rfl k) ?_
      show own_Go _ _ _ _ (T15.setTop (mkF m 118 #[.val (.ref a1), .val (.long (f 0)), .second, .val (.long (f 3)), .second, .val (.int (0 : Int32)), .val (.int (2 : Int32))] [(.ref a1)]))
      obtain ⟨T31, X31, e31, st31⟩ := getF X15 hx hZ hown (host := "") (Or.inl (hw _ (List.mem_of_getElem? (i := 20) rfl))) Via.refl e15 f7 (g := (mkF m 118 #[.val (.ref a1), .val (.long (f 0)), .second, .val (.long (f 3)), .second, .val (.int (0 : Int32)), .val (.int (2 : Int32))] [(.ref a1)])) rfl rfl (hb hby d8_118)
      refine own_by st31 ?_
      refine own_by (fun _ k => XS.iload X31.here hx rfl (hb hby d8_121) rfl k) ?_
      refine own_by (fun _ k => XS.lloadN X31.here hx rfl (hb hby d8_123) rfl k) ?_
      show own_Go _ _ _ _ (T31.setTop (mkF m 124 #[.val (.ref a1), .val (.long (f 0)), .second, .val (.long (f 3)), .second, .val (.int (0 : Int32)), .val (.int (2 : Int32))] [(.long (f 3)), (.int (0 : Int32)), (.ref b1)]))
      refine own_las X31 hx hZ e31 f8 0 (by decide) (by omega) (hb hby d8_124) ?_
      intro T32 h32 X32 e32 W32 A32
      have f33 := f6.wr W32
      have f34 := f7.other W32 (Or.inl hab)
      have f35 := f5.other W32 (Or.inl hab)
      have f36 := f9.wr W32 (Or.inl (List.mem_of_getElem? (i := 1) rfl))
      have N32 := Fr.snoc X32 N4 Pg2
      have Z32 := own_size_wr W32 Z4
      obtain ⟨fn32, hfn32⟩ : ∃ g : Nat → Int64, g = own_upd f 0 (f 3) := ⟨_, rfl⟩
      rw [← hfn32] at A32
      show own_Go _ _ _ _ (T32.setTop (mkF m 125 #[.val (.ref a1), .val (.long (f 0)), .second, .val (.long (f 3)), .second, .val (.int (0 : Int32)), .val (.int (2 : Int32))] []))
      refine own_by (fun _ k => XS.lloadN X32.here hx rfl (hb hby d8_125) rfl k) ?_
      show own_Go _ _ _ _ (T32.setTop (mkF m 126 #[.val (.ref a1), .val (.long (f 0)), .second, .val (.long (f 3)), .second, .val (.int (0 : Int32)), .val (.int (2 : Int32))] [(.long (f 0))]))
      have hfin : own_hp (fn32) 3 ∧ (∀ x, own_cnt f x 4 = own_one (f 0) x + own_cnt (fn32) x 3) := by
        simp only [hfn32]
        obtain ⟨H1, H2, H3, H4⟩ := HP
        have hc14' := hc14
        rw [Int64.lt_iff_toInt_lt] at hc14'
        have hc16' := hc16
        rw [Int64.lt_iff_toInt_lt] at hc16'
        refine ⟨⟨fun q => ?_, fun q => ?_, fun q => ?_, fun q => ?_⟩, fun x => ?_⟩
        · first | omega | (simp [own_upd] at *; omega)
        · first | omega | (simp [own_upd] at *; omega)
        · first | omega | (simp [own_upd] at *; omega)
        · first | omega | (simp [own_upd] at *; omega)
        · simp [own_cnt, own_upd]; try omega
      exact own_retJ X32 hx Bd.notSynchronized e32 Bd.returns (hb hby d8_126) (⟨rfl, N32, f36, _, f34, f35, A32, hfin.1, hfin.2⟩) (by decide) (by decide)
  · --
    refine own_by (fun _ k => XS.ifYes X13.here hx rfl (pc0 := 75) (pc' := 81) rfl (hb hby d8_75) rfl ((if0 _ _).trans (flt (mt (lw_lt _ _).mp hc14)).2.1) (by decide) (by decide) k) ?_
    refine own_by (fun _ k => XS.aloadN X13.here hx rfl (hb hby d8_81) rfl rfl k) ?_
    show own_Go _ _ _ _ (T13.setTop (mkF m 82 #[.val (.ref a1), .val (.long (f 0)), .second, .val (.long (f 3)), .second, .val (.int (0 : Int32)), .val (.int (1 : Int32))] [(.ref a1)]))
    obtain ⟨T37, X37, e37, st37⟩ := getF X13 hx hZ hown (host := "") (Or.inl (hw _ (List.mem_of_getElem? (i := 20) rfl))) Via.refl e13 f7 (g := (mkF m 82 #[.val (.ref a1), .val (.long (f 0)), .second, .val (.long (f 3)), .second, .val (.int (0 : Int32)), .val (.int (1 : Int32))] [(.ref a1)])) rfl rfl (hb hby d8_82)
    refine own_by st37 ?_
    refine own_by (fun _ k => XS.iload X37.here hx rfl (hb hby d8_85) rfl k) ?_
    show own_Go _ _ _ _ (T37.setTop (mkF m 87 #[.val (.ref a1), .val (.long (f 0)), .second, .val (.long (f 3)), .second, .val (.int (0 : Int32)), .val (.int (1 : Int32))] [(.int (1 : Int32)), (.ref b1)]))
    refine own_by (fun _ k => own_lal X37 hx hZ e37 f8 1 (by decide) (by omega) (hb hby d8_87) k) ?_
    refine own_by (fun _ k => XS.lloadN X37.here hx rfl (hb hby d8_88) rfl k) ?_
    show own_Go _ _ _ _ (T37.setTop (mkF m 89 #[.val (.ref a1), .val (.long (f 0)), .second, .val (.long (f 3)), .second, .val (.int (0 : Int32)), .val (.int (1 : Int32))] [(.long (f 3)), (.long (f 1))]))
    refine own_by (fun _ k => XS.lcmp X37.here hx rfl (hb hby d8_89) rfl k) ?_
    show own_Go _ _ _ _ (T37.setTop (mkF m 90 #[.val (.ref a1), .val (.long (f 0)), .second, .val (.long (f 3)), .second, .val (.int (0 : Int32)), .val (.int (1 : Int32))] [(.int (lcmpW (f 1) (f 3)))]))
    by_cases hc38 : (f 1) < (f 3)
    · --
      refine own_by (fun _ k => XS.ifYes X37.here hx rfl (pc0 := 90) (pc' := 96) rfl (hb hby d8_90) rfl ((if0 _ _).trans (tlt ((lw_lt _ _).mpr hc38)).1) (by decide) (by decide) k) ?_
      refine own_by (fun _ k => XS.aloadN X37.here hx rfl (hb hby d8_96) rfl rfl k) ?_
      show own_Go _ _ _ _ (T37.setTop (mkF m 97 #[.val (.ref a1), .val (.long (f 0)), .second, .val (.long (f 3)), .second, .val (.int (0 : Int32)), .val (.int (1 : Int32))] [(.ref a1)]))
      obtain ⟨T39, X39, e39, st39⟩ := getF X37 hx hZ hown (host := "") (Or.inl (hw _ (List.mem_of_getElem? (i := 20) rfl))) Via.refl e37 f7 (g := (mkF m 97 #[.val (.ref a1), .val (.long (f 0)), .second, .val (.long (f 3)), .second, .val (.int (0 : Int32)), .val (.int (1 : Int32))] [(.ref a1)])) rfl rfl (hb hby d8_97)
      refine own_by st39 ?_
      refine own_by (fun _ k => XS.iload X39.here hx rfl (hb hby d8_100) rfl k) ?_
      refine own_by (fun _ k => XS.aloadN X39.here hx rfl (hb hby d8_102) rfl rfl k) ?_
      show own_Go _ _ _ _ (T39.setTop (mkF m 103 #[.val (.ref a1), .val (.long (f 0)), .second, .val (.long (f 3)), .second, .val (.int (0 : Int32)), .val (.int (1 : Int32))] [(.ref a1), (.int (0 : Int32)), (.ref b1)]))
      obtain ⟨T40, X40, e40, st40⟩ := getF X39 hx hZ hown (host := "") (Or.inl (hw _ (List.mem_of_getElem? (i := 20) rfl))) Via.refl e39 f7 (g := (mkF m 103 #[.val (.ref a1), .val (.long (f 0)), .second, .val (.long (f 3)), .second, .val (.int (0 : Int32)), .val (.int (1 : Int32))] [(.ref a1), (.int (0 : Int32)), (.ref b1)])) rfl rfl (hb hby d8_103)
      refine own_by st40 ?_
      refine own_by (fun _ k => XS.iload X40.here hx rfl (hb hby d8_106) rfl k) ?_
      show own_Go _ _ _ _ (T40.setTop (mkF m 108 #[.val (.ref a1), .val (.long (f 0)), .second, .val (.long (f 3)), .second, .val (.int (0 : Int32)), .val (.int (1 : Int32))] [(.int (1 : Int32)), (.ref b1), (.int (0 : Int32)), (.ref b1)]))
      refine own_by (fun _ k => own_lal X40 hx hZ e40 f8 1 (by decide) (by omega) (hb hby d8_108) k) ?_
      show own_Go _ _ _ _ (T40.setTop (mkF m 109 #[.val (.ref a1), .val (.long (f 0)), .second, .val (.long (f 3)), .second, .val (.int (0 : Int32)), .val (.int (1 : Int32))] [(.long (f 1)), (.int (0 : Int32)), (.ref b1)]))
      refine own_las X40 hx hZ e40 f8 0 (by decide) (by omega) (hb hby d8_109) ?_
      intro T41 h41 X41 e41 W41 A41
      have f42 := f6.wr W41
      have f43 := f7.other W41 (Or.inl hab)
      have f44 := f5.other W41 (Or.inl hab)
      have f45 := f9.wr W41 (Or.inl (List.mem_of_getElem? (i := 1) rfl))
      have N41 := Fr.snoc X41 N4 Pg2
      have Z41 := own_size_wr W41 Z4
      obtain ⟨fn41, hfn41⟩ : ∃ g : Nat → Int64, g = own_upd f 0 (f 1) := ⟨_, rfl⟩
      rw [← hfn41] at A41
      show own_Go _ _ _ _ (T41.setTop (mkF m 110 #[.val (.ref a1), .val (.long (f 0)), .second, .val (.long (f 3)), .second, .val (.int (0 : Int32)), .val (.int (1 : Int32))] []))
      refine own_by (fun _ k => XS.iload X41.here hx rfl (hb hby d8_110) rfl k) ?_
      show own_Go _ _ _ _ (T41.setTop (mkF m 112 #[.val (.ref a1), .val (.long (f 0)), .second, .val (.long (f 3)), .second, .val (.int (0 : Int32)), .val (.int (1 : Int32))] [(.int (1 : Int32))]))
      refine own_by (fun _ k => XS.istore X41.here hx rfl (hb hby d8_112) rfl (l' := #[.val (.ref a1), .val (.long (f 0)), .second, .val (.long (f 3)), .second, .val (.int (1 : Int32)), .val (.int (1 : Int32))]) rfl k) ?_
      show own_Go _ _ _ _ (T41.setTop (mkF m 114 #[.val (.ref a1), .val (.long (f 0)), .second, .val (.long (f 3)), .second, .val (.int (1 : Int32)), .val (.int (1 : Int32))] []))
      refine own_by (fun _ k => XS.goto X41.here hx rfl (pc0 := 114) (pc' := 27) rfl (hb hby d8_114) (by decide) (by decide) k) ?_
      refine own_by (fun _ k => XS.iconst X41.here hx rfl (hb hby d8_27) k) ?_
      refine own_by (fun _ k => XS.iload X41.here hx rfl (hb hby d8_28) rfl k) ?_
      show own_Go _ _ _ _ (T41.setTop (mkF m 30 #[.val (.ref a1), .val (.long (f 0)), .second, .val (.long (f 3)), .second, .val (.int (1 : Int32)), .val (.int (1 : Int32))] [(.int (1 : Int32)), (.int (2 : Int32))]))
      refine own_by (fun _ k => XS.imul X41.here hx rfl (hb hby d8_30) rfl k) ?_
      show own_Go _ _ _ _ (T41.setTop (mkF m 31 #[.val (.ref a1), .val (.long (f 0)), .second, .val (.long (f 3)), .second, .val (.int (1 : Int32)), .val (.int (1 : Int32))] [(.int ((2 : Int32) * (1 : Int32)))]))
      rw [(by decide : ((2 : Int32) * (1 : Int32)) = (2 : Int32))]
      refine own_by (fun _ k => XS.iconst X41.here hx rfl (hb hby d8_31) k) ?_
      show own_Go _ _ _ _ (T41.setTop (mkF m 32 #[.val (.ref a1), .val (.long (f 0)), .second, .val (.long (f 3)), .second, .val (.int (1 : Int32)), .val (.int (1 : Int32))] [(.int (1 : Int32)), (.int (2 : Int32))]))
      refine own_by (fun _ k => XS.iadd X41.here hx rfl (hb hby d8_32) rfl k) ?_
      show own_Go _ _ _ _ (T41.setTop (mkF m 33 #[.val (.ref a1), .val (.long (f 0)), .second, .val (.long (f 3)), .second, .val (.int (1 : Int32)), .val (.int (1 : Int32))] [(.int ((2 : Int32) + (1 : Int32)))]))
      rw [(by decide : ((2 : Int32) + (1 : Int32)) = (3 : Int32))]
      show own_Go _ _ _ _ (T41.setTop (mkF m 33 #[.val (.ref a1), .val (.long (f 0)), .second, .val (.long (f 3)), .second, .val (.int (1 : Int32)), .val (.int (1 : Int32))] [(.int (3 : Int32))]))
      refine own_by (fun _ k => XS.istore X41.here hx rfl (hb hby d8_33) rfl (l' := #[.val (.ref a1), .val (.long (f 0)), .second, .val (.long (f 3)), .second, .val (.int (1 : Int32)), .val (.int (3 : Int32))]) rfl k) ?_
      refine own_by (fun _ k => XS.iload X41.here hx rfl (hb hby d8_35) rfl k) ?_
      refine own_by (fun _ k => XS.aloadN X41.here hx rfl (hb hby d8_37) rfl rfl k) ?_
      show own_Go _ _ _ _ (T41.setTop (mkF m 38 #[.val (.ref a1), .val (.long (f 0)), .second, .val (.long (f 3)), .second, .val (.int (1 : Int32)), .val (.int (3 : Int32))] [(.ref a1), (.int (3 : Int32))]))
      obtain ⟨T46, X46, e46, st46⟩ := getF X41 hx hZ hown (host := "") (Or.inl (hw _ (List.mem_of_getElem? (i := 27) rfl))) Via.refl e41 f44 (g := (mkF m 38 #[.val (.ref a1), .val (.long (f 0)), .second, .val (.long (f 3)), .second, .val (.int (1 : Int32)), .val (.int (3 : Int32))] [(.ref a1), (.int (3 : Int32))])) rfl rfl (hb hby d8_38)
      refine own_by st46 ?_
      show own_Go _ _ _ _ (T46.setTop (mkF m 41 #[.val (.ref a1), .val (.long (f 0)), .second, .val (.long (f 3)), .second, .val (.int (1 : Int32)), .val (.int (3 : Int32))] [(.int (3 : Int32)), (.int (3 : Int32))]))
      refine own_by (fun _ k => XS.icmpNo X46.here hx rfl (hb hby d8_41) rfl (flt (by decide)).1 k) ?_
      show own_Go _ _ _ _ (T46.setTop (mkF m 44 #[.val (.ref a1), .val (.long (f 0)), .second, .val (.long (f 3)), .second, .val (.int (1 : Int32)), .val (.int (3 : Int32))] []))
      refine own_by (fun _ k => XS.goto X46.here hx rfl (pc0 := 44) (pc' := 117) rfl (hb hby d8_44) (by decide) (by decide) k) ?_
      refine own_by (fun _ k => XS.aloadN X46.here hx rfl (hb hby d8_117) rfl rfl k) ?_
      show own_Go _ _ _ _ (T46.setTop (mkF m 118 #[.val (.ref a1), .val (.long (f 0)), .second, .val (.long (f 3)), .second, .val (.int (1 : Int32)), .val (.int (3 : Int32))] [(.ref a1)]))
      obtain ⟨T47, X47, e47, st47⟩ := getF X46 hx hZ hown (host := "") (Or.inl (hw _ (List.mem_of_getElem? (i := 20) rfl))) Via.refl e46 f43 (g := (mkF m 118 #[.val (.ref a1), .val (.long (f 0)), .second, .val (.long (f 3)), .second, .val (.int (1 : Int32)), .val (.int (3 : Int32))] [(.ref a1)])) rfl rfl (hb hby d8_118)
      refine own_by st47 ?_
      refine own_by (fun _ k => XS.iload X47.here hx rfl (hb hby d8_121) rfl k) ?_
      refine own_by (fun _ k => XS.lloadN X47.here hx rfl (hb hby d8_123) rfl k) ?_
      show own_Go _ _ _ _ (T47.setTop (mkF m 124 #[.val (.ref a1), .val (.long (f 0)), .second, .val (.long (f 3)), .second, .val (.int (1 : Int32)), .val (.int (3 : Int32))] [(.long (f 3)), (.int (1 : Int32)), (.ref b1)]))
      refine own_las X47 hx hZ e47 A41 1 (by decide) (by omega) (hb hby d8_124) ?_
      intro T48 h48 X48 e48 W48 A48
      have f49 := f42.wr W48
      have f50 := f43.other W48 (Or.inl hab)
      have f51 := f44.other W48 (Or.inl hab)
      have f52 := f45.wr W48 (Or.inl (List.mem_of_getElem? (i := 1) rfl))
      have N48 := Fr.snoc X48 N41 Pg2
      have Z48 := own_size_wr W48 Z41
      obtain ⟨fn48, hfn48⟩ : ∃ g : Nat → Int64, g = own_upd fn41 1 (f 3) := ⟨_, rfl⟩
      rw [← hfn48] at A48
      show own_Go _ _ _ _ (T48.setTop (mkF m 125 #[.val (.ref a1), .val (.long (f 0)), .second, .val (.long (f 3)), .second, .val (.int (1 : Int32)), .val (.int (3 : Int32))] []))
      refine own_by (fun _ k => XS.lloadN X48.here hx rfl (hb hby d8_125) rfl k) ?_
      show own_Go _ _ _ _ (T48.setTop (mkF m 126 #[.val (.ref a1), .val (.long (f 0)), .second, .val (.long (f 3)), .second, .val (.int (1 : Int32)), .val (.int (3 : Int32))] [(.long (f 0))]))
      have hfin : own_hp (fn48) 3 ∧ (∀ x, own_cnt f x 4 = own_one (f 0) x + own_cnt (fn48) x 3) := by
        simp only [hfn48, hfn41]
        obtain ⟨H1, H2, H3, H4⟩ := HP
        have hc14' := hc14
        rw [Int64.lt_iff_toInt_lt] at hc14'
        have hc38' := hc38
        rw [Int64.lt_iff_toInt_lt] at hc38'
        refine ⟨⟨fun q => ?_, fun q => ?_, fun q => ?_, fun q => ?_⟩, fun x => ?_⟩
        · first | omega | (simp [own_upd] at *; omega)
        · first | omega | (simp [own_upd] at *; omega)
        · first | omega | (simp [own_upd] at *; omega)
        · first | omega | (simp [own_upd] at *; omega)
        · simp [own_cnt, own_upd]; try omega
      exact own_retJ X48 hx Bd.notSynchronized e48 Bd.returns (hb hby d8_126) (⟨rfl, N48, f52, _, f50, f51, A48, hfin.1, hfin.2⟩) (by decide) (by decide)
    · --
      refine own_by (fun _ k => XS.ifNo X37.here hx rfl (hb hby d8_90) rfl ((if0 _ _).trans (flt (mt (lw_lt _ _).mp hc38)).1) k) ?_
      show own_Go _ _ _ _ (T37.setTop (mkF m 93 #[.val (.ref a1), .val (.long (f 0)), .second, .val (.long (f 3)), .second, .val (.int (0 : Int32)), .val (.int (1 : Int32))] []))
      refine own_by (fun _ k => XS.goto X37.here hx rfl (pc0 := 93) (pc' := 117) rfl (hb hby d8_93) (by decide) (by decide) k) ?_
      refine own_by (fun _ k => XS.aloadN X37.here hx rfl (hb hby d8_117) rfl rfl k) ?_
      show own_Go _ _ _ _ (T37.setTop (mkF m 118 #[.val (.ref a1), .val (.long (f 0)), .second, .val (.long (f 3)), .second, .val (.int (0 : Int32)), .val (.int (1 : Int32))] [(.ref a1)]))
      obtain ⟨T53, X53, e53, st53⟩ := getF X37 hx hZ hown (host := "") (Or.inl (hw _ (List.mem_of_getElem? (i := 20) rfl))) Via.refl e37 f7 (g := (mkF m 118 #[.val (.ref a1), .val (.long (f 0)), .second, .val (.long (f 3)), .second, .val (.int (0 : Int32)), .val (.int (1 : Int32))] [(.ref a1)])) rfl rfl (hb hby d8_118)
      refine own_by st53 ?_
      refine own_by (fun _ k => XS.iload X53.here hx rfl (hb hby d8_121) rfl k) ?_
      refine own_by (fun _ k => XS.lloadN X53.here hx rfl (hb hby d8_123) rfl k) ?_
      show own_Go _ _ _ _ (T53.setTop (mkF m 124 #[.val (.ref a1), .val (.long (f 0)), .second, .val (.long (f 3)), .second, .val (.int (0 : Int32)), .val (.int (1 : Int32))] [(.long (f 3)), (.int (0 : Int32)), (.ref b1)]))
      refine own_las X53 hx hZ e53 f8 0 (by decide) (by omega) (hb hby d8_124) ?_
      intro T54 h54 X54 e54 W54 A54
      have f55 := f6.wr W54
      have f56 := f7.other W54 (Or.inl hab)
      have f57 := f5.other W54 (Or.inl hab)
      have f58 := f9.wr W54 (Or.inl (List.mem_of_getElem? (i := 1) rfl))
      have N54 := Fr.snoc X54 N4 Pg2
      have Z54 := own_size_wr W54 Z4
      obtain ⟨fn54, hfn54⟩ : ∃ g : Nat → Int64, g = own_upd f 0 (f 3) := ⟨_, rfl⟩
      rw [← hfn54] at A54
      show own_Go _ _ _ _ (T54.setTop (mkF m 125 #[.val (.ref a1), .val (.long (f 0)), .second, .val (.long (f 3)), .second, .val (.int (0 : Int32)), .val (.int (1 : Int32))] []))
      refine own_by (fun _ k => XS.lloadN X54.here hx rfl (hb hby d8_125) rfl k) ?_
      show own_Go _ _ _ _ (T54.setTop (mkF m 126 #[.val (.ref a1), .val (.long (f 0)), .second, .val (.long (f 3)), .second, .val (.int (0 : Int32)), .val (.int (1 : Int32))] [(.long (f 0))]))
      have hfin : own_hp (fn54) 3 ∧ (∀ x, own_cnt f x 4 = own_one (f 0) x + own_cnt (fn54) x 3) := by
        simp only [hfn54]
        obtain ⟨H1, H2, H3, H4⟩ := HP
        have hc14' := hc14
        rw [Int64.lt_iff_toInt_lt] at hc14'
        have hc38' := hc38
        rw [Int64.lt_iff_toInt_lt] at hc38'
        refine ⟨⟨fun q => ?_, fun q => ?_, fun q => ?_, fun q => ?_⟩, fun x => ?_⟩
        · first | omega | (simp [own_upd] at *; omega)
        · first | omega | (simp [own_upd] at *; omega)
        · first | omega | (simp [own_upd] at *; omega)
        · first | omega | (simp [own_upd] at *; omega)
        · simp [own_cnt, own_upd]; try omega
      exact own_retJ X54 hx Bd.notSynchronized e54 Bd.returns (hb hby d8_126) (⟨rfl, N54, f58, _, f56, f57, A54, hfin.1, hfin.2⟩) (by decide) (by decide)
set_option maxRecDepth 65536 in
set_option maxHeartbeats 40000000 in
theorem rm8_5 (l : Launch) (Z : State) (a0 : Array Value) (hw : ∀ d ∈ tables_1, d.before a0 Z = true) (ws : List Jvm.Cond) (a1 : Addr) (b1 : Addr) (n : Nat) (f : Nat → Int64) (h0 : Heap) (n0 : Nat) (Z0 : n0 ≤ h0.size) (PE : Exa Z h0 a1 "com/example/libmakespan/libmakespan/planners/LongHeap") (PF1 : Fld Z h0 a1 "com/example/libmakespan/libmakespan/planners/LongHeap" "values" "[J" (.ref b1)) (PF2 : Fld Z h0 a1 "com/example/libmakespan/libmakespan/planners/LongHeap" "size" "I" (.int (5 : Int32))) (PA : own_AJ Z h0 b1 n f) (Pg1 : n0 ≤ a1) (Pg2 : n0 ≤ b1) (hab : a1 ≠ b1) (hkn : 5 ≤ n) (hn8 : n ≤ 8) (HP : own_hp f 5) :
    MetFree l (⟨"com/example/libmakespan/libmakespan/planners/LongHeap", "remove", "()J"⟩ : MethodName) (head1 (Jvm.Cond.code (⟨"com/example/libmakespan/libmakespan/planners/LongHeap", "remove", "()J"⟩ : MethodName) prog_91_method_5_code 7 (some .long) :: ws) ({ frames := 0, cells := 0, slots := 0, locals := 0 } : Room)) (fun a U => a = #[(.ref a1)] ∧ Z.Warmed39 U.vm ∧ U.heap = h0) (fun _ _ _ _ _ => True) (fun _ U o U' => ∃ vv LL, o = .returned vv ∧ own_ap (fun v h L => v = some (.long (f 0)) ∧ Fr n0 L ∧ Keep h0 h [a1, b1] ∧ ∃ (f' : Nat → Int64), Fld Z h a1 "com/example/libmakespan/libmakespan/planners/LongHeap" "values" "[J" (.ref b1) ∧ Fld Z h a1 "com/example/libmakespan/libmakespan/planners/LongHeap" "size" "I" (.int (4 : Int32)) ∧ own_AJ Z h b1 n f' ∧ own_hp f' 4 ∧ ∀ x, own_cnt f x 5 = own_one (f 0) x + own_cnt f' x 4) vv U'.heap LL ∧ FrameEnd U o U' LL 0 0) := by
  refine MetFree.of_bodySF (plainFor_of_name pn_8) hisR ?_
  intro p e s m args below meth c s₁ Bd hml0 hP hK
  obtain ⟨rfl, hZ, hh⟩ := hP
  have hx := Bd.exec
  have hby := Bd.bytes
  have hml : c.maxLocals = 7 := hml0
  have hown : s.vm.findClass "com/example/libmakespan/libmakespan/planners/LongHeap" = some m.cls := findClass_of_methodNamed Bd.named
  have hnm := (name_of_methodNamed Bd.named Bd.method).1
  have X0 : Stand p l e ({ frames := 0, cells := 0, slots := 0, locals := 0 } : Room) s m #[(.ref a1)] below meth c s₁ [] 0 0 := Stand.of_body Bd
  have e0 : s₁.heap = h0 := by rw [← hh, Bd.state]; rfl
  have N0 := Fr.nil n0
  show own_Go p.tables e below (own_Q s (fun v h L => v = some (.long (f 0)) ∧ Fr n0 L ∧ Keep h0 h [a1, b1] ∧ ∃ (f' : Nat → Int64), Fld Z h a1 "com/example/libmakespan/libmakespan/planners/LongHeap" "values" "[J" (.ref b1) ∧ Fld Z h a1 "com/example/libmakespan/libmakespan/planners/LongHeap" "size" "I" (.int (4 : Int32)) ∧ own_AJ Z h b1 n f' ∧ own_hp f' 4 ∧ ∀ x, own_cnt f x 5 = own_one (f 0) x + own_cnt f' x 4) 0 0) (s₁.setTop (entryFrame m #[(.ref a1)] 7))
  rw [show entryFrame m #[(.ref a1)] 7 = mkF m 0 #[.val (.ref a1), .unset, .unset, .unset, .unset, .unset, .unset] [] from by first | (simp [entryFrame, mkF, argsToLocals, Value.category]; done) | rfl]
  show own_Go _ _ _ _ (s₁.setTop (mkF m 0 #[.val (.ref a1), .unset, .unset, .unset, .unset, .unset, .unset] []))
  refine own_by (fun _ k => XS.aloadN X0.here hx rfl (hb hby d8_0) rfl rfl k) ?_
  show own_Go _ _ _ _ (s₁.setTop (mkF m 1 #[.val (.ref a1), .unset, .unset, .unset, .unset, .unset, .unset] [(.ref a1)]))
  obtain ⟨T1, X1, e1, st1⟩ := getF X0 hx hZ hown (host := "") (Or.inl (hw _ (List.mem_of_getElem? (i := 20) rfl))) Via.refl e0 PF1 (g := (mkF m 1 #[.val (.ref a1), .unset, .unset, .unset, .unset, .unset, .unset] [(.ref a1)])) rfl rfl (hb hby d8_1)
  refine own_by st1 ?_
  refine own_by (fun _ k => XS.iconst X1.here hx rfl (hb hby d8_4) k) ?_
  show own_Go _ _ _ _ (T1.setTop (mkF m 5 #[.val (.ref a1), .unset, .unset, .unset, .unset, .unset, .unset] [(.int (0 : Int32)), (.ref b1)]))
  refine own_by (fun _ k => own_lal X1 hx hZ e1 PA 0 (by decide) (by omega) (hb hby d8_5) k) ?_
  show own_Go _ _ _ _ (T1.setTop (mkF m 6 #[.val (.ref a1), .unset, .unset, .unset, .unset, .unset, .unset] [(.long (f 0))]))
  refine own_by (fun _ k => XS.lstoreN X1.here hx rfl (hb hby d8_6) rfl (l' := #[.val (.ref a1), .val (.long (f 0)), .second, .unset, .unset, .unset, .unset]) rfl k) ?_
  refine own_by (fun _ k => XS.aloadN X1.here hx rfl (hb hby d8_7) rfl rfl k) ?_
  show own_Go _ _ _ _ (T1.setTop (mkF m 8 #[.val (.ref a1), .val (.long (f 0)), .second, .unset, .unset, .unset, .unset] [(.ref a1)]))
  obtain ⟨T2, X2, e2, st2⟩ := getF X1 hx hZ hown (host := "") (Or.inl (hw _ (List.mem_of_getElem? (i := 20) rfl))) Via.refl e1 PF1 (g := (mkF m 8 #[.val (.ref a1), .val (.long (f 0)), .second, .unset, .unset, .unset, .unset] [(.ref a1)])) rfl rfl (hb hby d8_8)
  refine own_by st2 ?_
  refine own_by (fun _ k => XS.aloadN X2.here hx rfl (hb hby d8_11) rfl rfl k) ?_
  show own_Go _ _ _ _ (T2.setTop (mkF m 12 #[.val (.ref a1), .val (.long (f 0)), .second, .unset, .unset, .unset, .unset] [(.ref a1), (.ref b1)]))
  refine own_by (fun _ k => XS.dup X2.here hx rfl (hb hby d8_12) rfl rfl k) ?_
  show own_Go _ _ _ _ (T2.setTop (mkF m 13 #[.val (.ref a1), .val (.long (f 0)), .second, .unset, .unset, .unset, .unset] [(.ref a1), (.ref a1), (.ref b1)]))
  obtain ⟨T3, X3, e3, st3⟩ := getF X2 hx hZ hown (host := "") (Or.inl (hw _ (List.mem_of_getElem? (i := 27) rfl))) Via.refl e2 PF2 (g := (mkF m 13 #[.val (.ref a1), .val (.long (f 0)), .second, .unset, .unset, .unset, .unset] [(.ref a1), (.ref a1), (.ref b1)])) rfl rfl (hb hby d8_13)
  refine own_by st3 ?_
  refine own_by (fun _ k => XS.iconst X3.here hx rfl (hb hby d8_16) k) ?_
  show own_Go _ _ _ _ (T3.setTop (mkF m 17 #[.val (.ref a1), .val (.long (f 0)), .second, .unset, .unset, .unset, .unset] [(.int (1 : Int32)), (.int (5 : Int32)), (.ref a1), (.ref b1)]))
  refine own_by (fun _ k => XS.isub X3.here hx rfl (hb hby d8_17) rfl k) ?_
  show own_Go _ _ _ _ (T3.setTop (mkF m 18 #[.val (.ref a1), .val (.long (f 0)), .second, .unset, .unset, .unset, .unset] [(.int ((5 : Int32) - (1 : Int32))), (.ref a1), (.ref b1)]))
  rw [(by decide : ((5 : Int32) - (1 : Int32)) = (4 : Int32))]
  show own_Go _ _ _ _ (T3.setTop (mkF m 18 #[.val (.ref a1), .val (.long (f 0)), .second, .unset, .unset, .unset, .unset] [(.int (4 : Int32)), (.ref a1), (.ref b1)]))
  refine own_by (fun _ k => XS.dupX1 X3.here hx rfl (hb hby d8_18) rfl rfl rfl k) ?_
  show own_Go _ _ _ _ (T3.setTop (mkF m 19 #[.val (.ref a1), .val (.long (f 0)), .second, .unset, .unset, .unset, .unset] [(.int (4 : Int32)), (.ref a1), (.int (4 : Int32)), (.ref b1)]))
  obtain ⟨T4, h4, X4, e4, W4, st4⟩ := putF X3 hx hZ hown (host := "") (Or.inl (hw _ (List.mem_of_getElem? (i := 27) rfl))) Via.refl e3 PF2 PE (Or.inl (hw _ (List.mem_of_getElem? (i := 28) rfl))) (hw _ (List.mem_of_getElem? (i := 8) rfl)) (ty := .int) (by decide) rfl rfl (g := (mkF m 19 #[.val (.ref a1), .val (.long (f 0)), .second, .unset, .unset, .unset, .unset] [(.int (4 : Int32)), (.ref a1), (.int (4 : Int32)), (.ref b1)])) rfl rfl (hb hby d8_19)
  refine own_by st4 ?_
  have f5 := PF2.same W4
  have f6 := PE.wr W4
  have f7 := PF1.other W4 (Or.inr (slot_ne (Or.inl (hw _ (List.mem_of_getElem? (i := 21) rfl))) (Or.inl (hw _ (List.mem_of_getElem? (i := 28) rfl))) (by decide) (t := (.array .long)) (t' := .int) (by decide) (by decide)))
  have f8 := PA.other W4 (Ne.symm hab)
  have f9 := (Keep.refl h0 [a1, b1]).wr W4 (Or.inl (List.mem_of_getElem? (i := 0) rfl))
  have N4 := Fr.snoc X4 N0 Pg1
  have Z4 := own_size_wr W4 Z0
  show own_Go _ _ _ _ (T4.setTop (mkF m 22 #[.val (.ref a1), .val (.long (f 0)), .second, .unset, .unset, .unset, .unset] [(.int (4 : Int32)), (.ref b1)]))
  refine own_by (fun _ k => own_lal X4 hx hZ e4 f8 4 (by decide) (by omega) (hb hby d8_22) k) ?_
  show own_Go _ _ _ _ (T4.setTop (mkF m 23 #[.val (.ref a1), .val (.long (f 0)), .second, .unset, .unset, .unset, .unset] [(.long (f 4))]))
  refine own_by (fun _ k => XS.lstoreN X4.here hx rfl (hb hby d8_23) rfl (l' := #[.val (.ref a1), .val (.long (f 0)), .second, .val (.long (f 4)), .second, .unset, .unset]) rfl k) ?_
  refine own_by (fun _ k => XS.iconst X4.here hx rfl (hb hby d8_24) k) ?_
  show own_Go _ _ _ _ (T4.setTop (mkF m 25 #[.val (.ref a1), .val (.long (f 0)), .second, .val (.long (f 4)), .second, .unset, .unset] [(.int (0 : Int32))]))
  refine own_by (fun _ k => XS.istore X4.here hx rfl (hb hby d8_25) rfl (l' := #[.val (.ref a1), .val (.long (f 0)), .second, .val (.long (f 4)), .second, .val (.int (0 : Int32)), .unset]) rfl k) ?_
  refine own_by (fun _ k => XS.iconst X4.here hx rfl (hb hby d8_27) k) ?_
  refine own_by (fun _ k => XS.iload X4.here hx rfl (hb hby d8_28) rfl k) ?_
  show own_Go _ _ _ _ (T4.setTop (mkF m 30 #[.val (.ref a1), .val (.long (f 0)), .second, .val (.long (f 4)), .second, .val (.int (0 : Int32)), .unset] [(.int (0 : Int32)), (.int (2 : Int32))]))
  refine own_by (fun _ k => XS.imul X4.here hx rfl (hb hby d8_30) rfl k) ?_
  show own_Go _ _ _ _ (T4.setTop (mkF m 31 #[.val (.ref a1), .val (.long (f 0)), .second, .val (.long (f 4)), .second, .val (.int (0 : Int32)), .unset] [(.int ((2 : Int32) * (0 : Int32)))]))
  rw [(by decide : ((2 : Int32) * (0 : Int32)) = (0 : Int32))]
  refine own_by (fun _ k => XS.iconst X4.here hx rfl (hb hby d8_31) k) ?_
  show own_Go _ _ _ _ (T4.setTop (mkF m 32 #[.val (.ref a1), .val (.long (f 0)), .second, .val (.long (f 4)), .second, .val (.int (0 : Int32)), .unset] [(.int (1 : Int32)), (.int (0 : Int32))]))
  refine own_by (fun _ k => XS.iadd X4.here hx rfl (hb hby d8_32) rfl k) ?_
  show own_Go _ _ _ _ (T4.setTop (mkF m 33 #[.val (.ref a1), .val (.long (f 0)), .second, .val (.long (f 4)), .second, .val (.int (0 : Int32)), .unset] [(.int ((0 : Int32) + (1 : Int32)))]))
  rw [(by decide : ((0 : Int32) + (1 : Int32)) = (1 : Int32))]
  show own_Go _ _ _ _ (T4.setTop (mkF m 33 #[.val (.ref a1), .val (.long (f 0)), .second, .val (.long (f 4)), .second, .val (.int (0 : Int32)), .unset] [(.int (1 : Int32))]))
  refine own_by (fun _ k => XS.istore X4.here hx rfl (hb hby d8_33) rfl (l' := #[.val (.ref a1), .val (.long (f 0)), .second, .val (.long (f 4)), .second, .val (.int (0 : Int32)), .val (.int (1 : Int32))]) rfl k) ?_
  refine own_by (fun _ k => XS.iload X4.here hx rfl (hb hby d8_35) rfl k) ?_
  refine own_by (fun _ k => XS.aloadN X4.here hx rfl (hb hby d8_37) rfl rfl k) ?_
  show own_Go _ _ _ _ (T4.setTop (mkF m 38 #[.val (.ref a1), .val (.long (f 0)), .second, .val (.long (f 4)), .second, .val (.int (0 : Int32)), .val (.int (1 : Int32))] [(.ref a1), (.int (1 : Int32))]))
  obtain ⟨T10, X10, e10, st10⟩ := getF X4 hx hZ hown (host := "") (Or.inl (hw _ (List.mem_of_getElem? (i := 27) rfl))) Via.refl e4 f5 (g := (mkF m 38 #[.val (.ref a1), .val (.long (f 0)), .second, .val (.long (f 4)), .second, .val (.int (0 : Int32)), .val (.int (1 : Int32))] [(.ref a1), (.int (1 : Int32))])) rfl rfl (hb hby d8_38)
  refine own_by st10 ?_
  show own_Go _ _ _ _ (T10.setTop (mkF m 41 #[.val (.ref a1), .val (.long (f 0)), .second, .val (.long (f 4)), .second, .val (.int (0 : Int32)), .val (.int (1 : Int32))] [(.int (4 : Int32)), (.int (1 : Int32))]))
  refine own_by (fun _ k => XS.icmpYes X10.here hx rfl (pc0 := 41) (pc' := 47) rfl (hb hby d8_41) rfl (tlt (by decide)).1 (by decide) (by decide) k) ?_
  refine own_by (fun _ k => XS.iload X10.here hx rfl (hb hby d8_47) rfl k) ?_
  refine own_by (fun _ k => XS.iconst X10.here hx rfl (hb hby d8_49) k) ?_
  show own_Go _ _ _ _ (T10.setTop (mkF m 50 #[.val (.ref a1), .val (.long (f 0)), .second, .val (.long (f 4)), .second, .val (.int (0 : Int32)), .val (.int (1 : Int32))] [(.int (1 : Int32)), (.int (1 : Int32))]))
  refine own_by (fun _ k => XS.iadd X10.here hx rfl (hb hby d8_50) rfl k) ?_
  show own_Go _ _ _ _ (T10.setTop (mkF m 51 #[.val (.ref a1), .val (.long (f 0)), .second, .val (.long (f 4)), .second, .val (.int (0 : Int32)), .val (.int (1 : Int32))] [(.int ((1 : Int32) + (1 : Int32)))]))
  rw [(by decide : ((1 : Int32) + (1 : Int32)) = (2 : Int32))]
  refine own_by (fun _ k => XS.aloadN X10.here hx rfl (hb hby d8_51) rfl rfl k) ?_
  show own_Go _ _ _ _ (T10.setTop (mkF m 52 #[.val (.ref a1), .val (.long (f 0)), .second, .val (.long (f 4)), .second, .val (.int (0 : Int32)), .val (.int (1 : Int32))] [(.ref a1), (.int (2 : Int32))]))
  obtain ⟨T11, X11, e11, st11⟩ := getF X10 hx hZ hown (host := "") (Or.inl (hw _ (List.mem_of_getElem? (i := 27) rfl))) Via.refl e10 f5 (g := (mkF m 52 #[.val (.ref a1), .val (.long (f 0)), .second, .val (.long (f 4)), .second, .val (.int (0 : Int32)), .val (.int (1 : Int32))] [(.ref a1), (.int (2 : Int32))])) rfl rfl (hb hby d8_52)
  refine own_by st11 ?_
  show own_Go _ _ _ _ (T11.setTop (mkF m 55 #[.val (.ref a1), .val (.long (f 0)), .second, .val (.long (f 4)), .second, .val (.int (0 : Int32)), .val (.int (1 : Int32))] [(.int (4 : Int32)), (.int (2 : Int32))]))
  refine own_by (fun _ k => XS.icmpNo X11.here hx rfl (hb hby d8_55) rfl (tlt (by decide)).2.1 k) ?_
  refine own_by (fun _ k => XS.aloadN X11.here hx rfl (hb hby d8_58) rfl rfl k) ?_
  show own_Go _ _ _ _ (T11.setTop (mkF m 59 #[.val (.ref a1), .val (.long (f 0)), .second, .val (.long (f 4)), .second, .val (.int (0 : Int32)), .val (.int (1 : Int32))] [(.ref a1)]))
  obtain ⟨T12, X12, e12, st12⟩ := getF X11 hx hZ hown (host := "") (Or.inl (hw _ (List.mem_of_getElem? (i := 20) rfl))) Via.refl e11 f7 (g := (mkF m 59 #[.val (.ref a1), .val (.long (f 0)), .second, .val (.long (f 4)), .second, .val (.int (0 : Int32)), .val (.int (1 : Int32))] [(.ref a1)])) rfl rfl (hb hby d8_59)
  refine own_by st12 ?_
  refine own_by (fun _ k => XS.iload X12.here hx rfl (hb hby d8_62) rfl k) ?_
  refine own_by (fun _ k => XS.iconst X12.here hx rfl (hb hby d8_64) k) ?_
  show own_Go _ _ _ _ (T12.setTop (mkF m 65 #[.val (.ref a1), .val (.long (f 0)), .second, .val (.long (f 4)), .second, .val (.int (0 : Int32)), .val (.int (1 : Int32))] [(.int (1 : Int32)), (.int (1 : Int32)), (.ref b1)]))
  refine own_by (fun _ k => XS.iadd X12.here hx rfl (hb hby d8_65) rfl k) ?_
  show own_Go _ _ _ _ (T12.setTop (mkF m 66 #[.val (.ref a1), .val (.long (f 0)), .second, .val (.long (f 4)), .second, .val (.int (0 : Int32)), .val (.int (1 : Int32))] [(.int ((1 : Int32) + (1 : Int32))), (.ref b1)]))
  rw [(by decide : ((1 : Int32) + (1 : Int32)) = (2 : Int32))]
  show own_Go _ _ _ _ (T12.setTop (mkF m 66 #[.val (.ref a1), .val (.long (f 0)), .second, .val (.long (f 4)), .second, .val (.int (0 : Int32)), .val (.int (1 : Int32))] [(.int (2 : Int32)), (.ref b1)]))
  refine own_by (fun _ k => own_lal X12 hx hZ e12 f8 2 (by decide) (by omega) (hb hby d8_66) k) ?_
  refine own_by (fun _ k => XS.aloadN X12.here hx rfl (hb hby d8_67) rfl rfl k) ?_
  show own_Go _ _ _ _ (T12.setTop (mkF m 68 #[.val (.ref a1), .val (.long (f 0)), .second, .val (.long (f 4)), .second, .val (.int (0 : Int32)), .val (.int (1 : Int32))] [(.ref a1), (.long (f 2))]))
  obtain ⟨T13, X13, e13, st13⟩ := getF X12 hx hZ hown (host := "") (Or.inl (hw _ (List.mem_of_getElem? (i := 20) rfl))) Via.refl e12 f7 (g := (mkF m 68 #[.val (.ref a1), .val (.long (f 0)), .second, .val (.long (f 4)), .second, .val (.int (0 : Int32)), .val (.int (1 : Int32))] [(.ref a1), (.long (f 2))])) rfl rfl (hb hby d8_68)
  refine own_by st13 ?_
  refine own_by (fun _ k => XS.iload X13.here hx rfl (hb hby d8_71) rfl k) ?_
  show own_Go _ _ _ _ (T13.setTop (mkF m 73 #[.val (.ref a1), .val (.long (f 0)), .second, .val (.long (f 4)), .second, .val (.int (0 : Int32)), .val (.int (1 : Int32))] [(.int (1 : Int32)), (.ref b1), (.long (f 2))]))
  refine own_by (fun _ k => own_lal X13 hx hZ e13 f8 1 (by decide) (by omega) (hb hby d8_73) k) ?_
  show own_Go _ _ _ _ (T13.setTop (mkF m 74 #[.val (.ref a1), .val (.long (f 0)), .second, .val (.long (f 4)), .second, .val (.int (0 : Int32)), .val (.int (1 : Int32))] [(.long (f 1)), (.long (f 2))]))
  refine own_by (fun _ k => XS.lcmp X13.here hx rfl (hb hby d8_74) rfl k) ?_
  show own_Go _ _ _ _ (T13.setTop (mkF m 75 #[.val (.ref a1), .val (.long (f 0)), .second, .val (.long (f 4)), .second, .val (.int (0 : Int32)), .val (.int (1 : Int32))] [(.int (lcmpW (f 2) (f 1)))]))
  by_cases hc14 : (f 2) < (f 1)
  · --
    refine own_by (fun _ k => XS.ifNo X13.here hx rfl (hb hby d8_75) rfl ((if0 _ _).trans (tlt ((lw_lt _ _).mpr hc14)).2.1) k) ?_
    show own_Go _ _ _ _ (T13.setTop (mkF m 78 #[.val (.ref a1), .val (.long (f 0)), .second, .val (.long (f 4)), .second, .val (.int (0 : Int32)), .val (.int (1 : Int32))] []))
    refine own_by (fun _ k => XS.iinc X13.here hx rfl (hb hby d8_78) rfl (l' := #[.val (.ref a1), .val (.long (f 0)), .second, .val (.long (f 4)), .second, .val (.int (0 : Int32)), .val (.int ((1 : Int32) + (1 : Int32)))]) rfl k) ?_
    show own_Go _ _ _ _ (T13.setTop (mkF m 81 #[.val (.ref a1), .val (.long (f 0)), .second, .val (.long (f 4)), .second, .val (.int (0 : Int32)), .val (.int ((1 : Int32) + (1 : Int32)))] []))
    rw [(by decide : ((1 : Int32) + (1 : Int32)) = (2 : Int32))]
    refine own_by (fun _ k => XS.aloadN X13.here hx rfl (hb hby d8_81) rfl rfl k) ?_
    show own_Go _ _ _ _ (T13.setTop (mkF m 82 #[.val (.ref a1), .val (.long (f 0)), .second, .val (.long (f 4)), .second, .val (.int (0 : Int32)), .val (.int (2 : Int32))] [(.ref a1)]))
    obtain ⟨T15, X15, e15, st15⟩ := getF X13 hx hZ hown (host := "") (Or.inl (hw _ (List.mem_of_getElem? (i := 20) rfl))) Via.refl e13 f7 (g := (mkF m 82 #[.val (.ref a1), .val (.long (f 0)), .second, .val (.long (f 4)), .second, .val (.int (0 : Int32)), .val (.int (2 : Int32))] [(.ref a1)])) rfl rfl (hb hby d8_82)
    refine own_by st15 ?_
    refine own_by (fun _ k => XS.iload X15.here hx rfl (hb hby d8_85) rfl k) ?_
    show own_Go _ _ _ _ (T15.setTop (mkF m 87 #[.val (.ref a1), .val (.long (f 0)), .second, .val (.long (f 4)), .second, .val (.int (0 : Int32)), .val (.int (2 : Int32))] [(.int (2 : Int32)), (.ref b1)]))
    refine own_by (fun _ k => own_lal X15 hx hZ e15 f8 2 (by decide) (by omega) (hb hby d8_87) k) ?_
    refine own_by (fun _ k => XS.lloadN X15.here hx rfl (hb hby d8_88) rfl k) ?_
    show own_Go _ _ _ _ (T15.setTop (mkF m 89 #[.val (.ref a1), .val (.long (f 0)), .second, .val (.long (f 4)), .second, .val (.int (0 : Int32)), .val (.int (2 : Int32))] [(.long (f 4)), (.long (f 2))]))
    refine own_by (fun _ k => XS.lcmp X15.here hx rfl (hb hby d8_89) rfl k) ?_
    show own_Go _ _ _ _ (T15.setTop (mkF m 90 #[.val (.ref a1), .val (.long (f 0)), .second, .val (.long (f 4)), .second, .val (.int (0 : Int32)), .val (.int (2 : Int32))] [(.int (lcmpW (f 2) (f 4)))]))
    by_cases hc16 : (f 2) < (f 4)
    · --
      refine own_by (fun _ k => XS.ifYes X15.here hx rfl (pc0 := 90) (pc' := 96) rfl (hb hby d8_90) rfl ((if0 _ _).trans (tlt ((lw_lt _ _).mpr hc16)).1) (by decide) (by decide) k) ?_
      refine own_by (fun _ k => XS.aloadN X15.here hx rfl (hb hby d8_96) rfl rfl k) ?_
      show own_Go _ _ _ _ (T15.setTop (mkF m 97 #[.val (.ref a1), .val (.long (f 0)), .second, .val (.long (f 4)), .second, .val (.int (0 : Int32)), .val (.int (2 : Int32))] [(.ref a1)]))
      obtain ⟨T17, X17, e17, st17⟩ := getF X15 hx hZ hown (host := "") (Or.inl (hw _ (List.mem_of_getElem? (i := 20) rfl))) Via.refl e15 f7 (g := (mkF m 97 #[.val (.ref a1), .val (.long (f 0)), .second, .val (.long (f 4)), .second, .val (.int (0 : Int32)), .val (.int (2 : Int32))] [(.ref a1)])) rfl rfl (hb hby d8_97)
      refine own_by st17 ?_
      refine own_by (fun _ k => XS.iload X17.here hx rfl (hb hby d8_100) rfl k) ?_
      refine own_by (fun _ k => XS.aloadN X17.here hx rfl (hb hby d8_102) rfl rfl k) ?_
      show own_Go _ _ _ _ (T17.setTop (mkF m 103 #[.val (.ref a1), .val (.long (f 0)), .second, .val (.long (f 4)), .second, .val (.int (0 : Int32)), .val (.int (2 : Int32))] [(.ref a1), (.int (0 : Int32)), (.ref b1)]))
      obtain ⟨T18, X18, e18, st18⟩ := getF X17 hx hZ hown (host := "") (Or.inl (hw _ (List.mem_of_getElem? (i := 20) rfl))) Via.refl e17 f7 (g := (mkF m 103 #[.val (.ref a1), .val (.long (f 0)), .second, .val (.long (f 4)), .second, .val (.int (0 : Int32)), .val (.int (2 : Int32))] [(.ref a1), (.int (0 : Int32)), (.ref b1)])) rfl rfl (hb hby d8_103)
      refine own_by st18 ?_
      refine own_by (fun _ k => XS.iload X18.here hx rfl (hb hby d8_106) rfl k) ?_
      show own_Go _ _ _ _ (T18.setTop (mkF m 108 #[.val (.ref a1), .val (.long (f 0)), .second, .val (.long (f 4)), .second, .val (.int (0 : Int32)), .val (.int (2 : Int32))] [(.int (2 : Int32)), (.ref b1), (.int (0 : Int32)), (.ref b1)]))
      refine own_by (fun _ k => own_lal X18 hx hZ e18 f8 2 (by decide) (by omega) (hb hby d8_108) k) ?_
      show own_Go _ _ _ _ (T18.setTop (mkF m 109 #[.val (.ref a1), .val (.long (f 0)), .second, .val (.long (f 4)), .second, .val (.int (0 : Int32)), .val (.int (2 : Int32))] [(.long (f 2)), (.int (0 : Int32)), (.ref b1)]))
      refine own_las X18 hx hZ e18 f8 0 (by decide) (by omega) (hb hby d8_109) ?_
      intro T19 h19 X19 e19 W19 A19
      have f20 := f6.wr W19
      have f21 := f7.other W19 (Or.inl hab)
      have f22 := f5.other W19 (Or.inl hab)
      have f23 := f9.wr W19 (Or.inl (List.mem_of_getElem? (i := 1) rfl))
      have N19 := Fr.snoc X19 N4 Pg2
      have Z19 := own_size_wr W19 Z4
      obtain ⟨fn19, hfn19⟩ : ∃ g : Nat → Int64, g = own_upd f 0 (f 2) := ⟨_, rfl⟩
      rw [← hfn19] at A19
      show own_Go _ _ _ _ (T19.setTop (mkF m 110 #[.val (.ref a1), .val (.long (f 0)), .second, .val (.long (f 4)), .second, .val (.int (0 : Int32)), .val (.int (2 : Int32))] []))
      refine own_by (fun _ k => XS.iload X19.here hx rfl (hb hby d8_110) rfl k) ?_
      show own_Go _ _ _ _ (T19.setTop (mkF m 112 #[.val (.ref a1), .val (.long (f 0)), .second, .val (.long (f 4)), .second, .val (.int (0 : Int32)), .val (.int (2 : Int32))] [(.int (2 : Int32))]))
      refine own_by (fun _ k => XS.istore X19.here hx rfl (hb hby d8_112) rfl (l' := #[.val (.ref a1), .val (.long (f 0)), .second, .val (.long (f 4)), .second, .val (.int (2 : Int32)), .val (.int (2 : Int32))]) rfl k) ?_
      show own_Go _ _ _ _ (T19.setTop (mkF m 114 #[.val (.ref a1), .val (.long (f 0)), .second, .val (.long (f 4)), .second, .val (.int (2 : Int32)), .val (.int (2 : Int32))] []))
      refine own_by (fun _ k => XS.goto X19.here hx rfl (pc0 := 114) (pc' := 27) rfl (hb hby d8_114) (by decide) (by decide) k) ?_
      refine own_by (fun _ k => XS.iconst X19.here hx rfl (hb hby d8_27) k) ?_
      refine own_by (fun _ k => XS.iload X19.here hx rfl (hb hby d8_28) rfl k) ?_
      show own_Go _ _ _ _ (T19.setTop (mkF m 30 #[.val (.ref a1), .val (.long (f 0)), .second, .val (.long (f 4)), .second, .val (.int (2 : Int32)), .val (.int (2 : Int32))] [(.int (2 : Int32)), (.int (2 : Int32))]))
      refine own_by (fun _ k => XS.imul X19.here hx rfl (hb hby d8_30) rfl k) ?_
      show own_Go _ _ _ _ (T19.setTop (mkF m 31 #[.val (.ref a1), .val (.long (f 0)), .second, .val (.long (f 4)), .second, .val (.int (2 : Int32)), .val (.int (2 : Int32))] [(.int ((2 : Int32) * (2 : Int32)))]))
      rw [(by decide : ((2 : Int32) * (2 : Int32)) = (4 : Int32))]
      refine own_by (fun _ k => XS.iconst X19.here hx rfl (hb hby d8_31) k) ?_
      show own_Go _ _ _ _ (T19.setTop (mkF m 32 #[.val (.ref a1), .val (.long (f 0)), .second, .val (.long (f 4)), .second, .val (.int (2 : Int32)), .val (.int (2 : Int32))] [(.int (1 : Int32)), (.int (4 : Int32))]))
      refine own_by (fun _ k => XS.iadd X19.here hx rfl (hb hby d8_32) rfl k) ?_
      show own_Go _ _ _ _ (T19.setTop (mkF m 33 #[.val (.ref a1), .val (.long (f 0)), .second, .val (.long (f 4)), .second, .val (.int (2 : Int32)), .val (.int (2 : Int32))] [(.int ((4 : Int32) + (1 : Int32)))]))
      rw [(by decide : ((4 : Int32) + (1 : Int32)) = (5 : Int32))]
      show own_Go _ _ _ _ (T19.setTop (mkF m 33 #[.val (.ref a1), .val (.long (f 0)), .second, .val (.long (f 4)), .second, .val (.int (2 : Int32)), .val (.int (2 : Int32))] [(.int (5 : Int32))]))
      refine own_by (fun _ k => XS.istore X19.here hx rfl (hb hby d8_33) rfl (l' := #[.val (.ref a1), .val (.long (f 0)), .second, .val (.long (f 4)), .second, .val (.int (2 : Int32)), .val (.int (5 : Int32))]) rfl k) ?_
      refine own_by (fun _ k => XS.iload X19.here hx rfl (hb hby d8_35) rfl k) ?_
      refine own_by (fun _ k => XS.aloadN X19.here hx rfl (hb hby d8_37) rfl rfl k) ?_
      show own_Go _ _ _ _ (T19.setTop (mkF m 38 #[.val (.ref a1), .val (.long (f 0)), .second, .val (.long (f 4)), .second, .val (.int (2 : Int32)), .val (.int (5 : Int32))] [(.ref a1), (.int (5 : Int32))]))
      obtain ⟨T24, X24, e24, st24⟩ := getF X19 hx hZ hown (host := "") (Or.inl (hw _ (List.mem_of_getElem? (i := 27) rfl))) Via.refl e19 f22 (g := (mkF m 38 #[.val (.ref a1), .val (.long (f 0)), .second, .val (.long (f 4)), .second, .val (.int (2 : Int32)), .val (.int (5 : Int32))] [(.ref a1), (.int (5 : Int32))])) rfl rfl (hb hby d8_38)
      refine own_by st24 ?_
      show own_Go _ _ _ _ (T24.setTop (mkF m 41 #[.val (.ref a1), .val (.long (f 0)), .second, .val (.long (f 4)), .second, .val (.int (2 : Int32)), .val (.int (5 : Int32))] [(.int (4 : Int32)), (.int (5 : Int32))]))
      refine own_by (fun _ k => XS.icmpNo X24.here hx rfl (hb hby d8_41) rfl (flt (by decide)).1 k) ?_
      show own_Go _ _ _ _ (T24.setTop (mkF m 44 #[.val (.ref a1), .val (.long (f 0)), .second, .val (.long (f 4)), .second, .val (.int (2 : Int32)), .val (.int (5 : Int32))] []))
      refine own_by (fun _ k => XS.goto X24.here hx rfl (pc0 := 44) (pc' := 117) rfl (hb hby d8_44) (by decide) (by decide) k) ?_
      refine own_by (fun _ k => XS.aloadN X24.here hx rfl (hb hby d8_117) rfl rfl k) ?_
      show own_Go _ _ _ _ (T24.setTop (mkF m 118 #[.val (.ref a1), .val (.long (f 0)), .second, .val (.long (f 4)), .second, .val (.int (2 : Int32)), .val (.int (5 : Int32))] [(.ref a1)]))
      obtain ⟨T25, X25, e25, st25⟩ := getF X24 hx hZ hown (host := "") (Or.inl (hw _ (List.mem_of_getElem? (i := 20) rfl))) Via.refl e24 f21 (g := (mkF m 118 #[.val (.ref a1), .val (.long (f 0)), .second, .val (.long (f 4)), .second, .val (.int (2 : Int32)), .val (.int (5 : Int32))] [(.ref a1)])) rfl rfl (hb hby d8_118)
      refine own_by st25 ?_
      refine own_by (fun _ k => XS.iload X25.here hx rfl (hb hby d8_121) rfl k) ?_
      refine own_by (fun _ k => XS.lloadN X25.here hx rfl (hb hby d8_123) rfl k) ?_
      show own_Go _ _ _ _ (T25.setTop (mkF m 124 #[.val (.ref a1), .val (.long (f 0)), .second, .val (.long (f 4)), .second, .val (.int (2 : Int32)), .val (.int (5 : Int32))] [(.long (f 4)), (.int (2 : Int32)), (.ref b1)]))
      refine own_las X25 hx hZ e25 A19 2 (by decide) (by omega) (hb hby d8_124) ?_
      intro T26 h26 X26 e26 W26 A26
      have f27 := f20.wr W26
      have f28 := f21.other W26 (Or.inl hab)
      have f29 := f22.other W26 (Or.inl hab)
      have f30 := f23.wr W26 (Or.inl (List.mem_of_getElem? (i := 1) rfl))
      have N26 := Fr.snoc X26 N19 Pg2
      have Z26 := own_size_wr W26 Z19
      obtain ⟨fn26, hfn26⟩ : ∃ g : Nat → Int64, g = own_upd fn19 2 (f 4) := ⟨_, rfl⟩
      rw [← hfn26] at A26
      show own_Go _ _ _ _ (T26.setTop (mkF m 125 #[.val (.ref a1), .val (.long (f 0)), .second, .val (.long (f 4)), .second, .val (.int (2 : Int32)), .val (.int (5 : Int32))] []))
      refine own_by (fun _ k => XS.lloadN X26.here hx rfl (hb hby d8_125) rfl k) ?_
      show own_Go _ _ _ _ (T26.setTop (mkF m 126 #[.val (.ref a1), .val (.long (f 0)), .second, .val (.long (f 4)), .second, .val (.int (2 : Int32)), .val (.int (5 : Int32))] [(.long (f 0))]))
      have hfin : own_hp (fn26) 4 ∧ (∀ x, own_cnt f x 5 = own_one (f 0) x + own_cnt (fn26) x 4) := by
        simp only [hfn26, hfn19]
        obtain ⟨H1, H2, H3, H4⟩ := HP
        have hc14' := hc14
        rw [Int64.lt_iff_toInt_lt] at hc14'
        have hc16' := hc16
        rw [Int64.lt_iff_toInt_lt] at hc16'
        refine ⟨⟨fun q => ?_, fun q => ?_, fun q => ?_, fun q => ?_⟩, fun x => ?_⟩
        · first | omega | (simp [own_upd] at *; omega)
        · first | omega | (simp [own_upd] at *; omega)
        · first | omega | (simp [own_upd] at *; omega)
        · first | omega | (simp [own_upd] at *; omega)
        · simp [own_cnt, own_upd]; try omega
      exact own_retJ X26 hx Bd.notSynchronized e26 Bd.returns (hb hby d8_126) (⟨rfl, N26, f30, _, f28, f29, A26, hfin.1, hfin.2⟩) (by decide) (by decide)
    · --
      refine own_by (fun _ k => XS.ifNo X15.here hx rfl (hb hby d8_90) rfl ((if0 _ _).trans (flt (mt (lw_lt _ _).mp hc16)).1) k) ?_
      show own_Go _ _ _ _ (T15.setTop (mkF m 93 #[.val (.ref a1), .val (.long (f 0)), .second, .val (.long (f 4)), .second, .val (.int (0 : Int32)), .val (.int (2 : Int32))] []))
      refine own_by (fun _ k => XS.goto X15.here hx rfl (pc0 := 93) (pc' := 117) rfl (hb hby d8_93) (by decide) (by decide) k) ?_
      refine own_by (fun _ k => XS.aloadN X15.here hx rfl (hb hby d8_117) rfl rfl k) ?_
      show own_Go _ _ _ _ (T15.setTop (mkF m 118 #[.val (.ref a1), .val (.long (f 0)), .second, .val (.long (f 4)), .second, .val (.int (0 : Int32)), .val (.int (2 : Int32))] [(.ref a1)]))
      obtain ⟨T31, X31, e31, st31⟩ := getF X15 hx hZ hown (host := "") (Or.inl (hw _ (List.mem_of_getElem? (i := 20) rfl))) Via.refl e15 f7 (g := (mkF m 118 #[.val (.ref a1), .val (.long (f 0)), .second, .val (.long (f 4)), .second, .val (.int (0 : Int32)), .val (.int (2 : Int32))] [(.ref a1)])) rfl rfl (hb hby d8_118)
      refine own_by st31 ?_
      refine own_by (fun _ k => XS.iload X31.here hx rfl (hb hby d8_121) rfl k) ?_
      refine own_by (fun _ k => XS.lloadN X31.here hx rfl (hb hby d8_123) rfl k) ?_
      show own_Go _ _ _ _ (T31.setTop (mkF m 124 #[.val (.ref a1), .val (.long (f 0)), .second, .val (.long (f 4)), .second, .val (.int (0 : Int32)), .val (.int (2 : Int32))] [(.long (f 4)), (.int (0 : Int32)), (.ref b1)]))
      refine own_las X31 hx hZ e31 f8 0 (by decide) (by omega) (hb hby d8_124) ?_
      intro T32 h32 X32 e32 W32 A32
      have f33 := f6.wr W32
      have f34 := f7.other W32 (Or.inl hab)
      have f35 := f5.other W32 (Or.inl hab)
      have f36 := f9.wr W32 (Or.inl (List.mem_of_getElem? (i := 1) rfl))
      have N32 := Fr.snoc X32 N4 Pg2
      have Z32 := own_size_wr W32 Z4
      obtain ⟨fn32, hfn32⟩ : ∃ g : Nat → Int64, g = own_upd f 0 (f 4) := ⟨_, rfl⟩
      rw [← hfn32] at A32
      show own_Go _ _ _ _ (T32.setTop (mkF m 125 #[.val (.ref a1), .val (.long (f 0)), .second, .val (.long (f 4)), .second, .val (.int (0 : Int32)), .val (.int (2 : Int32))] []))
      refine own_by (fun _ k => XS.lloadN X32.here hx rfl (hb hby d8_125) rfl k) ?_
      show own_Go _ _ _ _ (T32.setTop (mkF m 126 #[.val (.ref a1), .val (.long (f 0)), .second, .val (.long (f 4)), .second, .val (.int (0 : Int32)), .val (.int (2 : Int32))] [(.long (f 0))]))
      have hfin : own_hp (fn32) 4 ∧ (∀ x, own_cnt f x 5 = own_one (f 0) x + own_cnt (fn32) x 4) := by
        simp only [hfn32]
        obtain ⟨H1, H2, H3, H4⟩ := HP
        have hc14' := hc14
        rw [Int64.lt_iff_toInt_lt] at hc14'
        have hc16' := hc16
        rw [Int64.lt_iff_toInt_lt] at hc16'
        refine ⟨⟨fun q => ?_, fun q => ?_, fun q => ?_, fun q => ?_⟩, fun x => ?_⟩
        · first | omega | (simp [own_upd] at *; omega)
        · first | omega | (simp [own_upd] at *; omega)
        · first | omega | (simp [own_upd] at *; omega)
        · first | omega | (simp [own_upd] at *; omega)
        · simp [own_cnt, own_upd]; try omega
      exact own_retJ X32 hx Bd.notSynchronized e32 Bd.returns (hb hby d8_126) (⟨rfl, N32, f36, _, f34, f35, A32, hfin.1, hfin.2⟩) (by decide) (by decide)
  · --
    refine own_by (fun _ k => XS.ifYes X13.here hx rfl (pc0 := 75) (pc' := 81) rfl (hb hby d8_75) rfl ((if0 _ _).trans (flt (mt (lw_lt _ _).mp hc14)).2.1) (by decide) (by decide) k) ?_
    refine own_by (fun _ k => XS.aloadN X13.here hx rfl (hb hby d8_81) rfl rfl k) ?_
    show own_Go _ _ _ _ (T13.setTop (mkF m 82 #[.val (.ref a1), .val (.long (f 0)), .second, .val (.long (f 4)), .second, .val (.int (0 : Int32)), .val (.int (1 : Int32))] [(.ref a1)]))
    obtain ⟨T37, X37, e37, st37⟩ := getF X13 hx hZ hown (host := "") (Or.inl (hw _ (List.mem_of_getElem? (i := 20) rfl))) Via.refl e13 f7 (g := (mkF m 82 #[.val (.ref a1), .val (.long (f 0)), .second, .val (.long (f 4)), .second, .val (.int (0 : Int32)), .val (.int (1 : Int32))] [(.ref a1)])) rfl rfl (hb hby d8_82)
    refine own_by st37 ?_
    refine own_by (fun _ k => XS.iload X37.here hx rfl (hb hby d8_85) rfl k) ?_
    show own_Go _ _ _ _ (T37.setTop (mkF m 87 #[.val (.ref a1), .val (.long (f 0)), .second, .val (.long (f 4)), .second, .val (.int (0 : Int32)), .val (.int (1 : Int32))] [(.int (1 : Int32)), (.ref b1)]))
    refine own_by (fun _ k => own_lal X37 hx hZ e37 f8 1 (by decide) (by omega) (hb hby d8_87) k) ?_
    refine own_by (fun _ k => XS.lloadN X37.here hx rfl (hb hby d8_88) rfl k) ?_
    show own_Go _ _ _ _ (T37.setTop (mkF m 89 #[.val (.ref a1), .val (.long (f 0)), .second, .val (.long (f 4)), .second, .val (.int (0 : Int32)), .val (.int (1 : Int32))] [(.long (f 4)), (.long (f 1))]))
    refine own_by (fun _ k => XS.lcmp X37.here hx rfl (hb hby d8_89) rfl k) ?_
    show own_Go _ _ _ _ (T37.setTop (mkF m 90 #[.val (.ref a1), .val (.long (f 0)), .second, .val (.long (f 4)), .second, .val (.int (0 : Int32)), .val (.int (1 : Int32))] [(.int (lcmpW (f 1) (f 4)))]))
    by_cases hc38 : (f 1) < (f 4)
    · --
      refine own_by (fun _ k => XS.ifYes X37.here hx rfl (pc0 := 90) (pc' := 96) rfl (hb hby d8_90) rfl ((if0 _ _).trans (tlt ((lw_lt _ _).mpr hc38)).1) (by decide) (by decide) k) ?_
      refine own_by (fun _ k => XS.aloadN X37.here hx rfl (hb hby d8_96) rfl rfl k) ?_
      show own_Go _ _ _ _ (T37.setTop (mkF m 97 #[.val (.ref a1), .val (.long (f 0)), .second, .val (.long (f 4)), .second, .val (.int (0 : Int32)), .val (.int (1 : Int32))] [(.ref a1)]))
      obtain ⟨T39, X39, e39, st39⟩ := getF X37 hx hZ hown (host := "") (Or.inl (hw _ (List.mem_of_getElem? (i := 20) rfl))) Via.refl e37 f7 (g := (mkF m 97 #[.val (.ref a1), .val (.long (f 0)), .second, .val (.long (f 4)), .second, .val (.int (0 : Int32)), .val (.int (1 : Int32))] [(.ref a1)])) rfl rfl (hb hby d8_97)
      refine own_by st39 ?_
      refine own_by (fun _ k => XS.iload X39.here hx rfl (hb hby d8_100) rfl k) ?_
      refine own_by (fun _ k => XS.aloadN X39.here hx rfl (hb hby d8_102) rfl rfl k) ?_
      show own_Go _ _ _ _ (T39.setTop (mkF m 103 #[.val (.ref a1), .val (.long (f 0)), .second, .val (.long (f 4)), .second, .val (.int (0 : Int32)), .val (.int (1 : Int32))] [(.ref a1), (.int (0 : Int32)), (.ref b1)]))
      obtain ⟨T40, X40, e40, st40⟩ := getF X39 hx hZ hown (host := "") (Or.inl (hw _ (List.mem_of_getElem? (i := 20) rfl))) Via.refl e39 f7 (g := (mkF m 103 #[.val (.ref a1), .val (.long (f 0)), .second, .val (.long (f 4)), .second, .val (.int (0 : Int32)), .val (.int (1 : Int32))] [(.ref a1), (.int (0 : Int32)), (.ref b1)])) rfl rfl (hb hby d8_103)
      refine own_by st40 ?_
      refine own_by (fun _ k => XS.iload X40.here hx rfl (hb hby d8_106) rfl k) ?_
      show own_Go _ _ _ _ (T40.setTop (mkF m 108 #[.val (.ref a1), .val (.long (f 0)), .second, .val (.long (f 4)), .second, .val (.int (0 : Int32)), .val (.int (1 : Int32))] [(.int (1 : Int32)), (.ref b1), (.int (0 : Int32)), (.ref b1)]))
      refine own_by (fun _ k => own_lal X40 hx hZ e40 f8 1 (by decide) (by omega) (hb hby d8_108) k) ?_
      show own_Go _ _ _ _ (T40.setTop (mkF m 109 #[.val (.ref a1), .val (.long (f 0)), .second, .val (.long (f 4)), .second, .val (.int (0 : Int32)), .val (.int (1 : Int32))] [(.long (f 1)), (.int (0 : Int32)), (.ref b1)]))
      refine own_las X40 hx hZ e40 f8 0 (by decide) (by omega) (hb hby d8_109) ?_
      intro T41 h41 X41 e41 W41 A41
      have f42 := f6.wr W41
      have f43 := f7.other W41 (Or.inl hab)
      have f44 := f5.other W41 (Or.inl hab)
      have f45 := f9.wr W41 (Or.inl (List.mem_of_getElem? (i := 1) rfl))
      have N41 := Fr.snoc X41 N4 Pg2
      have Z41 := own_size_wr W41 Z4
      obtain ⟨fn41, hfn41⟩ : ∃ g : Nat → Int64, g = own_upd f 0 (f 1) := ⟨_, rfl⟩
      rw [← hfn41] at A41
      show own_Go _ _ _ _ (T41.setTop (mkF m 110 #[.val (.ref a1), .val (.long (f 0)), .second, .val (.long (f 4)), .second, .val (.int (0 : Int32)), .val (.int (1 : Int32))] []))
      refine own_by (fun _ k => XS.iload X41.here hx rfl (hb hby d8_110) rfl k) ?_
      show own_Go _ _ _ _ (T41.setTop (mkF m 112 #[.val (.ref a1), .val (.long (f 0)), .second, .val (.long (f 4)), .second, .val (.int (0 : Int32)), .val (.int (1 : Int32))] [(.int (1 : Int32))]))
      refine own_by (fun _ k => XS.istore X41.here hx rfl (hb hby d8_112) rfl (l' := #[.val (.ref a1), .val (.long (f 0)), .second, .val (.long (f 4)), .second, .val (.int (1 : Int32)), .val (.int (1 : Int32))]) rfl k) ?_
      show own_Go _ _ _ _ (T41.setTop (mkF m 114 #[.val (.ref a1), .val (.long (f 0)), .second, .val (.long (f 4)), .second, .val (.int (1 : Int32)), .val (.int (1 : Int32))] []))
      refine own_by (fun _ k => XS.goto X41.here hx rfl (pc0 := 114) (pc' := 27) rfl (hb hby d8_114) (by decide) (by decide) k) ?_
      refine own_by (fun _ k => XS.iconst X41.here hx rfl (hb hby d8_27) k) ?_
      refine own_by (fun _ k => XS.iload X41.here hx rfl (hb hby d8_28) rfl k) ?_
      show own_Go _ _ _ _ (T41.setTop (mkF m 30 #[.val (.ref a1), .val (.long (f 0)), .second, .val (.long (f 4)), .second, .val (.int (1 : Int32)), .val (.int (1 : Int32))] [(.int (1 : Int32)), (.int (2 : Int32))]))
      refine own_by (fun _ k => XS.imul X41.here hx rfl (hb hby d8_30) rfl k) ?_
      show own_Go _ _ _ _ (T41.setTop (mkF m 31 #[.val (.ref a1), .val (.long (f 0)), .second, .val (.long (f 4)), .second, .val (.int (1 : Int32)), .val (.int (1 : Int32))] [(.int ((2 : Int32) * (1 : Int32)))]))
      rw [(by decide : ((2 : Int32) * (1 : Int32)) = (2 : Int32))]
      refine own_by (fun _ k => XS.iconst X41.here hx rfl (hb hby d8_31) k) ?_
      show own_Go _ _ _ _ (T41.setTop (mkF m 32 #[.val (.ref a1), .val (.long (f 0)), .second, .val (.long (f 4)), .second, .val (.int (1 : Int32)), .val (.int (1 : Int32))] [(.int (1 : Int32)), (.int (2 : Int32))]))
      refine own_by (fun _ k => XS.iadd X41.here hx rfl (hb hby d8_32) rfl k) ?_
      show own_Go _ _ _ _ (T41.setTop (mkF m 33 #[.val (.ref a1), .val (.long (f 0)), .second, .val (.long (f 4)), .second, .val (.int (1 : Int32)), .val (.int (1 : Int32))] [(.int ((2 : Int32) + (1 : Int32)))]))
      rw [(by decide : ((2 : Int32) + (1 : Int32)) = (3 : Int32))]
      show own_Go _ _ _ _ (T41.setTop (mkF m 33 #[.val (.ref a1), .val (.long (f 0)), .second, .val (.long (f 4)), .second, .val (.int (1 : Int32)), .val (.int (1 : Int32))] [(.int (3 : Int32))]))
      refine own_by (fun _ k => XS.istore X41.here hx rfl (hb hby d8_33) rfl (l' := #[.val (.ref a1), .val (.long (f 0)), .second, .val (.long (f 4)), .second, .val (.int (1 : Int32)), .val (.int (3 : Int32))]) rfl k) ?_
      refine own_by (fun _ k => XS.iload X41.here hx rfl (hb hby d8_35) rfl k) ?_
      refine own_by (fun _ k => XS.aloadN X41.here hx rfl (hb hby d8_37) rfl rfl k) ?_
      show own_Go _ _ _ _ (T41.setTop (mkF m 38 #[.val (.ref a1), .val (.long (f 0)), .second, .val (.long (f 4)), .second, .val (.int (1 : Int32)), .val (.int (3 : Int32))] [(.ref a1), (.int (3 : Int32))]))
      obtain ⟨T46, X46, e46, st46⟩ := getF X41 hx hZ hown (host := "") (Or.inl (hw _ (List.mem_of_getElem? (i := 27) rfl))) Via.refl e41 f44 (g := (mkF m 38 #[.val (.ref a1), .val (.long (f 0)), .second, .val (.long (f 4)), .second, .val (.int (1 : Int32)), .val (.int (3 : Int32))] [(.ref a1), (.int (3 : Int32))])) rfl rfl (hb hby d8_38)
      refine own_by st46 ?_
      show own_Go _ _ _ _ (T46.setTop (mkF m 41 #[.val (.ref a1), .val (.long (f 0)), .second, .val (.long (f 4)), .second, .val (.int (1 : Int32)), .val (.int (3 : Int32))] [(.int (4 : Int32)), (.int (3 : Int32))]))
      refine own_by (fun _ k => XS.icmpYes X46.here hx rfl (pc0 := 41) (pc' := 47) rfl (hb hby d8_41) rfl (tlt (by decide)).1 (by decide) (by decide) k) ?_
      refine own_by (fun _ k => XS.iload X46.here hx rfl (hb hby d8_47) rfl k) ?_
      refine own_by (fun _ k => XS.iconst X46.here hx rfl (hb hby d8_49) k) ?_
      show own_Go _ _ _ _ (T46.setTop (mkF m 50 #[.val (.ref a1), .val (.long (f 0)), .second, .val (.long (f 4)), .second, .val (.int (1 : Int32)), .val (.int (3 : Int32))] [(.int (1 : Int32)), (.int (3 : Int32))]))
      refine own_by (fun _ k => XS.iadd X46.here hx rfl (hb hby d8_50) rfl k) ?_
      show own_Go _ _ _ _ (T46.setTop (mkF m 51 #[.val (.ref a1), .val (.long (f 0)), .second, .val (.long (f 4)), .second, .val (.int (1 : Int32)), .val (.int (3 : Int32))] [(.int ((3 : Int32) + (1 : Int32)))]))
      rw [(by decide : ((3 : Int32) + (1 : Int32)) = (4 : Int32))]
      refine own_by (fun _ k => XS.aloadN X46.here hx rfl (hb hby d8_51) rfl rfl k) ?_
      show own_Go _ _ _ _ (T46.setTop (mkF m 52 #[.val (.ref a1), .val (.long (f 0)), .second, .val (.long (f 4)), .second, .val (.int (1 : Int32)), .val (.int (3 : Int32))] [(.ref a1), (.int (4 : Int32))]))
      obtain ⟨T47, X47, e47, st47⟩ := getF X46 hx hZ hown (host := "") (Or.inl (hw _ (List.mem_of_getElem? (i := 27) rfl))) Via.refl e46 f44 (g := (mkF m 52 #[.val (.ref a1), .val (.long (f 0)), .second, .val (.long (f 4)), .second, .val (.int (1 : Int32)), .val (.int (3 : Int32))] [(.ref a1), (.int (4 : Int32))])) rfl rfl (hb hby d8_52)
      refine own_by st47 ?_
      show own_Go _ _ _ _ (T47.setTop (mkF m 55 #[.val (.ref a1), .val (.long (f 0)), .second, .val (.long (f 4)), .second, .val (.int (1 : Int32)), .val (.int (3 : Int32))] [(.int (4 : Int32)), (.int (4 : Int32))]))
      refine own_by (fun _ k => XS.icmpYes X47.here hx rfl (pc0 := 55) (pc' := 81) rfl (hb hby d8_55) rfl (flt (by decide)).2.1 (by decide) (by decide) k) ?_
      refine own_by (fun _ k => XS.aloadN X47.here hx rfl (hb hby d8_81) rfl rfl k) ?_
      show own_Go _ _ _ _ (T47.setTop (mkF m 82 #[.val (.ref a1), .val (.long (f 0)), .second, .val (.long (f 4)), .second, .val (.int (1 : Int32)), .val (.int (3 : Int32))] [(.ref a1)]))
      obtain ⟨T48, X48, e48, st48⟩ := getF X47 hx hZ hown (host := "") (Or.inl (hw _ (List.mem_of_getElem? (i := 20) rfl))) Via.refl e47 f43 (g := (mkF m 82 #[.val (.ref a1), .val (.long (f 0)), .second, .val (.long (f 4)), .second, .val (.int (1 : Int32)), .val (.int (3 : Int32))] [(.ref a1)])) rfl rfl (hb hby d8_82)
      refine own_by st48 ?_
      refine own_by (fun _ k => XS.iload X48.here hx rfl (hb hby d8_85) rfl k) ?_
      show own_Go _ _ _ _ (T48.setTop (mkF m 87 #[.val (.ref a1), .val (.long (f 0)), .second, .val (.long (f 4)), .second, .val (.int (1 : Int32)), .val (.int (3 : Int32))] [(.int (3 : Int32)), (.ref b1)]))
      refine own_by (fun _ k => own_lal X48 hx hZ e48 A41 3 (by decide) (by omega) (hb hby d8_87) k) ?_
      show own_Go _ _ _ _ (T48.setTop (mkF m 88 #[.val (.ref a1), .val (.long (f 0)), .second, .val (.long (f 4)), .second, .val (.int (1 : Int32)), .val (.int (3 : Int32))] [(.long (fn41 3))]))
      rw [show (fn41 3) = (f 3) from by simp [own_upd, hfn41]]
      refine own_by (fun _ k => XS.lloadN X48.here hx rfl (hb hby d8_88) rfl k) ?_
      show own_Go _ _ _ _ (T48.setTop (mkF m 89 #[.val (.ref a1), .val (.long (f 0)), .second, .val (.long (f 4)), .second, .val (.int (1 : Int32)), .val (.int (3 : Int32))] [(.long (f 4)), (.long (f 3))]))
      refine own_by (fun _ k => XS.lcmp X48.here hx rfl (hb hby d8_89) rfl k) ?_
      show own_Go _ _ _ _ (T48.setTop (mkF m 90 #[.val (.ref a1), .val (.long (f 0)), .second, .val (.long (f 4)), .second, .val (.int (1 : Int32)), .val (.int (3 : Int32))] [(.int (lcmpW (f 3) (f 4)))]))
      by_cases hc49 : (f 3) < (f 4)
      · --
        refine own_by (fun _ k => XS.ifYes X48.here hx rfl (pc0 := 90) (pc' := 96) rfl (hb hby d8_90) rfl ((if0 _ _).trans (tlt ((lw_lt _ _).mpr hc49)).1) (by decide) (by decide) k) ?_
        refine own_by (fun _ k => XS.aloadN X48.here hx rfl (hb hby d8_96) rfl rfl k) ?_
        show own_Go _ _ _ _ (T48.setTop (mkF m 97 #[.val (.ref a1), .val (.long (f 0)), .second, .val (.long (f 4)), .second, .val (.int (1 : Int32)), .val (.int (3 : Int32))] [(.ref a1)]))
        obtain ⟨T50, X50, e50, st50⟩ := getF X48 hx hZ hown (host := "") (Or.inl (hw _ (List.mem_of_getElem? (i := 20) rfl))) Via.refl e48 f43 (g := (mkF m 97 #[.val (.ref a1), .val (.long (f 0)), .second, .val (.long (f 4)), .second, .val (.int (1 : Int32)), .val (.int (3 : Int32))] [(.ref a1)])) rfl rfl (hb hby d8_97)
        refine own_by st50 ?_
        refine own_by (fun _ k => XS.iload X50.here hx rfl (hb hby d8_100) rfl k) ?_
        refine own_by (fun _ k => XS.aloadN X50.here hx rfl (hb hby d8_102) rfl rfl k) ?_
        show own_Go _ _ _ _ (T50.setTop (mkF m 103 #[.val (.ref a1), .val (.long (f 0)), .second, .val (.long (f 4)), .second, .val (.int (1 : Int32)), .val (.int (3 : Int32))] [(.ref a1), (.int (1 : Int32)), (.ref b1)]))
        obtain ⟨T51, X51, e51, st51⟩ := getF X50 hx hZ hown (host := "") (Or.inl (hw _ (List.mem_of_getElem? (i := 20) rfl))) Via.refl e50 f43 (g := (mkF m 103 #[.val (.ref a1), .val (.long (f 0)), .second, .val (.long (f 4)), .second, .val (.int (1 : Int32)), .val (.int (3 : Int32))] [(.ref a1), (.int (1 : Int32)), (.ref b1)])) rfl rfl (hb hby d8_103)
        refine own_by st51 ?_
        refine own_by (fun _ k => XS.iload X51.here hx rfl (hb hby d8_106) rfl k) ?_
        show own_Go _ _ _ _ (T51.setTop (mkF m 108 #[.val (.ref a1), .val (.long (f 0)), .second, .val (.long (f 4)), .second, .val (.int (1 : Int32)), .val (.int (3 : Int32))] [(.int (3 : Int32)), (.ref b1), (.int (1 : Int32)), (.ref b1)]))
        refine own_by (fun _ k => own_lal X51 hx hZ e51 A41 3 (by decide) (by omega) (hb hby d8_108) k) ?_
        show own_Go _ _ _ _ (T51.setTop (mkF m 109 #[.val (.ref a1), .val (.long (f 0)), .second, .val (.long (f 4)), .second, .val (.int (1 : Int32)), .val (.int (3 : Int32))] [(.long (fn41 3)), (.int (1 : Int32)), (.ref b1)]))
        rw [show (fn41 3) = (f 3) from by simp [own_upd, hfn41]]
        show own_Go _ _ _ _ (T51.setTop (mkF m 109 #[.val (.ref a1), .val (.long (f 0)), .second, .val (.long (f 4)), .second, .val (.int (1 : Int32)), .val (.int (3 : Int32))] [(.long (f 3)), (.int (1 : Int32)), (.ref b1)]))
        refine own_las X51 hx hZ e51 A41 1 (by decide) (by omega) (hb hby d8_109) ?_
        intro T52 h52 X52 e52 W52 A52
        have f53 := f42.wr W52
        have f54 := f43.other W52 (Or.inl hab)
        have f55 := f44.other W52 (Or.inl hab)
        have f56 := f45.wr W52 (Or.inl (List.mem_of_getElem? (i := 1) rfl))
        have N52 := Fr.snoc X52 N41 Pg2
        have Z52 := own_size_wr W52 Z41
        obtain ⟨fn52, hfn52⟩ : ∃ g : Nat → Int64, g = own_upd fn41 1 (f 3) := ⟨_, rfl⟩
        rw [← hfn52] at A52
        show own_Go _ _ _ _ (T52.setTop (mkF m 110 #[.val (.ref a1), .val (.long (f 0)), .second, .val (.long (f 4)), .second, .val (.int (1 : Int32)), .val (.int (3 : Int32))] []))
        refine own_by (fun _ k => XS.iload X52.here hx rfl (hb hby d8_110) rfl k) ?_
        show own_Go _ _ _ _ (T52.setTop (mkF m 112 #[.val (.ref a1), .val (.long (f 0)), .second, .val (.long (f 4)), .second, .val (.int (1 : Int32)), .val (.int (3 : Int32))] [(.int (3 : Int32))]))
        refine own_by (fun _ k => XS.istore X52.here hx rfl (hb hby d8_112) rfl (l' := #[.val (.ref a1), .val (.long (f 0)), .second, .val (.long (f 4)), .second, .val (.int (3 : Int32)), .val (.int (3 : Int32))]) rfl k) ?_
        show own_Go _ _ _ _ (T52.setTop (mkF m 114 #[.val (.ref a1), .val (.long (f 0)), .second, .val (.long (f 4)), .second, .val (.int (3 : Int32)), .val (.int (3 : Int32))] []))
        refine own_by (fun _ k => XS.goto X52.here hx rfl (pc0 := 114) (pc' := 27) rfl (hb hby d8_114) (by decide) (by decide) k) ?_
        refine own_by (fun _ k => XS.iconst X52.here hx rfl (hb hby d8_27) k) ?_
        refine own_by (fun _ k => XS.iload X52.here hx rfl (hb hby d8_28) rfl k) ?_
        show own_Go _ _ _ _ (T52.setTop (mkF m 30 #[.val (.ref a1), .val (.long (f 0)), .second, .val (.long (f 4)), .second, .val (.int (3 : Int32)), .val (.int (3 : Int32))] [(.int (3 : Int32)), (.int (2 : Int32))]))
        refine own_by (fun _ k => XS.imul X52.here hx rfl (hb hby d8_30) rfl k) ?_
        show own_Go _ _ _ _ (T52.setTop (mkF m 31 #[.val (.ref a1), .val (.long (f 0)), .second, .val (.long (f 4)), .second, .val (.int (3 : Int32)), .val (.int (3 : Int32))] [(.int ((2 : Int32) * (3 : Int32)))]))
        rw [(by decide : ((2 : Int32) * (3 : Int32)) = (6 : Int32))]
        refine own_by (fun _ k => XS.iconst X52.here hx rfl (hb hby d8_31) k) ?_
        show own_Go _ _ _ _ (T52.setTop (mkF m 32 #[.val (.ref a1), .val (.long (f 0)), .second, .val (.long (f 4)), .second, .val (.int (3 : Int32)), .val (.int (3 : Int32))] [(.int (1 : Int32)), (.int (6 : Int32))]))
        refine own_by (fun _ k => XS.iadd X52.here hx rfl (hb hby d8_32) rfl k) ?_
        show own_Go _ _ _ _ (T52.setTop (mkF m 33 #[.val (.ref a1), .val (.long (f 0)), .second, .val (.long (f 4)), .second, .val (.int (3 : Int32)), .val (.int (3 : Int32))] [(.int ((6 : Int32) + (1 : Int32)))]))
        rw [(by decide : ((6 : Int32) + (1 : Int32)) = (7 : Int32))]
        show own_Go _ _ _ _ (T52.setTop (mkF m 33 #[.val (.ref a1), .val (.long (f 0)), .second, .val (.long (f 4)), .second, .val (.int (3 : Int32)), .val (.int (3 : Int32))] [(.int (7 : Int32))]))
        refine own_by (fun _ k => XS.istore X52.here hx rfl (hb hby d8_33) rfl (l' := #[.val (.ref a1), .val (.long (f 0)), .second, .val (.long (f 4)), .second, .val (.int (3 : Int32)), .val (.int (7 : Int32))]) rfl k) ?_
        refine own_by (fun _ k => XS.iload X52.here hx rfl (hb hby d8_35) rfl k) ?_
        refine own_by (fun _ k => XS.aloadN X52.here hx rfl (hb hby d8_37) rfl rfl k) ?_
        show own_Go _ _ _ _ (T52.setTop (mkF m 38 #[.val (.ref a1), .val (.long (f 0)), .second, .val (.long (f 4)), .second, .val (.int (3 : Int32)), .val (.int (7 : Int32))] [(.ref a1), (.int (7 : Int32))]))
        obtain ⟨T57, X57, e57, st57⟩ := getF X52 hx hZ hown (host := "") (Or.inl (hw _ (List.mem_of_getElem? (i := 27) rfl))) Via.refl e52 f55 (g := (mkF m 38 #[.val (.ref a1), .val (.long (f 0)), .second, .val (.long (f 4)), .second, .val (.int (3 : Int32)), .val (.int (7 : Int32))] [(.ref a1), (.int (7 : Int32))])) rfl rfl (hb hby d8_38)
        refine own_by st57 ?_
        show own_Go _ _ _ _ (T57.setTop (mkF m 41 #[.val (.ref a1), .val (.long (f 0)), .second, .val (.long (f 4)), .second, .val (.int (3 : Int32)), .val (.int (7 : Int32))] [(.int (4 : Int32)), (.int (7 : Int32))]))
        refine own_by (fun _ k => XS.icmpNo X57.here hx rfl (hb hby d8_41) rfl (flt (by decide)).1 k) ?_
        show own_Go _ _ _ _ (T57.setTop (mkF m 44 #[.val (.ref a1), .val (.long (f 0)), .second, .val (.long (f 4)), .second, .val (.int (3 : Int32)), .val (.int (7 : Int32))] []))
        refine own_by (fun _ k => XS.goto X57.here hx rfl (pc0 := 44) (pc' := 117) rfl (hb hby d8_44) (by decide) (by decide) k) ?_
        refine own_by (fun _ k => XS.aloadN X57.here hx rfl (hb hby d8_117) rfl rfl k) ?_
        show own_Go _ _ _ _ (T57.setTop (mkF m 118 #[.val (.ref a1), .val (.long (f 0)), .second, .val (.long (f 4)), .second, .val (.int (3 : Int32)), .val (.int (7 : Int32))] [(.ref a1)]))
        obtain ⟨T58, X58, e58, st58⟩ := getF X57 hx hZ hown (host := "") (Or.inl (hw _ (List.mem_of_getElem? (i := 20) rfl))) Via.refl e57 f54 (g := (mkF m 118 #[.val (.ref a1), .val (.long (f 0)), .second, .val (.long (f 4)), .second, .val (.int (3 : Int32)), .val (.int (7 : Int32))] [(.ref a1)])) rfl rfl (hb hby d8_118)
        refine own_by st58 ?_
        refine own_by (fun _ k => XS.iload X58.here hx rfl (hb hby d8_121) rfl k) ?_
        refine own_by (fun _ k => XS.lloadN X58.here hx rfl (hb hby d8_123) rfl k) ?_
        show own_Go _ _ _ _ (T58.setTop (mkF m 124 #[.val (.ref a1), .val (.long (f 0)), .second, .val (.long (f 4)), .second, .val (.int (3 : Int32)), .val (.int (7 : Int32))] [(.long (f 4)), (.int (3 : Int32)), (.ref b1)]))
        refine own_las X58 hx hZ e58 A52 3 (by decide) (by omega) (hb hby d8_124) ?_
        intro T59 h59 X59 e59 W59 A59
        have f60 := f53.wr W59
        have f61 := f54.other W59 (Or.inl hab)
        have f62 := f55.other W59 (Or.inl hab)
        have f63 := f56.wr W59 (Or.inl (List.mem_of_getElem? (i := 1) rfl))
        have N59 := Fr.snoc X59 N52 Pg2
        have Z59 := own_size_wr W59 Z52
        obtain ⟨fn59, hfn59⟩ : ∃ g : Nat → Int64, g = own_upd fn52 3 (f 4) := ⟨_, rfl⟩
        rw [← hfn59] at A59
        show own_Go _ _ _ _ (T59.setTop (mkF m 125 #[.val (.ref a1), .val (.long (f 0)), .second, .val (.long (f 4)), .second, .val (.int (3 : Int32)), .val (.int (7 : Int32))] []))
        refine own_by (fun _ k => XS.lloadN X59.here hx rfl (hb hby d8_125) rfl k) ?_
        show own_Go _ _ _ _ (T59.setTop (mkF m 126 #[.val (.ref a1), .val (.long (f 0)), .second, .val (.long (f 4)), .second, .val (.int (3 : Int32)), .val (.int (7 : Int32))] [(.long (f 0))]))
        have hfin : own_hp (fn59) 4 ∧ (∀ x, own_cnt f x 5 = own_one (f 0) x + own_cnt (fn59) x 4) := by
          simp only [hfn59, hfn52, hfn41]
          obtain ⟨H1, H2, H3, H4⟩ := HP
          have hc14' := hc14
          rw [Int64.lt_iff_toInt_lt] at hc14'
          have hc38' := hc38
          rw [Int64.lt_iff_toInt_lt] at hc38'
          have hc49' := hc49
          rw [Int64.lt_iff_toInt_lt] at hc49'
          refine ⟨⟨fun q => ?_, fun q => ?_, fun q => ?_, fun q => ?_⟩, fun x => ?_⟩
          · first | omega | (simp [own_upd] at *; omega)
          · first | omega | (simp [own_upd] at *; omega)
          · first | omega | (simp [own_upd] at *; omega)
          · first | omega | (simp [own_upd] at *; omega)
          · simp [own_cnt, own_upd]; try omega
        exact own_retJ X59 hx Bd.notSynchronized e59 Bd.returns (hb hby d8_126) (⟨rfl, N59, f63, _, f61, f62, A59, hfin.1, hfin.2⟩) (by decide) (by decide)
      · --
        refine own_by (fun _ k => XS.ifNo X48.here hx rfl (hb hby d8_90) rfl ((if0 _ _).trans (flt (mt (lw_lt _ _).mp hc49)).1) k) ?_
        show own_Go _ _ _ _ (T48.setTop (mkF m 93 #[.val (.ref a1), .val (.long (f 0)), .second, .val (.long (f 4)), .second, .val (.int (1 : Int32)), .val (.int (3 : Int32))] []))
        refine own_by (fun _ k => XS.goto X48.here hx rfl (pc0 := 93) (pc' := 117) rfl (hb hby d8_93) (by decide) (by decide) k) ?_
        refine own_by (fun _ k => XS.aloadN X48.here hx rfl (hb hby d8_117) rfl rfl k) ?_
        show own_Go _ _ _ _ (T48.setTop (mkF m 118 #[.val (.ref a1), .val (.long (f 0)), .second, .val (.long (f 4)), .second, .val (.int (1 : Int32)), .val (.int (3 : Int32))] [(.ref a1)]))
        obtain ⟨T64, X64, e64, st64⟩ := getF X48 hx hZ hown (host := "") (Or.inl (hw _ (List.mem_of_getElem? (i := 20) rfl))) Via.refl e48 f43 (g := (mkF m 118 #[.val (.ref a1), .val (.long (f 0)), .second, .val (.long (f 4)), .second, .val (.int (1 : Int32)), .val (.int (3 : Int32))] [(.ref a1)])) rfl rfl (hb hby d8_118)
        refine own_by st64 ?_
        refine own_by (fun _ k => XS.iload X64.here hx rfl (hb hby d8_121) rfl k) ?_
        refine own_by (fun _ k => XS.lloadN X64.here hx rfl (hb hby d8_123) rfl k) ?_
        show own_Go _ _ _ _ (T64.setTop (mkF m 124 #[.val (.ref a1), .val (.long (f 0)), .second, .val (.long (f 4)), .second, .val (.int (1 : Int32)), .val (.int (3 : Int32))] [(.long (f 4)), (.int (1 : Int32)), (.ref b1)]))
        refine own_las X64 hx hZ e64 A41 1 (by decide) (by omega) (hb hby d8_124) ?_
        intro T65 h65 X65 e65 W65 A65
        have f66 := f42.wr W65
        have f67 := f43.other W65 (Or.inl hab)
        have f68 := f44.other W65 (Or.inl hab)
        have f69 := f45.wr W65 (Or.inl (List.mem_of_getElem? (i := 1) rfl))
        have N65 := Fr.snoc X65 N41 Pg2
        have Z65 := own_size_wr W65 Z41
        obtain ⟨fn65, hfn65⟩ : ∃ g : Nat → Int64, g = own_upd fn41 1 (f 4) := ⟨_, rfl⟩
        rw [← hfn65] at A65
        show own_Go _ _ _ _ (T65.setTop (mkF m 125 #[.val (.ref a1), .val (.long (f 0)), .second, .val (.long (f 4)), .second, .val (.int (1 : Int32)), .val (.int (3 : Int32))] []))
        refine own_by (fun _ k => XS.lloadN X65.here hx rfl (hb hby d8_125) rfl k) ?_
        show own_Go _ _ _ _ (T65.setTop (mkF m 126 #[.val (.ref a1), .val (.long (f 0)), .second, .val (.long (f 4)), .second, .val (.int (1 : Int32)), .val (.int (3 : Int32))] [(.long (f 0))]))
        have hfin : own_hp (fn65) 4 ∧ (∀ x, own_cnt f x 5 = own_one (f 0) x + own_cnt (fn65) x 4) := by
          simp only [hfn65, hfn41]
          obtain ⟨H1, H2, H3, H4⟩ := HP
          have hc14' := hc14
          rw [Int64.lt_iff_toInt_lt] at hc14'
          have hc38' := hc38
          rw [Int64.lt_iff_toInt_lt] at hc38'
          have hc49' := hc49
          rw [Int64.lt_iff_toInt_lt] at hc49'
          refine ⟨⟨fun q => ?_, fun q => ?_, fun q => ?_, fun q => ?_⟩, fun x => ?_⟩
          · first | omega | (simp [own_upd] at *; omega)
          · first | omega | (simp [own_upd] at *; omega)
          · first | omega | (simp [own_upd] at *; omega)
          · first | omega | (simp [own_upd] at *; omega)
          · simp [own_cnt, own_upd]; try omega
        exact own_retJ X65 hx Bd.notSynchronized e65 Bd.returns (hb hby d8_126) (⟨rfl, N65, f69, _, f67, f68, A65, hfin.1, hfin.2⟩) (by decide) (by decide)
    · --
      refine own_by (fun _ k => XS.ifNo X37.here hx rfl (hb hby d8_90) rfl ((if0 _ _).trans (flt (mt (lw_lt _ _).mp hc38)).1) k) ?_
      show own_Go _ _ _ _ (T37.setTop (mkF m 93 #[.val (.ref a1), .val (.long (f 0)), .second, .val (.long (f 4)), .second, .val (.int (0 : Int32)), .val (.int (1 : Int32))] []))
      refine own_by (fun _ k => XS.goto X37.here hx rfl (pc0 := 93) (pc' := 117) rfl (hb hby d8_93) (by decide) (by decide) k) ?_
      refine own_by (fun _ k => XS.aloadN X37.here hx rfl (hb hby d8_117) rfl rfl k) ?_
      show own_Go _ _ _ _ (T37.setTop (mkF m 118 #[.val (.ref a1), .val (.long (f 0)), .second, .val (.long (f 4)), .second, .val (.int (0 : Int32)), .val (.int (1 : Int32))] [(.ref a1)]))
      obtain ⟨T70, X70, e70, st70⟩ := getF X37 hx hZ hown (host := "") (Or.inl (hw _ (List.mem_of_getElem? (i := 20) rfl))) Via.refl e37 f7 (g := (mkF m 118 #[.val (.ref a1), .val (.long (f 0)), .second, .val (.long (f 4)), .second, .val (.int (0 : Int32)), .val (.int (1 : Int32))] [(.ref a1)])) rfl rfl (hb hby d8_118)
      refine own_by st70 ?_
      refine own_by (fun _ k => XS.iload X70.here hx rfl (hb hby d8_121) rfl k) ?_
      refine own_by (fun _ k => XS.lloadN X70.here hx rfl (hb hby d8_123) rfl k) ?_
      show own_Go _ _ _ _ (T70.setTop (mkF m 124 #[.val (.ref a1), .val (.long (f 0)), .second, .val (.long (f 4)), .second, .val (.int (0 : Int32)), .val (.int (1 : Int32))] [(.long (f 4)), (.int (0 : Int32)), (.ref b1)]))
      refine own_las X70 hx hZ e70 f8 0 (by decide) (by omega) (hb hby d8_124) ?_
      intro T71 h71 X71 e71 W71 A71
      have f72 := f6.wr W71
      have f73 := f7.other W71 (Or.inl hab)
      have f74 := f5.other W71 (Or.inl hab)
      have f75 := f9.wr W71 (Or.inl (List.mem_of_getElem? (i := 1) rfl))
      have N71 := Fr.snoc X71 N4 Pg2
      have Z71 := own_size_wr W71 Z4
      obtain ⟨fn71, hfn71⟩ : ∃ g : Nat → Int64, g = own_upd f 0 (f 4) := ⟨_, rfl⟩
      rw [← hfn71] at A71
      show own_Go _ _ _ _ (T71.setTop (mkF m 125 #[.val (.ref a1), .val (.long (f 0)), .second, .val (.long (f 4)), .second, .val (.int (0 : Int32)), .val (.int (1 : Int32))] []))
      refine own_by (fun _ k => XS.lloadN X71.here hx rfl (hb hby d8_125) rfl k) ?_
      show own_Go _ _ _ _ (T71.setTop (mkF m 126 #[.val (.ref a1), .val (.long (f 0)), .second, .val (.long (f 4)), .second, .val (.int (0 : Int32)), .val (.int (1 : Int32))] [(.long (f 0))]))
      have hfin : own_hp (fn71) 4 ∧ (∀ x, own_cnt f x 5 = own_one (f 0) x + own_cnt (fn71) x 4) := by
        simp only [hfn71]
        obtain ⟨H1, H2, H3, H4⟩ := HP
        have hc14' := hc14
        rw [Int64.lt_iff_toInt_lt] at hc14'
        have hc38' := hc38
        rw [Int64.lt_iff_toInt_lt] at hc38'
        refine ⟨⟨fun q => ?_, fun q => ?_, fun q => ?_, fun q => ?_⟩, fun x => ?_⟩
        · first | omega | (simp [own_upd] at *; omega)
        · first | omega | (simp [own_upd] at *; omega)
        · first | omega | (simp [own_upd] at *; omega)
        · first | omega | (simp [own_upd] at *; omega)
        · simp [own_cnt, own_upd]; try omega
      exact own_retJ X71 hx Bd.notSynchronized e71 Bd.returns (hb hby d8_126) (⟨rfl, N71, f75, _, f73, f74, A71, hfin.1, hfin.2⟩) (by decide) (by decide)
set_option maxRecDepth 65536 in
set_option maxHeartbeats 40000000 in
theorem rm9 (l : Launch) (Z : State) (a0 : Array Value) (hw : ∀ d ∈ tables_1, d.before a0 Z = true) (ws : List Jvm.Cond) (a1 : Addr)  (h0 : Heap) (n0 : Nat) (Z0 : n0 ≤ h0.size) (PF2 : Fld Z h0 a1 "com/example/libmakespan/libmakespan/planners/LongHeap" "size" "I" (.int (0 : Int32))) :
    MetFree l (⟨"com/example/libmakespan/libmakespan/planners/LongHeap", "isEmpty", "()Z"⟩ : MethodName) (head1 (Jvm.Cond.code (⟨"com/example/libmakespan/libmakespan/planners/LongHeap", "isEmpty", "()Z"⟩ : MethodName) prog_91_method_2_code 1 (some .boolean) :: ws) ({ frames := 0, cells := 0, slots := 0, locals := 0 } : Room)) (fun a U => a = #[(.ref a1)] ∧ Z.Warmed39 U.vm ∧ U.heap = h0) (fun _ _ _ _ _ => True) (fun _ U o U' => ∃ vv LL, o = .returned vv ∧ own_ap (fun v h L => v = some (.int 1) ∧ Fr n0 L ∧ h = h0) vv U'.heap LL ∧ FrameEnd U o U' LL 0 0) := by
  refine MetFree.of_bodySF (plainFor_of_name pn_9) hisR ?_
  intro p e s m args below meth c s₁ Bd hml0 hP hK
  obtain ⟨rfl, hZ, hh⟩ := hP
  have hx := Bd.exec
  have hby := Bd.bytes
  have hml : c.maxLocals = 1 := hml0
  have hown : s.vm.findClass "com/example/libmakespan/libmakespan/planners/LongHeap" = some m.cls := findClass_of_methodNamed Bd.named
  have hnm := (name_of_methodNamed Bd.named Bd.method).1
  have X0 : Stand p l e ({ frames := 0, cells := 0, slots := 0, locals := 0 } : Room) s m #[(.ref a1)] below meth c s₁ [] 0 0 := Stand.of_body Bd
  have e0 : s₁.heap = h0 := by rw [← hh, Bd.state]; rfl
  have N0 := Fr.nil n0
  show own_Go p.tables e below (own_Q s (fun v h L => v = some (.int 1) ∧ Fr n0 L ∧ h = h0) 0 0) (s₁.setTop (entryFrame m #[(.ref a1)] 1))
  rw [show entryFrame m #[(.ref a1)] 1 = mkF m 0 #[.val (.ref a1)] [] from by first | (simp [entryFrame, mkF, argsToLocals, Value.category]; done) | rfl]
  show own_Go _ _ _ _ (s₁.setTop (mkF m 0 #[.val (.ref a1)] []))
  refine own_by (fun _ k => XS.aloadN X0.here hx rfl (hb hby d9_0) rfl rfl k) ?_
  show own_Go _ _ _ _ (s₁.setTop (mkF m 1 #[.val (.ref a1)] [(.ref a1)]))
  obtain ⟨T1, X1, e1, st1⟩ := getF X0 hx hZ hown (host := "") (Or.inl (hw _ (List.mem_of_getElem? (i := 27) rfl))) Via.refl e0 PF2 (g := (mkF m 1 #[.val (.ref a1)] [(.ref a1)])) rfl rfl (hb hby d9_1)
  refine own_by st1 ?_
  show own_Go _ _ _ _ (T1.setTop (mkF m 4 #[.val (.ref a1)] [(.int (0 : Int32))]))
  refine own_by (fun _ k => XS.ifNo X1.here hx rfl (hb hby d9_4) rfl ((if0 _ _).trans (teq (by decide)).2) k) ?_
  refine own_by (fun _ k => XS.iconst X1.here hx rfl (hb hby d9_7) k) ?_
  show own_Go _ _ _ _ (T1.setTop (mkF m 8 #[.val (.ref a1)] [(.int (1 : Int32))]))
  refine own_by (fun _ k => XS.goto X1.here hx rfl (pc0 := 8) (pc' := 12) rfl (hb hby d9_8) (by decide) (by decide) k) ?_
  show own_Go _ _ _ _ (T1.setTop (mkF m 12 #[.val (.ref a1)] [(.int (1 : Int32))]))
  exact own_retN X1 hx Bd.notSynchronized e1 Bd.returns (by simp) (hb hby d9_12) (⟨rfl, N0, rfl⟩) (by decide) (by decide)
theorem own_cnt_pos (f : Nat → Int64) : ∀ k j, j < k → 0 < own_cnt f (f j) k
  | 0, j, h => by omega
  | k + 1, j, h => by
    rw [own_cnt]
    by_cases q : j = k
    · subst q; simp [own_one]
    · have := own_cnt_pos f k j (by omega); omega
theorem own_cnt_mem (f : Nat → Int64) (x : Int64) : ∀ k, 0 < own_cnt f x k → ∃ j, j < k ∧ f j = x
  | 0, h => by simp [own_cnt] at h
  | k + 1, h => by
    rw [own_cnt] at h
    by_cases q : f k = x
    · exact ⟨k, by omega, q⟩
    · simp [own_one, q] at h
      obtain ⟨j, h1, h2⟩ := own_cnt_mem f x k h
      exact ⟨j, by omega, h2⟩
theorem own_hd (f : Nat → Int64) (k P : Nat) (y : Int64) (ys : List Int64) (hk : 1 ≤ k) (hk5 : k ≤ 5) (HP : own_hp f k) (hs : own_sd (y :: ys)) (hc : ∀ x, own_cnt f x k + P * own_one 9223372036854775807 x = own_cl x (y :: ys)) : f 0 = y := by
  have hmin : ∀ j, j < k → (f 0).toInt ≤ (f j).toInt := by
    intro j hj
    obtain ⟨H1, H2, H3, H4⟩ := HP
    have hj' : j = 0 ∨ j = 1 ∨ j = 2 ∨ j = 3 ∨ j = 4 := by omega
    rcases hj' with rfl | rfl | rfl | rfl | rfl
    · exact Int.le_refl _
    · exact H1 hj
    · exact H2 hj
    · have := H1 (by omega); have := H3 hj; omega
    · have := H1 (by omega); have := H4 hj; omega
  have m1 : f 0 ∈ y :: ys := own_cl_mem (f 0) _ (by rw [← hc (f 0)]; have := own_cnt_pos f k 0 (by omega); omega)
  have a1 : y.toInt ≤ (f 0).toInt := by
    rcases List.mem_cons.mp m1 with q | q
    · rw [q]; exact Int.le_refl _
    · exact hs.1 _ q
  have a2 : (f 0).toInt ≤ y.toInt := by
    have h1 := hc y
    by_cases q : y = 9223372036854775807
    · have r := rng64 (f 0)
      have l : (9223372036854775807 : Int64).toInt = 9223372036854775807 := by decide
      rw [q, l]; omega
    · have e : own_one 9223372036854775807 y = 0 := by simp [own_one, Ne.symm q]
      have h2 : 0 < own_cnt f y k := by rw [e] at h1; simp [own_cl, own_one] at h1; omega
      obtain ⟨j, h3, h4⟩ := own_cnt_mem f y k h2
      rw [← h4]; exact hmin j h3
  exact Int64.toInt_inj.mp (by omega)
theorem own_next (f g : Nat → Int64) (k P : Nat) (y : Int64) (ys : List Int64) (he : f 0 = y) (hc : ∀ x, own_cnt f x (k + 1) + P * own_one 9223372036854775807 x = own_cl x (y :: ys)) (h : ∀ x, own_cnt f x (k + 1) = own_one (f 0) x + own_cnt g x k) : ∀ x, own_cnt g x k + P * own_one 9223372036854775807 x = own_cl x ys := by
  intro x
  have h1 := hc x
  have h2 := h x
  rw [he] at h2
  simp only [own_cl] at h1
  omega
theorem own_n5 (x v : Int32) (h : ((x &&& (2147483647 : Int32)) % (5 : Int32)) + (1 : Int32) = v) : v = 1 ∨ v = 2 ∨ v = 3 ∨ v = 4 ∨ v = 5 := by
  have c1 := c_and x 2147483647 (by decide)
  have c2 := c_iremV (x &&& (2147483647 : Int32)) 5
  have l1 : (5 : Int32).toInt = 5 := by decide
  have l2 : (1 : Int32).toInt = 1 := by decide
  rw [l1] at c2
  have c3 := c2.1 c1.1 (by decide)
  have c4 := c_iadd ((x &&& (2147483647 : Int32)) % (5 : Int32)) 1
  have r := rng32 v
  rw [h, l2] at c4
  have e : v.toInt = 1 ∨ v.toInt = 2 ∨ v.toInt = 3 ∨ v.toInt = 4 ∨ v.toInt = 5 := by omega
  rcases e with e | e | e | e | e
  · exact Or.inl (Int32.toInt_inj.mp (e.trans (by decide)))
  · exact Or.inr (Or.inl (Int32.toInt_inj.mp (e.trans (by decide))))
  · exact Or.inr (Or.inr (Or.inl (Int32.toInt_inj.mp (e.trans (by decide)))))
  · exact Or.inr (Or.inr (Or.inr (Or.inl (Int32.toInt_inj.mp (e.trans (by decide))))))
  · exact Or.inr (Or.inr (Or.inr (Or.inr (Int32.toInt_inj.mp (e.trans (by decide))))))
theorem own_c3 (x v : Int32) (h : x &&& (3 : Int32) = v) : 0 ≤ v.toInt ∧ v.toInt ≤ 3 := by
  have c1 := c_and x 3 (by decide)
  have l : (3 : Int32).toInt = 3 := by decide
  rw [h, l] at c1; exact c1
set_option maxRecDepth 65536 in
set_option maxHeartbeats 40000000 in
theorem rm0 (l : Launch) (Z : State) (a0 : Array Value) (hw : ∀ d ∈ tables_1, d.before a0 Z = true) (ws : List Jvm.Cond) (q1 : Int64) (q2 : Int64) (q3 : Int64) (q4 : Int64) (q5 : Int64) (p6 : Int32)  (h0 : Heap) (n0 : Nat) (Z0 : n0 ≤ h0.size) :
    MetFree l x (head1 (Jvm.Cond.code x code maxLocals ret :: ws) room_1) (fun a U => a = #[(.long q1), (.long q2), (.long q3), (.long q4), (.long q5), (.int p6)] ∧ Z.Warmed39 U.vm ∧ U.heap = h0) (fun _ _ _ _ _ => True) (fun _ U o U' => ∃ vv LL, o = .returned vv ∧ own_ap (fun v h L => v = some (.int 1) ∧ Fr n0 L) vv U'.heap LL ∧ FrameEnd U o U' LL 24 128) := by
  refine MetFree.of_bodySF (plainFor_of_name pn_0) hisR ?_
  intro p e s m args below meth c s₁ Bd hml0 hP hK
  obtain ⟨rfl, hZ, hh⟩ := hP
  have hx := Bd.exec
  have hby := Bd.bytes
  have hml : c.maxLocals = 16 := hml0
  have hown : s.vm.findClass "com/example/libmakespan/libmakespan/planners/LongHeapRemovePinLaw" = some m.cls := findClass_of_methodNamed Bd.named
  have hnm := (name_of_methodNamed Bd.named Bd.method).1
  have X0 : Stand p l e room_1 s m #[(.long q1), (.long q2), (.long q3), (.long q4), (.long q5), (.int p6)] below meth c s₁ [] 0 0 := Stand.of_body Bd
  have e0 : s₁.heap = h0 := by rw [← hh, Bd.state]; rfl
  have N0 := Fr.nil n0
  show own_Go p.tables e below (own_Q s (fun v h L => v = some (.int 1) ∧ Fr n0 L) 24 128) (s₁.setTop (entryFrame m #[(.long q1), (.long q2), (.long q3), (.long q4), (.long q5), (.int p6)] maxLocals))
  rw [show entryFrame m #[(.long q1), (.long q2), (.long q3), (.long q4), (.long q5), (.int p6)] maxLocals = mkF m 0 #[.val (.long q1), .second, .val (.long q2), .second, .val (.long q3), .second, .val (.long q4), .second, .val (.long q5), .second, .val (.int p6), .unset, .unset, .unset, .unset, .unset] [] from by first | (simp [entryFrame, mkF, argsToLocals, Value.category, maxLocals]; done) | rfl]
  show own_Go _ _ _ _ (s₁.setTop (mkF m 0 #[.val (.long q1), .second, .val (.long q2), .second, .val (.long q3), .second, .val (.long q4), .second, .val (.long q5), .second, .val (.int p6), .unset, .unset, .unset, .unset, .unset] []))
  refine own_by (fun _ k => XS.iload X0.here hx rfl (hb hby at_0) rfl k) ?_
  show own_Go _ _ _ _ (s₁.setTop (mkF m 2 #[.val (.long q1), .second, .val (.long q2), .second, .val (.long q3), .second, .val (.long q4), .second, .val (.long q5), .second, .val (.int p6), .unset, .unset, .unset, .unset, .unset] [(.int p6)]))
  refine own_by (fun _ k => X0.ldcInt hx hown (mvT hZ (hw _ (List.mem_of_getElem? (i := 0) rfl))) (g := (mkF m 2 #[.val (.long q1), .second, .val (.long q2), .second, .val (.long q3), .second, .val (.long q4), .second, .val (.long q5), .second, .val (.int p6), .unset, .unset, .unset, .unset, .unset] [(.int p6)])) rfl (hb hby at_2) _ k) ?_
  show own_Go _ _ _ _ (s₁.setTop (mkF m 4 #[.val (.long q1), .second, .val (.long q2), .second, .val (.long q3), .second, .val (.long q4), .second, .val (.long q5), .second, .val (.int p6), .unset, .unset, .unset, .unset, .unset] [(.int (2147483647 : Int32)), (.int p6)]))
  refine own_by (fun _ k => XS.iand X0.here hx rfl (hb hby at_4) rfl k) ?_
  refine own_by (fun _ k => XS.iconst X0.here hx rfl (hb hby at_5) k) ?_
  show own_Go _ _ _ _ (s₁.setTop (mkF m 6 #[.val (.long q1), .second, .val (.long q2), .second, .val (.long q3), .second, .val (.long q4), .second, .val (.long q5), .second, .val (.int p6), .unset, .unset, .unset, .unset, .unset] [(.int (5 : Int32)), (.int (p6 &&& (2147483647 : Int32)))]))
  refine own_by (fun _ k => iremM X0 hx rfl (hb hby at_6) rfl (by decide) k) ?_
  refine own_by (fun _ k => XS.iconst X0.here hx rfl (hb hby at_7) k) ?_
  show own_Go _ _ _ _ (s₁.setTop (mkF m 8 #[.val (.long q1), .second, .val (.long q2), .second, .val (.long q3), .second, .val (.long q4), .second, .val (.long q5), .second, .val (.int p6), .unset, .unset, .unset, .unset, .unset] [(.int (1 : Int32)), (.int ((p6 &&& (2147483647 : Int32)) % (5 : Int32)))]))
  refine own_by (fun _ k => XS.iadd X0.here hx rfl (hb hby at_8) rfl k) ?_
  show own_Go _ _ _ _ (s₁.setTop (mkF m 9 #[.val (.long q1), .second, .val (.long q2), .second, .val (.long q3), .second, .val (.long q4), .second, .val (.long q5), .second, .val (.int p6), .unset, .unset, .unset, .unset, .unset] [(.int (((p6 &&& (2147483647 : Int32)) % (5 : Int32)) + (1 : Int32)))]))
  obtain ⟨v11_1, hv11_1⟩ : ∃ z_ : Int32, (((p6 &&& (2147483647 : Int32)) % (5 : Int32)) + (1 : Int32)) = z_ := ⟨_, rfl⟩
  refine own_gen hv11_1 (fun z_ => s₁.setTop (mkF m 9 #[.val (.long q1), .second, .val (.long q2), .second, .val (.long q3), .second, .val (.long q4), .second, .val (.long q5), .second, .val (.int p6), .unset, .unset, .unset, .unset, .unset] [(.int z_)])) ?_
  refine own_by (fun _ k => XS.istore X0.here hx rfl (hb hby at_9) rfl (l' := #[.val (.long q1), .second, .val (.long q2), .second, .val (.long q3), .second, .val (.long q4), .second, .val (.long q5), .second, .val (.int p6), .val (.int v11_1), .unset, .unset, .unset, .unset]) rfl k) ?_
  refine own_by (fun _ k => XS.iload X0.here hx rfl (hb hby at_11) rfl k) ?_
  refine own_by (fun _ k => XS.iconst X0.here hx rfl (hb hby at_13) k) ?_
  show own_Go _ _ _ _ (s₁.setTop (mkF m 14 #[.val (.long q1), .second, .val (.long q2), .second, .val (.long q3), .second, .val (.long q4), .second, .val (.long q5), .second, .val (.int p6), .val (.int v11_1), .unset, .unset, .unset, .unset] [(.int (3 : Int32)), (.int p6)]))
  refine own_by (fun _ k => XS.iushr X0.here hx rfl (hb hby at_14) rfl k) ?_
  refine own_by (fun _ k => XS.iconst X0.here hx rfl (hb hby at_15) k) ?_
  show own_Go _ _ _ _ (s₁.setTop (mkF m 16 #[.val (.long q1), .second, .val (.long q2), .second, .val (.long q3), .second, .val (.long q4), .second, .val (.long q5), .second, .val (.int p6), .val (.int v11_1), .unset, .unset, .unset, .unset] [(.int (3 : Int32)), (.int ((p6.toUInt32 >>> ((3 : Int32) &&& 31).toUInt32).toInt32))]))
  refine own_by (fun _ k => XS.iand X0.here hx rfl (hb hby at_16) rfl k) ?_
  show own_Go _ _ _ _ (s₁.setTop (mkF m 17 #[.val (.long q1), .second, .val (.long q2), .second, .val (.long q3), .second, .val (.long q4), .second, .val (.long q5), .second, .val (.int p6), .val (.int v11_1), .unset, .unset, .unset, .unset] [(.int (((p6.toUInt32 >>> ((3 : Int32) &&& 31).toUInt32).toInt32) &&& (3 : Int32)))]))
  obtain ⟨v12_2, hv12_2⟩ : ∃ z_ : Int32, (((p6.toUInt32 >>> ((3 : Int32) &&& 31).toUInt32).toInt32) &&& (3 : Int32)) = z_ := ⟨_, rfl⟩
  refine own_gen hv12_2 (fun z_ => s₁.setTop (mkF m 17 #[.val (.long q1), .second, .val (.long q2), .second, .val (.long q3), .second, .val (.long q4), .second, .val (.long q5), .second, .val (.int p6), .val (.int v11_1), .unset, .unset, .unset, .unset] [(.int z_)])) ?_
  refine own_by (fun _ k => XS.istore X0.here hx rfl (hb hby at_17) rfl (l' := #[.val (.long q1), .second, .val (.long q2), .second, .val (.long q3), .second, .val (.long q4), .second, .val (.long q5), .second, .val (.int p6), .val (.int v11_1), .val (.int v12_2), .unset, .unset, .unset]) rfl k) ?_
  have hp12 := own_c3 _ _ hv12_2
  rcases own_n5 _ _ hv11_1 with rfl | rfl | rfl | rfl | rfl
  · --
    refine own_by (fun _ k => XS.iconst X0.here hx rfl (hb hby at_19) k) ?_
    show own_Go _ _ _ _ (s₁.setTop (mkF m 20 #[.val (.long q1), .second, .val (.long q2), .second, .val (.long q3), .second, .val (.long q4), .second, .val (.long q5), .second, .val (.int p6), .val (.int (1 : Int32)), .val (.int v12_2), .unset, .unset, .unset] [(.int (5 : Int32))]))
    refine own_newP X0 hx hZ (hw _ (List.mem_of_getElem? (i := 1) rfl)) e0 5 (by decide) 5 (by decide) (by decide) (by decide) (by decide) (hb hby at_20) ?_
    intro T3 h3 X3 e3 E3 A3
    show own_Go _ _ _ _ (T3.setTop (mkF m 22 #[.val (.long q1), .second, .val (.long q2), .second, .val (.long q3), .second, .val (.long q4), .second, .val (.long q5), .second, .val (.int p6), .val (.int (1 : Int32)), .val (.int v12_2), .unset, .unset, .unset] [.ref h0.size]))
    obtain ⟨b3, g3⟩ : ∃ z, z = h0.size := ⟨_, rfl⟩
    rw [← g3] at A3
    refine own_gen g3.symm (fun z_ => T3.setTop (mkF m 22 #[.val (.long q1), .second, .val (.long q2), .second, .val (.long q3), .second, .val (.long q4), .second, .val (.long q5), .second, .val (.int p6), .val (.int (1 : Int32)), .val (.int v12_2), .unset, .unset, .unset] [.ref z_])) ?_
    have ge3 : n0 ≤ b3 := Nat.le_trans Z0 (Nat.le_of_eq g3.symm)
    have Z3 := Nat.le_trans Z0 E3.1
    have f4 : own_AJ Z h3 b3 5 (fun _ => 0) := A3
    show own_Go _ _ _ _ (T3.setTop (mkF m 22 #[.val (.long q1), .second, .val (.long q2), .second, .val (.long q3), .second, .val (.long q4), .second, .val (.long q5), .second, .val (.int p6), .val (.int (1 : Int32)), .val (.int v12_2), .unset, .unset, .unset] [(.ref b3)]))
    refine own_by (fun _ k => XS.astore X3.here hx rfl (hb hby at_22) rfl rfl (l' := #[.val (.long q1), .second, .val (.long q2), .second, .val (.long q3), .second, .val (.long q4), .second, .val (.long q5), .second, .val (.int p6), .val (.int (1 : Int32)), .val (.int v12_2), .val (.ref b3), .unset, .unset]) rfl k) ?_
    refine own_by (fun _ k => XS.aload X3.here hx rfl (hb hby at_24) rfl rfl k) ?_
    refine own_by (fun _ k => XS.iconst X3.here hx rfl (hb hby at_26) k) ?_
    show own_Go _ _ _ _ (T3.setTop (mkF m 27 #[.val (.long q1), .second, .val (.long q2), .second, .val (.long q3), .second, .val (.long q4), .second, .val (.long q5), .second, .val (.int p6), .val (.int (1 : Int32)), .val (.int v12_2), .val (.ref b3), .unset, .unset] [(.int (0 : Int32)), (.ref b3)]))
    refine own_by (fun _ k => XS.lloadN X3.here hx rfl (hb hby at_27) rfl k) ?_
    show own_Go _ _ _ _ (T3.setTop (mkF m 28 #[.val (.long q1), .second, .val (.long q2), .second, .val (.long q3), .second, .val (.long q4), .second, .val (.long q5), .second, .val (.int p6), .val (.int (1 : Int32)), .val (.int v12_2), .val (.ref b3), .unset, .unset] [(.long q1), (.int (0 : Int32)), (.ref b3)]))
    refine own_las X3 hx hZ e3 f4 0 (by decide) (by decide) (hb hby at_28) ?_
    intro T5 h5 X5 e5 W5 A5
    have N5 := Fr.snoc X5 N0 ge3
    have Z5 := own_size_wr W5 Z3
    obtain ⟨fn5, hfn5⟩ : ∃ g : Nat → Int64, g = own_upd (fun _ => 0) 0 q1 := ⟨_, rfl⟩
    rw [← hfn5] at A5
    show own_Go _ _ _ _ (T5.setTop (mkF m 29 #[.val (.long q1), .second, .val (.long q2), .second, .val (.long q3), .second, .val (.long q4), .second, .val (.long q5), .second, .val (.int p6), .val (.int (1 : Int32)), .val (.int v12_2), .val (.ref b3), .unset, .unset] []))
    refine own_by (fun _ k => XS.aload X5.here hx rfl (hb hby at_29) rfl rfl k) ?_
    refine own_by (fun _ k => XS.iconst X5.here hx rfl (hb hby at_31) k) ?_
    refine own_by (fun _ k => XS.iload X5.here hx rfl (hb hby at_32) rfl k) ?_
    show own_Go _ _ _ _ (T5.setTop (mkF m 34 #[.val (.long q1), .second, .val (.long q2), .second, .val (.long q3), .second, .val (.long q4), .second, .val (.long q5), .second, .val (.int p6), .val (.int (1 : Int32)), .val (.int v12_2), .val (.ref b3), .unset, .unset] [(.int (1 : Int32)), (.int (1 : Int32)), (.ref b3)]))
    refine own_by (fun _ k => XS.iconst X5.here hx rfl (hb hby at_34) k) ?_
    show own_Go _ _ _ _ (T5.setTop (mkF m 35 #[.val (.long q1), .second, .val (.long q2), .second, .val (.long q3), .second, .val (.long q4), .second, .val (.long q5), .second, .val (.int p6), .val (.int (1 : Int32)), .val (.int v12_2), .val (.ref b3), .unset, .unset] [(.int (1 : Int32)), (.int (1 : Int32)), (.int (1 : Int32)), (.ref b3)]))
    refine own_by (fun _ k => XS.icmpYes X5.here hx rfl (pc0 := 35) (pc' := 42) rfl (hb hby at_35) rfl (flt (by decide)).2.2.2 (by decide) (by decide) k) ?_
    show own_Go _ _ _ _ (T5.setTop (mkF m 42 #[.val (.long q1), .second, .val (.long q2), .second, .val (.long q3), .second, .val (.long q4), .second, .val (.long q5), .second, .val (.int p6), .val (.int (1 : Int32)), .val (.int v12_2), .val (.ref b3), .unset, .unset] [(.int (1 : Int32)), (.ref b3)]))
    refine own_by (fun _ k => X5.ldc2Long hx hown (mvT hZ (hw _ (List.mem_of_getElem? (i := 2) rfl))) (g := (mkF m 42 #[.val (.long q1), .second, .val (.long q2), .second, .val (.long q3), .second, .val (.long q4), .second, .val (.long q5), .second, .val (.int p6), .val (.int (1 : Int32)), .val (.int v12_2), .val (.ref b3), .unset, .unset] [(.int (1 : Int32)), (.ref b3)])) rfl (hb hby at_42) _ k) ?_
    show own_Go _ _ _ _ (T5.setTop (mkF m 45 #[.val (.long q1), .second, .val (.long q2), .second, .val (.long q3), .second, .val (.long q4), .second, .val (.long q5), .second, .val (.int p6), .val (.int (1 : Int32)), .val (.int v12_2), .val (.ref b3), .unset, .unset] [(.long (9223372036854775807 : Int64)), (.int (1 : Int32)), (.ref b3)]))
    refine own_las X5 hx hZ e5 A5 1 (by decide) (by decide) (hb hby at_45) ?_
    intro T6 h6 X6 e6 W6 A6
    have N6 := Fr.snoc X6 N5 ge3
    have Z6 := own_size_wr W6 Z5
    obtain ⟨fn6, hfn6⟩ : ∃ g : Nat → Int64, g = own_upd fn5 1 (9223372036854775807 : Int64) := ⟨_, rfl⟩
    rw [← hfn6] at A6
    show own_Go _ _ _ _ (T6.setTop (mkF m 46 #[.val (.long q1), .second, .val (.long q2), .second, .val (.long q3), .second, .val (.long q4), .second, .val (.long q5), .second, .val (.int p6), .val (.int (1 : Int32)), .val (.int v12_2), .val (.ref b3), .unset, .unset] []))
    refine own_by (fun _ k => XS.aload X6.here hx rfl (hb hby at_46) rfl rfl k) ?_
    refine own_by (fun _ k => XS.iconst X6.here hx rfl (hb hby at_48) k) ?_
    refine own_by (fun _ k => XS.iload X6.here hx rfl (hb hby at_49) rfl k) ?_
    show own_Go _ _ _ _ (T6.setTop (mkF m 51 #[.val (.long q1), .second, .val (.long q2), .second, .val (.long q3), .second, .val (.long q4), .second, .val (.long q5), .second, .val (.int p6), .val (.int (1 : Int32)), .val (.int v12_2), .val (.ref b3), .unset, .unset] [(.int (1 : Int32)), (.int (2 : Int32)), (.ref b3)]))
    refine own_by (fun _ k => XS.iconst X6.here hx rfl (hb hby at_51) k) ?_
    show own_Go _ _ _ _ (T6.setTop (mkF m 52 #[.val (.long q1), .second, .val (.long q2), .second, .val (.long q3), .second, .val (.long q4), .second, .val (.long q5), .second, .val (.int p6), .val (.int (1 : Int32)), .val (.int v12_2), .val (.ref b3), .unset, .unset] [(.int (2 : Int32)), (.int (1 : Int32)), (.int (2 : Int32)), (.ref b3)]))
    refine own_by (fun _ k => XS.icmpYes X6.here hx rfl (pc0 := 52) (pc' := 60) rfl (hb hby at_52) rfl (flt (by decide)).2.2.2 (by decide) (by decide) k) ?_
    show own_Go _ _ _ _ (T6.setTop (mkF m 60 #[.val (.long q1), .second, .val (.long q2), .second, .val (.long q3), .second, .val (.long q4), .second, .val (.long q5), .second, .val (.int p6), .val (.int (1 : Int32)), .val (.int v12_2), .val (.ref b3), .unset, .unset] [(.int (2 : Int32)), (.ref b3)]))
    refine own_by (fun _ k => X6.ldc2Long hx hown (mvT hZ (hw _ (List.mem_of_getElem? (i := 2) rfl))) (g := (mkF m 60 #[.val (.long q1), .second, .val (.long q2), .second, .val (.long q3), .second, .val (.long q4), .second, .val (.long q5), .second, .val (.int p6), .val (.int (1 : Int32)), .val (.int v12_2), .val (.ref b3), .unset, .unset] [(.int (2 : Int32)), (.ref b3)])) rfl (hb hby at_60) _ k) ?_
    show own_Go _ _ _ _ (T6.setTop (mkF m 63 #[.val (.long q1), .second, .val (.long q2), .second, .val (.long q3), .second, .val (.long q4), .second, .val (.long q5), .second, .val (.int p6), .val (.int (1 : Int32)), .val (.int v12_2), .val (.ref b3), .unset, .unset] [(.long (9223372036854775807 : Int64)), (.int (2 : Int32)), (.ref b3)]))
    refine own_las X6 hx hZ e6 A6 2 (by decide) (by decide) (hb hby at_63) ?_
    intro T7 h7 X7 e7 W7 A7
    have N7 := Fr.snoc X7 N6 ge3
    have Z7 := own_size_wr W7 Z6
    obtain ⟨fn7, hfn7⟩ : ∃ g : Nat → Int64, g = own_upd fn6 2 (9223372036854775807 : Int64) := ⟨_, rfl⟩
    rw [← hfn7] at A7
    show own_Go _ _ _ _ (T7.setTop (mkF m 64 #[.val (.long q1), .second, .val (.long q2), .second, .val (.long q3), .second, .val (.long q4), .second, .val (.long q5), .second, .val (.int p6), .val (.int (1 : Int32)), .val (.int v12_2), .val (.ref b3), .unset, .unset] []))
    refine own_by (fun _ k => XS.aload X7.here hx rfl (hb hby at_64) rfl rfl k) ?_
    refine own_by (fun _ k => XS.iconst X7.here hx rfl (hb hby at_66) k) ?_
    refine own_by (fun _ k => XS.iload X7.here hx rfl (hb hby at_67) rfl k) ?_
    show own_Go _ _ _ _ (T7.setTop (mkF m 69 #[.val (.long q1), .second, .val (.long q2), .second, .val (.long q3), .second, .val (.long q4), .second, .val (.long q5), .second, .val (.int p6), .val (.int (1 : Int32)), .val (.int v12_2), .val (.ref b3), .unset, .unset] [(.int (1 : Int32)), (.int (3 : Int32)), (.ref b3)]))
    refine own_by (fun _ k => XS.iconst X7.here hx rfl (hb hby at_69) k) ?_
    show own_Go _ _ _ _ (T7.setTop (mkF m 70 #[.val (.long q1), .second, .val (.long q2), .second, .val (.long q3), .second, .val (.long q4), .second, .val (.long q5), .second, .val (.int p6), .val (.int (1 : Int32)), .val (.int v12_2), .val (.ref b3), .unset, .unset] [(.int (3 : Int32)), (.int (1 : Int32)), (.int (3 : Int32)), (.ref b3)]))
    refine own_by (fun _ k => XS.icmpYes X7.here hx rfl (pc0 := 70) (pc' := 78) rfl (hb hby at_70) rfl (flt (by decide)).2.2.2 (by decide) (by decide) k) ?_
    show own_Go _ _ _ _ (T7.setTop (mkF m 78 #[.val (.long q1), .second, .val (.long q2), .second, .val (.long q3), .second, .val (.long q4), .second, .val (.long q5), .second, .val (.int p6), .val (.int (1 : Int32)), .val (.int v12_2), .val (.ref b3), .unset, .unset] [(.int (3 : Int32)), (.ref b3)]))
    refine own_by (fun _ k => X7.ldc2Long hx hown (mvT hZ (hw _ (List.mem_of_getElem? (i := 2) rfl))) (g := (mkF m 78 #[.val (.long q1), .second, .val (.long q2), .second, .val (.long q3), .second, .val (.long q4), .second, .val (.long q5), .second, .val (.int p6), .val (.int (1 : Int32)), .val (.int v12_2), .val (.ref b3), .unset, .unset] [(.int (3 : Int32)), (.ref b3)])) rfl (hb hby at_78) _ k) ?_
    show own_Go _ _ _ _ (T7.setTop (mkF m 81 #[.val (.long q1), .second, .val (.long q2), .second, .val (.long q3), .second, .val (.long q4), .second, .val (.long q5), .second, .val (.int p6), .val (.int (1 : Int32)), .val (.int v12_2), .val (.ref b3), .unset, .unset] [(.long (9223372036854775807 : Int64)), (.int (3 : Int32)), (.ref b3)]))
    refine own_las X7 hx hZ e7 A7 3 (by decide) (by decide) (hb hby at_81) ?_
    intro T8 h8 X8 e8 W8 A8
    have N8 := Fr.snoc X8 N7 ge3
    have Z8 := own_size_wr W8 Z7
    obtain ⟨fn8, hfn8⟩ : ∃ g : Nat → Int64, g = own_upd fn7 3 (9223372036854775807 : Int64) := ⟨_, rfl⟩
    rw [← hfn8] at A8
    show own_Go _ _ _ _ (T8.setTop (mkF m 82 #[.val (.long q1), .second, .val (.long q2), .second, .val (.long q3), .second, .val (.long q4), .second, .val (.long q5), .second, .val (.int p6), .val (.int (1 : Int32)), .val (.int v12_2), .val (.ref b3), .unset, .unset] []))
    refine own_by (fun _ k => XS.aload X8.here hx rfl (hb hby at_82) rfl rfl k) ?_
    refine own_by (fun _ k => XS.iconst X8.here hx rfl (hb hby at_84) k) ?_
    refine own_by (fun _ k => XS.iload X8.here hx rfl (hb hby at_85) rfl k) ?_
    show own_Go _ _ _ _ (T8.setTop (mkF m 87 #[.val (.long q1), .second, .val (.long q2), .second, .val (.long q3), .second, .val (.long q4), .second, .val (.long q5), .second, .val (.int p6), .val (.int (1 : Int32)), .val (.int v12_2), .val (.ref b3), .unset, .unset] [(.int (1 : Int32)), (.int (4 : Int32)), (.ref b3)]))
    refine own_by (fun _ k => XS.iconst X8.here hx rfl (hb hby at_87) k) ?_
    show own_Go _ _ _ _ (T8.setTop (mkF m 88 #[.val (.long q1), .second, .val (.long q2), .second, .val (.long q3), .second, .val (.long q4), .second, .val (.long q5), .second, .val (.int p6), .val (.int (1 : Int32)), .val (.int v12_2), .val (.ref b3), .unset, .unset] [(.int (4 : Int32)), (.int (1 : Int32)), (.int (4 : Int32)), (.ref b3)]))
    refine own_by (fun _ k => XS.icmpYes X8.here hx rfl (pc0 := 88) (pc' := 96) rfl (hb hby at_88) rfl (flt (by decide)).2.2.2 (by decide) (by decide) k) ?_
    show own_Go _ _ _ _ (T8.setTop (mkF m 96 #[.val (.long q1), .second, .val (.long q2), .second, .val (.long q3), .second, .val (.long q4), .second, .val (.long q5), .second, .val (.int p6), .val (.int (1 : Int32)), .val (.int v12_2), .val (.ref b3), .unset, .unset] [(.int (4 : Int32)), (.ref b3)]))
    refine own_by (fun _ k => X8.ldc2Long hx hown (mvT hZ (hw _ (List.mem_of_getElem? (i := 2) rfl))) (g := (mkF m 96 #[.val (.long q1), .second, .val (.long q2), .second, .val (.long q3), .second, .val (.long q4), .second, .val (.long q5), .second, .val (.int p6), .val (.int (1 : Int32)), .val (.int v12_2), .val (.ref b3), .unset, .unset] [(.int (4 : Int32)), (.ref b3)])) rfl (hb hby at_96) _ k) ?_
    show own_Go _ _ _ _ (T8.setTop (mkF m 99 #[.val (.long q1), .second, .val (.long q2), .second, .val (.long q3), .second, .val (.long q4), .second, .val (.long q5), .second, .val (.int p6), .val (.int (1 : Int32)), .val (.int v12_2), .val (.ref b3), .unset, .unset] [(.long (9223372036854775807 : Int64)), (.int (4 : Int32)), (.ref b3)]))
    refine own_las X8 hx hZ e8 A8 4 (by decide) (by decide) (hb hby at_99) ?_
    intro T9 h9 X9 e9 W9 A9
    have N9 := Fr.snoc X9 N8 ge3
    have Z9 := own_size_wr W9 Z8
    obtain ⟨fn9, hfn9⟩ : ∃ g : Nat → Int64, g = own_upd fn8 4 (9223372036854775807 : Int64) := ⟨_, rfl⟩
    rw [← hfn9] at A9
    obtain ⟨r0, hr0⟩ : ∃ g : Nat → Int64, g = fn9 := ⟨_, rfl⟩
    rw [← hr0] at A9
    have cr0 : ∀ x, own_cnt r0 x 5 = own_one q1 x + own_one (9223372036854775807 : Int64) x + own_one (9223372036854775807 : Int64) x + own_one (9223372036854775807 : Int64) x + own_one (9223372036854775807 : Int64) x := fun x => by rw [hr0]; simp [own_cnt, own_upd, hfn9, hfn8, hfn7, hfn6, hfn5]
    show own_Go _ _ _ _ (T9.setTop (mkF m 100 #[.val (.long q1), .second, .val (.long q2), .second, .val (.long q3), .second, .val (.long q4), .second, .val (.long q5), .second, .val (.int p6), .val (.int (1 : Int32)), .val (.int v12_2), .val (.ref b3), .unset, .unset] []))
    refine own_by (fun _ k => XS.aload X9.here hx rfl (hb hby at_100) rfl rfl k) ?_
    refine own_by (fun _ k => XS.iconst X9.here hx rfl (hb hby at_102) k) ?_
    refine own_by (fun _ k => XS.iconst X9.here hx rfl (hb hby at_103) k) ?_
    show own_Go _ _ _ _ (T9.setTop (mkF m 104 #[.val (.long q1), .second, .val (.long q2), .second, .val (.long q3), .second, .val (.long q4), .second, .val (.long q5), .second, .val (.int p6), .val (.int (1 : Int32)), .val (.int v12_2), .val (.ref b3), .unset, .unset] [(.int (1 : Int32)), (.int (0 : Int32)), (.ref b3)]))
    refine own_callS X9 hx hZ hown (hw _ (List.mem_of_getElem? (i := 3) rfl)) (hw _ (List.mem_of_getElem? (i := 4) rfl)) (hw _ (List.mem_of_getElem? (i := 5) rfl)) (hw _ (List.mem_of_getElem? (i := 6) rfl)) (by decide) (rm1 l Z a0 hw [] b3 (0 : Int32) (1 : Int32) 0 1 r0 h9 n0 Z9 A9 (by decide) (by decide) (by decide) (by decide) (by decide) ge3) e9 (by rw [hml]; rfl) [(.ref b3), (.int (0 : Int32)), (.int (1 : Int32))] [] rfl (lenOf own_pd0 rfl) rfl 0 (Nat.le_of_eq rfl) (by decide) (by decide) (Nat.le_of_ble_eq_true rfl) (Nat.le_of_ble_eq_true rfl) (hb hby at_104) ?_
    intro T10 Lc10 v10 X10 hQ10
    obtain ⟨h10, e10⟩ : ∃ h, T10.heap = h := ⟨_, rfl⟩
    rw [e10] at hQ10
    obtain ⟨rfl, N10q, K10, A10⟩ := hQ10
    have N10 := Fr.app N9 N10q
    have Z10 := Nat.le_trans Z9 K10.1
    obtain ⟨r10, hr10⟩ : ∃ g : Nat → Int64, g = own_cs r0 0 1 := ⟨_, rfl⟩
    rw [← hr10] at A10
    have cr10 : ∀ x, own_cnt r10 x 5 = own_one q1 x + own_one (9223372036854775807 : Int64) x + own_one (9223372036854775807 : Int64) x + own_one (9223372036854775807 : Int64) x + own_one (9223372036854775807 : Int64) x := fun x => by rw [hr10]; exact (own_cs_cnt r0 0 (by decide) x).trans (cr0 x)
    have dm10_1 : own_dom r10 1 := by rw [hr10]; exact own_dom_step r0 0 (own_dom0 r0)
    show own_Go _ _ _ _ (T10.setTop (mkF m 107 #[.val (.long q1), .second, .val (.long q2), .second, .val (.long q3), .second, .val (.long q4), .second, .val (.long q5), .second, .val (.int p6), .val (.int (1 : Int32)), .val (.int v12_2), .val (.ref b3), .unset, .unset] []))
    refine own_by (fun _ k => XS.aload X10.here hx rfl (hb hby at_107) rfl rfl k) ?_
    refine own_by (fun _ k => XS.iconst X10.here hx rfl (hb hby at_109) k) ?_
    refine own_by (fun _ k => XS.iconst X10.here hx rfl (hb hby at_110) k) ?_
    show own_Go _ _ _ _ (T10.setTop (mkF m 111 #[.val (.long q1), .second, .val (.long q2), .second, .val (.long q3), .second, .val (.long q4), .second, .val (.long q5), .second, .val (.int p6), .val (.int (1 : Int32)), .val (.int v12_2), .val (.ref b3), .unset, .unset] [(.int (2 : Int32)), (.int (1 : Int32)), (.ref b3)]))
    refine own_callS X10 hx hZ hown (hw _ (List.mem_of_getElem? (i := 3) rfl)) (hw _ (List.mem_of_getElem? (i := 4) rfl)) (hw _ (List.mem_of_getElem? (i := 5) rfl)) (hw _ (List.mem_of_getElem? (i := 6) rfl)) (by decide) (rm1 l Z a0 hw [] b3 (1 : Int32) (2 : Int32) 1 2 r10 h10 n0 Z10 A10 (by decide) (by decide) (by decide) (by decide) (by decide) ge3) e10 (by rw [hml]; rfl) [(.ref b3), (.int (1 : Int32)), (.int (2 : Int32))] [] rfl (lenOf own_pd0 rfl) rfl 0 (Nat.le_of_eq rfl) (by decide) (by decide) (Nat.le_of_ble_eq_true rfl) (Nat.le_of_ble_eq_true rfl) (hb hby at_111) ?_
    intro T12 Lc12 v12 X12 hQ12
    obtain ⟨h12, e12⟩ : ∃ h, T12.heap = h := ⟨_, rfl⟩
    rw [e12] at hQ12
    obtain ⟨rfl, N12q, K12, A12⟩ := hQ12
    have N12 := Fr.app N10 N12q
    have Z12 := Nat.le_trans Z10 K12.1
    obtain ⟨r12, hr12⟩ : ∃ g : Nat → Int64, g = own_cs r10 1 2 := ⟨_, rfl⟩
    rw [← hr12] at A12
    have cr12 : ∀ x, own_cnt r12 x 5 = own_one q1 x + own_one (9223372036854775807 : Int64) x + own_one (9223372036854775807 : Int64) x + own_one (9223372036854775807 : Int64) x + own_one (9223372036854775807 : Int64) x := fun x => by rw [hr12]; exact (own_cs_cnt r10 1 (by decide) x).trans (cr10 x)
    have dm12_2 : own_dom r12 2 := by rw [hr12]; exact own_dom_step r10 1 dm10_1
    show own_Go _ _ _ _ (T12.setTop (mkF m 114 #[.val (.long q1), .second, .val (.long q2), .second, .val (.long q3), .second, .val (.long q4), .second, .val (.long q5), .second, .val (.int p6), .val (.int (1 : Int32)), .val (.int v12_2), .val (.ref b3), .unset, .unset] []))
    refine own_by (fun _ k => XS.aload X12.here hx rfl (hb hby at_114) rfl rfl k) ?_
    refine own_by (fun _ k => XS.iconst X12.here hx rfl (hb hby at_116) k) ?_
    refine own_by (fun _ k => XS.iconst X12.here hx rfl (hb hby at_117) k) ?_
    show own_Go _ _ _ _ (T12.setTop (mkF m 118 #[.val (.long q1), .second, .val (.long q2), .second, .val (.long q3), .second, .val (.long q4), .second, .val (.long q5), .second, .val (.int p6), .val (.int (1 : Int32)), .val (.int v12_2), .val (.ref b3), .unset, .unset] [(.int (3 : Int32)), (.int (2 : Int32)), (.ref b3)]))
    refine own_callS X12 hx hZ hown (hw _ (List.mem_of_getElem? (i := 3) rfl)) (hw _ (List.mem_of_getElem? (i := 4) rfl)) (hw _ (List.mem_of_getElem? (i := 5) rfl)) (hw _ (List.mem_of_getElem? (i := 6) rfl)) (by decide) (rm1 l Z a0 hw [] b3 (2 : Int32) (3 : Int32) 2 3 r12 h12 n0 Z12 A12 (by decide) (by decide) (by decide) (by decide) (by decide) ge3) e12 (by rw [hml]; rfl) [(.ref b3), (.int (2 : Int32)), (.int (3 : Int32))] [] rfl (lenOf own_pd0 rfl) rfl 0 (Nat.le_of_eq rfl) (by decide) (by decide) (Nat.le_of_ble_eq_true rfl) (Nat.le_of_ble_eq_true rfl) (hb hby at_118) ?_
    intro T14 Lc14 v14 X14 hQ14
    obtain ⟨h14, e14⟩ : ∃ h, T14.heap = h := ⟨_, rfl⟩
    rw [e14] at hQ14
    obtain ⟨rfl, N14q, K14, A14⟩ := hQ14
    have N14 := Fr.app N12 N14q
    have Z14 := Nat.le_trans Z12 K14.1
    obtain ⟨r14, hr14⟩ : ∃ g : Nat → Int64, g = own_cs r12 2 3 := ⟨_, rfl⟩
    rw [← hr14] at A14
    have cr14 : ∀ x, own_cnt r14 x 5 = own_one q1 x + own_one (9223372036854775807 : Int64) x + own_one (9223372036854775807 : Int64) x + own_one (9223372036854775807 : Int64) x + own_one (9223372036854775807 : Int64) x := fun x => by rw [hr14]; exact (own_cs_cnt r12 2 (by decide) x).trans (cr12 x)
    have dm14_3 : own_dom r14 3 := by rw [hr14]; exact own_dom_step r12 2 dm12_2
    show own_Go _ _ _ _ (T14.setTop (mkF m 121 #[.val (.long q1), .second, .val (.long q2), .second, .val (.long q3), .second, .val (.long q4), .second, .val (.long q5), .second, .val (.int p6), .val (.int (1 : Int32)), .val (.int v12_2), .val (.ref b3), .unset, .unset] []))
    refine own_by (fun _ k => XS.aload X14.here hx rfl (hb hby at_121) rfl rfl k) ?_
    refine own_by (fun _ k => XS.iconst X14.here hx rfl (hb hby at_123) k) ?_
    refine own_by (fun _ k => XS.iconst X14.here hx rfl (hb hby at_124) k) ?_
    show own_Go _ _ _ _ (T14.setTop (mkF m 125 #[.val (.long q1), .second, .val (.long q2), .second, .val (.long q3), .second, .val (.long q4), .second, .val (.long q5), .second, .val (.int p6), .val (.int (1 : Int32)), .val (.int v12_2), .val (.ref b3), .unset, .unset] [(.int (4 : Int32)), (.int (3 : Int32)), (.ref b3)]))
    refine own_callS X14 hx hZ hown (hw _ (List.mem_of_getElem? (i := 3) rfl)) (hw _ (List.mem_of_getElem? (i := 4) rfl)) (hw _ (List.mem_of_getElem? (i := 5) rfl)) (hw _ (List.mem_of_getElem? (i := 6) rfl)) (by decide) (rm1 l Z a0 hw [] b3 (3 : Int32) (4 : Int32) 3 4 r14 h14 n0 Z14 A14 (by decide) (by decide) (by decide) (by decide) (by decide) ge3) e14 (by rw [hml]; rfl) [(.ref b3), (.int (3 : Int32)), (.int (4 : Int32))] [] rfl (lenOf own_pd0 rfl) rfl 0 (Nat.le_of_eq rfl) (by decide) (by decide) (Nat.le_of_ble_eq_true rfl) (Nat.le_of_ble_eq_true rfl) (hb hby at_125) ?_
    intro T16 Lc16 v16 X16 hQ16
    obtain ⟨h16, e16⟩ : ∃ h, T16.heap = h := ⟨_, rfl⟩
    rw [e16] at hQ16
    obtain ⟨rfl, N16q, K16, A16⟩ := hQ16
    have N16 := Fr.app N14 N16q
    have Z16 := Nat.le_trans Z14 K16.1
    obtain ⟨r16, hr16⟩ : ∃ g : Nat → Int64, g = own_cs r14 3 4 := ⟨_, rfl⟩
    rw [← hr16] at A16
    have cr16 : ∀ x, own_cnt r16 x 5 = own_one q1 x + own_one (9223372036854775807 : Int64) x + own_one (9223372036854775807 : Int64) x + own_one (9223372036854775807 : Int64) x + own_one (9223372036854775807 : Int64) x := fun x => by rw [hr16]; exact (own_cs_cnt r14 3 (by decide) x).trans (cr14 x)
    have dm16_4 : own_dom r16 4 := by rw [hr16]; exact own_dom_step r14 3 dm14_3
    show own_Go _ _ _ _ (T16.setTop (mkF m 128 #[.val (.long q1), .second, .val (.long q2), .second, .val (.long q3), .second, .val (.long q4), .second, .val (.long q5), .second, .val (.int p6), .val (.int (1 : Int32)), .val (.int v12_2), .val (.ref b3), .unset, .unset] []))
    refine own_by (fun _ k => XS.aload X16.here hx rfl (hb hby at_128) rfl rfl k) ?_
    refine own_by (fun _ k => XS.iconst X16.here hx rfl (hb hby at_130) k) ?_
    refine own_by (fun _ k => XS.iconst X16.here hx rfl (hb hby at_131) k) ?_
    show own_Go _ _ _ _ (T16.setTop (mkF m 132 #[.val (.long q1), .second, .val (.long q2), .second, .val (.long q3), .second, .val (.long q4), .second, .val (.long q5), .second, .val (.int p6), .val (.int (1 : Int32)), .val (.int v12_2), .val (.ref b3), .unset, .unset] [(.int (1 : Int32)), (.int (0 : Int32)), (.ref b3)]))
    refine own_callS X16 hx hZ hown (hw _ (List.mem_of_getElem? (i := 3) rfl)) (hw _ (List.mem_of_getElem? (i := 4) rfl)) (hw _ (List.mem_of_getElem? (i := 5) rfl)) (hw _ (List.mem_of_getElem? (i := 6) rfl)) (by decide) (rm1 l Z a0 hw [] b3 (0 : Int32) (1 : Int32) 0 1 r16 h16 n0 Z16 A16 (by decide) (by decide) (by decide) (by decide) (by decide) ge3) e16 (by rw [hml]; rfl) [(.ref b3), (.int (0 : Int32)), (.int (1 : Int32))] [] rfl (lenOf own_pd0 rfl) rfl 0 (Nat.le_of_eq rfl) (by decide) (by decide) (Nat.le_of_ble_eq_true rfl) (Nat.le_of_ble_eq_true rfl) (hb hby at_132) ?_
    intro T18 Lc18 v18 X18 hQ18
    obtain ⟨h18, e18⟩ : ∃ h, T18.heap = h := ⟨_, rfl⟩
    rw [e18] at hQ18
    obtain ⟨rfl, N18q, K18, A18⟩ := hQ18
    have N18 := Fr.app N16 N18q
    have Z18 := Nat.le_trans Z16 K18.1
    obtain ⟨r18, hr18⟩ : ∃ g : Nat → Int64, g = own_cs r16 0 1 := ⟨_, rfl⟩
    rw [← hr18] at A18
    have cr18 : ∀ x, own_cnt r18 x 5 = own_one q1 x + own_one (9223372036854775807 : Int64) x + own_one (9223372036854775807 : Int64) x + own_one (9223372036854775807 : Int64) x + own_one (9223372036854775807 : Int64) x := fun x => by rw [hr18]; exact (own_cs_cnt r16 0 (by decide) x).trans (cr16 x)
    have dm18_4 : own_dom r18 4 := by rw [hr18]; exact own_dom_keep r16 0 4 (by decide) dm16_4
    have dm18_1 : own_dom r18 1 := by rw [hr18]; exact own_dom_step r16 0 (own_dom0 r16)
    show own_Go _ _ _ _ (T18.setTop (mkF m 135 #[.val (.long q1), .second, .val (.long q2), .second, .val (.long q3), .second, .val (.long q4), .second, .val (.long q5), .second, .val (.int p6), .val (.int (1 : Int32)), .val (.int v12_2), .val (.ref b3), .unset, .unset] []))
    refine own_by (fun _ k => XS.aload X18.here hx rfl (hb hby at_135) rfl rfl k) ?_
    refine own_by (fun _ k => XS.iconst X18.here hx rfl (hb hby at_137) k) ?_
    refine own_by (fun _ k => XS.iconst X18.here hx rfl (hb hby at_138) k) ?_
    show own_Go _ _ _ _ (T18.setTop (mkF m 139 #[.val (.long q1), .second, .val (.long q2), .second, .val (.long q3), .second, .val (.long q4), .second, .val (.long q5), .second, .val (.int p6), .val (.int (1 : Int32)), .val (.int v12_2), .val (.ref b3), .unset, .unset] [(.int (2 : Int32)), (.int (1 : Int32)), (.ref b3)]))
    refine own_callS X18 hx hZ hown (hw _ (List.mem_of_getElem? (i := 3) rfl)) (hw _ (List.mem_of_getElem? (i := 4) rfl)) (hw _ (List.mem_of_getElem? (i := 5) rfl)) (hw _ (List.mem_of_getElem? (i := 6) rfl)) (by decide) (rm1 l Z a0 hw [] b3 (1 : Int32) (2 : Int32) 1 2 r18 h18 n0 Z18 A18 (by decide) (by decide) (by decide) (by decide) (by decide) ge3) e18 (by rw [hml]; rfl) [(.ref b3), (.int (1 : Int32)), (.int (2 : Int32))] [] rfl (lenOf own_pd0 rfl) rfl 0 (Nat.le_of_eq rfl) (by decide) (by decide) (Nat.le_of_ble_eq_true rfl) (Nat.le_of_ble_eq_true rfl) (hb hby at_139) ?_
    intro T20 Lc20 v20 X20 hQ20
    obtain ⟨h20, e20⟩ : ∃ h, T20.heap = h := ⟨_, rfl⟩
    rw [e20] at hQ20
    obtain ⟨rfl, N20q, K20, A20⟩ := hQ20
    have N20 := Fr.app N18 N20q
    have Z20 := Nat.le_trans Z18 K20.1
    obtain ⟨r20, hr20⟩ : ∃ g : Nat → Int64, g = own_cs r18 1 2 := ⟨_, rfl⟩
    rw [← hr20] at A20
    have cr20 : ∀ x, own_cnt r20 x 5 = own_one q1 x + own_one (9223372036854775807 : Int64) x + own_one (9223372036854775807 : Int64) x + own_one (9223372036854775807 : Int64) x + own_one (9223372036854775807 : Int64) x := fun x => by rw [hr20]; exact (own_cs_cnt r18 1 (by decide) x).trans (cr18 x)
    have dm20_4 : own_dom r20 4 := by rw [hr20]; exact own_dom_keep r18 1 4 (by decide) dm18_4
    have dm20_2 : own_dom r20 2 := by rw [hr20]; exact own_dom_step r18 1 dm18_1
    show own_Go _ _ _ _ (T20.setTop (mkF m 142 #[.val (.long q1), .second, .val (.long q2), .second, .val (.long q3), .second, .val (.long q4), .second, .val (.long q5), .second, .val (.int p6), .val (.int (1 : Int32)), .val (.int v12_2), .val (.ref b3), .unset, .unset] []))
    refine own_by (fun _ k => XS.aload X20.here hx rfl (hb hby at_142) rfl rfl k) ?_
    refine own_by (fun _ k => XS.iconst X20.here hx rfl (hb hby at_144) k) ?_
    refine own_by (fun _ k => XS.iconst X20.here hx rfl (hb hby at_145) k) ?_
    show own_Go _ _ _ _ (T20.setTop (mkF m 146 #[.val (.long q1), .second, .val (.long q2), .second, .val (.long q3), .second, .val (.long q4), .second, .val (.long q5), .second, .val (.int p6), .val (.int (1 : Int32)), .val (.int v12_2), .val (.ref b3), .unset, .unset] [(.int (3 : Int32)), (.int (2 : Int32)), (.ref b3)]))
    refine own_callS X20 hx hZ hown (hw _ (List.mem_of_getElem? (i := 3) rfl)) (hw _ (List.mem_of_getElem? (i := 4) rfl)) (hw _ (List.mem_of_getElem? (i := 5) rfl)) (hw _ (List.mem_of_getElem? (i := 6) rfl)) (by decide) (rm1 l Z a0 hw [] b3 (2 : Int32) (3 : Int32) 2 3 r20 h20 n0 Z20 A20 (by decide) (by decide) (by decide) (by decide) (by decide) ge3) e20 (by rw [hml]; rfl) [(.ref b3), (.int (2 : Int32)), (.int (3 : Int32))] [] rfl (lenOf own_pd0 rfl) rfl 0 (Nat.le_of_eq rfl) (by decide) (by decide) (Nat.le_of_ble_eq_true rfl) (Nat.le_of_ble_eq_true rfl) (hb hby at_146) ?_
    intro T22 Lc22 v22 X22 hQ22
    obtain ⟨h22, e22⟩ : ∃ h, T22.heap = h := ⟨_, rfl⟩
    rw [e22] at hQ22
    obtain ⟨rfl, N22q, K22, A22⟩ := hQ22
    have N22 := Fr.app N20 N22q
    have Z22 := Nat.le_trans Z20 K22.1
    obtain ⟨r22, hr22⟩ : ∃ g : Nat → Int64, g = own_cs r20 2 3 := ⟨_, rfl⟩
    rw [← hr22] at A22
    have cr22 : ∀ x, own_cnt r22 x 5 = own_one q1 x + own_one (9223372036854775807 : Int64) x + own_one (9223372036854775807 : Int64) x + own_one (9223372036854775807 : Int64) x + own_one (9223372036854775807 : Int64) x := fun x => by rw [hr22]; exact (own_cs_cnt r20 2 (by decide) x).trans (cr20 x)
    have dm22_4 : own_dom r22 4 := by rw [hr22]; exact own_dom_keep r20 2 4 (by decide) dm20_4
    have dm22_3 : own_dom r22 3 := by rw [hr22]; exact own_dom_step r20 2 dm20_2
    show own_Go _ _ _ _ (T22.setTop (mkF m 149 #[.val (.long q1), .second, .val (.long q2), .second, .val (.long q3), .second, .val (.long q4), .second, .val (.long q5), .second, .val (.int p6), .val (.int (1 : Int32)), .val (.int v12_2), .val (.ref b3), .unset, .unset] []))
    refine own_by (fun _ k => XS.aload X22.here hx rfl (hb hby at_149) rfl rfl k) ?_
    refine own_by (fun _ k => XS.iconst X22.here hx rfl (hb hby at_151) k) ?_
    refine own_by (fun _ k => XS.iconst X22.here hx rfl (hb hby at_152) k) ?_
    show own_Go _ _ _ _ (T22.setTop (mkF m 153 #[.val (.long q1), .second, .val (.long q2), .second, .val (.long q3), .second, .val (.long q4), .second, .val (.long q5), .second, .val (.int p6), .val (.int (1 : Int32)), .val (.int v12_2), .val (.ref b3), .unset, .unset] [(.int (1 : Int32)), (.int (0 : Int32)), (.ref b3)]))
    refine own_callS X22 hx hZ hown (hw _ (List.mem_of_getElem? (i := 3) rfl)) (hw _ (List.mem_of_getElem? (i := 4) rfl)) (hw _ (List.mem_of_getElem? (i := 5) rfl)) (hw _ (List.mem_of_getElem? (i := 6) rfl)) (by decide) (rm1 l Z a0 hw [] b3 (0 : Int32) (1 : Int32) 0 1 r22 h22 n0 Z22 A22 (by decide) (by decide) (by decide) (by decide) (by decide) ge3) e22 (by rw [hml]; rfl) [(.ref b3), (.int (0 : Int32)), (.int (1 : Int32))] [] rfl (lenOf own_pd0 rfl) rfl 0 (Nat.le_of_eq rfl) (by decide) (by decide) (Nat.le_of_ble_eq_true rfl) (Nat.le_of_ble_eq_true rfl) (hb hby at_153) ?_
    intro T24 Lc24 v24 X24 hQ24
    obtain ⟨h24, e24⟩ : ∃ h, T24.heap = h := ⟨_, rfl⟩
    rw [e24] at hQ24
    obtain ⟨rfl, N24q, K24, A24⟩ := hQ24
    have N24 := Fr.app N22 N24q
    have Z24 := Nat.le_trans Z22 K24.1
    obtain ⟨r24, hr24⟩ : ∃ g : Nat → Int64, g = own_cs r22 0 1 := ⟨_, rfl⟩
    rw [← hr24] at A24
    have cr24 : ∀ x, own_cnt r24 x 5 = own_one q1 x + own_one (9223372036854775807 : Int64) x + own_one (9223372036854775807 : Int64) x + own_one (9223372036854775807 : Int64) x + own_one (9223372036854775807 : Int64) x := fun x => by rw [hr24]; exact (own_cs_cnt r22 0 (by decide) x).trans (cr22 x)
    have dm24_4 : own_dom r24 4 := by rw [hr24]; exact own_dom_keep r22 0 4 (by decide) dm22_4
    have dm24_3 : own_dom r24 3 := by rw [hr24]; exact own_dom_keep r22 0 3 (by decide) dm22_3
    have dm24_1 : own_dom r24 1 := by rw [hr24]; exact own_dom_step r22 0 (own_dom0 r22)
    show own_Go _ _ _ _ (T24.setTop (mkF m 156 #[.val (.long q1), .second, .val (.long q2), .second, .val (.long q3), .second, .val (.long q4), .second, .val (.long q5), .second, .val (.int p6), .val (.int (1 : Int32)), .val (.int v12_2), .val (.ref b3), .unset, .unset] []))
    refine own_by (fun _ k => XS.aload X24.here hx rfl (hb hby at_156) rfl rfl k) ?_
    refine own_by (fun _ k => XS.iconst X24.here hx rfl (hb hby at_158) k) ?_
    refine own_by (fun _ k => XS.iconst X24.here hx rfl (hb hby at_159) k) ?_
    show own_Go _ _ _ _ (T24.setTop (mkF m 160 #[.val (.long q1), .second, .val (.long q2), .second, .val (.long q3), .second, .val (.long q4), .second, .val (.long q5), .second, .val (.int p6), .val (.int (1 : Int32)), .val (.int v12_2), .val (.ref b3), .unset, .unset] [(.int (2 : Int32)), (.int (1 : Int32)), (.ref b3)]))
    refine own_callS X24 hx hZ hown (hw _ (List.mem_of_getElem? (i := 3) rfl)) (hw _ (List.mem_of_getElem? (i := 4) rfl)) (hw _ (List.mem_of_getElem? (i := 5) rfl)) (hw _ (List.mem_of_getElem? (i := 6) rfl)) (by decide) (rm1 l Z a0 hw [] b3 (1 : Int32) (2 : Int32) 1 2 r24 h24 n0 Z24 A24 (by decide) (by decide) (by decide) (by decide) (by decide) ge3) e24 (by rw [hml]; rfl) [(.ref b3), (.int (1 : Int32)), (.int (2 : Int32))] [] rfl (lenOf own_pd0 rfl) rfl 0 (Nat.le_of_eq rfl) (by decide) (by decide) (Nat.le_of_ble_eq_true rfl) (Nat.le_of_ble_eq_true rfl) (hb hby at_160) ?_
    intro T26 Lc26 v26 X26 hQ26
    obtain ⟨h26, e26⟩ : ∃ h, T26.heap = h := ⟨_, rfl⟩
    rw [e26] at hQ26
    obtain ⟨rfl, N26q, K26, A26⟩ := hQ26
    have N26 := Fr.app N24 N26q
    have Z26 := Nat.le_trans Z24 K26.1
    obtain ⟨r26, hr26⟩ : ∃ g : Nat → Int64, g = own_cs r24 1 2 := ⟨_, rfl⟩
    rw [← hr26] at A26
    have cr26 : ∀ x, own_cnt r26 x 5 = own_one q1 x + own_one (9223372036854775807 : Int64) x + own_one (9223372036854775807 : Int64) x + own_one (9223372036854775807 : Int64) x + own_one (9223372036854775807 : Int64) x := fun x => by rw [hr26]; exact (own_cs_cnt r24 1 (by decide) x).trans (cr24 x)
    have dm26_4 : own_dom r26 4 := by rw [hr26]; exact own_dom_keep r24 1 4 (by decide) dm24_4
    have dm26_3 : own_dom r26 3 := by rw [hr26]; exact own_dom_keep r24 1 3 (by decide) dm24_3
    have dm26_2 : own_dom r26 2 := by rw [hr26]; exact own_dom_step r24 1 dm24_1
    show own_Go _ _ _ _ (T26.setTop (mkF m 163 #[.val (.long q1), .second, .val (.long q2), .second, .val (.long q3), .second, .val (.long q4), .second, .val (.long q5), .second, .val (.int p6), .val (.int (1 : Int32)), .val (.int v12_2), .val (.ref b3), .unset, .unset] []))
    refine own_by (fun _ k => XS.aload X26.here hx rfl (hb hby at_163) rfl rfl k) ?_
    refine own_by (fun _ k => XS.iconst X26.here hx rfl (hb hby at_165) k) ?_
    refine own_by (fun _ k => XS.iconst X26.here hx rfl (hb hby at_166) k) ?_
    show own_Go _ _ _ _ (T26.setTop (mkF m 167 #[.val (.long q1), .second, .val (.long q2), .second, .val (.long q3), .second, .val (.long q4), .second, .val (.long q5), .second, .val (.int p6), .val (.int (1 : Int32)), .val (.int v12_2), .val (.ref b3), .unset, .unset] [(.int (1 : Int32)), (.int (0 : Int32)), (.ref b3)]))
    refine own_callS X26 hx hZ hown (hw _ (List.mem_of_getElem? (i := 3) rfl)) (hw _ (List.mem_of_getElem? (i := 4) rfl)) (hw _ (List.mem_of_getElem? (i := 5) rfl)) (hw _ (List.mem_of_getElem? (i := 6) rfl)) (by decide) (rm1 l Z a0 hw [] b3 (0 : Int32) (1 : Int32) 0 1 r26 h26 n0 Z26 A26 (by decide) (by decide) (by decide) (by decide) (by decide) ge3) e26 (by rw [hml]; rfl) [(.ref b3), (.int (0 : Int32)), (.int (1 : Int32))] [] rfl (lenOf own_pd0 rfl) rfl 0 (Nat.le_of_eq rfl) (by decide) (by decide) (Nat.le_of_ble_eq_true rfl) (Nat.le_of_ble_eq_true rfl) (hb hby at_167) ?_
    intro T28 Lc28 v28 X28 hQ28
    obtain ⟨h28, e28⟩ : ∃ h, T28.heap = h := ⟨_, rfl⟩
    rw [e28] at hQ28
    obtain ⟨rfl, N28q, K28, A28⟩ := hQ28
    have N28 := Fr.app N26 N28q
    have Z28 := Nat.le_trans Z26 K28.1
    obtain ⟨r28, hr28⟩ : ∃ g : Nat → Int64, g = own_cs r26 0 1 := ⟨_, rfl⟩
    rw [← hr28] at A28
    have cr28 : ∀ x, own_cnt r28 x 5 = own_one q1 x + own_one (9223372036854775807 : Int64) x + own_one (9223372036854775807 : Int64) x + own_one (9223372036854775807 : Int64) x + own_one (9223372036854775807 : Int64) x := fun x => by rw [hr28]; exact (own_cs_cnt r26 0 (by decide) x).trans (cr26 x)
    have dm28_4 : own_dom r28 4 := by rw [hr28]; exact own_dom_keep r26 0 4 (by decide) dm26_4
    have dm28_3 : own_dom r28 3 := by rw [hr28]; exact own_dom_keep r26 0 3 (by decide) dm26_3
    have dm28_2 : own_dom r28 2 := by rw [hr28]; exact own_dom_keep r26 0 2 (by decide) dm26_2
    have dm28_1 : own_dom r28 1 := by rw [hr28]; exact own_dom_step r26 0 (own_dom0 r26)
    have hsd : own_sd [r28 0, r28 1, r28 2, r28 3, r28 4] := by
      have s01 := dm28_1 0 (by decide)
      have s02 := dm28_2 0 (by decide)
      have s03 := dm28_3 0 (by decide)
      have s04 := dm28_4 0 (by decide)
      have s12 := dm28_2 1 (by decide)
      have s13 := dm28_3 1 (by decide)
      have s14 := dm28_4 1 (by decide)
      have s23 := dm28_3 2 (by decide)
      have s24 := dm28_4 2 (by decide)
      have s34 := dm28_4 3 (by decide)
      simp [own_sd, s01, s02, s03, s04, s12, s13, s14, s23, s24, s34]
    have hrl : ∀ x, own_cl x [r28 0, r28 1, r28 2, r28 3, r28 4] = own_one q1 x + own_one (9223372036854775807 : Int64) x + own_one (9223372036854775807 : Int64) x + own_one (9223372036854775807 : Int64) x + own_one (9223372036854775807 : Int64) x := fun x => by have q := cr28 x; simp [own_cnt] at q; simp [own_cl]; omega
    show own_Go _ _ _ _ (T28.setTop (mkF m 170 #[.val (.long q1), .second, .val (.long q2), .second, .val (.long q3), .second, .val (.long q4), .second, .val (.long q5), .second, .val (.int p6), .val (.int (1 : Int32)), .val (.int v12_2), .val (.ref b3), .unset, .unset] []))
    obtain ⟨T30, h30, X30, e30, E30, A30, D30, -, st30⟩ := newO X28 hx hZ hown (hw _ (List.mem_of_getElem? (i := 7) rfl)) (hw _ (List.mem_of_getElem? (i := 8) rfl)) (hw _ (List.mem_of_getElem? (i := 9) rfl)) e28 (g := (mkF m 170 #[.val (.long q1), .second, .val (.long q2), .second, .val (.long q3), .second, .val (.long q4), .second, .val (.long q5), .second, .val (.int p6), .val (.int (1 : Int32)), .val (.int v12_2), .val (.ref b3), .unset, .unset] [])) rfl (hb hby at_170) (by decide) (by decide)
    refine own_by st30 ?_
    show own_Go _ _ _ _ (T30.setTop (mkF m 173 #[.val (.long q1), .second, .val (.long q2), .second, .val (.long q3), .second, .val (.long q4), .second, .val (.long q5), .second, .val (.int p6), .val (.int (1 : Int32)), .val (.int v12_2), .val (.ref b3), .unset, .unset] [.ref h28.size]))
    obtain ⟨b30, g30⟩ : ∃ z, z = h28.size := ⟨_, rfl⟩
    rw [← g30] at A30 D30
    refine own_gen g30.symm (fun z_ => T30.setTop (mkF m 173 #[.val (.long q1), .second, .val (.long q2), .second, .val (.long q3), .second, .val (.long q4), .second, .val (.long q5), .second, .val (.int p6), .val (.int (1 : Int32)), .val (.int v12_2), .val (.ref b3), .unset, .unset] [.ref z_])) ?_
    have ne31 : b3 ≠ b30 := Nat.ne_of_lt (Nat.lt_of_lt_of_le A28.lt (Nat.le_of_eq g30.symm))
    have ge30 : n0 ≤ b30 := Nat.le_trans Z28 (Nat.le_of_eq g30.symm)
    have f32 := A28.ext E30
    have Z30 := Nat.le_trans Z28 E30.1
    have f33 : Fld Z h30 b30 "com/example/libmakespan/libmakespan/planners/LongHeap" "values" "[J" .null := D30 (Or.inl (hw _ (List.mem_of_getElem? (i := 21) rfl))) (ty := (.array .long)) (by decide)
    have f34 : Fld Z h30 b30 "com/example/libmakespan/libmakespan/planners/LongHeap" "size" "I" (.int (0 : Int32)) := D30 (Or.inl (hw _ (List.mem_of_getElem? (i := 28) rfl))) (ty := .int) (by decide)
    show own_Go _ _ _ _ (T30.setTop (mkF m 173 #[.val (.long q1), .second, .val (.long q2), .second, .val (.long q3), .second, .val (.long q4), .second, .val (.long q5), .second, .val (.int p6), .val (.int (1 : Int32)), .val (.int v12_2), .val (.ref b3), .unset, .unset] [(.ref b30)]))
    refine own_by (fun _ k => XS.dup X30.here hx rfl (hb hby at_173) rfl rfl k) ?_
    refine own_by (fun _ k => XS.iload X30.here hx rfl (hb hby at_174) rfl k) ?_
    show own_Go _ _ _ _ (T30.setTop (mkF m 176 #[.val (.long q1), .second, .val (.long q2), .second, .val (.long q3), .second, .val (.long q4), .second, .val (.long q5), .second, .val (.int p6), .val (.int (1 : Int32)), .val (.int v12_2), .val (.ref b3), .unset, .unset] [(.int v12_2), (.ref b30), (.ref b30)]))
    refine own_callI X30 hx hZ hown rfl (hw _ (List.mem_of_getElem? (i := 10) rfl)) (hw _ (List.mem_of_getElem? (i := 11) rfl)) (hw _ (List.mem_of_getElem? (i := 9) rfl)) (hw _ (List.mem_of_getElem? (i := 12) rfl)) (by decide) (rm2 l Z a0 hw [] b30 v12_2 h30 n0 Z30 A30 f33 f34 ge30 hp12) e30 (by rw [hml]; rfl) b30 [(.int v12_2)] [(.ref b30)] rfl (lenOf own_pd1 rfl) rfl 1 (Nat.le_of_eq rfl) (by decide) (by decide) (Nat.le_of_ble_eq_true rfl) (Nat.le_of_ble_eq_true rfl) (hb hby at_176) ?_
    intro T35 Lc35 v35 X35 hQ35
    obtain ⟨h35, e35⟩ : ∃ h, T35.heap = h := ⟨_, rfl⟩
    rw [e35] at hQ35
    obtain ⟨rfl, N35q, K35, bb35, nn35, h135, h335, FV35, FS35, AH35, gb35, nw35⟩ := hQ35
    have N35 := Fr.app N28 N35q
    have f36 := f32.keep K35 (ninS ne31 nin0)
    have f37 := A30.keep K35
    have Z35 := Nat.le_trans Z30 K35.1
    have ne35a : b30 ≠ bb35 := Nat.ne_of_lt (Nat.lt_of_lt_of_le A30.lt nw35)
    have ne35r : b3 ≠ bb35 := Nat.ne_of_lt (Nat.lt_of_lt_of_le f32.lt nw35)
    have hc35 : ∀ x, own_cnt (fun _ => (0 : Int64)) x 0 = 0 := fun _ => rfl
    have HP35 : own_hp (fun _ => 0) 0 := ⟨fun q => by omega, fun q => by omega, fun q => by omega, fun q => by omega⟩
    show own_Go _ _ _ _ (T35.setTop (mkF m 179 #[.val (.long q1), .second, .val (.long q2), .second, .val (.long q3), .second, .val (.long q4), .second, .val (.long q5), .second, .val (.int p6), .val (.int (1 : Int32)), .val (.int v12_2), .val (.ref b3), .unset, .unset] [(.ref b30)]))
    refine own_by (fun _ k => XS.astore X35.here hx rfl (hb hby at_179) rfl rfl (l' := #[.val (.long q1), .second, .val (.long q2), .second, .val (.long q3), .second, .val (.long q4), .second, .val (.long q5), .second, .val (.int p6), .val (.int (1 : Int32)), .val (.int v12_2), .val (.ref b3), .val (.ref b30), .unset]) rfl k) ?_
    refine own_by (fun _ k => XS.aload X35.here hx rfl (hb hby at_181) rfl rfl k) ?_
    refine own_by (fun _ k => XS.lloadN X35.here hx rfl (hb hby at_183) rfl k) ?_
    show own_Go _ _ _ _ (T35.setTop (mkF m 184 #[.val (.long q1), .second, .val (.long q2), .second, .val (.long q3), .second, .val (.long q4), .second, .val (.long q5), .second, .val (.int p6), .val (.int (1 : Int32)), .val (.int v12_2), .val (.ref b3), .val (.ref b30), .unset] [(.long q1), (.ref b30)]))
    refine own_callV X35 hx hZ hown (hw _ (List.mem_of_getElem? (i := 22) rfl)) (hw _ (List.mem_of_getElem? (i := 23) rfl)) (notFace_of_selects (args := #[]) (mvT hZ (hw _ (List.mem_of_getElem? (i := 25) rfl)))) (hw _ (List.mem_of_getElem? (i := 25) rfl)) (hw _ (List.mem_of_getElem? (i := 24) rfl)) (hw _ (List.mem_of_getElem? (i := 9) rfl)) (hw _ (List.mem_of_getElem? (i := 26) rfl)) (by decide) (rm5_0 l Z a0 hw [] b30 q1 bb35 nn35 (fun _ => 0) h35 n0 Z35 f37 FV35 FS35 AH35 ge30 gb35 ne35a (by omega) (by omega) HP35) e35 b30 f37 (by rw [hml]; rfl) [(.long q1)] [] rfl (lenOf own_pd3 rfl) rfl 0 (Nat.le_of_eq rfl) (by decide) (by decide) (Nat.le_of_ble_eq_true rfl) (Nat.le_of_ble_eq_true rfl) (hb hby at_184) ?_
    intro T40 Lc40 v40 X40 hQ40
    obtain ⟨h40, e40⟩ : ∃ h, T40.heap = h := ⟨_, rfl⟩
    rw [e40] at hQ40
    obtain ⟨rfl, N40q, K40, bb40, nn40, ff40, h140, h840, FV40, FS40, AH40, gb40, ho40, HP40, hc40⟩ := hQ40
    have N40 := Fr.app N35 N40q
    have f41 := f36.keep K40 (ninS ne31 (ninS ne35r nin0))
    have f42 := f37.keep K40
    have Z40 := Nat.le_trans Z35 K40.1
    have ne40a : b30 ≠ bb40 := ho40.elim (fun q => by rw [q]; exact ne35a) (fun q => Nat.ne_of_lt (Nat.lt_of_lt_of_le f37.lt q))
    have ne40r : b3 ≠ bb40 := ho40.elim (fun q => by rw [q]; exact ne35r) (fun q => Nat.ne_of_lt (Nat.lt_of_lt_of_le f36.lt q))
    have hd40 : ∀ x, own_cnt ff40 x 1 = own_one q1 x := fun x => by have q := hc40 x; have q' := hc35 x; omega
    show own_Go _ _ _ _ (T40.setTop (mkF m 187 #[.val (.long q1), .second, .val (.long q2), .second, .val (.long q3), .second, .val (.long q4), .second, .val (.long q5), .second, .val (.int p6), .val (.int (1 : Int32)), .val (.int v12_2), .val (.ref b3), .val (.ref b30), .unset] []))
    refine own_by (fun _ k => XS.iload X40.here hx rfl (hb hby at_187) rfl k) ?_
    refine own_by (fun _ k => XS.iconst X40.here hx rfl (hb hby at_189) k) ?_
    show own_Go _ _ _ _ (T40.setTop (mkF m 190 #[.val (.long q1), .second, .val (.long q2), .second, .val (.long q3), .second, .val (.long q4), .second, .val (.long q5), .second, .val (.int p6), .val (.int (1 : Int32)), .val (.int v12_2), .val (.ref b3), .val (.ref b30), .unset] [(.int (1 : Int32)), (.int (1 : Int32))]))
    refine own_by (fun _ k => XS.icmpYes X40.here hx rfl (pc0 := 190) (pc' := 199) rfl (hb hby at_190) rfl (flt (by decide)).2.2.2 (by decide) (by decide) k) ?_
    refine own_by (fun _ k => XS.iload X40.here hx rfl (hb hby at_199) rfl k) ?_
    refine own_by (fun _ k => XS.iconst X40.here hx rfl (hb hby at_201) k) ?_
    show own_Go _ _ _ _ (T40.setTop (mkF m 202 #[.val (.long q1), .second, .val (.long q2), .second, .val (.long q3), .second, .val (.long q4), .second, .val (.long q5), .second, .val (.int p6), .val (.int (1 : Int32)), .val (.int v12_2), .val (.ref b3), .val (.ref b30), .unset] [(.int (2 : Int32)), (.int (1 : Int32))]))
    refine own_by (fun _ k => XS.icmpYes X40.here hx rfl (pc0 := 202) (pc' := 212) rfl (hb hby at_202) rfl (flt (by decide)).2.2.2 (by decide) (by decide) k) ?_
    refine own_by (fun _ k => XS.iload X40.here hx rfl (hb hby at_212) rfl k) ?_
    refine own_by (fun _ k => XS.iconst X40.here hx rfl (hb hby at_214) k) ?_
    show own_Go _ _ _ _ (T40.setTop (mkF m 215 #[.val (.long q1), .second, .val (.long q2), .second, .val (.long q3), .second, .val (.long q4), .second, .val (.long q5), .second, .val (.int p6), .val (.int (1 : Int32)), .val (.int v12_2), .val (.ref b3), .val (.ref b30), .unset] [(.int (3 : Int32)), (.int (1 : Int32))]))
    refine own_by (fun _ k => XS.icmpYes X40.here hx rfl (pc0 := 215) (pc' := 225) rfl (hb hby at_215) rfl (flt (by decide)).2.2.2 (by decide) (by decide) k) ?_
    refine own_by (fun _ k => XS.iload X40.here hx rfl (hb hby at_225) rfl k) ?_
    refine own_by (fun _ k => XS.iconst X40.here hx rfl (hb hby at_227) k) ?_
    show own_Go _ _ _ _ (T40.setTop (mkF m 228 #[.val (.long q1), .second, .val (.long q2), .second, .val (.long q3), .second, .val (.long q4), .second, .val (.long q5), .second, .val (.int p6), .val (.int (1 : Int32)), .val (.int v12_2), .val (.ref b3), .val (.ref b30), .unset] [(.int (4 : Int32)), (.int (1 : Int32))]))
    refine own_by (fun _ k => XS.icmpYes X40.here hx rfl (pc0 := 228) (pc' := 238) rfl (hb hby at_228) rfl (flt (by decide)).2.2.2 (by decide) (by decide) k) ?_
    have hq0 : ∀ x, own_cnt ff40 x 1 + 4 * own_one 9223372036854775807 x = own_cl x [r28 0, r28 1, r28 2, r28 3, r28 4] := fun x => by rw [hd40 x, hrl x]; omega
    refine own_by (fun _ k => XS.aload X40.here hx rfl (hb hby at_238) rfl rfl k) ?_
    show own_Go _ _ _ _ (T40.setTop (mkF m 240 #[.val (.long q1), .second, .val (.long q2), .second, .val (.long q3), .second, .val (.long q4), .second, .val (.long q5), .second, .val (.int p6), .val (.int (1 : Int32)), .val (.int v12_2), .val (.ref b3), .val (.ref b30), .unset] [(.ref b30)]))
    have he0 : ff40 0 = r28 0 := own_hd ff40 1 4 _ [r28 1, r28 2, r28 3, r28 4] (by decide) (by decide) HP40 hsd hq0
    refine own_callV X40 hx hZ hown (hw _ (List.mem_of_getElem? (i := 40) rfl)) (hw _ (List.mem_of_getElem? (i := 41) rfl)) (notFace_of_selects (args := #[]) (mvT hZ (hw _ (List.mem_of_getElem? (i := 43) rfl)))) (hw _ (List.mem_of_getElem? (i := 43) rfl)) (hw _ (List.mem_of_getElem? (i := 42) rfl)) (hw _ (List.mem_of_getElem? (i := 9) rfl)) (hw _ (List.mem_of_getElem? (i := 44) rfl)) (by decide) (rm8_1 l Z a0 hw [] b30 bb40 nn40 ff40 h40 n0 Z40 f42 FV40 FS40 AH40 ge30 gb40 ne40a (by omega) (by omega) HP40) e40 b30 f42 (by rw [hml]; rfl) [] [] rfl (lenOf own_pd5 rfl) rfl 0 (Nat.le_of_eq rfl) (by decide) (by decide) (Nat.le_of_ble_eq_true rfl) (Nat.le_of_ble_eq_true rfl) (hb hby at_240) ?_
    intro T46 Lc46 v46 X46 hQ46
    obtain ⟨h46, e46⟩ : ∃ h, T46.heap = h := ⟨_, rfl⟩
    rw [e46] at hQ46
    obtain ⟨rfl, N46q, K46, ff46, FV46, FS46, AH46, HP46, hc46⟩ := hQ46
    have N46 := Fr.app N40 N46q
    have f47 := f41.keep K46 (ninS ne31 (ninS ne40r nin0))
    have f48 := f42.keep K46
    have Z46 := Nat.le_trans Z40 K46.1
    have hq1 := own_next ff40 ff46 0 4 _ [r28 1, r28 2, r28 3, r28 4] he0 hq0 hc46
    show own_Go _ _ _ _ (T46.setTop (mkF m 243 #[.val (.long q1), .second, .val (.long q2), .second, .val (.long q3), .second, .val (.long q4), .second, .val (.long q5), .second, .val (.int p6), .val (.int (1 : Int32)), .val (.int v12_2), .val (.ref b3), .val (.ref b30), .unset] [(.long (ff40 0))]))
    refine own_by (fun _ k => XS.aload X46.here hx rfl (hb hby at_243) rfl rfl k) ?_
    refine own_by (fun _ k => XS.iconst X46.here hx rfl (hb hby at_245) k) ?_
    show own_Go _ _ _ _ (T46.setTop (mkF m 246 #[.val (.long q1), .second, .val (.long q2), .second, .val (.long q3), .second, .val (.long q4), .second, .val (.long q5), .second, .val (.int p6), .val (.int (1 : Int32)), .val (.int v12_2), .val (.ref b3), .val (.ref b30), .unset] [(.int (0 : Int32)), (.ref b3), (.long (ff40 0))]))
    refine own_by (fun _ k => own_lal X46 hx hZ e46 f47 0 (by decide) (by decide) (hb hby at_246) k) ?_
    show own_Go _ _ _ _ (T46.setTop (mkF m 247 #[.val (.long q1), .second, .val (.long q2), .second, .val (.long q3), .second, .val (.long q4), .second, .val (.long q5), .second, .val (.int p6), .val (.int (1 : Int32)), .val (.int v12_2), .val (.ref b3), .val (.ref b30), .unset] [(.long (r28 0)), (.long (ff40 0))]))
    refine own_by (fun _ k => XS.lcmp X46.here hx rfl (hb hby at_247) rfl k) ?_
    show own_Go _ _ _ _ (T46.setTop (mkF m 248 #[.val (.long q1), .second, .val (.long q2), .second, .val (.long q3), .second, .val (.long q4), .second, .val (.long q5), .second, .val (.int p6), .val (.int (1 : Int32)), .val (.int v12_2), .val (.ref b3), .val (.ref b30), .unset] [(.int (lcmpW (ff40 0) (r28 0)))]))
    refine own_by (fun _ k => XS.ifNo X46.here hx rfl (hb hby at_248) rfl ((if0 _ _).trans (teq ((lw_eq _ _).mpr he0)).2) k) ?_
    refine own_by (fun _ k => XS.iconst X46.here hx rfl (hb hby at_251) k) ?_
    show own_Go _ _ _ _ (T46.setTop (mkF m 252 #[.val (.long q1), .second, .val (.long q2), .second, .val (.long q3), .second, .val (.long q4), .second, .val (.long q5), .second, .val (.int p6), .val (.int (1 : Int32)), .val (.int v12_2), .val (.ref b3), .val (.ref b30), .unset] [(.int (1 : Int32))]))
    refine own_by (fun _ k => XS.goto X46.here hx rfl (pc0 := 252) (pc' := 256) rfl (hb hby at_252) (by decide) (by decide) k) ?_
    show own_Go _ _ _ _ (T46.setTop (mkF m 256 #[.val (.long q1), .second, .val (.long q2), .second, .val (.long q3), .second, .val (.long q4), .second, .val (.long q5), .second, .val (.int p6), .val (.int (1 : Int32)), .val (.int v12_2), .val (.ref b3), .val (.ref b30), .unset] [(.int (1 : Int32))]))
    refine own_by (fun _ k => XS.istore X46.here hx rfl (hb hby at_256) rfl (l' := #[.val (.long q1), .second, .val (.long q2), .second, .val (.long q3), .second, .val (.long q4), .second, .val (.long q5), .second, .val (.int p6), .val (.int (1 : Int32)), .val (.int v12_2), .val (.ref b3), .val (.ref b30), .val (.int (1 : Int32))]) rfl k) ?_
    refine own_by (fun _ k => XS.iload X46.here hx rfl (hb hby at_258) rfl k) ?_
    refine own_by (fun _ k => XS.iconst X46.here hx rfl (hb hby at_260) k) ?_
    show own_Go _ _ _ _ (T46.setTop (mkF m 261 #[.val (.long q1), .second, .val (.long q2), .second, .val (.long q3), .second, .val (.long q4), .second, .val (.long q5), .second, .val (.int p6), .val (.int (1 : Int32)), .val (.int v12_2), .val (.ref b3), .val (.ref b30), .val (.int (1 : Int32))] [(.int (1 : Int32)), (.int (1 : Int32))]))
    refine own_by (fun _ k => XS.icmpYes X46.here hx rfl (pc0 := 261) (pc' := 287) rfl (hb hby at_261) rfl (flt (by decide)).2.2.2 (by decide) (by decide) k) ?_
    refine own_by (fun _ k => XS.iload X46.here hx rfl (hb hby at_287) rfl k) ?_
    refine own_by (fun _ k => XS.iconst X46.here hx rfl (hb hby at_289) k) ?_
    show own_Go _ _ _ _ (T46.setTop (mkF m 290 #[.val (.long q1), .second, .val (.long q2), .second, .val (.long q3), .second, .val (.long q4), .second, .val (.long q5), .second, .val (.int p6), .val (.int (1 : Int32)), .val (.int v12_2), .val (.ref b3), .val (.ref b30), .val (.int (1 : Int32))] [(.int (2 : Int32)), (.int (1 : Int32))]))
    refine own_by (fun _ k => XS.icmpYes X46.here hx rfl (pc0 := 290) (pc' := 316) rfl (hb hby at_290) rfl (flt (by decide)).2.2.2 (by decide) (by decide) k) ?_
    refine own_by (fun _ k => XS.iload X46.here hx rfl (hb hby at_316) rfl k) ?_
    refine own_by (fun _ k => XS.iconst X46.here hx rfl (hb hby at_318) k) ?_
    show own_Go _ _ _ _ (T46.setTop (mkF m 319 #[.val (.long q1), .second, .val (.long q2), .second, .val (.long q3), .second, .val (.long q4), .second, .val (.long q5), .second, .val (.int p6), .val (.int (1 : Int32)), .val (.int v12_2), .val (.ref b3), .val (.ref b30), .val (.int (1 : Int32))] [(.int (3 : Int32)), (.int (1 : Int32))]))
    refine own_by (fun _ k => XS.icmpYes X46.here hx rfl (pc0 := 319) (pc' := 345) rfl (hb hby at_319) rfl (flt (by decide)).2.2.2 (by decide) (by decide) k) ?_
    refine own_by (fun _ k => XS.iload X46.here hx rfl (hb hby at_345) rfl k) ?_
    refine own_by (fun _ k => XS.iconst X46.here hx rfl (hb hby at_347) k) ?_
    show own_Go _ _ _ _ (T46.setTop (mkF m 348 #[.val (.long q1), .second, .val (.long q2), .second, .val (.long q3), .second, .val (.long q4), .second, .val (.long q5), .second, .val (.int p6), .val (.int (1 : Int32)), .val (.int v12_2), .val (.ref b3), .val (.ref b30), .val (.int (1 : Int32))] [(.int (4 : Int32)), (.int (1 : Int32))]))
    refine own_by (fun _ k => XS.icmpYes X46.here hx rfl (pc0 := 348) (pc' := 374) rfl (hb hby at_348) rfl (flt (by decide)).2.2.2 (by decide) (by decide) k) ?_
    refine own_by (fun _ k => XS.iload X46.here hx rfl (hb hby at_374) rfl k) ?_
    show own_Go _ _ _ _ (T46.setTop (mkF m 376 #[.val (.long q1), .second, .val (.long q2), .second, .val (.long q3), .second, .val (.long q4), .second, .val (.long q5), .second, .val (.int p6), .val (.int (1 : Int32)), .val (.int v12_2), .val (.ref b3), .val (.ref b30), .val (.int (1 : Int32))] [(.int (1 : Int32))]))
    refine own_by (fun _ k => XS.ifNo X46.here hx rfl (hb hby at_376) rfl ((if0 _ _).trans (feq (by decide)).1) k) ?_
    refine own_by (fun _ k => XS.aload X46.here hx rfl (hb hby at_379) rfl rfl k) ?_
    show own_Go _ _ _ _ (T46.setTop (mkF m 381 #[.val (.long q1), .second, .val (.long q2), .second, .val (.long q3), .second, .val (.long q4), .second, .val (.long q5), .second, .val (.int p6), .val (.int (1 : Int32)), .val (.int v12_2), .val (.ref b3), .val (.ref b30), .val (.int (1 : Int32))] [(.ref b30)]))
    refine own_callV X46 hx hZ hown (hw _ (List.mem_of_getElem? (i := 45) rfl)) (hw _ (List.mem_of_getElem? (i := 46) rfl)) (notFace_of_selects (args := #[]) (mvT hZ (hw _ (List.mem_of_getElem? (i := 48) rfl)))) (hw _ (List.mem_of_getElem? (i := 48) rfl)) (hw _ (List.mem_of_getElem? (i := 47) rfl)) (hw _ (List.mem_of_getElem? (i := 9) rfl)) (hw _ (List.mem_of_getElem? (i := 49) rfl)) (by decide) (rm9 l Z a0 hw [] b30 h46 n0 Z46 FS46) e46 b30 f48 (by rw [hml]; rfl) [] [] rfl (lenOf own_pd6 rfl) rfl 0 (Nat.le_of_eq rfl) (by decide) (by decide) (Nat.le_of_ble_eq_true rfl) (Nat.le_of_ble_eq_true rfl) (hb hby at_381) ?_
    intro T52 Lc52 v52 X52 hQ52
    obtain ⟨rfl, N52q, e52⟩ := hQ52
    have N52 := Fr.app N46 N52q
    show own_Go _ _ _ _ (T52.setTop (mkF m 384 #[.val (.long q1), .second, .val (.long q2), .second, .val (.long q3), .second, .val (.long q4), .second, .val (.long q5), .second, .val (.int p6), .val (.int (1 : Int32)), .val (.int v12_2), .val (.ref b3), .val (.ref b30), .val (.int (1 : Int32))] [(.int (1 : Int32))]))
    refine own_by (fun _ k => XS.ifNo X52.here hx rfl (hb hby at_384) rfl ((if0 _ _).trans (feq (by decide)).1) k) ?_
    refine own_by (fun _ k => XS.iconst X52.here hx rfl (hb hby at_387) k) ?_
    show own_Go _ _ _ _ (T52.setTop (mkF m 388 #[.val (.long q1), .second, .val (.long q2), .second, .val (.long q3), .second, .val (.long q4), .second, .val (.long q5), .second, .val (.int p6), .val (.int (1 : Int32)), .val (.int v12_2), .val (.ref b3), .val (.ref b30), .val (.int (1 : Int32))] [(.int (1 : Int32))]))
    refine own_by (fun _ k => XS.goto X52.here hx rfl (pc0 := 388) (pc' := 392) rfl (hb hby at_388) (by decide) (by decide) k) ?_
    show own_Go _ _ _ _ (T52.setTop (mkF m 392 #[.val (.long q1), .second, .val (.long q2), .second, .val (.long q3), .second, .val (.long q4), .second, .val (.long q5), .second, .val (.int p6), .val (.int (1 : Int32)), .val (.int v12_2), .val (.ref b3), .val (.ref b30), .val (.int (1 : Int32))] [(.int (1 : Int32))]))
    exact own_retN X52 hx Bd.notSynchronized e52 Bd.returns (by simp) (hb hby at_392) (⟨rfl, N52⟩) (by decide) (by decide)
  · --
    refine own_by (fun _ k => XS.iconst X0.here hx rfl (hb hby at_19) k) ?_
    show own_Go _ _ _ _ (s₁.setTop (mkF m 20 #[.val (.long q1), .second, .val (.long q2), .second, .val (.long q3), .second, .val (.long q4), .second, .val (.long q5), .second, .val (.int p6), .val (.int (2 : Int32)), .val (.int v12_2), .unset, .unset, .unset] [(.int (5 : Int32))]))
    refine own_newP X0 hx hZ (hw _ (List.mem_of_getElem? (i := 1) rfl)) e0 5 (by decide) 5 (by decide) (by decide) (by decide) (by decide) (hb hby at_20) ?_
    intro T53 h53 X53 e53 E53 A53
    show own_Go _ _ _ _ (T53.setTop (mkF m 22 #[.val (.long q1), .second, .val (.long q2), .second, .val (.long q3), .second, .val (.long q4), .second, .val (.long q5), .second, .val (.int p6), .val (.int (2 : Int32)), .val (.int v12_2), .unset, .unset, .unset] [.ref h0.size]))
    obtain ⟨b53, g53⟩ : ∃ z, z = h0.size := ⟨_, rfl⟩
    rw [← g53] at A53
    refine own_gen g53.symm (fun z_ => T53.setTop (mkF m 22 #[.val (.long q1), .second, .val (.long q2), .second, .val (.long q3), .second, .val (.long q4), .second, .val (.long q5), .second, .val (.int p6), .val (.int (2 : Int32)), .val (.int v12_2), .unset, .unset, .unset] [.ref z_])) ?_
    have ge53 : n0 ≤ b53 := Nat.le_trans Z0 (Nat.le_of_eq g53.symm)
    have Z53 := Nat.le_trans Z0 E53.1
    have f54 : own_AJ Z h53 b53 5 (fun _ => 0) := A53
    show own_Go _ _ _ _ (T53.setTop (mkF m 22 #[.val (.long q1), .second, .val (.long q2), .second, .val (.long q3), .second, .val (.long q4), .second, .val (.long q5), .second, .val (.int p6), .val (.int (2 : Int32)), .val (.int v12_2), .unset, .unset, .unset] [(.ref b53)]))
    refine own_by (fun _ k => XS.astore X53.here hx rfl (hb hby at_22) rfl rfl (l' := #[.val (.long q1), .second, .val (.long q2), .second, .val (.long q3), .second, .val (.long q4), .second, .val (.long q5), .second, .val (.int p6), .val (.int (2 : Int32)), .val (.int v12_2), .val (.ref b53), .unset, .unset]) rfl k) ?_
    refine own_by (fun _ k => XS.aload X53.here hx rfl (hb hby at_24) rfl rfl k) ?_
    refine own_by (fun _ k => XS.iconst X53.here hx rfl (hb hby at_26) k) ?_
    show own_Go _ _ _ _ (T53.setTop (mkF m 27 #[.val (.long q1), .second, .val (.long q2), .second, .val (.long q3), .second, .val (.long q4), .second, .val (.long q5), .second, .val (.int p6), .val (.int (2 : Int32)), .val (.int v12_2), .val (.ref b53), .unset, .unset] [(.int (0 : Int32)), (.ref b53)]))
    refine own_by (fun _ k => XS.lloadN X53.here hx rfl (hb hby at_27) rfl k) ?_
    show own_Go _ _ _ _ (T53.setTop (mkF m 28 #[.val (.long q1), .second, .val (.long q2), .second, .val (.long q3), .second, .val (.long q4), .second, .val (.long q5), .second, .val (.int p6), .val (.int (2 : Int32)), .val (.int v12_2), .val (.ref b53), .unset, .unset] [(.long q1), (.int (0 : Int32)), (.ref b53)]))
    refine own_las X53 hx hZ e53 f54 0 (by decide) (by decide) (hb hby at_28) ?_
    intro T55 h55 X55 e55 W55 A55
    have N55 := Fr.snoc X55 N0 ge53
    have Z55 := own_size_wr W55 Z53
    obtain ⟨fn55, hfn55⟩ : ∃ g : Nat → Int64, g = own_upd (fun _ => 0) 0 q1 := ⟨_, rfl⟩
    rw [← hfn55] at A55
    show own_Go _ _ _ _ (T55.setTop (mkF m 29 #[.val (.long q1), .second, .val (.long q2), .second, .val (.long q3), .second, .val (.long q4), .second, .val (.long q5), .second, .val (.int p6), .val (.int (2 : Int32)), .val (.int v12_2), .val (.ref b53), .unset, .unset] []))
    refine own_by (fun _ k => XS.aload X55.here hx rfl (hb hby at_29) rfl rfl k) ?_
    refine own_by (fun _ k => XS.iconst X55.here hx rfl (hb hby at_31) k) ?_
    refine own_by (fun _ k => XS.iload X55.here hx rfl (hb hby at_32) rfl k) ?_
    show own_Go _ _ _ _ (T55.setTop (mkF m 34 #[.val (.long q1), .second, .val (.long q2), .second, .val (.long q3), .second, .val (.long q4), .second, .val (.long q5), .second, .val (.int p6), .val (.int (2 : Int32)), .val (.int v12_2), .val (.ref b53), .unset, .unset] [(.int (2 : Int32)), (.int (1 : Int32)), (.ref b53)]))
    refine own_by (fun _ k => XS.iconst X55.here hx rfl (hb hby at_34) k) ?_
    show own_Go _ _ _ _ (T55.setTop (mkF m 35 #[.val (.long q1), .second, .val (.long q2), .second, .val (.long q3), .second, .val (.long q4), .second, .val (.long q5), .second, .val (.int p6), .val (.int (2 : Int32)), .val (.int v12_2), .val (.ref b53), .unset, .unset] [(.int (1 : Int32)), (.int (2 : Int32)), (.int (1 : Int32)), (.ref b53)]))
    refine own_by (fun _ k => XS.icmpNo X55.here hx rfl (hb hby at_35) rfl (tlt (by decide)).2.2.2 k) ?_
    refine own_by (fun _ k => XS.lloadN X55.here hx rfl (hb hby at_38) rfl k) ?_
    show own_Go _ _ _ _ (T55.setTop (mkF m 39 #[.val (.long q1), .second, .val (.long q2), .second, .val (.long q3), .second, .val (.long q4), .second, .val (.long q5), .second, .val (.int p6), .val (.int (2 : Int32)), .val (.int v12_2), .val (.ref b53), .unset, .unset] [(.long q2), (.int (1 : Int32)), (.ref b53)]))
    refine own_by (fun _ k => XS.goto X55.here hx rfl (pc0 := 39) (pc' := 45) rfl (hb hby at_39) (by decide) (by decide) k) ?_
    show own_Go _ _ _ _ (T55.setTop (mkF m 45 #[.val (.long q1), .second, .val (.long q2), .second, .val (.long q3), .second, .val (.long q4), .second, .val (.long q5), .second, .val (.int p6), .val (.int (2 : Int32)), .val (.int v12_2), .val (.ref b53), .unset, .unset] [(.long q2), (.int (1 : Int32)), (.ref b53)]))
    refine own_las X55 hx hZ e55 A55 1 (by decide) (by decide) (hb hby at_45) ?_
    intro T56 h56 X56 e56 W56 A56
    have N56 := Fr.snoc X56 N55 ge53
    have Z56 := own_size_wr W56 Z55
    obtain ⟨fn56, hfn56⟩ : ∃ g : Nat → Int64, g = own_upd fn55 1 q2 := ⟨_, rfl⟩
    rw [← hfn56] at A56
    show own_Go _ _ _ _ (T56.setTop (mkF m 46 #[.val (.long q1), .second, .val (.long q2), .second, .val (.long q3), .second, .val (.long q4), .second, .val (.long q5), .second, .val (.int p6), .val (.int (2 : Int32)), .val (.int v12_2), .val (.ref b53), .unset, .unset] []))
    refine own_by (fun _ k => XS.aload X56.here hx rfl (hb hby at_46) rfl rfl k) ?_
    refine own_by (fun _ k => XS.iconst X56.here hx rfl (hb hby at_48) k) ?_
    refine own_by (fun _ k => XS.iload X56.here hx rfl (hb hby at_49) rfl k) ?_
    show own_Go _ _ _ _ (T56.setTop (mkF m 51 #[.val (.long q1), .second, .val (.long q2), .second, .val (.long q3), .second, .val (.long q4), .second, .val (.long q5), .second, .val (.int p6), .val (.int (2 : Int32)), .val (.int v12_2), .val (.ref b53), .unset, .unset] [(.int (2 : Int32)), (.int (2 : Int32)), (.ref b53)]))
    refine own_by (fun _ k => XS.iconst X56.here hx rfl (hb hby at_51) k) ?_
    show own_Go _ _ _ _ (T56.setTop (mkF m 52 #[.val (.long q1), .second, .val (.long q2), .second, .val (.long q3), .second, .val (.long q4), .second, .val (.long q5), .second, .val (.int p6), .val (.int (2 : Int32)), .val (.int v12_2), .val (.ref b53), .unset, .unset] [(.int (2 : Int32)), (.int (2 : Int32)), (.int (2 : Int32)), (.ref b53)]))
    refine own_by (fun _ k => XS.icmpYes X56.here hx rfl (pc0 := 52) (pc' := 60) rfl (hb hby at_52) rfl (flt (by decide)).2.2.2 (by decide) (by decide) k) ?_
    show own_Go _ _ _ _ (T56.setTop (mkF m 60 #[.val (.long q1), .second, .val (.long q2), .second, .val (.long q3), .second, .val (.long q4), .second, .val (.long q5), .second, .val (.int p6), .val (.int (2 : Int32)), .val (.int v12_2), .val (.ref b53), .unset, .unset] [(.int (2 : Int32)), (.ref b53)]))
    refine own_by (fun _ k => X56.ldc2Long hx hown (mvT hZ (hw _ (List.mem_of_getElem? (i := 2) rfl))) (g := (mkF m 60 #[.val (.long q1), .second, .val (.long q2), .second, .val (.long q3), .second, .val (.long q4), .second, .val (.long q5), .second, .val (.int p6), .val (.int (2 : Int32)), .val (.int v12_2), .val (.ref b53), .unset, .unset] [(.int (2 : Int32)), (.ref b53)])) rfl (hb hby at_60) _ k) ?_
    show own_Go _ _ _ _ (T56.setTop (mkF m 63 #[.val (.long q1), .second, .val (.long q2), .second, .val (.long q3), .second, .val (.long q4), .second, .val (.long q5), .second, .val (.int p6), .val (.int (2 : Int32)), .val (.int v12_2), .val (.ref b53), .unset, .unset] [(.long (9223372036854775807 : Int64)), (.int (2 : Int32)), (.ref b53)]))
    refine own_las X56 hx hZ e56 A56 2 (by decide) (by decide) (hb hby at_63) ?_
    intro T57 h57 X57 e57 W57 A57
    have N57 := Fr.snoc X57 N56 ge53
    have Z57 := own_size_wr W57 Z56
    obtain ⟨fn57, hfn57⟩ : ∃ g : Nat → Int64, g = own_upd fn56 2 (9223372036854775807 : Int64) := ⟨_, rfl⟩
    rw [← hfn57] at A57
    show own_Go _ _ _ _ (T57.setTop (mkF m 64 #[.val (.long q1), .second, .val (.long q2), .second, .val (.long q3), .second, .val (.long q4), .second, .val (.long q5), .second, .val (.int p6), .val (.int (2 : Int32)), .val (.int v12_2), .val (.ref b53), .unset, .unset] []))
    refine own_by (fun _ k => XS.aload X57.here hx rfl (hb hby at_64) rfl rfl k) ?_
    refine own_by (fun _ k => XS.iconst X57.here hx rfl (hb hby at_66) k) ?_
    refine own_by (fun _ k => XS.iload X57.here hx rfl (hb hby at_67) rfl k) ?_
    show own_Go _ _ _ _ (T57.setTop (mkF m 69 #[.val (.long q1), .second, .val (.long q2), .second, .val (.long q3), .second, .val (.long q4), .second, .val (.long q5), .second, .val (.int p6), .val (.int (2 : Int32)), .val (.int v12_2), .val (.ref b53), .unset, .unset] [(.int (2 : Int32)), (.int (3 : Int32)), (.ref b53)]))
    refine own_by (fun _ k => XS.iconst X57.here hx rfl (hb hby at_69) k) ?_
    show own_Go _ _ _ _ (T57.setTop (mkF m 70 #[.val (.long q1), .second, .val (.long q2), .second, .val (.long q3), .second, .val (.long q4), .second, .val (.long q5), .second, .val (.int p6), .val (.int (2 : Int32)), .val (.int v12_2), .val (.ref b53), .unset, .unset] [(.int (3 : Int32)), (.int (2 : Int32)), (.int (3 : Int32)), (.ref b53)]))
    refine own_by (fun _ k => XS.icmpYes X57.here hx rfl (pc0 := 70) (pc' := 78) rfl (hb hby at_70) rfl (flt (by decide)).2.2.2 (by decide) (by decide) k) ?_
    show own_Go _ _ _ _ (T57.setTop (mkF m 78 #[.val (.long q1), .second, .val (.long q2), .second, .val (.long q3), .second, .val (.long q4), .second, .val (.long q5), .second, .val (.int p6), .val (.int (2 : Int32)), .val (.int v12_2), .val (.ref b53), .unset, .unset] [(.int (3 : Int32)), (.ref b53)]))
    refine own_by (fun _ k => X57.ldc2Long hx hown (mvT hZ (hw _ (List.mem_of_getElem? (i := 2) rfl))) (g := (mkF m 78 #[.val (.long q1), .second, .val (.long q2), .second, .val (.long q3), .second, .val (.long q4), .second, .val (.long q5), .second, .val (.int p6), .val (.int (2 : Int32)), .val (.int v12_2), .val (.ref b53), .unset, .unset] [(.int (3 : Int32)), (.ref b53)])) rfl (hb hby at_78) _ k) ?_
    show own_Go _ _ _ _ (T57.setTop (mkF m 81 #[.val (.long q1), .second, .val (.long q2), .second, .val (.long q3), .second, .val (.long q4), .second, .val (.long q5), .second, .val (.int p6), .val (.int (2 : Int32)), .val (.int v12_2), .val (.ref b53), .unset, .unset] [(.long (9223372036854775807 : Int64)), (.int (3 : Int32)), (.ref b53)]))
    refine own_las X57 hx hZ e57 A57 3 (by decide) (by decide) (hb hby at_81) ?_
    intro T58 h58 X58 e58 W58 A58
    have N58 := Fr.snoc X58 N57 ge53
    have Z58 := own_size_wr W58 Z57
    obtain ⟨fn58, hfn58⟩ : ∃ g : Nat → Int64, g = own_upd fn57 3 (9223372036854775807 : Int64) := ⟨_, rfl⟩
    rw [← hfn58] at A58
    show own_Go _ _ _ _ (T58.setTop (mkF m 82 #[.val (.long q1), .second, .val (.long q2), .second, .val (.long q3), .second, .val (.long q4), .second, .val (.long q5), .second, .val (.int p6), .val (.int (2 : Int32)), .val (.int v12_2), .val (.ref b53), .unset, .unset] []))
    refine own_by (fun _ k => XS.aload X58.here hx rfl (hb hby at_82) rfl rfl k) ?_
    refine own_by (fun _ k => XS.iconst X58.here hx rfl (hb hby at_84) k) ?_
    refine own_by (fun _ k => XS.iload X58.here hx rfl (hb hby at_85) rfl k) ?_
    show own_Go _ _ _ _ (T58.setTop (mkF m 87 #[.val (.long q1), .second, .val (.long q2), .second, .val (.long q3), .second, .val (.long q4), .second, .val (.long q5), .second, .val (.int p6), .val (.int (2 : Int32)), .val (.int v12_2), .val (.ref b53), .unset, .unset] [(.int (2 : Int32)), (.int (4 : Int32)), (.ref b53)]))
    refine own_by (fun _ k => XS.iconst X58.here hx rfl (hb hby at_87) k) ?_
    show own_Go _ _ _ _ (T58.setTop (mkF m 88 #[.val (.long q1), .second, .val (.long q2), .second, .val (.long q3), .second, .val (.long q4), .second, .val (.long q5), .second, .val (.int p6), .val (.int (2 : Int32)), .val (.int v12_2), .val (.ref b53), .unset, .unset] [(.int (4 : Int32)), (.int (2 : Int32)), (.int (4 : Int32)), (.ref b53)]))
    refine own_by (fun _ k => XS.icmpYes X58.here hx rfl (pc0 := 88) (pc' := 96) rfl (hb hby at_88) rfl (flt (by decide)).2.2.2 (by decide) (by decide) k) ?_
    show own_Go _ _ _ _ (T58.setTop (mkF m 96 #[.val (.long q1), .second, .val (.long q2), .second, .val (.long q3), .second, .val (.long q4), .second, .val (.long q5), .second, .val (.int p6), .val (.int (2 : Int32)), .val (.int v12_2), .val (.ref b53), .unset, .unset] [(.int (4 : Int32)), (.ref b53)]))
    refine own_by (fun _ k => X58.ldc2Long hx hown (mvT hZ (hw _ (List.mem_of_getElem? (i := 2) rfl))) (g := (mkF m 96 #[.val (.long q1), .second, .val (.long q2), .second, .val (.long q3), .second, .val (.long q4), .second, .val (.long q5), .second, .val (.int p6), .val (.int (2 : Int32)), .val (.int v12_2), .val (.ref b53), .unset, .unset] [(.int (4 : Int32)), (.ref b53)])) rfl (hb hby at_96) _ k) ?_
    show own_Go _ _ _ _ (T58.setTop (mkF m 99 #[.val (.long q1), .second, .val (.long q2), .second, .val (.long q3), .second, .val (.long q4), .second, .val (.long q5), .second, .val (.int p6), .val (.int (2 : Int32)), .val (.int v12_2), .val (.ref b53), .unset, .unset] [(.long (9223372036854775807 : Int64)), (.int (4 : Int32)), (.ref b53)]))
    refine own_las X58 hx hZ e58 A58 4 (by decide) (by decide) (hb hby at_99) ?_
    intro T59 h59 X59 e59 W59 A59
    have N59 := Fr.snoc X59 N58 ge53
    have Z59 := own_size_wr W59 Z58
    obtain ⟨fn59, hfn59⟩ : ∃ g : Nat → Int64, g = own_upd fn58 4 (9223372036854775807 : Int64) := ⟨_, rfl⟩
    rw [← hfn59] at A59
    obtain ⟨r0, hr0⟩ : ∃ g : Nat → Int64, g = fn59 := ⟨_, rfl⟩
    rw [← hr0] at A59
    have cr0 : ∀ x, own_cnt r0 x 5 = own_one q1 x + own_one q2 x + own_one (9223372036854775807 : Int64) x + own_one (9223372036854775807 : Int64) x + own_one (9223372036854775807 : Int64) x := fun x => by rw [hr0]; simp [own_cnt, own_upd, hfn59, hfn58, hfn57, hfn56, hfn55]
    show own_Go _ _ _ _ (T59.setTop (mkF m 100 #[.val (.long q1), .second, .val (.long q2), .second, .val (.long q3), .second, .val (.long q4), .second, .val (.long q5), .second, .val (.int p6), .val (.int (2 : Int32)), .val (.int v12_2), .val (.ref b53), .unset, .unset] []))
    refine own_by (fun _ k => XS.aload X59.here hx rfl (hb hby at_100) rfl rfl k) ?_
    refine own_by (fun _ k => XS.iconst X59.here hx rfl (hb hby at_102) k) ?_
    refine own_by (fun _ k => XS.iconst X59.here hx rfl (hb hby at_103) k) ?_
    show own_Go _ _ _ _ (T59.setTop (mkF m 104 #[.val (.long q1), .second, .val (.long q2), .second, .val (.long q3), .second, .val (.long q4), .second, .val (.long q5), .second, .val (.int p6), .val (.int (2 : Int32)), .val (.int v12_2), .val (.ref b53), .unset, .unset] [(.int (1 : Int32)), (.int (0 : Int32)), (.ref b53)]))
    refine own_callS X59 hx hZ hown (hw _ (List.mem_of_getElem? (i := 3) rfl)) (hw _ (List.mem_of_getElem? (i := 4) rfl)) (hw _ (List.mem_of_getElem? (i := 5) rfl)) (hw _ (List.mem_of_getElem? (i := 6) rfl)) (by decide) (rm1 l Z a0 hw [] b53 (0 : Int32) (1 : Int32) 0 1 r0 h59 n0 Z59 A59 (by decide) (by decide) (by decide) (by decide) (by decide) ge53) e59 (by rw [hml]; rfl) [(.ref b53), (.int (0 : Int32)), (.int (1 : Int32))] [] rfl (lenOf own_pd0 rfl) rfl 0 (Nat.le_of_eq rfl) (by decide) (by decide) (Nat.le_of_ble_eq_true rfl) (Nat.le_of_ble_eq_true rfl) (hb hby at_104) ?_
    intro T60 Lc60 v60 X60 hQ60
    obtain ⟨h60, e60⟩ : ∃ h, T60.heap = h := ⟨_, rfl⟩
    rw [e60] at hQ60
    obtain ⟨rfl, N60q, K60, A60⟩ := hQ60
    have N60 := Fr.app N59 N60q
    have Z60 := Nat.le_trans Z59 K60.1
    obtain ⟨r60, hr60⟩ : ∃ g : Nat → Int64, g = own_cs r0 0 1 := ⟨_, rfl⟩
    rw [← hr60] at A60
    have cr60 : ∀ x, own_cnt r60 x 5 = own_one q1 x + own_one q2 x + own_one (9223372036854775807 : Int64) x + own_one (9223372036854775807 : Int64) x + own_one (9223372036854775807 : Int64) x := fun x => by rw [hr60]; exact (own_cs_cnt r0 0 (by decide) x).trans (cr0 x)
    have dm60_1 : own_dom r60 1 := by rw [hr60]; exact own_dom_step r0 0 (own_dom0 r0)
    show own_Go _ _ _ _ (T60.setTop (mkF m 107 #[.val (.long q1), .second, .val (.long q2), .second, .val (.long q3), .second, .val (.long q4), .second, .val (.long q5), .second, .val (.int p6), .val (.int (2 : Int32)), .val (.int v12_2), .val (.ref b53), .unset, .unset] []))
    refine own_by (fun _ k => XS.aload X60.here hx rfl (hb hby at_107) rfl rfl k) ?_
    refine own_by (fun _ k => XS.iconst X60.here hx rfl (hb hby at_109) k) ?_
    refine own_by (fun _ k => XS.iconst X60.here hx rfl (hb hby at_110) k) ?_
    show own_Go _ _ _ _ (T60.setTop (mkF m 111 #[.val (.long q1), .second, .val (.long q2), .second, .val (.long q3), .second, .val (.long q4), .second, .val (.long q5), .second, .val (.int p6), .val (.int (2 : Int32)), .val (.int v12_2), .val (.ref b53), .unset, .unset] [(.int (2 : Int32)), (.int (1 : Int32)), (.ref b53)]))
    refine own_callS X60 hx hZ hown (hw _ (List.mem_of_getElem? (i := 3) rfl)) (hw _ (List.mem_of_getElem? (i := 4) rfl)) (hw _ (List.mem_of_getElem? (i := 5) rfl)) (hw _ (List.mem_of_getElem? (i := 6) rfl)) (by decide) (rm1 l Z a0 hw [] b53 (1 : Int32) (2 : Int32) 1 2 r60 h60 n0 Z60 A60 (by decide) (by decide) (by decide) (by decide) (by decide) ge53) e60 (by rw [hml]; rfl) [(.ref b53), (.int (1 : Int32)), (.int (2 : Int32))] [] rfl (lenOf own_pd0 rfl) rfl 0 (Nat.le_of_eq rfl) (by decide) (by decide) (Nat.le_of_ble_eq_true rfl) (Nat.le_of_ble_eq_true rfl) (hb hby at_111) ?_
    intro T62 Lc62 v62 X62 hQ62
    obtain ⟨h62, e62⟩ : ∃ h, T62.heap = h := ⟨_, rfl⟩
    rw [e62] at hQ62
    obtain ⟨rfl, N62q, K62, A62⟩ := hQ62
    have N62 := Fr.app N60 N62q
    have Z62 := Nat.le_trans Z60 K62.1
    obtain ⟨r62, hr62⟩ : ∃ g : Nat → Int64, g = own_cs r60 1 2 := ⟨_, rfl⟩
    rw [← hr62] at A62
    have cr62 : ∀ x, own_cnt r62 x 5 = own_one q1 x + own_one q2 x + own_one (9223372036854775807 : Int64) x + own_one (9223372036854775807 : Int64) x + own_one (9223372036854775807 : Int64) x := fun x => by rw [hr62]; exact (own_cs_cnt r60 1 (by decide) x).trans (cr60 x)
    have dm62_2 : own_dom r62 2 := by rw [hr62]; exact own_dom_step r60 1 dm60_1
    show own_Go _ _ _ _ (T62.setTop (mkF m 114 #[.val (.long q1), .second, .val (.long q2), .second, .val (.long q3), .second, .val (.long q4), .second, .val (.long q5), .second, .val (.int p6), .val (.int (2 : Int32)), .val (.int v12_2), .val (.ref b53), .unset, .unset] []))
    refine own_by (fun _ k => XS.aload X62.here hx rfl (hb hby at_114) rfl rfl k) ?_
    refine own_by (fun _ k => XS.iconst X62.here hx rfl (hb hby at_116) k) ?_
    refine own_by (fun _ k => XS.iconst X62.here hx rfl (hb hby at_117) k) ?_
    show own_Go _ _ _ _ (T62.setTop (mkF m 118 #[.val (.long q1), .second, .val (.long q2), .second, .val (.long q3), .second, .val (.long q4), .second, .val (.long q5), .second, .val (.int p6), .val (.int (2 : Int32)), .val (.int v12_2), .val (.ref b53), .unset, .unset] [(.int (3 : Int32)), (.int (2 : Int32)), (.ref b53)]))
    refine own_callS X62 hx hZ hown (hw _ (List.mem_of_getElem? (i := 3) rfl)) (hw _ (List.mem_of_getElem? (i := 4) rfl)) (hw _ (List.mem_of_getElem? (i := 5) rfl)) (hw _ (List.mem_of_getElem? (i := 6) rfl)) (by decide) (rm1 l Z a0 hw [] b53 (2 : Int32) (3 : Int32) 2 3 r62 h62 n0 Z62 A62 (by decide) (by decide) (by decide) (by decide) (by decide) ge53) e62 (by rw [hml]; rfl) [(.ref b53), (.int (2 : Int32)), (.int (3 : Int32))] [] rfl (lenOf own_pd0 rfl) rfl 0 (Nat.le_of_eq rfl) (by decide) (by decide) (Nat.le_of_ble_eq_true rfl) (Nat.le_of_ble_eq_true rfl) (hb hby at_118) ?_
    intro T64 Lc64 v64 X64 hQ64
    obtain ⟨h64, e64⟩ : ∃ h, T64.heap = h := ⟨_, rfl⟩
    rw [e64] at hQ64
    obtain ⟨rfl, N64q, K64, A64⟩ := hQ64
    have N64 := Fr.app N62 N64q
    have Z64 := Nat.le_trans Z62 K64.1
    obtain ⟨r64, hr64⟩ : ∃ g : Nat → Int64, g = own_cs r62 2 3 := ⟨_, rfl⟩
    rw [← hr64] at A64
    have cr64 : ∀ x, own_cnt r64 x 5 = own_one q1 x + own_one q2 x + own_one (9223372036854775807 : Int64) x + own_one (9223372036854775807 : Int64) x + own_one (9223372036854775807 : Int64) x := fun x => by rw [hr64]; exact (own_cs_cnt r62 2 (by decide) x).trans (cr62 x)
    have dm64_3 : own_dom r64 3 := by rw [hr64]; exact own_dom_step r62 2 dm62_2
    show own_Go _ _ _ _ (T64.setTop (mkF m 121 #[.val (.long q1), .second, .val (.long q2), .second, .val (.long q3), .second, .val (.long q4), .second, .val (.long q5), .second, .val (.int p6), .val (.int (2 : Int32)), .val (.int v12_2), .val (.ref b53), .unset, .unset] []))
    refine own_by (fun _ k => XS.aload X64.here hx rfl (hb hby at_121) rfl rfl k) ?_
    refine own_by (fun _ k => XS.iconst X64.here hx rfl (hb hby at_123) k) ?_
    refine own_by (fun _ k => XS.iconst X64.here hx rfl (hb hby at_124) k) ?_
    show own_Go _ _ _ _ (T64.setTop (mkF m 125 #[.val (.long q1), .second, .val (.long q2), .second, .val (.long q3), .second, .val (.long q4), .second, .val (.long q5), .second, .val (.int p6), .val (.int (2 : Int32)), .val (.int v12_2), .val (.ref b53), .unset, .unset] [(.int (4 : Int32)), (.int (3 : Int32)), (.ref b53)]))
    refine own_callS X64 hx hZ hown (hw _ (List.mem_of_getElem? (i := 3) rfl)) (hw _ (List.mem_of_getElem? (i := 4) rfl)) (hw _ (List.mem_of_getElem? (i := 5) rfl)) (hw _ (List.mem_of_getElem? (i := 6) rfl)) (by decide) (rm1 l Z a0 hw [] b53 (3 : Int32) (4 : Int32) 3 4 r64 h64 n0 Z64 A64 (by decide) (by decide) (by decide) (by decide) (by decide) ge53) e64 (by rw [hml]; rfl) [(.ref b53), (.int (3 : Int32)), (.int (4 : Int32))] [] rfl (lenOf own_pd0 rfl) rfl 0 (Nat.le_of_eq rfl) (by decide) (by decide) (Nat.le_of_ble_eq_true rfl) (Nat.le_of_ble_eq_true rfl) (hb hby at_125) ?_
    intro T66 Lc66 v66 X66 hQ66
    obtain ⟨h66, e66⟩ : ∃ h, T66.heap = h := ⟨_, rfl⟩
    rw [e66] at hQ66
    obtain ⟨rfl, N66q, K66, A66⟩ := hQ66
    have N66 := Fr.app N64 N66q
    have Z66 := Nat.le_trans Z64 K66.1
    obtain ⟨r66, hr66⟩ : ∃ g : Nat → Int64, g = own_cs r64 3 4 := ⟨_, rfl⟩
    rw [← hr66] at A66
    have cr66 : ∀ x, own_cnt r66 x 5 = own_one q1 x + own_one q2 x + own_one (9223372036854775807 : Int64) x + own_one (9223372036854775807 : Int64) x + own_one (9223372036854775807 : Int64) x := fun x => by rw [hr66]; exact (own_cs_cnt r64 3 (by decide) x).trans (cr64 x)
    have dm66_4 : own_dom r66 4 := by rw [hr66]; exact own_dom_step r64 3 dm64_3
    show own_Go _ _ _ _ (T66.setTop (mkF m 128 #[.val (.long q1), .second, .val (.long q2), .second, .val (.long q3), .second, .val (.long q4), .second, .val (.long q5), .second, .val (.int p6), .val (.int (2 : Int32)), .val (.int v12_2), .val (.ref b53), .unset, .unset] []))
    refine own_by (fun _ k => XS.aload X66.here hx rfl (hb hby at_128) rfl rfl k) ?_
    refine own_by (fun _ k => XS.iconst X66.here hx rfl (hb hby at_130) k) ?_
    refine own_by (fun _ k => XS.iconst X66.here hx rfl (hb hby at_131) k) ?_
    show own_Go _ _ _ _ (T66.setTop (mkF m 132 #[.val (.long q1), .second, .val (.long q2), .second, .val (.long q3), .second, .val (.long q4), .second, .val (.long q5), .second, .val (.int p6), .val (.int (2 : Int32)), .val (.int v12_2), .val (.ref b53), .unset, .unset] [(.int (1 : Int32)), (.int (0 : Int32)), (.ref b53)]))
    refine own_callS X66 hx hZ hown (hw _ (List.mem_of_getElem? (i := 3) rfl)) (hw _ (List.mem_of_getElem? (i := 4) rfl)) (hw _ (List.mem_of_getElem? (i := 5) rfl)) (hw _ (List.mem_of_getElem? (i := 6) rfl)) (by decide) (rm1 l Z a0 hw [] b53 (0 : Int32) (1 : Int32) 0 1 r66 h66 n0 Z66 A66 (by decide) (by decide) (by decide) (by decide) (by decide) ge53) e66 (by rw [hml]; rfl) [(.ref b53), (.int (0 : Int32)), (.int (1 : Int32))] [] rfl (lenOf own_pd0 rfl) rfl 0 (Nat.le_of_eq rfl) (by decide) (by decide) (Nat.le_of_ble_eq_true rfl) (Nat.le_of_ble_eq_true rfl) (hb hby at_132) ?_
    intro T68 Lc68 v68 X68 hQ68
    obtain ⟨h68, e68⟩ : ∃ h, T68.heap = h := ⟨_, rfl⟩
    rw [e68] at hQ68
    obtain ⟨rfl, N68q, K68, A68⟩ := hQ68
    have N68 := Fr.app N66 N68q
    have Z68 := Nat.le_trans Z66 K68.1
    obtain ⟨r68, hr68⟩ : ∃ g : Nat → Int64, g = own_cs r66 0 1 := ⟨_, rfl⟩
    rw [← hr68] at A68
    have cr68 : ∀ x, own_cnt r68 x 5 = own_one q1 x + own_one q2 x + own_one (9223372036854775807 : Int64) x + own_one (9223372036854775807 : Int64) x + own_one (9223372036854775807 : Int64) x := fun x => by rw [hr68]; exact (own_cs_cnt r66 0 (by decide) x).trans (cr66 x)
    have dm68_4 : own_dom r68 4 := by rw [hr68]; exact own_dom_keep r66 0 4 (by decide) dm66_4
    have dm68_1 : own_dom r68 1 := by rw [hr68]; exact own_dom_step r66 0 (own_dom0 r66)
    show own_Go _ _ _ _ (T68.setTop (mkF m 135 #[.val (.long q1), .second, .val (.long q2), .second, .val (.long q3), .second, .val (.long q4), .second, .val (.long q5), .second, .val (.int p6), .val (.int (2 : Int32)), .val (.int v12_2), .val (.ref b53), .unset, .unset] []))
    refine own_by (fun _ k => XS.aload X68.here hx rfl (hb hby at_135) rfl rfl k) ?_
    refine own_by (fun _ k => XS.iconst X68.here hx rfl (hb hby at_137) k) ?_
    refine own_by (fun _ k => XS.iconst X68.here hx rfl (hb hby at_138) k) ?_
    show own_Go _ _ _ _ (T68.setTop (mkF m 139 #[.val (.long q1), .second, .val (.long q2), .second, .val (.long q3), .second, .val (.long q4), .second, .val (.long q5), .second, .val (.int p6), .val (.int (2 : Int32)), .val (.int v12_2), .val (.ref b53), .unset, .unset] [(.int (2 : Int32)), (.int (1 : Int32)), (.ref b53)]))
    refine own_callS X68 hx hZ hown (hw _ (List.mem_of_getElem? (i := 3) rfl)) (hw _ (List.mem_of_getElem? (i := 4) rfl)) (hw _ (List.mem_of_getElem? (i := 5) rfl)) (hw _ (List.mem_of_getElem? (i := 6) rfl)) (by decide) (rm1 l Z a0 hw [] b53 (1 : Int32) (2 : Int32) 1 2 r68 h68 n0 Z68 A68 (by decide) (by decide) (by decide) (by decide) (by decide) ge53) e68 (by rw [hml]; rfl) [(.ref b53), (.int (1 : Int32)), (.int (2 : Int32))] [] rfl (lenOf own_pd0 rfl) rfl 0 (Nat.le_of_eq rfl) (by decide) (by decide) (Nat.le_of_ble_eq_true rfl) (Nat.le_of_ble_eq_true rfl) (hb hby at_139) ?_
    intro T70 Lc70 v70 X70 hQ70
    obtain ⟨h70, e70⟩ : ∃ h, T70.heap = h := ⟨_, rfl⟩
    rw [e70] at hQ70
    obtain ⟨rfl, N70q, K70, A70⟩ := hQ70
    have N70 := Fr.app N68 N70q
    have Z70 := Nat.le_trans Z68 K70.1
    obtain ⟨r70, hr70⟩ : ∃ g : Nat → Int64, g = own_cs r68 1 2 := ⟨_, rfl⟩
    rw [← hr70] at A70
    have cr70 : ∀ x, own_cnt r70 x 5 = own_one q1 x + own_one q2 x + own_one (9223372036854775807 : Int64) x + own_one (9223372036854775807 : Int64) x + own_one (9223372036854775807 : Int64) x := fun x => by rw [hr70]; exact (own_cs_cnt r68 1 (by decide) x).trans (cr68 x)
    have dm70_4 : own_dom r70 4 := by rw [hr70]; exact own_dom_keep r68 1 4 (by decide) dm68_4
    have dm70_2 : own_dom r70 2 := by rw [hr70]; exact own_dom_step r68 1 dm68_1
    show own_Go _ _ _ _ (T70.setTop (mkF m 142 #[.val (.long q1), .second, .val (.long q2), .second, .val (.long q3), .second, .val (.long q4), .second, .val (.long q5), .second, .val (.int p6), .val (.int (2 : Int32)), .val (.int v12_2), .val (.ref b53), .unset, .unset] []))
    refine own_by (fun _ k => XS.aload X70.here hx rfl (hb hby at_142) rfl rfl k) ?_
    refine own_by (fun _ k => XS.iconst X70.here hx rfl (hb hby at_144) k) ?_
    refine own_by (fun _ k => XS.iconst X70.here hx rfl (hb hby at_145) k) ?_
    show own_Go _ _ _ _ (T70.setTop (mkF m 146 #[.val (.long q1), .second, .val (.long q2), .second, .val (.long q3), .second, .val (.long q4), .second, .val (.long q5), .second, .val (.int p6), .val (.int (2 : Int32)), .val (.int v12_2), .val (.ref b53), .unset, .unset] [(.int (3 : Int32)), (.int (2 : Int32)), (.ref b53)]))
    refine own_callS X70 hx hZ hown (hw _ (List.mem_of_getElem? (i := 3) rfl)) (hw _ (List.mem_of_getElem? (i := 4) rfl)) (hw _ (List.mem_of_getElem? (i := 5) rfl)) (hw _ (List.mem_of_getElem? (i := 6) rfl)) (by decide) (rm1 l Z a0 hw [] b53 (2 : Int32) (3 : Int32) 2 3 r70 h70 n0 Z70 A70 (by decide) (by decide) (by decide) (by decide) (by decide) ge53) e70 (by rw [hml]; rfl) [(.ref b53), (.int (2 : Int32)), (.int (3 : Int32))] [] rfl (lenOf own_pd0 rfl) rfl 0 (Nat.le_of_eq rfl) (by decide) (by decide) (Nat.le_of_ble_eq_true rfl) (Nat.le_of_ble_eq_true rfl) (hb hby at_146) ?_
    intro T72 Lc72 v72 X72 hQ72
    obtain ⟨h72, e72⟩ : ∃ h, T72.heap = h := ⟨_, rfl⟩
    rw [e72] at hQ72
    obtain ⟨rfl, N72q, K72, A72⟩ := hQ72
    have N72 := Fr.app N70 N72q
    have Z72 := Nat.le_trans Z70 K72.1
    obtain ⟨r72, hr72⟩ : ∃ g : Nat → Int64, g = own_cs r70 2 3 := ⟨_, rfl⟩
    rw [← hr72] at A72
    have cr72 : ∀ x, own_cnt r72 x 5 = own_one q1 x + own_one q2 x + own_one (9223372036854775807 : Int64) x + own_one (9223372036854775807 : Int64) x + own_one (9223372036854775807 : Int64) x := fun x => by rw [hr72]; exact (own_cs_cnt r70 2 (by decide) x).trans (cr70 x)
    have dm72_4 : own_dom r72 4 := by rw [hr72]; exact own_dom_keep r70 2 4 (by decide) dm70_4
    have dm72_3 : own_dom r72 3 := by rw [hr72]; exact own_dom_step r70 2 dm70_2
    show own_Go _ _ _ _ (T72.setTop (mkF m 149 #[.val (.long q1), .second, .val (.long q2), .second, .val (.long q3), .second, .val (.long q4), .second, .val (.long q5), .second, .val (.int p6), .val (.int (2 : Int32)), .val (.int v12_2), .val (.ref b53), .unset, .unset] []))
    refine own_by (fun _ k => XS.aload X72.here hx rfl (hb hby at_149) rfl rfl k) ?_
    refine own_by (fun _ k => XS.iconst X72.here hx rfl (hb hby at_151) k) ?_
    refine own_by (fun _ k => XS.iconst X72.here hx rfl (hb hby at_152) k) ?_
    show own_Go _ _ _ _ (T72.setTop (mkF m 153 #[.val (.long q1), .second, .val (.long q2), .second, .val (.long q3), .second, .val (.long q4), .second, .val (.long q5), .second, .val (.int p6), .val (.int (2 : Int32)), .val (.int v12_2), .val (.ref b53), .unset, .unset] [(.int (1 : Int32)), (.int (0 : Int32)), (.ref b53)]))
    refine own_callS X72 hx hZ hown (hw _ (List.mem_of_getElem? (i := 3) rfl)) (hw _ (List.mem_of_getElem? (i := 4) rfl)) (hw _ (List.mem_of_getElem? (i := 5) rfl)) (hw _ (List.mem_of_getElem? (i := 6) rfl)) (by decide) (rm1 l Z a0 hw [] b53 (0 : Int32) (1 : Int32) 0 1 r72 h72 n0 Z72 A72 (by decide) (by decide) (by decide) (by decide) (by decide) ge53) e72 (by rw [hml]; rfl) [(.ref b53), (.int (0 : Int32)), (.int (1 : Int32))] [] rfl (lenOf own_pd0 rfl) rfl 0 (Nat.le_of_eq rfl) (by decide) (by decide) (Nat.le_of_ble_eq_true rfl) (Nat.le_of_ble_eq_true rfl) (hb hby at_153) ?_
    intro T74 Lc74 v74 X74 hQ74
    obtain ⟨h74, e74⟩ : ∃ h, T74.heap = h := ⟨_, rfl⟩
    rw [e74] at hQ74
    obtain ⟨rfl, N74q, K74, A74⟩ := hQ74
    have N74 := Fr.app N72 N74q
    have Z74 := Nat.le_trans Z72 K74.1
    obtain ⟨r74, hr74⟩ : ∃ g : Nat → Int64, g = own_cs r72 0 1 := ⟨_, rfl⟩
    rw [← hr74] at A74
    have cr74 : ∀ x, own_cnt r74 x 5 = own_one q1 x + own_one q2 x + own_one (9223372036854775807 : Int64) x + own_one (9223372036854775807 : Int64) x + own_one (9223372036854775807 : Int64) x := fun x => by rw [hr74]; exact (own_cs_cnt r72 0 (by decide) x).trans (cr72 x)
    have dm74_4 : own_dom r74 4 := by rw [hr74]; exact own_dom_keep r72 0 4 (by decide) dm72_4
    have dm74_3 : own_dom r74 3 := by rw [hr74]; exact own_dom_keep r72 0 3 (by decide) dm72_3
    have dm74_1 : own_dom r74 1 := by rw [hr74]; exact own_dom_step r72 0 (own_dom0 r72)
    show own_Go _ _ _ _ (T74.setTop (mkF m 156 #[.val (.long q1), .second, .val (.long q2), .second, .val (.long q3), .second, .val (.long q4), .second, .val (.long q5), .second, .val (.int p6), .val (.int (2 : Int32)), .val (.int v12_2), .val (.ref b53), .unset, .unset] []))
    refine own_by (fun _ k => XS.aload X74.here hx rfl (hb hby at_156) rfl rfl k) ?_
    refine own_by (fun _ k => XS.iconst X74.here hx rfl (hb hby at_158) k) ?_
    refine own_by (fun _ k => XS.iconst X74.here hx rfl (hb hby at_159) k) ?_
    show own_Go _ _ _ _ (T74.setTop (mkF m 160 #[.val (.long q1), .second, .val (.long q2), .second, .val (.long q3), .second, .val (.long q4), .second, .val (.long q5), .second, .val (.int p6), .val (.int (2 : Int32)), .val (.int v12_2), .val (.ref b53), .unset, .unset] [(.int (2 : Int32)), (.int (1 : Int32)), (.ref b53)]))
    refine own_callS X74 hx hZ hown (hw _ (List.mem_of_getElem? (i := 3) rfl)) (hw _ (List.mem_of_getElem? (i := 4) rfl)) (hw _ (List.mem_of_getElem? (i := 5) rfl)) (hw _ (List.mem_of_getElem? (i := 6) rfl)) (by decide) (rm1 l Z a0 hw [] b53 (1 : Int32) (2 : Int32) 1 2 r74 h74 n0 Z74 A74 (by decide) (by decide) (by decide) (by decide) (by decide) ge53) e74 (by rw [hml]; rfl) [(.ref b53), (.int (1 : Int32)), (.int (2 : Int32))] [] rfl (lenOf own_pd0 rfl) rfl 0 (Nat.le_of_eq rfl) (by decide) (by decide) (Nat.le_of_ble_eq_true rfl) (Nat.le_of_ble_eq_true rfl) (hb hby at_160) ?_
    intro T76 Lc76 v76 X76 hQ76
    obtain ⟨h76, e76⟩ : ∃ h, T76.heap = h := ⟨_, rfl⟩
    rw [e76] at hQ76
    obtain ⟨rfl, N76q, K76, A76⟩ := hQ76
    have N76 := Fr.app N74 N76q
    have Z76 := Nat.le_trans Z74 K76.1
    obtain ⟨r76, hr76⟩ : ∃ g : Nat → Int64, g = own_cs r74 1 2 := ⟨_, rfl⟩
    rw [← hr76] at A76
    have cr76 : ∀ x, own_cnt r76 x 5 = own_one q1 x + own_one q2 x + own_one (9223372036854775807 : Int64) x + own_one (9223372036854775807 : Int64) x + own_one (9223372036854775807 : Int64) x := fun x => by rw [hr76]; exact (own_cs_cnt r74 1 (by decide) x).trans (cr74 x)
    have dm76_4 : own_dom r76 4 := by rw [hr76]; exact own_dom_keep r74 1 4 (by decide) dm74_4
    have dm76_3 : own_dom r76 3 := by rw [hr76]; exact own_dom_keep r74 1 3 (by decide) dm74_3
    have dm76_2 : own_dom r76 2 := by rw [hr76]; exact own_dom_step r74 1 dm74_1
    show own_Go _ _ _ _ (T76.setTop (mkF m 163 #[.val (.long q1), .second, .val (.long q2), .second, .val (.long q3), .second, .val (.long q4), .second, .val (.long q5), .second, .val (.int p6), .val (.int (2 : Int32)), .val (.int v12_2), .val (.ref b53), .unset, .unset] []))
    refine own_by (fun _ k => XS.aload X76.here hx rfl (hb hby at_163) rfl rfl k) ?_
    refine own_by (fun _ k => XS.iconst X76.here hx rfl (hb hby at_165) k) ?_
    refine own_by (fun _ k => XS.iconst X76.here hx rfl (hb hby at_166) k) ?_
    show own_Go _ _ _ _ (T76.setTop (mkF m 167 #[.val (.long q1), .second, .val (.long q2), .second, .val (.long q3), .second, .val (.long q4), .second, .val (.long q5), .second, .val (.int p6), .val (.int (2 : Int32)), .val (.int v12_2), .val (.ref b53), .unset, .unset] [(.int (1 : Int32)), (.int (0 : Int32)), (.ref b53)]))
    refine own_callS X76 hx hZ hown (hw _ (List.mem_of_getElem? (i := 3) rfl)) (hw _ (List.mem_of_getElem? (i := 4) rfl)) (hw _ (List.mem_of_getElem? (i := 5) rfl)) (hw _ (List.mem_of_getElem? (i := 6) rfl)) (by decide) (rm1 l Z a0 hw [] b53 (0 : Int32) (1 : Int32) 0 1 r76 h76 n0 Z76 A76 (by decide) (by decide) (by decide) (by decide) (by decide) ge53) e76 (by rw [hml]; rfl) [(.ref b53), (.int (0 : Int32)), (.int (1 : Int32))] [] rfl (lenOf own_pd0 rfl) rfl 0 (Nat.le_of_eq rfl) (by decide) (by decide) (Nat.le_of_ble_eq_true rfl) (Nat.le_of_ble_eq_true rfl) (hb hby at_167) ?_
    intro T78 Lc78 v78 X78 hQ78
    obtain ⟨h78, e78⟩ : ∃ h, T78.heap = h := ⟨_, rfl⟩
    rw [e78] at hQ78
    obtain ⟨rfl, N78q, K78, A78⟩ := hQ78
    have N78 := Fr.app N76 N78q
    have Z78 := Nat.le_trans Z76 K78.1
    obtain ⟨r78, hr78⟩ : ∃ g : Nat → Int64, g = own_cs r76 0 1 := ⟨_, rfl⟩
    rw [← hr78] at A78
    have cr78 : ∀ x, own_cnt r78 x 5 = own_one q1 x + own_one q2 x + own_one (9223372036854775807 : Int64) x + own_one (9223372036854775807 : Int64) x + own_one (9223372036854775807 : Int64) x := fun x => by rw [hr78]; exact (own_cs_cnt r76 0 (by decide) x).trans (cr76 x)
    have dm78_4 : own_dom r78 4 := by rw [hr78]; exact own_dom_keep r76 0 4 (by decide) dm76_4
    have dm78_3 : own_dom r78 3 := by rw [hr78]; exact own_dom_keep r76 0 3 (by decide) dm76_3
    have dm78_2 : own_dom r78 2 := by rw [hr78]; exact own_dom_keep r76 0 2 (by decide) dm76_2
    have dm78_1 : own_dom r78 1 := by rw [hr78]; exact own_dom_step r76 0 (own_dom0 r76)
    have hsd : own_sd [r78 0, r78 1, r78 2, r78 3, r78 4] := by
      have s01 := dm78_1 0 (by decide)
      have s02 := dm78_2 0 (by decide)
      have s03 := dm78_3 0 (by decide)
      have s04 := dm78_4 0 (by decide)
      have s12 := dm78_2 1 (by decide)
      have s13 := dm78_3 1 (by decide)
      have s14 := dm78_4 1 (by decide)
      have s23 := dm78_3 2 (by decide)
      have s24 := dm78_4 2 (by decide)
      have s34 := dm78_4 3 (by decide)
      simp [own_sd, s01, s02, s03, s04, s12, s13, s14, s23, s24, s34]
    have hrl : ∀ x, own_cl x [r78 0, r78 1, r78 2, r78 3, r78 4] = own_one q1 x + own_one q2 x + own_one (9223372036854775807 : Int64) x + own_one (9223372036854775807 : Int64) x + own_one (9223372036854775807 : Int64) x := fun x => by have q := cr78 x; simp [own_cnt] at q; simp [own_cl]; omega
    show own_Go _ _ _ _ (T78.setTop (mkF m 170 #[.val (.long q1), .second, .val (.long q2), .second, .val (.long q3), .second, .val (.long q4), .second, .val (.long q5), .second, .val (.int p6), .val (.int (2 : Int32)), .val (.int v12_2), .val (.ref b53), .unset, .unset] []))
    obtain ⟨T80, h80, X80, e80, E80, A80, D80, -, st80⟩ := newO X78 hx hZ hown (hw _ (List.mem_of_getElem? (i := 7) rfl)) (hw _ (List.mem_of_getElem? (i := 8) rfl)) (hw _ (List.mem_of_getElem? (i := 9) rfl)) e78 (g := (mkF m 170 #[.val (.long q1), .second, .val (.long q2), .second, .val (.long q3), .second, .val (.long q4), .second, .val (.long q5), .second, .val (.int p6), .val (.int (2 : Int32)), .val (.int v12_2), .val (.ref b53), .unset, .unset] [])) rfl (hb hby at_170) (by decide) (by decide)
    refine own_by st80 ?_
    show own_Go _ _ _ _ (T80.setTop (mkF m 173 #[.val (.long q1), .second, .val (.long q2), .second, .val (.long q3), .second, .val (.long q4), .second, .val (.long q5), .second, .val (.int p6), .val (.int (2 : Int32)), .val (.int v12_2), .val (.ref b53), .unset, .unset] [.ref h78.size]))
    obtain ⟨b80, g80⟩ : ∃ z, z = h78.size := ⟨_, rfl⟩
    rw [← g80] at A80 D80
    refine own_gen g80.symm (fun z_ => T80.setTop (mkF m 173 #[.val (.long q1), .second, .val (.long q2), .second, .val (.long q3), .second, .val (.long q4), .second, .val (.long q5), .second, .val (.int p6), .val (.int (2 : Int32)), .val (.int v12_2), .val (.ref b53), .unset, .unset] [.ref z_])) ?_
    have ne81 : b53 ≠ b80 := Nat.ne_of_lt (Nat.lt_of_lt_of_le A78.lt (Nat.le_of_eq g80.symm))
    have ge80 : n0 ≤ b80 := Nat.le_trans Z78 (Nat.le_of_eq g80.symm)
    have f82 := A78.ext E80
    have Z80 := Nat.le_trans Z78 E80.1
    have f83 : Fld Z h80 b80 "com/example/libmakespan/libmakespan/planners/LongHeap" "values" "[J" .null := D80 (Or.inl (hw _ (List.mem_of_getElem? (i := 21) rfl))) (ty := (.array .long)) (by decide)
    have f84 : Fld Z h80 b80 "com/example/libmakespan/libmakespan/planners/LongHeap" "size" "I" (.int (0 : Int32)) := D80 (Or.inl (hw _ (List.mem_of_getElem? (i := 28) rfl))) (ty := .int) (by decide)
    show own_Go _ _ _ _ (T80.setTop (mkF m 173 #[.val (.long q1), .second, .val (.long q2), .second, .val (.long q3), .second, .val (.long q4), .second, .val (.long q5), .second, .val (.int p6), .val (.int (2 : Int32)), .val (.int v12_2), .val (.ref b53), .unset, .unset] [(.ref b80)]))
    refine own_by (fun _ k => XS.dup X80.here hx rfl (hb hby at_173) rfl rfl k) ?_
    refine own_by (fun _ k => XS.iload X80.here hx rfl (hb hby at_174) rfl k) ?_
    show own_Go _ _ _ _ (T80.setTop (mkF m 176 #[.val (.long q1), .second, .val (.long q2), .second, .val (.long q3), .second, .val (.long q4), .second, .val (.long q5), .second, .val (.int p6), .val (.int (2 : Int32)), .val (.int v12_2), .val (.ref b53), .unset, .unset] [(.int v12_2), (.ref b80), (.ref b80)]))
    refine own_callI X80 hx hZ hown rfl (hw _ (List.mem_of_getElem? (i := 10) rfl)) (hw _ (List.mem_of_getElem? (i := 11) rfl)) (hw _ (List.mem_of_getElem? (i := 9) rfl)) (hw _ (List.mem_of_getElem? (i := 12) rfl)) (by decide) (rm2 l Z a0 hw [] b80 v12_2 h80 n0 Z80 A80 f83 f84 ge80 hp12) e80 (by rw [hml]; rfl) b80 [(.int v12_2)] [(.ref b80)] rfl (lenOf own_pd1 rfl) rfl 1 (Nat.le_of_eq rfl) (by decide) (by decide) (Nat.le_of_ble_eq_true rfl) (Nat.le_of_ble_eq_true rfl) (hb hby at_176) ?_
    intro T85 Lc85 v85 X85 hQ85
    obtain ⟨h85, e85⟩ : ∃ h, T85.heap = h := ⟨_, rfl⟩
    rw [e85] at hQ85
    obtain ⟨rfl, N85q, K85, bb85, nn85, h185, h385, FV85, FS85, AH85, gb85, nw85⟩ := hQ85
    have N85 := Fr.app N78 N85q
    have f86 := f82.keep K85 (ninS ne81 nin0)
    have f87 := A80.keep K85
    have Z85 := Nat.le_trans Z80 K85.1
    have ne85a : b80 ≠ bb85 := Nat.ne_of_lt (Nat.lt_of_lt_of_le A80.lt nw85)
    have ne85r : b53 ≠ bb85 := Nat.ne_of_lt (Nat.lt_of_lt_of_le f82.lt nw85)
    have hc85 : ∀ x, own_cnt (fun _ => (0 : Int64)) x 0 = 0 := fun _ => rfl
    have HP85 : own_hp (fun _ => 0) 0 := ⟨fun q => by omega, fun q => by omega, fun q => by omega, fun q => by omega⟩
    show own_Go _ _ _ _ (T85.setTop (mkF m 179 #[.val (.long q1), .second, .val (.long q2), .second, .val (.long q3), .second, .val (.long q4), .second, .val (.long q5), .second, .val (.int p6), .val (.int (2 : Int32)), .val (.int v12_2), .val (.ref b53), .unset, .unset] [(.ref b80)]))
    refine own_by (fun _ k => XS.astore X85.here hx rfl (hb hby at_179) rfl rfl (l' := #[.val (.long q1), .second, .val (.long q2), .second, .val (.long q3), .second, .val (.long q4), .second, .val (.long q5), .second, .val (.int p6), .val (.int (2 : Int32)), .val (.int v12_2), .val (.ref b53), .val (.ref b80), .unset]) rfl k) ?_
    refine own_by (fun _ k => XS.aload X85.here hx rfl (hb hby at_181) rfl rfl k) ?_
    refine own_by (fun _ k => XS.lloadN X85.here hx rfl (hb hby at_183) rfl k) ?_
    show own_Go _ _ _ _ (T85.setTop (mkF m 184 #[.val (.long q1), .second, .val (.long q2), .second, .val (.long q3), .second, .val (.long q4), .second, .val (.long q5), .second, .val (.int p6), .val (.int (2 : Int32)), .val (.int v12_2), .val (.ref b53), .val (.ref b80), .unset] [(.long q1), (.ref b80)]))
    refine own_callV X85 hx hZ hown (hw _ (List.mem_of_getElem? (i := 22) rfl)) (hw _ (List.mem_of_getElem? (i := 23) rfl)) (notFace_of_selects (args := #[]) (mvT hZ (hw _ (List.mem_of_getElem? (i := 25) rfl)))) (hw _ (List.mem_of_getElem? (i := 25) rfl)) (hw _ (List.mem_of_getElem? (i := 24) rfl)) (hw _ (List.mem_of_getElem? (i := 9) rfl)) (hw _ (List.mem_of_getElem? (i := 26) rfl)) (by decide) (rm5_0 l Z a0 hw [] b80 q1 bb85 nn85 (fun _ => 0) h85 n0 Z85 f87 FV85 FS85 AH85 ge80 gb85 ne85a (by omega) (by omega) HP85) e85 b80 f87 (by rw [hml]; rfl) [(.long q1)] [] rfl (lenOf own_pd3 rfl) rfl 0 (Nat.le_of_eq rfl) (by decide) (by decide) (Nat.le_of_ble_eq_true rfl) (Nat.le_of_ble_eq_true rfl) (hb hby at_184) ?_
    intro T90 Lc90 v90 X90 hQ90
    obtain ⟨h90, e90⟩ : ∃ h, T90.heap = h := ⟨_, rfl⟩
    rw [e90] at hQ90
    obtain ⟨rfl, N90q, K90, bb90, nn90, ff90, h190, h890, FV90, FS90, AH90, gb90, ho90, HP90, hc90⟩ := hQ90
    have N90 := Fr.app N85 N90q
    have f91 := f86.keep K90 (ninS ne81 (ninS ne85r nin0))
    have f92 := f87.keep K90
    have Z90 := Nat.le_trans Z85 K90.1
    have ne90a : b80 ≠ bb90 := ho90.elim (fun q => by rw [q]; exact ne85a) (fun q => Nat.ne_of_lt (Nat.lt_of_lt_of_le f87.lt q))
    have ne90r : b53 ≠ bb90 := ho90.elim (fun q => by rw [q]; exact ne85r) (fun q => Nat.ne_of_lt (Nat.lt_of_lt_of_le f86.lt q))
    have hd90 : ∀ x, own_cnt ff90 x 1 = own_one q1 x := fun x => by have q := hc90 x; have q' := hc85 x; omega
    show own_Go _ _ _ _ (T90.setTop (mkF m 187 #[.val (.long q1), .second, .val (.long q2), .second, .val (.long q3), .second, .val (.long q4), .second, .val (.long q5), .second, .val (.int p6), .val (.int (2 : Int32)), .val (.int v12_2), .val (.ref b53), .val (.ref b80), .unset] []))
    refine own_by (fun _ k => XS.iload X90.here hx rfl (hb hby at_187) rfl k) ?_
    refine own_by (fun _ k => XS.iconst X90.here hx rfl (hb hby at_189) k) ?_
    show own_Go _ _ _ _ (T90.setTop (mkF m 190 #[.val (.long q1), .second, .val (.long q2), .second, .val (.long q3), .second, .val (.long q4), .second, .val (.long q5), .second, .val (.int p6), .val (.int (2 : Int32)), .val (.int v12_2), .val (.ref b53), .val (.ref b80), .unset] [(.int (1 : Int32)), (.int (2 : Int32))]))
    refine own_by (fun _ k => XS.icmpNo X90.here hx rfl (hb hby at_190) rfl (tlt (by decide)).2.2.2 k) ?_
    refine own_by (fun _ k => XS.aload X90.here hx rfl (hb hby at_193) rfl rfl k) ?_
    refine own_by (fun _ k => XS.lloadN X90.here hx rfl (hb hby at_195) rfl k) ?_
    show own_Go _ _ _ _ (T90.setTop (mkF m 196 #[.val (.long q1), .second, .val (.long q2), .second, .val (.long q3), .second, .val (.long q4), .second, .val (.long q5), .second, .val (.int p6), .val (.int (2 : Int32)), .val (.int v12_2), .val (.ref b53), .val (.ref b80), .unset] [(.long q2), (.ref b80)]))
    refine own_callV X90 hx hZ hown (hw _ (List.mem_of_getElem? (i := 22) rfl)) (hw _ (List.mem_of_getElem? (i := 23) rfl)) (notFace_of_selects (args := #[]) (mvT hZ (hw _ (List.mem_of_getElem? (i := 25) rfl)))) (hw _ (List.mem_of_getElem? (i := 25) rfl)) (hw _ (List.mem_of_getElem? (i := 24) rfl)) (hw _ (List.mem_of_getElem? (i := 9) rfl)) (hw _ (List.mem_of_getElem? (i := 26) rfl)) (by decide) (rm5_1 l Z a0 hw [] b80 q2 bb90 nn90 ff90 h90 n0 Z90 f92 FV90 FS90 AH90 ge80 gb90 ne90a (by omega) (by omega) HP90) e90 b80 f92 (by rw [hml]; rfl) [(.long q2)] [] rfl (lenOf own_pd3 rfl) rfl 0 (Nat.le_of_eq rfl) (by decide) (by decide) (Nat.le_of_ble_eq_true rfl) (Nat.le_of_ble_eq_true rfl) (hb hby at_196) ?_
    intro T96 Lc96 v96 X96 hQ96
    obtain ⟨h96, e96⟩ : ∃ h, T96.heap = h := ⟨_, rfl⟩
    rw [e96] at hQ96
    obtain ⟨rfl, N96q, K96, bb96, nn96, ff96, h196, h896, FV96, FS96, AH96, gb96, ho96, HP96, hc96⟩ := hQ96
    have N96 := Fr.app N90 N96q
    have f97 := f91.keep K96 (ninS ne81 (ninS ne90r nin0))
    have f98 := f92.keep K96
    have Z96 := Nat.le_trans Z90 K96.1
    have ne96a : b80 ≠ bb96 := ho96.elim (fun q => by rw [q]; exact ne90a) (fun q => Nat.ne_of_lt (Nat.lt_of_lt_of_le f92.lt q))
    have ne96r : b53 ≠ bb96 := ho96.elim (fun q => by rw [q]; exact ne90r) (fun q => Nat.ne_of_lt (Nat.lt_of_lt_of_le f91.lt q))
    have hd96 : ∀ x, own_cnt ff96 x 2 = own_one q1 x + own_one q2 x := fun x => by have q := hc96 x; have q' := hd90 x; omega
    show own_Go _ _ _ _ (T96.setTop (mkF m 199 #[.val (.long q1), .second, .val (.long q2), .second, .val (.long q3), .second, .val (.long q4), .second, .val (.long q5), .second, .val (.int p6), .val (.int (2 : Int32)), .val (.int v12_2), .val (.ref b53), .val (.ref b80), .unset] []))
    refine own_by (fun _ k => XS.iload X96.here hx rfl (hb hby at_199) rfl k) ?_
    refine own_by (fun _ k => XS.iconst X96.here hx rfl (hb hby at_201) k) ?_
    show own_Go _ _ _ _ (T96.setTop (mkF m 202 #[.val (.long q1), .second, .val (.long q2), .second, .val (.long q3), .second, .val (.long q4), .second, .val (.long q5), .second, .val (.int p6), .val (.int (2 : Int32)), .val (.int v12_2), .val (.ref b53), .val (.ref b80), .unset] [(.int (2 : Int32)), (.int (2 : Int32))]))
    refine own_by (fun _ k => XS.icmpYes X96.here hx rfl (pc0 := 202) (pc' := 212) rfl (hb hby at_202) rfl (flt (by decide)).2.2.2 (by decide) (by decide) k) ?_
    refine own_by (fun _ k => XS.iload X96.here hx rfl (hb hby at_212) rfl k) ?_
    refine own_by (fun _ k => XS.iconst X96.here hx rfl (hb hby at_214) k) ?_
    show own_Go _ _ _ _ (T96.setTop (mkF m 215 #[.val (.long q1), .second, .val (.long q2), .second, .val (.long q3), .second, .val (.long q4), .second, .val (.long q5), .second, .val (.int p6), .val (.int (2 : Int32)), .val (.int v12_2), .val (.ref b53), .val (.ref b80), .unset] [(.int (3 : Int32)), (.int (2 : Int32))]))
    refine own_by (fun _ k => XS.icmpYes X96.here hx rfl (pc0 := 215) (pc' := 225) rfl (hb hby at_215) rfl (flt (by decide)).2.2.2 (by decide) (by decide) k) ?_
    refine own_by (fun _ k => XS.iload X96.here hx rfl (hb hby at_225) rfl k) ?_
    refine own_by (fun _ k => XS.iconst X96.here hx rfl (hb hby at_227) k) ?_
    show own_Go _ _ _ _ (T96.setTop (mkF m 228 #[.val (.long q1), .second, .val (.long q2), .second, .val (.long q3), .second, .val (.long q4), .second, .val (.long q5), .second, .val (.int p6), .val (.int (2 : Int32)), .val (.int v12_2), .val (.ref b53), .val (.ref b80), .unset] [(.int (4 : Int32)), (.int (2 : Int32))]))
    refine own_by (fun _ k => XS.icmpYes X96.here hx rfl (pc0 := 228) (pc' := 238) rfl (hb hby at_228) rfl (flt (by decide)).2.2.2 (by decide) (by decide) k) ?_
    have hq0 : ∀ x, own_cnt ff96 x 2 + 3 * own_one 9223372036854775807 x = own_cl x [r78 0, r78 1, r78 2, r78 3, r78 4] := fun x => by rw [hd96 x, hrl x]; omega
    refine own_by (fun _ k => XS.aload X96.here hx rfl (hb hby at_238) rfl rfl k) ?_
    show own_Go _ _ _ _ (T96.setTop (mkF m 240 #[.val (.long q1), .second, .val (.long q2), .second, .val (.long q3), .second, .val (.long q4), .second, .val (.long q5), .second, .val (.int p6), .val (.int (2 : Int32)), .val (.int v12_2), .val (.ref b53), .val (.ref b80), .unset] [(.ref b80)]))
    have he0 : ff96 0 = r78 0 := own_hd ff96 2 3 _ [r78 1, r78 2, r78 3, r78 4] (by decide) (by decide) HP96 hsd hq0
    refine own_callV X96 hx hZ hown (hw _ (List.mem_of_getElem? (i := 40) rfl)) (hw _ (List.mem_of_getElem? (i := 41) rfl)) (notFace_of_selects (args := #[]) (mvT hZ (hw _ (List.mem_of_getElem? (i := 43) rfl)))) (hw _ (List.mem_of_getElem? (i := 43) rfl)) (hw _ (List.mem_of_getElem? (i := 42) rfl)) (hw _ (List.mem_of_getElem? (i := 9) rfl)) (hw _ (List.mem_of_getElem? (i := 44) rfl)) (by decide) (rm8_2 l Z a0 hw [] b80 bb96 nn96 ff96 h96 n0 Z96 f98 FV96 FS96 AH96 ge80 gb96 ne96a (by omega) (by omega) HP96) e96 b80 f98 (by rw [hml]; rfl) [] [] rfl (lenOf own_pd5 rfl) rfl 0 (Nat.le_of_eq rfl) (by decide) (by decide) (Nat.le_of_ble_eq_true rfl) (Nat.le_of_ble_eq_true rfl) (hb hby at_240) ?_
    intro T102 Lc102 v102 X102 hQ102
    obtain ⟨h102, e102⟩ : ∃ h, T102.heap = h := ⟨_, rfl⟩
    rw [e102] at hQ102
    obtain ⟨rfl, N102q, K102, ff102, FV102, FS102, AH102, HP102, hc102⟩ := hQ102
    have N102 := Fr.app N96 N102q
    have f103 := f97.keep K102 (ninS ne81 (ninS ne96r nin0))
    have f104 := f98.keep K102
    have Z102 := Nat.le_trans Z96 K102.1
    have hq1 := own_next ff96 ff102 1 3 _ [r78 1, r78 2, r78 3, r78 4] he0 hq0 hc102
    show own_Go _ _ _ _ (T102.setTop (mkF m 243 #[.val (.long q1), .second, .val (.long q2), .second, .val (.long q3), .second, .val (.long q4), .second, .val (.long q5), .second, .val (.int p6), .val (.int (2 : Int32)), .val (.int v12_2), .val (.ref b53), .val (.ref b80), .unset] [(.long (ff96 0))]))
    refine own_by (fun _ k => XS.aload X102.here hx rfl (hb hby at_243) rfl rfl k) ?_
    refine own_by (fun _ k => XS.iconst X102.here hx rfl (hb hby at_245) k) ?_
    show own_Go _ _ _ _ (T102.setTop (mkF m 246 #[.val (.long q1), .second, .val (.long q2), .second, .val (.long q3), .second, .val (.long q4), .second, .val (.long q5), .second, .val (.int p6), .val (.int (2 : Int32)), .val (.int v12_2), .val (.ref b53), .val (.ref b80), .unset] [(.int (0 : Int32)), (.ref b53), (.long (ff96 0))]))
    refine own_by (fun _ k => own_lal X102 hx hZ e102 f103 0 (by decide) (by decide) (hb hby at_246) k) ?_
    show own_Go _ _ _ _ (T102.setTop (mkF m 247 #[.val (.long q1), .second, .val (.long q2), .second, .val (.long q3), .second, .val (.long q4), .second, .val (.long q5), .second, .val (.int p6), .val (.int (2 : Int32)), .val (.int v12_2), .val (.ref b53), .val (.ref b80), .unset] [(.long (r78 0)), (.long (ff96 0))]))
    refine own_by (fun _ k => XS.lcmp X102.here hx rfl (hb hby at_247) rfl k) ?_
    show own_Go _ _ _ _ (T102.setTop (mkF m 248 #[.val (.long q1), .second, .val (.long q2), .second, .val (.long q3), .second, .val (.long q4), .second, .val (.long q5), .second, .val (.int p6), .val (.int (2 : Int32)), .val (.int v12_2), .val (.ref b53), .val (.ref b80), .unset] [(.int (lcmpW (ff96 0) (r78 0)))]))
    refine own_by (fun _ k => XS.ifNo X102.here hx rfl (hb hby at_248) rfl ((if0 _ _).trans (teq ((lw_eq _ _).mpr he0)).2) k) ?_
    refine own_by (fun _ k => XS.iconst X102.here hx rfl (hb hby at_251) k) ?_
    show own_Go _ _ _ _ (T102.setTop (mkF m 252 #[.val (.long q1), .second, .val (.long q2), .second, .val (.long q3), .second, .val (.long q4), .second, .val (.long q5), .second, .val (.int p6), .val (.int (2 : Int32)), .val (.int v12_2), .val (.ref b53), .val (.ref b80), .unset] [(.int (1 : Int32))]))
    refine own_by (fun _ k => XS.goto X102.here hx rfl (pc0 := 252) (pc' := 256) rfl (hb hby at_252) (by decide) (by decide) k) ?_
    show own_Go _ _ _ _ (T102.setTop (mkF m 256 #[.val (.long q1), .second, .val (.long q2), .second, .val (.long q3), .second, .val (.long q4), .second, .val (.long q5), .second, .val (.int p6), .val (.int (2 : Int32)), .val (.int v12_2), .val (.ref b53), .val (.ref b80), .unset] [(.int (1 : Int32))]))
    refine own_by (fun _ k => XS.istore X102.here hx rfl (hb hby at_256) rfl (l' := #[.val (.long q1), .second, .val (.long q2), .second, .val (.long q3), .second, .val (.long q4), .second, .val (.long q5), .second, .val (.int p6), .val (.int (2 : Int32)), .val (.int v12_2), .val (.ref b53), .val (.ref b80), .val (.int (1 : Int32))]) rfl k) ?_
    refine own_by (fun _ k => XS.iload X102.here hx rfl (hb hby at_258) rfl k) ?_
    refine own_by (fun _ k => XS.iconst X102.here hx rfl (hb hby at_260) k) ?_
    show own_Go _ _ _ _ (T102.setTop (mkF m 261 #[.val (.long q1), .second, .val (.long q2), .second, .val (.long q3), .second, .val (.long q4), .second, .val (.long q5), .second, .val (.int p6), .val (.int (2 : Int32)), .val (.int v12_2), .val (.ref b53), .val (.ref b80), .val (.int (1 : Int32))] [(.int (1 : Int32)), (.int (2 : Int32))]))
    refine own_by (fun _ k => XS.icmpNo X102.here hx rfl (hb hby at_261) rfl (tlt (by decide)).2.2.2 k) ?_
    refine own_by (fun _ k => XS.aload X102.here hx rfl (hb hby at_264) rfl rfl k) ?_
    show own_Go _ _ _ _ (T102.setTop (mkF m 266 #[.val (.long q1), .second, .val (.long q2), .second, .val (.long q3), .second, .val (.long q4), .second, .val (.long q5), .second, .val (.int p6), .val (.int (2 : Int32)), .val (.int v12_2), .val (.ref b53), .val (.ref b80), .val (.int (1 : Int32))] [(.ref b80)]))
    have he1 : ff102 0 = r78 1 := own_hd ff102 1 3 _ [r78 2, r78 3, r78 4] (by decide) (by decide) HP102 hsd.2 hq1
    refine own_callV X102 hx hZ hown (hw _ (List.mem_of_getElem? (i := 40) rfl)) (hw _ (List.mem_of_getElem? (i := 41) rfl)) (notFace_of_selects (args := #[]) (mvT hZ (hw _ (List.mem_of_getElem? (i := 43) rfl)))) (hw _ (List.mem_of_getElem? (i := 43) rfl)) (hw _ (List.mem_of_getElem? (i := 42) rfl)) (hw _ (List.mem_of_getElem? (i := 9) rfl)) (hw _ (List.mem_of_getElem? (i := 44) rfl)) (by decide) (rm8_1 l Z a0 hw [] b80 bb96 nn96 ff102 h102 n0 Z102 f104 FV102 FS102 AH102 ge80 gb96 ne96a (by omega) (by omega) HP102) e102 b80 f104 (by rw [hml]; rfl) [] [] rfl (lenOf own_pd5 rfl) rfl 0 (Nat.le_of_eq rfl) (by decide) (by decide) (Nat.le_of_ble_eq_true rfl) (Nat.le_of_ble_eq_true rfl) (hb hby at_266) ?_
    intro T108 Lc108 v108 X108 hQ108
    obtain ⟨h108, e108⟩ : ∃ h, T108.heap = h := ⟨_, rfl⟩
    rw [e108] at hQ108
    obtain ⟨rfl, N108q, K108, ff108, FV108, FS108, AH108, HP108, hc108⟩ := hQ108
    have N108 := Fr.app N102 N108q
    have f109 := f103.keep K108 (ninS ne81 (ninS ne96r nin0))
    have f110 := f104.keep K108
    have Z108 := Nat.le_trans Z102 K108.1
    have hq2 := own_next ff102 ff108 0 3 _ [r78 2, r78 3, r78 4] he1 hq1 hc108
    show own_Go _ _ _ _ (T108.setTop (mkF m 269 #[.val (.long q1), .second, .val (.long q2), .second, .val (.long q3), .second, .val (.long q4), .second, .val (.long q5), .second, .val (.int p6), .val (.int (2 : Int32)), .val (.int v12_2), .val (.ref b53), .val (.ref b80), .val (.int (1 : Int32))] [(.long (ff102 0))]))
    refine own_by (fun _ k => XS.aload X108.here hx rfl (hb hby at_269) rfl rfl k) ?_
    refine own_by (fun _ k => XS.iconst X108.here hx rfl (hb hby at_271) k) ?_
    show own_Go _ _ _ _ (T108.setTop (mkF m 272 #[.val (.long q1), .second, .val (.long q2), .second, .val (.long q3), .second, .val (.long q4), .second, .val (.long q5), .second, .val (.int p6), .val (.int (2 : Int32)), .val (.int v12_2), .val (.ref b53), .val (.ref b80), .val (.int (1 : Int32))] [(.int (1 : Int32)), (.ref b53), (.long (ff102 0))]))
    refine own_by (fun _ k => own_lal X108 hx hZ e108 f109 1 (by decide) (by decide) (hb hby at_272) k) ?_
    show own_Go _ _ _ _ (T108.setTop (mkF m 273 #[.val (.long q1), .second, .val (.long q2), .second, .val (.long q3), .second, .val (.long q4), .second, .val (.long q5), .second, .val (.int p6), .val (.int (2 : Int32)), .val (.int v12_2), .val (.ref b53), .val (.ref b80), .val (.int (1 : Int32))] [(.long (r78 1)), (.long (ff102 0))]))
    refine own_by (fun _ k => XS.lcmp X108.here hx rfl (hb hby at_273) rfl k) ?_
    show own_Go _ _ _ _ (T108.setTop (mkF m 274 #[.val (.long q1), .second, .val (.long q2), .second, .val (.long q3), .second, .val (.long q4), .second, .val (.long q5), .second, .val (.int p6), .val (.int (2 : Int32)), .val (.int v12_2), .val (.ref b53), .val (.ref b80), .val (.int (1 : Int32))] [(.int (lcmpW (ff102 0) (r78 1)))]))
    refine own_by (fun _ k => XS.ifNo X108.here hx rfl (hb hby at_274) rfl ((if0 _ _).trans (teq ((lw_eq _ _).mpr he1)).2) k) ?_
    refine own_by (fun _ k => XS.iconst X108.here hx rfl (hb hby at_277) k) ?_
    show own_Go _ _ _ _ (T108.setTop (mkF m 278 #[.val (.long q1), .second, .val (.long q2), .second, .val (.long q3), .second, .val (.long q4), .second, .val (.long q5), .second, .val (.int p6), .val (.int (2 : Int32)), .val (.int v12_2), .val (.ref b53), .val (.ref b80), .val (.int (1 : Int32))] [(.int (1 : Int32))]))
    refine own_by (fun _ k => XS.goto X108.here hx rfl (pc0 := 278) (pc' := 282) rfl (hb hby at_278) (by decide) (by decide) k) ?_
    refine own_by (fun _ k => XS.iload X108.here hx rfl (hb hby at_282) rfl k) ?_
    show own_Go _ _ _ _ (T108.setTop (mkF m 284 #[.val (.long q1), .second, .val (.long q2), .second, .val (.long q3), .second, .val (.long q4), .second, .val (.long q5), .second, .val (.int p6), .val (.int (2 : Int32)), .val (.int v12_2), .val (.ref b53), .val (.ref b80), .val (.int (1 : Int32))] [(.int (1 : Int32)), (.int (1 : Int32))]))
    refine own_by (fun _ k => XS.iand X108.here hx rfl (hb hby at_284) rfl k) ?_
    show own_Go _ _ _ _ (T108.setTop (mkF m 285 #[.val (.long q1), .second, .val (.long q2), .second, .val (.long q3), .second, .val (.long q4), .second, .val (.long q5), .second, .val (.int p6), .val (.int (2 : Int32)), .val (.int v12_2), .val (.ref b53), .val (.ref b80), .val (.int (1 : Int32))] [(.int ((1 : Int32) &&& (1 : Int32)))]))
    rw [(by decide : ((1 : Int32) &&& (1 : Int32)) = (1 : Int32))]
    show own_Go _ _ _ _ (T108.setTop (mkF m 285 #[.val (.long q1), .second, .val (.long q2), .second, .val (.long q3), .second, .val (.long q4), .second, .val (.long q5), .second, .val (.int p6), .val (.int (2 : Int32)), .val (.int v12_2), .val (.ref b53), .val (.ref b80), .val (.int (1 : Int32))] [(.int (1 : Int32))]))
    refine own_by (fun _ k => XS.istore X108.here hx rfl (hb hby at_285) rfl (l' := #[.val (.long q1), .second, .val (.long q2), .second, .val (.long q3), .second, .val (.long q4), .second, .val (.long q5), .second, .val (.int p6), .val (.int (2 : Int32)), .val (.int v12_2), .val (.ref b53), .val (.ref b80), .val (.int (1 : Int32))]) rfl k) ?_
    refine own_by (fun _ k => XS.iload X108.here hx rfl (hb hby at_287) rfl k) ?_
    refine own_by (fun _ k => XS.iconst X108.here hx rfl (hb hby at_289) k) ?_
    show own_Go _ _ _ _ (T108.setTop (mkF m 290 #[.val (.long q1), .second, .val (.long q2), .second, .val (.long q3), .second, .val (.long q4), .second, .val (.long q5), .second, .val (.int p6), .val (.int (2 : Int32)), .val (.int v12_2), .val (.ref b53), .val (.ref b80), .val (.int (1 : Int32))] [(.int (2 : Int32)), (.int (2 : Int32))]))
    refine own_by (fun _ k => XS.icmpYes X108.here hx rfl (pc0 := 290) (pc' := 316) rfl (hb hby at_290) rfl (flt (by decide)).2.2.2 (by decide) (by decide) k) ?_
    refine own_by (fun _ k => XS.iload X108.here hx rfl (hb hby at_316) rfl k) ?_
    refine own_by (fun _ k => XS.iconst X108.here hx rfl (hb hby at_318) k) ?_
    show own_Go _ _ _ _ (T108.setTop (mkF m 319 #[.val (.long q1), .second, .val (.long q2), .second, .val (.long q3), .second, .val (.long q4), .second, .val (.long q5), .second, .val (.int p6), .val (.int (2 : Int32)), .val (.int v12_2), .val (.ref b53), .val (.ref b80), .val (.int (1 : Int32))] [(.int (3 : Int32)), (.int (2 : Int32))]))
    refine own_by (fun _ k => XS.icmpYes X108.here hx rfl (pc0 := 319) (pc' := 345) rfl (hb hby at_319) rfl (flt (by decide)).2.2.2 (by decide) (by decide) k) ?_
    refine own_by (fun _ k => XS.iload X108.here hx rfl (hb hby at_345) rfl k) ?_
    refine own_by (fun _ k => XS.iconst X108.here hx rfl (hb hby at_347) k) ?_
    show own_Go _ _ _ _ (T108.setTop (mkF m 348 #[.val (.long q1), .second, .val (.long q2), .second, .val (.long q3), .second, .val (.long q4), .second, .val (.long q5), .second, .val (.int p6), .val (.int (2 : Int32)), .val (.int v12_2), .val (.ref b53), .val (.ref b80), .val (.int (1 : Int32))] [(.int (4 : Int32)), (.int (2 : Int32))]))
    refine own_by (fun _ k => XS.icmpYes X108.here hx rfl (pc0 := 348) (pc' := 374) rfl (hb hby at_348) rfl (flt (by decide)).2.2.2 (by decide) (by decide) k) ?_
    refine own_by (fun _ k => XS.iload X108.here hx rfl (hb hby at_374) rfl k) ?_
    show own_Go _ _ _ _ (T108.setTop (mkF m 376 #[.val (.long q1), .second, .val (.long q2), .second, .val (.long q3), .second, .val (.long q4), .second, .val (.long q5), .second, .val (.int p6), .val (.int (2 : Int32)), .val (.int v12_2), .val (.ref b53), .val (.ref b80), .val (.int (1 : Int32))] [(.int (1 : Int32))]))
    refine own_by (fun _ k => XS.ifNo X108.here hx rfl (hb hby at_376) rfl ((if0 _ _).trans (feq (by decide)).1) k) ?_
    refine own_by (fun _ k => XS.aload X108.here hx rfl (hb hby at_379) rfl rfl k) ?_
    show own_Go _ _ _ _ (T108.setTop (mkF m 381 #[.val (.long q1), .second, .val (.long q2), .second, .val (.long q3), .second, .val (.long q4), .second, .val (.long q5), .second, .val (.int p6), .val (.int (2 : Int32)), .val (.int v12_2), .val (.ref b53), .val (.ref b80), .val (.int (1 : Int32))] [(.ref b80)]))
    refine own_callV X108 hx hZ hown (hw _ (List.mem_of_getElem? (i := 45) rfl)) (hw _ (List.mem_of_getElem? (i := 46) rfl)) (notFace_of_selects (args := #[]) (mvT hZ (hw _ (List.mem_of_getElem? (i := 48) rfl)))) (hw _ (List.mem_of_getElem? (i := 48) rfl)) (hw _ (List.mem_of_getElem? (i := 47) rfl)) (hw _ (List.mem_of_getElem? (i := 9) rfl)) (hw _ (List.mem_of_getElem? (i := 49) rfl)) (by decide) (rm9 l Z a0 hw [] b80 h108 n0 Z108 FS108) e108 b80 f110 (by rw [hml]; rfl) [] [] rfl (lenOf own_pd6 rfl) rfl 0 (Nat.le_of_eq rfl) (by decide) (by decide) (Nat.le_of_ble_eq_true rfl) (Nat.le_of_ble_eq_true rfl) (hb hby at_381) ?_
    intro T114 Lc114 v114 X114 hQ114
    obtain ⟨rfl, N114q, e114⟩ := hQ114
    have N114 := Fr.app N108 N114q
    show own_Go _ _ _ _ (T114.setTop (mkF m 384 #[.val (.long q1), .second, .val (.long q2), .second, .val (.long q3), .second, .val (.long q4), .second, .val (.long q5), .second, .val (.int p6), .val (.int (2 : Int32)), .val (.int v12_2), .val (.ref b53), .val (.ref b80), .val (.int (1 : Int32))] [(.int (1 : Int32))]))
    refine own_by (fun _ k => XS.ifNo X114.here hx rfl (hb hby at_384) rfl ((if0 _ _).trans (feq (by decide)).1) k) ?_
    refine own_by (fun _ k => XS.iconst X114.here hx rfl (hb hby at_387) k) ?_
    show own_Go _ _ _ _ (T114.setTop (mkF m 388 #[.val (.long q1), .second, .val (.long q2), .second, .val (.long q3), .second, .val (.long q4), .second, .val (.long q5), .second, .val (.int p6), .val (.int (2 : Int32)), .val (.int v12_2), .val (.ref b53), .val (.ref b80), .val (.int (1 : Int32))] [(.int (1 : Int32))]))
    refine own_by (fun _ k => XS.goto X114.here hx rfl (pc0 := 388) (pc' := 392) rfl (hb hby at_388) (by decide) (by decide) k) ?_
    show own_Go _ _ _ _ (T114.setTop (mkF m 392 #[.val (.long q1), .second, .val (.long q2), .second, .val (.long q3), .second, .val (.long q4), .second, .val (.long q5), .second, .val (.int p6), .val (.int (2 : Int32)), .val (.int v12_2), .val (.ref b53), .val (.ref b80), .val (.int (1 : Int32))] [(.int (1 : Int32))]))
    exact own_retN X114 hx Bd.notSynchronized e114 Bd.returns (by simp) (hb hby at_392) (⟨rfl, N114⟩) (by decide) (by decide)
  · --
    refine own_by (fun _ k => XS.iconst X0.here hx rfl (hb hby at_19) k) ?_
    show own_Go _ _ _ _ (s₁.setTop (mkF m 20 #[.val (.long q1), .second, .val (.long q2), .second, .val (.long q3), .second, .val (.long q4), .second, .val (.long q5), .second, .val (.int p6), .val (.int (3 : Int32)), .val (.int v12_2), .unset, .unset, .unset] [(.int (5 : Int32))]))
    refine own_newP X0 hx hZ (hw _ (List.mem_of_getElem? (i := 1) rfl)) e0 5 (by decide) 5 (by decide) (by decide) (by decide) (by decide) (hb hby at_20) ?_
    intro T115 h115 X115 e115 E115 A115
    show own_Go _ _ _ _ (T115.setTop (mkF m 22 #[.val (.long q1), .second, .val (.long q2), .second, .val (.long q3), .second, .val (.long q4), .second, .val (.long q5), .second, .val (.int p6), .val (.int (3 : Int32)), .val (.int v12_2), .unset, .unset, .unset] [.ref h0.size]))
    obtain ⟨b115, g115⟩ : ∃ z, z = h0.size := ⟨_, rfl⟩
    rw [← g115] at A115
    refine own_gen g115.symm (fun z_ => T115.setTop (mkF m 22 #[.val (.long q1), .second, .val (.long q2), .second, .val (.long q3), .second, .val (.long q4), .second, .val (.long q5), .second, .val (.int p6), .val (.int (3 : Int32)), .val (.int v12_2), .unset, .unset, .unset] [.ref z_])) ?_
    have ge115 : n0 ≤ b115 := Nat.le_trans Z0 (Nat.le_of_eq g115.symm)
    have Z115 := Nat.le_trans Z0 E115.1
    have f116 : own_AJ Z h115 b115 5 (fun _ => 0) := A115
    show own_Go _ _ _ _ (T115.setTop (mkF m 22 #[.val (.long q1), .second, .val (.long q2), .second, .val (.long q3), .second, .val (.long q4), .second, .val (.long q5), .second, .val (.int p6), .val (.int (3 : Int32)), .val (.int v12_2), .unset, .unset, .unset] [(.ref b115)]))
    refine own_by (fun _ k => XS.astore X115.here hx rfl (hb hby at_22) rfl rfl (l' := #[.val (.long q1), .second, .val (.long q2), .second, .val (.long q3), .second, .val (.long q4), .second, .val (.long q5), .second, .val (.int p6), .val (.int (3 : Int32)), .val (.int v12_2), .val (.ref b115), .unset, .unset]) rfl k) ?_
    refine own_by (fun _ k => XS.aload X115.here hx rfl (hb hby at_24) rfl rfl k) ?_
    refine own_by (fun _ k => XS.iconst X115.here hx rfl (hb hby at_26) k) ?_
    show own_Go _ _ _ _ (T115.setTop (mkF m 27 #[.val (.long q1), .second, .val (.long q2), .second, .val (.long q3), .second, .val (.long q4), .second, .val (.long q5), .second, .val (.int p6), .val (.int (3 : Int32)), .val (.int v12_2), .val (.ref b115), .unset, .unset] [(.int (0 : Int32)), (.ref b115)]))
    refine own_by (fun _ k => XS.lloadN X115.here hx rfl (hb hby at_27) rfl k) ?_
    show own_Go _ _ _ _ (T115.setTop (mkF m 28 #[.val (.long q1), .second, .val (.long q2), .second, .val (.long q3), .second, .val (.long q4), .second, .val (.long q5), .second, .val (.int p6), .val (.int (3 : Int32)), .val (.int v12_2), .val (.ref b115), .unset, .unset] [(.long q1), (.int (0 : Int32)), (.ref b115)]))
    refine own_las X115 hx hZ e115 f116 0 (by decide) (by decide) (hb hby at_28) ?_
    intro T117 h117 X117 e117 W117 A117
    have N117 := Fr.snoc X117 N0 ge115
    have Z117 := own_size_wr W117 Z115
    obtain ⟨fn117, hfn117⟩ : ∃ g : Nat → Int64, g = own_upd (fun _ => 0) 0 q1 := ⟨_, rfl⟩
    rw [← hfn117] at A117
    show own_Go _ _ _ _ (T117.setTop (mkF m 29 #[.val (.long q1), .second, .val (.long q2), .second, .val (.long q3), .second, .val (.long q4), .second, .val (.long q5), .second, .val (.int p6), .val (.int (3 : Int32)), .val (.int v12_2), .val (.ref b115), .unset, .unset] []))
    refine own_by (fun _ k => XS.aload X117.here hx rfl (hb hby at_29) rfl rfl k) ?_
    refine own_by (fun _ k => XS.iconst X117.here hx rfl (hb hby at_31) k) ?_
    refine own_by (fun _ k => XS.iload X117.here hx rfl (hb hby at_32) rfl k) ?_
    show own_Go _ _ _ _ (T117.setTop (mkF m 34 #[.val (.long q1), .second, .val (.long q2), .second, .val (.long q3), .second, .val (.long q4), .second, .val (.long q5), .second, .val (.int p6), .val (.int (3 : Int32)), .val (.int v12_2), .val (.ref b115), .unset, .unset] [(.int (3 : Int32)), (.int (1 : Int32)), (.ref b115)]))
    refine own_by (fun _ k => XS.iconst X117.here hx rfl (hb hby at_34) k) ?_
    show own_Go _ _ _ _ (T117.setTop (mkF m 35 #[.val (.long q1), .second, .val (.long q2), .second, .val (.long q3), .second, .val (.long q4), .second, .val (.long q5), .second, .val (.int p6), .val (.int (3 : Int32)), .val (.int v12_2), .val (.ref b115), .unset, .unset] [(.int (1 : Int32)), (.int (3 : Int32)), (.int (1 : Int32)), (.ref b115)]))
    refine own_by (fun _ k => XS.icmpNo X117.here hx rfl (hb hby at_35) rfl (tlt (by decide)).2.2.2 k) ?_
    refine own_by (fun _ k => XS.lloadN X117.here hx rfl (hb hby at_38) rfl k) ?_
    show own_Go _ _ _ _ (T117.setTop (mkF m 39 #[.val (.long q1), .second, .val (.long q2), .second, .val (.long q3), .second, .val (.long q4), .second, .val (.long q5), .second, .val (.int p6), .val (.int (3 : Int32)), .val (.int v12_2), .val (.ref b115), .unset, .unset] [(.long q2), (.int (1 : Int32)), (.ref b115)]))
    refine own_by (fun _ k => XS.goto X117.here hx rfl (pc0 := 39) (pc' := 45) rfl (hb hby at_39) (by decide) (by decide) k) ?_
    show own_Go _ _ _ _ (T117.setTop (mkF m 45 #[.val (.long q1), .second, .val (.long q2), .second, .val (.long q3), .second, .val (.long q4), .second, .val (.long q5), .second, .val (.int p6), .val (.int (3 : Int32)), .val (.int v12_2), .val (.ref b115), .unset, .unset] [(.long q2), (.int (1 : Int32)), (.ref b115)]))
    refine own_las X117 hx hZ e117 A117 1 (by decide) (by decide) (hb hby at_45) ?_
    intro T118 h118 X118 e118 W118 A118
    have N118 := Fr.snoc X118 N117 ge115
    have Z118 := own_size_wr W118 Z117
    obtain ⟨fn118, hfn118⟩ : ∃ g : Nat → Int64, g = own_upd fn117 1 q2 := ⟨_, rfl⟩
    rw [← hfn118] at A118
    show own_Go _ _ _ _ (T118.setTop (mkF m 46 #[.val (.long q1), .second, .val (.long q2), .second, .val (.long q3), .second, .val (.long q4), .second, .val (.long q5), .second, .val (.int p6), .val (.int (3 : Int32)), .val (.int v12_2), .val (.ref b115), .unset, .unset] []))
    refine own_by (fun _ k => XS.aload X118.here hx rfl (hb hby at_46) rfl rfl k) ?_
    refine own_by (fun _ k => XS.iconst X118.here hx rfl (hb hby at_48) k) ?_
    refine own_by (fun _ k => XS.iload X118.here hx rfl (hb hby at_49) rfl k) ?_
    show own_Go _ _ _ _ (T118.setTop (mkF m 51 #[.val (.long q1), .second, .val (.long q2), .second, .val (.long q3), .second, .val (.long q4), .second, .val (.long q5), .second, .val (.int p6), .val (.int (3 : Int32)), .val (.int v12_2), .val (.ref b115), .unset, .unset] [(.int (3 : Int32)), (.int (2 : Int32)), (.ref b115)]))
    refine own_by (fun _ k => XS.iconst X118.here hx rfl (hb hby at_51) k) ?_
    show own_Go _ _ _ _ (T118.setTop (mkF m 52 #[.val (.long q1), .second, .val (.long q2), .second, .val (.long q3), .second, .val (.long q4), .second, .val (.long q5), .second, .val (.int p6), .val (.int (3 : Int32)), .val (.int v12_2), .val (.ref b115), .unset, .unset] [(.int (2 : Int32)), (.int (3 : Int32)), (.int (2 : Int32)), (.ref b115)]))
    refine own_by (fun _ k => XS.icmpNo X118.here hx rfl (hb hby at_52) rfl (tlt (by decide)).2.2.2 k) ?_
    refine own_by (fun _ k => XS.lload X118.here hx rfl (hb hby at_55) rfl k) ?_
    show own_Go _ _ _ _ (T118.setTop (mkF m 57 #[.val (.long q1), .second, .val (.long q2), .second, .val (.long q3), .second, .val (.long q4), .second, .val (.long q5), .second, .val (.int p6), .val (.int (3 : Int32)), .val (.int v12_2), .val (.ref b115), .unset, .unset] [(.long q3), (.int (2 : Int32)), (.ref b115)]))
    refine own_by (fun _ k => XS.goto X118.here hx rfl (pc0 := 57) (pc' := 63) rfl (hb hby at_57) (by decide) (by decide) k) ?_
    show own_Go _ _ _ _ (T118.setTop (mkF m 63 #[.val (.long q1), .second, .val (.long q2), .second, .val (.long q3), .second, .val (.long q4), .second, .val (.long q5), .second, .val (.int p6), .val (.int (3 : Int32)), .val (.int v12_2), .val (.ref b115), .unset, .unset] [(.long q3), (.int (2 : Int32)), (.ref b115)]))
    refine own_las X118 hx hZ e118 A118 2 (by decide) (by decide) (hb hby at_63) ?_
    intro T119 h119 X119 e119 W119 A119
    have N119 := Fr.snoc X119 N118 ge115
    have Z119 := own_size_wr W119 Z118
    obtain ⟨fn119, hfn119⟩ : ∃ g : Nat → Int64, g = own_upd fn118 2 q3 := ⟨_, rfl⟩
    rw [← hfn119] at A119
    show own_Go _ _ _ _ (T119.setTop (mkF m 64 #[.val (.long q1), .second, .val (.long q2), .second, .val (.long q3), .second, .val (.long q4), .second, .val (.long q5), .second, .val (.int p6), .val (.int (3 : Int32)), .val (.int v12_2), .val (.ref b115), .unset, .unset] []))
    refine own_by (fun _ k => XS.aload X119.here hx rfl (hb hby at_64) rfl rfl k) ?_
    refine own_by (fun _ k => XS.iconst X119.here hx rfl (hb hby at_66) k) ?_
    refine own_by (fun _ k => XS.iload X119.here hx rfl (hb hby at_67) rfl k) ?_
    show own_Go _ _ _ _ (T119.setTop (mkF m 69 #[.val (.long q1), .second, .val (.long q2), .second, .val (.long q3), .second, .val (.long q4), .second, .val (.long q5), .second, .val (.int p6), .val (.int (3 : Int32)), .val (.int v12_2), .val (.ref b115), .unset, .unset] [(.int (3 : Int32)), (.int (3 : Int32)), (.ref b115)]))
    refine own_by (fun _ k => XS.iconst X119.here hx rfl (hb hby at_69) k) ?_
    show own_Go _ _ _ _ (T119.setTop (mkF m 70 #[.val (.long q1), .second, .val (.long q2), .second, .val (.long q3), .second, .val (.long q4), .second, .val (.long q5), .second, .val (.int p6), .val (.int (3 : Int32)), .val (.int v12_2), .val (.ref b115), .unset, .unset] [(.int (3 : Int32)), (.int (3 : Int32)), (.int (3 : Int32)), (.ref b115)]))
    refine own_by (fun _ k => XS.icmpYes X119.here hx rfl (pc0 := 70) (pc' := 78) rfl (hb hby at_70) rfl (flt (by decide)).2.2.2 (by decide) (by decide) k) ?_
    show own_Go _ _ _ _ (T119.setTop (mkF m 78 #[.val (.long q1), .second, .val (.long q2), .second, .val (.long q3), .second, .val (.long q4), .second, .val (.long q5), .second, .val (.int p6), .val (.int (3 : Int32)), .val (.int v12_2), .val (.ref b115), .unset, .unset] [(.int (3 : Int32)), (.ref b115)]))
    refine own_by (fun _ k => X119.ldc2Long hx hown (mvT hZ (hw _ (List.mem_of_getElem? (i := 2) rfl))) (g := (mkF m 78 #[.val (.long q1), .second, .val (.long q2), .second, .val (.long q3), .second, .val (.long q4), .second, .val (.long q5), .second, .val (.int p6), .val (.int (3 : Int32)), .val (.int v12_2), .val (.ref b115), .unset, .unset] [(.int (3 : Int32)), (.ref b115)])) rfl (hb hby at_78) _ k) ?_
    show own_Go _ _ _ _ (T119.setTop (mkF m 81 #[.val (.long q1), .second, .val (.long q2), .second, .val (.long q3), .second, .val (.long q4), .second, .val (.long q5), .second, .val (.int p6), .val (.int (3 : Int32)), .val (.int v12_2), .val (.ref b115), .unset, .unset] [(.long (9223372036854775807 : Int64)), (.int (3 : Int32)), (.ref b115)]))
    refine own_las X119 hx hZ e119 A119 3 (by decide) (by decide) (hb hby at_81) ?_
    intro T120 h120 X120 e120 W120 A120
    have N120 := Fr.snoc X120 N119 ge115
    have Z120 := own_size_wr W120 Z119
    obtain ⟨fn120, hfn120⟩ : ∃ g : Nat → Int64, g = own_upd fn119 3 (9223372036854775807 : Int64) := ⟨_, rfl⟩
    rw [← hfn120] at A120
    show own_Go _ _ _ _ (T120.setTop (mkF m 82 #[.val (.long q1), .second, .val (.long q2), .second, .val (.long q3), .second, .val (.long q4), .second, .val (.long q5), .second, .val (.int p6), .val (.int (3 : Int32)), .val (.int v12_2), .val (.ref b115), .unset, .unset] []))
    refine own_by (fun _ k => XS.aload X120.here hx rfl (hb hby at_82) rfl rfl k) ?_
    refine own_by (fun _ k => XS.iconst X120.here hx rfl (hb hby at_84) k) ?_
    refine own_by (fun _ k => XS.iload X120.here hx rfl (hb hby at_85) rfl k) ?_
    show own_Go _ _ _ _ (T120.setTop (mkF m 87 #[.val (.long q1), .second, .val (.long q2), .second, .val (.long q3), .second, .val (.long q4), .second, .val (.long q5), .second, .val (.int p6), .val (.int (3 : Int32)), .val (.int v12_2), .val (.ref b115), .unset, .unset] [(.int (3 : Int32)), (.int (4 : Int32)), (.ref b115)]))
    refine own_by (fun _ k => XS.iconst X120.here hx rfl (hb hby at_87) k) ?_
    show own_Go _ _ _ _ (T120.setTop (mkF m 88 #[.val (.long q1), .second, .val (.long q2), .second, .val (.long q3), .second, .val (.long q4), .second, .val (.long q5), .second, .val (.int p6), .val (.int (3 : Int32)), .val (.int v12_2), .val (.ref b115), .unset, .unset] [(.int (4 : Int32)), (.int (3 : Int32)), (.int (4 : Int32)), (.ref b115)]))
    refine own_by (fun _ k => XS.icmpYes X120.here hx rfl (pc0 := 88) (pc' := 96) rfl (hb hby at_88) rfl (flt (by decide)).2.2.2 (by decide) (by decide) k) ?_
    show own_Go _ _ _ _ (T120.setTop (mkF m 96 #[.val (.long q1), .second, .val (.long q2), .second, .val (.long q3), .second, .val (.long q4), .second, .val (.long q5), .second, .val (.int p6), .val (.int (3 : Int32)), .val (.int v12_2), .val (.ref b115), .unset, .unset] [(.int (4 : Int32)), (.ref b115)]))
    refine own_by (fun _ k => X120.ldc2Long hx hown (mvT hZ (hw _ (List.mem_of_getElem? (i := 2) rfl))) (g := (mkF m 96 #[.val (.long q1), .second, .val (.long q2), .second, .val (.long q3), .second, .val (.long q4), .second, .val (.long q5), .second, .val (.int p6), .val (.int (3 : Int32)), .val (.int v12_2), .val (.ref b115), .unset, .unset] [(.int (4 : Int32)), (.ref b115)])) rfl (hb hby at_96) _ k) ?_
    show own_Go _ _ _ _ (T120.setTop (mkF m 99 #[.val (.long q1), .second, .val (.long q2), .second, .val (.long q3), .second, .val (.long q4), .second, .val (.long q5), .second, .val (.int p6), .val (.int (3 : Int32)), .val (.int v12_2), .val (.ref b115), .unset, .unset] [(.long (9223372036854775807 : Int64)), (.int (4 : Int32)), (.ref b115)]))
    refine own_las X120 hx hZ e120 A120 4 (by decide) (by decide) (hb hby at_99) ?_
    intro T121 h121 X121 e121 W121 A121
    have N121 := Fr.snoc X121 N120 ge115
    have Z121 := own_size_wr W121 Z120
    obtain ⟨fn121, hfn121⟩ : ∃ g : Nat → Int64, g = own_upd fn120 4 (9223372036854775807 : Int64) := ⟨_, rfl⟩
    rw [← hfn121] at A121
    obtain ⟨r0, hr0⟩ : ∃ g : Nat → Int64, g = fn121 := ⟨_, rfl⟩
    rw [← hr0] at A121
    have cr0 : ∀ x, own_cnt r0 x 5 = own_one q1 x + own_one q2 x + own_one q3 x + own_one (9223372036854775807 : Int64) x + own_one (9223372036854775807 : Int64) x := fun x => by rw [hr0]; simp [own_cnt, own_upd, hfn121, hfn120, hfn119, hfn118, hfn117]
    show own_Go _ _ _ _ (T121.setTop (mkF m 100 #[.val (.long q1), .second, .val (.long q2), .second, .val (.long q3), .second, .val (.long q4), .second, .val (.long q5), .second, .val (.int p6), .val (.int (3 : Int32)), .val (.int v12_2), .val (.ref b115), .unset, .unset] []))
    refine own_by (fun _ k => XS.aload X121.here hx rfl (hb hby at_100) rfl rfl k) ?_
    refine own_by (fun _ k => XS.iconst X121.here hx rfl (hb hby at_102) k) ?_
    refine own_by (fun _ k => XS.iconst X121.here hx rfl (hb hby at_103) k) ?_
    show own_Go _ _ _ _ (T121.setTop (mkF m 104 #[.val (.long q1), .second, .val (.long q2), .second, .val (.long q3), .second, .val (.long q4), .second, .val (.long q5), .second, .val (.int p6), .val (.int (3 : Int32)), .val (.int v12_2), .val (.ref b115), .unset, .unset] [(.int (1 : Int32)), (.int (0 : Int32)), (.ref b115)]))
    refine own_callS X121 hx hZ hown (hw _ (List.mem_of_getElem? (i := 3) rfl)) (hw _ (List.mem_of_getElem? (i := 4) rfl)) (hw _ (List.mem_of_getElem? (i := 5) rfl)) (hw _ (List.mem_of_getElem? (i := 6) rfl)) (by decide) (rm1 l Z a0 hw [] b115 (0 : Int32) (1 : Int32) 0 1 r0 h121 n0 Z121 A121 (by decide) (by decide) (by decide) (by decide) (by decide) ge115) e121 (by rw [hml]; rfl) [(.ref b115), (.int (0 : Int32)), (.int (1 : Int32))] [] rfl (lenOf own_pd0 rfl) rfl 0 (Nat.le_of_eq rfl) (by decide) (by decide) (Nat.le_of_ble_eq_true rfl) (Nat.le_of_ble_eq_true rfl) (hb hby at_104) ?_
    intro T122 Lc122 v122 X122 hQ122
    obtain ⟨h122, e122⟩ : ∃ h, T122.heap = h := ⟨_, rfl⟩
    rw [e122] at hQ122
    obtain ⟨rfl, N122q, K122, A122⟩ := hQ122
    have N122 := Fr.app N121 N122q
    have Z122 := Nat.le_trans Z121 K122.1
    obtain ⟨r122, hr122⟩ : ∃ g : Nat → Int64, g = own_cs r0 0 1 := ⟨_, rfl⟩
    rw [← hr122] at A122
    have cr122 : ∀ x, own_cnt r122 x 5 = own_one q1 x + own_one q2 x + own_one q3 x + own_one (9223372036854775807 : Int64) x + own_one (9223372036854775807 : Int64) x := fun x => by rw [hr122]; exact (own_cs_cnt r0 0 (by decide) x).trans (cr0 x)
    have dm122_1 : own_dom r122 1 := by rw [hr122]; exact own_dom_step r0 0 (own_dom0 r0)
    show own_Go _ _ _ _ (T122.setTop (mkF m 107 #[.val (.long q1), .second, .val (.long q2), .second, .val (.long q3), .second, .val (.long q4), .second, .val (.long q5), .second, .val (.int p6), .val (.int (3 : Int32)), .val (.int v12_2), .val (.ref b115), .unset, .unset] []))
    refine own_by (fun _ k => XS.aload X122.here hx rfl (hb hby at_107) rfl rfl k) ?_
    refine own_by (fun _ k => XS.iconst X122.here hx rfl (hb hby at_109) k) ?_
    refine own_by (fun _ k => XS.iconst X122.here hx rfl (hb hby at_110) k) ?_
    show own_Go _ _ _ _ (T122.setTop (mkF m 111 #[.val (.long q1), .second, .val (.long q2), .second, .val (.long q3), .second, .val (.long q4), .second, .val (.long q5), .second, .val (.int p6), .val (.int (3 : Int32)), .val (.int v12_2), .val (.ref b115), .unset, .unset] [(.int (2 : Int32)), (.int (1 : Int32)), (.ref b115)]))
    refine own_callS X122 hx hZ hown (hw _ (List.mem_of_getElem? (i := 3) rfl)) (hw _ (List.mem_of_getElem? (i := 4) rfl)) (hw _ (List.mem_of_getElem? (i := 5) rfl)) (hw _ (List.mem_of_getElem? (i := 6) rfl)) (by decide) (rm1 l Z a0 hw [] b115 (1 : Int32) (2 : Int32) 1 2 r122 h122 n0 Z122 A122 (by decide) (by decide) (by decide) (by decide) (by decide) ge115) e122 (by rw [hml]; rfl) [(.ref b115), (.int (1 : Int32)), (.int (2 : Int32))] [] rfl (lenOf own_pd0 rfl) rfl 0 (Nat.le_of_eq rfl) (by decide) (by decide) (Nat.le_of_ble_eq_true rfl) (Nat.le_of_ble_eq_true rfl) (hb hby at_111) ?_
    intro T124 Lc124 v124 X124 hQ124
    obtain ⟨h124, e124⟩ : ∃ h, T124.heap = h := ⟨_, rfl⟩
    rw [e124] at hQ124
    obtain ⟨rfl, N124q, K124, A124⟩ := hQ124
    have N124 := Fr.app N122 N124q
    have Z124 := Nat.le_trans Z122 K124.1
    obtain ⟨r124, hr124⟩ : ∃ g : Nat → Int64, g = own_cs r122 1 2 := ⟨_, rfl⟩
    rw [← hr124] at A124
    have cr124 : ∀ x, own_cnt r124 x 5 = own_one q1 x + own_one q2 x + own_one q3 x + own_one (9223372036854775807 : Int64) x + own_one (9223372036854775807 : Int64) x := fun x => by rw [hr124]; exact (own_cs_cnt r122 1 (by decide) x).trans (cr122 x)
    have dm124_2 : own_dom r124 2 := by rw [hr124]; exact own_dom_step r122 1 dm122_1
    show own_Go _ _ _ _ (T124.setTop (mkF m 114 #[.val (.long q1), .second, .val (.long q2), .second, .val (.long q3), .second, .val (.long q4), .second, .val (.long q5), .second, .val (.int p6), .val (.int (3 : Int32)), .val (.int v12_2), .val (.ref b115), .unset, .unset] []))
    refine own_by (fun _ k => XS.aload X124.here hx rfl (hb hby at_114) rfl rfl k) ?_
    refine own_by (fun _ k => XS.iconst X124.here hx rfl (hb hby at_116) k) ?_
    refine own_by (fun _ k => XS.iconst X124.here hx rfl (hb hby at_117) k) ?_
    show own_Go _ _ _ _ (T124.setTop (mkF m 118 #[.val (.long q1), .second, .val (.long q2), .second, .val (.long q3), .second, .val (.long q4), .second, .val (.long q5), .second, .val (.int p6), .val (.int (3 : Int32)), .val (.int v12_2), .val (.ref b115), .unset, .unset] [(.int (3 : Int32)), (.int (2 : Int32)), (.ref b115)]))
    refine own_callS X124 hx hZ hown (hw _ (List.mem_of_getElem? (i := 3) rfl)) (hw _ (List.mem_of_getElem? (i := 4) rfl)) (hw _ (List.mem_of_getElem? (i := 5) rfl)) (hw _ (List.mem_of_getElem? (i := 6) rfl)) (by decide) (rm1 l Z a0 hw [] b115 (2 : Int32) (3 : Int32) 2 3 r124 h124 n0 Z124 A124 (by decide) (by decide) (by decide) (by decide) (by decide) ge115) e124 (by rw [hml]; rfl) [(.ref b115), (.int (2 : Int32)), (.int (3 : Int32))] [] rfl (lenOf own_pd0 rfl) rfl 0 (Nat.le_of_eq rfl) (by decide) (by decide) (Nat.le_of_ble_eq_true rfl) (Nat.le_of_ble_eq_true rfl) (hb hby at_118) ?_
    intro T126 Lc126 v126 X126 hQ126
    obtain ⟨h126, e126⟩ : ∃ h, T126.heap = h := ⟨_, rfl⟩
    rw [e126] at hQ126
    obtain ⟨rfl, N126q, K126, A126⟩ := hQ126
    have N126 := Fr.app N124 N126q
    have Z126 := Nat.le_trans Z124 K126.1
    obtain ⟨r126, hr126⟩ : ∃ g : Nat → Int64, g = own_cs r124 2 3 := ⟨_, rfl⟩
    rw [← hr126] at A126
    have cr126 : ∀ x, own_cnt r126 x 5 = own_one q1 x + own_one q2 x + own_one q3 x + own_one (9223372036854775807 : Int64) x + own_one (9223372036854775807 : Int64) x := fun x => by rw [hr126]; exact (own_cs_cnt r124 2 (by decide) x).trans (cr124 x)
    have dm126_3 : own_dom r126 3 := by rw [hr126]; exact own_dom_step r124 2 dm124_2
    show own_Go _ _ _ _ (T126.setTop (mkF m 121 #[.val (.long q1), .second, .val (.long q2), .second, .val (.long q3), .second, .val (.long q4), .second, .val (.long q5), .second, .val (.int p6), .val (.int (3 : Int32)), .val (.int v12_2), .val (.ref b115), .unset, .unset] []))
    refine own_by (fun _ k => XS.aload X126.here hx rfl (hb hby at_121) rfl rfl k) ?_
    refine own_by (fun _ k => XS.iconst X126.here hx rfl (hb hby at_123) k) ?_
    refine own_by (fun _ k => XS.iconst X126.here hx rfl (hb hby at_124) k) ?_
    show own_Go _ _ _ _ (T126.setTop (mkF m 125 #[.val (.long q1), .second, .val (.long q2), .second, .val (.long q3), .second, .val (.long q4), .second, .val (.long q5), .second, .val (.int p6), .val (.int (3 : Int32)), .val (.int v12_2), .val (.ref b115), .unset, .unset] [(.int (4 : Int32)), (.int (3 : Int32)), (.ref b115)]))
    refine own_callS X126 hx hZ hown (hw _ (List.mem_of_getElem? (i := 3) rfl)) (hw _ (List.mem_of_getElem? (i := 4) rfl)) (hw _ (List.mem_of_getElem? (i := 5) rfl)) (hw _ (List.mem_of_getElem? (i := 6) rfl)) (by decide) (rm1 l Z a0 hw [] b115 (3 : Int32) (4 : Int32) 3 4 r126 h126 n0 Z126 A126 (by decide) (by decide) (by decide) (by decide) (by decide) ge115) e126 (by rw [hml]; rfl) [(.ref b115), (.int (3 : Int32)), (.int (4 : Int32))] [] rfl (lenOf own_pd0 rfl) rfl 0 (Nat.le_of_eq rfl) (by decide) (by decide) (Nat.le_of_ble_eq_true rfl) (Nat.le_of_ble_eq_true rfl) (hb hby at_125) ?_
    intro T128 Lc128 v128 X128 hQ128
    obtain ⟨h128, e128⟩ : ∃ h, T128.heap = h := ⟨_, rfl⟩
    rw [e128] at hQ128
    obtain ⟨rfl, N128q, K128, A128⟩ := hQ128
    have N128 := Fr.app N126 N128q
    have Z128 := Nat.le_trans Z126 K128.1
    obtain ⟨r128, hr128⟩ : ∃ g : Nat → Int64, g = own_cs r126 3 4 := ⟨_, rfl⟩
    rw [← hr128] at A128
    have cr128 : ∀ x, own_cnt r128 x 5 = own_one q1 x + own_one q2 x + own_one q3 x + own_one (9223372036854775807 : Int64) x + own_one (9223372036854775807 : Int64) x := fun x => by rw [hr128]; exact (own_cs_cnt r126 3 (by decide) x).trans (cr126 x)
    have dm128_4 : own_dom r128 4 := by rw [hr128]; exact own_dom_step r126 3 dm126_3
    show own_Go _ _ _ _ (T128.setTop (mkF m 128 #[.val (.long q1), .second, .val (.long q2), .second, .val (.long q3), .second, .val (.long q4), .second, .val (.long q5), .second, .val (.int p6), .val (.int (3 : Int32)), .val (.int v12_2), .val (.ref b115), .unset, .unset] []))
    refine own_by (fun _ k => XS.aload X128.here hx rfl (hb hby at_128) rfl rfl k) ?_
    refine own_by (fun _ k => XS.iconst X128.here hx rfl (hb hby at_130) k) ?_
    refine own_by (fun _ k => XS.iconst X128.here hx rfl (hb hby at_131) k) ?_
    show own_Go _ _ _ _ (T128.setTop (mkF m 132 #[.val (.long q1), .second, .val (.long q2), .second, .val (.long q3), .second, .val (.long q4), .second, .val (.long q5), .second, .val (.int p6), .val (.int (3 : Int32)), .val (.int v12_2), .val (.ref b115), .unset, .unset] [(.int (1 : Int32)), (.int (0 : Int32)), (.ref b115)]))
    refine own_callS X128 hx hZ hown (hw _ (List.mem_of_getElem? (i := 3) rfl)) (hw _ (List.mem_of_getElem? (i := 4) rfl)) (hw _ (List.mem_of_getElem? (i := 5) rfl)) (hw _ (List.mem_of_getElem? (i := 6) rfl)) (by decide) (rm1 l Z a0 hw [] b115 (0 : Int32) (1 : Int32) 0 1 r128 h128 n0 Z128 A128 (by decide) (by decide) (by decide) (by decide) (by decide) ge115) e128 (by rw [hml]; rfl) [(.ref b115), (.int (0 : Int32)), (.int (1 : Int32))] [] rfl (lenOf own_pd0 rfl) rfl 0 (Nat.le_of_eq rfl) (by decide) (by decide) (Nat.le_of_ble_eq_true rfl) (Nat.le_of_ble_eq_true rfl) (hb hby at_132) ?_
    intro T130 Lc130 v130 X130 hQ130
    obtain ⟨h130, e130⟩ : ∃ h, T130.heap = h := ⟨_, rfl⟩
    rw [e130] at hQ130
    obtain ⟨rfl, N130q, K130, A130⟩ := hQ130
    have N130 := Fr.app N128 N130q
    have Z130 := Nat.le_trans Z128 K130.1
    obtain ⟨r130, hr130⟩ : ∃ g : Nat → Int64, g = own_cs r128 0 1 := ⟨_, rfl⟩
    rw [← hr130] at A130
    have cr130 : ∀ x, own_cnt r130 x 5 = own_one q1 x + own_one q2 x + own_one q3 x + own_one (9223372036854775807 : Int64) x + own_one (9223372036854775807 : Int64) x := fun x => by rw [hr130]; exact (own_cs_cnt r128 0 (by decide) x).trans (cr128 x)
    have dm130_4 : own_dom r130 4 := by rw [hr130]; exact own_dom_keep r128 0 4 (by decide) dm128_4
    have dm130_1 : own_dom r130 1 := by rw [hr130]; exact own_dom_step r128 0 (own_dom0 r128)
    show own_Go _ _ _ _ (T130.setTop (mkF m 135 #[.val (.long q1), .second, .val (.long q2), .second, .val (.long q3), .second, .val (.long q4), .second, .val (.long q5), .second, .val (.int p6), .val (.int (3 : Int32)), .val (.int v12_2), .val (.ref b115), .unset, .unset] []))
    refine own_by (fun _ k => XS.aload X130.here hx rfl (hb hby at_135) rfl rfl k) ?_
    refine own_by (fun _ k => XS.iconst X130.here hx rfl (hb hby at_137) k) ?_
    refine own_by (fun _ k => XS.iconst X130.here hx rfl (hb hby at_138) k) ?_
    show own_Go _ _ _ _ (T130.setTop (mkF m 139 #[.val (.long q1), .second, .val (.long q2), .second, .val (.long q3), .second, .val (.long q4), .second, .val (.long q5), .second, .val (.int p6), .val (.int (3 : Int32)), .val (.int v12_2), .val (.ref b115), .unset, .unset] [(.int (2 : Int32)), (.int (1 : Int32)), (.ref b115)]))
    refine own_callS X130 hx hZ hown (hw _ (List.mem_of_getElem? (i := 3) rfl)) (hw _ (List.mem_of_getElem? (i := 4) rfl)) (hw _ (List.mem_of_getElem? (i := 5) rfl)) (hw _ (List.mem_of_getElem? (i := 6) rfl)) (by decide) (rm1 l Z a0 hw [] b115 (1 : Int32) (2 : Int32) 1 2 r130 h130 n0 Z130 A130 (by decide) (by decide) (by decide) (by decide) (by decide) ge115) e130 (by rw [hml]; rfl) [(.ref b115), (.int (1 : Int32)), (.int (2 : Int32))] [] rfl (lenOf own_pd0 rfl) rfl 0 (Nat.le_of_eq rfl) (by decide) (by decide) (Nat.le_of_ble_eq_true rfl) (Nat.le_of_ble_eq_true rfl) (hb hby at_139) ?_
    intro T132 Lc132 v132 X132 hQ132
    obtain ⟨h132, e132⟩ : ∃ h, T132.heap = h := ⟨_, rfl⟩
    rw [e132] at hQ132
    obtain ⟨rfl, N132q, K132, A132⟩ := hQ132
    have N132 := Fr.app N130 N132q
    have Z132 := Nat.le_trans Z130 K132.1
    obtain ⟨r132, hr132⟩ : ∃ g : Nat → Int64, g = own_cs r130 1 2 := ⟨_, rfl⟩
    rw [← hr132] at A132
    have cr132 : ∀ x, own_cnt r132 x 5 = own_one q1 x + own_one q2 x + own_one q3 x + own_one (9223372036854775807 : Int64) x + own_one (9223372036854775807 : Int64) x := fun x => by rw [hr132]; exact (own_cs_cnt r130 1 (by decide) x).trans (cr130 x)
    have dm132_4 : own_dom r132 4 := by rw [hr132]; exact own_dom_keep r130 1 4 (by decide) dm130_4
    have dm132_2 : own_dom r132 2 := by rw [hr132]; exact own_dom_step r130 1 dm130_1
    show own_Go _ _ _ _ (T132.setTop (mkF m 142 #[.val (.long q1), .second, .val (.long q2), .second, .val (.long q3), .second, .val (.long q4), .second, .val (.long q5), .second, .val (.int p6), .val (.int (3 : Int32)), .val (.int v12_2), .val (.ref b115), .unset, .unset] []))
    refine own_by (fun _ k => XS.aload X132.here hx rfl (hb hby at_142) rfl rfl k) ?_
    refine own_by (fun _ k => XS.iconst X132.here hx rfl (hb hby at_144) k) ?_
    refine own_by (fun _ k => XS.iconst X132.here hx rfl (hb hby at_145) k) ?_
    show own_Go _ _ _ _ (T132.setTop (mkF m 146 #[.val (.long q1), .second, .val (.long q2), .second, .val (.long q3), .second, .val (.long q4), .second, .val (.long q5), .second, .val (.int p6), .val (.int (3 : Int32)), .val (.int v12_2), .val (.ref b115), .unset, .unset] [(.int (3 : Int32)), (.int (2 : Int32)), (.ref b115)]))
    refine own_callS X132 hx hZ hown (hw _ (List.mem_of_getElem? (i := 3) rfl)) (hw _ (List.mem_of_getElem? (i := 4) rfl)) (hw _ (List.mem_of_getElem? (i := 5) rfl)) (hw _ (List.mem_of_getElem? (i := 6) rfl)) (by decide) (rm1 l Z a0 hw [] b115 (2 : Int32) (3 : Int32) 2 3 r132 h132 n0 Z132 A132 (by decide) (by decide) (by decide) (by decide) (by decide) ge115) e132 (by rw [hml]; rfl) [(.ref b115), (.int (2 : Int32)), (.int (3 : Int32))] [] rfl (lenOf own_pd0 rfl) rfl 0 (Nat.le_of_eq rfl) (by decide) (by decide) (Nat.le_of_ble_eq_true rfl) (Nat.le_of_ble_eq_true rfl) (hb hby at_146) ?_
    intro T134 Lc134 v134 X134 hQ134
    obtain ⟨h134, e134⟩ : ∃ h, T134.heap = h := ⟨_, rfl⟩
    rw [e134] at hQ134
    obtain ⟨rfl, N134q, K134, A134⟩ := hQ134
    have N134 := Fr.app N132 N134q
    have Z134 := Nat.le_trans Z132 K134.1
    obtain ⟨r134, hr134⟩ : ∃ g : Nat → Int64, g = own_cs r132 2 3 := ⟨_, rfl⟩
    rw [← hr134] at A134
    have cr134 : ∀ x, own_cnt r134 x 5 = own_one q1 x + own_one q2 x + own_one q3 x + own_one (9223372036854775807 : Int64) x + own_one (9223372036854775807 : Int64) x := fun x => by rw [hr134]; exact (own_cs_cnt r132 2 (by decide) x).trans (cr132 x)
    have dm134_4 : own_dom r134 4 := by rw [hr134]; exact own_dom_keep r132 2 4 (by decide) dm132_4
    have dm134_3 : own_dom r134 3 := by rw [hr134]; exact own_dom_step r132 2 dm132_2
    show own_Go _ _ _ _ (T134.setTop (mkF m 149 #[.val (.long q1), .second, .val (.long q2), .second, .val (.long q3), .second, .val (.long q4), .second, .val (.long q5), .second, .val (.int p6), .val (.int (3 : Int32)), .val (.int v12_2), .val (.ref b115), .unset, .unset] []))
    refine own_by (fun _ k => XS.aload X134.here hx rfl (hb hby at_149) rfl rfl k) ?_
    refine own_by (fun _ k => XS.iconst X134.here hx rfl (hb hby at_151) k) ?_
    refine own_by (fun _ k => XS.iconst X134.here hx rfl (hb hby at_152) k) ?_
    show own_Go _ _ _ _ (T134.setTop (mkF m 153 #[.val (.long q1), .second, .val (.long q2), .second, .val (.long q3), .second, .val (.long q4), .second, .val (.long q5), .second, .val (.int p6), .val (.int (3 : Int32)), .val (.int v12_2), .val (.ref b115), .unset, .unset] [(.int (1 : Int32)), (.int (0 : Int32)), (.ref b115)]))
    refine own_callS X134 hx hZ hown (hw _ (List.mem_of_getElem? (i := 3) rfl)) (hw _ (List.mem_of_getElem? (i := 4) rfl)) (hw _ (List.mem_of_getElem? (i := 5) rfl)) (hw _ (List.mem_of_getElem? (i := 6) rfl)) (by decide) (rm1 l Z a0 hw [] b115 (0 : Int32) (1 : Int32) 0 1 r134 h134 n0 Z134 A134 (by decide) (by decide) (by decide) (by decide) (by decide) ge115) e134 (by rw [hml]; rfl) [(.ref b115), (.int (0 : Int32)), (.int (1 : Int32))] [] rfl (lenOf own_pd0 rfl) rfl 0 (Nat.le_of_eq rfl) (by decide) (by decide) (Nat.le_of_ble_eq_true rfl) (Nat.le_of_ble_eq_true rfl) (hb hby at_153) ?_
    intro T136 Lc136 v136 X136 hQ136
    obtain ⟨h136, e136⟩ : ∃ h, T136.heap = h := ⟨_, rfl⟩
    rw [e136] at hQ136
    obtain ⟨rfl, N136q, K136, A136⟩ := hQ136
    have N136 := Fr.app N134 N136q
    have Z136 := Nat.le_trans Z134 K136.1
    obtain ⟨r136, hr136⟩ : ∃ g : Nat → Int64, g = own_cs r134 0 1 := ⟨_, rfl⟩
    rw [← hr136] at A136
    have cr136 : ∀ x, own_cnt r136 x 5 = own_one q1 x + own_one q2 x + own_one q3 x + own_one (9223372036854775807 : Int64) x + own_one (9223372036854775807 : Int64) x := fun x => by rw [hr136]; exact (own_cs_cnt r134 0 (by decide) x).trans (cr134 x)
    have dm136_4 : own_dom r136 4 := by rw [hr136]; exact own_dom_keep r134 0 4 (by decide) dm134_4
    have dm136_3 : own_dom r136 3 := by rw [hr136]; exact own_dom_keep r134 0 3 (by decide) dm134_3
    have dm136_1 : own_dom r136 1 := by rw [hr136]; exact own_dom_step r134 0 (own_dom0 r134)
    show own_Go _ _ _ _ (T136.setTop (mkF m 156 #[.val (.long q1), .second, .val (.long q2), .second, .val (.long q3), .second, .val (.long q4), .second, .val (.long q5), .second, .val (.int p6), .val (.int (3 : Int32)), .val (.int v12_2), .val (.ref b115), .unset, .unset] []))
    refine own_by (fun _ k => XS.aload X136.here hx rfl (hb hby at_156) rfl rfl k) ?_
    refine own_by (fun _ k => XS.iconst X136.here hx rfl (hb hby at_158) k) ?_
    refine own_by (fun _ k => XS.iconst X136.here hx rfl (hb hby at_159) k) ?_
    show own_Go _ _ _ _ (T136.setTop (mkF m 160 #[.val (.long q1), .second, .val (.long q2), .second, .val (.long q3), .second, .val (.long q4), .second, .val (.long q5), .second, .val (.int p6), .val (.int (3 : Int32)), .val (.int v12_2), .val (.ref b115), .unset, .unset] [(.int (2 : Int32)), (.int (1 : Int32)), (.ref b115)]))
    refine own_callS X136 hx hZ hown (hw _ (List.mem_of_getElem? (i := 3) rfl)) (hw _ (List.mem_of_getElem? (i := 4) rfl)) (hw _ (List.mem_of_getElem? (i := 5) rfl)) (hw _ (List.mem_of_getElem? (i := 6) rfl)) (by decide) (rm1 l Z a0 hw [] b115 (1 : Int32) (2 : Int32) 1 2 r136 h136 n0 Z136 A136 (by decide) (by decide) (by decide) (by decide) (by decide) ge115) e136 (by rw [hml]; rfl) [(.ref b115), (.int (1 : Int32)), (.int (2 : Int32))] [] rfl (lenOf own_pd0 rfl) rfl 0 (Nat.le_of_eq rfl) (by decide) (by decide) (Nat.le_of_ble_eq_true rfl) (Nat.le_of_ble_eq_true rfl) (hb hby at_160) ?_
    intro T138 Lc138 v138 X138 hQ138
    obtain ⟨h138, e138⟩ : ∃ h, T138.heap = h := ⟨_, rfl⟩
    rw [e138] at hQ138
    obtain ⟨rfl, N138q, K138, A138⟩ := hQ138
    have N138 := Fr.app N136 N138q
    have Z138 := Nat.le_trans Z136 K138.1
    obtain ⟨r138, hr138⟩ : ∃ g : Nat → Int64, g = own_cs r136 1 2 := ⟨_, rfl⟩
    rw [← hr138] at A138
    have cr138 : ∀ x, own_cnt r138 x 5 = own_one q1 x + own_one q2 x + own_one q3 x + own_one (9223372036854775807 : Int64) x + own_one (9223372036854775807 : Int64) x := fun x => by rw [hr138]; exact (own_cs_cnt r136 1 (by decide) x).trans (cr136 x)
    have dm138_4 : own_dom r138 4 := by rw [hr138]; exact own_dom_keep r136 1 4 (by decide) dm136_4
    have dm138_3 : own_dom r138 3 := by rw [hr138]; exact own_dom_keep r136 1 3 (by decide) dm136_3
    have dm138_2 : own_dom r138 2 := by rw [hr138]; exact own_dom_step r136 1 dm136_1
    show own_Go _ _ _ _ (T138.setTop (mkF m 163 #[.val (.long q1), .second, .val (.long q2), .second, .val (.long q3), .second, .val (.long q4), .second, .val (.long q5), .second, .val (.int p6), .val (.int (3 : Int32)), .val (.int v12_2), .val (.ref b115), .unset, .unset] []))
    refine own_by (fun _ k => XS.aload X138.here hx rfl (hb hby at_163) rfl rfl k) ?_
    refine own_by (fun _ k => XS.iconst X138.here hx rfl (hb hby at_165) k) ?_
    refine own_by (fun _ k => XS.iconst X138.here hx rfl (hb hby at_166) k) ?_
    show own_Go _ _ _ _ (T138.setTop (mkF m 167 #[.val (.long q1), .second, .val (.long q2), .second, .val (.long q3), .second, .val (.long q4), .second, .val (.long q5), .second, .val (.int p6), .val (.int (3 : Int32)), .val (.int v12_2), .val (.ref b115), .unset, .unset] [(.int (1 : Int32)), (.int (0 : Int32)), (.ref b115)]))
    refine own_callS X138 hx hZ hown (hw _ (List.mem_of_getElem? (i := 3) rfl)) (hw _ (List.mem_of_getElem? (i := 4) rfl)) (hw _ (List.mem_of_getElem? (i := 5) rfl)) (hw _ (List.mem_of_getElem? (i := 6) rfl)) (by decide) (rm1 l Z a0 hw [] b115 (0 : Int32) (1 : Int32) 0 1 r138 h138 n0 Z138 A138 (by decide) (by decide) (by decide) (by decide) (by decide) ge115) e138 (by rw [hml]; rfl) [(.ref b115), (.int (0 : Int32)), (.int (1 : Int32))] [] rfl (lenOf own_pd0 rfl) rfl 0 (Nat.le_of_eq rfl) (by decide) (by decide) (Nat.le_of_ble_eq_true rfl) (Nat.le_of_ble_eq_true rfl) (hb hby at_167) ?_
    intro T140 Lc140 v140 X140 hQ140
    obtain ⟨h140, e140⟩ : ∃ h, T140.heap = h := ⟨_, rfl⟩
    rw [e140] at hQ140
    obtain ⟨rfl, N140q, K140, A140⟩ := hQ140
    have N140 := Fr.app N138 N140q
    have Z140 := Nat.le_trans Z138 K140.1
    obtain ⟨r140, hr140⟩ : ∃ g : Nat → Int64, g = own_cs r138 0 1 := ⟨_, rfl⟩
    rw [← hr140] at A140
    have cr140 : ∀ x, own_cnt r140 x 5 = own_one q1 x + own_one q2 x + own_one q3 x + own_one (9223372036854775807 : Int64) x + own_one (9223372036854775807 : Int64) x := fun x => by rw [hr140]; exact (own_cs_cnt r138 0 (by decide) x).trans (cr138 x)
    have dm140_4 : own_dom r140 4 := by rw [hr140]; exact own_dom_keep r138 0 4 (by decide) dm138_4
    have dm140_3 : own_dom r140 3 := by rw [hr140]; exact own_dom_keep r138 0 3 (by decide) dm138_3
    have dm140_2 : own_dom r140 2 := by rw [hr140]; exact own_dom_keep r138 0 2 (by decide) dm138_2
    have dm140_1 : own_dom r140 1 := by rw [hr140]; exact own_dom_step r138 0 (own_dom0 r138)
    have hsd : own_sd [r140 0, r140 1, r140 2, r140 3, r140 4] := by
      have s01 := dm140_1 0 (by decide)
      have s02 := dm140_2 0 (by decide)
      have s03 := dm140_3 0 (by decide)
      have s04 := dm140_4 0 (by decide)
      have s12 := dm140_2 1 (by decide)
      have s13 := dm140_3 1 (by decide)
      have s14 := dm140_4 1 (by decide)
      have s23 := dm140_3 2 (by decide)
      have s24 := dm140_4 2 (by decide)
      have s34 := dm140_4 3 (by decide)
      simp [own_sd, s01, s02, s03, s04, s12, s13, s14, s23, s24, s34]
    have hrl : ∀ x, own_cl x [r140 0, r140 1, r140 2, r140 3, r140 4] = own_one q1 x + own_one q2 x + own_one q3 x + own_one (9223372036854775807 : Int64) x + own_one (9223372036854775807 : Int64) x := fun x => by have q := cr140 x; simp [own_cnt] at q; simp [own_cl]; omega
    show own_Go _ _ _ _ (T140.setTop (mkF m 170 #[.val (.long q1), .second, .val (.long q2), .second, .val (.long q3), .second, .val (.long q4), .second, .val (.long q5), .second, .val (.int p6), .val (.int (3 : Int32)), .val (.int v12_2), .val (.ref b115), .unset, .unset] []))
    obtain ⟨T142, h142, X142, e142, E142, A142, D142, -, st142⟩ := newO X140 hx hZ hown (hw _ (List.mem_of_getElem? (i := 7) rfl)) (hw _ (List.mem_of_getElem? (i := 8) rfl)) (hw _ (List.mem_of_getElem? (i := 9) rfl)) e140 (g := (mkF m 170 #[.val (.long q1), .second, .val (.long q2), .second, .val (.long q3), .second, .val (.long q4), .second, .val (.long q5), .second, .val (.int p6), .val (.int (3 : Int32)), .val (.int v12_2), .val (.ref b115), .unset, .unset] [])) rfl (hb hby at_170) (by decide) (by decide)
    refine own_by st142 ?_
    show own_Go _ _ _ _ (T142.setTop (mkF m 173 #[.val (.long q1), .second, .val (.long q2), .second, .val (.long q3), .second, .val (.long q4), .second, .val (.long q5), .second, .val (.int p6), .val (.int (3 : Int32)), .val (.int v12_2), .val (.ref b115), .unset, .unset] [.ref h140.size]))
    obtain ⟨b142, g142⟩ : ∃ z, z = h140.size := ⟨_, rfl⟩
    rw [← g142] at A142 D142
    refine own_gen g142.symm (fun z_ => T142.setTop (mkF m 173 #[.val (.long q1), .second, .val (.long q2), .second, .val (.long q3), .second, .val (.long q4), .second, .val (.long q5), .second, .val (.int p6), .val (.int (3 : Int32)), .val (.int v12_2), .val (.ref b115), .unset, .unset] [.ref z_])) ?_
    have ne143 : b115 ≠ b142 := Nat.ne_of_lt (Nat.lt_of_lt_of_le A140.lt (Nat.le_of_eq g142.symm))
    have ge142 : n0 ≤ b142 := Nat.le_trans Z140 (Nat.le_of_eq g142.symm)
    have f144 := A140.ext E142
    have Z142 := Nat.le_trans Z140 E142.1
    have f145 : Fld Z h142 b142 "com/example/libmakespan/libmakespan/planners/LongHeap" "values" "[J" .null := D142 (Or.inl (hw _ (List.mem_of_getElem? (i := 21) rfl))) (ty := (.array .long)) (by decide)
    have f146 : Fld Z h142 b142 "com/example/libmakespan/libmakespan/planners/LongHeap" "size" "I" (.int (0 : Int32)) := D142 (Or.inl (hw _ (List.mem_of_getElem? (i := 28) rfl))) (ty := .int) (by decide)
    show own_Go _ _ _ _ (T142.setTop (mkF m 173 #[.val (.long q1), .second, .val (.long q2), .second, .val (.long q3), .second, .val (.long q4), .second, .val (.long q5), .second, .val (.int p6), .val (.int (3 : Int32)), .val (.int v12_2), .val (.ref b115), .unset, .unset] [(.ref b142)]))
    refine own_by (fun _ k => XS.dup X142.here hx rfl (hb hby at_173) rfl rfl k) ?_
    refine own_by (fun _ k => XS.iload X142.here hx rfl (hb hby at_174) rfl k) ?_
    show own_Go _ _ _ _ (T142.setTop (mkF m 176 #[.val (.long q1), .second, .val (.long q2), .second, .val (.long q3), .second, .val (.long q4), .second, .val (.long q5), .second, .val (.int p6), .val (.int (3 : Int32)), .val (.int v12_2), .val (.ref b115), .unset, .unset] [(.int v12_2), (.ref b142), (.ref b142)]))
    refine own_callI X142 hx hZ hown rfl (hw _ (List.mem_of_getElem? (i := 10) rfl)) (hw _ (List.mem_of_getElem? (i := 11) rfl)) (hw _ (List.mem_of_getElem? (i := 9) rfl)) (hw _ (List.mem_of_getElem? (i := 12) rfl)) (by decide) (rm2 l Z a0 hw [] b142 v12_2 h142 n0 Z142 A142 f145 f146 ge142 hp12) e142 (by rw [hml]; rfl) b142 [(.int v12_2)] [(.ref b142)] rfl (lenOf own_pd1 rfl) rfl 1 (Nat.le_of_eq rfl) (by decide) (by decide) (Nat.le_of_ble_eq_true rfl) (Nat.le_of_ble_eq_true rfl) (hb hby at_176) ?_
    intro T147 Lc147 v147 X147 hQ147
    obtain ⟨h147, e147⟩ : ∃ h, T147.heap = h := ⟨_, rfl⟩
    rw [e147] at hQ147
    obtain ⟨rfl, N147q, K147, bb147, nn147, h1147, h3147, FV147, FS147, AH147, gb147, nw147⟩ := hQ147
    have N147 := Fr.app N140 N147q
    have f148 := f144.keep K147 (ninS ne143 nin0)
    have f149 := A142.keep K147
    have Z147 := Nat.le_trans Z142 K147.1
    have ne147a : b142 ≠ bb147 := Nat.ne_of_lt (Nat.lt_of_lt_of_le A142.lt nw147)
    have ne147r : b115 ≠ bb147 := Nat.ne_of_lt (Nat.lt_of_lt_of_le f144.lt nw147)
    have hc147 : ∀ x, own_cnt (fun _ => (0 : Int64)) x 0 = 0 := fun _ => rfl
    have HP147 : own_hp (fun _ => 0) 0 := ⟨fun q => by omega, fun q => by omega, fun q => by omega, fun q => by omega⟩
    show own_Go _ _ _ _ (T147.setTop (mkF m 179 #[.val (.long q1), .second, .val (.long q2), .second, .val (.long q3), .second, .val (.long q4), .second, .val (.long q5), .second, .val (.int p6), .val (.int (3 : Int32)), .val (.int v12_2), .val (.ref b115), .unset, .unset] [(.ref b142)]))
    refine own_by (fun _ k => XS.astore X147.here hx rfl (hb hby at_179) rfl rfl (l' := #[.val (.long q1), .second, .val (.long q2), .second, .val (.long q3), .second, .val (.long q4), .second, .val (.long q5), .second, .val (.int p6), .val (.int (3 : Int32)), .val (.int v12_2), .val (.ref b115), .val (.ref b142), .unset]) rfl k) ?_
    refine own_by (fun _ k => XS.aload X147.here hx rfl (hb hby at_181) rfl rfl k) ?_
    refine own_by (fun _ k => XS.lloadN X147.here hx rfl (hb hby at_183) rfl k) ?_
    show own_Go _ _ _ _ (T147.setTop (mkF m 184 #[.val (.long q1), .second, .val (.long q2), .second, .val (.long q3), .second, .val (.long q4), .second, .val (.long q5), .second, .val (.int p6), .val (.int (3 : Int32)), .val (.int v12_2), .val (.ref b115), .val (.ref b142), .unset] [(.long q1), (.ref b142)]))
    refine own_callV X147 hx hZ hown (hw _ (List.mem_of_getElem? (i := 22) rfl)) (hw _ (List.mem_of_getElem? (i := 23) rfl)) (notFace_of_selects (args := #[]) (mvT hZ (hw _ (List.mem_of_getElem? (i := 25) rfl)))) (hw _ (List.mem_of_getElem? (i := 25) rfl)) (hw _ (List.mem_of_getElem? (i := 24) rfl)) (hw _ (List.mem_of_getElem? (i := 9) rfl)) (hw _ (List.mem_of_getElem? (i := 26) rfl)) (by decide) (rm5_0 l Z a0 hw [] b142 q1 bb147 nn147 (fun _ => 0) h147 n0 Z147 f149 FV147 FS147 AH147 ge142 gb147 ne147a (by omega) (by omega) HP147) e147 b142 f149 (by rw [hml]; rfl) [(.long q1)] [] rfl (lenOf own_pd3 rfl) rfl 0 (Nat.le_of_eq rfl) (by decide) (by decide) (Nat.le_of_ble_eq_true rfl) (Nat.le_of_ble_eq_true rfl) (hb hby at_184) ?_
    intro T152 Lc152 v152 X152 hQ152
    obtain ⟨h152, e152⟩ : ∃ h, T152.heap = h := ⟨_, rfl⟩
    rw [e152] at hQ152
    obtain ⟨rfl, N152q, K152, bb152, nn152, ff152, h1152, h8152, FV152, FS152, AH152, gb152, ho152, HP152, hc152⟩ := hQ152
    have N152 := Fr.app N147 N152q
    have f153 := f148.keep K152 (ninS ne143 (ninS ne147r nin0))
    have f154 := f149.keep K152
    have Z152 := Nat.le_trans Z147 K152.1
    have ne152a : b142 ≠ bb152 := ho152.elim (fun q => by rw [q]; exact ne147a) (fun q => Nat.ne_of_lt (Nat.lt_of_lt_of_le f149.lt q))
    have ne152r : b115 ≠ bb152 := ho152.elim (fun q => by rw [q]; exact ne147r) (fun q => Nat.ne_of_lt (Nat.lt_of_lt_of_le f148.lt q))
    have hd152 : ∀ x, own_cnt ff152 x 1 = own_one q1 x := fun x => by have q := hc152 x; have q' := hc147 x; omega
    show own_Go _ _ _ _ (T152.setTop (mkF m 187 #[.val (.long q1), .second, .val (.long q2), .second, .val (.long q3), .second, .val (.long q4), .second, .val (.long q5), .second, .val (.int p6), .val (.int (3 : Int32)), .val (.int v12_2), .val (.ref b115), .val (.ref b142), .unset] []))
    refine own_by (fun _ k => XS.iload X152.here hx rfl (hb hby at_187) rfl k) ?_
    refine own_by (fun _ k => XS.iconst X152.here hx rfl (hb hby at_189) k) ?_
    show own_Go _ _ _ _ (T152.setTop (mkF m 190 #[.val (.long q1), .second, .val (.long q2), .second, .val (.long q3), .second, .val (.long q4), .second, .val (.long q5), .second, .val (.int p6), .val (.int (3 : Int32)), .val (.int v12_2), .val (.ref b115), .val (.ref b142), .unset] [(.int (1 : Int32)), (.int (3 : Int32))]))
    refine own_by (fun _ k => XS.icmpNo X152.here hx rfl (hb hby at_190) rfl (tlt (by decide)).2.2.2 k) ?_
    refine own_by (fun _ k => XS.aload X152.here hx rfl (hb hby at_193) rfl rfl k) ?_
    refine own_by (fun _ k => XS.lloadN X152.here hx rfl (hb hby at_195) rfl k) ?_
    show own_Go _ _ _ _ (T152.setTop (mkF m 196 #[.val (.long q1), .second, .val (.long q2), .second, .val (.long q3), .second, .val (.long q4), .second, .val (.long q5), .second, .val (.int p6), .val (.int (3 : Int32)), .val (.int v12_2), .val (.ref b115), .val (.ref b142), .unset] [(.long q2), (.ref b142)]))
    refine own_callV X152 hx hZ hown (hw _ (List.mem_of_getElem? (i := 22) rfl)) (hw _ (List.mem_of_getElem? (i := 23) rfl)) (notFace_of_selects (args := #[]) (mvT hZ (hw _ (List.mem_of_getElem? (i := 25) rfl)))) (hw _ (List.mem_of_getElem? (i := 25) rfl)) (hw _ (List.mem_of_getElem? (i := 24) rfl)) (hw _ (List.mem_of_getElem? (i := 9) rfl)) (hw _ (List.mem_of_getElem? (i := 26) rfl)) (by decide) (rm5_1 l Z a0 hw [] b142 q2 bb152 nn152 ff152 h152 n0 Z152 f154 FV152 FS152 AH152 ge142 gb152 ne152a (by omega) (by omega) HP152) e152 b142 f154 (by rw [hml]; rfl) [(.long q2)] [] rfl (lenOf own_pd3 rfl) rfl 0 (Nat.le_of_eq rfl) (by decide) (by decide) (Nat.le_of_ble_eq_true rfl) (Nat.le_of_ble_eq_true rfl) (hb hby at_196) ?_
    intro T158 Lc158 v158 X158 hQ158
    obtain ⟨h158, e158⟩ : ∃ h, T158.heap = h := ⟨_, rfl⟩
    rw [e158] at hQ158
    obtain ⟨rfl, N158q, K158, bb158, nn158, ff158, h1158, h8158, FV158, FS158, AH158, gb158, ho158, HP158, hc158⟩ := hQ158
    have N158 := Fr.app N152 N158q
    have f159 := f153.keep K158 (ninS ne143 (ninS ne152r nin0))
    have f160 := f154.keep K158
    have Z158 := Nat.le_trans Z152 K158.1
    have ne158a : b142 ≠ bb158 := ho158.elim (fun q => by rw [q]; exact ne152a) (fun q => Nat.ne_of_lt (Nat.lt_of_lt_of_le f154.lt q))
    have ne158r : b115 ≠ bb158 := ho158.elim (fun q => by rw [q]; exact ne152r) (fun q => Nat.ne_of_lt (Nat.lt_of_lt_of_le f153.lt q))
    have hd158 : ∀ x, own_cnt ff158 x 2 = own_one q1 x + own_one q2 x := fun x => by have q := hc158 x; have q' := hd152 x; omega
    show own_Go _ _ _ _ (T158.setTop (mkF m 199 #[.val (.long q1), .second, .val (.long q2), .second, .val (.long q3), .second, .val (.long q4), .second, .val (.long q5), .second, .val (.int p6), .val (.int (3 : Int32)), .val (.int v12_2), .val (.ref b115), .val (.ref b142), .unset] []))
    refine own_by (fun _ k => XS.iload X158.here hx rfl (hb hby at_199) rfl k) ?_
    refine own_by (fun _ k => XS.iconst X158.here hx rfl (hb hby at_201) k) ?_
    show own_Go _ _ _ _ (T158.setTop (mkF m 202 #[.val (.long q1), .second, .val (.long q2), .second, .val (.long q3), .second, .val (.long q4), .second, .val (.long q5), .second, .val (.int p6), .val (.int (3 : Int32)), .val (.int v12_2), .val (.ref b115), .val (.ref b142), .unset] [(.int (2 : Int32)), (.int (3 : Int32))]))
    refine own_by (fun _ k => XS.icmpNo X158.here hx rfl (hb hby at_202) rfl (tlt (by decide)).2.2.2 k) ?_
    refine own_by (fun _ k => XS.aload X158.here hx rfl (hb hby at_205) rfl rfl k) ?_
    refine own_by (fun _ k => XS.lload X158.here hx rfl (hb hby at_207) rfl k) ?_
    show own_Go _ _ _ _ (T158.setTop (mkF m 209 #[.val (.long q1), .second, .val (.long q2), .second, .val (.long q3), .second, .val (.long q4), .second, .val (.long q5), .second, .val (.int p6), .val (.int (3 : Int32)), .val (.int v12_2), .val (.ref b115), .val (.ref b142), .unset] [(.long q3), (.ref b142)]))
    refine own_callV X158 hx hZ hown (hw _ (List.mem_of_getElem? (i := 22) rfl)) (hw _ (List.mem_of_getElem? (i := 23) rfl)) (notFace_of_selects (args := #[]) (mvT hZ (hw _ (List.mem_of_getElem? (i := 25) rfl)))) (hw _ (List.mem_of_getElem? (i := 25) rfl)) (hw _ (List.mem_of_getElem? (i := 24) rfl)) (hw _ (List.mem_of_getElem? (i := 9) rfl)) (hw _ (List.mem_of_getElem? (i := 26) rfl)) (by decide) (rm5_2 l Z a0 hw [] b142 q3 bb158 nn158 ff158 h158 n0 Z158 f160 FV158 FS158 AH158 ge142 gb158 ne158a (by omega) (by omega) HP158) e158 b142 f160 (by rw [hml]; rfl) [(.long q3)] [] rfl (lenOf own_pd3 rfl) rfl 0 (Nat.le_of_eq rfl) (by decide) (by decide) (Nat.le_of_ble_eq_true rfl) (Nat.le_of_ble_eq_true rfl) (hb hby at_209) ?_
    intro T164 Lc164 v164 X164 hQ164
    obtain ⟨h164, e164⟩ : ∃ h, T164.heap = h := ⟨_, rfl⟩
    rw [e164] at hQ164
    obtain ⟨rfl, N164q, K164, bb164, nn164, ff164, h1164, h8164, FV164, FS164, AH164, gb164, ho164, HP164, hc164⟩ := hQ164
    have N164 := Fr.app N158 N164q
    have f165 := f159.keep K164 (ninS ne143 (ninS ne158r nin0))
    have f166 := f160.keep K164
    have Z164 := Nat.le_trans Z158 K164.1
    have ne164a : b142 ≠ bb164 := ho164.elim (fun q => by rw [q]; exact ne158a) (fun q => Nat.ne_of_lt (Nat.lt_of_lt_of_le f160.lt q))
    have ne164r : b115 ≠ bb164 := ho164.elim (fun q => by rw [q]; exact ne158r) (fun q => Nat.ne_of_lt (Nat.lt_of_lt_of_le f159.lt q))
    have hd164 : ∀ x, own_cnt ff164 x 3 = own_one q1 x + own_one q2 x + own_one q3 x := fun x => by have q := hc164 x; have q' := hd158 x; omega
    show own_Go _ _ _ _ (T164.setTop (mkF m 212 #[.val (.long q1), .second, .val (.long q2), .second, .val (.long q3), .second, .val (.long q4), .second, .val (.long q5), .second, .val (.int p6), .val (.int (3 : Int32)), .val (.int v12_2), .val (.ref b115), .val (.ref b142), .unset] []))
    refine own_by (fun _ k => XS.iload X164.here hx rfl (hb hby at_212) rfl k) ?_
    refine own_by (fun _ k => XS.iconst X164.here hx rfl (hb hby at_214) k) ?_
    show own_Go _ _ _ _ (T164.setTop (mkF m 215 #[.val (.long q1), .second, .val (.long q2), .second, .val (.long q3), .second, .val (.long q4), .second, .val (.long q5), .second, .val (.int p6), .val (.int (3 : Int32)), .val (.int v12_2), .val (.ref b115), .val (.ref b142), .unset] [(.int (3 : Int32)), (.int (3 : Int32))]))
    refine own_by (fun _ k => XS.icmpYes X164.here hx rfl (pc0 := 215) (pc' := 225) rfl (hb hby at_215) rfl (flt (by decide)).2.2.2 (by decide) (by decide) k) ?_
    refine own_by (fun _ k => XS.iload X164.here hx rfl (hb hby at_225) rfl k) ?_
    refine own_by (fun _ k => XS.iconst X164.here hx rfl (hb hby at_227) k) ?_
    show own_Go _ _ _ _ (T164.setTop (mkF m 228 #[.val (.long q1), .second, .val (.long q2), .second, .val (.long q3), .second, .val (.long q4), .second, .val (.long q5), .second, .val (.int p6), .val (.int (3 : Int32)), .val (.int v12_2), .val (.ref b115), .val (.ref b142), .unset] [(.int (4 : Int32)), (.int (3 : Int32))]))
    refine own_by (fun _ k => XS.icmpYes X164.here hx rfl (pc0 := 228) (pc' := 238) rfl (hb hby at_228) rfl (flt (by decide)).2.2.2 (by decide) (by decide) k) ?_
    have hq0 : ∀ x, own_cnt ff164 x 3 + 2 * own_one 9223372036854775807 x = own_cl x [r140 0, r140 1, r140 2, r140 3, r140 4] := fun x => by rw [hd164 x, hrl x]; omega
    refine own_by (fun _ k => XS.aload X164.here hx rfl (hb hby at_238) rfl rfl k) ?_
    show own_Go _ _ _ _ (T164.setTop (mkF m 240 #[.val (.long q1), .second, .val (.long q2), .second, .val (.long q3), .second, .val (.long q4), .second, .val (.long q5), .second, .val (.int p6), .val (.int (3 : Int32)), .val (.int v12_2), .val (.ref b115), .val (.ref b142), .unset] [(.ref b142)]))
    have he0 : ff164 0 = r140 0 := own_hd ff164 3 2 _ [r140 1, r140 2, r140 3, r140 4] (by decide) (by decide) HP164 hsd hq0
    refine own_callV X164 hx hZ hown (hw _ (List.mem_of_getElem? (i := 40) rfl)) (hw _ (List.mem_of_getElem? (i := 41) rfl)) (notFace_of_selects (args := #[]) (mvT hZ (hw _ (List.mem_of_getElem? (i := 43) rfl)))) (hw _ (List.mem_of_getElem? (i := 43) rfl)) (hw _ (List.mem_of_getElem? (i := 42) rfl)) (hw _ (List.mem_of_getElem? (i := 9) rfl)) (hw _ (List.mem_of_getElem? (i := 44) rfl)) (by decide) (rm8_3 l Z a0 hw [] b142 bb164 nn164 ff164 h164 n0 Z164 f166 FV164 FS164 AH164 ge142 gb164 ne164a (by omega) (by omega) HP164) e164 b142 f166 (by rw [hml]; rfl) [] [] rfl (lenOf own_pd5 rfl) rfl 0 (Nat.le_of_eq rfl) (by decide) (by decide) (Nat.le_of_ble_eq_true rfl) (Nat.le_of_ble_eq_true rfl) (hb hby at_240) ?_
    intro T170 Lc170 v170 X170 hQ170
    obtain ⟨h170, e170⟩ : ∃ h, T170.heap = h := ⟨_, rfl⟩
    rw [e170] at hQ170
    obtain ⟨rfl, N170q, K170, ff170, FV170, FS170, AH170, HP170, hc170⟩ := hQ170
    have N170 := Fr.app N164 N170q
    have f171 := f165.keep K170 (ninS ne143 (ninS ne164r nin0))
    have f172 := f166.keep K170
    have Z170 := Nat.le_trans Z164 K170.1
    have hq1 := own_next ff164 ff170 2 2 _ [r140 1, r140 2, r140 3, r140 4] he0 hq0 hc170
    show own_Go _ _ _ _ (T170.setTop (mkF m 243 #[.val (.long q1), .second, .val (.long q2), .second, .val (.long q3), .second, .val (.long q4), .second, .val (.long q5), .second, .val (.int p6), .val (.int (3 : Int32)), .val (.int v12_2), .val (.ref b115), .val (.ref b142), .unset] [(.long (ff164 0))]))
    refine own_by (fun _ k => XS.aload X170.here hx rfl (hb hby at_243) rfl rfl k) ?_
    refine own_by (fun _ k => XS.iconst X170.here hx rfl (hb hby at_245) k) ?_
    show own_Go _ _ _ _ (T170.setTop (mkF m 246 #[.val (.long q1), .second, .val (.long q2), .second, .val (.long q3), .second, .val (.long q4), .second, .val (.long q5), .second, .val (.int p6), .val (.int (3 : Int32)), .val (.int v12_2), .val (.ref b115), .val (.ref b142), .unset] [(.int (0 : Int32)), (.ref b115), (.long (ff164 0))]))
    refine own_by (fun _ k => own_lal X170 hx hZ e170 f171 0 (by decide) (by decide) (hb hby at_246) k) ?_
    show own_Go _ _ _ _ (T170.setTop (mkF m 247 #[.val (.long q1), .second, .val (.long q2), .second, .val (.long q3), .second, .val (.long q4), .second, .val (.long q5), .second, .val (.int p6), .val (.int (3 : Int32)), .val (.int v12_2), .val (.ref b115), .val (.ref b142), .unset] [(.long (r140 0)), (.long (ff164 0))]))
    refine own_by (fun _ k => XS.lcmp X170.here hx rfl (hb hby at_247) rfl k) ?_
    show own_Go _ _ _ _ (T170.setTop (mkF m 248 #[.val (.long q1), .second, .val (.long q2), .second, .val (.long q3), .second, .val (.long q4), .second, .val (.long q5), .second, .val (.int p6), .val (.int (3 : Int32)), .val (.int v12_2), .val (.ref b115), .val (.ref b142), .unset] [(.int (lcmpW (ff164 0) (r140 0)))]))
    refine own_by (fun _ k => XS.ifNo X170.here hx rfl (hb hby at_248) rfl ((if0 _ _).trans (teq ((lw_eq _ _).mpr he0)).2) k) ?_
    refine own_by (fun _ k => XS.iconst X170.here hx rfl (hb hby at_251) k) ?_
    show own_Go _ _ _ _ (T170.setTop (mkF m 252 #[.val (.long q1), .second, .val (.long q2), .second, .val (.long q3), .second, .val (.long q4), .second, .val (.long q5), .second, .val (.int p6), .val (.int (3 : Int32)), .val (.int v12_2), .val (.ref b115), .val (.ref b142), .unset] [(.int (1 : Int32))]))
    refine own_by (fun _ k => XS.goto X170.here hx rfl (pc0 := 252) (pc' := 256) rfl (hb hby at_252) (by decide) (by decide) k) ?_
    show own_Go _ _ _ _ (T170.setTop (mkF m 256 #[.val (.long q1), .second, .val (.long q2), .second, .val (.long q3), .second, .val (.long q4), .second, .val (.long q5), .second, .val (.int p6), .val (.int (3 : Int32)), .val (.int v12_2), .val (.ref b115), .val (.ref b142), .unset] [(.int (1 : Int32))]))
    refine own_by (fun _ k => XS.istore X170.here hx rfl (hb hby at_256) rfl (l' := #[.val (.long q1), .second, .val (.long q2), .second, .val (.long q3), .second, .val (.long q4), .second, .val (.long q5), .second, .val (.int p6), .val (.int (3 : Int32)), .val (.int v12_2), .val (.ref b115), .val (.ref b142), .val (.int (1 : Int32))]) rfl k) ?_
    refine own_by (fun _ k => XS.iload X170.here hx rfl (hb hby at_258) rfl k) ?_
    refine own_by (fun _ k => XS.iconst X170.here hx rfl (hb hby at_260) k) ?_
    show own_Go _ _ _ _ (T170.setTop (mkF m 261 #[.val (.long q1), .second, .val (.long q2), .second, .val (.long q3), .second, .val (.long q4), .second, .val (.long q5), .second, .val (.int p6), .val (.int (3 : Int32)), .val (.int v12_2), .val (.ref b115), .val (.ref b142), .val (.int (1 : Int32))] [(.int (1 : Int32)), (.int (3 : Int32))]))
    refine own_by (fun _ k => XS.icmpNo X170.here hx rfl (hb hby at_261) rfl (tlt (by decide)).2.2.2 k) ?_
    refine own_by (fun _ k => XS.aload X170.here hx rfl (hb hby at_264) rfl rfl k) ?_
    show own_Go _ _ _ _ (T170.setTop (mkF m 266 #[.val (.long q1), .second, .val (.long q2), .second, .val (.long q3), .second, .val (.long q4), .second, .val (.long q5), .second, .val (.int p6), .val (.int (3 : Int32)), .val (.int v12_2), .val (.ref b115), .val (.ref b142), .val (.int (1 : Int32))] [(.ref b142)]))
    have he1 : ff170 0 = r140 1 := own_hd ff170 2 2 _ [r140 2, r140 3, r140 4] (by decide) (by decide) HP170 hsd.2 hq1
    refine own_callV X170 hx hZ hown (hw _ (List.mem_of_getElem? (i := 40) rfl)) (hw _ (List.mem_of_getElem? (i := 41) rfl)) (notFace_of_selects (args := #[]) (mvT hZ (hw _ (List.mem_of_getElem? (i := 43) rfl)))) (hw _ (List.mem_of_getElem? (i := 43) rfl)) (hw _ (List.mem_of_getElem? (i := 42) rfl)) (hw _ (List.mem_of_getElem? (i := 9) rfl)) (hw _ (List.mem_of_getElem? (i := 44) rfl)) (by decide) (rm8_2 l Z a0 hw [] b142 bb164 nn164 ff170 h170 n0 Z170 f172 FV170 FS170 AH170 ge142 gb164 ne164a (by omega) (by omega) HP170) e170 b142 f172 (by rw [hml]; rfl) [] [] rfl (lenOf own_pd5 rfl) rfl 0 (Nat.le_of_eq rfl) (by decide) (by decide) (Nat.le_of_ble_eq_true rfl) (Nat.le_of_ble_eq_true rfl) (hb hby at_266) ?_
    intro T176 Lc176 v176 X176 hQ176
    obtain ⟨h176, e176⟩ : ∃ h, T176.heap = h := ⟨_, rfl⟩
    rw [e176] at hQ176
    obtain ⟨rfl, N176q, K176, ff176, FV176, FS176, AH176, HP176, hc176⟩ := hQ176
    have N176 := Fr.app N170 N176q
    have f177 := f171.keep K176 (ninS ne143 (ninS ne164r nin0))
    have f178 := f172.keep K176
    have Z176 := Nat.le_trans Z170 K176.1
    have hq2 := own_next ff170 ff176 1 2 _ [r140 2, r140 3, r140 4] he1 hq1 hc176
    show own_Go _ _ _ _ (T176.setTop (mkF m 269 #[.val (.long q1), .second, .val (.long q2), .second, .val (.long q3), .second, .val (.long q4), .second, .val (.long q5), .second, .val (.int p6), .val (.int (3 : Int32)), .val (.int v12_2), .val (.ref b115), .val (.ref b142), .val (.int (1 : Int32))] [(.long (ff170 0))]))
    refine own_by (fun _ k => XS.aload X176.here hx rfl (hb hby at_269) rfl rfl k) ?_
    refine own_by (fun _ k => XS.iconst X176.here hx rfl (hb hby at_271) k) ?_
    show own_Go _ _ _ _ (T176.setTop (mkF m 272 #[.val (.long q1), .second, .val (.long q2), .second, .val (.long q3), .second, .val (.long q4), .second, .val (.long q5), .second, .val (.int p6), .val (.int (3 : Int32)), .val (.int v12_2), .val (.ref b115), .val (.ref b142), .val (.int (1 : Int32))] [(.int (1 : Int32)), (.ref b115), (.long (ff170 0))]))
    refine own_by (fun _ k => own_lal X176 hx hZ e176 f177 1 (by decide) (by decide) (hb hby at_272) k) ?_
    show own_Go _ _ _ _ (T176.setTop (mkF m 273 #[.val (.long q1), .second, .val (.long q2), .second, .val (.long q3), .second, .val (.long q4), .second, .val (.long q5), .second, .val (.int p6), .val (.int (3 : Int32)), .val (.int v12_2), .val (.ref b115), .val (.ref b142), .val (.int (1 : Int32))] [(.long (r140 1)), (.long (ff170 0))]))
    refine own_by (fun _ k => XS.lcmp X176.here hx rfl (hb hby at_273) rfl k) ?_
    show own_Go _ _ _ _ (T176.setTop (mkF m 274 #[.val (.long q1), .second, .val (.long q2), .second, .val (.long q3), .second, .val (.long q4), .second, .val (.long q5), .second, .val (.int p6), .val (.int (3 : Int32)), .val (.int v12_2), .val (.ref b115), .val (.ref b142), .val (.int (1 : Int32))] [(.int (lcmpW (ff170 0) (r140 1)))]))
    refine own_by (fun _ k => XS.ifNo X176.here hx rfl (hb hby at_274) rfl ((if0 _ _).trans (teq ((lw_eq _ _).mpr he1)).2) k) ?_
    refine own_by (fun _ k => XS.iconst X176.here hx rfl (hb hby at_277) k) ?_
    show own_Go _ _ _ _ (T176.setTop (mkF m 278 #[.val (.long q1), .second, .val (.long q2), .second, .val (.long q3), .second, .val (.long q4), .second, .val (.long q5), .second, .val (.int p6), .val (.int (3 : Int32)), .val (.int v12_2), .val (.ref b115), .val (.ref b142), .val (.int (1 : Int32))] [(.int (1 : Int32))]))
    refine own_by (fun _ k => XS.goto X176.here hx rfl (pc0 := 278) (pc' := 282) rfl (hb hby at_278) (by decide) (by decide) k) ?_
    refine own_by (fun _ k => XS.iload X176.here hx rfl (hb hby at_282) rfl k) ?_
    show own_Go _ _ _ _ (T176.setTop (mkF m 284 #[.val (.long q1), .second, .val (.long q2), .second, .val (.long q3), .second, .val (.long q4), .second, .val (.long q5), .second, .val (.int p6), .val (.int (3 : Int32)), .val (.int v12_2), .val (.ref b115), .val (.ref b142), .val (.int (1 : Int32))] [(.int (1 : Int32)), (.int (1 : Int32))]))
    refine own_by (fun _ k => XS.iand X176.here hx rfl (hb hby at_284) rfl k) ?_
    show own_Go _ _ _ _ (T176.setTop (mkF m 285 #[.val (.long q1), .second, .val (.long q2), .second, .val (.long q3), .second, .val (.long q4), .second, .val (.long q5), .second, .val (.int p6), .val (.int (3 : Int32)), .val (.int v12_2), .val (.ref b115), .val (.ref b142), .val (.int (1 : Int32))] [(.int ((1 : Int32) &&& (1 : Int32)))]))
    rw [(by decide : ((1 : Int32) &&& (1 : Int32)) = (1 : Int32))]
    show own_Go _ _ _ _ (T176.setTop (mkF m 285 #[.val (.long q1), .second, .val (.long q2), .second, .val (.long q3), .second, .val (.long q4), .second, .val (.long q5), .second, .val (.int p6), .val (.int (3 : Int32)), .val (.int v12_2), .val (.ref b115), .val (.ref b142), .val (.int (1 : Int32))] [(.int (1 : Int32))]))
    refine own_by (fun _ k => XS.istore X176.here hx rfl (hb hby at_285) rfl (l' := #[.val (.long q1), .second, .val (.long q2), .second, .val (.long q3), .second, .val (.long q4), .second, .val (.long q5), .second, .val (.int p6), .val (.int (3 : Int32)), .val (.int v12_2), .val (.ref b115), .val (.ref b142), .val (.int (1 : Int32))]) rfl k) ?_
    refine own_by (fun _ k => XS.iload X176.here hx rfl (hb hby at_287) rfl k) ?_
    refine own_by (fun _ k => XS.iconst X176.here hx rfl (hb hby at_289) k) ?_
    show own_Go _ _ _ _ (T176.setTop (mkF m 290 #[.val (.long q1), .second, .val (.long q2), .second, .val (.long q3), .second, .val (.long q4), .second, .val (.long q5), .second, .val (.int p6), .val (.int (3 : Int32)), .val (.int v12_2), .val (.ref b115), .val (.ref b142), .val (.int (1 : Int32))] [(.int (2 : Int32)), (.int (3 : Int32))]))
    refine own_by (fun _ k => XS.icmpNo X176.here hx rfl (hb hby at_290) rfl (tlt (by decide)).2.2.2 k) ?_
    refine own_by (fun _ k => XS.aload X176.here hx rfl (hb hby at_293) rfl rfl k) ?_
    show own_Go _ _ _ _ (T176.setTop (mkF m 295 #[.val (.long q1), .second, .val (.long q2), .second, .val (.long q3), .second, .val (.long q4), .second, .val (.long q5), .second, .val (.int p6), .val (.int (3 : Int32)), .val (.int v12_2), .val (.ref b115), .val (.ref b142), .val (.int (1 : Int32))] [(.ref b142)]))
    have he2 : ff176 0 = r140 2 := own_hd ff176 1 2 _ [r140 3, r140 4] (by decide) (by decide) HP176 hsd.2.2 hq2
    refine own_callV X176 hx hZ hown (hw _ (List.mem_of_getElem? (i := 40) rfl)) (hw _ (List.mem_of_getElem? (i := 41) rfl)) (notFace_of_selects (args := #[]) (mvT hZ (hw _ (List.mem_of_getElem? (i := 43) rfl)))) (hw _ (List.mem_of_getElem? (i := 43) rfl)) (hw _ (List.mem_of_getElem? (i := 42) rfl)) (hw _ (List.mem_of_getElem? (i := 9) rfl)) (hw _ (List.mem_of_getElem? (i := 44) rfl)) (by decide) (rm8_1 l Z a0 hw [] b142 bb164 nn164 ff176 h176 n0 Z176 f178 FV176 FS176 AH176 ge142 gb164 ne164a (by omega) (by omega) HP176) e176 b142 f178 (by rw [hml]; rfl) [] [] rfl (lenOf own_pd5 rfl) rfl 0 (Nat.le_of_eq rfl) (by decide) (by decide) (Nat.le_of_ble_eq_true rfl) (Nat.le_of_ble_eq_true rfl) (hb hby at_295) ?_
    intro T182 Lc182 v182 X182 hQ182
    obtain ⟨h182, e182⟩ : ∃ h, T182.heap = h := ⟨_, rfl⟩
    rw [e182] at hQ182
    obtain ⟨rfl, N182q, K182, ff182, FV182, FS182, AH182, HP182, hc182⟩ := hQ182
    have N182 := Fr.app N176 N182q
    have f183 := f177.keep K182 (ninS ne143 (ninS ne164r nin0))
    have f184 := f178.keep K182
    have Z182 := Nat.le_trans Z176 K182.1
    have hq3 := own_next ff176 ff182 0 2 _ [r140 3, r140 4] he2 hq2 hc182
    show own_Go _ _ _ _ (T182.setTop (mkF m 298 #[.val (.long q1), .second, .val (.long q2), .second, .val (.long q3), .second, .val (.long q4), .second, .val (.long q5), .second, .val (.int p6), .val (.int (3 : Int32)), .val (.int v12_2), .val (.ref b115), .val (.ref b142), .val (.int (1 : Int32))] [(.long (ff176 0))]))
    refine own_by (fun _ k => XS.aload X182.here hx rfl (hb hby at_298) rfl rfl k) ?_
    refine own_by (fun _ k => XS.iconst X182.here hx rfl (hb hby at_300) k) ?_
    show own_Go _ _ _ _ (T182.setTop (mkF m 301 #[.val (.long q1), .second, .val (.long q2), .second, .val (.long q3), .second, .val (.long q4), .second, .val (.long q5), .second, .val (.int p6), .val (.int (3 : Int32)), .val (.int v12_2), .val (.ref b115), .val (.ref b142), .val (.int (1 : Int32))] [(.int (2 : Int32)), (.ref b115), (.long (ff176 0))]))
    refine own_by (fun _ k => own_lal X182 hx hZ e182 f183 2 (by decide) (by decide) (hb hby at_301) k) ?_
    show own_Go _ _ _ _ (T182.setTop (mkF m 302 #[.val (.long q1), .second, .val (.long q2), .second, .val (.long q3), .second, .val (.long q4), .second, .val (.long q5), .second, .val (.int p6), .val (.int (3 : Int32)), .val (.int v12_2), .val (.ref b115), .val (.ref b142), .val (.int (1 : Int32))] [(.long (r140 2)), (.long (ff176 0))]))
    refine own_by (fun _ k => XS.lcmp X182.here hx rfl (hb hby at_302) rfl k) ?_
    show own_Go _ _ _ _ (T182.setTop (mkF m 303 #[.val (.long q1), .second, .val (.long q2), .second, .val (.long q3), .second, .val (.long q4), .second, .val (.long q5), .second, .val (.int p6), .val (.int (3 : Int32)), .val (.int v12_2), .val (.ref b115), .val (.ref b142), .val (.int (1 : Int32))] [(.int (lcmpW (ff176 0) (r140 2)))]))
    refine own_by (fun _ k => XS.ifNo X182.here hx rfl (hb hby at_303) rfl ((if0 _ _).trans (teq ((lw_eq _ _).mpr he2)).2) k) ?_
    refine own_by (fun _ k => XS.iconst X182.here hx rfl (hb hby at_306) k) ?_
    show own_Go _ _ _ _ (T182.setTop (mkF m 307 #[.val (.long q1), .second, .val (.long q2), .second, .val (.long q3), .second, .val (.long q4), .second, .val (.long q5), .second, .val (.int p6), .val (.int (3 : Int32)), .val (.int v12_2), .val (.ref b115), .val (.ref b142), .val (.int (1 : Int32))] [(.int (1 : Int32))]))
    refine own_by (fun _ k => XS.goto X182.here hx rfl (pc0 := 307) (pc' := 311) rfl (hb hby at_307) (by decide) (by decide) k) ?_
    refine own_by (fun _ k => XS.iload X182.here hx rfl (hb hby at_311) rfl k) ?_
    show own_Go _ _ _ _ (T182.setTop (mkF m 313 #[.val (.long q1), .second, .val (.long q2), .second, .val (.long q3), .second, .val (.long q4), .second, .val (.long q5), .second, .val (.int p6), .val (.int (3 : Int32)), .val (.int v12_2), .val (.ref b115), .val (.ref b142), .val (.int (1 : Int32))] [(.int (1 : Int32)), (.int (1 : Int32))]))
    refine own_by (fun _ k => XS.iand X182.here hx rfl (hb hby at_313) rfl k) ?_
    show own_Go _ _ _ _ (T182.setTop (mkF m 314 #[.val (.long q1), .second, .val (.long q2), .second, .val (.long q3), .second, .val (.long q4), .second, .val (.long q5), .second, .val (.int p6), .val (.int (3 : Int32)), .val (.int v12_2), .val (.ref b115), .val (.ref b142), .val (.int (1 : Int32))] [(.int ((1 : Int32) &&& (1 : Int32)))]))
    rw [(by decide : ((1 : Int32) &&& (1 : Int32)) = (1 : Int32))]
    show own_Go _ _ _ _ (T182.setTop (mkF m 314 #[.val (.long q1), .second, .val (.long q2), .second, .val (.long q3), .second, .val (.long q4), .second, .val (.long q5), .second, .val (.int p6), .val (.int (3 : Int32)), .val (.int v12_2), .val (.ref b115), .val (.ref b142), .val (.int (1 : Int32))] [(.int (1 : Int32))]))
    refine own_by (fun _ k => XS.istore X182.here hx rfl (hb hby at_314) rfl (l' := #[.val (.long q1), .second, .val (.long q2), .second, .val (.long q3), .second, .val (.long q4), .second, .val (.long q5), .second, .val (.int p6), .val (.int (3 : Int32)), .val (.int v12_2), .val (.ref b115), .val (.ref b142), .val (.int (1 : Int32))]) rfl k) ?_
    refine own_by (fun _ k => XS.iload X182.here hx rfl (hb hby at_316) rfl k) ?_
    refine own_by (fun _ k => XS.iconst X182.here hx rfl (hb hby at_318) k) ?_
    show own_Go _ _ _ _ (T182.setTop (mkF m 319 #[.val (.long q1), .second, .val (.long q2), .second, .val (.long q3), .second, .val (.long q4), .second, .val (.long q5), .second, .val (.int p6), .val (.int (3 : Int32)), .val (.int v12_2), .val (.ref b115), .val (.ref b142), .val (.int (1 : Int32))] [(.int (3 : Int32)), (.int (3 : Int32))]))
    refine own_by (fun _ k => XS.icmpYes X182.here hx rfl (pc0 := 319) (pc' := 345) rfl (hb hby at_319) rfl (flt (by decide)).2.2.2 (by decide) (by decide) k) ?_
    refine own_by (fun _ k => XS.iload X182.here hx rfl (hb hby at_345) rfl k) ?_
    refine own_by (fun _ k => XS.iconst X182.here hx rfl (hb hby at_347) k) ?_
    show own_Go _ _ _ _ (T182.setTop (mkF m 348 #[.val (.long q1), .second, .val (.long q2), .second, .val (.long q3), .second, .val (.long q4), .second, .val (.long q5), .second, .val (.int p6), .val (.int (3 : Int32)), .val (.int v12_2), .val (.ref b115), .val (.ref b142), .val (.int (1 : Int32))] [(.int (4 : Int32)), (.int (3 : Int32))]))
    refine own_by (fun _ k => XS.icmpYes X182.here hx rfl (pc0 := 348) (pc' := 374) rfl (hb hby at_348) rfl (flt (by decide)).2.2.2 (by decide) (by decide) k) ?_
    refine own_by (fun _ k => XS.iload X182.here hx rfl (hb hby at_374) rfl k) ?_
    show own_Go _ _ _ _ (T182.setTop (mkF m 376 #[.val (.long q1), .second, .val (.long q2), .second, .val (.long q3), .second, .val (.long q4), .second, .val (.long q5), .second, .val (.int p6), .val (.int (3 : Int32)), .val (.int v12_2), .val (.ref b115), .val (.ref b142), .val (.int (1 : Int32))] [(.int (1 : Int32))]))
    refine own_by (fun _ k => XS.ifNo X182.here hx rfl (hb hby at_376) rfl ((if0 _ _).trans (feq (by decide)).1) k) ?_
    refine own_by (fun _ k => XS.aload X182.here hx rfl (hb hby at_379) rfl rfl k) ?_
    show own_Go _ _ _ _ (T182.setTop (mkF m 381 #[.val (.long q1), .second, .val (.long q2), .second, .val (.long q3), .second, .val (.long q4), .second, .val (.long q5), .second, .val (.int p6), .val (.int (3 : Int32)), .val (.int v12_2), .val (.ref b115), .val (.ref b142), .val (.int (1 : Int32))] [(.ref b142)]))
    refine own_callV X182 hx hZ hown (hw _ (List.mem_of_getElem? (i := 45) rfl)) (hw _ (List.mem_of_getElem? (i := 46) rfl)) (notFace_of_selects (args := #[]) (mvT hZ (hw _ (List.mem_of_getElem? (i := 48) rfl)))) (hw _ (List.mem_of_getElem? (i := 48) rfl)) (hw _ (List.mem_of_getElem? (i := 47) rfl)) (hw _ (List.mem_of_getElem? (i := 9) rfl)) (hw _ (List.mem_of_getElem? (i := 49) rfl)) (by decide) (rm9 l Z a0 hw [] b142 h182 n0 Z182 FS182) e182 b142 f184 (by rw [hml]; rfl) [] [] rfl (lenOf own_pd6 rfl) rfl 0 (Nat.le_of_eq rfl) (by decide) (by decide) (Nat.le_of_ble_eq_true rfl) (Nat.le_of_ble_eq_true rfl) (hb hby at_381) ?_
    intro T188 Lc188 v188 X188 hQ188
    obtain ⟨rfl, N188q, e188⟩ := hQ188
    have N188 := Fr.app N182 N188q
    show own_Go _ _ _ _ (T188.setTop (mkF m 384 #[.val (.long q1), .second, .val (.long q2), .second, .val (.long q3), .second, .val (.long q4), .second, .val (.long q5), .second, .val (.int p6), .val (.int (3 : Int32)), .val (.int v12_2), .val (.ref b115), .val (.ref b142), .val (.int (1 : Int32))] [(.int (1 : Int32))]))
    refine own_by (fun _ k => XS.ifNo X188.here hx rfl (hb hby at_384) rfl ((if0 _ _).trans (feq (by decide)).1) k) ?_
    refine own_by (fun _ k => XS.iconst X188.here hx rfl (hb hby at_387) k) ?_
    show own_Go _ _ _ _ (T188.setTop (mkF m 388 #[.val (.long q1), .second, .val (.long q2), .second, .val (.long q3), .second, .val (.long q4), .second, .val (.long q5), .second, .val (.int p6), .val (.int (3 : Int32)), .val (.int v12_2), .val (.ref b115), .val (.ref b142), .val (.int (1 : Int32))] [(.int (1 : Int32))]))
    refine own_by (fun _ k => XS.goto X188.here hx rfl (pc0 := 388) (pc' := 392) rfl (hb hby at_388) (by decide) (by decide) k) ?_
    show own_Go _ _ _ _ (T188.setTop (mkF m 392 #[.val (.long q1), .second, .val (.long q2), .second, .val (.long q3), .second, .val (.long q4), .second, .val (.long q5), .second, .val (.int p6), .val (.int (3 : Int32)), .val (.int v12_2), .val (.ref b115), .val (.ref b142), .val (.int (1 : Int32))] [(.int (1 : Int32))]))
    exact own_retN X188 hx Bd.notSynchronized e188 Bd.returns (by simp) (hb hby at_392) (⟨rfl, N188⟩) (by decide) (by decide)
  · --
    refine own_by (fun _ k => XS.iconst X0.here hx rfl (hb hby at_19) k) ?_
    show own_Go _ _ _ _ (s₁.setTop (mkF m 20 #[.val (.long q1), .second, .val (.long q2), .second, .val (.long q3), .second, .val (.long q4), .second, .val (.long q5), .second, .val (.int p6), .val (.int (4 : Int32)), .val (.int v12_2), .unset, .unset, .unset] [(.int (5 : Int32))]))
    refine own_newP X0 hx hZ (hw _ (List.mem_of_getElem? (i := 1) rfl)) e0 5 (by decide) 5 (by decide) (by decide) (by decide) (by decide) (hb hby at_20) ?_
    intro T189 h189 X189 e189 E189 A189
    show own_Go _ _ _ _ (T189.setTop (mkF m 22 #[.val (.long q1), .second, .val (.long q2), .second, .val (.long q3), .second, .val (.long q4), .second, .val (.long q5), .second, .val (.int p6), .val (.int (4 : Int32)), .val (.int v12_2), .unset, .unset, .unset] [.ref h0.size]))
    obtain ⟨b189, g189⟩ : ∃ z, z = h0.size := ⟨_, rfl⟩
    rw [← g189] at A189
    refine own_gen g189.symm (fun z_ => T189.setTop (mkF m 22 #[.val (.long q1), .second, .val (.long q2), .second, .val (.long q3), .second, .val (.long q4), .second, .val (.long q5), .second, .val (.int p6), .val (.int (4 : Int32)), .val (.int v12_2), .unset, .unset, .unset] [.ref z_])) ?_
    have ge189 : n0 ≤ b189 := Nat.le_trans Z0 (Nat.le_of_eq g189.symm)
    have Z189 := Nat.le_trans Z0 E189.1
    have f190 : own_AJ Z h189 b189 5 (fun _ => 0) := A189
    show own_Go _ _ _ _ (T189.setTop (mkF m 22 #[.val (.long q1), .second, .val (.long q2), .second, .val (.long q3), .second, .val (.long q4), .second, .val (.long q5), .second, .val (.int p6), .val (.int (4 : Int32)), .val (.int v12_2), .unset, .unset, .unset] [(.ref b189)]))
    refine own_by (fun _ k => XS.astore X189.here hx rfl (hb hby at_22) rfl rfl (l' := #[.val (.long q1), .second, .val (.long q2), .second, .val (.long q3), .second, .val (.long q4), .second, .val (.long q5), .second, .val (.int p6), .val (.int (4 : Int32)), .val (.int v12_2), .val (.ref b189), .unset, .unset]) rfl k) ?_
    refine own_by (fun _ k => XS.aload X189.here hx rfl (hb hby at_24) rfl rfl k) ?_
    refine own_by (fun _ k => XS.iconst X189.here hx rfl (hb hby at_26) k) ?_
    show own_Go _ _ _ _ (T189.setTop (mkF m 27 #[.val (.long q1), .second, .val (.long q2), .second, .val (.long q3), .second, .val (.long q4), .second, .val (.long q5), .second, .val (.int p6), .val (.int (4 : Int32)), .val (.int v12_2), .val (.ref b189), .unset, .unset] [(.int (0 : Int32)), (.ref b189)]))
    refine own_by (fun _ k => XS.lloadN X189.here hx rfl (hb hby at_27) rfl k) ?_
    show own_Go _ _ _ _ (T189.setTop (mkF m 28 #[.val (.long q1), .second, .val (.long q2), .second, .val (.long q3), .second, .val (.long q4), .second, .val (.long q5), .second, .val (.int p6), .val (.int (4 : Int32)), .val (.int v12_2), .val (.ref b189), .unset, .unset] [(.long q1), (.int (0 : Int32)), (.ref b189)]))
    refine own_las X189 hx hZ e189 f190 0 (by decide) (by decide) (hb hby at_28) ?_
    intro T191 h191 X191 e191 W191 A191
    have N191 := Fr.snoc X191 N0 ge189
    have Z191 := own_size_wr W191 Z189
    obtain ⟨fn191, hfn191⟩ : ∃ g : Nat → Int64, g = own_upd (fun _ => 0) 0 q1 := ⟨_, rfl⟩
    rw [← hfn191] at A191
    show own_Go _ _ _ _ (T191.setTop (mkF m 29 #[.val (.long q1), .second, .val (.long q2), .second, .val (.long q3), .second, .val (.long q4), .second, .val (.long q5), .second, .val (.int p6), .val (.int (4 : Int32)), .val (.int v12_2), .val (.ref b189), .unset, .unset] []))
    refine own_by (fun _ k => XS.aload X191.here hx rfl (hb hby at_29) rfl rfl k) ?_
    refine own_by (fun _ k => XS.iconst X191.here hx rfl (hb hby at_31) k) ?_
    refine own_by (fun _ k => XS.iload X191.here hx rfl (hb hby at_32) rfl k) ?_
    show own_Go _ _ _ _ (T191.setTop (mkF m 34 #[.val (.long q1), .second, .val (.long q2), .second, .val (.long q3), .second, .val (.long q4), .second, .val (.long q5), .second, .val (.int p6), .val (.int (4 : Int32)), .val (.int v12_2), .val (.ref b189), .unset, .unset] [(.int (4 : Int32)), (.int (1 : Int32)), (.ref b189)]))
    refine own_by (fun _ k => XS.iconst X191.here hx rfl (hb hby at_34) k) ?_
    show own_Go _ _ _ _ (T191.setTop (mkF m 35 #[.val (.long q1), .second, .val (.long q2), .second, .val (.long q3), .second, .val (.long q4), .second, .val (.long q5), .second, .val (.int p6), .val (.int (4 : Int32)), .val (.int v12_2), .val (.ref b189), .unset, .unset] [(.int (1 : Int32)), (.int (4 : Int32)), (.int (1 : Int32)), (.ref b189)]))
    refine own_by (fun _ k => XS.icmpNo X191.here hx rfl (hb hby at_35) rfl (tlt (by decide)).2.2.2 k) ?_
    refine own_by (fun _ k => XS.lloadN X191.here hx rfl (hb hby at_38) rfl k) ?_
    show own_Go _ _ _ _ (T191.setTop (mkF m 39 #[.val (.long q1), .second, .val (.long q2), .second, .val (.long q3), .second, .val (.long q4), .second, .val (.long q5), .second, .val (.int p6), .val (.int (4 : Int32)), .val (.int v12_2), .val (.ref b189), .unset, .unset] [(.long q2), (.int (1 : Int32)), (.ref b189)]))
    refine own_by (fun _ k => XS.goto X191.here hx rfl (pc0 := 39) (pc' := 45) rfl (hb hby at_39) (by decide) (by decide) k) ?_
    show own_Go _ _ _ _ (T191.setTop (mkF m 45 #[.val (.long q1), .second, .val (.long q2), .second, .val (.long q3), .second, .val (.long q4), .second, .val (.long q5), .second, .val (.int p6), .val (.int (4 : Int32)), .val (.int v12_2), .val (.ref b189), .unset, .unset] [(.long q2), (.int (1 : Int32)), (.ref b189)]))
    refine own_las X191 hx hZ e191 A191 1 (by decide) (by decide) (hb hby at_45) ?_
    intro T192 h192 X192 e192 W192 A192
    have N192 := Fr.snoc X192 N191 ge189
    have Z192 := own_size_wr W192 Z191
    obtain ⟨fn192, hfn192⟩ : ∃ g : Nat → Int64, g = own_upd fn191 1 q2 := ⟨_, rfl⟩
    rw [← hfn192] at A192
    show own_Go _ _ _ _ (T192.setTop (mkF m 46 #[.val (.long q1), .second, .val (.long q2), .second, .val (.long q3), .second, .val (.long q4), .second, .val (.long q5), .second, .val (.int p6), .val (.int (4 : Int32)), .val (.int v12_2), .val (.ref b189), .unset, .unset] []))
    refine own_by (fun _ k => XS.aload X192.here hx rfl (hb hby at_46) rfl rfl k) ?_
    refine own_by (fun _ k => XS.iconst X192.here hx rfl (hb hby at_48) k) ?_
    refine own_by (fun _ k => XS.iload X192.here hx rfl (hb hby at_49) rfl k) ?_
    show own_Go _ _ _ _ (T192.setTop (mkF m 51 #[.val (.long q1), .second, .val (.long q2), .second, .val (.long q3), .second, .val (.long q4), .second, .val (.long q5), .second, .val (.int p6), .val (.int (4 : Int32)), .val (.int v12_2), .val (.ref b189), .unset, .unset] [(.int (4 : Int32)), (.int (2 : Int32)), (.ref b189)]))
    refine own_by (fun _ k => XS.iconst X192.here hx rfl (hb hby at_51) k) ?_
    show own_Go _ _ _ _ (T192.setTop (mkF m 52 #[.val (.long q1), .second, .val (.long q2), .second, .val (.long q3), .second, .val (.long q4), .second, .val (.long q5), .second, .val (.int p6), .val (.int (4 : Int32)), .val (.int v12_2), .val (.ref b189), .unset, .unset] [(.int (2 : Int32)), (.int (4 : Int32)), (.int (2 : Int32)), (.ref b189)]))
    refine own_by (fun _ k => XS.icmpNo X192.here hx rfl (hb hby at_52) rfl (tlt (by decide)).2.2.2 k) ?_
    refine own_by (fun _ k => XS.lload X192.here hx rfl (hb hby at_55) rfl k) ?_
    show own_Go _ _ _ _ (T192.setTop (mkF m 57 #[.val (.long q1), .second, .val (.long q2), .second, .val (.long q3), .second, .val (.long q4), .second, .val (.long q5), .second, .val (.int p6), .val (.int (4 : Int32)), .val (.int v12_2), .val (.ref b189), .unset, .unset] [(.long q3), (.int (2 : Int32)), (.ref b189)]))
    refine own_by (fun _ k => XS.goto X192.here hx rfl (pc0 := 57) (pc' := 63) rfl (hb hby at_57) (by decide) (by decide) k) ?_
    show own_Go _ _ _ _ (T192.setTop (mkF m 63 #[.val (.long q1), .second, .val (.long q2), .second, .val (.long q3), .second, .val (.long q4), .second, .val (.long q5), .second, .val (.int p6), .val (.int (4 : Int32)), .val (.int v12_2), .val (.ref b189), .unset, .unset] [(.long q3), (.int (2 : Int32)), (.ref b189)]))
    refine own_las X192 hx hZ e192 A192 2 (by decide) (by decide) (hb hby at_63) ?_
    intro T193 h193 X193 e193 W193 A193
    have N193 := Fr.snoc X193 N192 ge189
    have Z193 := own_size_wr W193 Z192
    obtain ⟨fn193, hfn193⟩ : ∃ g : Nat → Int64, g = own_upd fn192 2 q3 := ⟨_, rfl⟩
    rw [← hfn193] at A193
    show own_Go _ _ _ _ (T193.setTop (mkF m 64 #[.val (.long q1), .second, .val (.long q2), .second, .val (.long q3), .second, .val (.long q4), .second, .val (.long q5), .second, .val (.int p6), .val (.int (4 : Int32)), .val (.int v12_2), .val (.ref b189), .unset, .unset] []))
    refine own_by (fun _ k => XS.aload X193.here hx rfl (hb hby at_64) rfl rfl k) ?_
    refine own_by (fun _ k => XS.iconst X193.here hx rfl (hb hby at_66) k) ?_
    refine own_by (fun _ k => XS.iload X193.here hx rfl (hb hby at_67) rfl k) ?_
    show own_Go _ _ _ _ (T193.setTop (mkF m 69 #[.val (.long q1), .second, .val (.long q2), .second, .val (.long q3), .second, .val (.long q4), .second, .val (.long q5), .second, .val (.int p6), .val (.int (4 : Int32)), .val (.int v12_2), .val (.ref b189), .unset, .unset] [(.int (4 : Int32)), (.int (3 : Int32)), (.ref b189)]))
    refine own_by (fun _ k => XS.iconst X193.here hx rfl (hb hby at_69) k) ?_
    show own_Go _ _ _ _ (T193.setTop (mkF m 70 #[.val (.long q1), .second, .val (.long q2), .second, .val (.long q3), .second, .val (.long q4), .second, .val (.long q5), .second, .val (.int p6), .val (.int (4 : Int32)), .val (.int v12_2), .val (.ref b189), .unset, .unset] [(.int (3 : Int32)), (.int (4 : Int32)), (.int (3 : Int32)), (.ref b189)]))
    refine own_by (fun _ k => XS.icmpNo X193.here hx rfl (hb hby at_70) rfl (tlt (by decide)).2.2.2 k) ?_
    refine own_by (fun _ k => XS.lload X193.here hx rfl (hb hby at_73) rfl k) ?_
    show own_Go _ _ _ _ (T193.setTop (mkF m 75 #[.val (.long q1), .second, .val (.long q2), .second, .val (.long q3), .second, .val (.long q4), .second, .val (.long q5), .second, .val (.int p6), .val (.int (4 : Int32)), .val (.int v12_2), .val (.ref b189), .unset, .unset] [(.long q4), (.int (3 : Int32)), (.ref b189)]))
    refine own_by (fun _ k => XS.goto X193.here hx rfl (pc0 := 75) (pc' := 81) rfl (hb hby at_75) (by decide) (by decide) k) ?_
    show own_Go _ _ _ _ (T193.setTop (mkF m 81 #[.val (.long q1), .second, .val (.long q2), .second, .val (.long q3), .second, .val (.long q4), .second, .val (.long q5), .second, .val (.int p6), .val (.int (4 : Int32)), .val (.int v12_2), .val (.ref b189), .unset, .unset] [(.long q4), (.int (3 : Int32)), (.ref b189)]))
    refine own_las X193 hx hZ e193 A193 3 (by decide) (by decide) (hb hby at_81) ?_
    intro T194 h194 X194 e194 W194 A194
    have N194 := Fr.snoc X194 N193 ge189
    have Z194 := own_size_wr W194 Z193
    obtain ⟨fn194, hfn194⟩ : ∃ g : Nat → Int64, g = own_upd fn193 3 q4 := ⟨_, rfl⟩
    rw [← hfn194] at A194
    show own_Go _ _ _ _ (T194.setTop (mkF m 82 #[.val (.long q1), .second, .val (.long q2), .second, .val (.long q3), .second, .val (.long q4), .second, .val (.long q5), .second, .val (.int p6), .val (.int (4 : Int32)), .val (.int v12_2), .val (.ref b189), .unset, .unset] []))
    refine own_by (fun _ k => XS.aload X194.here hx rfl (hb hby at_82) rfl rfl k) ?_
    refine own_by (fun _ k => XS.iconst X194.here hx rfl (hb hby at_84) k) ?_
    refine own_by (fun _ k => XS.iload X194.here hx rfl (hb hby at_85) rfl k) ?_
    show own_Go _ _ _ _ (T194.setTop (mkF m 87 #[.val (.long q1), .second, .val (.long q2), .second, .val (.long q3), .second, .val (.long q4), .second, .val (.long q5), .second, .val (.int p6), .val (.int (4 : Int32)), .val (.int v12_2), .val (.ref b189), .unset, .unset] [(.int (4 : Int32)), (.int (4 : Int32)), (.ref b189)]))
    refine own_by (fun _ k => XS.iconst X194.here hx rfl (hb hby at_87) k) ?_
    show own_Go _ _ _ _ (T194.setTop (mkF m 88 #[.val (.long q1), .second, .val (.long q2), .second, .val (.long q3), .second, .val (.long q4), .second, .val (.long q5), .second, .val (.int p6), .val (.int (4 : Int32)), .val (.int v12_2), .val (.ref b189), .unset, .unset] [(.int (4 : Int32)), (.int (4 : Int32)), (.int (4 : Int32)), (.ref b189)]))
    refine own_by (fun _ k => XS.icmpYes X194.here hx rfl (pc0 := 88) (pc' := 96) rfl (hb hby at_88) rfl (flt (by decide)).2.2.2 (by decide) (by decide) k) ?_
    show own_Go _ _ _ _ (T194.setTop (mkF m 96 #[.val (.long q1), .second, .val (.long q2), .second, .val (.long q3), .second, .val (.long q4), .second, .val (.long q5), .second, .val (.int p6), .val (.int (4 : Int32)), .val (.int v12_2), .val (.ref b189), .unset, .unset] [(.int (4 : Int32)), (.ref b189)]))
    refine own_by (fun _ k => X194.ldc2Long hx hown (mvT hZ (hw _ (List.mem_of_getElem? (i := 2) rfl))) (g := (mkF m 96 #[.val (.long q1), .second, .val (.long q2), .second, .val (.long q3), .second, .val (.long q4), .second, .val (.long q5), .second, .val (.int p6), .val (.int (4 : Int32)), .val (.int v12_2), .val (.ref b189), .unset, .unset] [(.int (4 : Int32)), (.ref b189)])) rfl (hb hby at_96) _ k) ?_
    show own_Go _ _ _ _ (T194.setTop (mkF m 99 #[.val (.long q1), .second, .val (.long q2), .second, .val (.long q3), .second, .val (.long q4), .second, .val (.long q5), .second, .val (.int p6), .val (.int (4 : Int32)), .val (.int v12_2), .val (.ref b189), .unset, .unset] [(.long (9223372036854775807 : Int64)), (.int (4 : Int32)), (.ref b189)]))
    refine own_las X194 hx hZ e194 A194 4 (by decide) (by decide) (hb hby at_99) ?_
    intro T195 h195 X195 e195 W195 A195
    have N195 := Fr.snoc X195 N194 ge189
    have Z195 := own_size_wr W195 Z194
    obtain ⟨fn195, hfn195⟩ : ∃ g : Nat → Int64, g = own_upd fn194 4 (9223372036854775807 : Int64) := ⟨_, rfl⟩
    rw [← hfn195] at A195
    obtain ⟨r0, hr0⟩ : ∃ g : Nat → Int64, g = fn195 := ⟨_, rfl⟩
    rw [← hr0] at A195
    have cr0 : ∀ x, own_cnt r0 x 5 = own_one q1 x + own_one q2 x + own_one q3 x + own_one q4 x + own_one (9223372036854775807 : Int64) x := fun x => by rw [hr0]; simp [own_cnt, own_upd, hfn195, hfn194, hfn193, hfn192, hfn191]
    show own_Go _ _ _ _ (T195.setTop (mkF m 100 #[.val (.long q1), .second, .val (.long q2), .second, .val (.long q3), .second, .val (.long q4), .second, .val (.long q5), .second, .val (.int p6), .val (.int (4 : Int32)), .val (.int v12_2), .val (.ref b189), .unset, .unset] []))
    refine own_by (fun _ k => XS.aload X195.here hx rfl (hb hby at_100) rfl rfl k) ?_
    refine own_by (fun _ k => XS.iconst X195.here hx rfl (hb hby at_102) k) ?_
    refine own_by (fun _ k => XS.iconst X195.here hx rfl (hb hby at_103) k) ?_
    show own_Go _ _ _ _ (T195.setTop (mkF m 104 #[.val (.long q1), .second, .val (.long q2), .second, .val (.long q3), .second, .val (.long q4), .second, .val (.long q5), .second, .val (.int p6), .val (.int (4 : Int32)), .val (.int v12_2), .val (.ref b189), .unset, .unset] [(.int (1 : Int32)), (.int (0 : Int32)), (.ref b189)]))
    refine own_callS X195 hx hZ hown (hw _ (List.mem_of_getElem? (i := 3) rfl)) (hw _ (List.mem_of_getElem? (i := 4) rfl)) (hw _ (List.mem_of_getElem? (i := 5) rfl)) (hw _ (List.mem_of_getElem? (i := 6) rfl)) (by decide) (rm1 l Z a0 hw [] b189 (0 : Int32) (1 : Int32) 0 1 r0 h195 n0 Z195 A195 (by decide) (by decide) (by decide) (by decide) (by decide) ge189) e195 (by rw [hml]; rfl) [(.ref b189), (.int (0 : Int32)), (.int (1 : Int32))] [] rfl (lenOf own_pd0 rfl) rfl 0 (Nat.le_of_eq rfl) (by decide) (by decide) (Nat.le_of_ble_eq_true rfl) (Nat.le_of_ble_eq_true rfl) (hb hby at_104) ?_
    intro T196 Lc196 v196 X196 hQ196
    obtain ⟨h196, e196⟩ : ∃ h, T196.heap = h := ⟨_, rfl⟩
    rw [e196] at hQ196
    obtain ⟨rfl, N196q, K196, A196⟩ := hQ196
    have N196 := Fr.app N195 N196q
    have Z196 := Nat.le_trans Z195 K196.1
    obtain ⟨r196, hr196⟩ : ∃ g : Nat → Int64, g = own_cs r0 0 1 := ⟨_, rfl⟩
    rw [← hr196] at A196
    have cr196 : ∀ x, own_cnt r196 x 5 = own_one q1 x + own_one q2 x + own_one q3 x + own_one q4 x + own_one (9223372036854775807 : Int64) x := fun x => by rw [hr196]; exact (own_cs_cnt r0 0 (by decide) x).trans (cr0 x)
    have dm196_1 : own_dom r196 1 := by rw [hr196]; exact own_dom_step r0 0 (own_dom0 r0)
    show own_Go _ _ _ _ (T196.setTop (mkF m 107 #[.val (.long q1), .second, .val (.long q2), .second, .val (.long q3), .second, .val (.long q4), .second, .val (.long q5), .second, .val (.int p6), .val (.int (4 : Int32)), .val (.int v12_2), .val (.ref b189), .unset, .unset] []))
    refine own_by (fun _ k => XS.aload X196.here hx rfl (hb hby at_107) rfl rfl k) ?_
    refine own_by (fun _ k => XS.iconst X196.here hx rfl (hb hby at_109) k) ?_
    refine own_by (fun _ k => XS.iconst X196.here hx rfl (hb hby at_110) k) ?_
    show own_Go _ _ _ _ (T196.setTop (mkF m 111 #[.val (.long q1), .second, .val (.long q2), .second, .val (.long q3), .second, .val (.long q4), .second, .val (.long q5), .second, .val (.int p6), .val (.int (4 : Int32)), .val (.int v12_2), .val (.ref b189), .unset, .unset] [(.int (2 : Int32)), (.int (1 : Int32)), (.ref b189)]))
    refine own_callS X196 hx hZ hown (hw _ (List.mem_of_getElem? (i := 3) rfl)) (hw _ (List.mem_of_getElem? (i := 4) rfl)) (hw _ (List.mem_of_getElem? (i := 5) rfl)) (hw _ (List.mem_of_getElem? (i := 6) rfl)) (by decide) (rm1 l Z a0 hw [] b189 (1 : Int32) (2 : Int32) 1 2 r196 h196 n0 Z196 A196 (by decide) (by decide) (by decide) (by decide) (by decide) ge189) e196 (by rw [hml]; rfl) [(.ref b189), (.int (1 : Int32)), (.int (2 : Int32))] [] rfl (lenOf own_pd0 rfl) rfl 0 (Nat.le_of_eq rfl) (by decide) (by decide) (Nat.le_of_ble_eq_true rfl) (Nat.le_of_ble_eq_true rfl) (hb hby at_111) ?_
    intro T198 Lc198 v198 X198 hQ198
    obtain ⟨h198, e198⟩ : ∃ h, T198.heap = h := ⟨_, rfl⟩
    rw [e198] at hQ198
    obtain ⟨rfl, N198q, K198, A198⟩ := hQ198
    have N198 := Fr.app N196 N198q
    have Z198 := Nat.le_trans Z196 K198.1
    obtain ⟨r198, hr198⟩ : ∃ g : Nat → Int64, g = own_cs r196 1 2 := ⟨_, rfl⟩
    rw [← hr198] at A198
    have cr198 : ∀ x, own_cnt r198 x 5 = own_one q1 x + own_one q2 x + own_one q3 x + own_one q4 x + own_one (9223372036854775807 : Int64) x := fun x => by rw [hr198]; exact (own_cs_cnt r196 1 (by decide) x).trans (cr196 x)
    have dm198_2 : own_dom r198 2 := by rw [hr198]; exact own_dom_step r196 1 dm196_1
    show own_Go _ _ _ _ (T198.setTop (mkF m 114 #[.val (.long q1), .second, .val (.long q2), .second, .val (.long q3), .second, .val (.long q4), .second, .val (.long q5), .second, .val (.int p6), .val (.int (4 : Int32)), .val (.int v12_2), .val (.ref b189), .unset, .unset] []))
    refine own_by (fun _ k => XS.aload X198.here hx rfl (hb hby at_114) rfl rfl k) ?_
    refine own_by (fun _ k => XS.iconst X198.here hx rfl (hb hby at_116) k) ?_
    refine own_by (fun _ k => XS.iconst X198.here hx rfl (hb hby at_117) k) ?_
    show own_Go _ _ _ _ (T198.setTop (mkF m 118 #[.val (.long q1), .second, .val (.long q2), .second, .val (.long q3), .second, .val (.long q4), .second, .val (.long q5), .second, .val (.int p6), .val (.int (4 : Int32)), .val (.int v12_2), .val (.ref b189), .unset, .unset] [(.int (3 : Int32)), (.int (2 : Int32)), (.ref b189)]))
    refine own_callS X198 hx hZ hown (hw _ (List.mem_of_getElem? (i := 3) rfl)) (hw _ (List.mem_of_getElem? (i := 4) rfl)) (hw _ (List.mem_of_getElem? (i := 5) rfl)) (hw _ (List.mem_of_getElem? (i := 6) rfl)) (by decide) (rm1 l Z a0 hw [] b189 (2 : Int32) (3 : Int32) 2 3 r198 h198 n0 Z198 A198 (by decide) (by decide) (by decide) (by decide) (by decide) ge189) e198 (by rw [hml]; rfl) [(.ref b189), (.int (2 : Int32)), (.int (3 : Int32))] [] rfl (lenOf own_pd0 rfl) rfl 0 (Nat.le_of_eq rfl) (by decide) (by decide) (Nat.le_of_ble_eq_true rfl) (Nat.le_of_ble_eq_true rfl) (hb hby at_118) ?_
    intro T200 Lc200 v200 X200 hQ200
    obtain ⟨h200, e200⟩ : ∃ h, T200.heap = h := ⟨_, rfl⟩
    rw [e200] at hQ200
    obtain ⟨rfl, N200q, K200, A200⟩ := hQ200
    have N200 := Fr.app N198 N200q
    have Z200 := Nat.le_trans Z198 K200.1
    obtain ⟨r200, hr200⟩ : ∃ g : Nat → Int64, g = own_cs r198 2 3 := ⟨_, rfl⟩
    rw [← hr200] at A200
    have cr200 : ∀ x, own_cnt r200 x 5 = own_one q1 x + own_one q2 x + own_one q3 x + own_one q4 x + own_one (9223372036854775807 : Int64) x := fun x => by rw [hr200]; exact (own_cs_cnt r198 2 (by decide) x).trans (cr198 x)
    have dm200_3 : own_dom r200 3 := by rw [hr200]; exact own_dom_step r198 2 dm198_2
    show own_Go _ _ _ _ (T200.setTop (mkF m 121 #[.val (.long q1), .second, .val (.long q2), .second, .val (.long q3), .second, .val (.long q4), .second, .val (.long q5), .second, .val (.int p6), .val (.int (4 : Int32)), .val (.int v12_2), .val (.ref b189), .unset, .unset] []))
    refine own_by (fun _ k => XS.aload X200.here hx rfl (hb hby at_121) rfl rfl k) ?_
    refine own_by (fun _ k => XS.iconst X200.here hx rfl (hb hby at_123) k) ?_
    refine own_by (fun _ k => XS.iconst X200.here hx rfl (hb hby at_124) k) ?_
    show own_Go _ _ _ _ (T200.setTop (mkF m 125 #[.val (.long q1), .second, .val (.long q2), .second, .val (.long q3), .second, .val (.long q4), .second, .val (.long q5), .second, .val (.int p6), .val (.int (4 : Int32)), .val (.int v12_2), .val (.ref b189), .unset, .unset] [(.int (4 : Int32)), (.int (3 : Int32)), (.ref b189)]))
    refine own_callS X200 hx hZ hown (hw _ (List.mem_of_getElem? (i := 3) rfl)) (hw _ (List.mem_of_getElem? (i := 4) rfl)) (hw _ (List.mem_of_getElem? (i := 5) rfl)) (hw _ (List.mem_of_getElem? (i := 6) rfl)) (by decide) (rm1 l Z a0 hw [] b189 (3 : Int32) (4 : Int32) 3 4 r200 h200 n0 Z200 A200 (by decide) (by decide) (by decide) (by decide) (by decide) ge189) e200 (by rw [hml]; rfl) [(.ref b189), (.int (3 : Int32)), (.int (4 : Int32))] [] rfl (lenOf own_pd0 rfl) rfl 0 (Nat.le_of_eq rfl) (by decide) (by decide) (Nat.le_of_ble_eq_true rfl) (Nat.le_of_ble_eq_true rfl) (hb hby at_125) ?_
    intro T202 Lc202 v202 X202 hQ202
    obtain ⟨h202, e202⟩ : ∃ h, T202.heap = h := ⟨_, rfl⟩
    rw [e202] at hQ202
    obtain ⟨rfl, N202q, K202, A202⟩ := hQ202
    have N202 := Fr.app N200 N202q
    have Z202 := Nat.le_trans Z200 K202.1
    obtain ⟨r202, hr202⟩ : ∃ g : Nat → Int64, g = own_cs r200 3 4 := ⟨_, rfl⟩
    rw [← hr202] at A202
    have cr202 : ∀ x, own_cnt r202 x 5 = own_one q1 x + own_one q2 x + own_one q3 x + own_one q4 x + own_one (9223372036854775807 : Int64) x := fun x => by rw [hr202]; exact (own_cs_cnt r200 3 (by decide) x).trans (cr200 x)
    have dm202_4 : own_dom r202 4 := by rw [hr202]; exact own_dom_step r200 3 dm200_3
    show own_Go _ _ _ _ (T202.setTop (mkF m 128 #[.val (.long q1), .second, .val (.long q2), .second, .val (.long q3), .second, .val (.long q4), .second, .val (.long q5), .second, .val (.int p6), .val (.int (4 : Int32)), .val (.int v12_2), .val (.ref b189), .unset, .unset] []))
    refine own_by (fun _ k => XS.aload X202.here hx rfl (hb hby at_128) rfl rfl k) ?_
    refine own_by (fun _ k => XS.iconst X202.here hx rfl (hb hby at_130) k) ?_
    refine own_by (fun _ k => XS.iconst X202.here hx rfl (hb hby at_131) k) ?_
    show own_Go _ _ _ _ (T202.setTop (mkF m 132 #[.val (.long q1), .second, .val (.long q2), .second, .val (.long q3), .second, .val (.long q4), .second, .val (.long q5), .second, .val (.int p6), .val (.int (4 : Int32)), .val (.int v12_2), .val (.ref b189), .unset, .unset] [(.int (1 : Int32)), (.int (0 : Int32)), (.ref b189)]))
    refine own_callS X202 hx hZ hown (hw _ (List.mem_of_getElem? (i := 3) rfl)) (hw _ (List.mem_of_getElem? (i := 4) rfl)) (hw _ (List.mem_of_getElem? (i := 5) rfl)) (hw _ (List.mem_of_getElem? (i := 6) rfl)) (by decide) (rm1 l Z a0 hw [] b189 (0 : Int32) (1 : Int32) 0 1 r202 h202 n0 Z202 A202 (by decide) (by decide) (by decide) (by decide) (by decide) ge189) e202 (by rw [hml]; rfl) [(.ref b189), (.int (0 : Int32)), (.int (1 : Int32))] [] rfl (lenOf own_pd0 rfl) rfl 0 (Nat.le_of_eq rfl) (by decide) (by decide) (Nat.le_of_ble_eq_true rfl) (Nat.le_of_ble_eq_true rfl) (hb hby at_132) ?_
    intro T204 Lc204 v204 X204 hQ204
    obtain ⟨h204, e204⟩ : ∃ h, T204.heap = h := ⟨_, rfl⟩
    rw [e204] at hQ204
    obtain ⟨rfl, N204q, K204, A204⟩ := hQ204
    have N204 := Fr.app N202 N204q
    have Z204 := Nat.le_trans Z202 K204.1
    obtain ⟨r204, hr204⟩ : ∃ g : Nat → Int64, g = own_cs r202 0 1 := ⟨_, rfl⟩
    rw [← hr204] at A204
    have cr204 : ∀ x, own_cnt r204 x 5 = own_one q1 x + own_one q2 x + own_one q3 x + own_one q4 x + own_one (9223372036854775807 : Int64) x := fun x => by rw [hr204]; exact (own_cs_cnt r202 0 (by decide) x).trans (cr202 x)
    have dm204_4 : own_dom r204 4 := by rw [hr204]; exact own_dom_keep r202 0 4 (by decide) dm202_4
    have dm204_1 : own_dom r204 1 := by rw [hr204]; exact own_dom_step r202 0 (own_dom0 r202)
    show own_Go _ _ _ _ (T204.setTop (mkF m 135 #[.val (.long q1), .second, .val (.long q2), .second, .val (.long q3), .second, .val (.long q4), .second, .val (.long q5), .second, .val (.int p6), .val (.int (4 : Int32)), .val (.int v12_2), .val (.ref b189), .unset, .unset] []))
    refine own_by (fun _ k => XS.aload X204.here hx rfl (hb hby at_135) rfl rfl k) ?_
    refine own_by (fun _ k => XS.iconst X204.here hx rfl (hb hby at_137) k) ?_
    refine own_by (fun _ k => XS.iconst X204.here hx rfl (hb hby at_138) k) ?_
    show own_Go _ _ _ _ (T204.setTop (mkF m 139 #[.val (.long q1), .second, .val (.long q2), .second, .val (.long q3), .second, .val (.long q4), .second, .val (.long q5), .second, .val (.int p6), .val (.int (4 : Int32)), .val (.int v12_2), .val (.ref b189), .unset, .unset] [(.int (2 : Int32)), (.int (1 : Int32)), (.ref b189)]))
    refine own_callS X204 hx hZ hown (hw _ (List.mem_of_getElem? (i := 3) rfl)) (hw _ (List.mem_of_getElem? (i := 4) rfl)) (hw _ (List.mem_of_getElem? (i := 5) rfl)) (hw _ (List.mem_of_getElem? (i := 6) rfl)) (by decide) (rm1 l Z a0 hw [] b189 (1 : Int32) (2 : Int32) 1 2 r204 h204 n0 Z204 A204 (by decide) (by decide) (by decide) (by decide) (by decide) ge189) e204 (by rw [hml]; rfl) [(.ref b189), (.int (1 : Int32)), (.int (2 : Int32))] [] rfl (lenOf own_pd0 rfl) rfl 0 (Nat.le_of_eq rfl) (by decide) (by decide) (Nat.le_of_ble_eq_true rfl) (Nat.le_of_ble_eq_true rfl) (hb hby at_139) ?_
    intro T206 Lc206 v206 X206 hQ206
    obtain ⟨h206, e206⟩ : ∃ h, T206.heap = h := ⟨_, rfl⟩
    rw [e206] at hQ206
    obtain ⟨rfl, N206q, K206, A206⟩ := hQ206
    have N206 := Fr.app N204 N206q
    have Z206 := Nat.le_trans Z204 K206.1
    obtain ⟨r206, hr206⟩ : ∃ g : Nat → Int64, g = own_cs r204 1 2 := ⟨_, rfl⟩
    rw [← hr206] at A206
    have cr206 : ∀ x, own_cnt r206 x 5 = own_one q1 x + own_one q2 x + own_one q3 x + own_one q4 x + own_one (9223372036854775807 : Int64) x := fun x => by rw [hr206]; exact (own_cs_cnt r204 1 (by decide) x).trans (cr204 x)
    have dm206_4 : own_dom r206 4 := by rw [hr206]; exact own_dom_keep r204 1 4 (by decide) dm204_4
    have dm206_2 : own_dom r206 2 := by rw [hr206]; exact own_dom_step r204 1 dm204_1
    show own_Go _ _ _ _ (T206.setTop (mkF m 142 #[.val (.long q1), .second, .val (.long q2), .second, .val (.long q3), .second, .val (.long q4), .second, .val (.long q5), .second, .val (.int p6), .val (.int (4 : Int32)), .val (.int v12_2), .val (.ref b189), .unset, .unset] []))
    refine own_by (fun _ k => XS.aload X206.here hx rfl (hb hby at_142) rfl rfl k) ?_
    refine own_by (fun _ k => XS.iconst X206.here hx rfl (hb hby at_144) k) ?_
    refine own_by (fun _ k => XS.iconst X206.here hx rfl (hb hby at_145) k) ?_
    show own_Go _ _ _ _ (T206.setTop (mkF m 146 #[.val (.long q1), .second, .val (.long q2), .second, .val (.long q3), .second, .val (.long q4), .second, .val (.long q5), .second, .val (.int p6), .val (.int (4 : Int32)), .val (.int v12_2), .val (.ref b189), .unset, .unset] [(.int (3 : Int32)), (.int (2 : Int32)), (.ref b189)]))
    refine own_callS X206 hx hZ hown (hw _ (List.mem_of_getElem? (i := 3) rfl)) (hw _ (List.mem_of_getElem? (i := 4) rfl)) (hw _ (List.mem_of_getElem? (i := 5) rfl)) (hw _ (List.mem_of_getElem? (i := 6) rfl)) (by decide) (rm1 l Z a0 hw [] b189 (2 : Int32) (3 : Int32) 2 3 r206 h206 n0 Z206 A206 (by decide) (by decide) (by decide) (by decide) (by decide) ge189) e206 (by rw [hml]; rfl) [(.ref b189), (.int (2 : Int32)), (.int (3 : Int32))] [] rfl (lenOf own_pd0 rfl) rfl 0 (Nat.le_of_eq rfl) (by decide) (by decide) (Nat.le_of_ble_eq_true rfl) (Nat.le_of_ble_eq_true rfl) (hb hby at_146) ?_
    intro T208 Lc208 v208 X208 hQ208
    obtain ⟨h208, e208⟩ : ∃ h, T208.heap = h := ⟨_, rfl⟩
    rw [e208] at hQ208
    obtain ⟨rfl, N208q, K208, A208⟩ := hQ208
    have N208 := Fr.app N206 N208q
    have Z208 := Nat.le_trans Z206 K208.1
    obtain ⟨r208, hr208⟩ : ∃ g : Nat → Int64, g = own_cs r206 2 3 := ⟨_, rfl⟩
    rw [← hr208] at A208
    have cr208 : ∀ x, own_cnt r208 x 5 = own_one q1 x + own_one q2 x + own_one q3 x + own_one q4 x + own_one (9223372036854775807 : Int64) x := fun x => by rw [hr208]; exact (own_cs_cnt r206 2 (by decide) x).trans (cr206 x)
    have dm208_4 : own_dom r208 4 := by rw [hr208]; exact own_dom_keep r206 2 4 (by decide) dm206_4
    have dm208_3 : own_dom r208 3 := by rw [hr208]; exact own_dom_step r206 2 dm206_2
    show own_Go _ _ _ _ (T208.setTop (mkF m 149 #[.val (.long q1), .second, .val (.long q2), .second, .val (.long q3), .second, .val (.long q4), .second, .val (.long q5), .second, .val (.int p6), .val (.int (4 : Int32)), .val (.int v12_2), .val (.ref b189), .unset, .unset] []))
    refine own_by (fun _ k => XS.aload X208.here hx rfl (hb hby at_149) rfl rfl k) ?_
    refine own_by (fun _ k => XS.iconst X208.here hx rfl (hb hby at_151) k) ?_
    refine own_by (fun _ k => XS.iconst X208.here hx rfl (hb hby at_152) k) ?_
    show own_Go _ _ _ _ (T208.setTop (mkF m 153 #[.val (.long q1), .second, .val (.long q2), .second, .val (.long q3), .second, .val (.long q4), .second, .val (.long q5), .second, .val (.int p6), .val (.int (4 : Int32)), .val (.int v12_2), .val (.ref b189), .unset, .unset] [(.int (1 : Int32)), (.int (0 : Int32)), (.ref b189)]))
    refine own_callS X208 hx hZ hown (hw _ (List.mem_of_getElem? (i := 3) rfl)) (hw _ (List.mem_of_getElem? (i := 4) rfl)) (hw _ (List.mem_of_getElem? (i := 5) rfl)) (hw _ (List.mem_of_getElem? (i := 6) rfl)) (by decide) (rm1 l Z a0 hw [] b189 (0 : Int32) (1 : Int32) 0 1 r208 h208 n0 Z208 A208 (by decide) (by decide) (by decide) (by decide) (by decide) ge189) e208 (by rw [hml]; rfl) [(.ref b189), (.int (0 : Int32)), (.int (1 : Int32))] [] rfl (lenOf own_pd0 rfl) rfl 0 (Nat.le_of_eq rfl) (by decide) (by decide) (Nat.le_of_ble_eq_true rfl) (Nat.le_of_ble_eq_true rfl) (hb hby at_153) ?_
    intro T210 Lc210 v210 X210 hQ210
    obtain ⟨h210, e210⟩ : ∃ h, T210.heap = h := ⟨_, rfl⟩
    rw [e210] at hQ210
    obtain ⟨rfl, N210q, K210, A210⟩ := hQ210
    have N210 := Fr.app N208 N210q
    have Z210 := Nat.le_trans Z208 K210.1
    obtain ⟨r210, hr210⟩ : ∃ g : Nat → Int64, g = own_cs r208 0 1 := ⟨_, rfl⟩
    rw [← hr210] at A210
    have cr210 : ∀ x, own_cnt r210 x 5 = own_one q1 x + own_one q2 x + own_one q3 x + own_one q4 x + own_one (9223372036854775807 : Int64) x := fun x => by rw [hr210]; exact (own_cs_cnt r208 0 (by decide) x).trans (cr208 x)
    have dm210_4 : own_dom r210 4 := by rw [hr210]; exact own_dom_keep r208 0 4 (by decide) dm208_4
    have dm210_3 : own_dom r210 3 := by rw [hr210]; exact own_dom_keep r208 0 3 (by decide) dm208_3
    have dm210_1 : own_dom r210 1 := by rw [hr210]; exact own_dom_step r208 0 (own_dom0 r208)
    show own_Go _ _ _ _ (T210.setTop (mkF m 156 #[.val (.long q1), .second, .val (.long q2), .second, .val (.long q3), .second, .val (.long q4), .second, .val (.long q5), .second, .val (.int p6), .val (.int (4 : Int32)), .val (.int v12_2), .val (.ref b189), .unset, .unset] []))
    refine own_by (fun _ k => XS.aload X210.here hx rfl (hb hby at_156) rfl rfl k) ?_
    refine own_by (fun _ k => XS.iconst X210.here hx rfl (hb hby at_158) k) ?_
    refine own_by (fun _ k => XS.iconst X210.here hx rfl (hb hby at_159) k) ?_
    show own_Go _ _ _ _ (T210.setTop (mkF m 160 #[.val (.long q1), .second, .val (.long q2), .second, .val (.long q3), .second, .val (.long q4), .second, .val (.long q5), .second, .val (.int p6), .val (.int (4 : Int32)), .val (.int v12_2), .val (.ref b189), .unset, .unset] [(.int (2 : Int32)), (.int (1 : Int32)), (.ref b189)]))
    refine own_callS X210 hx hZ hown (hw _ (List.mem_of_getElem? (i := 3) rfl)) (hw _ (List.mem_of_getElem? (i := 4) rfl)) (hw _ (List.mem_of_getElem? (i := 5) rfl)) (hw _ (List.mem_of_getElem? (i := 6) rfl)) (by decide) (rm1 l Z a0 hw [] b189 (1 : Int32) (2 : Int32) 1 2 r210 h210 n0 Z210 A210 (by decide) (by decide) (by decide) (by decide) (by decide) ge189) e210 (by rw [hml]; rfl) [(.ref b189), (.int (1 : Int32)), (.int (2 : Int32))] [] rfl (lenOf own_pd0 rfl) rfl 0 (Nat.le_of_eq rfl) (by decide) (by decide) (Nat.le_of_ble_eq_true rfl) (Nat.le_of_ble_eq_true rfl) (hb hby at_160) ?_
    intro T212 Lc212 v212 X212 hQ212
    obtain ⟨h212, e212⟩ : ∃ h, T212.heap = h := ⟨_, rfl⟩
    rw [e212] at hQ212
    obtain ⟨rfl, N212q, K212, A212⟩ := hQ212
    have N212 := Fr.app N210 N212q
    have Z212 := Nat.le_trans Z210 K212.1
    obtain ⟨r212, hr212⟩ : ∃ g : Nat → Int64, g = own_cs r210 1 2 := ⟨_, rfl⟩
    rw [← hr212] at A212
    have cr212 : ∀ x, own_cnt r212 x 5 = own_one q1 x + own_one q2 x + own_one q3 x + own_one q4 x + own_one (9223372036854775807 : Int64) x := fun x => by rw [hr212]; exact (own_cs_cnt r210 1 (by decide) x).trans (cr210 x)
    have dm212_4 : own_dom r212 4 := by rw [hr212]; exact own_dom_keep r210 1 4 (by decide) dm210_4
    have dm212_3 : own_dom r212 3 := by rw [hr212]; exact own_dom_keep r210 1 3 (by decide) dm210_3
    have dm212_2 : own_dom r212 2 := by rw [hr212]; exact own_dom_step r210 1 dm210_1
    show own_Go _ _ _ _ (T212.setTop (mkF m 163 #[.val (.long q1), .second, .val (.long q2), .second, .val (.long q3), .second, .val (.long q4), .second, .val (.long q5), .second, .val (.int p6), .val (.int (4 : Int32)), .val (.int v12_2), .val (.ref b189), .unset, .unset] []))
    refine own_by (fun _ k => XS.aload X212.here hx rfl (hb hby at_163) rfl rfl k) ?_
    refine own_by (fun _ k => XS.iconst X212.here hx rfl (hb hby at_165) k) ?_
    refine own_by (fun _ k => XS.iconst X212.here hx rfl (hb hby at_166) k) ?_
    show own_Go _ _ _ _ (T212.setTop (mkF m 167 #[.val (.long q1), .second, .val (.long q2), .second, .val (.long q3), .second, .val (.long q4), .second, .val (.long q5), .second, .val (.int p6), .val (.int (4 : Int32)), .val (.int v12_2), .val (.ref b189), .unset, .unset] [(.int (1 : Int32)), (.int (0 : Int32)), (.ref b189)]))
    refine own_callS X212 hx hZ hown (hw _ (List.mem_of_getElem? (i := 3) rfl)) (hw _ (List.mem_of_getElem? (i := 4) rfl)) (hw _ (List.mem_of_getElem? (i := 5) rfl)) (hw _ (List.mem_of_getElem? (i := 6) rfl)) (by decide) (rm1 l Z a0 hw [] b189 (0 : Int32) (1 : Int32) 0 1 r212 h212 n0 Z212 A212 (by decide) (by decide) (by decide) (by decide) (by decide) ge189) e212 (by rw [hml]; rfl) [(.ref b189), (.int (0 : Int32)), (.int (1 : Int32))] [] rfl (lenOf own_pd0 rfl) rfl 0 (Nat.le_of_eq rfl) (by decide) (by decide) (Nat.le_of_ble_eq_true rfl) (Nat.le_of_ble_eq_true rfl) (hb hby at_167) ?_
    intro T214 Lc214 v214 X214 hQ214
    obtain ⟨h214, e214⟩ : ∃ h, T214.heap = h := ⟨_, rfl⟩
    rw [e214] at hQ214
    obtain ⟨rfl, N214q, K214, A214⟩ := hQ214
    have N214 := Fr.app N212 N214q
    have Z214 := Nat.le_trans Z212 K214.1
    obtain ⟨r214, hr214⟩ : ∃ g : Nat → Int64, g = own_cs r212 0 1 := ⟨_, rfl⟩
    rw [← hr214] at A214
    have cr214 : ∀ x, own_cnt r214 x 5 = own_one q1 x + own_one q2 x + own_one q3 x + own_one q4 x + own_one (9223372036854775807 : Int64) x := fun x => by rw [hr214]; exact (own_cs_cnt r212 0 (by decide) x).trans (cr212 x)
    have dm214_4 : own_dom r214 4 := by rw [hr214]; exact own_dom_keep r212 0 4 (by decide) dm212_4
    have dm214_3 : own_dom r214 3 := by rw [hr214]; exact own_dom_keep r212 0 3 (by decide) dm212_3
    have dm214_2 : own_dom r214 2 := by rw [hr214]; exact own_dom_keep r212 0 2 (by decide) dm212_2
    have dm214_1 : own_dom r214 1 := by rw [hr214]; exact own_dom_step r212 0 (own_dom0 r212)
    have hsd : own_sd [r214 0, r214 1, r214 2, r214 3, r214 4] := by
      have s01 := dm214_1 0 (by decide)
      have s02 := dm214_2 0 (by decide)
      have s03 := dm214_3 0 (by decide)
      have s04 := dm214_4 0 (by decide)
      have s12 := dm214_2 1 (by decide)
      have s13 := dm214_3 1 (by decide)
      have s14 := dm214_4 1 (by decide)
      have s23 := dm214_3 2 (by decide)
      have s24 := dm214_4 2 (by decide)
      have s34 := dm214_4 3 (by decide)
      simp [own_sd, s01, s02, s03, s04, s12, s13, s14, s23, s24, s34]
    have hrl : ∀ x, own_cl x [r214 0, r214 1, r214 2, r214 3, r214 4] = own_one q1 x + own_one q2 x + own_one q3 x + own_one q4 x + own_one (9223372036854775807 : Int64) x := fun x => by have q := cr214 x; simp [own_cnt] at q; simp [own_cl]; omega
    show own_Go _ _ _ _ (T214.setTop (mkF m 170 #[.val (.long q1), .second, .val (.long q2), .second, .val (.long q3), .second, .val (.long q4), .second, .val (.long q5), .second, .val (.int p6), .val (.int (4 : Int32)), .val (.int v12_2), .val (.ref b189), .unset, .unset] []))
    obtain ⟨T216, h216, X216, e216, E216, A216, D216, -, st216⟩ := newO X214 hx hZ hown (hw _ (List.mem_of_getElem? (i := 7) rfl)) (hw _ (List.mem_of_getElem? (i := 8) rfl)) (hw _ (List.mem_of_getElem? (i := 9) rfl)) e214 (g := (mkF m 170 #[.val (.long q1), .second, .val (.long q2), .second, .val (.long q3), .second, .val (.long q4), .second, .val (.long q5), .second, .val (.int p6), .val (.int (4 : Int32)), .val (.int v12_2), .val (.ref b189), .unset, .unset] [])) rfl (hb hby at_170) (by decide) (by decide)
    refine own_by st216 ?_
    show own_Go _ _ _ _ (T216.setTop (mkF m 173 #[.val (.long q1), .second, .val (.long q2), .second, .val (.long q3), .second, .val (.long q4), .second, .val (.long q5), .second, .val (.int p6), .val (.int (4 : Int32)), .val (.int v12_2), .val (.ref b189), .unset, .unset] [.ref h214.size]))
    obtain ⟨b216, g216⟩ : ∃ z, z = h214.size := ⟨_, rfl⟩
    rw [← g216] at A216 D216
    refine own_gen g216.symm (fun z_ => T216.setTop (mkF m 173 #[.val (.long q1), .second, .val (.long q2), .second, .val (.long q3), .second, .val (.long q4), .second, .val (.long q5), .second, .val (.int p6), .val (.int (4 : Int32)), .val (.int v12_2), .val (.ref b189), .unset, .unset] [.ref z_])) ?_
    have ne217 : b189 ≠ b216 := Nat.ne_of_lt (Nat.lt_of_lt_of_le A214.lt (Nat.le_of_eq g216.symm))
    have ge216 : n0 ≤ b216 := Nat.le_trans Z214 (Nat.le_of_eq g216.symm)
    have f218 := A214.ext E216
    have Z216 := Nat.le_trans Z214 E216.1
    have f219 : Fld Z h216 b216 "com/example/libmakespan/libmakespan/planners/LongHeap" "values" "[J" .null := D216 (Or.inl (hw _ (List.mem_of_getElem? (i := 21) rfl))) (ty := (.array .long)) (by decide)
    have f220 : Fld Z h216 b216 "com/example/libmakespan/libmakespan/planners/LongHeap" "size" "I" (.int (0 : Int32)) := D216 (Or.inl (hw _ (List.mem_of_getElem? (i := 28) rfl))) (ty := .int) (by decide)
    show own_Go _ _ _ _ (T216.setTop (mkF m 173 #[.val (.long q1), .second, .val (.long q2), .second, .val (.long q3), .second, .val (.long q4), .second, .val (.long q5), .second, .val (.int p6), .val (.int (4 : Int32)), .val (.int v12_2), .val (.ref b189), .unset, .unset] [(.ref b216)]))
    refine own_by (fun _ k => XS.dup X216.here hx rfl (hb hby at_173) rfl rfl k) ?_
    refine own_by (fun _ k => XS.iload X216.here hx rfl (hb hby at_174) rfl k) ?_
    show own_Go _ _ _ _ (T216.setTop (mkF m 176 #[.val (.long q1), .second, .val (.long q2), .second, .val (.long q3), .second, .val (.long q4), .second, .val (.long q5), .second, .val (.int p6), .val (.int (4 : Int32)), .val (.int v12_2), .val (.ref b189), .unset, .unset] [(.int v12_2), (.ref b216), (.ref b216)]))
    refine own_callI X216 hx hZ hown rfl (hw _ (List.mem_of_getElem? (i := 10) rfl)) (hw _ (List.mem_of_getElem? (i := 11) rfl)) (hw _ (List.mem_of_getElem? (i := 9) rfl)) (hw _ (List.mem_of_getElem? (i := 12) rfl)) (by decide) (rm2 l Z a0 hw [] b216 v12_2 h216 n0 Z216 A216 f219 f220 ge216 hp12) e216 (by rw [hml]; rfl) b216 [(.int v12_2)] [(.ref b216)] rfl (lenOf own_pd1 rfl) rfl 1 (Nat.le_of_eq rfl) (by decide) (by decide) (Nat.le_of_ble_eq_true rfl) (Nat.le_of_ble_eq_true rfl) (hb hby at_176) ?_
    intro T221 Lc221 v221 X221 hQ221
    obtain ⟨h221, e221⟩ : ∃ h, T221.heap = h := ⟨_, rfl⟩
    rw [e221] at hQ221
    obtain ⟨rfl, N221q, K221, bb221, nn221, h1221, h3221, FV221, FS221, AH221, gb221, nw221⟩ := hQ221
    have N221 := Fr.app N214 N221q
    have f222 := f218.keep K221 (ninS ne217 nin0)
    have f223 := A216.keep K221
    have Z221 := Nat.le_trans Z216 K221.1
    have ne221a : b216 ≠ bb221 := Nat.ne_of_lt (Nat.lt_of_lt_of_le A216.lt nw221)
    have ne221r : b189 ≠ bb221 := Nat.ne_of_lt (Nat.lt_of_lt_of_le f218.lt nw221)
    have hc221 : ∀ x, own_cnt (fun _ => (0 : Int64)) x 0 = 0 := fun _ => rfl
    have HP221 : own_hp (fun _ => 0) 0 := ⟨fun q => by omega, fun q => by omega, fun q => by omega, fun q => by omega⟩
    show own_Go _ _ _ _ (T221.setTop (mkF m 179 #[.val (.long q1), .second, .val (.long q2), .second, .val (.long q3), .second, .val (.long q4), .second, .val (.long q5), .second, .val (.int p6), .val (.int (4 : Int32)), .val (.int v12_2), .val (.ref b189), .unset, .unset] [(.ref b216)]))
    refine own_by (fun _ k => XS.astore X221.here hx rfl (hb hby at_179) rfl rfl (l' := #[.val (.long q1), .second, .val (.long q2), .second, .val (.long q3), .second, .val (.long q4), .second, .val (.long q5), .second, .val (.int p6), .val (.int (4 : Int32)), .val (.int v12_2), .val (.ref b189), .val (.ref b216), .unset]) rfl k) ?_
    refine own_by (fun _ k => XS.aload X221.here hx rfl (hb hby at_181) rfl rfl k) ?_
    refine own_by (fun _ k => XS.lloadN X221.here hx rfl (hb hby at_183) rfl k) ?_
    show own_Go _ _ _ _ (T221.setTop (mkF m 184 #[.val (.long q1), .second, .val (.long q2), .second, .val (.long q3), .second, .val (.long q4), .second, .val (.long q5), .second, .val (.int p6), .val (.int (4 : Int32)), .val (.int v12_2), .val (.ref b189), .val (.ref b216), .unset] [(.long q1), (.ref b216)]))
    refine own_callV X221 hx hZ hown (hw _ (List.mem_of_getElem? (i := 22) rfl)) (hw _ (List.mem_of_getElem? (i := 23) rfl)) (notFace_of_selects (args := #[]) (mvT hZ (hw _ (List.mem_of_getElem? (i := 25) rfl)))) (hw _ (List.mem_of_getElem? (i := 25) rfl)) (hw _ (List.mem_of_getElem? (i := 24) rfl)) (hw _ (List.mem_of_getElem? (i := 9) rfl)) (hw _ (List.mem_of_getElem? (i := 26) rfl)) (by decide) (rm5_0 l Z a0 hw [] b216 q1 bb221 nn221 (fun _ => 0) h221 n0 Z221 f223 FV221 FS221 AH221 ge216 gb221 ne221a (by omega) (by omega) HP221) e221 b216 f223 (by rw [hml]; rfl) [(.long q1)] [] rfl (lenOf own_pd3 rfl) rfl 0 (Nat.le_of_eq rfl) (by decide) (by decide) (Nat.le_of_ble_eq_true rfl) (Nat.le_of_ble_eq_true rfl) (hb hby at_184) ?_
    intro T226 Lc226 v226 X226 hQ226
    obtain ⟨h226, e226⟩ : ∃ h, T226.heap = h := ⟨_, rfl⟩
    rw [e226] at hQ226
    obtain ⟨rfl, N226q, K226, bb226, nn226, ff226, h1226, h8226, FV226, FS226, AH226, gb226, ho226, HP226, hc226⟩ := hQ226
    have N226 := Fr.app N221 N226q
    have f227 := f222.keep K226 (ninS ne217 (ninS ne221r nin0))
    have f228 := f223.keep K226
    have Z226 := Nat.le_trans Z221 K226.1
    have ne226a : b216 ≠ bb226 := ho226.elim (fun q => by rw [q]; exact ne221a) (fun q => Nat.ne_of_lt (Nat.lt_of_lt_of_le f223.lt q))
    have ne226r : b189 ≠ bb226 := ho226.elim (fun q => by rw [q]; exact ne221r) (fun q => Nat.ne_of_lt (Nat.lt_of_lt_of_le f222.lt q))
    have hd226 : ∀ x, own_cnt ff226 x 1 = own_one q1 x := fun x => by have q := hc226 x; have q' := hc221 x; omega
    show own_Go _ _ _ _ (T226.setTop (mkF m 187 #[.val (.long q1), .second, .val (.long q2), .second, .val (.long q3), .second, .val (.long q4), .second, .val (.long q5), .second, .val (.int p6), .val (.int (4 : Int32)), .val (.int v12_2), .val (.ref b189), .val (.ref b216), .unset] []))
    refine own_by (fun _ k => XS.iload X226.here hx rfl (hb hby at_187) rfl k) ?_
    refine own_by (fun _ k => XS.iconst X226.here hx rfl (hb hby at_189) k) ?_
    show own_Go _ _ _ _ (T226.setTop (mkF m 190 #[.val (.long q1), .second, .val (.long q2), .second, .val (.long q3), .second, .val (.long q4), .second, .val (.long q5), .second, .val (.int p6), .val (.int (4 : Int32)), .val (.int v12_2), .val (.ref b189), .val (.ref b216), .unset] [(.int (1 : Int32)), (.int (4 : Int32))]))
    refine own_by (fun _ k => XS.icmpNo X226.here hx rfl (hb hby at_190) rfl (tlt (by decide)).2.2.2 k) ?_
    refine own_by (fun _ k => XS.aload X226.here hx rfl (hb hby at_193) rfl rfl k) ?_
    refine own_by (fun _ k => XS.lloadN X226.here hx rfl (hb hby at_195) rfl k) ?_
    show own_Go _ _ _ _ (T226.setTop (mkF m 196 #[.val (.long q1), .second, .val (.long q2), .second, .val (.long q3), .second, .val (.long q4), .second, .val (.long q5), .second, .val (.int p6), .val (.int (4 : Int32)), .val (.int v12_2), .val (.ref b189), .val (.ref b216), .unset] [(.long q2), (.ref b216)]))
    refine own_callV X226 hx hZ hown (hw _ (List.mem_of_getElem? (i := 22) rfl)) (hw _ (List.mem_of_getElem? (i := 23) rfl)) (notFace_of_selects (args := #[]) (mvT hZ (hw _ (List.mem_of_getElem? (i := 25) rfl)))) (hw _ (List.mem_of_getElem? (i := 25) rfl)) (hw _ (List.mem_of_getElem? (i := 24) rfl)) (hw _ (List.mem_of_getElem? (i := 9) rfl)) (hw _ (List.mem_of_getElem? (i := 26) rfl)) (by decide) (rm5_1 l Z a0 hw [] b216 q2 bb226 nn226 ff226 h226 n0 Z226 f228 FV226 FS226 AH226 ge216 gb226 ne226a (by omega) (by omega) HP226) e226 b216 f228 (by rw [hml]; rfl) [(.long q2)] [] rfl (lenOf own_pd3 rfl) rfl 0 (Nat.le_of_eq rfl) (by decide) (by decide) (Nat.le_of_ble_eq_true rfl) (Nat.le_of_ble_eq_true rfl) (hb hby at_196) ?_
    intro T232 Lc232 v232 X232 hQ232
    obtain ⟨h232, e232⟩ : ∃ h, T232.heap = h := ⟨_, rfl⟩
    rw [e232] at hQ232
    obtain ⟨rfl, N232q, K232, bb232, nn232, ff232, h1232, h8232, FV232, FS232, AH232, gb232, ho232, HP232, hc232⟩ := hQ232
    have N232 := Fr.app N226 N232q
    have f233 := f227.keep K232 (ninS ne217 (ninS ne226r nin0))
    have f234 := f228.keep K232
    have Z232 := Nat.le_trans Z226 K232.1
    have ne232a : b216 ≠ bb232 := ho232.elim (fun q => by rw [q]; exact ne226a) (fun q => Nat.ne_of_lt (Nat.lt_of_lt_of_le f228.lt q))
    have ne232r : b189 ≠ bb232 := ho232.elim (fun q => by rw [q]; exact ne226r) (fun q => Nat.ne_of_lt (Nat.lt_of_lt_of_le f227.lt q))
    have hd232 : ∀ x, own_cnt ff232 x 2 = own_one q1 x + own_one q2 x := fun x => by have q := hc232 x; have q' := hd226 x; omega
    show own_Go _ _ _ _ (T232.setTop (mkF m 199 #[.val (.long q1), .second, .val (.long q2), .second, .val (.long q3), .second, .val (.long q4), .second, .val (.long q5), .second, .val (.int p6), .val (.int (4 : Int32)), .val (.int v12_2), .val (.ref b189), .val (.ref b216), .unset] []))
    refine own_by (fun _ k => XS.iload X232.here hx rfl (hb hby at_199) rfl k) ?_
    refine own_by (fun _ k => XS.iconst X232.here hx rfl (hb hby at_201) k) ?_
    show own_Go _ _ _ _ (T232.setTop (mkF m 202 #[.val (.long q1), .second, .val (.long q2), .second, .val (.long q3), .second, .val (.long q4), .second, .val (.long q5), .second, .val (.int p6), .val (.int (4 : Int32)), .val (.int v12_2), .val (.ref b189), .val (.ref b216), .unset] [(.int (2 : Int32)), (.int (4 : Int32))]))
    refine own_by (fun _ k => XS.icmpNo X232.here hx rfl (hb hby at_202) rfl (tlt (by decide)).2.2.2 k) ?_
    refine own_by (fun _ k => XS.aload X232.here hx rfl (hb hby at_205) rfl rfl k) ?_
    refine own_by (fun _ k => XS.lload X232.here hx rfl (hb hby at_207) rfl k) ?_
    show own_Go _ _ _ _ (T232.setTop (mkF m 209 #[.val (.long q1), .second, .val (.long q2), .second, .val (.long q3), .second, .val (.long q4), .second, .val (.long q5), .second, .val (.int p6), .val (.int (4 : Int32)), .val (.int v12_2), .val (.ref b189), .val (.ref b216), .unset] [(.long q3), (.ref b216)]))
    refine own_callV X232 hx hZ hown (hw _ (List.mem_of_getElem? (i := 22) rfl)) (hw _ (List.mem_of_getElem? (i := 23) rfl)) (notFace_of_selects (args := #[]) (mvT hZ (hw _ (List.mem_of_getElem? (i := 25) rfl)))) (hw _ (List.mem_of_getElem? (i := 25) rfl)) (hw _ (List.mem_of_getElem? (i := 24) rfl)) (hw _ (List.mem_of_getElem? (i := 9) rfl)) (hw _ (List.mem_of_getElem? (i := 26) rfl)) (by decide) (rm5_2 l Z a0 hw [] b216 q3 bb232 nn232 ff232 h232 n0 Z232 f234 FV232 FS232 AH232 ge216 gb232 ne232a (by omega) (by omega) HP232) e232 b216 f234 (by rw [hml]; rfl) [(.long q3)] [] rfl (lenOf own_pd3 rfl) rfl 0 (Nat.le_of_eq rfl) (by decide) (by decide) (Nat.le_of_ble_eq_true rfl) (Nat.le_of_ble_eq_true rfl) (hb hby at_209) ?_
    intro T238 Lc238 v238 X238 hQ238
    obtain ⟨h238, e238⟩ : ∃ h, T238.heap = h := ⟨_, rfl⟩
    rw [e238] at hQ238
    obtain ⟨rfl, N238q, K238, bb238, nn238, ff238, h1238, h8238, FV238, FS238, AH238, gb238, ho238, HP238, hc238⟩ := hQ238
    have N238 := Fr.app N232 N238q
    have f239 := f233.keep K238 (ninS ne217 (ninS ne232r nin0))
    have f240 := f234.keep K238
    have Z238 := Nat.le_trans Z232 K238.1
    have ne238a : b216 ≠ bb238 := ho238.elim (fun q => by rw [q]; exact ne232a) (fun q => Nat.ne_of_lt (Nat.lt_of_lt_of_le f234.lt q))
    have ne238r : b189 ≠ bb238 := ho238.elim (fun q => by rw [q]; exact ne232r) (fun q => Nat.ne_of_lt (Nat.lt_of_lt_of_le f233.lt q))
    have hd238 : ∀ x, own_cnt ff238 x 3 = own_one q1 x + own_one q2 x + own_one q3 x := fun x => by have q := hc238 x; have q' := hd232 x; omega
    show own_Go _ _ _ _ (T238.setTop (mkF m 212 #[.val (.long q1), .second, .val (.long q2), .second, .val (.long q3), .second, .val (.long q4), .second, .val (.long q5), .second, .val (.int p6), .val (.int (4 : Int32)), .val (.int v12_2), .val (.ref b189), .val (.ref b216), .unset] []))
    refine own_by (fun _ k => XS.iload X238.here hx rfl (hb hby at_212) rfl k) ?_
    refine own_by (fun _ k => XS.iconst X238.here hx rfl (hb hby at_214) k) ?_
    show own_Go _ _ _ _ (T238.setTop (mkF m 215 #[.val (.long q1), .second, .val (.long q2), .second, .val (.long q3), .second, .val (.long q4), .second, .val (.long q5), .second, .val (.int p6), .val (.int (4 : Int32)), .val (.int v12_2), .val (.ref b189), .val (.ref b216), .unset] [(.int (3 : Int32)), (.int (4 : Int32))]))
    refine own_by (fun _ k => XS.icmpNo X238.here hx rfl (hb hby at_215) rfl (tlt (by decide)).2.2.2 k) ?_
    refine own_by (fun _ k => XS.aload X238.here hx rfl (hb hby at_218) rfl rfl k) ?_
    refine own_by (fun _ k => XS.lload X238.here hx rfl (hb hby at_220) rfl k) ?_
    show own_Go _ _ _ _ (T238.setTop (mkF m 222 #[.val (.long q1), .second, .val (.long q2), .second, .val (.long q3), .second, .val (.long q4), .second, .val (.long q5), .second, .val (.int p6), .val (.int (4 : Int32)), .val (.int v12_2), .val (.ref b189), .val (.ref b216), .unset] [(.long q4), (.ref b216)]))
    refine own_callV X238 hx hZ hown (hw _ (List.mem_of_getElem? (i := 22) rfl)) (hw _ (List.mem_of_getElem? (i := 23) rfl)) (notFace_of_selects (args := #[]) (mvT hZ (hw _ (List.mem_of_getElem? (i := 25) rfl)))) (hw _ (List.mem_of_getElem? (i := 25) rfl)) (hw _ (List.mem_of_getElem? (i := 24) rfl)) (hw _ (List.mem_of_getElem? (i := 9) rfl)) (hw _ (List.mem_of_getElem? (i := 26) rfl)) (by decide) (rm5_3 l Z a0 hw [] b216 q4 bb238 nn238 ff238 h238 n0 Z238 f240 FV238 FS238 AH238 ge216 gb238 ne238a (by omega) (by omega) HP238) e238 b216 f240 (by rw [hml]; rfl) [(.long q4)] [] rfl (lenOf own_pd3 rfl) rfl 0 (Nat.le_of_eq rfl) (by decide) (by decide) (Nat.le_of_ble_eq_true rfl) (Nat.le_of_ble_eq_true rfl) (hb hby at_222) ?_
    intro T244 Lc244 v244 X244 hQ244
    obtain ⟨h244, e244⟩ : ∃ h, T244.heap = h := ⟨_, rfl⟩
    rw [e244] at hQ244
    obtain ⟨rfl, N244q, K244, bb244, nn244, ff244, h1244, h8244, FV244, FS244, AH244, gb244, ho244, HP244, hc244⟩ := hQ244
    have N244 := Fr.app N238 N244q
    have f245 := f239.keep K244 (ninS ne217 (ninS ne238r nin0))
    have f246 := f240.keep K244
    have Z244 := Nat.le_trans Z238 K244.1
    have ne244a : b216 ≠ bb244 := ho244.elim (fun q => by rw [q]; exact ne238a) (fun q => Nat.ne_of_lt (Nat.lt_of_lt_of_le f240.lt q))
    have ne244r : b189 ≠ bb244 := ho244.elim (fun q => by rw [q]; exact ne238r) (fun q => Nat.ne_of_lt (Nat.lt_of_lt_of_le f239.lt q))
    have hd244 : ∀ x, own_cnt ff244 x 4 = own_one q1 x + own_one q2 x + own_one q3 x + own_one q4 x := fun x => by have q := hc244 x; have q' := hd238 x; omega
    show own_Go _ _ _ _ (T244.setTop (mkF m 225 #[.val (.long q1), .second, .val (.long q2), .second, .val (.long q3), .second, .val (.long q4), .second, .val (.long q5), .second, .val (.int p6), .val (.int (4 : Int32)), .val (.int v12_2), .val (.ref b189), .val (.ref b216), .unset] []))
    refine own_by (fun _ k => XS.iload X244.here hx rfl (hb hby at_225) rfl k) ?_
    refine own_by (fun _ k => XS.iconst X244.here hx rfl (hb hby at_227) k) ?_
    show own_Go _ _ _ _ (T244.setTop (mkF m 228 #[.val (.long q1), .second, .val (.long q2), .second, .val (.long q3), .second, .val (.long q4), .second, .val (.long q5), .second, .val (.int p6), .val (.int (4 : Int32)), .val (.int v12_2), .val (.ref b189), .val (.ref b216), .unset] [(.int (4 : Int32)), (.int (4 : Int32))]))
    refine own_by (fun _ k => XS.icmpYes X244.here hx rfl (pc0 := 228) (pc' := 238) rfl (hb hby at_228) rfl (flt (by decide)).2.2.2 (by decide) (by decide) k) ?_
    have hq0 : ∀ x, own_cnt ff244 x 4 + 1 * own_one 9223372036854775807 x = own_cl x [r214 0, r214 1, r214 2, r214 3, r214 4] := fun x => by rw [hd244 x, hrl x]; omega
    refine own_by (fun _ k => XS.aload X244.here hx rfl (hb hby at_238) rfl rfl k) ?_
    show own_Go _ _ _ _ (T244.setTop (mkF m 240 #[.val (.long q1), .second, .val (.long q2), .second, .val (.long q3), .second, .val (.long q4), .second, .val (.long q5), .second, .val (.int p6), .val (.int (4 : Int32)), .val (.int v12_2), .val (.ref b189), .val (.ref b216), .unset] [(.ref b216)]))
    have he0 : ff244 0 = r214 0 := own_hd ff244 4 1 _ [r214 1, r214 2, r214 3, r214 4] (by decide) (by decide) HP244 hsd hq0
    refine own_callV X244 hx hZ hown (hw _ (List.mem_of_getElem? (i := 40) rfl)) (hw _ (List.mem_of_getElem? (i := 41) rfl)) (notFace_of_selects (args := #[]) (mvT hZ (hw _ (List.mem_of_getElem? (i := 43) rfl)))) (hw _ (List.mem_of_getElem? (i := 43) rfl)) (hw _ (List.mem_of_getElem? (i := 42) rfl)) (hw _ (List.mem_of_getElem? (i := 9) rfl)) (hw _ (List.mem_of_getElem? (i := 44) rfl)) (by decide) (rm8_4 l Z a0 hw [] b216 bb244 nn244 ff244 h244 n0 Z244 f246 FV244 FS244 AH244 ge216 gb244 ne244a (by omega) (by omega) HP244) e244 b216 f246 (by rw [hml]; rfl) [] [] rfl (lenOf own_pd5 rfl) rfl 0 (Nat.le_of_eq rfl) (by decide) (by decide) (Nat.le_of_ble_eq_true rfl) (Nat.le_of_ble_eq_true rfl) (hb hby at_240) ?_
    intro T250 Lc250 v250 X250 hQ250
    obtain ⟨h250, e250⟩ : ∃ h, T250.heap = h := ⟨_, rfl⟩
    rw [e250] at hQ250
    obtain ⟨rfl, N250q, K250, ff250, FV250, FS250, AH250, HP250, hc250⟩ := hQ250
    have N250 := Fr.app N244 N250q
    have f251 := f245.keep K250 (ninS ne217 (ninS ne244r nin0))
    have f252 := f246.keep K250
    have Z250 := Nat.le_trans Z244 K250.1
    have hq1 := own_next ff244 ff250 3 1 _ [r214 1, r214 2, r214 3, r214 4] he0 hq0 hc250
    show own_Go _ _ _ _ (T250.setTop (mkF m 243 #[.val (.long q1), .second, .val (.long q2), .second, .val (.long q3), .second, .val (.long q4), .second, .val (.long q5), .second, .val (.int p6), .val (.int (4 : Int32)), .val (.int v12_2), .val (.ref b189), .val (.ref b216), .unset] [(.long (ff244 0))]))
    refine own_by (fun _ k => XS.aload X250.here hx rfl (hb hby at_243) rfl rfl k) ?_
    refine own_by (fun _ k => XS.iconst X250.here hx rfl (hb hby at_245) k) ?_
    show own_Go _ _ _ _ (T250.setTop (mkF m 246 #[.val (.long q1), .second, .val (.long q2), .second, .val (.long q3), .second, .val (.long q4), .second, .val (.long q5), .second, .val (.int p6), .val (.int (4 : Int32)), .val (.int v12_2), .val (.ref b189), .val (.ref b216), .unset] [(.int (0 : Int32)), (.ref b189), (.long (ff244 0))]))
    refine own_by (fun _ k => own_lal X250 hx hZ e250 f251 0 (by decide) (by decide) (hb hby at_246) k) ?_
    show own_Go _ _ _ _ (T250.setTop (mkF m 247 #[.val (.long q1), .second, .val (.long q2), .second, .val (.long q3), .second, .val (.long q4), .second, .val (.long q5), .second, .val (.int p6), .val (.int (4 : Int32)), .val (.int v12_2), .val (.ref b189), .val (.ref b216), .unset] [(.long (r214 0)), (.long (ff244 0))]))
    refine own_by (fun _ k => XS.lcmp X250.here hx rfl (hb hby at_247) rfl k) ?_
    show own_Go _ _ _ _ (T250.setTop (mkF m 248 #[.val (.long q1), .second, .val (.long q2), .second, .val (.long q3), .second, .val (.long q4), .second, .val (.long q5), .second, .val (.int p6), .val (.int (4 : Int32)), .val (.int v12_2), .val (.ref b189), .val (.ref b216), .unset] [(.int (lcmpW (ff244 0) (r214 0)))]))
    refine own_by (fun _ k => XS.ifNo X250.here hx rfl (hb hby at_248) rfl ((if0 _ _).trans (teq ((lw_eq _ _).mpr he0)).2) k) ?_
    refine own_by (fun _ k => XS.iconst X250.here hx rfl (hb hby at_251) k) ?_
    show own_Go _ _ _ _ (T250.setTop (mkF m 252 #[.val (.long q1), .second, .val (.long q2), .second, .val (.long q3), .second, .val (.long q4), .second, .val (.long q5), .second, .val (.int p6), .val (.int (4 : Int32)), .val (.int v12_2), .val (.ref b189), .val (.ref b216), .unset] [(.int (1 : Int32))]))
    refine own_by (fun _ k => XS.goto X250.here hx rfl (pc0 := 252) (pc' := 256) rfl (hb hby at_252) (by decide) (by decide) k) ?_
    show own_Go _ _ _ _ (T250.setTop (mkF m 256 #[.val (.long q1), .second, .val (.long q2), .second, .val (.long q3), .second, .val (.long q4), .second, .val (.long q5), .second, .val (.int p6), .val (.int (4 : Int32)), .val (.int v12_2), .val (.ref b189), .val (.ref b216), .unset] [(.int (1 : Int32))]))
    refine own_by (fun _ k => XS.istore X250.here hx rfl (hb hby at_256) rfl (l' := #[.val (.long q1), .second, .val (.long q2), .second, .val (.long q3), .second, .val (.long q4), .second, .val (.long q5), .second, .val (.int p6), .val (.int (4 : Int32)), .val (.int v12_2), .val (.ref b189), .val (.ref b216), .val (.int (1 : Int32))]) rfl k) ?_
    refine own_by (fun _ k => XS.iload X250.here hx rfl (hb hby at_258) rfl k) ?_
    refine own_by (fun _ k => XS.iconst X250.here hx rfl (hb hby at_260) k) ?_
    show own_Go _ _ _ _ (T250.setTop (mkF m 261 #[.val (.long q1), .second, .val (.long q2), .second, .val (.long q3), .second, .val (.long q4), .second, .val (.long q5), .second, .val (.int p6), .val (.int (4 : Int32)), .val (.int v12_2), .val (.ref b189), .val (.ref b216), .val (.int (1 : Int32))] [(.int (1 : Int32)), (.int (4 : Int32))]))
    refine own_by (fun _ k => XS.icmpNo X250.here hx rfl (hb hby at_261) rfl (tlt (by decide)).2.2.2 k) ?_
    refine own_by (fun _ k => XS.aload X250.here hx rfl (hb hby at_264) rfl rfl k) ?_
    show own_Go _ _ _ _ (T250.setTop (mkF m 266 #[.val (.long q1), .second, .val (.long q2), .second, .val (.long q3), .second, .val (.long q4), .second, .val (.long q5), .second, .val (.int p6), .val (.int (4 : Int32)), .val (.int v12_2), .val (.ref b189), .val (.ref b216), .val (.int (1 : Int32))] [(.ref b216)]))
    have he1 : ff250 0 = r214 1 := own_hd ff250 3 1 _ [r214 2, r214 3, r214 4] (by decide) (by decide) HP250 hsd.2 hq1
    refine own_callV X250 hx hZ hown (hw _ (List.mem_of_getElem? (i := 40) rfl)) (hw _ (List.mem_of_getElem? (i := 41) rfl)) (notFace_of_selects (args := #[]) (mvT hZ (hw _ (List.mem_of_getElem? (i := 43) rfl)))) (hw _ (List.mem_of_getElem? (i := 43) rfl)) (hw _ (List.mem_of_getElem? (i := 42) rfl)) (hw _ (List.mem_of_getElem? (i := 9) rfl)) (hw _ (List.mem_of_getElem? (i := 44) rfl)) (by decide) (rm8_3 l Z a0 hw [] b216 bb244 nn244 ff250 h250 n0 Z250 f252 FV250 FS250 AH250 ge216 gb244 ne244a (by omega) (by omega) HP250) e250 b216 f252 (by rw [hml]; rfl) [] [] rfl (lenOf own_pd5 rfl) rfl 0 (Nat.le_of_eq rfl) (by decide) (by decide) (Nat.le_of_ble_eq_true rfl) (Nat.le_of_ble_eq_true rfl) (hb hby at_266) ?_
    intro T256 Lc256 v256 X256 hQ256
    obtain ⟨h256, e256⟩ : ∃ h, T256.heap = h := ⟨_, rfl⟩
    rw [e256] at hQ256
    obtain ⟨rfl, N256q, K256, ff256, FV256, FS256, AH256, HP256, hc256⟩ := hQ256
    have N256 := Fr.app N250 N256q
    have f257 := f251.keep K256 (ninS ne217 (ninS ne244r nin0))
    have f258 := f252.keep K256
    have Z256 := Nat.le_trans Z250 K256.1
    have hq2 := own_next ff250 ff256 2 1 _ [r214 2, r214 3, r214 4] he1 hq1 hc256
    show own_Go _ _ _ _ (T256.setTop (mkF m 269 #[.val (.long q1), .second, .val (.long q2), .second, .val (.long q3), .second, .val (.long q4), .second, .val (.long q5), .second, .val (.int p6), .val (.int (4 : Int32)), .val (.int v12_2), .val (.ref b189), .val (.ref b216), .val (.int (1 : Int32))] [(.long (ff250 0))]))
    refine own_by (fun _ k => XS.aload X256.here hx rfl (hb hby at_269) rfl rfl k) ?_
    refine own_by (fun _ k => XS.iconst X256.here hx rfl (hb hby at_271) k) ?_
    show own_Go _ _ _ _ (T256.setTop (mkF m 272 #[.val (.long q1), .second, .val (.long q2), .second, .val (.long q3), .second, .val (.long q4), .second, .val (.long q5), .second, .val (.int p6), .val (.int (4 : Int32)), .val (.int v12_2), .val (.ref b189), .val (.ref b216), .val (.int (1 : Int32))] [(.int (1 : Int32)), (.ref b189), (.long (ff250 0))]))
    refine own_by (fun _ k => own_lal X256 hx hZ e256 f257 1 (by decide) (by decide) (hb hby at_272) k) ?_
    show own_Go _ _ _ _ (T256.setTop (mkF m 273 #[.val (.long q1), .second, .val (.long q2), .second, .val (.long q3), .second, .val (.long q4), .second, .val (.long q5), .second, .val (.int p6), .val (.int (4 : Int32)), .val (.int v12_2), .val (.ref b189), .val (.ref b216), .val (.int (1 : Int32))] [(.long (r214 1)), (.long (ff250 0))]))
    refine own_by (fun _ k => XS.lcmp X256.here hx rfl (hb hby at_273) rfl k) ?_
    show own_Go _ _ _ _ (T256.setTop (mkF m 274 #[.val (.long q1), .second, .val (.long q2), .second, .val (.long q3), .second, .val (.long q4), .second, .val (.long q5), .second, .val (.int p6), .val (.int (4 : Int32)), .val (.int v12_2), .val (.ref b189), .val (.ref b216), .val (.int (1 : Int32))] [(.int (lcmpW (ff250 0) (r214 1)))]))
    refine own_by (fun _ k => XS.ifNo X256.here hx rfl (hb hby at_274) rfl ((if0 _ _).trans (teq ((lw_eq _ _).mpr he1)).2) k) ?_
    refine own_by (fun _ k => XS.iconst X256.here hx rfl (hb hby at_277) k) ?_
    show own_Go _ _ _ _ (T256.setTop (mkF m 278 #[.val (.long q1), .second, .val (.long q2), .second, .val (.long q3), .second, .val (.long q4), .second, .val (.long q5), .second, .val (.int p6), .val (.int (4 : Int32)), .val (.int v12_2), .val (.ref b189), .val (.ref b216), .val (.int (1 : Int32))] [(.int (1 : Int32))]))
    refine own_by (fun _ k => XS.goto X256.here hx rfl (pc0 := 278) (pc' := 282) rfl (hb hby at_278) (by decide) (by decide) k) ?_
    refine own_by (fun _ k => XS.iload X256.here hx rfl (hb hby at_282) rfl k) ?_
    show own_Go _ _ _ _ (T256.setTop (mkF m 284 #[.val (.long q1), .second, .val (.long q2), .second, .val (.long q3), .second, .val (.long q4), .second, .val (.long q5), .second, .val (.int p6), .val (.int (4 : Int32)), .val (.int v12_2), .val (.ref b189), .val (.ref b216), .val (.int (1 : Int32))] [(.int (1 : Int32)), (.int (1 : Int32))]))
    refine own_by (fun _ k => XS.iand X256.here hx rfl (hb hby at_284) rfl k) ?_
    show own_Go _ _ _ _ (T256.setTop (mkF m 285 #[.val (.long q1), .second, .val (.long q2), .second, .val (.long q3), .second, .val (.long q4), .second, .val (.long q5), .second, .val (.int p6), .val (.int (4 : Int32)), .val (.int v12_2), .val (.ref b189), .val (.ref b216), .val (.int (1 : Int32))] [(.int ((1 : Int32) &&& (1 : Int32)))]))
    rw [(by decide : ((1 : Int32) &&& (1 : Int32)) = (1 : Int32))]
    show own_Go _ _ _ _ (T256.setTop (mkF m 285 #[.val (.long q1), .second, .val (.long q2), .second, .val (.long q3), .second, .val (.long q4), .second, .val (.long q5), .second, .val (.int p6), .val (.int (4 : Int32)), .val (.int v12_2), .val (.ref b189), .val (.ref b216), .val (.int (1 : Int32))] [(.int (1 : Int32))]))
    refine own_by (fun _ k => XS.istore X256.here hx rfl (hb hby at_285) rfl (l' := #[.val (.long q1), .second, .val (.long q2), .second, .val (.long q3), .second, .val (.long q4), .second, .val (.long q5), .second, .val (.int p6), .val (.int (4 : Int32)), .val (.int v12_2), .val (.ref b189), .val (.ref b216), .val (.int (1 : Int32))]) rfl k) ?_
    refine own_by (fun _ k => XS.iload X256.here hx rfl (hb hby at_287) rfl k) ?_
    refine own_by (fun _ k => XS.iconst X256.here hx rfl (hb hby at_289) k) ?_
    show own_Go _ _ _ _ (T256.setTop (mkF m 290 #[.val (.long q1), .second, .val (.long q2), .second, .val (.long q3), .second, .val (.long q4), .second, .val (.long q5), .second, .val (.int p6), .val (.int (4 : Int32)), .val (.int v12_2), .val (.ref b189), .val (.ref b216), .val (.int (1 : Int32))] [(.int (2 : Int32)), (.int (4 : Int32))]))
    refine own_by (fun _ k => XS.icmpNo X256.here hx rfl (hb hby at_290) rfl (tlt (by decide)).2.2.2 k) ?_
    refine own_by (fun _ k => XS.aload X256.here hx rfl (hb hby at_293) rfl rfl k) ?_
    show own_Go _ _ _ _ (T256.setTop (mkF m 295 #[.val (.long q1), .second, .val (.long q2), .second, .val (.long q3), .second, .val (.long q4), .second, .val (.long q5), .second, .val (.int p6), .val (.int (4 : Int32)), .val (.int v12_2), .val (.ref b189), .val (.ref b216), .val (.int (1 : Int32))] [(.ref b216)]))
    have he2 : ff256 0 = r214 2 := own_hd ff256 2 1 _ [r214 3, r214 4] (by decide) (by decide) HP256 hsd.2.2 hq2
    refine own_callV X256 hx hZ hown (hw _ (List.mem_of_getElem? (i := 40) rfl)) (hw _ (List.mem_of_getElem? (i := 41) rfl)) (notFace_of_selects (args := #[]) (mvT hZ (hw _ (List.mem_of_getElem? (i := 43) rfl)))) (hw _ (List.mem_of_getElem? (i := 43) rfl)) (hw _ (List.mem_of_getElem? (i := 42) rfl)) (hw _ (List.mem_of_getElem? (i := 9) rfl)) (hw _ (List.mem_of_getElem? (i := 44) rfl)) (by decide) (rm8_2 l Z a0 hw [] b216 bb244 nn244 ff256 h256 n0 Z256 f258 FV256 FS256 AH256 ge216 gb244 ne244a (by omega) (by omega) HP256) e256 b216 f258 (by rw [hml]; rfl) [] [] rfl (lenOf own_pd5 rfl) rfl 0 (Nat.le_of_eq rfl) (by decide) (by decide) (Nat.le_of_ble_eq_true rfl) (Nat.le_of_ble_eq_true rfl) (hb hby at_295) ?_
    intro T262 Lc262 v262 X262 hQ262
    obtain ⟨h262, e262⟩ : ∃ h, T262.heap = h := ⟨_, rfl⟩
    rw [e262] at hQ262
    obtain ⟨rfl, N262q, K262, ff262, FV262, FS262, AH262, HP262, hc262⟩ := hQ262
    have N262 := Fr.app N256 N262q
    have f263 := f257.keep K262 (ninS ne217 (ninS ne244r nin0))
    have f264 := f258.keep K262
    have Z262 := Nat.le_trans Z256 K262.1
    have hq3 := own_next ff256 ff262 1 1 _ [r214 3, r214 4] he2 hq2 hc262
    show own_Go _ _ _ _ (T262.setTop (mkF m 298 #[.val (.long q1), .second, .val (.long q2), .second, .val (.long q3), .second, .val (.long q4), .second, .val (.long q5), .second, .val (.int p6), .val (.int (4 : Int32)), .val (.int v12_2), .val (.ref b189), .val (.ref b216), .val (.int (1 : Int32))] [(.long (ff256 0))]))
    refine own_by (fun _ k => XS.aload X262.here hx rfl (hb hby at_298) rfl rfl k) ?_
    refine own_by (fun _ k => XS.iconst X262.here hx rfl (hb hby at_300) k) ?_
    show own_Go _ _ _ _ (T262.setTop (mkF m 301 #[.val (.long q1), .second, .val (.long q2), .second, .val (.long q3), .second, .val (.long q4), .second, .val (.long q5), .second, .val (.int p6), .val (.int (4 : Int32)), .val (.int v12_2), .val (.ref b189), .val (.ref b216), .val (.int (1 : Int32))] [(.int (2 : Int32)), (.ref b189), (.long (ff256 0))]))
    refine own_by (fun _ k => own_lal X262 hx hZ e262 f263 2 (by decide) (by decide) (hb hby at_301) k) ?_
    show own_Go _ _ _ _ (T262.setTop (mkF m 302 #[.val (.long q1), .second, .val (.long q2), .second, .val (.long q3), .second, .val (.long q4), .second, .val (.long q5), .second, .val (.int p6), .val (.int (4 : Int32)), .val (.int v12_2), .val (.ref b189), .val (.ref b216), .val (.int (1 : Int32))] [(.long (r214 2)), (.long (ff256 0))]))
    refine own_by (fun _ k => XS.lcmp X262.here hx rfl (hb hby at_302) rfl k) ?_
    show own_Go _ _ _ _ (T262.setTop (mkF m 303 #[.val (.long q1), .second, .val (.long q2), .second, .val (.long q3), .second, .val (.long q4), .second, .val (.long q5), .second, .val (.int p6), .val (.int (4 : Int32)), .val (.int v12_2), .val (.ref b189), .val (.ref b216), .val (.int (1 : Int32))] [(.int (lcmpW (ff256 0) (r214 2)))]))
    refine own_by (fun _ k => XS.ifNo X262.here hx rfl (hb hby at_303) rfl ((if0 _ _).trans (teq ((lw_eq _ _).mpr he2)).2) k) ?_
    refine own_by (fun _ k => XS.iconst X262.here hx rfl (hb hby at_306) k) ?_
    show own_Go _ _ _ _ (T262.setTop (mkF m 307 #[.val (.long q1), .second, .val (.long q2), .second, .val (.long q3), .second, .val (.long q4), .second, .val (.long q5), .second, .val (.int p6), .val (.int (4 : Int32)), .val (.int v12_2), .val (.ref b189), .val (.ref b216), .val (.int (1 : Int32))] [(.int (1 : Int32))]))
    refine own_by (fun _ k => XS.goto X262.here hx rfl (pc0 := 307) (pc' := 311) rfl (hb hby at_307) (by decide) (by decide) k) ?_
    refine own_by (fun _ k => XS.iload X262.here hx rfl (hb hby at_311) rfl k) ?_
    show own_Go _ _ _ _ (T262.setTop (mkF m 313 #[.val (.long q1), .second, .val (.long q2), .second, .val (.long q3), .second, .val (.long q4), .second, .val (.long q5), .second, .val (.int p6), .val (.int (4 : Int32)), .val (.int v12_2), .val (.ref b189), .val (.ref b216), .val (.int (1 : Int32))] [(.int (1 : Int32)), (.int (1 : Int32))]))
    refine own_by (fun _ k => XS.iand X262.here hx rfl (hb hby at_313) rfl k) ?_
    show own_Go _ _ _ _ (T262.setTop (mkF m 314 #[.val (.long q1), .second, .val (.long q2), .second, .val (.long q3), .second, .val (.long q4), .second, .val (.long q5), .second, .val (.int p6), .val (.int (4 : Int32)), .val (.int v12_2), .val (.ref b189), .val (.ref b216), .val (.int (1 : Int32))] [(.int ((1 : Int32) &&& (1 : Int32)))]))
    rw [(by decide : ((1 : Int32) &&& (1 : Int32)) = (1 : Int32))]
    show own_Go _ _ _ _ (T262.setTop (mkF m 314 #[.val (.long q1), .second, .val (.long q2), .second, .val (.long q3), .second, .val (.long q4), .second, .val (.long q5), .second, .val (.int p6), .val (.int (4 : Int32)), .val (.int v12_2), .val (.ref b189), .val (.ref b216), .val (.int (1 : Int32))] [(.int (1 : Int32))]))
    refine own_by (fun _ k => XS.istore X262.here hx rfl (hb hby at_314) rfl (l' := #[.val (.long q1), .second, .val (.long q2), .second, .val (.long q3), .second, .val (.long q4), .second, .val (.long q5), .second, .val (.int p6), .val (.int (4 : Int32)), .val (.int v12_2), .val (.ref b189), .val (.ref b216), .val (.int (1 : Int32))]) rfl k) ?_
    refine own_by (fun _ k => XS.iload X262.here hx rfl (hb hby at_316) rfl k) ?_
    refine own_by (fun _ k => XS.iconst X262.here hx rfl (hb hby at_318) k) ?_
    show own_Go _ _ _ _ (T262.setTop (mkF m 319 #[.val (.long q1), .second, .val (.long q2), .second, .val (.long q3), .second, .val (.long q4), .second, .val (.long q5), .second, .val (.int p6), .val (.int (4 : Int32)), .val (.int v12_2), .val (.ref b189), .val (.ref b216), .val (.int (1 : Int32))] [(.int (3 : Int32)), (.int (4 : Int32))]))
    refine own_by (fun _ k => XS.icmpNo X262.here hx rfl (hb hby at_319) rfl (tlt (by decide)).2.2.2 k) ?_
    refine own_by (fun _ k => XS.aload X262.here hx rfl (hb hby at_322) rfl rfl k) ?_
    show own_Go _ _ _ _ (T262.setTop (mkF m 324 #[.val (.long q1), .second, .val (.long q2), .second, .val (.long q3), .second, .val (.long q4), .second, .val (.long q5), .second, .val (.int p6), .val (.int (4 : Int32)), .val (.int v12_2), .val (.ref b189), .val (.ref b216), .val (.int (1 : Int32))] [(.ref b216)]))
    have he3 : ff262 0 = r214 3 := own_hd ff262 1 1 _ [r214 4] (by decide) (by decide) HP262 hsd.2.2.2 hq3
    refine own_callV X262 hx hZ hown (hw _ (List.mem_of_getElem? (i := 40) rfl)) (hw _ (List.mem_of_getElem? (i := 41) rfl)) (notFace_of_selects (args := #[]) (mvT hZ (hw _ (List.mem_of_getElem? (i := 43) rfl)))) (hw _ (List.mem_of_getElem? (i := 43) rfl)) (hw _ (List.mem_of_getElem? (i := 42) rfl)) (hw _ (List.mem_of_getElem? (i := 9) rfl)) (hw _ (List.mem_of_getElem? (i := 44) rfl)) (by decide) (rm8_1 l Z a0 hw [] b216 bb244 nn244 ff262 h262 n0 Z262 f264 FV262 FS262 AH262 ge216 gb244 ne244a (by omega) (by omega) HP262) e262 b216 f264 (by rw [hml]; rfl) [] [] rfl (lenOf own_pd5 rfl) rfl 0 (Nat.le_of_eq rfl) (by decide) (by decide) (Nat.le_of_ble_eq_true rfl) (Nat.le_of_ble_eq_true rfl) (hb hby at_324) ?_
    intro T268 Lc268 v268 X268 hQ268
    obtain ⟨h268, e268⟩ : ∃ h, T268.heap = h := ⟨_, rfl⟩
    rw [e268] at hQ268
    obtain ⟨rfl, N268q, K268, ff268, FV268, FS268, AH268, HP268, hc268⟩ := hQ268
    have N268 := Fr.app N262 N268q
    have f269 := f263.keep K268 (ninS ne217 (ninS ne244r nin0))
    have f270 := f264.keep K268
    have Z268 := Nat.le_trans Z262 K268.1
    have hq4 := own_next ff262 ff268 0 1 _ [r214 4] he3 hq3 hc268
    show own_Go _ _ _ _ (T268.setTop (mkF m 327 #[.val (.long q1), .second, .val (.long q2), .second, .val (.long q3), .second, .val (.long q4), .second, .val (.long q5), .second, .val (.int p6), .val (.int (4 : Int32)), .val (.int v12_2), .val (.ref b189), .val (.ref b216), .val (.int (1 : Int32))] [(.long (ff262 0))]))
    refine own_by (fun _ k => XS.aload X268.here hx rfl (hb hby at_327) rfl rfl k) ?_
    refine own_by (fun _ k => XS.iconst X268.here hx rfl (hb hby at_329) k) ?_
    show own_Go _ _ _ _ (T268.setTop (mkF m 330 #[.val (.long q1), .second, .val (.long q2), .second, .val (.long q3), .second, .val (.long q4), .second, .val (.long q5), .second, .val (.int p6), .val (.int (4 : Int32)), .val (.int v12_2), .val (.ref b189), .val (.ref b216), .val (.int (1 : Int32))] [(.int (3 : Int32)), (.ref b189), (.long (ff262 0))]))
    refine own_by (fun _ k => own_lal X268 hx hZ e268 f269 3 (by decide) (by decide) (hb hby at_330) k) ?_
    show own_Go _ _ _ _ (T268.setTop (mkF m 331 #[.val (.long q1), .second, .val (.long q2), .second, .val (.long q3), .second, .val (.long q4), .second, .val (.long q5), .second, .val (.int p6), .val (.int (4 : Int32)), .val (.int v12_2), .val (.ref b189), .val (.ref b216), .val (.int (1 : Int32))] [(.long (r214 3)), (.long (ff262 0))]))
    refine own_by (fun _ k => XS.lcmp X268.here hx rfl (hb hby at_331) rfl k) ?_
    show own_Go _ _ _ _ (T268.setTop (mkF m 332 #[.val (.long q1), .second, .val (.long q2), .second, .val (.long q3), .second, .val (.long q4), .second, .val (.long q5), .second, .val (.int p6), .val (.int (4 : Int32)), .val (.int v12_2), .val (.ref b189), .val (.ref b216), .val (.int (1 : Int32))] [(.int (lcmpW (ff262 0) (r214 3)))]))
    refine own_by (fun _ k => XS.ifNo X268.here hx rfl (hb hby at_332) rfl ((if0 _ _).trans (teq ((lw_eq _ _).mpr he3)).2) k) ?_
    refine own_by (fun _ k => XS.iconst X268.here hx rfl (hb hby at_335) k) ?_
    show own_Go _ _ _ _ (T268.setTop (mkF m 336 #[.val (.long q1), .second, .val (.long q2), .second, .val (.long q3), .second, .val (.long q4), .second, .val (.long q5), .second, .val (.int p6), .val (.int (4 : Int32)), .val (.int v12_2), .val (.ref b189), .val (.ref b216), .val (.int (1 : Int32))] [(.int (1 : Int32))]))
    refine own_by (fun _ k => XS.goto X268.here hx rfl (pc0 := 336) (pc' := 340) rfl (hb hby at_336) (by decide) (by decide) k) ?_
    refine own_by (fun _ k => XS.iload X268.here hx rfl (hb hby at_340) rfl k) ?_
    show own_Go _ _ _ _ (T268.setTop (mkF m 342 #[.val (.long q1), .second, .val (.long q2), .second, .val (.long q3), .second, .val (.long q4), .second, .val (.long q5), .second, .val (.int p6), .val (.int (4 : Int32)), .val (.int v12_2), .val (.ref b189), .val (.ref b216), .val (.int (1 : Int32))] [(.int (1 : Int32)), (.int (1 : Int32))]))
    refine own_by (fun _ k => XS.iand X268.here hx rfl (hb hby at_342) rfl k) ?_
    show own_Go _ _ _ _ (T268.setTop (mkF m 343 #[.val (.long q1), .second, .val (.long q2), .second, .val (.long q3), .second, .val (.long q4), .second, .val (.long q5), .second, .val (.int p6), .val (.int (4 : Int32)), .val (.int v12_2), .val (.ref b189), .val (.ref b216), .val (.int (1 : Int32))] [(.int ((1 : Int32) &&& (1 : Int32)))]))
    rw [(by decide : ((1 : Int32) &&& (1 : Int32)) = (1 : Int32))]
    show own_Go _ _ _ _ (T268.setTop (mkF m 343 #[.val (.long q1), .second, .val (.long q2), .second, .val (.long q3), .second, .val (.long q4), .second, .val (.long q5), .second, .val (.int p6), .val (.int (4 : Int32)), .val (.int v12_2), .val (.ref b189), .val (.ref b216), .val (.int (1 : Int32))] [(.int (1 : Int32))]))
    refine own_by (fun _ k => XS.istore X268.here hx rfl (hb hby at_343) rfl (l' := #[.val (.long q1), .second, .val (.long q2), .second, .val (.long q3), .second, .val (.long q4), .second, .val (.long q5), .second, .val (.int p6), .val (.int (4 : Int32)), .val (.int v12_2), .val (.ref b189), .val (.ref b216), .val (.int (1 : Int32))]) rfl k) ?_
    refine own_by (fun _ k => XS.iload X268.here hx rfl (hb hby at_345) rfl k) ?_
    refine own_by (fun _ k => XS.iconst X268.here hx rfl (hb hby at_347) k) ?_
    show own_Go _ _ _ _ (T268.setTop (mkF m 348 #[.val (.long q1), .second, .val (.long q2), .second, .val (.long q3), .second, .val (.long q4), .second, .val (.long q5), .second, .val (.int p6), .val (.int (4 : Int32)), .val (.int v12_2), .val (.ref b189), .val (.ref b216), .val (.int (1 : Int32))] [(.int (4 : Int32)), (.int (4 : Int32))]))
    refine own_by (fun _ k => XS.icmpYes X268.here hx rfl (pc0 := 348) (pc' := 374) rfl (hb hby at_348) rfl (flt (by decide)).2.2.2 (by decide) (by decide) k) ?_
    refine own_by (fun _ k => XS.iload X268.here hx rfl (hb hby at_374) rfl k) ?_
    show own_Go _ _ _ _ (T268.setTop (mkF m 376 #[.val (.long q1), .second, .val (.long q2), .second, .val (.long q3), .second, .val (.long q4), .second, .val (.long q5), .second, .val (.int p6), .val (.int (4 : Int32)), .val (.int v12_2), .val (.ref b189), .val (.ref b216), .val (.int (1 : Int32))] [(.int (1 : Int32))]))
    refine own_by (fun _ k => XS.ifNo X268.here hx rfl (hb hby at_376) rfl ((if0 _ _).trans (feq (by decide)).1) k) ?_
    refine own_by (fun _ k => XS.aload X268.here hx rfl (hb hby at_379) rfl rfl k) ?_
    show own_Go _ _ _ _ (T268.setTop (mkF m 381 #[.val (.long q1), .second, .val (.long q2), .second, .val (.long q3), .second, .val (.long q4), .second, .val (.long q5), .second, .val (.int p6), .val (.int (4 : Int32)), .val (.int v12_2), .val (.ref b189), .val (.ref b216), .val (.int (1 : Int32))] [(.ref b216)]))
    refine own_callV X268 hx hZ hown (hw _ (List.mem_of_getElem? (i := 45) rfl)) (hw _ (List.mem_of_getElem? (i := 46) rfl)) (notFace_of_selects (args := #[]) (mvT hZ (hw _ (List.mem_of_getElem? (i := 48) rfl)))) (hw _ (List.mem_of_getElem? (i := 48) rfl)) (hw _ (List.mem_of_getElem? (i := 47) rfl)) (hw _ (List.mem_of_getElem? (i := 9) rfl)) (hw _ (List.mem_of_getElem? (i := 49) rfl)) (by decide) (rm9 l Z a0 hw [] b216 h268 n0 Z268 FS268) e268 b216 f270 (by rw [hml]; rfl) [] [] rfl (lenOf own_pd6 rfl) rfl 0 (Nat.le_of_eq rfl) (by decide) (by decide) (Nat.le_of_ble_eq_true rfl) (Nat.le_of_ble_eq_true rfl) (hb hby at_381) ?_
    intro T274 Lc274 v274 X274 hQ274
    obtain ⟨rfl, N274q, e274⟩ := hQ274
    have N274 := Fr.app N268 N274q
    show own_Go _ _ _ _ (T274.setTop (mkF m 384 #[.val (.long q1), .second, .val (.long q2), .second, .val (.long q3), .second, .val (.long q4), .second, .val (.long q5), .second, .val (.int p6), .val (.int (4 : Int32)), .val (.int v12_2), .val (.ref b189), .val (.ref b216), .val (.int (1 : Int32))] [(.int (1 : Int32))]))
    refine own_by (fun _ k => XS.ifNo X274.here hx rfl (hb hby at_384) rfl ((if0 _ _).trans (feq (by decide)).1) k) ?_
    refine own_by (fun _ k => XS.iconst X274.here hx rfl (hb hby at_387) k) ?_
    show own_Go _ _ _ _ (T274.setTop (mkF m 388 #[.val (.long q1), .second, .val (.long q2), .second, .val (.long q3), .second, .val (.long q4), .second, .val (.long q5), .second, .val (.int p6), .val (.int (4 : Int32)), .val (.int v12_2), .val (.ref b189), .val (.ref b216), .val (.int (1 : Int32))] [(.int (1 : Int32))]))
    refine own_by (fun _ k => XS.goto X274.here hx rfl (pc0 := 388) (pc' := 392) rfl (hb hby at_388) (by decide) (by decide) k) ?_
    show own_Go _ _ _ _ (T274.setTop (mkF m 392 #[.val (.long q1), .second, .val (.long q2), .second, .val (.long q3), .second, .val (.long q4), .second, .val (.long q5), .second, .val (.int p6), .val (.int (4 : Int32)), .val (.int v12_2), .val (.ref b189), .val (.ref b216), .val (.int (1 : Int32))] [(.int (1 : Int32))]))
    exact own_retN X274 hx Bd.notSynchronized e274 Bd.returns (by simp) (hb hby at_392) (⟨rfl, N274⟩) (by decide) (by decide)
  · --
    refine own_by (fun _ k => XS.iconst X0.here hx rfl (hb hby at_19) k) ?_
    show own_Go _ _ _ _ (s₁.setTop (mkF m 20 #[.val (.long q1), .second, .val (.long q2), .second, .val (.long q3), .second, .val (.long q4), .second, .val (.long q5), .second, .val (.int p6), .val (.int (5 : Int32)), .val (.int v12_2), .unset, .unset, .unset] [(.int (5 : Int32))]))
    refine own_newP X0 hx hZ (hw _ (List.mem_of_getElem? (i := 1) rfl)) e0 5 (by decide) 5 (by decide) (by decide) (by decide) (by decide) (hb hby at_20) ?_
    intro T275 h275 X275 e275 E275 A275
    show own_Go _ _ _ _ (T275.setTop (mkF m 22 #[.val (.long q1), .second, .val (.long q2), .second, .val (.long q3), .second, .val (.long q4), .second, .val (.long q5), .second, .val (.int p6), .val (.int (5 : Int32)), .val (.int v12_2), .unset, .unset, .unset] [.ref h0.size]))
    obtain ⟨b275, g275⟩ : ∃ z, z = h0.size := ⟨_, rfl⟩
    rw [← g275] at A275
    refine own_gen g275.symm (fun z_ => T275.setTop (mkF m 22 #[.val (.long q1), .second, .val (.long q2), .second, .val (.long q3), .second, .val (.long q4), .second, .val (.long q5), .second, .val (.int p6), .val (.int (5 : Int32)), .val (.int v12_2), .unset, .unset, .unset] [.ref z_])) ?_
    have ge275 : n0 ≤ b275 := Nat.le_trans Z0 (Nat.le_of_eq g275.symm)
    have Z275 := Nat.le_trans Z0 E275.1
    have f276 : own_AJ Z h275 b275 5 (fun _ => 0) := A275
    show own_Go _ _ _ _ (T275.setTop (mkF m 22 #[.val (.long q1), .second, .val (.long q2), .second, .val (.long q3), .second, .val (.long q4), .second, .val (.long q5), .second, .val (.int p6), .val (.int (5 : Int32)), .val (.int v12_2), .unset, .unset, .unset] [(.ref b275)]))
    refine own_by (fun _ k => XS.astore X275.here hx rfl (hb hby at_22) rfl rfl (l' := #[.val (.long q1), .second, .val (.long q2), .second, .val (.long q3), .second, .val (.long q4), .second, .val (.long q5), .second, .val (.int p6), .val (.int (5 : Int32)), .val (.int v12_2), .val (.ref b275), .unset, .unset]) rfl k) ?_
    refine own_by (fun _ k => XS.aload X275.here hx rfl (hb hby at_24) rfl rfl k) ?_
    refine own_by (fun _ k => XS.iconst X275.here hx rfl (hb hby at_26) k) ?_
    show own_Go _ _ _ _ (T275.setTop (mkF m 27 #[.val (.long q1), .second, .val (.long q2), .second, .val (.long q3), .second, .val (.long q4), .second, .val (.long q5), .second, .val (.int p6), .val (.int (5 : Int32)), .val (.int v12_2), .val (.ref b275), .unset, .unset] [(.int (0 : Int32)), (.ref b275)]))
    refine own_by (fun _ k => XS.lloadN X275.here hx rfl (hb hby at_27) rfl k) ?_
    show own_Go _ _ _ _ (T275.setTop (mkF m 28 #[.val (.long q1), .second, .val (.long q2), .second, .val (.long q3), .second, .val (.long q4), .second, .val (.long q5), .second, .val (.int p6), .val (.int (5 : Int32)), .val (.int v12_2), .val (.ref b275), .unset, .unset] [(.long q1), (.int (0 : Int32)), (.ref b275)]))
    refine own_las X275 hx hZ e275 f276 0 (by decide) (by decide) (hb hby at_28) ?_
    intro T277 h277 X277 e277 W277 A277
    have N277 := Fr.snoc X277 N0 ge275
    have Z277 := own_size_wr W277 Z275
    obtain ⟨fn277, hfn277⟩ : ∃ g : Nat → Int64, g = own_upd (fun _ => 0) 0 q1 := ⟨_, rfl⟩
    rw [← hfn277] at A277
    show own_Go _ _ _ _ (T277.setTop (mkF m 29 #[.val (.long q1), .second, .val (.long q2), .second, .val (.long q3), .second, .val (.long q4), .second, .val (.long q5), .second, .val (.int p6), .val (.int (5 : Int32)), .val (.int v12_2), .val (.ref b275), .unset, .unset] []))
    refine own_by (fun _ k => XS.aload X277.here hx rfl (hb hby at_29) rfl rfl k) ?_
    refine own_by (fun _ k => XS.iconst X277.here hx rfl (hb hby at_31) k) ?_
    refine own_by (fun _ k => XS.iload X277.here hx rfl (hb hby at_32) rfl k) ?_
    show own_Go _ _ _ _ (T277.setTop (mkF m 34 #[.val (.long q1), .second, .val (.long q2), .second, .val (.long q3), .second, .val (.long q4), .second, .val (.long q5), .second, .val (.int p6), .val (.int (5 : Int32)), .val (.int v12_2), .val (.ref b275), .unset, .unset] [(.int (5 : Int32)), (.int (1 : Int32)), (.ref b275)]))
    refine own_by (fun _ k => XS.iconst X277.here hx rfl (hb hby at_34) k) ?_
    show own_Go _ _ _ _ (T277.setTop (mkF m 35 #[.val (.long q1), .second, .val (.long q2), .second, .val (.long q3), .second, .val (.long q4), .second, .val (.long q5), .second, .val (.int p6), .val (.int (5 : Int32)), .val (.int v12_2), .val (.ref b275), .unset, .unset] [(.int (1 : Int32)), (.int (5 : Int32)), (.int (1 : Int32)), (.ref b275)]))
    refine own_by (fun _ k => XS.icmpNo X277.here hx rfl (hb hby at_35) rfl (tlt (by decide)).2.2.2 k) ?_
    refine own_by (fun _ k => XS.lloadN X277.here hx rfl (hb hby at_38) rfl k) ?_
    show own_Go _ _ _ _ (T277.setTop (mkF m 39 #[.val (.long q1), .second, .val (.long q2), .second, .val (.long q3), .second, .val (.long q4), .second, .val (.long q5), .second, .val (.int p6), .val (.int (5 : Int32)), .val (.int v12_2), .val (.ref b275), .unset, .unset] [(.long q2), (.int (1 : Int32)), (.ref b275)]))
    refine own_by (fun _ k => XS.goto X277.here hx rfl (pc0 := 39) (pc' := 45) rfl (hb hby at_39) (by decide) (by decide) k) ?_
    show own_Go _ _ _ _ (T277.setTop (mkF m 45 #[.val (.long q1), .second, .val (.long q2), .second, .val (.long q3), .second, .val (.long q4), .second, .val (.long q5), .second, .val (.int p6), .val (.int (5 : Int32)), .val (.int v12_2), .val (.ref b275), .unset, .unset] [(.long q2), (.int (1 : Int32)), (.ref b275)]))
    refine own_las X277 hx hZ e277 A277 1 (by decide) (by decide) (hb hby at_45) ?_
    intro T278 h278 X278 e278 W278 A278
    have N278 := Fr.snoc X278 N277 ge275
    have Z278 := own_size_wr W278 Z277
    obtain ⟨fn278, hfn278⟩ : ∃ g : Nat → Int64, g = own_upd fn277 1 q2 := ⟨_, rfl⟩
    rw [← hfn278] at A278
    show own_Go _ _ _ _ (T278.setTop (mkF m 46 #[.val (.long q1), .second, .val (.long q2), .second, .val (.long q3), .second, .val (.long q4), .second, .val (.long q5), .second, .val (.int p6), .val (.int (5 : Int32)), .val (.int v12_2), .val (.ref b275), .unset, .unset] []))
    refine own_by (fun _ k => XS.aload X278.here hx rfl (hb hby at_46) rfl rfl k) ?_
    refine own_by (fun _ k => XS.iconst X278.here hx rfl (hb hby at_48) k) ?_
    refine own_by (fun _ k => XS.iload X278.here hx rfl (hb hby at_49) rfl k) ?_
    show own_Go _ _ _ _ (T278.setTop (mkF m 51 #[.val (.long q1), .second, .val (.long q2), .second, .val (.long q3), .second, .val (.long q4), .second, .val (.long q5), .second, .val (.int p6), .val (.int (5 : Int32)), .val (.int v12_2), .val (.ref b275), .unset, .unset] [(.int (5 : Int32)), (.int (2 : Int32)), (.ref b275)]))
    refine own_by (fun _ k => XS.iconst X278.here hx rfl (hb hby at_51) k) ?_
    show own_Go _ _ _ _ (T278.setTop (mkF m 52 #[.val (.long q1), .second, .val (.long q2), .second, .val (.long q3), .second, .val (.long q4), .second, .val (.long q5), .second, .val (.int p6), .val (.int (5 : Int32)), .val (.int v12_2), .val (.ref b275), .unset, .unset] [(.int (2 : Int32)), (.int (5 : Int32)), (.int (2 : Int32)), (.ref b275)]))
    refine own_by (fun _ k => XS.icmpNo X278.here hx rfl (hb hby at_52) rfl (tlt (by decide)).2.2.2 k) ?_
    refine own_by (fun _ k => XS.lload X278.here hx rfl (hb hby at_55) rfl k) ?_
    show own_Go _ _ _ _ (T278.setTop (mkF m 57 #[.val (.long q1), .second, .val (.long q2), .second, .val (.long q3), .second, .val (.long q4), .second, .val (.long q5), .second, .val (.int p6), .val (.int (5 : Int32)), .val (.int v12_2), .val (.ref b275), .unset, .unset] [(.long q3), (.int (2 : Int32)), (.ref b275)]))
    refine own_by (fun _ k => XS.goto X278.here hx rfl (pc0 := 57) (pc' := 63) rfl (hb hby at_57) (by decide) (by decide) k) ?_
    show own_Go _ _ _ _ (T278.setTop (mkF m 63 #[.val (.long q1), .second, .val (.long q2), .second, .val (.long q3), .second, .val (.long q4), .second, .val (.long q5), .second, .val (.int p6), .val (.int (5 : Int32)), .val (.int v12_2), .val (.ref b275), .unset, .unset] [(.long q3), (.int (2 : Int32)), (.ref b275)]))
    refine own_las X278 hx hZ e278 A278 2 (by decide) (by decide) (hb hby at_63) ?_
    intro T279 h279 X279 e279 W279 A279
    have N279 := Fr.snoc X279 N278 ge275
    have Z279 := own_size_wr W279 Z278
    obtain ⟨fn279, hfn279⟩ : ∃ g : Nat → Int64, g = own_upd fn278 2 q3 := ⟨_, rfl⟩
    rw [← hfn279] at A279
    show own_Go _ _ _ _ (T279.setTop (mkF m 64 #[.val (.long q1), .second, .val (.long q2), .second, .val (.long q3), .second, .val (.long q4), .second, .val (.long q5), .second, .val (.int p6), .val (.int (5 : Int32)), .val (.int v12_2), .val (.ref b275), .unset, .unset] []))
    refine own_by (fun _ k => XS.aload X279.here hx rfl (hb hby at_64) rfl rfl k) ?_
    refine own_by (fun _ k => XS.iconst X279.here hx rfl (hb hby at_66) k) ?_
    refine own_by (fun _ k => XS.iload X279.here hx rfl (hb hby at_67) rfl k) ?_
    show own_Go _ _ _ _ (T279.setTop (mkF m 69 #[.val (.long q1), .second, .val (.long q2), .second, .val (.long q3), .second, .val (.long q4), .second, .val (.long q5), .second, .val (.int p6), .val (.int (5 : Int32)), .val (.int v12_2), .val (.ref b275), .unset, .unset] [(.int (5 : Int32)), (.int (3 : Int32)), (.ref b275)]))
    refine own_by (fun _ k => XS.iconst X279.here hx rfl (hb hby at_69) k) ?_
    show own_Go _ _ _ _ (T279.setTop (mkF m 70 #[.val (.long q1), .second, .val (.long q2), .second, .val (.long q3), .second, .val (.long q4), .second, .val (.long q5), .second, .val (.int p6), .val (.int (5 : Int32)), .val (.int v12_2), .val (.ref b275), .unset, .unset] [(.int (3 : Int32)), (.int (5 : Int32)), (.int (3 : Int32)), (.ref b275)]))
    refine own_by (fun _ k => XS.icmpNo X279.here hx rfl (hb hby at_70) rfl (tlt (by decide)).2.2.2 k) ?_
    refine own_by (fun _ k => XS.lload X279.here hx rfl (hb hby at_73) rfl k) ?_
    show own_Go _ _ _ _ (T279.setTop (mkF m 75 #[.val (.long q1), .second, .val (.long q2), .second, .val (.long q3), .second, .val (.long q4), .second, .val (.long q5), .second, .val (.int p6), .val (.int (5 : Int32)), .val (.int v12_2), .val (.ref b275), .unset, .unset] [(.long q4), (.int (3 : Int32)), (.ref b275)]))
    refine own_by (fun _ k => XS.goto X279.here hx rfl (pc0 := 75) (pc' := 81) rfl (hb hby at_75) (by decide) (by decide) k) ?_
    show own_Go _ _ _ _ (T279.setTop (mkF m 81 #[.val (.long q1), .second, .val (.long q2), .second, .val (.long q3), .second, .val (.long q4), .second, .val (.long q5), .second, .val (.int p6), .val (.int (5 : Int32)), .val (.int v12_2), .val (.ref b275), .unset, .unset] [(.long q4), (.int (3 : Int32)), (.ref b275)]))
    refine own_las X279 hx hZ e279 A279 3 (by decide) (by decide) (hb hby at_81) ?_
    intro T280 h280 X280 e280 W280 A280
    have N280 := Fr.snoc X280 N279 ge275
    have Z280 := own_size_wr W280 Z279
    obtain ⟨fn280, hfn280⟩ : ∃ g : Nat → Int64, g = own_upd fn279 3 q4 := ⟨_, rfl⟩
    rw [← hfn280] at A280
    show own_Go _ _ _ _ (T280.setTop (mkF m 82 #[.val (.long q1), .second, .val (.long q2), .second, .val (.long q3), .second, .val (.long q4), .second, .val (.long q5), .second, .val (.int p6), .val (.int (5 : Int32)), .val (.int v12_2), .val (.ref b275), .unset, .unset] []))
    refine own_by (fun _ k => XS.aload X280.here hx rfl (hb hby at_82) rfl rfl k) ?_
    refine own_by (fun _ k => XS.iconst X280.here hx rfl (hb hby at_84) k) ?_
    refine own_by (fun _ k => XS.iload X280.here hx rfl (hb hby at_85) rfl k) ?_
    show own_Go _ _ _ _ (T280.setTop (mkF m 87 #[.val (.long q1), .second, .val (.long q2), .second, .val (.long q3), .second, .val (.long q4), .second, .val (.long q5), .second, .val (.int p6), .val (.int (5 : Int32)), .val (.int v12_2), .val (.ref b275), .unset, .unset] [(.int (5 : Int32)), (.int (4 : Int32)), (.ref b275)]))
    refine own_by (fun _ k => XS.iconst X280.here hx rfl (hb hby at_87) k) ?_
    show own_Go _ _ _ _ (T280.setTop (mkF m 88 #[.val (.long q1), .second, .val (.long q2), .second, .val (.long q3), .second, .val (.long q4), .second, .val (.long q5), .second, .val (.int p6), .val (.int (5 : Int32)), .val (.int v12_2), .val (.ref b275), .unset, .unset] [(.int (4 : Int32)), (.int (5 : Int32)), (.int (4 : Int32)), (.ref b275)]))
    refine own_by (fun _ k => XS.icmpNo X280.here hx rfl (hb hby at_88) rfl (tlt (by decide)).2.2.2 k) ?_
    refine own_by (fun _ k => XS.lload X280.here hx rfl (hb hby at_91) rfl k) ?_
    show own_Go _ _ _ _ (T280.setTop (mkF m 93 #[.val (.long q1), .second, .val (.long q2), .second, .val (.long q3), .second, .val (.long q4), .second, .val (.long q5), .second, .val (.int p6), .val (.int (5 : Int32)), .val (.int v12_2), .val (.ref b275), .unset, .unset] [(.long q5), (.int (4 : Int32)), (.ref b275)]))
    refine own_by (fun _ k => XS.goto X280.here hx rfl (pc0 := 93) (pc' := 99) rfl (hb hby at_93) (by decide) (by decide) k) ?_
    show own_Go _ _ _ _ (T280.setTop (mkF m 99 #[.val (.long q1), .second, .val (.long q2), .second, .val (.long q3), .second, .val (.long q4), .second, .val (.long q5), .second, .val (.int p6), .val (.int (5 : Int32)), .val (.int v12_2), .val (.ref b275), .unset, .unset] [(.long q5), (.int (4 : Int32)), (.ref b275)]))
    refine own_las X280 hx hZ e280 A280 4 (by decide) (by decide) (hb hby at_99) ?_
    intro T281 h281 X281 e281 W281 A281
    have N281 := Fr.snoc X281 N280 ge275
    have Z281 := own_size_wr W281 Z280
    obtain ⟨fn281, hfn281⟩ : ∃ g : Nat → Int64, g = own_upd fn280 4 q5 := ⟨_, rfl⟩
    rw [← hfn281] at A281
    obtain ⟨r0, hr0⟩ : ∃ g : Nat → Int64, g = fn281 := ⟨_, rfl⟩
    rw [← hr0] at A281
    have cr0 : ∀ x, own_cnt r0 x 5 = own_one q1 x + own_one q2 x + own_one q3 x + own_one q4 x + own_one q5 x := fun x => by rw [hr0]; simp [own_cnt, own_upd, hfn281, hfn280, hfn279, hfn278, hfn277]
    show own_Go _ _ _ _ (T281.setTop (mkF m 100 #[.val (.long q1), .second, .val (.long q2), .second, .val (.long q3), .second, .val (.long q4), .second, .val (.long q5), .second, .val (.int p6), .val (.int (5 : Int32)), .val (.int v12_2), .val (.ref b275), .unset, .unset] []))
    refine own_by (fun _ k => XS.aload X281.here hx rfl (hb hby at_100) rfl rfl k) ?_
    refine own_by (fun _ k => XS.iconst X281.here hx rfl (hb hby at_102) k) ?_
    refine own_by (fun _ k => XS.iconst X281.here hx rfl (hb hby at_103) k) ?_
    show own_Go _ _ _ _ (T281.setTop (mkF m 104 #[.val (.long q1), .second, .val (.long q2), .second, .val (.long q3), .second, .val (.long q4), .second, .val (.long q5), .second, .val (.int p6), .val (.int (5 : Int32)), .val (.int v12_2), .val (.ref b275), .unset, .unset] [(.int (1 : Int32)), (.int (0 : Int32)), (.ref b275)]))
    refine own_callS X281 hx hZ hown (hw _ (List.mem_of_getElem? (i := 3) rfl)) (hw _ (List.mem_of_getElem? (i := 4) rfl)) (hw _ (List.mem_of_getElem? (i := 5) rfl)) (hw _ (List.mem_of_getElem? (i := 6) rfl)) (by decide) (rm1 l Z a0 hw [] b275 (0 : Int32) (1 : Int32) 0 1 r0 h281 n0 Z281 A281 (by decide) (by decide) (by decide) (by decide) (by decide) ge275) e281 (by rw [hml]; rfl) [(.ref b275), (.int (0 : Int32)), (.int (1 : Int32))] [] rfl (lenOf own_pd0 rfl) rfl 0 (Nat.le_of_eq rfl) (by decide) (by decide) (Nat.le_of_ble_eq_true rfl) (Nat.le_of_ble_eq_true rfl) (hb hby at_104) ?_
    intro T282 Lc282 v282 X282 hQ282
    obtain ⟨h282, e282⟩ : ∃ h, T282.heap = h := ⟨_, rfl⟩
    rw [e282] at hQ282
    obtain ⟨rfl, N282q, K282, A282⟩ := hQ282
    have N282 := Fr.app N281 N282q
    have Z282 := Nat.le_trans Z281 K282.1
    obtain ⟨r282, hr282⟩ : ∃ g : Nat → Int64, g = own_cs r0 0 1 := ⟨_, rfl⟩
    rw [← hr282] at A282
    have cr282 : ∀ x, own_cnt r282 x 5 = own_one q1 x + own_one q2 x + own_one q3 x + own_one q4 x + own_one q5 x := fun x => by rw [hr282]; exact (own_cs_cnt r0 0 (by decide) x).trans (cr0 x)
    have dm282_1 : own_dom r282 1 := by rw [hr282]; exact own_dom_step r0 0 (own_dom0 r0)
    show own_Go _ _ _ _ (T282.setTop (mkF m 107 #[.val (.long q1), .second, .val (.long q2), .second, .val (.long q3), .second, .val (.long q4), .second, .val (.long q5), .second, .val (.int p6), .val (.int (5 : Int32)), .val (.int v12_2), .val (.ref b275), .unset, .unset] []))
    refine own_by (fun _ k => XS.aload X282.here hx rfl (hb hby at_107) rfl rfl k) ?_
    refine own_by (fun _ k => XS.iconst X282.here hx rfl (hb hby at_109) k) ?_
    refine own_by (fun _ k => XS.iconst X282.here hx rfl (hb hby at_110) k) ?_
    show own_Go _ _ _ _ (T282.setTop (mkF m 111 #[.val (.long q1), .second, .val (.long q2), .second, .val (.long q3), .second, .val (.long q4), .second, .val (.long q5), .second, .val (.int p6), .val (.int (5 : Int32)), .val (.int v12_2), .val (.ref b275), .unset, .unset] [(.int (2 : Int32)), (.int (1 : Int32)), (.ref b275)]))
    refine own_callS X282 hx hZ hown (hw _ (List.mem_of_getElem? (i := 3) rfl)) (hw _ (List.mem_of_getElem? (i := 4) rfl)) (hw _ (List.mem_of_getElem? (i := 5) rfl)) (hw _ (List.mem_of_getElem? (i := 6) rfl)) (by decide) (rm1 l Z a0 hw [] b275 (1 : Int32) (2 : Int32) 1 2 r282 h282 n0 Z282 A282 (by decide) (by decide) (by decide) (by decide) (by decide) ge275) e282 (by rw [hml]; rfl) [(.ref b275), (.int (1 : Int32)), (.int (2 : Int32))] [] rfl (lenOf own_pd0 rfl) rfl 0 (Nat.le_of_eq rfl) (by decide) (by decide) (Nat.le_of_ble_eq_true rfl) (Nat.le_of_ble_eq_true rfl) (hb hby at_111) ?_
    intro T284 Lc284 v284 X284 hQ284
    obtain ⟨h284, e284⟩ : ∃ h, T284.heap = h := ⟨_, rfl⟩
    rw [e284] at hQ284
    obtain ⟨rfl, N284q, K284, A284⟩ := hQ284
    have N284 := Fr.app N282 N284q
    have Z284 := Nat.le_trans Z282 K284.1
    obtain ⟨r284, hr284⟩ : ∃ g : Nat → Int64, g = own_cs r282 1 2 := ⟨_, rfl⟩
    rw [← hr284] at A284
    have cr284 : ∀ x, own_cnt r284 x 5 = own_one q1 x + own_one q2 x + own_one q3 x + own_one q4 x + own_one q5 x := fun x => by rw [hr284]; exact (own_cs_cnt r282 1 (by decide) x).trans (cr282 x)
    have dm284_2 : own_dom r284 2 := by rw [hr284]; exact own_dom_step r282 1 dm282_1
    show own_Go _ _ _ _ (T284.setTop (mkF m 114 #[.val (.long q1), .second, .val (.long q2), .second, .val (.long q3), .second, .val (.long q4), .second, .val (.long q5), .second, .val (.int p6), .val (.int (5 : Int32)), .val (.int v12_2), .val (.ref b275), .unset, .unset] []))
    refine own_by (fun _ k => XS.aload X284.here hx rfl (hb hby at_114) rfl rfl k) ?_
    refine own_by (fun _ k => XS.iconst X284.here hx rfl (hb hby at_116) k) ?_
    refine own_by (fun _ k => XS.iconst X284.here hx rfl (hb hby at_117) k) ?_
    show own_Go _ _ _ _ (T284.setTop (mkF m 118 #[.val (.long q1), .second, .val (.long q2), .second, .val (.long q3), .second, .val (.long q4), .second, .val (.long q5), .second, .val (.int p6), .val (.int (5 : Int32)), .val (.int v12_2), .val (.ref b275), .unset, .unset] [(.int (3 : Int32)), (.int (2 : Int32)), (.ref b275)]))
    refine own_callS X284 hx hZ hown (hw _ (List.mem_of_getElem? (i := 3) rfl)) (hw _ (List.mem_of_getElem? (i := 4) rfl)) (hw _ (List.mem_of_getElem? (i := 5) rfl)) (hw _ (List.mem_of_getElem? (i := 6) rfl)) (by decide) (rm1 l Z a0 hw [] b275 (2 : Int32) (3 : Int32) 2 3 r284 h284 n0 Z284 A284 (by decide) (by decide) (by decide) (by decide) (by decide) ge275) e284 (by rw [hml]; rfl) [(.ref b275), (.int (2 : Int32)), (.int (3 : Int32))] [] rfl (lenOf own_pd0 rfl) rfl 0 (Nat.le_of_eq rfl) (by decide) (by decide) (Nat.le_of_ble_eq_true rfl) (Nat.le_of_ble_eq_true rfl) (hb hby at_118) ?_
    intro T286 Lc286 v286 X286 hQ286
    obtain ⟨h286, e286⟩ : ∃ h, T286.heap = h := ⟨_, rfl⟩
    rw [e286] at hQ286
    obtain ⟨rfl, N286q, K286, A286⟩ := hQ286
    have N286 := Fr.app N284 N286q
    have Z286 := Nat.le_trans Z284 K286.1
    obtain ⟨r286, hr286⟩ : ∃ g : Nat → Int64, g = own_cs r284 2 3 := ⟨_, rfl⟩
    rw [← hr286] at A286
    have cr286 : ∀ x, own_cnt r286 x 5 = own_one q1 x + own_one q2 x + own_one q3 x + own_one q4 x + own_one q5 x := fun x => by rw [hr286]; exact (own_cs_cnt r284 2 (by decide) x).trans (cr284 x)
    have dm286_3 : own_dom r286 3 := by rw [hr286]; exact own_dom_step r284 2 dm284_2
    show own_Go _ _ _ _ (T286.setTop (mkF m 121 #[.val (.long q1), .second, .val (.long q2), .second, .val (.long q3), .second, .val (.long q4), .second, .val (.long q5), .second, .val (.int p6), .val (.int (5 : Int32)), .val (.int v12_2), .val (.ref b275), .unset, .unset] []))
    refine own_by (fun _ k => XS.aload X286.here hx rfl (hb hby at_121) rfl rfl k) ?_
    refine own_by (fun _ k => XS.iconst X286.here hx rfl (hb hby at_123) k) ?_
    refine own_by (fun _ k => XS.iconst X286.here hx rfl (hb hby at_124) k) ?_
    show own_Go _ _ _ _ (T286.setTop (mkF m 125 #[.val (.long q1), .second, .val (.long q2), .second, .val (.long q3), .second, .val (.long q4), .second, .val (.long q5), .second, .val (.int p6), .val (.int (5 : Int32)), .val (.int v12_2), .val (.ref b275), .unset, .unset] [(.int (4 : Int32)), (.int (3 : Int32)), (.ref b275)]))
    refine own_callS X286 hx hZ hown (hw _ (List.mem_of_getElem? (i := 3) rfl)) (hw _ (List.mem_of_getElem? (i := 4) rfl)) (hw _ (List.mem_of_getElem? (i := 5) rfl)) (hw _ (List.mem_of_getElem? (i := 6) rfl)) (by decide) (rm1 l Z a0 hw [] b275 (3 : Int32) (4 : Int32) 3 4 r286 h286 n0 Z286 A286 (by decide) (by decide) (by decide) (by decide) (by decide) ge275) e286 (by rw [hml]; rfl) [(.ref b275), (.int (3 : Int32)), (.int (4 : Int32))] [] rfl (lenOf own_pd0 rfl) rfl 0 (Nat.le_of_eq rfl) (by decide) (by decide) (Nat.le_of_ble_eq_true rfl) (Nat.le_of_ble_eq_true rfl) (hb hby at_125) ?_
    intro T288 Lc288 v288 X288 hQ288
    obtain ⟨h288, e288⟩ : ∃ h, T288.heap = h := ⟨_, rfl⟩
    rw [e288] at hQ288
    obtain ⟨rfl, N288q, K288, A288⟩ := hQ288
    have N288 := Fr.app N286 N288q
    have Z288 := Nat.le_trans Z286 K288.1
    obtain ⟨r288, hr288⟩ : ∃ g : Nat → Int64, g = own_cs r286 3 4 := ⟨_, rfl⟩
    rw [← hr288] at A288
    have cr288 : ∀ x, own_cnt r288 x 5 = own_one q1 x + own_one q2 x + own_one q3 x + own_one q4 x + own_one q5 x := fun x => by rw [hr288]; exact (own_cs_cnt r286 3 (by decide) x).trans (cr286 x)
    have dm288_4 : own_dom r288 4 := by rw [hr288]; exact own_dom_step r286 3 dm286_3
    show own_Go _ _ _ _ (T288.setTop (mkF m 128 #[.val (.long q1), .second, .val (.long q2), .second, .val (.long q3), .second, .val (.long q4), .second, .val (.long q5), .second, .val (.int p6), .val (.int (5 : Int32)), .val (.int v12_2), .val (.ref b275), .unset, .unset] []))
    refine own_by (fun _ k => XS.aload X288.here hx rfl (hb hby at_128) rfl rfl k) ?_
    refine own_by (fun _ k => XS.iconst X288.here hx rfl (hb hby at_130) k) ?_
    refine own_by (fun _ k => XS.iconst X288.here hx rfl (hb hby at_131) k) ?_
    show own_Go _ _ _ _ (T288.setTop (mkF m 132 #[.val (.long q1), .second, .val (.long q2), .second, .val (.long q3), .second, .val (.long q4), .second, .val (.long q5), .second, .val (.int p6), .val (.int (5 : Int32)), .val (.int v12_2), .val (.ref b275), .unset, .unset] [(.int (1 : Int32)), (.int (0 : Int32)), (.ref b275)]))
    refine own_callS X288 hx hZ hown (hw _ (List.mem_of_getElem? (i := 3) rfl)) (hw _ (List.mem_of_getElem? (i := 4) rfl)) (hw _ (List.mem_of_getElem? (i := 5) rfl)) (hw _ (List.mem_of_getElem? (i := 6) rfl)) (by decide) (rm1 l Z a0 hw [] b275 (0 : Int32) (1 : Int32) 0 1 r288 h288 n0 Z288 A288 (by decide) (by decide) (by decide) (by decide) (by decide) ge275) e288 (by rw [hml]; rfl) [(.ref b275), (.int (0 : Int32)), (.int (1 : Int32))] [] rfl (lenOf own_pd0 rfl) rfl 0 (Nat.le_of_eq rfl) (by decide) (by decide) (Nat.le_of_ble_eq_true rfl) (Nat.le_of_ble_eq_true rfl) (hb hby at_132) ?_
    intro T290 Lc290 v290 X290 hQ290
    obtain ⟨h290, e290⟩ : ∃ h, T290.heap = h := ⟨_, rfl⟩
    rw [e290] at hQ290
    obtain ⟨rfl, N290q, K290, A290⟩ := hQ290
    have N290 := Fr.app N288 N290q
    have Z290 := Nat.le_trans Z288 K290.1
    obtain ⟨r290, hr290⟩ : ∃ g : Nat → Int64, g = own_cs r288 0 1 := ⟨_, rfl⟩
    rw [← hr290] at A290
    have cr290 : ∀ x, own_cnt r290 x 5 = own_one q1 x + own_one q2 x + own_one q3 x + own_one q4 x + own_one q5 x := fun x => by rw [hr290]; exact (own_cs_cnt r288 0 (by decide) x).trans (cr288 x)
    have dm290_4 : own_dom r290 4 := by rw [hr290]; exact own_dom_keep r288 0 4 (by decide) dm288_4
    have dm290_1 : own_dom r290 1 := by rw [hr290]; exact own_dom_step r288 0 (own_dom0 r288)
    show own_Go _ _ _ _ (T290.setTop (mkF m 135 #[.val (.long q1), .second, .val (.long q2), .second, .val (.long q3), .second, .val (.long q4), .second, .val (.long q5), .second, .val (.int p6), .val (.int (5 : Int32)), .val (.int v12_2), .val (.ref b275), .unset, .unset] []))
    refine own_by (fun _ k => XS.aload X290.here hx rfl (hb hby at_135) rfl rfl k) ?_
    refine own_by (fun _ k => XS.iconst X290.here hx rfl (hb hby at_137) k) ?_
    refine own_by (fun _ k => XS.iconst X290.here hx rfl (hb hby at_138) k) ?_
    show own_Go _ _ _ _ (T290.setTop (mkF m 139 #[.val (.long q1), .second, .val (.long q2), .second, .val (.long q3), .second, .val (.long q4), .second, .val (.long q5), .second, .val (.int p6), .val (.int (5 : Int32)), .val (.int v12_2), .val (.ref b275), .unset, .unset] [(.int (2 : Int32)), (.int (1 : Int32)), (.ref b275)]))
    refine own_callS X290 hx hZ hown (hw _ (List.mem_of_getElem? (i := 3) rfl)) (hw _ (List.mem_of_getElem? (i := 4) rfl)) (hw _ (List.mem_of_getElem? (i := 5) rfl)) (hw _ (List.mem_of_getElem? (i := 6) rfl)) (by decide) (rm1 l Z a0 hw [] b275 (1 : Int32) (2 : Int32) 1 2 r290 h290 n0 Z290 A290 (by decide) (by decide) (by decide) (by decide) (by decide) ge275) e290 (by rw [hml]; rfl) [(.ref b275), (.int (1 : Int32)), (.int (2 : Int32))] [] rfl (lenOf own_pd0 rfl) rfl 0 (Nat.le_of_eq rfl) (by decide) (by decide) (Nat.le_of_ble_eq_true rfl) (Nat.le_of_ble_eq_true rfl) (hb hby at_139) ?_
    intro T292 Lc292 v292 X292 hQ292
    obtain ⟨h292, e292⟩ : ∃ h, T292.heap = h := ⟨_, rfl⟩
    rw [e292] at hQ292
    obtain ⟨rfl, N292q, K292, A292⟩ := hQ292
    have N292 := Fr.app N290 N292q
    have Z292 := Nat.le_trans Z290 K292.1
    obtain ⟨r292, hr292⟩ : ∃ g : Nat → Int64, g = own_cs r290 1 2 := ⟨_, rfl⟩
    rw [← hr292] at A292
    have cr292 : ∀ x, own_cnt r292 x 5 = own_one q1 x + own_one q2 x + own_one q3 x + own_one q4 x + own_one q5 x := fun x => by rw [hr292]; exact (own_cs_cnt r290 1 (by decide) x).trans (cr290 x)
    have dm292_4 : own_dom r292 4 := by rw [hr292]; exact own_dom_keep r290 1 4 (by decide) dm290_4
    have dm292_2 : own_dom r292 2 := by rw [hr292]; exact own_dom_step r290 1 dm290_1
    show own_Go _ _ _ _ (T292.setTop (mkF m 142 #[.val (.long q1), .second, .val (.long q2), .second, .val (.long q3), .second, .val (.long q4), .second, .val (.long q5), .second, .val (.int p6), .val (.int (5 : Int32)), .val (.int v12_2), .val (.ref b275), .unset, .unset] []))
    refine own_by (fun _ k => XS.aload X292.here hx rfl (hb hby at_142) rfl rfl k) ?_
    refine own_by (fun _ k => XS.iconst X292.here hx rfl (hb hby at_144) k) ?_
    refine own_by (fun _ k => XS.iconst X292.here hx rfl (hb hby at_145) k) ?_
    show own_Go _ _ _ _ (T292.setTop (mkF m 146 #[.val (.long q1), .second, .val (.long q2), .second, .val (.long q3), .second, .val (.long q4), .second, .val (.long q5), .second, .val (.int p6), .val (.int (5 : Int32)), .val (.int v12_2), .val (.ref b275), .unset, .unset] [(.int (3 : Int32)), (.int (2 : Int32)), (.ref b275)]))
    refine own_callS X292 hx hZ hown (hw _ (List.mem_of_getElem? (i := 3) rfl)) (hw _ (List.mem_of_getElem? (i := 4) rfl)) (hw _ (List.mem_of_getElem? (i := 5) rfl)) (hw _ (List.mem_of_getElem? (i := 6) rfl)) (by decide) (rm1 l Z a0 hw [] b275 (2 : Int32) (3 : Int32) 2 3 r292 h292 n0 Z292 A292 (by decide) (by decide) (by decide) (by decide) (by decide) ge275) e292 (by rw [hml]; rfl) [(.ref b275), (.int (2 : Int32)), (.int (3 : Int32))] [] rfl (lenOf own_pd0 rfl) rfl 0 (Nat.le_of_eq rfl) (by decide) (by decide) (Nat.le_of_ble_eq_true rfl) (Nat.le_of_ble_eq_true rfl) (hb hby at_146) ?_
    intro T294 Lc294 v294 X294 hQ294
    obtain ⟨h294, e294⟩ : ∃ h, T294.heap = h := ⟨_, rfl⟩
    rw [e294] at hQ294
    obtain ⟨rfl, N294q, K294, A294⟩ := hQ294
    have N294 := Fr.app N292 N294q
    have Z294 := Nat.le_trans Z292 K294.1
    obtain ⟨r294, hr294⟩ : ∃ g : Nat → Int64, g = own_cs r292 2 3 := ⟨_, rfl⟩
    rw [← hr294] at A294
    have cr294 : ∀ x, own_cnt r294 x 5 = own_one q1 x + own_one q2 x + own_one q3 x + own_one q4 x + own_one q5 x := fun x => by rw [hr294]; exact (own_cs_cnt r292 2 (by decide) x).trans (cr292 x)
    have dm294_4 : own_dom r294 4 := by rw [hr294]; exact own_dom_keep r292 2 4 (by decide) dm292_4
    have dm294_3 : own_dom r294 3 := by rw [hr294]; exact own_dom_step r292 2 dm292_2
    show own_Go _ _ _ _ (T294.setTop (mkF m 149 #[.val (.long q1), .second, .val (.long q2), .second, .val (.long q3), .second, .val (.long q4), .second, .val (.long q5), .second, .val (.int p6), .val (.int (5 : Int32)), .val (.int v12_2), .val (.ref b275), .unset, .unset] []))
    refine own_by (fun _ k => XS.aload X294.here hx rfl (hb hby at_149) rfl rfl k) ?_
    refine own_by (fun _ k => XS.iconst X294.here hx rfl (hb hby at_151) k) ?_
    refine own_by (fun _ k => XS.iconst X294.here hx rfl (hb hby at_152) k) ?_
    show own_Go _ _ _ _ (T294.setTop (mkF m 153 #[.val (.long q1), .second, .val (.long q2), .second, .val (.long q3), .second, .val (.long q4), .second, .val (.long q5), .second, .val (.int p6), .val (.int (5 : Int32)), .val (.int v12_2), .val (.ref b275), .unset, .unset] [(.int (1 : Int32)), (.int (0 : Int32)), (.ref b275)]))
    refine own_callS X294 hx hZ hown (hw _ (List.mem_of_getElem? (i := 3) rfl)) (hw _ (List.mem_of_getElem? (i := 4) rfl)) (hw _ (List.mem_of_getElem? (i := 5) rfl)) (hw _ (List.mem_of_getElem? (i := 6) rfl)) (by decide) (rm1 l Z a0 hw [] b275 (0 : Int32) (1 : Int32) 0 1 r294 h294 n0 Z294 A294 (by decide) (by decide) (by decide) (by decide) (by decide) ge275) e294 (by rw [hml]; rfl) [(.ref b275), (.int (0 : Int32)), (.int (1 : Int32))] [] rfl (lenOf own_pd0 rfl) rfl 0 (Nat.le_of_eq rfl) (by decide) (by decide) (Nat.le_of_ble_eq_true rfl) (Nat.le_of_ble_eq_true rfl) (hb hby at_153) ?_
    intro T296 Lc296 v296 X296 hQ296
    obtain ⟨h296, e296⟩ : ∃ h, T296.heap = h := ⟨_, rfl⟩
    rw [e296] at hQ296
    obtain ⟨rfl, N296q, K296, A296⟩ := hQ296
    have N296 := Fr.app N294 N296q
    have Z296 := Nat.le_trans Z294 K296.1
    obtain ⟨r296, hr296⟩ : ∃ g : Nat → Int64, g = own_cs r294 0 1 := ⟨_, rfl⟩
    rw [← hr296] at A296
    have cr296 : ∀ x, own_cnt r296 x 5 = own_one q1 x + own_one q2 x + own_one q3 x + own_one q4 x + own_one q5 x := fun x => by rw [hr296]; exact (own_cs_cnt r294 0 (by decide) x).trans (cr294 x)
    have dm296_4 : own_dom r296 4 := by rw [hr296]; exact own_dom_keep r294 0 4 (by decide) dm294_4
    have dm296_3 : own_dom r296 3 := by rw [hr296]; exact own_dom_keep r294 0 3 (by decide) dm294_3
    have dm296_1 : own_dom r296 1 := by rw [hr296]; exact own_dom_step r294 0 (own_dom0 r294)
    show own_Go _ _ _ _ (T296.setTop (mkF m 156 #[.val (.long q1), .second, .val (.long q2), .second, .val (.long q3), .second, .val (.long q4), .second, .val (.long q5), .second, .val (.int p6), .val (.int (5 : Int32)), .val (.int v12_2), .val (.ref b275), .unset, .unset] []))
    refine own_by (fun _ k => XS.aload X296.here hx rfl (hb hby at_156) rfl rfl k) ?_
    refine own_by (fun _ k => XS.iconst X296.here hx rfl (hb hby at_158) k) ?_
    refine own_by (fun _ k => XS.iconst X296.here hx rfl (hb hby at_159) k) ?_
    show own_Go _ _ _ _ (T296.setTop (mkF m 160 #[.val (.long q1), .second, .val (.long q2), .second, .val (.long q3), .second, .val (.long q4), .second, .val (.long q5), .second, .val (.int p6), .val (.int (5 : Int32)), .val (.int v12_2), .val (.ref b275), .unset, .unset] [(.int (2 : Int32)), (.int (1 : Int32)), (.ref b275)]))
    refine own_callS X296 hx hZ hown (hw _ (List.mem_of_getElem? (i := 3) rfl)) (hw _ (List.mem_of_getElem? (i := 4) rfl)) (hw _ (List.mem_of_getElem? (i := 5) rfl)) (hw _ (List.mem_of_getElem? (i := 6) rfl)) (by decide) (rm1 l Z a0 hw [] b275 (1 : Int32) (2 : Int32) 1 2 r296 h296 n0 Z296 A296 (by decide) (by decide) (by decide) (by decide) (by decide) ge275) e296 (by rw [hml]; rfl) [(.ref b275), (.int (1 : Int32)), (.int (2 : Int32))] [] rfl (lenOf own_pd0 rfl) rfl 0 (Nat.le_of_eq rfl) (by decide) (by decide) (Nat.le_of_ble_eq_true rfl) (Nat.le_of_ble_eq_true rfl) (hb hby at_160) ?_
    intro T298 Lc298 v298 X298 hQ298
    obtain ⟨h298, e298⟩ : ∃ h, T298.heap = h := ⟨_, rfl⟩
    rw [e298] at hQ298
    obtain ⟨rfl, N298q, K298, A298⟩ := hQ298
    have N298 := Fr.app N296 N298q
    have Z298 := Nat.le_trans Z296 K298.1
    obtain ⟨r298, hr298⟩ : ∃ g : Nat → Int64, g = own_cs r296 1 2 := ⟨_, rfl⟩
    rw [← hr298] at A298
    have cr298 : ∀ x, own_cnt r298 x 5 = own_one q1 x + own_one q2 x + own_one q3 x + own_one q4 x + own_one q5 x := fun x => by rw [hr298]; exact (own_cs_cnt r296 1 (by decide) x).trans (cr296 x)
    have dm298_4 : own_dom r298 4 := by rw [hr298]; exact own_dom_keep r296 1 4 (by decide) dm296_4
    have dm298_3 : own_dom r298 3 := by rw [hr298]; exact own_dom_keep r296 1 3 (by decide) dm296_3
    have dm298_2 : own_dom r298 2 := by rw [hr298]; exact own_dom_step r296 1 dm296_1
    show own_Go _ _ _ _ (T298.setTop (mkF m 163 #[.val (.long q1), .second, .val (.long q2), .second, .val (.long q3), .second, .val (.long q4), .second, .val (.long q5), .second, .val (.int p6), .val (.int (5 : Int32)), .val (.int v12_2), .val (.ref b275), .unset, .unset] []))
    refine own_by (fun _ k => XS.aload X298.here hx rfl (hb hby at_163) rfl rfl k) ?_
    refine own_by (fun _ k => XS.iconst X298.here hx rfl (hb hby at_165) k) ?_
    refine own_by (fun _ k => XS.iconst X298.here hx rfl (hb hby at_166) k) ?_
    show own_Go _ _ _ _ (T298.setTop (mkF m 167 #[.val (.long q1), .second, .val (.long q2), .second, .val (.long q3), .second, .val (.long q4), .second, .val (.long q5), .second, .val (.int p6), .val (.int (5 : Int32)), .val (.int v12_2), .val (.ref b275), .unset, .unset] [(.int (1 : Int32)), (.int (0 : Int32)), (.ref b275)]))
    refine own_callS X298 hx hZ hown (hw _ (List.mem_of_getElem? (i := 3) rfl)) (hw _ (List.mem_of_getElem? (i := 4) rfl)) (hw _ (List.mem_of_getElem? (i := 5) rfl)) (hw _ (List.mem_of_getElem? (i := 6) rfl)) (by decide) (rm1 l Z a0 hw [] b275 (0 : Int32) (1 : Int32) 0 1 r298 h298 n0 Z298 A298 (by decide) (by decide) (by decide) (by decide) (by decide) ge275) e298 (by rw [hml]; rfl) [(.ref b275), (.int (0 : Int32)), (.int (1 : Int32))] [] rfl (lenOf own_pd0 rfl) rfl 0 (Nat.le_of_eq rfl) (by decide) (by decide) (Nat.le_of_ble_eq_true rfl) (Nat.le_of_ble_eq_true rfl) (hb hby at_167) ?_
    intro T300 Lc300 v300 X300 hQ300
    obtain ⟨h300, e300⟩ : ∃ h, T300.heap = h := ⟨_, rfl⟩
    rw [e300] at hQ300
    obtain ⟨rfl, N300q, K300, A300⟩ := hQ300
    have N300 := Fr.app N298 N300q
    have Z300 := Nat.le_trans Z298 K300.1
    obtain ⟨r300, hr300⟩ : ∃ g : Nat → Int64, g = own_cs r298 0 1 := ⟨_, rfl⟩
    rw [← hr300] at A300
    have cr300 : ∀ x, own_cnt r300 x 5 = own_one q1 x + own_one q2 x + own_one q3 x + own_one q4 x + own_one q5 x := fun x => by rw [hr300]; exact (own_cs_cnt r298 0 (by decide) x).trans (cr298 x)
    have dm300_4 : own_dom r300 4 := by rw [hr300]; exact own_dom_keep r298 0 4 (by decide) dm298_4
    have dm300_3 : own_dom r300 3 := by rw [hr300]; exact own_dom_keep r298 0 3 (by decide) dm298_3
    have dm300_2 : own_dom r300 2 := by rw [hr300]; exact own_dom_keep r298 0 2 (by decide) dm298_2
    have dm300_1 : own_dom r300 1 := by rw [hr300]; exact own_dom_step r298 0 (own_dom0 r298)
    have hsd : own_sd [r300 0, r300 1, r300 2, r300 3, r300 4] := by
      have s01 := dm300_1 0 (by decide)
      have s02 := dm300_2 0 (by decide)
      have s03 := dm300_3 0 (by decide)
      have s04 := dm300_4 0 (by decide)
      have s12 := dm300_2 1 (by decide)
      have s13 := dm300_3 1 (by decide)
      have s14 := dm300_4 1 (by decide)
      have s23 := dm300_3 2 (by decide)
      have s24 := dm300_4 2 (by decide)
      have s34 := dm300_4 3 (by decide)
      simp [own_sd, s01, s02, s03, s04, s12, s13, s14, s23, s24, s34]
    have hrl : ∀ x, own_cl x [r300 0, r300 1, r300 2, r300 3, r300 4] = own_one q1 x + own_one q2 x + own_one q3 x + own_one q4 x + own_one q5 x := fun x => by have q := cr300 x; simp [own_cnt] at q; simp [own_cl]; omega
    show own_Go _ _ _ _ (T300.setTop (mkF m 170 #[.val (.long q1), .second, .val (.long q2), .second, .val (.long q3), .second, .val (.long q4), .second, .val (.long q5), .second, .val (.int p6), .val (.int (5 : Int32)), .val (.int v12_2), .val (.ref b275), .unset, .unset] []))
    obtain ⟨T302, h302, X302, e302, E302, A302, D302, -, st302⟩ := newO X300 hx hZ hown (hw _ (List.mem_of_getElem? (i := 7) rfl)) (hw _ (List.mem_of_getElem? (i := 8) rfl)) (hw _ (List.mem_of_getElem? (i := 9) rfl)) e300 (g := (mkF m 170 #[.val (.long q1), .second, .val (.long q2), .second, .val (.long q3), .second, .val (.long q4), .second, .val (.long q5), .second, .val (.int p6), .val (.int (5 : Int32)), .val (.int v12_2), .val (.ref b275), .unset, .unset] [])) rfl (hb hby at_170) (by decide) (by decide)
    refine own_by st302 ?_
    show own_Go _ _ _ _ (T302.setTop (mkF m 173 #[.val (.long q1), .second, .val (.long q2), .second, .val (.long q3), .second, .val (.long q4), .second, .val (.long q5), .second, .val (.int p6), .val (.int (5 : Int32)), .val (.int v12_2), .val (.ref b275), .unset, .unset] [.ref h300.size]))
    obtain ⟨b302, g302⟩ : ∃ z, z = h300.size := ⟨_, rfl⟩
    rw [← g302] at A302 D302
    refine own_gen g302.symm (fun z_ => T302.setTop (mkF m 173 #[.val (.long q1), .second, .val (.long q2), .second, .val (.long q3), .second, .val (.long q4), .second, .val (.long q5), .second, .val (.int p6), .val (.int (5 : Int32)), .val (.int v12_2), .val (.ref b275), .unset, .unset] [.ref z_])) ?_
    have ne303 : b275 ≠ b302 := Nat.ne_of_lt (Nat.lt_of_lt_of_le A300.lt (Nat.le_of_eq g302.symm))
    have ge302 : n0 ≤ b302 := Nat.le_trans Z300 (Nat.le_of_eq g302.symm)
    have f304 := A300.ext E302
    have Z302 := Nat.le_trans Z300 E302.1
    have f305 : Fld Z h302 b302 "com/example/libmakespan/libmakespan/planners/LongHeap" "values" "[J" .null := D302 (Or.inl (hw _ (List.mem_of_getElem? (i := 21) rfl))) (ty := (.array .long)) (by decide)
    have f306 : Fld Z h302 b302 "com/example/libmakespan/libmakespan/planners/LongHeap" "size" "I" (.int (0 : Int32)) := D302 (Or.inl (hw _ (List.mem_of_getElem? (i := 28) rfl))) (ty := .int) (by decide)
    show own_Go _ _ _ _ (T302.setTop (mkF m 173 #[.val (.long q1), .second, .val (.long q2), .second, .val (.long q3), .second, .val (.long q4), .second, .val (.long q5), .second, .val (.int p6), .val (.int (5 : Int32)), .val (.int v12_2), .val (.ref b275), .unset, .unset] [(.ref b302)]))
    refine own_by (fun _ k => XS.dup X302.here hx rfl (hb hby at_173) rfl rfl k) ?_
    refine own_by (fun _ k => XS.iload X302.here hx rfl (hb hby at_174) rfl k) ?_
    show own_Go _ _ _ _ (T302.setTop (mkF m 176 #[.val (.long q1), .second, .val (.long q2), .second, .val (.long q3), .second, .val (.long q4), .second, .val (.long q5), .second, .val (.int p6), .val (.int (5 : Int32)), .val (.int v12_2), .val (.ref b275), .unset, .unset] [(.int v12_2), (.ref b302), (.ref b302)]))
    refine own_callI X302 hx hZ hown rfl (hw _ (List.mem_of_getElem? (i := 10) rfl)) (hw _ (List.mem_of_getElem? (i := 11) rfl)) (hw _ (List.mem_of_getElem? (i := 9) rfl)) (hw _ (List.mem_of_getElem? (i := 12) rfl)) (by decide) (rm2 l Z a0 hw [] b302 v12_2 h302 n0 Z302 A302 f305 f306 ge302 hp12) e302 (by rw [hml]; rfl) b302 [(.int v12_2)] [(.ref b302)] rfl (lenOf own_pd1 rfl) rfl 1 (Nat.le_of_eq rfl) (by decide) (by decide) (Nat.le_of_ble_eq_true rfl) (Nat.le_of_ble_eq_true rfl) (hb hby at_176) ?_
    intro T307 Lc307 v307 X307 hQ307
    obtain ⟨h307, e307⟩ : ∃ h, T307.heap = h := ⟨_, rfl⟩
    rw [e307] at hQ307
    obtain ⟨rfl, N307q, K307, bb307, nn307, h1307, h3307, FV307, FS307, AH307, gb307, nw307⟩ := hQ307
    have N307 := Fr.app N300 N307q
    have f308 := f304.keep K307 (ninS ne303 nin0)
    have f309 := A302.keep K307
    have Z307 := Nat.le_trans Z302 K307.1
    have ne307a : b302 ≠ bb307 := Nat.ne_of_lt (Nat.lt_of_lt_of_le A302.lt nw307)
    have ne307r : b275 ≠ bb307 := Nat.ne_of_lt (Nat.lt_of_lt_of_le f304.lt nw307)
    have hc307 : ∀ x, own_cnt (fun _ => (0 : Int64)) x 0 = 0 := fun _ => rfl
    have HP307 : own_hp (fun _ => 0) 0 := ⟨fun q => by omega, fun q => by omega, fun q => by omega, fun q => by omega⟩
    show own_Go _ _ _ _ (T307.setTop (mkF m 179 #[.val (.long q1), .second, .val (.long q2), .second, .val (.long q3), .second, .val (.long q4), .second, .val (.long q5), .second, .val (.int p6), .val (.int (5 : Int32)), .val (.int v12_2), .val (.ref b275), .unset, .unset] [(.ref b302)]))
    refine own_by (fun _ k => XS.astore X307.here hx rfl (hb hby at_179) rfl rfl (l' := #[.val (.long q1), .second, .val (.long q2), .second, .val (.long q3), .second, .val (.long q4), .second, .val (.long q5), .second, .val (.int p6), .val (.int (5 : Int32)), .val (.int v12_2), .val (.ref b275), .val (.ref b302), .unset]) rfl k) ?_
    refine own_by (fun _ k => XS.aload X307.here hx rfl (hb hby at_181) rfl rfl k) ?_
    refine own_by (fun _ k => XS.lloadN X307.here hx rfl (hb hby at_183) rfl k) ?_
    show own_Go _ _ _ _ (T307.setTop (mkF m 184 #[.val (.long q1), .second, .val (.long q2), .second, .val (.long q3), .second, .val (.long q4), .second, .val (.long q5), .second, .val (.int p6), .val (.int (5 : Int32)), .val (.int v12_2), .val (.ref b275), .val (.ref b302), .unset] [(.long q1), (.ref b302)]))
    refine own_callV X307 hx hZ hown (hw _ (List.mem_of_getElem? (i := 22) rfl)) (hw _ (List.mem_of_getElem? (i := 23) rfl)) (notFace_of_selects (args := #[]) (mvT hZ (hw _ (List.mem_of_getElem? (i := 25) rfl)))) (hw _ (List.mem_of_getElem? (i := 25) rfl)) (hw _ (List.mem_of_getElem? (i := 24) rfl)) (hw _ (List.mem_of_getElem? (i := 9) rfl)) (hw _ (List.mem_of_getElem? (i := 26) rfl)) (by decide) (rm5_0 l Z a0 hw [] b302 q1 bb307 nn307 (fun _ => 0) h307 n0 Z307 f309 FV307 FS307 AH307 ge302 gb307 ne307a (by omega) (by omega) HP307) e307 b302 f309 (by rw [hml]; rfl) [(.long q1)] [] rfl (lenOf own_pd3 rfl) rfl 0 (Nat.le_of_eq rfl) (by decide) (by decide) (Nat.le_of_ble_eq_true rfl) (Nat.le_of_ble_eq_true rfl) (hb hby at_184) ?_
    intro T312 Lc312 v312 X312 hQ312
    obtain ⟨h312, e312⟩ : ∃ h, T312.heap = h := ⟨_, rfl⟩
    rw [e312] at hQ312
    obtain ⟨rfl, N312q, K312, bb312, nn312, ff312, h1312, h8312, FV312, FS312, AH312, gb312, ho312, HP312, hc312⟩ := hQ312
    have N312 := Fr.app N307 N312q
    have f313 := f308.keep K312 (ninS ne303 (ninS ne307r nin0))
    have f314 := f309.keep K312
    have Z312 := Nat.le_trans Z307 K312.1
    have ne312a : b302 ≠ bb312 := ho312.elim (fun q => by rw [q]; exact ne307a) (fun q => Nat.ne_of_lt (Nat.lt_of_lt_of_le f309.lt q))
    have ne312r : b275 ≠ bb312 := ho312.elim (fun q => by rw [q]; exact ne307r) (fun q => Nat.ne_of_lt (Nat.lt_of_lt_of_le f308.lt q))
    have hd312 : ∀ x, own_cnt ff312 x 1 = own_one q1 x := fun x => by have q := hc312 x; have q' := hc307 x; omega
    show own_Go _ _ _ _ (T312.setTop (mkF m 187 #[.val (.long q1), .second, .val (.long q2), .second, .val (.long q3), .second, .val (.long q4), .second, .val (.long q5), .second, .val (.int p6), .val (.int (5 : Int32)), .val (.int v12_2), .val (.ref b275), .val (.ref b302), .unset] []))
    refine own_by (fun _ k => XS.iload X312.here hx rfl (hb hby at_187) rfl k) ?_
    refine own_by (fun _ k => XS.iconst X312.here hx rfl (hb hby at_189) k) ?_
    show own_Go _ _ _ _ (T312.setTop (mkF m 190 #[.val (.long q1), .second, .val (.long q2), .second, .val (.long q3), .second, .val (.long q4), .second, .val (.long q5), .second, .val (.int p6), .val (.int (5 : Int32)), .val (.int v12_2), .val (.ref b275), .val (.ref b302), .unset] [(.int (1 : Int32)), (.int (5 : Int32))]))
    refine own_by (fun _ k => XS.icmpNo X312.here hx rfl (hb hby at_190) rfl (tlt (by decide)).2.2.2 k) ?_
    refine own_by (fun _ k => XS.aload X312.here hx rfl (hb hby at_193) rfl rfl k) ?_
    refine own_by (fun _ k => XS.lloadN X312.here hx rfl (hb hby at_195) rfl k) ?_
    show own_Go _ _ _ _ (T312.setTop (mkF m 196 #[.val (.long q1), .second, .val (.long q2), .second, .val (.long q3), .second, .val (.long q4), .second, .val (.long q5), .second, .val (.int p6), .val (.int (5 : Int32)), .val (.int v12_2), .val (.ref b275), .val (.ref b302), .unset] [(.long q2), (.ref b302)]))
    refine own_callV X312 hx hZ hown (hw _ (List.mem_of_getElem? (i := 22) rfl)) (hw _ (List.mem_of_getElem? (i := 23) rfl)) (notFace_of_selects (args := #[]) (mvT hZ (hw _ (List.mem_of_getElem? (i := 25) rfl)))) (hw _ (List.mem_of_getElem? (i := 25) rfl)) (hw _ (List.mem_of_getElem? (i := 24) rfl)) (hw _ (List.mem_of_getElem? (i := 9) rfl)) (hw _ (List.mem_of_getElem? (i := 26) rfl)) (by decide) (rm5_1 l Z a0 hw [] b302 q2 bb312 nn312 ff312 h312 n0 Z312 f314 FV312 FS312 AH312 ge302 gb312 ne312a (by omega) (by omega) HP312) e312 b302 f314 (by rw [hml]; rfl) [(.long q2)] [] rfl (lenOf own_pd3 rfl) rfl 0 (Nat.le_of_eq rfl) (by decide) (by decide) (Nat.le_of_ble_eq_true rfl) (Nat.le_of_ble_eq_true rfl) (hb hby at_196) ?_
    intro T318 Lc318 v318 X318 hQ318
    obtain ⟨h318, e318⟩ : ∃ h, T318.heap = h := ⟨_, rfl⟩
    rw [e318] at hQ318
    obtain ⟨rfl, N318q, K318, bb318, nn318, ff318, h1318, h8318, FV318, FS318, AH318, gb318, ho318, HP318, hc318⟩ := hQ318
    have N318 := Fr.app N312 N318q
    have f319 := f313.keep K318 (ninS ne303 (ninS ne312r nin0))
    have f320 := f314.keep K318
    have Z318 := Nat.le_trans Z312 K318.1
    have ne318a : b302 ≠ bb318 := ho318.elim (fun q => by rw [q]; exact ne312a) (fun q => Nat.ne_of_lt (Nat.lt_of_lt_of_le f314.lt q))
    have ne318r : b275 ≠ bb318 := ho318.elim (fun q => by rw [q]; exact ne312r) (fun q => Nat.ne_of_lt (Nat.lt_of_lt_of_le f313.lt q))
    have hd318 : ∀ x, own_cnt ff318 x 2 = own_one q1 x + own_one q2 x := fun x => by have q := hc318 x; have q' := hd312 x; omega
    show own_Go _ _ _ _ (T318.setTop (mkF m 199 #[.val (.long q1), .second, .val (.long q2), .second, .val (.long q3), .second, .val (.long q4), .second, .val (.long q5), .second, .val (.int p6), .val (.int (5 : Int32)), .val (.int v12_2), .val (.ref b275), .val (.ref b302), .unset] []))
    refine own_by (fun _ k => XS.iload X318.here hx rfl (hb hby at_199) rfl k) ?_
    refine own_by (fun _ k => XS.iconst X318.here hx rfl (hb hby at_201) k) ?_
    show own_Go _ _ _ _ (T318.setTop (mkF m 202 #[.val (.long q1), .second, .val (.long q2), .second, .val (.long q3), .second, .val (.long q4), .second, .val (.long q5), .second, .val (.int p6), .val (.int (5 : Int32)), .val (.int v12_2), .val (.ref b275), .val (.ref b302), .unset] [(.int (2 : Int32)), (.int (5 : Int32))]))
    refine own_by (fun _ k => XS.icmpNo X318.here hx rfl (hb hby at_202) rfl (tlt (by decide)).2.2.2 k) ?_
    refine own_by (fun _ k => XS.aload X318.here hx rfl (hb hby at_205) rfl rfl k) ?_
    refine own_by (fun _ k => XS.lload X318.here hx rfl (hb hby at_207) rfl k) ?_
    show own_Go _ _ _ _ (T318.setTop (mkF m 209 #[.val (.long q1), .second, .val (.long q2), .second, .val (.long q3), .second, .val (.long q4), .second, .val (.long q5), .second, .val (.int p6), .val (.int (5 : Int32)), .val (.int v12_2), .val (.ref b275), .val (.ref b302), .unset] [(.long q3), (.ref b302)]))
    refine own_callV X318 hx hZ hown (hw _ (List.mem_of_getElem? (i := 22) rfl)) (hw _ (List.mem_of_getElem? (i := 23) rfl)) (notFace_of_selects (args := #[]) (mvT hZ (hw _ (List.mem_of_getElem? (i := 25) rfl)))) (hw _ (List.mem_of_getElem? (i := 25) rfl)) (hw _ (List.mem_of_getElem? (i := 24) rfl)) (hw _ (List.mem_of_getElem? (i := 9) rfl)) (hw _ (List.mem_of_getElem? (i := 26) rfl)) (by decide) (rm5_2 l Z a0 hw [] b302 q3 bb318 nn318 ff318 h318 n0 Z318 f320 FV318 FS318 AH318 ge302 gb318 ne318a (by omega) (by omega) HP318) e318 b302 f320 (by rw [hml]; rfl) [(.long q3)] [] rfl (lenOf own_pd3 rfl) rfl 0 (Nat.le_of_eq rfl) (by decide) (by decide) (Nat.le_of_ble_eq_true rfl) (Nat.le_of_ble_eq_true rfl) (hb hby at_209) ?_
    intro T324 Lc324 v324 X324 hQ324
    obtain ⟨h324, e324⟩ : ∃ h, T324.heap = h := ⟨_, rfl⟩
    rw [e324] at hQ324
    obtain ⟨rfl, N324q, K324, bb324, nn324, ff324, h1324, h8324, FV324, FS324, AH324, gb324, ho324, HP324, hc324⟩ := hQ324
    have N324 := Fr.app N318 N324q
    have f325 := f319.keep K324 (ninS ne303 (ninS ne318r nin0))
    have f326 := f320.keep K324
    have Z324 := Nat.le_trans Z318 K324.1
    have ne324a : b302 ≠ bb324 := ho324.elim (fun q => by rw [q]; exact ne318a) (fun q => Nat.ne_of_lt (Nat.lt_of_lt_of_le f320.lt q))
    have ne324r : b275 ≠ bb324 := ho324.elim (fun q => by rw [q]; exact ne318r) (fun q => Nat.ne_of_lt (Nat.lt_of_lt_of_le f319.lt q))
    have hd324 : ∀ x, own_cnt ff324 x 3 = own_one q1 x + own_one q2 x + own_one q3 x := fun x => by have q := hc324 x; have q' := hd318 x; omega
    show own_Go _ _ _ _ (T324.setTop (mkF m 212 #[.val (.long q1), .second, .val (.long q2), .second, .val (.long q3), .second, .val (.long q4), .second, .val (.long q5), .second, .val (.int p6), .val (.int (5 : Int32)), .val (.int v12_2), .val (.ref b275), .val (.ref b302), .unset] []))
    refine own_by (fun _ k => XS.iload X324.here hx rfl (hb hby at_212) rfl k) ?_
    refine own_by (fun _ k => XS.iconst X324.here hx rfl (hb hby at_214) k) ?_
    show own_Go _ _ _ _ (T324.setTop (mkF m 215 #[.val (.long q1), .second, .val (.long q2), .second, .val (.long q3), .second, .val (.long q4), .second, .val (.long q5), .second, .val (.int p6), .val (.int (5 : Int32)), .val (.int v12_2), .val (.ref b275), .val (.ref b302), .unset] [(.int (3 : Int32)), (.int (5 : Int32))]))
    refine own_by (fun _ k => XS.icmpNo X324.here hx rfl (hb hby at_215) rfl (tlt (by decide)).2.2.2 k) ?_
    refine own_by (fun _ k => XS.aload X324.here hx rfl (hb hby at_218) rfl rfl k) ?_
    refine own_by (fun _ k => XS.lload X324.here hx rfl (hb hby at_220) rfl k) ?_
    show own_Go _ _ _ _ (T324.setTop (mkF m 222 #[.val (.long q1), .second, .val (.long q2), .second, .val (.long q3), .second, .val (.long q4), .second, .val (.long q5), .second, .val (.int p6), .val (.int (5 : Int32)), .val (.int v12_2), .val (.ref b275), .val (.ref b302), .unset] [(.long q4), (.ref b302)]))
    refine own_callV X324 hx hZ hown (hw _ (List.mem_of_getElem? (i := 22) rfl)) (hw _ (List.mem_of_getElem? (i := 23) rfl)) (notFace_of_selects (args := #[]) (mvT hZ (hw _ (List.mem_of_getElem? (i := 25) rfl)))) (hw _ (List.mem_of_getElem? (i := 25) rfl)) (hw _ (List.mem_of_getElem? (i := 24) rfl)) (hw _ (List.mem_of_getElem? (i := 9) rfl)) (hw _ (List.mem_of_getElem? (i := 26) rfl)) (by decide) (rm5_3 l Z a0 hw [] b302 q4 bb324 nn324 ff324 h324 n0 Z324 f326 FV324 FS324 AH324 ge302 gb324 ne324a (by omega) (by omega) HP324) e324 b302 f326 (by rw [hml]; rfl) [(.long q4)] [] rfl (lenOf own_pd3 rfl) rfl 0 (Nat.le_of_eq rfl) (by decide) (by decide) (Nat.le_of_ble_eq_true rfl) (Nat.le_of_ble_eq_true rfl) (hb hby at_222) ?_
    intro T330 Lc330 v330 X330 hQ330
    obtain ⟨h330, e330⟩ : ∃ h, T330.heap = h := ⟨_, rfl⟩
    rw [e330] at hQ330
    obtain ⟨rfl, N330q, K330, bb330, nn330, ff330, h1330, h8330, FV330, FS330, AH330, gb330, ho330, HP330, hc330⟩ := hQ330
    have N330 := Fr.app N324 N330q
    have f331 := f325.keep K330 (ninS ne303 (ninS ne324r nin0))
    have f332 := f326.keep K330
    have Z330 := Nat.le_trans Z324 K330.1
    have ne330a : b302 ≠ bb330 := ho330.elim (fun q => by rw [q]; exact ne324a) (fun q => Nat.ne_of_lt (Nat.lt_of_lt_of_le f326.lt q))
    have ne330r : b275 ≠ bb330 := ho330.elim (fun q => by rw [q]; exact ne324r) (fun q => Nat.ne_of_lt (Nat.lt_of_lt_of_le f325.lt q))
    have hd330 : ∀ x, own_cnt ff330 x 4 = own_one q1 x + own_one q2 x + own_one q3 x + own_one q4 x := fun x => by have q := hc330 x; have q' := hd324 x; omega
    show own_Go _ _ _ _ (T330.setTop (mkF m 225 #[.val (.long q1), .second, .val (.long q2), .second, .val (.long q3), .second, .val (.long q4), .second, .val (.long q5), .second, .val (.int p6), .val (.int (5 : Int32)), .val (.int v12_2), .val (.ref b275), .val (.ref b302), .unset] []))
    refine own_by (fun _ k => XS.iload X330.here hx rfl (hb hby at_225) rfl k) ?_
    refine own_by (fun _ k => XS.iconst X330.here hx rfl (hb hby at_227) k) ?_
    show own_Go _ _ _ _ (T330.setTop (mkF m 228 #[.val (.long q1), .second, .val (.long q2), .second, .val (.long q3), .second, .val (.long q4), .second, .val (.long q5), .second, .val (.int p6), .val (.int (5 : Int32)), .val (.int v12_2), .val (.ref b275), .val (.ref b302), .unset] [(.int (4 : Int32)), (.int (5 : Int32))]))
    refine own_by (fun _ k => XS.icmpNo X330.here hx rfl (hb hby at_228) rfl (tlt (by decide)).2.2.2 k) ?_
    refine own_by (fun _ k => XS.aload X330.here hx rfl (hb hby at_231) rfl rfl k) ?_
    refine own_by (fun _ k => XS.lload X330.here hx rfl (hb hby at_233) rfl k) ?_
    show own_Go _ _ _ _ (T330.setTop (mkF m 235 #[.val (.long q1), .second, .val (.long q2), .second, .val (.long q3), .second, .val (.long q4), .second, .val (.long q5), .second, .val (.int p6), .val (.int (5 : Int32)), .val (.int v12_2), .val (.ref b275), .val (.ref b302), .unset] [(.long q5), (.ref b302)]))
    refine own_callV X330 hx hZ hown (hw _ (List.mem_of_getElem? (i := 22) rfl)) (hw _ (List.mem_of_getElem? (i := 23) rfl)) (notFace_of_selects (args := #[]) (mvT hZ (hw _ (List.mem_of_getElem? (i := 25) rfl)))) (hw _ (List.mem_of_getElem? (i := 25) rfl)) (hw _ (List.mem_of_getElem? (i := 24) rfl)) (hw _ (List.mem_of_getElem? (i := 9) rfl)) (hw _ (List.mem_of_getElem? (i := 26) rfl)) (by decide) (rm5_4 l Z a0 hw [] b302 q5 bb330 nn330 ff330 h330 n0 Z330 f332 FV330 FS330 AH330 ge302 gb330 ne330a (by omega) (by omega) HP330) e330 b302 f332 (by rw [hml]; rfl) [(.long q5)] [] rfl (lenOf own_pd3 rfl) rfl 0 (Nat.le_of_eq rfl) (by decide) (by decide) (Nat.le_of_ble_eq_true rfl) (Nat.le_of_ble_eq_true rfl) (hb hby at_235) ?_
    intro T336 Lc336 v336 X336 hQ336
    obtain ⟨h336, e336⟩ : ∃ h, T336.heap = h := ⟨_, rfl⟩
    rw [e336] at hQ336
    obtain ⟨rfl, N336q, K336, bb336, nn336, ff336, h1336, h8336, FV336, FS336, AH336, gb336, ho336, HP336, hc336⟩ := hQ336
    have N336 := Fr.app N330 N336q
    have f337 := f331.keep K336 (ninS ne303 (ninS ne330r nin0))
    have f338 := f332.keep K336
    have Z336 := Nat.le_trans Z330 K336.1
    have ne336a : b302 ≠ bb336 := ho336.elim (fun q => by rw [q]; exact ne330a) (fun q => Nat.ne_of_lt (Nat.lt_of_lt_of_le f332.lt q))
    have ne336r : b275 ≠ bb336 := ho336.elim (fun q => by rw [q]; exact ne330r) (fun q => Nat.ne_of_lt (Nat.lt_of_lt_of_le f331.lt q))
    have hd336 : ∀ x, own_cnt ff336 x 5 = own_one q1 x + own_one q2 x + own_one q3 x + own_one q4 x + own_one q5 x := fun x => by have q := hc336 x; have q' := hd330 x; omega
    have hq0 : ∀ x, own_cnt ff336 x 5 + 0 * own_one 9223372036854775807 x = own_cl x [r300 0, r300 1, r300 2, r300 3, r300 4] := fun x => by rw [hd336 x, hrl x]; omega
    show own_Go _ _ _ _ (T336.setTop (mkF m 238 #[.val (.long q1), .second, .val (.long q2), .second, .val (.long q3), .second, .val (.long q4), .second, .val (.long q5), .second, .val (.int p6), .val (.int (5 : Int32)), .val (.int v12_2), .val (.ref b275), .val (.ref b302), .unset] []))
    refine own_by (fun _ k => XS.aload X336.here hx rfl (hb hby at_238) rfl rfl k) ?_
    show own_Go _ _ _ _ (T336.setTop (mkF m 240 #[.val (.long q1), .second, .val (.long q2), .second, .val (.long q3), .second, .val (.long q4), .second, .val (.long q5), .second, .val (.int p6), .val (.int (5 : Int32)), .val (.int v12_2), .val (.ref b275), .val (.ref b302), .unset] [(.ref b302)]))
    have he0 : ff336 0 = r300 0 := own_hd ff336 5 0 _ [r300 1, r300 2, r300 3, r300 4] (by decide) (by decide) HP336 hsd hq0
    refine own_callV X336 hx hZ hown (hw _ (List.mem_of_getElem? (i := 40) rfl)) (hw _ (List.mem_of_getElem? (i := 41) rfl)) (notFace_of_selects (args := #[]) (mvT hZ (hw _ (List.mem_of_getElem? (i := 43) rfl)))) (hw _ (List.mem_of_getElem? (i := 43) rfl)) (hw _ (List.mem_of_getElem? (i := 42) rfl)) (hw _ (List.mem_of_getElem? (i := 9) rfl)) (hw _ (List.mem_of_getElem? (i := 44) rfl)) (by decide) (rm8_5 l Z a0 hw [] b302 bb336 nn336 ff336 h336 n0 Z336 f338 FV336 FS336 AH336 ge302 gb336 ne336a (by omega) (by omega) HP336) e336 b302 f338 (by rw [hml]; rfl) [] [] rfl (lenOf own_pd5 rfl) rfl 0 (Nat.le_of_eq rfl) (by decide) (by decide) (Nat.le_of_ble_eq_true rfl) (Nat.le_of_ble_eq_true rfl) (hb hby at_240) ?_
    intro T342 Lc342 v342 X342 hQ342
    obtain ⟨h342, e342⟩ : ∃ h, T342.heap = h := ⟨_, rfl⟩
    rw [e342] at hQ342
    obtain ⟨rfl, N342q, K342, ff342, FV342, FS342, AH342, HP342, hc342⟩ := hQ342
    have N342 := Fr.app N336 N342q
    have f343 := f337.keep K342 (ninS ne303 (ninS ne336r nin0))
    have f344 := f338.keep K342
    have Z342 := Nat.le_trans Z336 K342.1
    have hq1 := own_next ff336 ff342 4 0 _ [r300 1, r300 2, r300 3, r300 4] he0 hq0 hc342
    show own_Go _ _ _ _ (T342.setTop (mkF m 243 #[.val (.long q1), .second, .val (.long q2), .second, .val (.long q3), .second, .val (.long q4), .second, .val (.long q5), .second, .val (.int p6), .val (.int (5 : Int32)), .val (.int v12_2), .val (.ref b275), .val (.ref b302), .unset] [(.long (ff336 0))]))
    refine own_by (fun _ k => XS.aload X342.here hx rfl (hb hby at_243) rfl rfl k) ?_
    refine own_by (fun _ k => XS.iconst X342.here hx rfl (hb hby at_245) k) ?_
    show own_Go _ _ _ _ (T342.setTop (mkF m 246 #[.val (.long q1), .second, .val (.long q2), .second, .val (.long q3), .second, .val (.long q4), .second, .val (.long q5), .second, .val (.int p6), .val (.int (5 : Int32)), .val (.int v12_2), .val (.ref b275), .val (.ref b302), .unset] [(.int (0 : Int32)), (.ref b275), (.long (ff336 0))]))
    refine own_by (fun _ k => own_lal X342 hx hZ e342 f343 0 (by decide) (by decide) (hb hby at_246) k) ?_
    show own_Go _ _ _ _ (T342.setTop (mkF m 247 #[.val (.long q1), .second, .val (.long q2), .second, .val (.long q3), .second, .val (.long q4), .second, .val (.long q5), .second, .val (.int p6), .val (.int (5 : Int32)), .val (.int v12_2), .val (.ref b275), .val (.ref b302), .unset] [(.long (r300 0)), (.long (ff336 0))]))
    refine own_by (fun _ k => XS.lcmp X342.here hx rfl (hb hby at_247) rfl k) ?_
    show own_Go _ _ _ _ (T342.setTop (mkF m 248 #[.val (.long q1), .second, .val (.long q2), .second, .val (.long q3), .second, .val (.long q4), .second, .val (.long q5), .second, .val (.int p6), .val (.int (5 : Int32)), .val (.int v12_2), .val (.ref b275), .val (.ref b302), .unset] [(.int (lcmpW (ff336 0) (r300 0)))]))
    refine own_by (fun _ k => XS.ifNo X342.here hx rfl (hb hby at_248) rfl ((if0 _ _).trans (teq ((lw_eq _ _).mpr he0)).2) k) ?_
    refine own_by (fun _ k => XS.iconst X342.here hx rfl (hb hby at_251) k) ?_
    show own_Go _ _ _ _ (T342.setTop (mkF m 252 #[.val (.long q1), .second, .val (.long q2), .second, .val (.long q3), .second, .val (.long q4), .second, .val (.long q5), .second, .val (.int p6), .val (.int (5 : Int32)), .val (.int v12_2), .val (.ref b275), .val (.ref b302), .unset] [(.int (1 : Int32))]))
    refine own_by (fun _ k => XS.goto X342.here hx rfl (pc0 := 252) (pc' := 256) rfl (hb hby at_252) (by decide) (by decide) k) ?_
    show own_Go _ _ _ _ (T342.setTop (mkF m 256 #[.val (.long q1), .second, .val (.long q2), .second, .val (.long q3), .second, .val (.long q4), .second, .val (.long q5), .second, .val (.int p6), .val (.int (5 : Int32)), .val (.int v12_2), .val (.ref b275), .val (.ref b302), .unset] [(.int (1 : Int32))]))
    refine own_by (fun _ k => XS.istore X342.here hx rfl (hb hby at_256) rfl (l' := #[.val (.long q1), .second, .val (.long q2), .second, .val (.long q3), .second, .val (.long q4), .second, .val (.long q5), .second, .val (.int p6), .val (.int (5 : Int32)), .val (.int v12_2), .val (.ref b275), .val (.ref b302), .val (.int (1 : Int32))]) rfl k) ?_
    refine own_by (fun _ k => XS.iload X342.here hx rfl (hb hby at_258) rfl k) ?_
    refine own_by (fun _ k => XS.iconst X342.here hx rfl (hb hby at_260) k) ?_
    show own_Go _ _ _ _ (T342.setTop (mkF m 261 #[.val (.long q1), .second, .val (.long q2), .second, .val (.long q3), .second, .val (.long q4), .second, .val (.long q5), .second, .val (.int p6), .val (.int (5 : Int32)), .val (.int v12_2), .val (.ref b275), .val (.ref b302), .val (.int (1 : Int32))] [(.int (1 : Int32)), (.int (5 : Int32))]))
    refine own_by (fun _ k => XS.icmpNo X342.here hx rfl (hb hby at_261) rfl (tlt (by decide)).2.2.2 k) ?_
    refine own_by (fun _ k => XS.aload X342.here hx rfl (hb hby at_264) rfl rfl k) ?_
    show own_Go _ _ _ _ (T342.setTop (mkF m 266 #[.val (.long q1), .second, .val (.long q2), .second, .val (.long q3), .second, .val (.long q4), .second, .val (.long q5), .second, .val (.int p6), .val (.int (5 : Int32)), .val (.int v12_2), .val (.ref b275), .val (.ref b302), .val (.int (1 : Int32))] [(.ref b302)]))
    have he1 : ff342 0 = r300 1 := own_hd ff342 4 0 _ [r300 2, r300 3, r300 4] (by decide) (by decide) HP342 hsd.2 hq1
    refine own_callV X342 hx hZ hown (hw _ (List.mem_of_getElem? (i := 40) rfl)) (hw _ (List.mem_of_getElem? (i := 41) rfl)) (notFace_of_selects (args := #[]) (mvT hZ (hw _ (List.mem_of_getElem? (i := 43) rfl)))) (hw _ (List.mem_of_getElem? (i := 43) rfl)) (hw _ (List.mem_of_getElem? (i := 42) rfl)) (hw _ (List.mem_of_getElem? (i := 9) rfl)) (hw _ (List.mem_of_getElem? (i := 44) rfl)) (by decide) (rm8_4 l Z a0 hw [] b302 bb336 nn336 ff342 h342 n0 Z342 f344 FV342 FS342 AH342 ge302 gb336 ne336a (by omega) (by omega) HP342) e342 b302 f344 (by rw [hml]; rfl) [] [] rfl (lenOf own_pd5 rfl) rfl 0 (Nat.le_of_eq rfl) (by decide) (by decide) (Nat.le_of_ble_eq_true rfl) (Nat.le_of_ble_eq_true rfl) (hb hby at_266) ?_
    intro T348 Lc348 v348 X348 hQ348
    obtain ⟨h348, e348⟩ : ∃ h, T348.heap = h := ⟨_, rfl⟩
    rw [e348] at hQ348
    obtain ⟨rfl, N348q, K348, ff348, FV348, FS348, AH348, HP348, hc348⟩ := hQ348
    have N348 := Fr.app N342 N348q
    have f349 := f343.keep K348 (ninS ne303 (ninS ne336r nin0))
    have f350 := f344.keep K348
    have Z348 := Nat.le_trans Z342 K348.1
    have hq2 := own_next ff342 ff348 3 0 _ [r300 2, r300 3, r300 4] he1 hq1 hc348
    show own_Go _ _ _ _ (T348.setTop (mkF m 269 #[.val (.long q1), .second, .val (.long q2), .second, .val (.long q3), .second, .val (.long q4), .second, .val (.long q5), .second, .val (.int p6), .val (.int (5 : Int32)), .val (.int v12_2), .val (.ref b275), .val (.ref b302), .val (.int (1 : Int32))] [(.long (ff342 0))]))
    refine own_by (fun _ k => XS.aload X348.here hx rfl (hb hby at_269) rfl rfl k) ?_
    refine own_by (fun _ k => XS.iconst X348.here hx rfl (hb hby at_271) k) ?_
    show own_Go _ _ _ _ (T348.setTop (mkF m 272 #[.val (.long q1), .second, .val (.long q2), .second, .val (.long q3), .second, .val (.long q4), .second, .val (.long q5), .second, .val (.int p6), .val (.int (5 : Int32)), .val (.int v12_2), .val (.ref b275), .val (.ref b302), .val (.int (1 : Int32))] [(.int (1 : Int32)), (.ref b275), (.long (ff342 0))]))
    refine own_by (fun _ k => own_lal X348 hx hZ e348 f349 1 (by decide) (by decide) (hb hby at_272) k) ?_
    show own_Go _ _ _ _ (T348.setTop (mkF m 273 #[.val (.long q1), .second, .val (.long q2), .second, .val (.long q3), .second, .val (.long q4), .second, .val (.long q5), .second, .val (.int p6), .val (.int (5 : Int32)), .val (.int v12_2), .val (.ref b275), .val (.ref b302), .val (.int (1 : Int32))] [(.long (r300 1)), (.long (ff342 0))]))
    refine own_by (fun _ k => XS.lcmp X348.here hx rfl (hb hby at_273) rfl k) ?_
    show own_Go _ _ _ _ (T348.setTop (mkF m 274 #[.val (.long q1), .second, .val (.long q2), .second, .val (.long q3), .second, .val (.long q4), .second, .val (.long q5), .second, .val (.int p6), .val (.int (5 : Int32)), .val (.int v12_2), .val (.ref b275), .val (.ref b302), .val (.int (1 : Int32))] [(.int (lcmpW (ff342 0) (r300 1)))]))
    refine own_by (fun _ k => XS.ifNo X348.here hx rfl (hb hby at_274) rfl ((if0 _ _).trans (teq ((lw_eq _ _).mpr he1)).2) k) ?_
    refine own_by (fun _ k => XS.iconst X348.here hx rfl (hb hby at_277) k) ?_
    show own_Go _ _ _ _ (T348.setTop (mkF m 278 #[.val (.long q1), .second, .val (.long q2), .second, .val (.long q3), .second, .val (.long q4), .second, .val (.long q5), .second, .val (.int p6), .val (.int (5 : Int32)), .val (.int v12_2), .val (.ref b275), .val (.ref b302), .val (.int (1 : Int32))] [(.int (1 : Int32))]))
    refine own_by (fun _ k => XS.goto X348.here hx rfl (pc0 := 278) (pc' := 282) rfl (hb hby at_278) (by decide) (by decide) k) ?_
    refine own_by (fun _ k => XS.iload X348.here hx rfl (hb hby at_282) rfl k) ?_
    show own_Go _ _ _ _ (T348.setTop (mkF m 284 #[.val (.long q1), .second, .val (.long q2), .second, .val (.long q3), .second, .val (.long q4), .second, .val (.long q5), .second, .val (.int p6), .val (.int (5 : Int32)), .val (.int v12_2), .val (.ref b275), .val (.ref b302), .val (.int (1 : Int32))] [(.int (1 : Int32)), (.int (1 : Int32))]))
    refine own_by (fun _ k => XS.iand X348.here hx rfl (hb hby at_284) rfl k) ?_
    show own_Go _ _ _ _ (T348.setTop (mkF m 285 #[.val (.long q1), .second, .val (.long q2), .second, .val (.long q3), .second, .val (.long q4), .second, .val (.long q5), .second, .val (.int p6), .val (.int (5 : Int32)), .val (.int v12_2), .val (.ref b275), .val (.ref b302), .val (.int (1 : Int32))] [(.int ((1 : Int32) &&& (1 : Int32)))]))
    rw [(by decide : ((1 : Int32) &&& (1 : Int32)) = (1 : Int32))]
    show own_Go _ _ _ _ (T348.setTop (mkF m 285 #[.val (.long q1), .second, .val (.long q2), .second, .val (.long q3), .second, .val (.long q4), .second, .val (.long q5), .second, .val (.int p6), .val (.int (5 : Int32)), .val (.int v12_2), .val (.ref b275), .val (.ref b302), .val (.int (1 : Int32))] [(.int (1 : Int32))]))
    refine own_by (fun _ k => XS.istore X348.here hx rfl (hb hby at_285) rfl (l' := #[.val (.long q1), .second, .val (.long q2), .second, .val (.long q3), .second, .val (.long q4), .second, .val (.long q5), .second, .val (.int p6), .val (.int (5 : Int32)), .val (.int v12_2), .val (.ref b275), .val (.ref b302), .val (.int (1 : Int32))]) rfl k) ?_
    refine own_by (fun _ k => XS.iload X348.here hx rfl (hb hby at_287) rfl k) ?_
    refine own_by (fun _ k => XS.iconst X348.here hx rfl (hb hby at_289) k) ?_
    show own_Go _ _ _ _ (T348.setTop (mkF m 290 #[.val (.long q1), .second, .val (.long q2), .second, .val (.long q3), .second, .val (.long q4), .second, .val (.long q5), .second, .val (.int p6), .val (.int (5 : Int32)), .val (.int v12_2), .val (.ref b275), .val (.ref b302), .val (.int (1 : Int32))] [(.int (2 : Int32)), (.int (5 : Int32))]))
    refine own_by (fun _ k => XS.icmpNo X348.here hx rfl (hb hby at_290) rfl (tlt (by decide)).2.2.2 k) ?_
    refine own_by (fun _ k => XS.aload X348.here hx rfl (hb hby at_293) rfl rfl k) ?_
    show own_Go _ _ _ _ (T348.setTop (mkF m 295 #[.val (.long q1), .second, .val (.long q2), .second, .val (.long q3), .second, .val (.long q4), .second, .val (.long q5), .second, .val (.int p6), .val (.int (5 : Int32)), .val (.int v12_2), .val (.ref b275), .val (.ref b302), .val (.int (1 : Int32))] [(.ref b302)]))
    have he2 : ff348 0 = r300 2 := own_hd ff348 3 0 _ [r300 3, r300 4] (by decide) (by decide) HP348 hsd.2.2 hq2
    refine own_callV X348 hx hZ hown (hw _ (List.mem_of_getElem? (i := 40) rfl)) (hw _ (List.mem_of_getElem? (i := 41) rfl)) (notFace_of_selects (args := #[]) (mvT hZ (hw _ (List.mem_of_getElem? (i := 43) rfl)))) (hw _ (List.mem_of_getElem? (i := 43) rfl)) (hw _ (List.mem_of_getElem? (i := 42) rfl)) (hw _ (List.mem_of_getElem? (i := 9) rfl)) (hw _ (List.mem_of_getElem? (i := 44) rfl)) (by decide) (rm8_3 l Z a0 hw [] b302 bb336 nn336 ff348 h348 n0 Z348 f350 FV348 FS348 AH348 ge302 gb336 ne336a (by omega) (by omega) HP348) e348 b302 f350 (by rw [hml]; rfl) [] [] rfl (lenOf own_pd5 rfl) rfl 0 (Nat.le_of_eq rfl) (by decide) (by decide) (Nat.le_of_ble_eq_true rfl) (Nat.le_of_ble_eq_true rfl) (hb hby at_295) ?_
    intro T354 Lc354 v354 X354 hQ354
    obtain ⟨h354, e354⟩ : ∃ h, T354.heap = h := ⟨_, rfl⟩
    rw [e354] at hQ354
    obtain ⟨rfl, N354q, K354, ff354, FV354, FS354, AH354, HP354, hc354⟩ := hQ354
    have N354 := Fr.app N348 N354q
    have f355 := f349.keep K354 (ninS ne303 (ninS ne336r nin0))
    have f356 := f350.keep K354
    have Z354 := Nat.le_trans Z348 K354.1
    have hq3 := own_next ff348 ff354 2 0 _ [r300 3, r300 4] he2 hq2 hc354
    show own_Go _ _ _ _ (T354.setTop (mkF m 298 #[.val (.long q1), .second, .val (.long q2), .second, .val (.long q3), .second, .val (.long q4), .second, .val (.long q5), .second, .val (.int p6), .val (.int (5 : Int32)), .val (.int v12_2), .val (.ref b275), .val (.ref b302), .val (.int (1 : Int32))] [(.long (ff348 0))]))
    refine own_by (fun _ k => XS.aload X354.here hx rfl (hb hby at_298) rfl rfl k) ?_
    refine own_by (fun _ k => XS.iconst X354.here hx rfl (hb hby at_300) k) ?_
    show own_Go _ _ _ _ (T354.setTop (mkF m 301 #[.val (.long q1), .second, .val (.long q2), .second, .val (.long q3), .second, .val (.long q4), .second, .val (.long q5), .second, .val (.int p6), .val (.int (5 : Int32)), .val (.int v12_2), .val (.ref b275), .val (.ref b302), .val (.int (1 : Int32))] [(.int (2 : Int32)), (.ref b275), (.long (ff348 0))]))
    refine own_by (fun _ k => own_lal X354 hx hZ e354 f355 2 (by decide) (by decide) (hb hby at_301) k) ?_
    show own_Go _ _ _ _ (T354.setTop (mkF m 302 #[.val (.long q1), .second, .val (.long q2), .second, .val (.long q3), .second, .val (.long q4), .second, .val (.long q5), .second, .val (.int p6), .val (.int (5 : Int32)), .val (.int v12_2), .val (.ref b275), .val (.ref b302), .val (.int (1 : Int32))] [(.long (r300 2)), (.long (ff348 0))]))
    refine own_by (fun _ k => XS.lcmp X354.here hx rfl (hb hby at_302) rfl k) ?_
    show own_Go _ _ _ _ (T354.setTop (mkF m 303 #[.val (.long q1), .second, .val (.long q2), .second, .val (.long q3), .second, .val (.long q4), .second, .val (.long q5), .second, .val (.int p6), .val (.int (5 : Int32)), .val (.int v12_2), .val (.ref b275), .val (.ref b302), .val (.int (1 : Int32))] [(.int (lcmpW (ff348 0) (r300 2)))]))
    refine own_by (fun _ k => XS.ifNo X354.here hx rfl (hb hby at_303) rfl ((if0 _ _).trans (teq ((lw_eq _ _).mpr he2)).2) k) ?_
    refine own_by (fun _ k => XS.iconst X354.here hx rfl (hb hby at_306) k) ?_
    show own_Go _ _ _ _ (T354.setTop (mkF m 307 #[.val (.long q1), .second, .val (.long q2), .second, .val (.long q3), .second, .val (.long q4), .second, .val (.long q5), .second, .val (.int p6), .val (.int (5 : Int32)), .val (.int v12_2), .val (.ref b275), .val (.ref b302), .val (.int (1 : Int32))] [(.int (1 : Int32))]))
    refine own_by (fun _ k => XS.goto X354.here hx rfl (pc0 := 307) (pc' := 311) rfl (hb hby at_307) (by decide) (by decide) k) ?_
    refine own_by (fun _ k => XS.iload X354.here hx rfl (hb hby at_311) rfl k) ?_
    show own_Go _ _ _ _ (T354.setTop (mkF m 313 #[.val (.long q1), .second, .val (.long q2), .second, .val (.long q3), .second, .val (.long q4), .second, .val (.long q5), .second, .val (.int p6), .val (.int (5 : Int32)), .val (.int v12_2), .val (.ref b275), .val (.ref b302), .val (.int (1 : Int32))] [(.int (1 : Int32)), (.int (1 : Int32))]))
    refine own_by (fun _ k => XS.iand X354.here hx rfl (hb hby at_313) rfl k) ?_
    show own_Go _ _ _ _ (T354.setTop (mkF m 314 #[.val (.long q1), .second, .val (.long q2), .second, .val (.long q3), .second, .val (.long q4), .second, .val (.long q5), .second, .val (.int p6), .val (.int (5 : Int32)), .val (.int v12_2), .val (.ref b275), .val (.ref b302), .val (.int (1 : Int32))] [(.int ((1 : Int32) &&& (1 : Int32)))]))
    rw [(by decide : ((1 : Int32) &&& (1 : Int32)) = (1 : Int32))]
    show own_Go _ _ _ _ (T354.setTop (mkF m 314 #[.val (.long q1), .second, .val (.long q2), .second, .val (.long q3), .second, .val (.long q4), .second, .val (.long q5), .second, .val (.int p6), .val (.int (5 : Int32)), .val (.int v12_2), .val (.ref b275), .val (.ref b302), .val (.int (1 : Int32))] [(.int (1 : Int32))]))
    refine own_by (fun _ k => XS.istore X354.here hx rfl (hb hby at_314) rfl (l' := #[.val (.long q1), .second, .val (.long q2), .second, .val (.long q3), .second, .val (.long q4), .second, .val (.long q5), .second, .val (.int p6), .val (.int (5 : Int32)), .val (.int v12_2), .val (.ref b275), .val (.ref b302), .val (.int (1 : Int32))]) rfl k) ?_
    refine own_by (fun _ k => XS.iload X354.here hx rfl (hb hby at_316) rfl k) ?_
    refine own_by (fun _ k => XS.iconst X354.here hx rfl (hb hby at_318) k) ?_
    show own_Go _ _ _ _ (T354.setTop (mkF m 319 #[.val (.long q1), .second, .val (.long q2), .second, .val (.long q3), .second, .val (.long q4), .second, .val (.long q5), .second, .val (.int p6), .val (.int (5 : Int32)), .val (.int v12_2), .val (.ref b275), .val (.ref b302), .val (.int (1 : Int32))] [(.int (3 : Int32)), (.int (5 : Int32))]))
    refine own_by (fun _ k => XS.icmpNo X354.here hx rfl (hb hby at_319) rfl (tlt (by decide)).2.2.2 k) ?_
    refine own_by (fun _ k => XS.aload X354.here hx rfl (hb hby at_322) rfl rfl k) ?_
    show own_Go _ _ _ _ (T354.setTop (mkF m 324 #[.val (.long q1), .second, .val (.long q2), .second, .val (.long q3), .second, .val (.long q4), .second, .val (.long q5), .second, .val (.int p6), .val (.int (5 : Int32)), .val (.int v12_2), .val (.ref b275), .val (.ref b302), .val (.int (1 : Int32))] [(.ref b302)]))
    have he3 : ff354 0 = r300 3 := own_hd ff354 2 0 _ [r300 4] (by decide) (by decide) HP354 hsd.2.2.2 hq3
    refine own_callV X354 hx hZ hown (hw _ (List.mem_of_getElem? (i := 40) rfl)) (hw _ (List.mem_of_getElem? (i := 41) rfl)) (notFace_of_selects (args := #[]) (mvT hZ (hw _ (List.mem_of_getElem? (i := 43) rfl)))) (hw _ (List.mem_of_getElem? (i := 43) rfl)) (hw _ (List.mem_of_getElem? (i := 42) rfl)) (hw _ (List.mem_of_getElem? (i := 9) rfl)) (hw _ (List.mem_of_getElem? (i := 44) rfl)) (by decide) (rm8_2 l Z a0 hw [] b302 bb336 nn336 ff354 h354 n0 Z354 f356 FV354 FS354 AH354 ge302 gb336 ne336a (by omega) (by omega) HP354) e354 b302 f356 (by rw [hml]; rfl) [] [] rfl (lenOf own_pd5 rfl) rfl 0 (Nat.le_of_eq rfl) (by decide) (by decide) (Nat.le_of_ble_eq_true rfl) (Nat.le_of_ble_eq_true rfl) (hb hby at_324) ?_
    intro T360 Lc360 v360 X360 hQ360
    obtain ⟨h360, e360⟩ : ∃ h, T360.heap = h := ⟨_, rfl⟩
    rw [e360] at hQ360
    obtain ⟨rfl, N360q, K360, ff360, FV360, FS360, AH360, HP360, hc360⟩ := hQ360
    have N360 := Fr.app N354 N360q
    have f361 := f355.keep K360 (ninS ne303 (ninS ne336r nin0))
    have f362 := f356.keep K360
    have Z360 := Nat.le_trans Z354 K360.1
    have hq4 := own_next ff354 ff360 1 0 _ [r300 4] he3 hq3 hc360
    show own_Go _ _ _ _ (T360.setTop (mkF m 327 #[.val (.long q1), .second, .val (.long q2), .second, .val (.long q3), .second, .val (.long q4), .second, .val (.long q5), .second, .val (.int p6), .val (.int (5 : Int32)), .val (.int v12_2), .val (.ref b275), .val (.ref b302), .val (.int (1 : Int32))] [(.long (ff354 0))]))
    refine own_by (fun _ k => XS.aload X360.here hx rfl (hb hby at_327) rfl rfl k) ?_
    refine own_by (fun _ k => XS.iconst X360.here hx rfl (hb hby at_329) k) ?_
    show own_Go _ _ _ _ (T360.setTop (mkF m 330 #[.val (.long q1), .second, .val (.long q2), .second, .val (.long q3), .second, .val (.long q4), .second, .val (.long q5), .second, .val (.int p6), .val (.int (5 : Int32)), .val (.int v12_2), .val (.ref b275), .val (.ref b302), .val (.int (1 : Int32))] [(.int (3 : Int32)), (.ref b275), (.long (ff354 0))]))
    refine own_by (fun _ k => own_lal X360 hx hZ e360 f361 3 (by decide) (by decide) (hb hby at_330) k) ?_
    show own_Go _ _ _ _ (T360.setTop (mkF m 331 #[.val (.long q1), .second, .val (.long q2), .second, .val (.long q3), .second, .val (.long q4), .second, .val (.long q5), .second, .val (.int p6), .val (.int (5 : Int32)), .val (.int v12_2), .val (.ref b275), .val (.ref b302), .val (.int (1 : Int32))] [(.long (r300 3)), (.long (ff354 0))]))
    refine own_by (fun _ k => XS.lcmp X360.here hx rfl (hb hby at_331) rfl k) ?_
    show own_Go _ _ _ _ (T360.setTop (mkF m 332 #[.val (.long q1), .second, .val (.long q2), .second, .val (.long q3), .second, .val (.long q4), .second, .val (.long q5), .second, .val (.int p6), .val (.int (5 : Int32)), .val (.int v12_2), .val (.ref b275), .val (.ref b302), .val (.int (1 : Int32))] [(.int (lcmpW (ff354 0) (r300 3)))]))
    refine own_by (fun _ k => XS.ifNo X360.here hx rfl (hb hby at_332) rfl ((if0 _ _).trans (teq ((lw_eq _ _).mpr he3)).2) k) ?_
    refine own_by (fun _ k => XS.iconst X360.here hx rfl (hb hby at_335) k) ?_
    show own_Go _ _ _ _ (T360.setTop (mkF m 336 #[.val (.long q1), .second, .val (.long q2), .second, .val (.long q3), .second, .val (.long q4), .second, .val (.long q5), .second, .val (.int p6), .val (.int (5 : Int32)), .val (.int v12_2), .val (.ref b275), .val (.ref b302), .val (.int (1 : Int32))] [(.int (1 : Int32))]))
    refine own_by (fun _ k => XS.goto X360.here hx rfl (pc0 := 336) (pc' := 340) rfl (hb hby at_336) (by decide) (by decide) k) ?_
    refine own_by (fun _ k => XS.iload X360.here hx rfl (hb hby at_340) rfl k) ?_
    show own_Go _ _ _ _ (T360.setTop (mkF m 342 #[.val (.long q1), .second, .val (.long q2), .second, .val (.long q3), .second, .val (.long q4), .second, .val (.long q5), .second, .val (.int p6), .val (.int (5 : Int32)), .val (.int v12_2), .val (.ref b275), .val (.ref b302), .val (.int (1 : Int32))] [(.int (1 : Int32)), (.int (1 : Int32))]))
    refine own_by (fun _ k => XS.iand X360.here hx rfl (hb hby at_342) rfl k) ?_
    show own_Go _ _ _ _ (T360.setTop (mkF m 343 #[.val (.long q1), .second, .val (.long q2), .second, .val (.long q3), .second, .val (.long q4), .second, .val (.long q5), .second, .val (.int p6), .val (.int (5 : Int32)), .val (.int v12_2), .val (.ref b275), .val (.ref b302), .val (.int (1 : Int32))] [(.int ((1 : Int32) &&& (1 : Int32)))]))
    rw [(by decide : ((1 : Int32) &&& (1 : Int32)) = (1 : Int32))]
    show own_Go _ _ _ _ (T360.setTop (mkF m 343 #[.val (.long q1), .second, .val (.long q2), .second, .val (.long q3), .second, .val (.long q4), .second, .val (.long q5), .second, .val (.int p6), .val (.int (5 : Int32)), .val (.int v12_2), .val (.ref b275), .val (.ref b302), .val (.int (1 : Int32))] [(.int (1 : Int32))]))
    refine own_by (fun _ k => XS.istore X360.here hx rfl (hb hby at_343) rfl (l' := #[.val (.long q1), .second, .val (.long q2), .second, .val (.long q3), .second, .val (.long q4), .second, .val (.long q5), .second, .val (.int p6), .val (.int (5 : Int32)), .val (.int v12_2), .val (.ref b275), .val (.ref b302), .val (.int (1 : Int32))]) rfl k) ?_
    refine own_by (fun _ k => XS.iload X360.here hx rfl (hb hby at_345) rfl k) ?_
    refine own_by (fun _ k => XS.iconst X360.here hx rfl (hb hby at_347) k) ?_
    show own_Go _ _ _ _ (T360.setTop (mkF m 348 #[.val (.long q1), .second, .val (.long q2), .second, .val (.long q3), .second, .val (.long q4), .second, .val (.long q5), .second, .val (.int p6), .val (.int (5 : Int32)), .val (.int v12_2), .val (.ref b275), .val (.ref b302), .val (.int (1 : Int32))] [(.int (4 : Int32)), (.int (5 : Int32))]))
    refine own_by (fun _ k => XS.icmpNo X360.here hx rfl (hb hby at_348) rfl (tlt (by decide)).2.2.2 k) ?_
    refine own_by (fun _ k => XS.aload X360.here hx rfl (hb hby at_351) rfl rfl k) ?_
    show own_Go _ _ _ _ (T360.setTop (mkF m 353 #[.val (.long q1), .second, .val (.long q2), .second, .val (.long q3), .second, .val (.long q4), .second, .val (.long q5), .second, .val (.int p6), .val (.int (5 : Int32)), .val (.int v12_2), .val (.ref b275), .val (.ref b302), .val (.int (1 : Int32))] [(.ref b302)]))
    have he4 : ff360 0 = r300 4 := own_hd ff360 1 0 _ [] (by decide) (by decide) HP360 hsd.2.2.2.2 hq4
    refine own_callV X360 hx hZ hown (hw _ (List.mem_of_getElem? (i := 40) rfl)) (hw _ (List.mem_of_getElem? (i := 41) rfl)) (notFace_of_selects (args := #[]) (mvT hZ (hw _ (List.mem_of_getElem? (i := 43) rfl)))) (hw _ (List.mem_of_getElem? (i := 43) rfl)) (hw _ (List.mem_of_getElem? (i := 42) rfl)) (hw _ (List.mem_of_getElem? (i := 9) rfl)) (hw _ (List.mem_of_getElem? (i := 44) rfl)) (by decide) (rm8_1 l Z a0 hw [] b302 bb336 nn336 ff360 h360 n0 Z360 f362 FV360 FS360 AH360 ge302 gb336 ne336a (by omega) (by omega) HP360) e360 b302 f362 (by rw [hml]; rfl) [] [] rfl (lenOf own_pd5 rfl) rfl 0 (Nat.le_of_eq rfl) (by decide) (by decide) (Nat.le_of_ble_eq_true rfl) (Nat.le_of_ble_eq_true rfl) (hb hby at_353) ?_
    intro T366 Lc366 v366 X366 hQ366
    obtain ⟨h366, e366⟩ : ∃ h, T366.heap = h := ⟨_, rfl⟩
    rw [e366] at hQ366
    obtain ⟨rfl, N366q, K366, ff366, FV366, FS366, AH366, HP366, hc366⟩ := hQ366
    have N366 := Fr.app N360 N366q
    have f367 := f361.keep K366 (ninS ne303 (ninS ne336r nin0))
    have f368 := f362.keep K366
    have Z366 := Nat.le_trans Z360 K366.1
    have hq5 := own_next ff360 ff366 0 0 _ [] he4 hq4 hc366
    show own_Go _ _ _ _ (T366.setTop (mkF m 356 #[.val (.long q1), .second, .val (.long q2), .second, .val (.long q3), .second, .val (.long q4), .second, .val (.long q5), .second, .val (.int p6), .val (.int (5 : Int32)), .val (.int v12_2), .val (.ref b275), .val (.ref b302), .val (.int (1 : Int32))] [(.long (ff360 0))]))
    refine own_by (fun _ k => XS.aload X366.here hx rfl (hb hby at_356) rfl rfl k) ?_
    refine own_by (fun _ k => XS.iconst X366.here hx rfl (hb hby at_358) k) ?_
    show own_Go _ _ _ _ (T366.setTop (mkF m 359 #[.val (.long q1), .second, .val (.long q2), .second, .val (.long q3), .second, .val (.long q4), .second, .val (.long q5), .second, .val (.int p6), .val (.int (5 : Int32)), .val (.int v12_2), .val (.ref b275), .val (.ref b302), .val (.int (1 : Int32))] [(.int (4 : Int32)), (.ref b275), (.long (ff360 0))]))
    refine own_by (fun _ k => own_lal X366 hx hZ e366 f367 4 (by decide) (by decide) (hb hby at_359) k) ?_
    show own_Go _ _ _ _ (T366.setTop (mkF m 360 #[.val (.long q1), .second, .val (.long q2), .second, .val (.long q3), .second, .val (.long q4), .second, .val (.long q5), .second, .val (.int p6), .val (.int (5 : Int32)), .val (.int v12_2), .val (.ref b275), .val (.ref b302), .val (.int (1 : Int32))] [(.long (r300 4)), (.long (ff360 0))]))
    refine own_by (fun _ k => XS.lcmp X366.here hx rfl (hb hby at_360) rfl k) ?_
    show own_Go _ _ _ _ (T366.setTop (mkF m 361 #[.val (.long q1), .second, .val (.long q2), .second, .val (.long q3), .second, .val (.long q4), .second, .val (.long q5), .second, .val (.int p6), .val (.int (5 : Int32)), .val (.int v12_2), .val (.ref b275), .val (.ref b302), .val (.int (1 : Int32))] [(.int (lcmpW (ff360 0) (r300 4)))]))
    refine own_by (fun _ k => XS.ifNo X366.here hx rfl (hb hby at_361) rfl ((if0 _ _).trans (teq ((lw_eq _ _).mpr he4)).2) k) ?_
    refine own_by (fun _ k => XS.iconst X366.here hx rfl (hb hby at_364) k) ?_
    show own_Go _ _ _ _ (T366.setTop (mkF m 365 #[.val (.long q1), .second, .val (.long q2), .second, .val (.long q3), .second, .val (.long q4), .second, .val (.long q5), .second, .val (.int p6), .val (.int (5 : Int32)), .val (.int v12_2), .val (.ref b275), .val (.ref b302), .val (.int (1 : Int32))] [(.int (1 : Int32))]))
    refine own_by (fun _ k => XS.goto X366.here hx rfl (pc0 := 365) (pc' := 369) rfl (hb hby at_365) (by decide) (by decide) k) ?_
    refine own_by (fun _ k => XS.iload X366.here hx rfl (hb hby at_369) rfl k) ?_
    show own_Go _ _ _ _ (T366.setTop (mkF m 371 #[.val (.long q1), .second, .val (.long q2), .second, .val (.long q3), .second, .val (.long q4), .second, .val (.long q5), .second, .val (.int p6), .val (.int (5 : Int32)), .val (.int v12_2), .val (.ref b275), .val (.ref b302), .val (.int (1 : Int32))] [(.int (1 : Int32)), (.int (1 : Int32))]))
    refine own_by (fun _ k => XS.iand X366.here hx rfl (hb hby at_371) rfl k) ?_
    show own_Go _ _ _ _ (T366.setTop (mkF m 372 #[.val (.long q1), .second, .val (.long q2), .second, .val (.long q3), .second, .val (.long q4), .second, .val (.long q5), .second, .val (.int p6), .val (.int (5 : Int32)), .val (.int v12_2), .val (.ref b275), .val (.ref b302), .val (.int (1 : Int32))] [(.int ((1 : Int32) &&& (1 : Int32)))]))
    rw [(by decide : ((1 : Int32) &&& (1 : Int32)) = (1 : Int32))]
    show own_Go _ _ _ _ (T366.setTop (mkF m 372 #[.val (.long q1), .second, .val (.long q2), .second, .val (.long q3), .second, .val (.long q4), .second, .val (.long q5), .second, .val (.int p6), .val (.int (5 : Int32)), .val (.int v12_2), .val (.ref b275), .val (.ref b302), .val (.int (1 : Int32))] [(.int (1 : Int32))]))
    refine own_by (fun _ k => XS.istore X366.here hx rfl (hb hby at_372) rfl (l' := #[.val (.long q1), .second, .val (.long q2), .second, .val (.long q3), .second, .val (.long q4), .second, .val (.long q5), .second, .val (.int p6), .val (.int (5 : Int32)), .val (.int v12_2), .val (.ref b275), .val (.ref b302), .val (.int (1 : Int32))]) rfl k) ?_
    refine own_by (fun _ k => XS.iload X366.here hx rfl (hb hby at_374) rfl k) ?_
    show own_Go _ _ _ _ (T366.setTop (mkF m 376 #[.val (.long q1), .second, .val (.long q2), .second, .val (.long q3), .second, .val (.long q4), .second, .val (.long q5), .second, .val (.int p6), .val (.int (5 : Int32)), .val (.int v12_2), .val (.ref b275), .val (.ref b302), .val (.int (1 : Int32))] [(.int (1 : Int32))]))
    refine own_by (fun _ k => XS.ifNo X366.here hx rfl (hb hby at_376) rfl ((if0 _ _).trans (feq (by decide)).1) k) ?_
    refine own_by (fun _ k => XS.aload X366.here hx rfl (hb hby at_379) rfl rfl k) ?_
    show own_Go _ _ _ _ (T366.setTop (mkF m 381 #[.val (.long q1), .second, .val (.long q2), .second, .val (.long q3), .second, .val (.long q4), .second, .val (.long q5), .second, .val (.int p6), .val (.int (5 : Int32)), .val (.int v12_2), .val (.ref b275), .val (.ref b302), .val (.int (1 : Int32))] [(.ref b302)]))
    refine own_callV X366 hx hZ hown (hw _ (List.mem_of_getElem? (i := 45) rfl)) (hw _ (List.mem_of_getElem? (i := 46) rfl)) (notFace_of_selects (args := #[]) (mvT hZ (hw _ (List.mem_of_getElem? (i := 48) rfl)))) (hw _ (List.mem_of_getElem? (i := 48) rfl)) (hw _ (List.mem_of_getElem? (i := 47) rfl)) (hw _ (List.mem_of_getElem? (i := 9) rfl)) (hw _ (List.mem_of_getElem? (i := 49) rfl)) (by decide) (rm9 l Z a0 hw [] b302 h366 n0 Z366 FS366) e366 b302 f368 (by rw [hml]; rfl) [] [] rfl (lenOf own_pd6 rfl) rfl 0 (Nat.le_of_eq rfl) (by decide) (by decide) (Nat.le_of_ble_eq_true rfl) (Nat.le_of_ble_eq_true rfl) (hb hby at_381) ?_
    intro T372 Lc372 v372 X372 hQ372
    obtain ⟨rfl, N372q, e372⟩ := hQ372
    have N372 := Fr.app N366 N372q
    show own_Go _ _ _ _ (T372.setTop (mkF m 384 #[.val (.long q1), .second, .val (.long q2), .second, .val (.long q3), .second, .val (.long q4), .second, .val (.long q5), .second, .val (.int p6), .val (.int (5 : Int32)), .val (.int v12_2), .val (.ref b275), .val (.ref b302), .val (.int (1 : Int32))] [(.int (1 : Int32))]))
    refine own_by (fun _ k => XS.ifNo X372.here hx rfl (hb hby at_384) rfl ((if0 _ _).trans (feq (by decide)).1) k) ?_
    refine own_by (fun _ k => XS.iconst X372.here hx rfl (hb hby at_387) k) ?_
    show own_Go _ _ _ _ (T372.setTop (mkF m 388 #[.val (.long q1), .second, .val (.long q2), .second, .val (.long q3), .second, .val (.long q4), .second, .val (.long q5), .second, .val (.int p6), .val (.int (5 : Int32)), .val (.int v12_2), .val (.ref b275), .val (.ref b302), .val (.int (1 : Int32))] [(.int (1 : Int32))]))
    refine own_by (fun _ k => XS.goto X372.here hx rfl (pc0 := 388) (pc' := 392) rfl (hb hby at_388) (by decide) (by decide) k) ?_
    show own_Go _ _ _ _ (T372.setTop (mkF m 392 #[.val (.long q1), .second, .val (.long q2), .second, .val (.long q3), .second, .val (.long q4), .second, .val (.long q5), .second, .val (.int p6), .val (.int (5 : Int32)), .val (.int v12_2), .val (.ref b275), .val (.ref b302), .val (.int (1 : Int32))] [(.int (1 : Int32))]))
    exact own_retN X372 hx Bd.notSynchronized e372 Bd.returns (by simp) (hb hby at_392) (⟨rfl, N372⟩) (by decide) (by decide)
set_option maxRecDepth 65536 in
set_option maxHeartbeats 40000000 in
theorem comes_1 {Post : Tables → Env → Array Value → State → Outcome → State → Prop} (hpost : ∀ tb e args s v u, (limb_1_1.after args s (.returned v) u = true ∧ limb_1_2.after args s (.returned v) u = true ∧ True) → FrameEnd s (.returned v) u (Jvm.fieldLocs frame_1_writes args s ++ Jvm.arrayLocs frame_1_arrays args s ++ Jvm.staticLocs frame_1_statics s) 24 128 → Post tb e args s (.returned v) u) :
    ArmFor flags0 classFile x code maxLocals ret World_1 tables_1 room_1 Calls_1 rest_1 Pre_1 Post := by
  intro l hfl _ _ p e ha hc hk s m args below hf hA hF happ hP
  obtain ⟨hcalls, hrest, hpre⟩ := hP
  obtain ⟨-, -, -, hnamed, -, -, -, hat⟩ := (Spec.applies_iff hf).mp happ
  obtain ⟨hg, hn⟩ := and_e (Cond.before_iff.mp (show (Jvm.Cond.and given_1 narrow_1).before args s = true from hpre))
  obtain ⟨g1, g2⟩ := and_e hg
  obtain ⟨g3, g4⟩ := and_e g2
  obtain ⟨g5, g6⟩ := and_e g4
  obtain ⟨g7, g8⟩ := and_e g6
  obtain ⟨g9, g10⟩ := and_e g8
  obtain ⟨g11, g12⟩ := and_e g10
  obtain ⟨w0, w1, w2, w3, w4, w5, rfl⟩ : ∃ w0 w1 w2 w3 w4 w5 : Value, args = #[w0, w1, w2, w3, w4, w5] := by
    have hs : args.size = 6 := by simpa [Cond.value, given_1] using g1
    obtain ⟨L⟩ := args
    match L, hs with
    | [w0, w1, w2, w3, w4, w5], _ => exact ⟨w0, w1, w2, w3, w4, w5, rfl⟩
  have hw := fun d (hd : d ∈ tables_1) => atoms_spec (ws := Jvm.Cond.code x code maxLocals ret :: tables_1) hat d (List.mem_cons_of_mem _ hd)
  have hfit : Fit s := fun {y c} hc i hi => by
    obtain ⟨ha, rfl⟩ := Array.getElem?_eq_some_iff.mp hc
    have q := List.all_eq_true.mp ((Array.all_eq_true_iff_forall_mem.mp hF) _ (Array.getElem_mem ha)) i (List.mem_range.mpr hi)
    simpa [Array.getElem?_eq_getElem hi] using q
  obtain ⟨i0, ei0⟩ := isL_v g3
  obtain rfl : w0 = (.long i0) := Option.some.inj ei0
  obtain ⟨i1, ei1⟩ := isL_v g5
  obtain rfl : w1 = (.long i1) := Option.some.inj ei1
  obtain ⟨i2, ei2⟩ := isL_v g7
  obtain rfl : w2 = (.long i2) := Option.some.inj ei2
  obtain ⟨i3, ei3⟩ := isL_v g9
  obtain rfl : w3 = (.long i3) := Option.some.inj ei3
  obtain ⟨i4, ei4⟩ := isL_v g11
  obtain rfl : w4 = (.long i4) := Option.some.inj ei4
  obtain ⟨i5, ei5⟩ := is_v g12
  obtain rfl : w5 = (.int i5) := Option.some.inj ei5
  obtain ⟨n, o, h1, h2, h3, _, L, rfl, ⟨rfl, N⟩, hq⟩ := rm0 l s _ hw tables_1 i0 i1 i2 i3 i4 i5 s.heap s.heap.size (Nat.le_refl _) p e ha hc hk s m _ below hf ((Spec.applies_iff_loose hf).mp happ).1 ⟨rfl, State.Warmed39.refl s, rfl⟩ trivial
  refine ⟨n, _, h1, h2, h3, hpost _ _ _ _ _ _ ⟨Cond.after_iff.mpr rfl, Cond.after_iff.mpr (eq_i res_at (Term.int_eval (1)) rfl), trivial⟩ ⟨hq.1, hq.2.1, (hq.2.2.sift fun y hy => Or.inr (N y hy)).mono (by decide) (by decide)⟩⟩
theorem main_1_1 : Claimed_1_1 := comes_1 fun _ _ _ _ _ _ h hF => ⟨h.1, hF⟩
theorem main_1_2 : Claimed_1_2 := comes_1 fun _ _ _ _ _ _ h hF => ⟨h.2.1, hF⟩
end Jvm.Pilot.@@N@@
namespace Jvm.Pilot.@@N@@
open Jvm Jvm.ClassFile Sem Op Lib Jvm.Free Jvm.Stand Jvm.Pilot.@@N@@.Jvm.D
/-! MADE BY PROGRAM (witnessworld.py) out of the Statement's table words and the real class files: 14 classes; the members and pool entries that the words name. The judged class is class 1, her method 2. -/
namespace start1
open Jvm.ClassFile
def u (s : String) : CpInfo := .utf8 (stringToUtf16 s)
/-- a pool by its gaps: so many unusable entries, then the entry; so many at the end -/
def gap : Nat → List CpInfo → List CpInfo
  | 0, r => r
  | n + 1, r => .unusable :: gap n r
def poolList (es : List (Nat × CpInfo)) (last : Nat) : List CpInfo := es.foldr (fun e r => gap e.1 (e.2 :: r)) (gap last [])
def pool (es : List (Nat × CpInfo)) (last : Nat) : Array CpInfo := ⟨poolList es last⟩
def fileOf (pool : Array CpInfo) (this : Nat) (attrs : Array Attribute := #[]) (ms : Array MethodInfo := #[]) (fl : Nat := 33) (sup : Nat := 0) (ifs : Array Nat := #[]) (fds : Array FieldInfo := #[]) : ClassFile where
  minorVersion := 0
  majorVersion := 65
  constantPool := pool
  accessFlags := fl
  thisClass := this
  superClass := sup
  interfaces := ifs
  fields := fds
  methods := ms
  attributes := attrs
def plain (name : String) (sup : Option ClassId) : Class where
  name := name
  kind := .ordinary
  loader := none
  accessFlags := 33
  super := sup
  interfaces := #[]
  cf := none
  fields := #[]
  methods := #[]
  instanceTypes := #[]
  staticTypes := #[]
  resolved := #[]
  callSites := []
  init := .initialized
  statics := none
  mirror := none

def pool0 : Array CpInfo := pool [(5, u "<init>"), (0, u "()V"), (1, .class_ 10), (1, u "java/lang/Object")] 113

def k0c0 : Code := { maxStack := 0, maxLocals := 1, code := object_method_1_code, exceptionTable := #[], attributes := #[] }
def k0m0 : Method := { name := "<init>", desc := "()V", sig := { parameters := [], returnType := none }, accessFlags := 1, code := some k0c0 }
/-- java/lang/Object -/
def k0 : Class := { plain "java/lang/Object" none with
  accessFlags := 33
  interfaces := #[]
  cf := some (fileOf pool0 8 #[] #[{ accessFlags := 1, nameIndex := 5, descriptorIndex := 6, attributes := #[] }] 33 0 #[] #[])
  fields := #[]
  methods := #[k0m0]
  instanceTypes := #[]
  staticTypes := #[]
  resolved := Array.replicate 124 none
  statics := none }

def pool1 : Array CpInfo := pool [(2, .class_ 4), (1, u "java/lang/Object"), (0, u "<init>"), (0, u "()V"), (0, .integer 2147483647), (2, .long 9223372036854775807), (1, .methodref 13 14), (0, .class_ 15), (0, .nameAndType 16 17), (0, u "com/example/libmakespan/libmakespan/planners/LongHeapRemovePinLaw"), (0, u "cs"), (0, u "([JII)V"), (0, .class_ 19), (0, u "com/example/libmakespan/libmakespan/planners/LongHeap"), (0, .methodref 18 21), (0, .nameAndType 5 22), (0, u "(I)V"), (0, .methodref 18 24), (0, .nameAndType 25 26), (0, u "add"), (0, u "(J)V"), (0, .methodref 18 28), (0, .nameAndType 29 30), (0, u "remove"), (0, u "()J"), (0, .methodref 18 32), (0, .nameAndType 33 34), (0, u "isEmpty"), (0, u "()Z"), (3, u "law"), (0, u "(JJJJJI)Z")] 4

def k1m0 : Method := { name := "<init>", desc := "()V", sig := { parameters := [], returnType := none }, accessFlags := 1, code := none }
def k1c1 : Code := { maxStack := 4, maxLocals := 5, code := method_2_code, exceptionTable := #[], attributes := #[] }
def k1m1 : Method := { name := "cs", desc := "([JII)V", sig := { parameters := [(.array .long), .int, .int], returnType := none }, accessFlags := 10, code := some k1c1 }
def k1c2 : Code := { maxStack := 4, maxLocals := 16, code := code, exceptionTable := #[], attributes := #[] }
def k1m2 : Method := { name := "law", desc := "(JJJJJI)Z", sig := { parameters := [.long, .long, .long, .long, .long, .int], returnType := some .boolean }, accessFlags := 9, code := some k1c2 }
/-- com/example/libmakespan/libmakespan/planners/LongHeapRemovePinLaw -/
def k1 : Class := { plain "com/example/libmakespan/libmakespan/planners/LongHeapRemovePinLaw" (some 0) with
  accessFlags := 49
  interfaces := #[]
  cf := some (fileOf pool1 13 #[] #[{ accessFlags := 1, nameIndex := 5, descriptorIndex := 6, attributes := #[] }, { accessFlags := 10, nameIndex := 16, descriptorIndex := 17, attributes := #[] }, { accessFlags := 9, nameIndex := 38, descriptorIndex := 39, attributes := #[] }] 49 2 #[] #[])
  fields := #[]
  methods := #[k1m0, k1m1, k1m2]
  instanceTypes := #[]
  staticTypes := #[]
  resolved := Array.replicate 44 none
  statics := none }

def pool2 : Array CpInfo := pool [(1, .methodref 2 3), (0, .class_ 4), (0, .nameAndType 5 6), (0, u "java/lang/Object"), (0, u "<init>"), (0, u "()V"), (0, .methodref 8 9), (0, .class_ 10), (0, .nameAndType 11 12), (0, u "java/lang/Math"), (0, u "max"), (0, u "(II)I"), (0, .fieldref 14 15), (0, .class_ 16), (0, .nameAndType 17 18), (0, u "com/example/libmakespan/libmakespan/planners/LongHeap"), (0, u "values"), (0, u "[J"), (0, .fieldref 14 20), (0, .nameAndType 21 22), (0, u "size"), (0, u "I"), (0, .methodref 24 25), (0, .class_ 26), (0, .nameAndType 27 28), (0, u "java/util/Arrays"), (0, u "copyOf"), (0, u "([JI)[J"), (0, u "(I)V"), (2, u "isEmpty"), (0, u "()Z"), (2, u "add"), (0, u "(J)V"), (0, u "remove"), (0, u "()J")] 2

def k2c0 : Code := { maxStack := 3, maxLocals := 2, code := prog_91_method_1_code, exceptionTable := #[], attributes := #[] }
def k2m0 : Method := { name := "<init>", desc := "(I)V", sig := { parameters := [.int], returnType := none }, accessFlags := 0, code := some k2c0 }
def k2c1 : Code := { maxStack := 1, maxLocals := 1, code := prog_91_method_2_code, exceptionTable := #[], attributes := #[] }
def k2m1 : Method := { name := "isEmpty", desc := "()Z", sig := { parameters := [], returnType := some .boolean }, accessFlags := 0, code := some k2c1 }
def k2c2 : Code := { maxStack := 4, maxLocals := 5, code := prog_91_method_4_code, exceptionTable := #[], attributes := #[] }
def k2m2 : Method := { name := "add", desc := "(J)V", sig := { parameters := [.long], returnType := none }, accessFlags := 0, code := some k2c2 }
def k2c3 : Code := { maxStack := 4, maxLocals := 7, code := prog_91_method_5_code, exceptionTable := #[], attributes := #[] }
def k2m3 : Method := { name := "remove", desc := "()J", sig := { parameters := [], returnType := some .long }, accessFlags := 0, code := some k2c3 }
/-- com/example/libmakespan/libmakespan/planners/LongHeap -/
def k2 : Class := { plain "com/example/libmakespan/libmakespan/planners/LongHeap" (some 0) with
  accessFlags := 48
  interfaces := #[]
  cf := some (fileOf pool2 14 #[] #[{ accessFlags := 0, nameIndex := 5, descriptorIndex := 29, attributes := #[] }, { accessFlags := 0, nameIndex := 32, descriptorIndex := 33, attributes := #[] }, { accessFlags := 0, nameIndex := 36, descriptorIndex := 37, attributes := #[] }, { accessFlags := 0, nameIndex := 38, descriptorIndex := 39, attributes := #[] }] 48 2 #[] #[{ accessFlags := 2, nameIndex := 17, descriptorIndex := 18, attributes := #[] }, { accessFlags := 2, nameIndex := 21, descriptorIndex := 22, attributes := #[] }])
  fields := #[{ name := "values", type := (.array .long), accessFlags := 2, slot := 0, constantValue := 0 }, { name := "size", type := .int, accessFlags := 2, slot := 1, constantValue := 0 }]
  methods := #[k2m0, k2m1, k2m2, k2m3]
  instanceTypes := #[(.array .long), .int]
  staticTypes := #[]
  resolved := Array.replicate 42 none
  statics := none }

def pool3 : Array CpInfo := pool [(1, .class_ 2), (0, u "java/lang/Math"), (1, .class_ 6), (1, u "java/lang/Object"), (0, u "<init>"), (0, u "()V"), (89, .class_ 100), (1, u "java/lang/Math$RandomNumberGeneratorHolder"), (71, u "negativeZeroFloatBits"), (0, u "J"), (2, u "negativeZeroDoubleBits"), (21, u "max"), (2, u "min"), (43, u "$assertionsDisabled"), (0, u "Z"), (88, u "(II)I"), (2, u "twoToTheDoubleScaleDown"), (0, u "D"), (4, u "twoToTheDoubleScaleUp"), (9, u "E"), (3, u "PI"), (2, u "TAU"), (2, u "DEGREES_TO_RADIANS"), (0, u "RADIANS_TO_DEGREES")] 94

def k3m0 : Method := { name := "<init>", desc := "()V", sig := { parameters := [], returnType := none }, accessFlags := 2, code := none }
def k3c1 : Code := { maxStack := 2, maxLocals := 2, code := jdk_29_method_65_code, exceptionTable := #[], attributes := #[] }
def k3m1 : Method := { name := "max", desc := "(II)I", sig := { parameters := [.int, .int], returnType := some .int }, accessFlags := 9, code := some k3c1 }
def k3c2 : Code := { maxStack := 2, maxLocals := 2, code := jdk_29_method_69_code, exceptionTable := #[], attributes := #[] }
def k3m2 : Method := { name := "min", desc := "(II)I", sig := { parameters := [.int, .int], returnType := some .int }, accessFlags := 9, code := some k3c2 }
/-- java/lang/Math -/
def k3 : Class := { plain "java/lang/Math" (some 0) with
  accessFlags := 49
  interfaces := #[]
  cf := some (fileOf pool3 1 #[.nestMembers #[98]] #[{ accessFlags := 2, nameIndex := 7, descriptorIndex := 8, attributes := #[] }, { accessFlags := 9, nameIndex := 198, descriptorIndex := 335, attributes := #[] }, { accessFlags := 9, nameIndex := 201, descriptorIndex := 335, attributes := #[] }] 49 4 #[] #[{ accessFlags := 25, nameIndex := 354, descriptorIndex := 339, attributes := #[] }, { accessFlags := 25, nameIndex := 358, descriptorIndex := 339, attributes := #[] }, { accessFlags := 25, nameIndex := 361, descriptorIndex := 339, attributes := #[] }, { accessFlags := 26, nameIndex := 364, descriptorIndex := 339, attributes := #[] }, { accessFlags := 26, nameIndex := 365, descriptorIndex := 339, attributes := #[] }, { accessFlags := 26, nameIndex := 172, descriptorIndex := 173, attributes := #[] }, { accessFlags := 26, nameIndex := 176, descriptorIndex := 173, attributes := #[] }, { accessFlags := 8, nameIndex := 344, descriptorIndex := 339, attributes := #[] }, { accessFlags := 8, nameIndex := 338, descriptorIndex := 339, attributes := #[] }, { accessFlags := 4120, nameIndex := 245, descriptorIndex := 246, attributes := #[] }])
  fields := #[{ name := "E", type := .double, accessFlags := 25, slot := 0, constantValue := 0 }, { name := "PI", type := .double, accessFlags := 25, slot := 1, constantValue := 0 }, { name := "TAU", type := .double, accessFlags := 25, slot := 2, constantValue := 0 }, { name := "DEGREES_TO_RADIANS", type := .double, accessFlags := 26, slot := 3, constantValue := 0 }, { name := "RADIANS_TO_DEGREES", type := .double, accessFlags := 26, slot := 4, constantValue := 0 }, { name := "negativeZeroFloatBits", type := .long, accessFlags := 26, slot := 5, constantValue := 0 }, { name := "negativeZeroDoubleBits", type := .long, accessFlags := 26, slot := 6, constantValue := 0 }, { name := "twoToTheDoubleScaleUp", type := .double, accessFlags := 8, slot := 7, constantValue := 0 }, { name := "twoToTheDoubleScaleDown", type := .double, accessFlags := 8, slot := 8, constantValue := 0 }, { name := "$assertionsDisabled", type := .boolean, accessFlags := 4120, slot := 9, constantValue := 0 }]
  methods := #[k3m0, k3m1, k3m2]
  instanceTypes := #[]
  staticTypes := #[.double, .double, .double, .double, .double, .long, .long, .double, .double, .boolean]
  resolved := Array.replicate 460 none
  statics := none }

def pool4 : Array CpInfo := pool [(2, .class_ 4), (1, u "java/lang/Object"), (0, u "<init>"), (0, u "()V"), (7, .class_ 16), (1, u "java/util/Arrays"), (57, .class_ 76), (1, u "java/util/Arrays$NaturalOrder"), (36, .class_ 115), (1, u "java/util/Arrays$LegacyMergeSort"), (1, u "Z"), (32, .methodref 151 152), (0, .class_ 153), (0, .nameAndType 154 155), (0, u "java/lang/System"), (0, u "arraycopy"), (0, u "(Ljava/lang/Object;ILjava/lang/Object;II)V"), (146, u "copyOf"), (1, .methodref 305 306), (0, .class_ 307), (0, .nameAndType 308 309), (0, u "java/lang/Math"), (0, u "min"), (0, u "(II)I"), (65, .class_ 376), (0, u "java/util/Arrays$ArrayList"), (68, u "$assertionsDisabled"), (269, u "MIN_ARRAY_SORT_GRAN"), (0, u "I"), (2, u "INSERTIONSORT_THRESHOLD"), (152, u "([JI)[J"), (102, .class_ 976), (0, u "java/util/Arrays$ArrayItr")] 52

def k4m0 : Method := { name := "<init>", desc := "()V", sig := { parameters := [], returnType := none }, accessFlags := 2, code := none }
def k4c1 : Code := { maxStack := 6, maxLocals := 3, code := jdk_65_method_124_code, exceptionTable := #[], attributes := #[] }
def k4m1 : Method := { name := "copyOf", desc := "([JI)[J", sig := { parameters := [(.array .long), .int], returnType := some (.array .long) }, accessFlags := 9, code := some k4c1 }
/-- java/util/Arrays -/
def k4 : Class := { plain "java/util/Arrays" (some 0) with
  accessFlags := 49
  interfaces := #[]
  cf := some (fileOf pool4 14 #[.nestMembers #[975, 375, 113, 74]] #[{ accessFlags := 2, nameIndex := 5, descriptorIndex := 6, attributes := #[] }, { accessFlags := 9, nameIndex := 302, descriptorIndex := 872, attributes := #[] }] 49 2 #[] #[{ accessFlags := 26, nameIndex := 715, descriptorIndex := 716, attributes := #[] }, { accessFlags := 26, nameIndex := 719, descriptorIndex := 716, attributes := #[] }, { accessFlags := 4120, nameIndex := 445, descriptorIndex := 117, attributes := #[] }])
  fields := #[{ name := "MIN_ARRAY_SORT_GRAN", type := .int, accessFlags := 26, slot := 0, constantValue := 0 }, { name := "INSERTIONSORT_THRESHOLD", type := .int, accessFlags := 26, slot := 1, constantValue := 0 }, { name := "$assertionsDisabled", type := .boolean, accessFlags := 4120, slot := 2, constantValue := 0 }]
  methods := #[k4m0, k4m1]
  instanceTypes := #[]
  staticTypes := #[.int, .int, .boolean]
  resolved := Array.replicate 1029 none
  statics := none }

def pool5 : Array CpInfo := pool [(2, .class_ 4), (1, u "java/lang/Object"), (0, u "<init>"), (0, u "()V"), (1, .class_ 10), (1, u "java/lang/System"), (0, u "allowSecurityManager"), (0, u "I"), (16, u "cons"), (0, u "Ljava/io/Console;"), (77, .class_ 110), (1, u "java/lang/System$CallersHolder"), (43, u "initialErrStream"), (0, u "Ljava/io/PrintStream;"), (19, u "security"), (0, u "Ljava/lang/SecurityManager;"), (31, .class_ 209), (0, u "java/lang/System$1"), (7, u "props"), (0, u "Ljava/util/Properties;"), (2, u "lineSeparator"), (0, u "Ljava/lang/String;"), (96, .class_ 321), (1, u "java/lang/System$LoggerFinder"), (5, .class_ 328), (0, u "java/lang/System$Logger"), (67, u "err"), (2, u "out"), (91, u "notSupportedJnuEncoding"), (15, u "in"), (17, u "initialIn"), (0, u "Ljava/io/InputStream;"), (35, u "bootLayer"), (0, u "Ljava/lang/ModuleLayer;"), (99, .class_ 664), (0, u "java/lang/System$2"), (9, u "NEVER"), (2, u "MAYBE"), (49, u "arraycopy"), (0, u "(Ljava/lang/Object;ILjava/lang/Object;II)V"), (72, .class_ 802), (0, u "java/lang/System$Logger$Level")] 31

def k5m0 : Method := { name := "<init>", desc := "()V", sig := { parameters := [], returnType := none }, accessFlags := 2, code := none }
def k5m1 : Method := { name := "arraycopy", desc := "(Ljava/lang/Object;ILjava/lang/Object;II)V", sig := { parameters := [(.object "java/lang/Object"), .int, (.object "java/lang/Object"), .int, .int], returnType := none }, accessFlags := 265, code := none }
/-- java/lang/System -/
def k5 : Class := { plain "java/lang/System" (some 0) with
  accessFlags := 49
  interfaces := #[]
  cf := some (fileOf pool5 8 #[.nestMembers #[319, 327, 801, 108, 663, 208]] #[{ accessFlags := 2, nameIndex := 5, descriptorIndex := 6, attributes := #[] }, { accessFlags := 265, nameIndex := 727, descriptorIndex := 728, attributes := #[] }] 49 2 #[] #[{ accessFlags := 25, nameIndex := 507, descriptorIndex := 526, attributes := #[] }, { accessFlags := 25, nameIndex := 399, descriptorIndex := 155, attributes := #[] }, { accessFlags := 25, nameIndex := 396, descriptorIndex := 155, attributes := #[] }, { accessFlags := 10, nameIndex := 525, descriptorIndex := 526, attributes := #[] }, { accessFlags := 26, nameIndex := 674, descriptorIndex := 12, attributes := #[] }, { accessFlags := 26, nameIndex := 677, descriptorIndex := 12, attributes := #[] }, { accessFlags := 10, nameIndex := 11, descriptorIndex := 12, attributes := #[] }, { accessFlags := 74, nameIndex := 175, descriptorIndex := 176, attributes := #[] }, { accessFlags := 10, nameIndex := 491, descriptorIndex := 222, attributes := #[] }, { accessFlags := 74, nameIndex := 29, descriptorIndex := 30, attributes := #[] }, { accessFlags := 74, nameIndex := 154, descriptorIndex := 155, attributes := #[] }, { accessFlags := 10, nameIndex := 217, descriptorIndex := 218, attributes := #[] }, { accessFlags := 10, nameIndex := 221, descriptorIndex := 222, attributes := #[] }, { accessFlags := 8, nameIndex := 562, descriptorIndex := 563, attributes := #[] }])
  fields := #[{ name := "in", type := (.object "java/io/InputStream"), accessFlags := 25, slot := 0, constantValue := 0 }, { name := "out", type := (.object "java/io/PrintStream"), accessFlags := 25, slot := 1, constantValue := 0 }, { name := "err", type := (.object "java/io/PrintStream"), accessFlags := 25, slot := 2, constantValue := 0 }, { name := "initialIn", type := (.object "java/io/InputStream"), accessFlags := 10, slot := 3, constantValue := 0 }, { name := "NEVER", type := .int, accessFlags := 26, slot := 4, constantValue := 0 }, { name := "MAYBE", type := .int, accessFlags := 26, slot := 5, constantValue := 0 }, { name := "allowSecurityManager", type := .int, accessFlags := 10, slot := 6, constantValue := 0 }, { name := "security", type := (.object "java/lang/SecurityManager"), accessFlags := 74, slot := 7, constantValue := 0 }, { name := "notSupportedJnuEncoding", type := (.object "java/lang/String"), accessFlags := 10, slot := 8, constantValue := 0 }, { name := "cons", type := (.object "java/io/Console"), accessFlags := 74, slot := 9, constantValue := 0 }, { name := "initialErrStream", type := (.object "java/io/PrintStream"), accessFlags := 74, slot := 10, constantValue := 0 }, { name := "props", type := (.object "java/util/Properties"), accessFlags := 10, slot := 11, constantValue := 0 }, { name := "lineSeparator", type := (.object "java/lang/String"), accessFlags := 10, slot := 12, constantValue := 0 }, { name := "bootLayer", type := (.object "java/lang/ModuleLayer"), accessFlags := 8, slot := 13, constantValue := 0 }]
  methods := #[k5m0, k5m1]
  instanceTypes := #[]
  staticTypes := #[(.object "java/io/InputStream"), (.object "java/io/PrintStream"), (.object "java/io/PrintStream"), (.object "java/io/InputStream"), .int, .int, .int, (.object "java/lang/SecurityManager"), (.object "java/lang/String"), (.object "java/io/Console"), (.object "java/io/PrintStream"), (.object "java/util/Properties"), (.object "java/lang/String"), (.object "java/lang/ModuleLayer")]
  resolved := Array.replicate 834 none
  statics := none }

def pool6 : Array CpInfo := pool [(1, u "java/lang/Cloneable"), (0, .class_ 1), (0, u "java/lang/Object"), (0, .class_ 3)] 3

/-- java/lang/Cloneable -/
def k6 : Class := { plain "java/lang/Cloneable" (some 0) with
  accessFlags := 1537
  interfaces := #[]
  cf := some (fileOf pool6 2 #[] #[] 1537 4 #[] #[])
  fields := #[]
  methods := #[]
  instanceTypes := #[]
  staticTypes := #[]
  resolved := Array.replicate 8 none
  statics := none }

def pool7 : Array CpInfo := pool [(1, u "java/io/Serializable"), (0, .class_ 1), (0, u "java/lang/Object"), (0, .class_ 3)] 3

/-- java/io/Serializable -/
def k7 : Class := { plain "java/io/Serializable" (some 0) with
  accessFlags := 1537
  interfaces := #[]
  cf := some (fileOf pool7 2 #[] #[] 1537 4 #[] #[])
  fields := #[]
  methods := #[]
  instanceTypes := #[]
  staticTypes := #[]
  resolved := Array.replicate 8 none
  statics := none }

/-- the primitive byte -/
def k8 : Class := { plain "byte" none with kind := .primitive 'B', accessFlags := 0x411 }
/-- [B -/
def k9 : Class := { plain "[B" (some 0) with kind := .array 8 .byte, interfaces := #[6, 7], accessFlags := 1041 }

/-- the primitive int -/
def k10 : Class := { plain "int" none with kind := .primitive 'I', accessFlags := 0x411 }
/-- [I -/
def k11 : Class := { plain "[I" (some 0) with kind := .array 10 .int, interfaces := #[6, 7], accessFlags := 1041 }

/-- the primitive long -/
def k12 : Class := { plain "long" none with kind := .primitive 'J', accessFlags := 0x411 }
/-- [J -/
def k13 : Class := { plain "[J" (some 0) with kind := .array 12 .long, interfaces := #[6, 7], accessFlags := 1041 }

def heap : Heap := #[]
def classes : Array Class := #[k0, k1, k2, k3, k4, k5, k6, k7, k8, k9, k10, k11, k12, k13]
def interned : List (Array UInt16 × Addr) := []
def slotsUsed : Nat := 0
def theMethod : MethodId := ⟨1, 2⟩
def args0 : Array Value := #[.long 5, .long 3, .long 4, .long 1, .long 2, .int 4]
def aboutOver (below : List Frame) : State where
  vm := { classes := classes, interned := interned.toArray }
  heap := heap
  slotsUsed := slotsUsed
  threads := #[{ frames := .invoking theMethod args0 :: below }]
def below0 : List Frame := [.native { method := ⟨0, 0⟩, args := #[] }]
def about1 : State := aboutOver below0
def p0 : Program := .bare "" "" ""
def e0 : Env := launch0.env 0 0 0
theorem w_frames : about1.frames = Frame.invoking theMethod args0 :: below0 := rfl
set_option maxRecDepth 65536 in
theorem w_args : argsFit about1.vm theMethod args0 = true := by decide +kernel
set_option maxRecDepth 65536 in
theorem w_heap : heapFits about1 = true := by decide +kernel
set_option maxRecDepth 65536 in
theorem w_runnable : about1.curStatus? = some .runnable := by decide +kernel
set_option maxRecDepth 65536 in
theorem w_alone : about1.alone = true := by decide +kernel
set_option maxRecDepth 65536 in
theorem w_named : about1.methodNamed? x = some theMethod := by decide +kernel
set_option maxRecDepth 65536 in
theorem w_hears : about1.hears theMethod below0 = true := by decide +kernel
set_option maxRecDepth 65536 in
theorem w_ripe : about1.ripe theMethod args0 below0 = true := by decide +kernel
theorem w_running : about1.status = .running := rfl
set_option maxRecDepth 65536 in
theorem w_room : about1.hasRoom e0.platform room_1 = true :=
  launch0.hasRoom_least _ room_1 (by decide +kernel) (by decide +kernel) (by decide +kernel) (by decide +kernel) (by decide +kernel) (by decide +kernel)
theorem allAtoms_all (ts : List Jvm.Cond) (a : Array Jvm.Value) (st : Jvm.State) : (allAtoms ts).before a st = ts.all (fun c => c.before a st) := by
  induction ts with
  | nil => rfl
  | cons c t ih =>
    show (Jvm.Cond.and c (allAtoms t)).before a st = _
    rw [Jvm.Cond.before_and, ih, List.all_cons]
def words1 : List Jvm.Cond := Jvm.Cond.code x code maxLocals ret :: tables_1
/-- a 'code' word, met by the world's own term for the bytes: nothing is compared byte by byte -/
theorem code_word {y : MethodName} {bytes : ByteArray} {mx : Nat} {rt : Option FieldType} {a : Array Value} {s : State} {m : MethodId} {meth : Method} {c : Code} (h1 : s.methodNamed? y = some m) (h2 : s.vm.method? m = some meth) (h3 : meth.code = some c) (h4 : c.code = bytes)
    (h5 : (c.maxLocals == mx && c.exceptionTable.isEmpty && decide (c.maxStack ≤ mostOperands) && decide (meth.sig.returnType = rt) && !meth.locks && decide (parseMethodDescriptor y.desc = some meth.sig)) = true) : (Jvm.Cond.code y bytes mx rt).before a s = true := by
  simp only [Bool.and_eq_true, beq_iff_eq, Bool.not_eq_true', decide_eq_true_eq] at h5
  obtain ⟨⟨⟨⟨⟨g1, g2⟩, g3⟩, g4⟩, g5⟩, g6⟩ := h5
  simp [Cond.before, Cond.holds, Cond.value, h1, h2, h3, h4, g1, g2, g3, g4, g5, g6]
def isCode : Jvm.Cond → Bool
  | .code _ _ _ _ => true
  | _ => false
theorem all_split {L : List Jvm.Cond} {P : Jvm.Cond → Bool} (h1 : L.all (fun c => isCode c || P c) = true) (h2 : ∀ c ∈ L.filter isCode, P c = true) : L.all P = true := by
  refine List.all_eq_true.mpr fun c hc => ?_
  have h := List.all_eq_true.mp h1 c hc
  rcases Bool.eq_false_or_eq_true (isCode c) with hi | hi
  · exact h2 c (List.mem_filter.mpr ⟨hc, hi⟩)
  · simpa [hi] using h
set_option maxRecDepth 65536 in
theorem w_c0 : (Jvm.Cond.code x code maxLocals ret).before args0 about1 = true := code_word (m := ⟨1, 2⟩) (meth := k1m2) (c := k1c2) (by decide +kernel) rfl rfl rfl (by decide +kernel)
set_option maxRecDepth 65536 in
theorem w_c1 : (Jvm.Cond.code ({ cls := "com/example/libmakespan/libmakespan/planners/LongHeapRemovePinLaw", name := "cs", desc := "([JII)V" } : Jvm.MethodName) method_2_code (5 : Nat) (Option.none : Option Jvm.ClassFile.FieldType)).before args0 about1 = true := code_word (m := ⟨1, 1⟩) (meth := k1m1) (c := k1c1) (by decide +kernel) rfl rfl rfl (by decide +kernel)
set_option maxRecDepth 65536 in
theorem w_c2 : (Jvm.Cond.code ({ cls := "com/example/libmakespan/libmakespan/planners/LongHeap", name := "<init>", desc := "(I)V" } : Jvm.MethodName) prog_91_method_1_code (2 : Nat) (Option.none : Option Jvm.ClassFile.FieldType)).before args0 about1 = true := code_word (m := ⟨2, 0⟩) (meth := k2m0) (c := k2c0) (by decide +kernel) rfl rfl rfl (by decide +kernel)
set_option maxRecDepth 65536 in
theorem w_c3 : (Jvm.Cond.code ({ cls := "java/lang/Object", name := "<init>", desc := "()V" } : Jvm.MethodName) object_method_1_code (1 : Nat) (Option.none : Option Jvm.ClassFile.FieldType)).before args0 about1 = true := code_word (m := ⟨0, 0⟩) (meth := k0m0) (c := k0c0) (by decide +kernel) rfl rfl rfl (by decide +kernel)
set_option maxRecDepth 65536 in
theorem w_c4 : (Jvm.Cond.code ({ cls := "java/lang/Math", name := "max", desc := "(II)I" } : Jvm.MethodName) jdk_29_method_65_code (2 : Nat) (Option.some Jvm.ClassFile.FieldType.int)).before args0 about1 = true := code_word (m := ⟨3, 1⟩) (meth := k3m1) (c := k3c1) (by decide +kernel) rfl rfl rfl (by decide +kernel)
set_option maxRecDepth 65536 in
theorem w_c5 : (Jvm.Cond.code ({ cls := "com/example/libmakespan/libmakespan/planners/LongHeap", name := "add", desc := "(J)V" } : Jvm.MethodName) prog_91_method_4_code (5 : Nat) (Option.none : Option Jvm.ClassFile.FieldType)).before args0 about1 = true := code_word (m := ⟨2, 2⟩) (meth := k2m2) (c := k2c2) (by decide +kernel) rfl rfl rfl (by decide +kernel)
set_option maxRecDepth 65536 in
theorem w_c6 : (Jvm.Cond.code ({ cls := "java/util/Arrays", name := "copyOf", desc := "([JI)[J" } : Jvm.MethodName) jdk_65_method_124_code (3 : Nat) (Option.some (Jvm.ClassFile.FieldType.array Jvm.ClassFile.FieldType.long))).before args0 about1 = true := code_word (m := ⟨4, 1⟩) (meth := k4m1) (c := k4c1) (by decide +kernel) rfl rfl rfl (by decide +kernel)
set_option maxRecDepth 65536 in
theorem w_c7 : (Jvm.Cond.code ({ cls := "java/lang/Math", name := "min", desc := "(II)I" } : Jvm.MethodName) jdk_29_method_69_code (2 : Nat) (Option.some Jvm.ClassFile.FieldType.int)).before args0 about1 = true := code_word (m := ⟨3, 2⟩) (meth := k3m2) (c := k3c2) (by decide +kernel) rfl rfl rfl (by decide +kernel)
set_option maxRecDepth 65536 in
theorem w_c8 : (Jvm.Cond.code ({ cls := "com/example/libmakespan/libmakespan/planners/LongHeap", name := "remove", desc := "()J" } : Jvm.MethodName) prog_91_method_5_code (7 : Nat) (Option.some Jvm.ClassFile.FieldType.long)).before args0 about1 = true := code_word (m := ⟨2, 3⟩) (meth := k2m3) (c := k2c3) (by decide +kernel) rfl rfl rfl (by decide +kernel)
set_option maxRecDepth 65536 in
theorem w_c9 : (Jvm.Cond.code ({ cls := "com/example/libmakespan/libmakespan/planners/LongHeap", name := "isEmpty", desc := "()Z" } : Jvm.MethodName) prog_91_method_2_code (1 : Nat) (Option.some Jvm.ClassFile.FieldType.boolean)).before args0 about1 = true := code_word (m := ⟨2, 1⟩) (meth := k2m1) (c := k2c1) (by decide +kernel) rfl rfl rfl (by decide +kernel)
def codes1 : List Jvm.Cond := [Jvm.Cond.code x code maxLocals ret, Jvm.Cond.code ({ cls := "com/example/libmakespan/libmakespan/planners/LongHeapRemovePinLaw", name := "cs", desc := "([JII)V" } : Jvm.MethodName) method_2_code (5 : Nat) (Option.none : Option Jvm.ClassFile.FieldType), Jvm.Cond.code ({ cls := "com/example/libmakespan/libmakespan/planners/LongHeap", name := "<init>", desc := "(I)V" } : Jvm.MethodName) prog_91_method_1_code (2 : Nat) (Option.none : Option Jvm.ClassFile.FieldType), Jvm.Cond.code ({ cls := "java/lang/Object", name := "<init>", desc := "()V" } : Jvm.MethodName) object_method_1_code (1 : Nat) (Option.none : Option Jvm.ClassFile.FieldType), Jvm.Cond.code ({ cls := "java/lang/Math", name := "max", desc := "(II)I" } : Jvm.MethodName) jdk_29_method_65_code (2 : Nat) (Option.some Jvm.ClassFile.FieldType.int), Jvm.Cond.code ({ cls := "com/example/libmakespan/libmakespan/planners/LongHeap", name := "add", desc := "(J)V" } : Jvm.MethodName) prog_91_method_4_code (5 : Nat) (Option.none : Option Jvm.ClassFile.FieldType), Jvm.Cond.code ({ cls := "java/util/Arrays", name := "copyOf", desc := "([JI)[J" } : Jvm.MethodName) jdk_65_method_124_code (3 : Nat) (Option.some (Jvm.ClassFile.FieldType.array Jvm.ClassFile.FieldType.long)), Jvm.Cond.code ({ cls := "java/lang/Math", name := "min", desc := "(II)I" } : Jvm.MethodName) jdk_29_method_69_code (2 : Nat) (Option.some Jvm.ClassFile.FieldType.int), Jvm.Cond.code ({ cls := "com/example/libmakespan/libmakespan/planners/LongHeap", name := "remove", desc := "()J" } : Jvm.MethodName) prog_91_method_5_code (7 : Nat) (Option.some Jvm.ClassFile.FieldType.long), Jvm.Cond.code ({ cls := "com/example/libmakespan/libmakespan/planners/LongHeap", name := "isEmpty", desc := "()Z" } : Jvm.MethodName) prog_91_method_2_code (1 : Nat) (Option.some Jvm.ClassFile.FieldType.boolean)]
set_option maxRecDepth 65536 in
theorem codes_eq : words1.filter isCode = codes1 := rfl
theorem w_codes : ∀ c ∈ words1.filter isCode, c.before args0 about1 = true := by
  rw [codes_eq]
  intro c hc
  simp only [codes1, List.mem_cons, List.not_mem_nil, or_false] at hc
  rcases hc with rfl | rfl | rfl | rfl | rfl | rfl | rfl | rfl | rfl | rfl
  · exact w_c0
  · exact w_c1
  · exact w_c2
  · exact w_c3
  · exact w_c4
  · exact w_c5
  · exact w_c6
  · exact w_c7
  · exact w_c8
  · exact w_c9
set_option maxRecDepth 65536 in
theorem w_t1 : (words1.take 24).all (fun c => isCode c || c.before args0 about1) = true := by decide +kernel
set_option maxRecDepth 65536 in
theorem w_t2 : ((words1.drop 24).take 24).all (fun c => isCode c || c.before args0 about1) = true := by decide +kernel
set_option maxRecDepth 65536 in
theorem w_t3 : ((words1.drop 24).drop 24).all (fun c => isCode c || c.before args0 about1) = true := by decide +kernel
theorem w_tables : (allAtoms (Jvm.Cond.code x code maxLocals ret :: tables_1)).before args0 about1 = true := by
  rw [allAtoms_all]
  show words1.all (fun c => c.before args0 about1) = true
  refine all_split ?_ w_codes
  rw [← List.take_append_drop 24 words1, List.all_append, w_t1, ← List.take_append_drop 24 (words1.drop 24), List.all_append, w_t2, w_t3]
  rfl
set_option maxRecDepth 65536 in
theorem w_case : (Jvm.Cond.and given_1 narrow_1).before args0 about1 = true := by decide +kernel
theorem w_applies : (headSpec (Jvm.Cond.code x code maxLocals ret :: tables_1) room_1).applies x e0.platform about1 = true :=
  (Spec.applies_iff w_frames).mpr ⟨w_running, w_runnable, w_alone, w_named, w_hears, w_ripe, w_room, w_tables⟩
theorem atStart : AtStart classFile x code maxLocals ret World_1 tables_1 room_1 Calls_1 rest_1 Pre_1 launch0 p0 e0 about1 theMethod args0 below0 :=
  ⟨lists_1, trivial, launch0.admits_env _ _ _, launch0.least_env, fairChoices_fair.cas, fairChoices_fair.clock, w_frames, w_args, w_heap, w_applies, trivial, trivial, w_case⟩
end start1
theorem witness_1 : WitnessClaimed_1 := ⟨start1.p0, start1.e0, start1.about1, start1.theMethod, start1.args0, start1.below0, start1.atStart⟩
end Jvm.Pilot.@@N@@
