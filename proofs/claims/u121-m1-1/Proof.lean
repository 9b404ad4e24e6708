import JvmDerived
import JvmDerived.Pilot.@@N@@Statement
import JvmDerived.Pilot.@@N@@Code
set_option linter.unusedVariables false
set_option linter.unusedSimpArgs false
namespace Jvm.RoadKit
open Sem ClassFile Op Lib Jvm.Stand Jvm.Free Jvm.LawKit
section New
variable {p : Program} {l : Launch} {e : Env} {R : Room} {s : State} {m : MethodId} {args : Array Value} {below : List Frame} {meth : Method} {c : Code} {T : State} {locs : List Loc} {cells slots : Nat}
theorem retI (X : Stand p l e R s m args below meth c T locs cells slots) (hx : p.tables.exec = Jvm.exec) {pc : Nat} {Ls : Array Slot} {z : Int32} {rest : List Value} (hret : meth.sig.returnType = some .int) (hd : decode c.code pc = .ok (.ireturn, 1)) {fs : List Frame}
    (hl : ∀ (f : JFrame) (acts : List Action), f.method = m → f.locked = none → f.entered = [] → (doReturn e (T.setTop f) acts (some (.int z))).1 = T.setFrames fs) : Steps p.tables e below (T.setTop (mkF m pc Ls (.int z :: rest))) (T.setFrames fs) := by
  have hm' : T.vm.method? m = some meth := X.method'
  have hn : narrow .int (.int z) = .int z := rfl
  show Steps p.tables e below (T.setTop { method := m, pc := pc, locals := Ls, stack := _ :: rest, locked := none }) _
  jvm_step X.here [X.here.top, hx, hd, hm', hret, hn]
  first | (intro acts; rw [hl _ acts rfl rfl rfl]) | rw [hl _ _ rfl rfl rfl]
  exact Steps.refl _
end New
end Jvm.RoadKit
namespace Jvm.Pilot.@@N@@
open Jvm Jvm.ClassFile Sem Op Lib Jvm.Free Jvm.Stand Jvm.LawKit Jvm.RoadKit Bundle Jvm.Pilot.@@N@@.Jvm.D
section Own
variable {p : Program} {l : Launch} {e : Env} {R : Room} {s : State} {m : MethodId} {args : Array Value} {below : List Frame} {meth : Method} {c : Code} {T T' : State} {locs : List Loc} {cells slots : Nat}
/-- what a walk has still to come to: it ends, with an answer of which Q is true -/
def own_Ends (p : Program) (e : Env) (below : List Frame) (U : State) (C S : Nat) (Q : Option Value → Heap → List Loc → Prop) (T : State) (f : JFrame) : Prop :=
  ∃ s₂ o, Steps p.tables e below (T.setTop f) s₂ ∧ s₂.status = .running ∧ Ended s₂ below o ∧ ∃ v L, o = .returned v ∧ Q v s₂.heap L ∧ FrameEnd U o s₂ L C S
theorem own_step {U : State} {C S : Nat} {Q : Option Value → Heap → List Loc → Prop} {f f' : JFrame} (h : ∀ t, Steps p.tables e below (T'.setTop f') t → Steps p.tables e below (T.setTop f) t) (k : own_Ends p e below U C S Q T' f') : own_Ends p e below U C S Q T f := by
  obtain ⟨s₂, o, h1, h2⟩ := k
  exact ⟨s₂, o, h _ h1, h2⟩
/-- a pure answer: that value, nothing old written, the heap as it was -/
def own_P (w : Value) (h0 : Heap) (n0 : Nat) (v : Option Value) (h : Heap) (L : List Loc) : Prop := v = some w ∧ Fr n0 L ∧ h = h0
theorem own_retZ {C S : Nat} {Q : Option Value → Heap → List Loc → Prop} {pc : Nat} {Ls : Array Slot} {z : Int32} {t : FieldType} {rest : List Value} (X : Stand p l e R s m args below meth c T locs cells slots) (hx : p.tables.exec = Jvm.exec) (hret : meth.sig.returnType = some t) (ht : t = .boolean ∨ t = .byte ∨ t = .char ∨ t = .short) (hlk : meth.locks = false)
    (hd : decode c.code pc = .ok (.ireturn, 1)) (hC : cells ≤ C) (hS : slots ≤ S) (hq : Q (some (.int (nar t z))) T.heap locs) : own_Ends p e below s C S Q T (mkF m pc Ls (.int z :: rest)) := by
  obtain ⟨fs, hr, hrun, hended, hW, hsame⟩ := X.leave (v := some (.int (nar t z))) (fun h => by rw [hret] at h; cases h) hlk
  exact ⟨_, _, retN X hx hret ht hd hr, hrun, hended, _, _, rfl, hq, ⟨_, rfl⟩, hW, hsame.mono hC hS⟩
theorem own_retI {C S : Nat} {Q : Option Value → Heap → List Loc → Prop} {pc : Nat} {Ls : Array Slot} {z : Int32} {rest : List Value} (X : Stand p l e R s m args below meth c T locs cells slots) (hx : p.tables.exec = Jvm.exec) (hret : meth.sig.returnType = some .int) (hlk : meth.locks = false)
    (hd : decode c.code pc = .ok (.ireturn, 1)) (hC : cells ≤ C) (hS : slots ≤ S) (hq : Q (some (.int z)) T.heap locs) : own_Ends p e below s C S Q T (mkF m pc Ls (.int z :: rest)) := by
  obtain ⟨fs, hr, hrun, hended, hW, hsame⟩ := X.leave (v := some (.int z)) (fun h => by rw [hret] at h; cases h) hlk
  exact ⟨_, _, retI X hx hret hd hr, hrun, hended, _, _, rfl, hq, ⟨_, rfl⟩, hW, hsame.mono hC hS⟩
def own_V (h0 : Heap) (n0 : Nat) (v : Option Value) (h : Heap) (L : List Loc) : Prop := v = none ∧ Fr n0 L ∧ h = h0
theorem own_retV {C S : Nat} {Q : Option Value → Heap → List Loc → Prop} {pc : Nat} {Ls : Array Slot} (X : Stand p l e R s m args below meth c T locs cells slots) (hx : p.tables.exec = Jvm.exec) (hret : meth.sig.returnType = none) (hlk : meth.locks = false)
    (hd : decode c.code pc = .ok (.return_, 1)) (hC : cells ≤ C) (hS : slots ≤ S) (hq : Q none T.heap locs) : own_Ends p e below s C S Q T (mkF m pc Ls []) := by
  obtain ⟨fs, hr, hrun, hended, hW, hsame⟩ := X.leave (v := none) (fun _ => rfl) hlk
  exact ⟨_, _, X.returnOut hx hret hd hr, hrun, hended, _, _, rfl, hq, ⟨_, rfl⟩, hW, hsame.mono hC hS⟩
theorem own_retJ {C S : Nat} {Q : Option Value → Heap → List Loc → Prop} {pc : Nat} {Ls : Array Slot} {z : Int64} (X : Stand p l e R s m args below meth c T locs cells slots) (hx : p.tables.exec = Jvm.exec) (hret : meth.sig.returnType = some .long) (hlk : meth.locks = false)
    (hd : decode c.code pc = .ok (.lreturn, 1)) (hC : cells ≤ C) (hS : slots ≤ S) (hq : Q (some (.long z)) T.heap locs) : own_Ends p e below s C S Q T (mkF m pc Ls [.long z]) := by
  obtain ⟨fs, hr, hrun, hended, hW, hsame⟩ := X.leave (v := some (.long z)) (fun h => by rw [hret] at h; cases h) hlk
  exact ⟨_, _, X.lreturnOut hx hret hd hr, hrun, hended, _, _, rfl, hq, ⟨_, rfl⟩, hW, hsame.mono hC hS⟩
end Own
section OwnArr
variable {p : Program} {l : Launch} {e : Env} {R : Room} {s : State} {m : MethodId} {args : Array Value} {below : List Frame} {meth : Method} {c : Code} {T : State} {locs : List Loc} {cells slots : Nat} {Z : State} {a0 : Array Value} {h h' : Heap} {a b : Addr} {ty : FieldType} {vs : List Value} {n0 : Nat}
/-- an answer of which the heap isn't said: that value, nothing old written -/
def own_W (Z : State) (w : Value) (a : Addr) (vs : List Value) (n0 : Nat) (v : Option Value) (h : Heap) (L : List Loc) : Prop := v = some w ∧ Fr n0 L ∧ (∃ c : Cell, Arr Z h a c .byte ∧ c.slots.toList = vs) ∧ n0 ≤ h.size
def own_R (w : Value) (n0 : Nat) (v : Option Value) (h : Heap) (L : List Loc) : Prop := v = some w ∧ Fr n0 L
/-- the array at a holds just these -/
def own_A (Z : State) (h : Heap) (a : Addr) (ty : FieldType) (vs : List Value) : Prop := ∃ c : Cell, Arr Z h a c ty ∧ c.slots.toList = vs
theorem own_A.lt (A : own_A Z h a ty vs) : a < h.size := by obtain ⟨c, A, -⟩ := A; exact A.lt
theorem own_A.ext (A : own_A Z h a ty vs) (E : Ext h h') : own_A Z h' a ty vs := by obtain ⟨c, A, q⟩ := A; exact ⟨c, A.ext E, q⟩
theorem own_A.other {sl : Nat} {v : Value} (A : own_A Z h b ty vs) (W : Wr h h' a sl v) (q : b ≠ a) : own_A Z h' b ty vs := by obtain ⟨c, A, r⟩ := A; exact ⟨c, A.other W q, r⟩
theorem own_A.set {k : Nat} {v : Value} (A : own_A Z h a ty vs) (W : Wr h h' a k v) : own_A Z h' a ty (vs.set k v) := by
  obtain ⟨c, A, r⟩ := A
  refine ⟨c.setSlot k v, A.same W, ?_⟩
  subst r
  simp [Cell.setSlot]
theorem own_A.size {c : Cell} (r : c.slots.toList = vs) : c.slots.size = vs.length := by subst r; simp
theorem own_new {aty : ArrayType} (X : Stand p l e R s m args below meth c T locs cells slots) (hx : p.tables.exec = Jvm.exec) (hZ : Z.Warmed39 s.vm) (w : (Cond.arrayClass (newarray.typeOf aty)).before a0 Z = true) (eT : T.heap = h) {g : JFrame} (hg : g.method = m) (hd : decode c.code g.pc = .ok (.newarray aty, 2)) {n : Int32} {rest : List Value} (hs : g.stack = .int n :: rest)
    (hn : ¬ n < 0) {k : Nat} (hk : n.toNatClampNeg = k) (hb : k * 8 ≤ 536870912) (hc : cells + 1 ≤ R.cells) (hl : slots + k ≤ R.slots) (Sz : n0 ≤ h.size) :
    ∃ T' h' b, Stand p l e R s m args below meth c T' locs (cells + 1) (slots + k) ∧ T'.heap = h' ∧ Ext h h' ∧ b = h.size ∧ n0 ≤ b ∧ n0 ≤ h'.size ∧ own_A Z h' b (newarray.typeOf aty) (List.replicate k (defaultValue (newarray.typeOf aty))) ∧
      ∀ target, Steps p.tables e below (T'.setTop { g with pc := g.pc + 2, stack := .ref b :: rest }) target → Steps p.tables e below (T.setTop g) target := by
  obtain ⟨T', h', cA, X', e', E, A, st⟩ := newP X hx hZ w eT hg hd hs hn (cap := k) (Nat.le_of_eq hk) hb hc hl
  exact ⟨T', h', h.size, X', e', E, rfl, Sz, Nat.le_trans Sz E.1, ⟨_, A, by simp [newA, hk]⟩, st⟩
theorem own_stI (X : Stand p l e R s m args below meth c T locs cells slots) (hx : p.tables.exec = Jvm.exec) (hZ : Z.Warmed39 s.vm) (eT : T.heap = h) (A : own_A Z h a .int vs) {j x : Int32} (hj : ¬ j < 0) {k : Nat} (hk : j.toNatClampNeg = k) (hl : k < vs.length) (N : Fr n0 locs) (ga : n0 ≤ a) (Sz : n0 ≤ h.size) {g : JFrame} (hg : g.method = m) {rest : List Value} (hs : g.stack = .int x :: .int j :: .ref a :: rest) (hd : decode c.code g.pc = .ok (.iastore, 1)) :
    ∃ T' h' locs', Stand p l e R s m args below meth c T' locs' cells slots ∧ Fr n0 locs' ∧ T'.heap = h' ∧ Wr h h' a k (.int x) ∧ n0 ≤ h'.size ∧ own_A Z h' a .int (vs.set k (.int x)) ∧ ∀ target, Steps p.tables e below (T'.setTop { g with pc := g.pc + 1, stack := rest }) target → Steps p.tables e below (T.setTop g) target := by
  obtain ⟨cl, Ar, r⟩ := id A
  subst hk
  obtain ⟨T', h', X', e', W, st⟩ := stI X hx hZ eT Ar (j := j) (x := x) (fun q => q.elim hj fun z => absurd hl (by rw [← own_A.size r]; omega)) hg hs hd
  exact ⟨T', h', _, X', Fr.snoc X' N ga, e', W, by rw [W.size]; exact Sz, A.set W, st⟩
theorem own_stJ (X : Stand p l e R s m args below meth c T locs cells slots) (hx : p.tables.exec = Jvm.exec) (hZ : Z.Warmed39 s.vm) (eT : T.heap = h) (A : own_A Z h a .long vs) {j : Int32} {x : Int64} (hj : ¬ j < 0) {k : Nat} (hk : j.toNatClampNeg = k) (hl : k < vs.length) (N : Fr n0 locs) (ga : n0 ≤ a) (Sz : n0 ≤ h.size) {g : JFrame} (hg : g.method = m) {rest : List Value} (hs : g.stack = .long x :: .int j :: .ref a :: rest) (hd : decode c.code g.pc = .ok (.lastore, 1)) :
    ∃ T' h' locs', Stand p l e R s m args below meth c T' locs' cells slots ∧ Fr n0 locs' ∧ T'.heap = h' ∧ Wr h h' a k (.long x) ∧ n0 ≤ h'.size ∧ own_A Z h' a .long (vs.set k (.long x)) ∧ ∀ target, Steps p.tables e below (T'.setTop { g with pc := g.pc + 1, stack := rest }) target → Steps p.tables e below (T.setTop g) target := by
  obtain ⟨cl, Ar, r⟩ := id A
  subst hk
  obtain ⟨T', h', X', e', W, st⟩ := stJ X hx hZ eT Ar (j := j) (x := x) (fun q => q.elim hj fun z => absurd hl (by rw [← own_A.size r]; omega)) hg hs hd
  exact ⟨T', h', _, X', Fr.snoc X' N ga, e', W, by rw [W.size]; exact Sz, A.set W, st⟩
theorem own_stB (X : Stand p l e R s m args below meth c T locs cells slots) (hx : p.tables.exec = Jvm.exec) (hZ : Z.Warmed39 s.vm) (eT : T.heap = h) (A : own_A Z h a .byte vs) {j x : Int32} (hj : ¬ j < 0) {k : Nat} (hk : j.toNatClampNeg = k) (hl : k < vs.length) (N : Fr n0 locs) (ga : n0 ≤ a) (Sz : n0 ≤ h.size) {g : JFrame} (hg : g.method = m) {rest : List Value} (hs : g.stack = .int x :: .int j :: .ref a :: rest) (hd : decode c.code g.pc = .ok (.bastore, 1)) :
    ∃ T' h' locs', Stand p l e R s m args below meth c T' locs' cells slots ∧ Fr n0 locs' ∧ T'.heap = h' ∧ Wr h h' a k (.int (nar .byte x)) ∧ n0 ≤ h'.size ∧ own_A Z h' a .byte (vs.set k (.int (nar .byte x))) ∧ ∀ target, Steps p.tables e below (T'.setTop { g with pc := g.pc + 1, stack := rest }) target → Steps p.tables e below (T.setTop g) target := by
  obtain ⟨cl, Ar, r⟩ := id A
  subst hk
  obtain ⟨T', h', X', e', W, st⟩ := stB X hx hZ eT Ar (j := j) (x := x) (fun q => q.elim hj fun z => absurd hl (by rw [← own_A.size r]; omega)) hg hs hd
  exact ⟨T', h', _, X', Fr.snoc X' N ga, e', W, by rw [W.size]; exact Sz, A.set W, st⟩
theorem own_at {cl : Cell} (r : cl.slots.toList = vs) {k : Nat} {v : Value} (hv : vs[k]? = some v) : cl.slots[k]? = some v ∧ k < cl.slots.size := by
  subst r
  rw [Array.getElem?_toList] at hv
  exact ⟨hv, (Array.getElem?_eq_some_iff.mp hv).1⟩
theorem own_ldI (X : Stand p l e R s m args below meth c T locs cells slots) (hx : p.tables.exec = Jvm.exec) (hZ : Z.Warmed39 s.vm) (eT : T.heap = h) (A : own_A Z h a .int vs) {j : Int32} (hj : ¬ j < 0) {k : Nat} (hk : j.toNatClampNeg = k) {v : Value} (hv : vs[k]? = some v) {g : JFrame} (hg : g.method = m) {rest : List Value} (hs : g.stack = .int j :: .ref a :: rest) (hd : decode c.code g.pc = .ok (.iaload, 1)) (target : State)
    (hr : Steps p.tables e below (T.setTop { g with pc := g.pc + 1, stack := v :: rest }) target) : Steps p.tables e below (T.setTop g) target := by
  obtain ⟨cl, Ar, r⟩ := A
  obtain ⟨q1, q2⟩ := own_at r hv
  subst hk
  exact X.iaload hx (j := j) (v := v) (by rw [eT]; exact Ar.1) (State.isArrayOf_alike hZ.alike Ar.2.1) Ar.2.2 (fun z => z.elim hj fun z => by omega) q1 hg hs hd target hr
theorem own_ldJ (X : Stand p l e R s m args below meth c T locs cells slots) (hx : p.tables.exec = Jvm.exec) (hZ : Z.Warmed39 s.vm) (eT : T.heap = h) (A : own_A Z h a .long vs) {j : Int32} (hj : ¬ j < 0) {k : Nat} (hk : j.toNatClampNeg = k) {v : Value} (hv : vs[k]? = some v) {g : JFrame} (hg : g.method = m) {rest : List Value} (hs : g.stack = .int j :: .ref a :: rest) (hd : decode c.code g.pc = .ok (.laload, 1)) (target : State)
    (hr : Steps p.tables e below (T.setTop { g with pc := g.pc + 1, stack := v :: rest }) target) : Steps p.tables e below (T.setTop g) target := by
  obtain ⟨cl, Ar, r⟩ := A
  obtain ⟨q1, q2⟩ := own_at r hv
  subst hk
  exact X.laload hx (j := j) (v := v) (by rw [eT]; exact Ar.1) (State.isArrayOf_alike hZ.alike Ar.2.1) Ar.2.2 (fun z => z.elim hj fun z => by omega) q1 hg hs hd target hr
theorem own_ldB (X : Stand p l e R s m args below meth c T locs cells slots) (hx : p.tables.exec = Jvm.exec) (hZ : Z.Warmed39 s.vm) (eT : T.heap = h) (A : own_A Z h a .byte vs) {j : Int32} (hj : ¬ j < 0) {k : Nat} (hk : j.toNatClampNeg = k) {v : Value} (hv : vs[k]? = some v) {g : JFrame} (hg : g.method = m) {rest : List Value} (hs : g.stack = .int j :: .ref a :: rest) (hd : decode c.code g.pc = .ok (.baload, 1)) (target : State)
    (hr : Steps p.tables e below (T.setTop { g with pc := g.pc + 1, stack := v :: rest }) target) : Steps p.tables e below (T.setTop g) target := by
  obtain ⟨cl, Ar, r⟩ := A
  obtain ⟨q1, q2⟩ := own_at r hv
  subst hk
  exact X.baloadBytes hx (j := j) (v := v) (by rw [eT]; exact Ar.1) (State.isArrayOf_alike hZ.alike Ar.2.1) Ar.2.2 (fun z => z.elim hj fun z => by omega) q1 hg hs hd target hr
theorem own_len (X : Stand p l e R s m args below meth c T locs cells slots) (hx : p.tables.exec = Jvm.exec) (hZ : Z.Warmed39 s.vm) (eT : T.heap = h) (A : own_A Z h a ty vs) {n : Int32} (hn : vs.length.toInt32 = n) {g : JFrame} (hg : g.method = m) {rest : List Value} (hs : g.stack = .ref a :: rest) (hd : decode c.code g.pc = .ok (.arraylength, 1)) (target : State)
    (hr : Steps p.tables e below (T.setTop { g with pc := g.pc + 1, stack := .int n :: rest }) target) : Steps p.tables e below (T.setTop g) target := by
  obtain ⟨cl, Ar, r⟩ := A
  refine X.arraylength hx (by rw [eT]; exact Ar.1) (State.isArrayOf_alike hZ.alike Ar.2.1) hg hs hd target ?_
  rw [own_A.size r, hn]
  exact hr
end OwnArr
theorem own_at4 (y : Int32) : (y &&& (3 : Int32)) = (0 : Int32) ∨ (y &&& (3 : Int32)) = (1 : Int32) ∨ (y &&& (3 : Int32)) = (2 : Int32) ∨ (y &&& (3 : Int32)) = (3 : Int32) := by
  have h := c_mask y 3 2 (by decide) (by decide)
  have hv : y &&& (3 : Int32) = Int32.ofNat (y.toInt % 4).toNat := by
    apply Int32.toInt_inj.mp
    rw [h, Int32.toInt_ofNat_of_lt (by omega)]; omega
  have key : ∀ k : Fin 4, ∀ z : Int32, z = Int32.ofNat k.val → z = 0 ∨ z = 1 ∨ z = 2 ∨ z = 3 := by
    intro k z hz; subst hz; revert k; decide +kernel
  exact key ⟨(y.toInt % 4).toNat, by omega⟩ _ hv
theorem own_ix0 (p : Int32) (hp : p = 0 ∨ p = 1 ∨ p = 2 ∨ p = 3) : ¬ p < 0 ∧ p.toNatClampNeg = p.toNatClampNeg + 0 := by rcases hp with rfl | rfl | rfl | rfl <;> decide +kernel
theorem own_ix1 (p : Int32) (hp : p = 0 ∨ p = 1 ∨ p = 2 ∨ p = 3) : ¬ (p + (1 : Int32)) < 0 ∧ (p + (1 : Int32)).toNatClampNeg = p.toNatClampNeg + 1 := by rcases hp with rfl | rfl | rfl | rfl <;> decide +kernel
theorem own_ix2 (p : Int32) (hp : p = 0 ∨ p = 1 ∨ p = 2 ∨ p = 3) : ¬ ((p + (1 : Int32)) + (1 : Int32)) < 0 ∧ ((p + (1 : Int32)) + (1 : Int32)).toNatClampNeg = p.toNatClampNeg + 2 := by rcases hp with rfl | rfl | rfl | rfl <;> decide +kernel
theorem own_ix3 (p : Int32) (hp : p = 0 ∨ p = 1 ∨ p = 2 ∨ p = 3) : ¬ (((p + (1 : Int32)) + (1 : Int32)) + (1 : Int32)) < 0 ∧ (((p + (1 : Int32)) + (1 : Int32)) + (1 : Int32)).toNatClampNeg = p.toNatClampNeg + 3 := by rcases hp with rfl | rfl | rfl | rfl <;> decide +kernel
theorem own_ix4 (p : Int32) (hp : p = 0 ∨ p = 1 ∨ p = 2 ∨ p = 3) : ¬ ((((p + (1 : Int32)) + (1 : Int32)) + (1 : Int32)) + (1 : Int32)) < 0 ∧ ((((p + (1 : Int32)) + (1 : Int32)) + (1 : Int32)) + (1 : Int32)).toNatClampNeg = p.toNatClampNeg + 4 := by rcases hp with rfl | rfl | rfl | rfl <;> decide +kernel

theorem d1_0 : decode method_2_code 0 = .ok (.iload_n 0, 1) := by decide +kernel
theorem d1_1 : decode method_2_code 1 = .ok (.bipush 7, 2) := by decide +kernel
theorem d1_3 : decode method_2_code 3 = .ok (.iload_n 1, 1) := by decide +kernel
theorem d1_4 : decode method_2_code 4 = .ok (.imul, 1) := by decide +kernel
theorem d1_5 : decode method_2_code 5 = .ok (.iushr, 1) := by decide +kernel
theorem d1_6 : decode method_2_code 6 = .ok (.bipush 127, 2) := by decide +kernel
theorem d1_8 : decode method_2_code 8 = .ok (.iand, 1) := by decide +kernel
theorem d1_9 : decode method_2_code 9 = .ok (.istore_n 3, 1) := by decide +kernel
theorem d1_10 : decode method_2_code 10 = .ok (.iload_n 1, 1) := by decide +kernel
theorem d1_11 : decode method_2_code 11 = .ok (.iload_n 2, 1) := by decide +kernel
theorem d1_12 : decode method_2_code 12 = .ok (.iconst 1, 1) := by decide +kernel
theorem d1_13 : decode method_2_code 13 = .ok (.isub, 1) := by decide +kernel
theorem d1_14 : decode method_2_code 14 = .ok (.if_icmp .ge 9, 3) := by decide +kernel
theorem d1_17 : decode method_2_code 17 = .ok (.sipush 128, 3) := by decide +kernel
theorem d1_20 : decode method_2_code 20 = .ok (.goto 4, 3) := by decide +kernel
theorem d1_23 : decode method_2_code 23 = .ok (.iconst 0, 1) := by decide +kernel
theorem d1_24 : decode method_2_code 24 = .ok (.istore 4, 2) := by decide +kernel
theorem d1_26 : decode method_2_code 26 = .ok (.iload_n 3, 1) := by decide +kernel
theorem d1_27 : decode method_2_code 27 = .ok (.iload 4, 2) := by decide +kernel
theorem d1_29 : decode method_2_code 29 = .ok (.ior, 1) := by decide +kernel
theorem d1_30 : decode method_2_code 30 = .ok (.i2b, 1) := by decide +kernel
theorem d1_31 : decode method_2_code 31 = .ok (.ireturn, 1) := by decide +kernel
theorem pn1 : plainName "hotstate/sort/VarIntsReadPinLaw" = true := by first | (simp [plainName, overriddenIn]; done) | decide +kernel
theorem pd1 : parseMethodDescriptor "(III)B" = some ⟨[.int, .int, .int], some .byte⟩ := by decide +kernel
theorem ef1 (m : MethodId) (p0 : Int32) (p1 : Int32) (p2 : Int32) : entryFrame m #[(.int p0), (.int p1), (.int p2)] 5 = mkF m 0 #[.val (.int p0), .val (.int p1), .val (.int p2), .unset, .unset] [] := by first | (simp [entryFrame, mkF, argsToLocals, Value.category]; done) | rfl
def f1_24 (i3 : Int32) (k0 : Int32) : Int32 :=
  nar .byte ((i3 ||| k0).toInt8.toInt32)
set_option maxRecDepth 65536 in
set_option maxHeartbeats 4000000 in
theorem b1_24 {p : Program} {l : Launch} {e : Env} {s : State} {m : MethodId} {args : Array Value} {below : List Frame} {meth : Method} {c : Code} {T0 : State} {locs : List Loc} {Z : State} {a0 : Array Value} {h0 : Heap} {n0 : Nat} (i0 : Int32) (i1 : Int32) (i2 : Int32) (i3 : Int32) (k0 : Int32) {r : Int32} (X0 : Stand p l e ({ frames := 0, cells := 0, slots := 0, locals := 0 } : Room) s m args below meth c T0 locs 0 0) (hx : p.tables.exec = Jvm.exec) (hZ : Z.Warmed39 s.vm) (hw : ∀ d ∈ tables_1, d.before a0 Z = true) (hby : c.code = method_2_code) (hml : c.maxLocals = 5) (hown : s.vm.findClass "hotstate/sort/VarIntsReadPinLaw" = some m.cls) (hret : meth.sig.returnType = some .byte) (hlk : meth.locks = false) (e0 : T0.heap = h0) (N0 : Fr n0 locs) (hr : r = f1_24 i3 k0) :
    own_Ends p e below s 0 0 (own_P (.int r) h0 n0) T0 (mkF m 24 #[.val (.int i0), .val (.int i1), .val (.int i2), .val (.int i3), .unset] [(.int k0)]) := by
  unfold f1_24 at hr
  refine own_step (T' := T0) (f' := (mkF m 31 #[.val (.int i0), .val (.int i1), .val (.int i2), .val (.int i3), .val (.int k0)] [(.int ((i3 ||| k0).toInt8.toInt32))])) (fun t kt => ?_) ?_
  · show Steps p.tables e below (T0.setTop (mkF m 24 #[.val (.int i0), .val (.int i1), .val (.int i2), .val (.int i3), .unset] [(.int k0)])) _
    refine XS.istore X0.here hx rfl (hb hby d1_24) rfl (l' := #[.val (.int i0), .val (.int i1), .val (.int i2), .val (.int i3), .val (.int k0)]) rfl ?_
    show Steps p.tables e below (T0.setTop (mkF m 26 #[.val (.int i0), .val (.int i1), .val (.int i2), .val (.int i3), .val (.int k0)] [])) _
    refine XS.iloadN X0.here hx rfl (hb hby d1_26) rfl ?_
    show Steps p.tables e below (T0.setTop (mkF m 27 #[.val (.int i0), .val (.int i1), .val (.int i2), .val (.int i3), .val (.int k0)] [(.int i3)])) _
    refine XS.iload X0.here hx rfl (hb hby d1_27) rfl ?_
    show Steps p.tables e below (T0.setTop (mkF m 29 #[.val (.int i0), .val (.int i1), .val (.int i2), .val (.int i3), .val (.int k0)] [(.int k0), (.int i3)])) _
    refine XS.ior X0.here hx rfl (hb hby d1_29) rfl ?_
    show Steps p.tables e below (T0.setTop (mkF m 30 #[.val (.int i0), .val (.int i1), .val (.int i2), .val (.int i3), .val (.int k0)] [(.int (i3 ||| k0))])) _
    refine XS.i2b X0.here hx rfl (hb hby d1_30) rfl ?_
    exact kt
  exact own_retZ X0 hx hret (by simp) hlk (hb hby d1_31) (Nat.le_refl _) (Nat.le_refl _) ⟨congrArg (fun z => some (Value.int z)) hr.symm, N0, e0⟩
def f1_0 (p0 : Int32) (p1 : Int32) (p2 : Int32) : Int32 :=
  if p1 < (p2 - (1 : Int32)) then (f1_24 (((p0.toUInt32 >>> (((7 : Int32) * p1) &&& 31).toUInt32).toInt32) &&& (127 : Int32)) (128 : Int32)) else (f1_24 (((p0.toUInt32 >>> (((7 : Int32) * p1) &&& 31).toUInt32).toInt32) &&& (127 : Int32)) (0 : Int32))
set_option maxRecDepth 65536 in
set_option maxHeartbeats 4000000 in
theorem b1_0 {p : Program} {l : Launch} {e : Env} {s : State} {m : MethodId} {args : Array Value} {below : List Frame} {meth : Method} {c : Code} {T0 : State} {locs : List Loc} {Z : State} {a0 : Array Value} {h0 : Heap} {n0 : Nat} (p0 : Int32) (p1 : Int32) (p2 : Int32) {r : Int32} (X0 : Stand p l e ({ frames := 0, cells := 0, slots := 0, locals := 0 } : Room) s m args below meth c T0 locs 0 0) (hx : p.tables.exec = Jvm.exec) (hZ : Z.Warmed39 s.vm) (hw : ∀ d ∈ tables_1, d.before a0 Z = true) (hby : c.code = method_2_code) (hml : c.maxLocals = 5) (hown : s.vm.findClass "hotstate/sort/VarIntsReadPinLaw" = some m.cls) (hret : meth.sig.returnType = some .byte) (hlk : meth.locks = false) (e0 : T0.heap = h0) (N0 : Fr n0 locs) (hr : r = f1_0 p0 p1 p2) :
    own_Ends p e below s 0 0 (own_P (.int r) h0 n0) T0 (mkF m 0 #[.val (.int p0), .val (.int p1), .val (.int p2), .unset, .unset] []) := by
  unfold f1_0 at hr
  refine own_step (T' := T0) (f' := (mkF m 14 #[.val (.int p0), .val (.int p1), .val (.int p2), .val (.int (((p0.toUInt32 >>> (((7 : Int32) * p1) &&& 31).toUInt32).toInt32) &&& (127 : Int32))), .unset] [(.int (p2 - (1 : Int32))), (.int p1)])) (fun t kt => ?_) ?_
  · show Steps p.tables e below (T0.setTop (mkF m 0 #[.val (.int p0), .val (.int p1), .val (.int p2), .unset, .unset] [])) _
    refine XS.iloadN X0.here hx rfl (hb hby d1_0) rfl ?_
    show Steps p.tables e below (T0.setTop (mkF m 1 #[.val (.int p0), .val (.int p1), .val (.int p2), .unset, .unset] [(.int p0)])) _
    refine XS.bipush X0.here hx rfl (hb hby d1_1) ?_
    show Steps p.tables e below (T0.setTop (mkF m 3 #[.val (.int p0), .val (.int p1), .val (.int p2), .unset, .unset] [(.int (7 : Int32)), (.int p0)])) _
    refine XS.iloadN X0.here hx rfl (hb hby d1_3) rfl ?_
    show Steps p.tables e below (T0.setTop (mkF m 4 #[.val (.int p0), .val (.int p1), .val (.int p2), .unset, .unset] [(.int p1), (.int (7 : Int32)), (.int p0)])) _
    refine XS.imul X0.here hx rfl (hb hby d1_4) rfl ?_
    show Steps p.tables e below (T0.setTop (mkF m 5 #[.val (.int p0), .val (.int p1), .val (.int p2), .unset, .unset] [(.int ((7 : Int32) * p1)), (.int p0)])) _
    refine XS.iushr X0.here hx rfl (hb hby d1_5) rfl ?_
    show Steps p.tables e below (T0.setTop (mkF m 6 #[.val (.int p0), .val (.int p1), .val (.int p2), .unset, .unset] [(.int ((p0.toUInt32 >>> (((7 : Int32) * p1) &&& 31).toUInt32).toInt32))])) _
    refine XS.bipush X0.here hx rfl (hb hby d1_6) ?_
    show Steps p.tables e below (T0.setTop (mkF m 8 #[.val (.int p0), .val (.int p1), .val (.int p2), .unset, .unset] [(.int (127 : Int32)), (.int ((p0.toUInt32 >>> (((7 : Int32) * p1) &&& 31).toUInt32).toInt32))])) _
    refine XS.iand X0.here hx rfl (hb hby d1_8) rfl ?_
    show Steps p.tables e below (T0.setTop (mkF m 9 #[.val (.int p0), .val (.int p1), .val (.int p2), .unset, .unset] [(.int (((p0.toUInt32 >>> (((7 : Int32) * p1) &&& 31).toUInt32).toInt32) &&& (127 : Int32)))])) _
    refine XS.istoreN X0.here hx rfl (hb hby d1_9) rfl (l' := #[.val (.int p0), .val (.int p1), .val (.int p2), .val (.int (((p0.toUInt32 >>> (((7 : Int32) * p1) &&& 31).toUInt32).toInt32) &&& (127 : Int32))), .unset]) rfl ?_
    show Steps p.tables e below (T0.setTop (mkF m 10 #[.val (.int p0), .val (.int p1), .val (.int p2), .val (.int (((p0.toUInt32 >>> (((7 : Int32) * p1) &&& 31).toUInt32).toInt32) &&& (127 : Int32))), .unset] [])) _
    refine XS.iloadN X0.here hx rfl (hb hby d1_10) rfl ?_
    show Steps p.tables e below (T0.setTop (mkF m 11 #[.val (.int p0), .val (.int p1), .val (.int p2), .val (.int (((p0.toUInt32 >>> (((7 : Int32) * p1) &&& 31).toUInt32).toInt32) &&& (127 : Int32))), .unset] [(.int p1)])) _
    refine XS.iloadN X0.here hx rfl (hb hby d1_11) rfl ?_
    show Steps p.tables e below (T0.setTop (mkF m 12 #[.val (.int p0), .val (.int p1), .val (.int p2), .val (.int (((p0.toUInt32 >>> (((7 : Int32) * p1) &&& 31).toUInt32).toInt32) &&& (127 : Int32))), .unset] [(.int p2), (.int p1)])) _
    refine XS.iconst X0.here hx rfl (hb hby d1_12) ?_
    show Steps p.tables e below (T0.setTop (mkF m 13 #[.val (.int p0), .val (.int p1), .val (.int p2), .val (.int (((p0.toUInt32 >>> (((7 : Int32) * p1) &&& 31).toUInt32).toInt32) &&& (127 : Int32))), .unset] [(.int (1 : Int32)), (.int p2), (.int p1)])) _
    refine XS.isub X0.here hx rfl (hb hby d1_13) rfl ?_
    exact kt
  by_cases hc14_1 : p1 < (p2 - (1 : Int32))
  · replace hr := hr.trans (if_pos hc14_1)
    refine own_step (T' := T0) (f' := (mkF m 17 #[.val (.int p0), .val (.int p1), .val (.int p2), .val (.int (((p0.toUInt32 >>> (((7 : Int32) * p1) &&& 31).toUInt32).toInt32) &&& (127 : Int32))), .unset] [])) (fun t kt => ?_) ?_
    · show Steps p.tables e below (T0.setTop (mkF m 14 #[.val (.int p0), .val (.int p1), .val (.int p2), .val (.int (((p0.toUInt32 >>> (((7 : Int32) * p1) &&& 31).toUInt32).toInt32) &&& (127 : Int32))), .unset] [(.int (p2 - (1 : Int32))), (.int p1)])) _
      refine XS.icmpNo X0.here hx rfl (hb hby d1_14) rfl (tlt hc14_1).2.1 kt
    refine own_step (T' := T0) (f' := (mkF m 24 #[.val (.int p0), .val (.int p1), .val (.int p2), .val (.int (((p0.toUInt32 >>> (((7 : Int32) * p1) &&& 31).toUInt32).toInt32) &&& (127 : Int32))), .unset] [(.int (128 : Int32))])) (fun t kt => ?_) ?_
    · show Steps p.tables e below (T0.setTop (mkF m 17 #[.val (.int p0), .val (.int p1), .val (.int p2), .val (.int (((p0.toUInt32 >>> (((7 : Int32) * p1) &&& 31).toUInt32).toInt32) &&& (127 : Int32))), .unset] [])) _
      refine XS.sipush X0.here hx rfl (hb hby d1_17) ?_
      show Steps p.tables e below (T0.setTop (mkF m 20 #[.val (.int p0), .val (.int p1), .val (.int p2), .val (.int (((p0.toUInt32 >>> (((7 : Int32) * p1) &&& 31).toUInt32).toInt32) &&& (127 : Int32))), .unset] [(.int (128 : Int32))])) _
      refine XS.goto X0.here hx rfl (pc0 := 20) (pc' := 24) rfl (hb hby d1_20) (by decide) (by decide) ?_
      exact kt
    exact b1_24 p0 p1 p2 (((p0.toUInt32 >>> (((7 : Int32) * p1) &&& 31).toUInt32).toInt32) &&& (127 : Int32)) (128 : Int32) X0 hx hZ hw hby hml hown hret hlk e0 N0 hr
  · replace hr := hr.trans (if_neg hc14_1)
    refine own_step (T' := T0) (f' := (mkF m 23 #[.val (.int p0), .val (.int p1), .val (.int p2), .val (.int (((p0.toUInt32 >>> (((7 : Int32) * p1) &&& 31).toUInt32).toInt32) &&& (127 : Int32))), .unset] [])) (fun t kt => ?_) ?_
    · show Steps p.tables e below (T0.setTop (mkF m 14 #[.val (.int p0), .val (.int p1), .val (.int p2), .val (.int (((p0.toUInt32 >>> (((7 : Int32) * p1) &&& 31).toUInt32).toInt32) &&& (127 : Int32))), .unset] [(.int (p2 - (1 : Int32))), (.int p1)])) _
      refine XS.icmpYes X0.here hx rfl (pc0 := 14) (pc' := 23) rfl (hb hby d1_14) rfl (flt hc14_1).2.1 (by decide) (by decide) kt
    refine own_step (T' := T0) (f' := (mkF m 24 #[.val (.int p0), .val (.int p1), .val (.int p2), .val (.int (((p0.toUInt32 >>> (((7 : Int32) * p1) &&& 31).toUInt32).toInt32) &&& (127 : Int32))), .unset] [(.int (0 : Int32))])) (fun t kt => ?_) ?_
    · show Steps p.tables e below (T0.setTop (mkF m 23 #[.val (.int p0), .val (.int p1), .val (.int p2), .val (.int (((p0.toUInt32 >>> (((7 : Int32) * p1) &&& 31).toUInt32).toInt32) &&& (127 : Int32))), .unset] [])) _
      refine XS.iconst X0.here hx rfl (hb hby d1_23) ?_
      exact kt
    exact b1_24 p0 p1 p2 (((p0.toUInt32 >>> (((7 : Int32) * p1) &&& 31).toUInt32).toInt32) &&& (127 : Int32)) (0 : Int32) X0 hx hZ hw hby hml hown hret hlk e0 N0 hr
set_option maxRecDepth 65536 in
set_option maxHeartbeats 4000000 in
theorem rm1 (l : Launch) (Z : State) (a0 : Array Value) (hw : ∀ d ∈ tables_1, d.before a0 Z = true) (ws : List Jvm.Cond) (p0 : Int32) (p1 : Int32) (p2 : Int32) (h0 : Heap) (n0 : Nat) :
    MetFree l (⟨"hotstate/sort/VarIntsReadPinLaw", "enc", "(III)B"⟩ : MethodName) (head1 (Jvm.Cond.code (⟨"hotstate/sort/VarIntsReadPinLaw", "enc", "(III)B"⟩ : MethodName) method_2_code 5 (some .byte) :: ws) ({ frames := 0, cells := 0, slots := 0, locals := 0 } : Room)) (fun a U => a = #[(.int p0), (.int p1), (.int p2)] ∧ Z.Warmed39 U.vm ∧ U.heap = h0) (fun _ _ _ _ _ => True) (fun _ U o U' => ∃ v L, o = .returned v ∧ (own_P (.int (f1_0 p0 p1 p2)) h0 n0) v U'.heap L ∧ FrameEnd U o U' L ({ frames := 0, cells := 0, slots := 0, locals := 0 } : Room).cells ({ frames := 0, cells := 0, slots := 0, locals := 0 } : Room).slots) := by
  refine MetFree.of_bodySF (plainFor_of_name pn1) hisR ?_
  intro p e s m args below meth c s₁ Bd hml0 hP hK
  obtain ⟨rfl, hZ, hh⟩ := hP
  have hown : s.vm.findClass "hotstate/sort/VarIntsReadPinLaw" = some m.cls := findClass_of_methodNamed Bd.named
  have X0 : Stand p l e ({ frames := 0, cells := 0, slots := 0, locals := 0 } : Room) s m #[(.int p0), (.int p1), (.int p2)] below meth c s₁ [] 0 0 := Stand.of_body Bd
  have e0 : s₁.heap = h0 := by rw [← hh, Bd.state]; rfl
  show own_Ends p e below s 0 0 (own_P (.int (f1_0 p0 p1 p2)) h0 n0) s₁ (entryFrame m #[(.int p0), (.int p1), (.int p2)] 5)
  refine own_step (fun t k => castTop (ef1 m p0 p1 p2) k) ?_
  exact b1_0 p0 p1 p2 X0 Bd.exec hZ hw Bd.bytes hml0 hown Bd.returns (BodyLoose.notSynchronized Bd) e0 (Fr.nil n0) rfl
theorem d2_0 : decode prog_81_method_4_code 0 = .ok (.iconst 0, 1) := by decide +kernel
theorem d2_1 : decode prog_81_method_4_code 1 = .ok (.istore_n 2, 1) := by decide +kernel
theorem d2_2 : decode prog_81_method_4_code 2 = .ok (.iconst 0, 1) := by decide +kernel
theorem d2_3 : decode prog_81_method_4_code 3 = .ok (.istore_n 3, 1) := by decide +kernel
theorem d2_4 : decode prog_81_method_4_code 4 = .ok (.iload_n 1, 1) := by decide +kernel
theorem d2_5 : decode prog_81_method_4_code 5 = .ok (.istore 4, 2) := by decide +kernel
theorem d2_7 : decode prog_81_method_4_code 7 = .ok (.aload_n 0, 1) := by decide +kernel
theorem d2_8 : decode prog_81_method_4_code 8 = .ok (.iload 4, 2) := by decide +kernel
theorem d2_10 : decode prog_81_method_4_code 10 = .ok (.iinc 4 1, 3) := by decide +kernel
theorem d2_13 : decode prog_81_method_4_code 13 = .ok (.baload, 1) := by decide +kernel
theorem d2_14 : decode prog_81_method_4_code 14 = .ok (.istore 5, 2) := by decide +kernel
theorem d2_16 : decode prog_81_method_4_code 16 = .ok (.iload_n 2, 1) := by decide +kernel
theorem d2_17 : decode prog_81_method_4_code 17 = .ok (.iload 5, 2) := by decide +kernel
theorem d2_19 : decode prog_81_method_4_code 19 = .ok (.bipush 127, 2) := by decide +kernel
theorem d2_21 : decode prog_81_method_4_code 21 = .ok (.iand, 1) := by decide +kernel
theorem d2_22 : decode prog_81_method_4_code 22 = .ok (.iload_n 3, 1) := by decide +kernel
theorem d2_23 : decode prog_81_method_4_code 23 = .ok (.ishl, 1) := by decide +kernel
theorem d2_24 : decode prog_81_method_4_code 24 = .ok (.ior, 1) := by decide +kernel
theorem d2_25 : decode prog_81_method_4_code 25 = .ok (.istore_n 2, 1) := by decide +kernel
theorem d2_26 : decode prog_81_method_4_code 26 = .ok (.iinc 3 7, 3) := by decide +kernel
theorem d2_29 : decode prog_81_method_4_code 29 = .ok (.iload 5, 2) := by decide +kernel
theorem d2_31 : decode prog_81_method_4_code 31 = .ok (.sipush 128, 3) := by decide +kernel
theorem d2_34 : decode prog_81_method_4_code 34 = .ok (.iand, 1) := by decide +kernel
theorem d2_35 : decode prog_81_method_4_code 35 = .ok (.ifCond .ne (-28), 3) := by decide +kernel
theorem d2_38 : decode prog_81_method_4_code 38 = .ok (.iload_n 2, 1) := by decide +kernel
theorem d2_39 : decode prog_81_method_4_code 39 = .ok (.ireturn, 1) := by decide +kernel
theorem pn2 : plainName "hotstate/sort/VarInts" = true := by first | (simp [plainName, overriddenIn]; done) | decide +kernel
theorem pd2 : parseMethodDescriptor "([BI)I" = some ⟨[(.array .byte), .int], some .int⟩ := by decide +kernel
theorem ef2 (m : MethodId) (a0' : Addr) (p1 : Int32) : entryFrame m #[(.ref a0'), (.int p1)] 6 = mkF m 0 #[.val (.ref a0'), .val (.int p1), .unset, .unset, .unset, .unset] [] := by first | (simp [entryFrame, mkF, argsToLocals, Value.category]; done) | rfl
def f2n1_0 (p1 : Int32) (y0 : Int32) : Int32 :=
  ((0 : Int32) ||| ((y0 &&& (127 : Int32)) <<< ((0 : Int32) &&& 31)))
set_option maxRecDepth 65536 in
set_option maxHeartbeats 4000000 in
theorem b2n1_0 {p : Program} {l : Launch} {e : Env} {s : State} {m : MethodId} {args : Array Value} {below : List Frame} {meth : Method} {c : Code} {T0 : State} {locs : List Loc} {Z : State} {a0 : Array Value} {h0 : Heap} {n0 : Nat} (a0' : Addr) (p1 : Int32) (y0 : Int32) (vs0 : List Value) {r : Int32} (X0 : Stand p l e ({ frames := 0, cells := 0, slots := 0, locals := 0 } : Room) s m args below meth c T0 locs 0 0) (hx : p.tables.exec = Jvm.exec) (hZ : Z.Warmed39 s.vm) (hw : ∀ d ∈ tables_1, d.before a0 Z = true) (hby : c.code = prog_81_method_4_code) (hml : c.maxLocals = 6) (hown : s.vm.findClass "hotstate/sort/VarInts" = some m.cls) (hret : meth.sig.returnType = some .int) (hlk : meth.locks = false) (e0 : T0.heap = h0) (N0 : Fr n0 locs) (A0 : own_A Z h0 a0' .byte vs0) (hp4 : p1 = 0 ∨ p1 = 1 ∨ p1 = 2 ∨ p1 = 3) (hv0 : vs0[p1.toNatClampNeg + 0]? = some (.int y0)) (hb0 : (y0 &&& (128 : Int32)) = (0 : Int32)) (hr : r = f2n1_0 p1 y0) :
    own_Ends p e below s 0 0 (own_P (.int r) h0 n0) T0 (mkF m 0 #[.val (.ref a0'), .val (.int p1), .unset, .unset, .unset, .unset] []) := by
  unfold f2n1_0 at hr
  refine own_step (T' := T0) (f' := (mkF m 35 #[.val (.ref a0'), .val (.int p1), .val (.int ((0 : Int32) ||| ((y0 &&& (127 : Int32)) <<< ((0 : Int32) &&& 31)))), .val (.int (7 : Int32)), .val (.int (p1 + (1 : Int32))), .val (.int y0)] [(.int (y0 &&& (128 : Int32)))])) (fun t kt => ?_) ?_
  · show Steps p.tables e below (T0.setTop (mkF m 0 #[.val (.ref a0'), .val (.int p1), .unset, .unset, .unset, .unset] [])) _
    refine XS.iconst X0.here hx rfl (hb hby d2_0) ?_
    show Steps p.tables e below (T0.setTop (mkF m 1 #[.val (.ref a0'), .val (.int p1), .unset, .unset, .unset, .unset] [(.int (0 : Int32))])) _
    refine XS.istoreN X0.here hx rfl (hb hby d2_1) rfl (l' := #[.val (.ref a0'), .val (.int p1), .val (.int (0 : Int32)), .unset, .unset, .unset]) rfl ?_
    show Steps p.tables e below (T0.setTop (mkF m 2 #[.val (.ref a0'), .val (.int p1), .val (.int (0 : Int32)), .unset, .unset, .unset] [])) _
    refine XS.iconst X0.here hx rfl (hb hby d2_2) ?_
    show Steps p.tables e below (T0.setTop (mkF m 3 #[.val (.ref a0'), .val (.int p1), .val (.int (0 : Int32)), .unset, .unset, .unset] [(.int (0 : Int32))])) _
    refine XS.istoreN X0.here hx rfl (hb hby d2_3) rfl (l' := #[.val (.ref a0'), .val (.int p1), .val (.int (0 : Int32)), .val (.int (0 : Int32)), .unset, .unset]) rfl ?_
    show Steps p.tables e below (T0.setTop (mkF m 4 #[.val (.ref a0'), .val (.int p1), .val (.int (0 : Int32)), .val (.int (0 : Int32)), .unset, .unset] [])) _
    refine XS.iloadN X0.here hx rfl (hb hby d2_4) rfl ?_
    show Steps p.tables e below (T0.setTop (mkF m 5 #[.val (.ref a0'), .val (.int p1), .val (.int (0 : Int32)), .val (.int (0 : Int32)), .unset, .unset] [(.int p1)])) _
    refine XS.istore X0.here hx rfl (hb hby d2_5) rfl (l' := #[.val (.ref a0'), .val (.int p1), .val (.int (0 : Int32)), .val (.int (0 : Int32)), .val (.int p1), .unset]) rfl ?_
    show Steps p.tables e below (T0.setTop (mkF m 7 #[.val (.ref a0'), .val (.int p1), .val (.int (0 : Int32)), .val (.int (0 : Int32)), .val (.int p1), .unset] [])) _
    refine XS.aloadN X0.here hx rfl (hb hby d2_7) rfl rfl ?_
    show Steps p.tables e below (T0.setTop (mkF m 8 #[.val (.ref a0'), .val (.int p1), .val (.int (0 : Int32)), .val (.int (0 : Int32)), .val (.int p1), .unset] [(.ref a0')])) _
    refine XS.iload X0.here hx rfl (hb hby d2_8) rfl ?_
    show Steps p.tables e below (T0.setTop (mkF m 10 #[.val (.ref a0'), .val (.int p1), .val (.int (0 : Int32)), .val (.int (0 : Int32)), .val (.int p1), .unset] [(.int p1), (.ref a0')])) _
    refine XS.iinc X0.here hx rfl (hb hby d2_10) rfl (l' := #[.val (.ref a0'), .val (.int p1), .val (.int (0 : Int32)), .val (.int (0 : Int32)), .val (.int (p1 + (1 : Int32))), .unset]) rfl ?_
    show Steps p.tables e below (T0.setTop (mkF m 13 #[.val (.ref a0'), .val (.int p1), .val (.int (0 : Int32)), .val (.int (0 : Int32)), .val (.int (p1 + (1 : Int32))), .unset] [(.int p1), (.ref a0')])) _
    refine own_ldB X0 hx hZ e0 A0 (j := p1) (own_ix0 p1 hp4).1 (k := _) rfl (v := (.int y0)) (by rw [(own_ix0 p1 hp4).2]; exact hv0) (g := (mkF m 13 #[.val (.ref a0'), .val (.int p1), .val (.int (0 : Int32)), .val (.int (0 : Int32)), .val (.int (p1 + (1 : Int32))), .unset] [(.int p1), (.ref a0')])) rfl rfl (hb hby d2_13) _ ?_
    show Steps p.tables e below (T0.setTop (mkF m 14 #[.val (.ref a0'), .val (.int p1), .val (.int (0 : Int32)), .val (.int (0 : Int32)), .val (.int (p1 + (1 : Int32))), .unset] [(.int y0)])) _
    refine XS.istore X0.here hx rfl (hb hby d2_14) rfl (l' := #[.val (.ref a0'), .val (.int p1), .val (.int (0 : Int32)), .val (.int (0 : Int32)), .val (.int (p1 + (1 : Int32))), .val (.int y0)]) rfl ?_
    show Steps p.tables e below (T0.setTop (mkF m 16 #[.val (.ref a0'), .val (.int p1), .val (.int (0 : Int32)), .val (.int (0 : Int32)), .val (.int (p1 + (1 : Int32))), .val (.int y0)] [])) _
    refine XS.iloadN X0.here hx rfl (hb hby d2_16) rfl ?_
    show Steps p.tables e below (T0.setTop (mkF m 17 #[.val (.ref a0'), .val (.int p1), .val (.int (0 : Int32)), .val (.int (0 : Int32)), .val (.int (p1 + (1 : Int32))), .val (.int y0)] [(.int (0 : Int32))])) _
    refine XS.iload X0.here hx rfl (hb hby d2_17) rfl ?_
    show Steps p.tables e below (T0.setTop (mkF m 19 #[.val (.ref a0'), .val (.int p1), .val (.int (0 : Int32)), .val (.int (0 : Int32)), .val (.int (p1 + (1 : Int32))), .val (.int y0)] [(.int y0), (.int (0 : Int32))])) _
    refine XS.bipush X0.here hx rfl (hb hby d2_19) ?_
    show Steps p.tables e below (T0.setTop (mkF m 21 #[.val (.ref a0'), .val (.int p1), .val (.int (0 : Int32)), .val (.int (0 : Int32)), .val (.int (p1 + (1 : Int32))), .val (.int y0)] [(.int (127 : Int32)), (.int y0), (.int (0 : Int32))])) _
    refine XS.iand X0.here hx rfl (hb hby d2_21) rfl ?_
    show Steps p.tables e below (T0.setTop (mkF m 22 #[.val (.ref a0'), .val (.int p1), .val (.int (0 : Int32)), .val (.int (0 : Int32)), .val (.int (p1 + (1 : Int32))), .val (.int y0)] [(.int (y0 &&& (127 : Int32))), (.int (0 : Int32))])) _
    refine XS.iloadN X0.here hx rfl (hb hby d2_22) rfl ?_
    show Steps p.tables e below (T0.setTop (mkF m 23 #[.val (.ref a0'), .val (.int p1), .val (.int (0 : Int32)), .val (.int (0 : Int32)), .val (.int (p1 + (1 : Int32))), .val (.int y0)] [(.int (0 : Int32)), (.int (y0 &&& (127 : Int32))), (.int (0 : Int32))])) _
    refine XS.ishl X0.here hx rfl (hb hby d2_23) rfl ?_
    show Steps p.tables e below (T0.setTop (mkF m 24 #[.val (.ref a0'), .val (.int p1), .val (.int (0 : Int32)), .val (.int (0 : Int32)), .val (.int (p1 + (1 : Int32))), .val (.int y0)] [(.int ((y0 &&& (127 : Int32)) <<< ((0 : Int32) &&& 31))), (.int (0 : Int32))])) _
    refine XS.ior X0.here hx rfl (hb hby d2_24) rfl ?_
    show Steps p.tables e below (T0.setTop (mkF m 25 #[.val (.ref a0'), .val (.int p1), .val (.int (0 : Int32)), .val (.int (0 : Int32)), .val (.int (p1 + (1 : Int32))), .val (.int y0)] [(.int ((0 : Int32) ||| ((y0 &&& (127 : Int32)) <<< ((0 : Int32) &&& 31))))])) _
    refine XS.istoreN X0.here hx rfl (hb hby d2_25) rfl (l' := #[.val (.ref a0'), .val (.int p1), .val (.int ((0 : Int32) ||| ((y0 &&& (127 : Int32)) <<< ((0 : Int32) &&& 31)))), .val (.int (0 : Int32)), .val (.int (p1 + (1 : Int32))), .val (.int y0)]) rfl ?_
    show Steps p.tables e below (T0.setTop (mkF m 26 #[.val (.ref a0'), .val (.int p1), .val (.int ((0 : Int32) ||| ((y0 &&& (127 : Int32)) <<< ((0 : Int32) &&& 31)))), .val (.int (0 : Int32)), .val (.int (p1 + (1 : Int32))), .val (.int y0)] [])) _
    refine XS.iinc X0.here hx rfl (hb hby d2_26) rfl (l' := #[.val (.ref a0'), .val (.int p1), .val (.int ((0 : Int32) ||| ((y0 &&& (127 : Int32)) <<< ((0 : Int32) &&& 31)))), .val (.int (7 : Int32)), .val (.int (p1 + (1 : Int32))), .val (.int y0)]) rfl ?_
    show Steps p.tables e below (T0.setTop (mkF m 29 #[.val (.ref a0'), .val (.int p1), .val (.int ((0 : Int32) ||| ((y0 &&& (127 : Int32)) <<< ((0 : Int32) &&& 31)))), .val (.int (7 : Int32)), .val (.int (p1 + (1 : Int32))), .val (.int y0)] [])) _
    refine XS.iload X0.here hx rfl (hb hby d2_29) rfl ?_
    show Steps p.tables e below (T0.setTop (mkF m 31 #[.val (.ref a0'), .val (.int p1), .val (.int ((0 : Int32) ||| ((y0 &&& (127 : Int32)) <<< ((0 : Int32) &&& 31)))), .val (.int (7 : Int32)), .val (.int (p1 + (1 : Int32))), .val (.int y0)] [(.int y0)])) _
    refine XS.sipush X0.here hx rfl (hb hby d2_31) ?_
    show Steps p.tables e below (T0.setTop (mkF m 34 #[.val (.ref a0'), .val (.int p1), .val (.int ((0 : Int32) ||| ((y0 &&& (127 : Int32)) <<< ((0 : Int32) &&& 31)))), .val (.int (7 : Int32)), .val (.int (p1 + (1 : Int32))), .val (.int y0)] [(.int (128 : Int32)), (.int y0)])) _
    refine XS.iand X0.here hx rfl (hb hby d2_34) rfl ?_
    exact kt
  refine own_step (T' := T0) (f' := (mkF m 38 #[.val (.ref a0'), .val (.int p1), .val (.int ((0 : Int32) ||| ((y0 &&& (127 : Int32)) <<< ((0 : Int32) &&& 31)))), .val (.int (7 : Int32)), .val (.int (p1 + (1 : Int32))), .val (.int y0)] [])) (fun t kt => ?_) ?_
  · show Steps p.tables e below (T0.setTop (mkF m 35 #[.val (.ref a0'), .val (.int p1), .val (.int ((0 : Int32) ||| ((y0 &&& (127 : Int32)) <<< ((0 : Int32) &&& 31)))), .val (.int (7 : Int32)), .val (.int (p1 + (1 : Int32))), .val (.int y0)] [(.int (y0 &&& (128 : Int32)))])) _
    refine XS.ifNo X0.here hx rfl (hb hby d2_35) rfl ((if0 _ _).trans (teq hb0).2) kt
  refine own_step (T' := T0) (f' := (mkF m 39 #[.val (.ref a0'), .val (.int p1), .val (.int ((0 : Int32) ||| ((y0 &&& (127 : Int32)) <<< ((0 : Int32) &&& 31)))), .val (.int (7 : Int32)), .val (.int (p1 + (1 : Int32))), .val (.int y0)] [(.int ((0 : Int32) ||| ((y0 &&& (127 : Int32)) <<< ((0 : Int32) &&& 31))))])) (fun t kt => ?_) ?_
  · show Steps p.tables e below (T0.setTop (mkF m 38 #[.val (.ref a0'), .val (.int p1), .val (.int ((0 : Int32) ||| ((y0 &&& (127 : Int32)) <<< ((0 : Int32) &&& 31)))), .val (.int (7 : Int32)), .val (.int (p1 + (1 : Int32))), .val (.int y0)] [])) _
    refine XS.iloadN X0.here hx rfl (hb hby d2_38) rfl ?_
    exact kt
  exact own_retI X0 hx hret hlk (hb hby d2_39) (Nat.le_refl _) (Nat.le_refl _) ⟨congrArg (fun z => some (Value.int z)) hr.symm, N0, e0⟩
set_option maxRecDepth 65536 in
set_option maxHeartbeats 4000000 in
theorem rm2n1 (l : Launch) (Z : State) (a0 : Array Value) (hw : ∀ d ∈ tables_1, d.before a0 Z = true) (ws : List Jvm.Cond) (a0' : Addr) (p1 : Int32) (y0 : Int32) (vs0 : List Value) (h0 : Heap) (n0 : Nat) (A0 : own_A Z h0 a0' .byte vs0) (hp4 : p1 = 0 ∨ p1 = 1 ∨ p1 = 2 ∨ p1 = 3) (hv0 : vs0[p1.toNatClampNeg + 0]? = some (.int y0)) (hb0 : (y0 &&& (128 : Int32)) = (0 : Int32)) :
    MetFree l (⟨"hotstate/sort/VarInts", "read", "([BI)I"⟩ : MethodName) (head1 (Jvm.Cond.code (⟨"hotstate/sort/VarInts", "read", "([BI)I"⟩ : MethodName) prog_81_method_4_code 6 (some .int) :: ws) ({ frames := 0, cells := 0, slots := 0, locals := 0 } : Room)) (fun a U => a = #[(.ref a0'), (.int p1)] ∧ Z.Warmed39 U.vm ∧ U.heap = h0) (fun _ _ _ _ _ => True) (fun _ U o U' => ∃ v L, o = .returned v ∧ (own_P (.int (f2n1_0 p1 y0)) h0 n0) v U'.heap L ∧ FrameEnd U o U' L ({ frames := 0, cells := 0, slots := 0, locals := 0 } : Room).cells ({ frames := 0, cells := 0, slots := 0, locals := 0 } : Room).slots) := by
  refine MetFree.of_bodySF (plainFor_of_name pn2) hisR ?_
  intro p e s m args below meth c s₁ Bd hml0 hP hK
  obtain ⟨rfl, hZ, hh⟩ := hP
  have hown : s.vm.findClass "hotstate/sort/VarInts" = some m.cls := findClass_of_methodNamed Bd.named
  have X0 : Stand p l e ({ frames := 0, cells := 0, slots := 0, locals := 0 } : Room) s m #[(.ref a0'), (.int p1)] below meth c s₁ [] 0 0 := Stand.of_body Bd
  have e0 : s₁.heap = h0 := by rw [← hh, Bd.state]; rfl
  show own_Ends p e below s 0 0 (own_P (.int (f2n1_0 p1 y0)) h0 n0) s₁ (entryFrame m #[(.ref a0'), (.int p1)] 6)
  refine own_step (fun t k => castTop (ef2 m a0' p1) k) ?_
  exact b2n1_0 a0' p1 y0 vs0 X0 Bd.exec hZ hw Bd.bytes hml0 hown Bd.returns (BodyLoose.notSynchronized Bd) e0 (Fr.nil n0) A0 hp4 hv0 hb0 rfl
def f2n2_0 (p1 : Int32) (y0 : Int32) (y1 : Int32) : Int32 :=
  if (y0 &&& (128 : Int32)) = (0 : Int32) then (((0 : Int32) ||| ((y0 &&& (127 : Int32)) <<< ((0 : Int32) &&& 31)))) else ((((0 : Int32) ||| ((y0 &&& (127 : Int32)) <<< ((0 : Int32) &&& 31))) ||| ((y1 &&& (127 : Int32)) <<< ((7 : Int32) &&& 31))))
set_option maxRecDepth 65536 in
set_option maxHeartbeats 4000000 in
theorem b2n2_0 {p : Program} {l : Launch} {e : Env} {s : State} {m : MethodId} {args : Array Value} {below : List Frame} {meth : Method} {c : Code} {T0 : State} {locs : List Loc} {Z : State} {a0 : Array Value} {h0 : Heap} {n0 : Nat} (a0' : Addr) (p1 : Int32) (y0 : Int32) (y1 : Int32) (vs0 : List Value) {r : Int32} (X0 : Stand p l e ({ frames := 0, cells := 0, slots := 0, locals := 0 } : Room) s m args below meth c T0 locs 0 0) (hx : p.tables.exec = Jvm.exec) (hZ : Z.Warmed39 s.vm) (hw : ∀ d ∈ tables_1, d.before a0 Z = true) (hby : c.code = prog_81_method_4_code) (hml : c.maxLocals = 6) (hown : s.vm.findClass "hotstate/sort/VarInts" = some m.cls) (hret : meth.sig.returnType = some .int) (hlk : meth.locks = false) (e0 : T0.heap = h0) (N0 : Fr n0 locs) (A0 : own_A Z h0 a0' .byte vs0) (hp4 : p1 = 0 ∨ p1 = 1 ∨ p1 = 2 ∨ p1 = 3) (hv0 : vs0[p1.toNatClampNeg + 0]? = some (.int y0)) (hv1 : vs0[p1.toNatClampNeg + 1]? = some (.int y1)) (hb0 : (y1 &&& (128 : Int32)) = (0 : Int32)) (hr : r = f2n2_0 p1 y0 y1) :
    own_Ends p e below s 0 0 (own_P (.int r) h0 n0) T0 (mkF m 0 #[.val (.ref a0'), .val (.int p1), .unset, .unset, .unset, .unset] []) := by
  unfold f2n2_0 at hr
  refine own_step (T' := T0) (f' := (mkF m 35 #[.val (.ref a0'), .val (.int p1), .val (.int ((0 : Int32) ||| ((y0 &&& (127 : Int32)) <<< ((0 : Int32) &&& 31)))), .val (.int (7 : Int32)), .val (.int (p1 + (1 : Int32))), .val (.int y0)] [(.int (y0 &&& (128 : Int32)))])) (fun t kt => ?_) ?_
  · show Steps p.tables e below (T0.setTop (mkF m 0 #[.val (.ref a0'), .val (.int p1), .unset, .unset, .unset, .unset] [])) _
    refine XS.iconst X0.here hx rfl (hb hby d2_0) ?_
    show Steps p.tables e below (T0.setTop (mkF m 1 #[.val (.ref a0'), .val (.int p1), .unset, .unset, .unset, .unset] [(.int (0 : Int32))])) _
    refine XS.istoreN X0.here hx rfl (hb hby d2_1) rfl (l' := #[.val (.ref a0'), .val (.int p1), .val (.int (0 : Int32)), .unset, .unset, .unset]) rfl ?_
    show Steps p.tables e below (T0.setTop (mkF m 2 #[.val (.ref a0'), .val (.int p1), .val (.int (0 : Int32)), .unset, .unset, .unset] [])) _
    refine XS.iconst X0.here hx rfl (hb hby d2_2) ?_
    show Steps p.tables e below (T0.setTop (mkF m 3 #[.val (.ref a0'), .val (.int p1), .val (.int (0 : Int32)), .unset, .unset, .unset] [(.int (0 : Int32))])) _
    refine XS.istoreN X0.here hx rfl (hb hby d2_3) rfl (l' := #[.val (.ref a0'), .val (.int p1), .val (.int (0 : Int32)), .val (.int (0 : Int32)), .unset, .unset]) rfl ?_
    show Steps p.tables e below (T0.setTop (mkF m 4 #[.val (.ref a0'), .val (.int p1), .val (.int (0 : Int32)), .val (.int (0 : Int32)), .unset, .unset] [])) _
    refine XS.iloadN X0.here hx rfl (hb hby d2_4) rfl ?_
    show Steps p.tables e below (T0.setTop (mkF m 5 #[.val (.ref a0'), .val (.int p1), .val (.int (0 : Int32)), .val (.int (0 : Int32)), .unset, .unset] [(.int p1)])) _
    refine XS.istore X0.here hx rfl (hb hby d2_5) rfl (l' := #[.val (.ref a0'), .val (.int p1), .val (.int (0 : Int32)), .val (.int (0 : Int32)), .val (.int p1), .unset]) rfl ?_
    show Steps p.tables e below (T0.setTop (mkF m 7 #[.val (.ref a0'), .val (.int p1), .val (.int (0 : Int32)), .val (.int (0 : Int32)), .val (.int p1), .unset] [])) _
    refine XS.aloadN X0.here hx rfl (hb hby d2_7) rfl rfl ?_
    show Steps p.tables e below (T0.setTop (mkF m 8 #[.val (.ref a0'), .val (.int p1), .val (.int (0 : Int32)), .val (.int (0 : Int32)), .val (.int p1), .unset] [(.ref a0')])) _
    refine XS.iload X0.here hx rfl (hb hby d2_8) rfl ?_
    show Steps p.tables e below (T0.setTop (mkF m 10 #[.val (.ref a0'), .val (.int p1), .val (.int (0 : Int32)), .val (.int (0 : Int32)), .val (.int p1), .unset] [(.int p1), (.ref a0')])) _
    refine XS.iinc X0.here hx rfl (hb hby d2_10) rfl (l' := #[.val (.ref a0'), .val (.int p1), .val (.int (0 : Int32)), .val (.int (0 : Int32)), .val (.int (p1 + (1 : Int32))), .unset]) rfl ?_
    show Steps p.tables e below (T0.setTop (mkF m 13 #[.val (.ref a0'), .val (.int p1), .val (.int (0 : Int32)), .val (.int (0 : Int32)), .val (.int (p1 + (1 : Int32))), .unset] [(.int p1), (.ref a0')])) _
    refine own_ldB X0 hx hZ e0 A0 (j := p1) (own_ix0 p1 hp4).1 (k := _) rfl (v := (.int y0)) (by rw [(own_ix0 p1 hp4).2]; exact hv0) (g := (mkF m 13 #[.val (.ref a0'), .val (.int p1), .val (.int (0 : Int32)), .val (.int (0 : Int32)), .val (.int (p1 + (1 : Int32))), .unset] [(.int p1), (.ref a0')])) rfl rfl (hb hby d2_13) _ ?_
    show Steps p.tables e below (T0.setTop (mkF m 14 #[.val (.ref a0'), .val (.int p1), .val (.int (0 : Int32)), .val (.int (0 : Int32)), .val (.int (p1 + (1 : Int32))), .unset] [(.int y0)])) _
    refine XS.istore X0.here hx rfl (hb hby d2_14) rfl (l' := #[.val (.ref a0'), .val (.int p1), .val (.int (0 : Int32)), .val (.int (0 : Int32)), .val (.int (p1 + (1 : Int32))), .val (.int y0)]) rfl ?_
    show Steps p.tables e below (T0.setTop (mkF m 16 #[.val (.ref a0'), .val (.int p1), .val (.int (0 : Int32)), .val (.int (0 : Int32)), .val (.int (p1 + (1 : Int32))), .val (.int y0)] [])) _
    refine XS.iloadN X0.here hx rfl (hb hby d2_16) rfl ?_
    show Steps p.tables e below (T0.setTop (mkF m 17 #[.val (.ref a0'), .val (.int p1), .val (.int (0 : Int32)), .val (.int (0 : Int32)), .val (.int (p1 + (1 : Int32))), .val (.int y0)] [(.int (0 : Int32))])) _
    refine XS.iload X0.here hx rfl (hb hby d2_17) rfl ?_
    show Steps p.tables e below (T0.setTop (mkF m 19 #[.val (.ref a0'), .val (.int p1), .val (.int (0 : Int32)), .val (.int (0 : Int32)), .val (.int (p1 + (1 : Int32))), .val (.int y0)] [(.int y0), (.int (0 : Int32))])) _
    refine XS.bipush X0.here hx rfl (hb hby d2_19) ?_
    show Steps p.tables e below (T0.setTop (mkF m 21 #[.val (.ref a0'), .val (.int p1), .val (.int (0 : Int32)), .val (.int (0 : Int32)), .val (.int (p1 + (1 : Int32))), .val (.int y0)] [(.int (127 : Int32)), (.int y0), (.int (0 : Int32))])) _
    refine XS.iand X0.here hx rfl (hb hby d2_21) rfl ?_
    show Steps p.tables e below (T0.setTop (mkF m 22 #[.val (.ref a0'), .val (.int p1), .val (.int (0 : Int32)), .val (.int (0 : Int32)), .val (.int (p1 + (1 : Int32))), .val (.int y0)] [(.int (y0 &&& (127 : Int32))), (.int (0 : Int32))])) _
    refine XS.iloadN X0.here hx rfl (hb hby d2_22) rfl ?_
    show Steps p.tables e below (T0.setTop (mkF m 23 #[.val (.ref a0'), .val (.int p1), .val (.int (0 : Int32)), .val (.int (0 : Int32)), .val (.int (p1 + (1 : Int32))), .val (.int y0)] [(.int (0 : Int32)), (.int (y0 &&& (127 : Int32))), (.int (0 : Int32))])) _
    refine XS.ishl X0.here hx rfl (hb hby d2_23) rfl ?_
    show Steps p.tables e below (T0.setTop (mkF m 24 #[.val (.ref a0'), .val (.int p1), .val (.int (0 : Int32)), .val (.int (0 : Int32)), .val (.int (p1 + (1 : Int32))), .val (.int y0)] [(.int ((y0 &&& (127 : Int32)) <<< ((0 : Int32) &&& 31))), (.int (0 : Int32))])) _
    refine XS.ior X0.here hx rfl (hb hby d2_24) rfl ?_
    show Steps p.tables e below (T0.setTop (mkF m 25 #[.val (.ref a0'), .val (.int p1), .val (.int (0 : Int32)), .val (.int (0 : Int32)), .val (.int (p1 + (1 : Int32))), .val (.int y0)] [(.int ((0 : Int32) ||| ((y0 &&& (127 : Int32)) <<< ((0 : Int32) &&& 31))))])) _
    refine XS.istoreN X0.here hx rfl (hb hby d2_25) rfl (l' := #[.val (.ref a0'), .val (.int p1), .val (.int ((0 : Int32) ||| ((y0 &&& (127 : Int32)) <<< ((0 : Int32) &&& 31)))), .val (.int (0 : Int32)), .val (.int (p1 + (1 : Int32))), .val (.int y0)]) rfl ?_
    show Steps p.tables e below (T0.setTop (mkF m 26 #[.val (.ref a0'), .val (.int p1), .val (.int ((0 : Int32) ||| ((y0 &&& (127 : Int32)) <<< ((0 : Int32) &&& 31)))), .val (.int (0 : Int32)), .val (.int (p1 + (1 : Int32))), .val (.int y0)] [])) _
    refine XS.iinc X0.here hx rfl (hb hby d2_26) rfl (l' := #[.val (.ref a0'), .val (.int p1), .val (.int ((0 : Int32) ||| ((y0 &&& (127 : Int32)) <<< ((0 : Int32) &&& 31)))), .val (.int (7 : Int32)), .val (.int (p1 + (1 : Int32))), .val (.int y0)]) rfl ?_
    show Steps p.tables e below (T0.setTop (mkF m 29 #[.val (.ref a0'), .val (.int p1), .val (.int ((0 : Int32) ||| ((y0 &&& (127 : Int32)) <<< ((0 : Int32) &&& 31)))), .val (.int (7 : Int32)), .val (.int (p1 + (1 : Int32))), .val (.int y0)] [])) _
    refine XS.iload X0.here hx rfl (hb hby d2_29) rfl ?_
    show Steps p.tables e below (T0.setTop (mkF m 31 #[.val (.ref a0'), .val (.int p1), .val (.int ((0 : Int32) ||| ((y0 &&& (127 : Int32)) <<< ((0 : Int32) &&& 31)))), .val (.int (7 : Int32)), .val (.int (p1 + (1 : Int32))), .val (.int y0)] [(.int y0)])) _
    refine XS.sipush X0.here hx rfl (hb hby d2_31) ?_
    show Steps p.tables e below (T0.setTop (mkF m 34 #[.val (.ref a0'), .val (.int p1), .val (.int ((0 : Int32) ||| ((y0 &&& (127 : Int32)) <<< ((0 : Int32) &&& 31)))), .val (.int (7 : Int32)), .val (.int (p1 + (1 : Int32))), .val (.int y0)] [(.int (128 : Int32)), (.int y0)])) _
    refine XS.iand X0.here hx rfl (hb hby d2_34) rfl ?_
    exact kt
  by_cases hc35_1 : (y0 &&& (128 : Int32)) = (0 : Int32)
  · replace hr := hr.trans (if_pos hc35_1)
    refine own_step (T' := T0) (f' := (mkF m 38 #[.val (.ref a0'), .val (.int p1), .val (.int ((0 : Int32) ||| ((y0 &&& (127 : Int32)) <<< ((0 : Int32) &&& 31)))), .val (.int (7 : Int32)), .val (.int (p1 + (1 : Int32))), .val (.int y0)] [])) (fun t kt => ?_) ?_
    · show Steps p.tables e below (T0.setTop (mkF m 35 #[.val (.ref a0'), .val (.int p1), .val (.int ((0 : Int32) ||| ((y0 &&& (127 : Int32)) <<< ((0 : Int32) &&& 31)))), .val (.int (7 : Int32)), .val (.int (p1 + (1 : Int32))), .val (.int y0)] [(.int (y0 &&& (128 : Int32)))])) _
      refine XS.ifNo X0.here hx rfl (hb hby d2_35) rfl ((if0 _ _).trans (teq hc35_1).2) kt
    refine own_step (T' := T0) (f' := (mkF m 39 #[.val (.ref a0'), .val (.int p1), .val (.int ((0 : Int32) ||| ((y0 &&& (127 : Int32)) <<< ((0 : Int32) &&& 31)))), .val (.int (7 : Int32)), .val (.int (p1 + (1 : Int32))), .val (.int y0)] [(.int ((0 : Int32) ||| ((y0 &&& (127 : Int32)) <<< ((0 : Int32) &&& 31))))])) (fun t kt => ?_) ?_
    · show Steps p.tables e below (T0.setTop (mkF m 38 #[.val (.ref a0'), .val (.int p1), .val (.int ((0 : Int32) ||| ((y0 &&& (127 : Int32)) <<< ((0 : Int32) &&& 31)))), .val (.int (7 : Int32)), .val (.int (p1 + (1 : Int32))), .val (.int y0)] [])) _
      refine XS.iloadN X0.here hx rfl (hb hby d2_38) rfl ?_
      exact kt
    exact own_retI X0 hx hret hlk (hb hby d2_39) (Nat.le_refl _) (Nat.le_refl _) ⟨congrArg (fun z => some (Value.int z)) hr.symm, N0, e0⟩
  · replace hr := hr.trans (if_neg hc35_1)
    refine own_step (T' := T0) (f' := (mkF m 7 #[.val (.ref a0'), .val (.int p1), .val (.int ((0 : Int32) ||| ((y0 &&& (127 : Int32)) <<< ((0 : Int32) &&& 31)))), .val (.int (7 : Int32)), .val (.int (p1 + (1 : Int32))), .val (.int y0)] [])) (fun t kt => ?_) ?_
    · show Steps p.tables e below (T0.setTop (mkF m 35 #[.val (.ref a0'), .val (.int p1), .val (.int ((0 : Int32) ||| ((y0 &&& (127 : Int32)) <<< ((0 : Int32) &&& 31)))), .val (.int (7 : Int32)), .val (.int (p1 + (1 : Int32))), .val (.int y0)] [(.int (y0 &&& (128 : Int32)))])) _
      refine XS.ifYes X0.here hx rfl (pc0 := 35) (pc' := 7) rfl (hb hby d2_35) rfl ((if0 _ _).trans (feq hc35_1).2) (by decide) (by decide) kt
    refine own_step (T' := T0) (f' := (mkF m 35 #[.val (.ref a0'), .val (.int p1), .val (.int (((0 : Int32) ||| ((y0 &&& (127 : Int32)) <<< ((0 : Int32) &&& 31))) ||| ((y1 &&& (127 : Int32)) <<< ((7 : Int32) &&& 31)))), .val (.int (14 : Int32)), .val (.int ((p1 + (1 : Int32)) + (1 : Int32))), .val (.int y1)] [(.int (y1 &&& (128 : Int32)))])) (fun t kt => ?_) ?_
    · show Steps p.tables e below (T0.setTop (mkF m 7 #[.val (.ref a0'), .val (.int p1), .val (.int ((0 : Int32) ||| ((y0 &&& (127 : Int32)) <<< ((0 : Int32) &&& 31)))), .val (.int (7 : Int32)), .val (.int (p1 + (1 : Int32))), .val (.int y0)] [])) _
      refine XS.aloadN X0.here hx rfl (hb hby d2_7) rfl rfl ?_
      show Steps p.tables e below (T0.setTop (mkF m 8 #[.val (.ref a0'), .val (.int p1), .val (.int ((0 : Int32) ||| ((y0 &&& (127 : Int32)) <<< ((0 : Int32) &&& 31)))), .val (.int (7 : Int32)), .val (.int (p1 + (1 : Int32))), .val (.int y0)] [(.ref a0')])) _
      refine XS.iload X0.here hx rfl (hb hby d2_8) rfl ?_
      show Steps p.tables e below (T0.setTop (mkF m 10 #[.val (.ref a0'), .val (.int p1), .val (.int ((0 : Int32) ||| ((y0 &&& (127 : Int32)) <<< ((0 : Int32) &&& 31)))), .val (.int (7 : Int32)), .val (.int (p1 + (1 : Int32))), .val (.int y0)] [(.int (p1 + (1 : Int32))), (.ref a0')])) _
      refine XS.iinc X0.here hx rfl (hb hby d2_10) rfl (l' := #[.val (.ref a0'), .val (.int p1), .val (.int ((0 : Int32) ||| ((y0 &&& (127 : Int32)) <<< ((0 : Int32) &&& 31)))), .val (.int (7 : Int32)), .val (.int ((p1 + (1 : Int32)) + (1 : Int32))), .val (.int y0)]) rfl ?_
      show Steps p.tables e below (T0.setTop (mkF m 13 #[.val (.ref a0'), .val (.int p1), .val (.int ((0 : Int32) ||| ((y0 &&& (127 : Int32)) <<< ((0 : Int32) &&& 31)))), .val (.int (7 : Int32)), .val (.int ((p1 + (1 : Int32)) + (1 : Int32))), .val (.int y0)] [(.int (p1 + (1 : Int32))), (.ref a0')])) _
      refine own_ldB X0 hx hZ e0 A0 (j := (p1 + (1 : Int32))) (own_ix1 p1 hp4).1 (k := _) rfl (v := (.int y1)) (by rw [(own_ix1 p1 hp4).2]; exact hv1) (g := (mkF m 13 #[.val (.ref a0'), .val (.int p1), .val (.int ((0 : Int32) ||| ((y0 &&& (127 : Int32)) <<< ((0 : Int32) &&& 31)))), .val (.int (7 : Int32)), .val (.int ((p1 + (1 : Int32)) + (1 : Int32))), .val (.int y0)] [(.int (p1 + (1 : Int32))), (.ref a0')])) rfl rfl (hb hby d2_13) _ ?_
      show Steps p.tables e below (T0.setTop (mkF m 14 #[.val (.ref a0'), .val (.int p1), .val (.int ((0 : Int32) ||| ((y0 &&& (127 : Int32)) <<< ((0 : Int32) &&& 31)))), .val (.int (7 : Int32)), .val (.int ((p1 + (1 : Int32)) + (1 : Int32))), .val (.int y0)] [(.int y1)])) _
      refine XS.istore X0.here hx rfl (hb hby d2_14) rfl (l' := #[.val (.ref a0'), .val (.int p1), .val (.int ((0 : Int32) ||| ((y0 &&& (127 : Int32)) <<< ((0 : Int32) &&& 31)))), .val (.int (7 : Int32)), .val (.int ((p1 + (1 : Int32)) + (1 : Int32))), .val (.int y1)]) rfl ?_
      show Steps p.tables e below (T0.setTop (mkF m 16 #[.val (.ref a0'), .val (.int p1), .val (.int ((0 : Int32) ||| ((y0 &&& (127 : Int32)) <<< ((0 : Int32) &&& 31)))), .val (.int (7 : Int32)), .val (.int ((p1 + (1 : Int32)) + (1 : Int32))), .val (.int y1)] [])) _
      refine XS.iloadN X0.here hx rfl (hb hby d2_16) rfl ?_
      show Steps p.tables e below (T0.setTop (mkF m 17 #[.val (.ref a0'), .val (.int p1), .val (.int ((0 : Int32) ||| ((y0 &&& (127 : Int32)) <<< ((0 : Int32) &&& 31)))), .val (.int (7 : Int32)), .val (.int ((p1 + (1 : Int32)) + (1 : Int32))), .val (.int y1)] [(.int ((0 : Int32) ||| ((y0 &&& (127 : Int32)) <<< ((0 : Int32) &&& 31))))])) _
      refine XS.iload X0.here hx rfl (hb hby d2_17) rfl ?_
      show Steps p.tables e below (T0.setTop (mkF m 19 #[.val (.ref a0'), .val (.int p1), .val (.int ((0 : Int32) ||| ((y0 &&& (127 : Int32)) <<< ((0 : Int32) &&& 31)))), .val (.int (7 : Int32)), .val (.int ((p1 + (1 : Int32)) + (1 : Int32))), .val (.int y1)] [(.int y1), (.int ((0 : Int32) ||| ((y0 &&& (127 : Int32)) <<< ((0 : Int32) &&& 31))))])) _
      refine XS.bipush X0.here hx rfl (hb hby d2_19) ?_
      show Steps p.tables e below (T0.setTop (mkF m 21 #[.val (.ref a0'), .val (.int p1), .val (.int ((0 : Int32) ||| ((y0 &&& (127 : Int32)) <<< ((0 : Int32) &&& 31)))), .val (.int (7 : Int32)), .val (.int ((p1 + (1 : Int32)) + (1 : Int32))), .val (.int y1)] [(.int (127 : Int32)), (.int y1), (.int ((0 : Int32) ||| ((y0 &&& (127 : Int32)) <<< ((0 : Int32) &&& 31))))])) _
      refine XS.iand X0.here hx rfl (hb hby d2_21) rfl ?_
      show Steps p.tables e below (T0.setTop (mkF m 22 #[.val (.ref a0'), .val (.int p1), .val (.int ((0 : Int32) ||| ((y0 &&& (127 : Int32)) <<< ((0 : Int32) &&& 31)))), .val (.int (7 : Int32)), .val (.int ((p1 + (1 : Int32)) + (1 : Int32))), .val (.int y1)] [(.int (y1 &&& (127 : Int32))), (.int ((0 : Int32) ||| ((y0 &&& (127 : Int32)) <<< ((0 : Int32) &&& 31))))])) _
      refine XS.iloadN X0.here hx rfl (hb hby d2_22) rfl ?_
      show Steps p.tables e below (T0.setTop (mkF m 23 #[.val (.ref a0'), .val (.int p1), .val (.int ((0 : Int32) ||| ((y0 &&& (127 : Int32)) <<< ((0 : Int32) &&& 31)))), .val (.int (7 : Int32)), .val (.int ((p1 + (1 : Int32)) + (1 : Int32))), .val (.int y1)] [(.int (7 : Int32)), (.int (y1 &&& (127 : Int32))), (.int ((0 : Int32) ||| ((y0 &&& (127 : Int32)) <<< ((0 : Int32) &&& 31))))])) _
      refine XS.ishl X0.here hx rfl (hb hby d2_23) rfl ?_
      show Steps p.tables e below (T0.setTop (mkF m 24 #[.val (.ref a0'), .val (.int p1), .val (.int ((0 : Int32) ||| ((y0 &&& (127 : Int32)) <<< ((0 : Int32) &&& 31)))), .val (.int (7 : Int32)), .val (.int ((p1 + (1 : Int32)) + (1 : Int32))), .val (.int y1)] [(.int ((y1 &&& (127 : Int32)) <<< ((7 : Int32) &&& 31))), (.int ((0 : Int32) ||| ((y0 &&& (127 : Int32)) <<< ((0 : Int32) &&& 31))))])) _
      refine XS.ior X0.here hx rfl (hb hby d2_24) rfl ?_
      show Steps p.tables e below (T0.setTop (mkF m 25 #[.val (.ref a0'), .val (.int p1), .val (.int ((0 : Int32) ||| ((y0 &&& (127 : Int32)) <<< ((0 : Int32) &&& 31)))), .val (.int (7 : Int32)), .val (.int ((p1 + (1 : Int32)) + (1 : Int32))), .val (.int y1)] [(.int (((0 : Int32) ||| ((y0 &&& (127 : Int32)) <<< ((0 : Int32) &&& 31))) ||| ((y1 &&& (127 : Int32)) <<< ((7 : Int32) &&& 31))))])) _
      refine XS.istoreN X0.here hx rfl (hb hby d2_25) rfl (l' := #[.val (.ref a0'), .val (.int p1), .val (.int (((0 : Int32) ||| ((y0 &&& (127 : Int32)) <<< ((0 : Int32) &&& 31))) ||| ((y1 &&& (127 : Int32)) <<< ((7 : Int32) &&& 31)))), .val (.int (7 : Int32)), .val (.int ((p1 + (1 : Int32)) + (1 : Int32))), .val (.int y1)]) rfl ?_
      show Steps p.tables e below (T0.setTop (mkF m 26 #[.val (.ref a0'), .val (.int p1), .val (.int (((0 : Int32) ||| ((y0 &&& (127 : Int32)) <<< ((0 : Int32) &&& 31))) ||| ((y1 &&& (127 : Int32)) <<< ((7 : Int32) &&& 31)))), .val (.int (7 : Int32)), .val (.int ((p1 + (1 : Int32)) + (1 : Int32))), .val (.int y1)] [])) _
      refine XS.iinc X0.here hx rfl (hb hby d2_26) rfl (l' := #[.val (.ref a0'), .val (.int p1), .val (.int (((0 : Int32) ||| ((y0 &&& (127 : Int32)) <<< ((0 : Int32) &&& 31))) ||| ((y1 &&& (127 : Int32)) <<< ((7 : Int32) &&& 31)))), .val (.int (14 : Int32)), .val (.int ((p1 + (1 : Int32)) + (1 : Int32))), .val (.int y1)]) rfl ?_
      show Steps p.tables e below (T0.setTop (mkF m 29 #[.val (.ref a0'), .val (.int p1), .val (.int (((0 : Int32) ||| ((y0 &&& (127 : Int32)) <<< ((0 : Int32) &&& 31))) ||| ((y1 &&& (127 : Int32)) <<< ((7 : Int32) &&& 31)))), .val (.int (14 : Int32)), .val (.int ((p1 + (1 : Int32)) + (1 : Int32))), .val (.int y1)] [])) _
      refine XS.iload X0.here hx rfl (hb hby d2_29) rfl ?_
      show Steps p.tables e below (T0.setTop (mkF m 31 #[.val (.ref a0'), .val (.int p1), .val (.int (((0 : Int32) ||| ((y0 &&& (127 : Int32)) <<< ((0 : Int32) &&& 31))) ||| ((y1 &&& (127 : Int32)) <<< ((7 : Int32) &&& 31)))), .val (.int (14 : Int32)), .val (.int ((p1 + (1 : Int32)) + (1 : Int32))), .val (.int y1)] [(.int y1)])) _
      refine XS.sipush X0.here hx rfl (hb hby d2_31) ?_
      show Steps p.tables e below (T0.setTop (mkF m 34 #[.val (.ref a0'), .val (.int p1), .val (.int (((0 : Int32) ||| ((y0 &&& (127 : Int32)) <<< ((0 : Int32) &&& 31))) ||| ((y1 &&& (127 : Int32)) <<< ((7 : Int32) &&& 31)))), .val (.int (14 : Int32)), .val (.int ((p1 + (1 : Int32)) + (1 : Int32))), .val (.int y1)] [(.int (128 : Int32)), (.int y1)])) _
      refine XS.iand X0.here hx rfl (hb hby d2_34) rfl ?_
      exact kt
    refine own_step (T' := T0) (f' := (mkF m 38 #[.val (.ref a0'), .val (.int p1), .val (.int (((0 : Int32) ||| ((y0 &&& (127 : Int32)) <<< ((0 : Int32) &&& 31))) ||| ((y1 &&& (127 : Int32)) <<< ((7 : Int32) &&& 31)))), .val (.int (14 : Int32)), .val (.int ((p1 + (1 : Int32)) + (1 : Int32))), .val (.int y1)] [])) (fun t kt => ?_) ?_
    · show Steps p.tables e below (T0.setTop (mkF m 35 #[.val (.ref a0'), .val (.int p1), .val (.int (((0 : Int32) ||| ((y0 &&& (127 : Int32)) <<< ((0 : Int32) &&& 31))) ||| ((y1 &&& (127 : Int32)) <<< ((7 : Int32) &&& 31)))), .val (.int (14 : Int32)), .val (.int ((p1 + (1 : Int32)) + (1 : Int32))), .val (.int y1)] [(.int (y1 &&& (128 : Int32)))])) _
      refine XS.ifNo X0.here hx rfl (hb hby d2_35) rfl ((if0 _ _).trans (teq hb0).2) kt
    refine own_step (T' := T0) (f' := (mkF m 39 #[.val (.ref a0'), .val (.int p1), .val (.int (((0 : Int32) ||| ((y0 &&& (127 : Int32)) <<< ((0 : Int32) &&& 31))) ||| ((y1 &&& (127 : Int32)) <<< ((7 : Int32) &&& 31)))), .val (.int (14 : Int32)), .val (.int ((p1 + (1 : Int32)) + (1 : Int32))), .val (.int y1)] [(.int (((0 : Int32) ||| ((y0 &&& (127 : Int32)) <<< ((0 : Int32) &&& 31))) ||| ((y1 &&& (127 : Int32)) <<< ((7 : Int32) &&& 31))))])) (fun t kt => ?_) ?_
    · show Steps p.tables e below (T0.setTop (mkF m 38 #[.val (.ref a0'), .val (.int p1), .val (.int (((0 : Int32) ||| ((y0 &&& (127 : Int32)) <<< ((0 : Int32) &&& 31))) ||| ((y1 &&& (127 : Int32)) <<< ((7 : Int32) &&& 31)))), .val (.int (14 : Int32)), .val (.int ((p1 + (1 : Int32)) + (1 : Int32))), .val (.int y1)] [])) _
      refine XS.iloadN X0.here hx rfl (hb hby d2_38) rfl ?_
      exact kt
    exact own_retI X0 hx hret hlk (hb hby d2_39) (Nat.le_refl _) (Nat.le_refl _) ⟨congrArg (fun z => some (Value.int z)) hr.symm, N0, e0⟩
set_option maxRecDepth 65536 in
set_option maxHeartbeats 4000000 in
theorem rm2n2 (l : Launch) (Z : State) (a0 : Array Value) (hw : ∀ d ∈ tables_1, d.before a0 Z = true) (ws : List Jvm.Cond) (a0' : Addr) (p1 : Int32) (y0 : Int32) (y1 : Int32) (vs0 : List Value) (h0 : Heap) (n0 : Nat) (A0 : own_A Z h0 a0' .byte vs0) (hp4 : p1 = 0 ∨ p1 = 1 ∨ p1 = 2 ∨ p1 = 3) (hv0 : vs0[p1.toNatClampNeg + 0]? = some (.int y0)) (hv1 : vs0[p1.toNatClampNeg + 1]? = some (.int y1)) (hb0 : (y1 &&& (128 : Int32)) = (0 : Int32)) :
    MetFree l (⟨"hotstate/sort/VarInts", "read", "([BI)I"⟩ : MethodName) (head1 (Jvm.Cond.code (⟨"hotstate/sort/VarInts", "read", "([BI)I"⟩ : MethodName) prog_81_method_4_code 6 (some .int) :: ws) ({ frames := 0, cells := 0, slots := 0, locals := 0 } : Room)) (fun a U => a = #[(.ref a0'), (.int p1)] ∧ Z.Warmed39 U.vm ∧ U.heap = h0) (fun _ _ _ _ _ => True) (fun _ U o U' => ∃ v L, o = .returned v ∧ (own_P (.int (f2n2_0 p1 y0 y1)) h0 n0) v U'.heap L ∧ FrameEnd U o U' L ({ frames := 0, cells := 0, slots := 0, locals := 0 } : Room).cells ({ frames := 0, cells := 0, slots := 0, locals := 0 } : Room).slots) := by
  refine MetFree.of_bodySF (plainFor_of_name pn2) hisR ?_
  intro p e s m args below meth c s₁ Bd hml0 hP hK
  obtain ⟨rfl, hZ, hh⟩ := hP
  have hown : s.vm.findClass "hotstate/sort/VarInts" = some m.cls := findClass_of_methodNamed Bd.named
  have X0 : Stand p l e ({ frames := 0, cells := 0, slots := 0, locals := 0 } : Room) s m #[(.ref a0'), (.int p1)] below meth c s₁ [] 0 0 := Stand.of_body Bd
  have e0 : s₁.heap = h0 := by rw [← hh, Bd.state]; rfl
  show own_Ends p e below s 0 0 (own_P (.int (f2n2_0 p1 y0 y1)) h0 n0) s₁ (entryFrame m #[(.ref a0'), (.int p1)] 6)
  refine own_step (fun t k => castTop (ef2 m a0' p1) k) ?_
  exact b2n2_0 a0' p1 y0 y1 vs0 X0 Bd.exec hZ hw Bd.bytes hml0 hown Bd.returns (BodyLoose.notSynchronized Bd) e0 (Fr.nil n0) A0 hp4 hv0 hv1 hb0 rfl
def f2n3_0 (p1 : Int32) (y0 : Int32) (y1 : Int32) (y2 : Int32) : Int32 :=
  if (y0 &&& (128 : Int32)) = (0 : Int32) then (((0 : Int32) ||| ((y0 &&& (127 : Int32)) <<< ((0 : Int32) &&& 31)))) else (if (y1 &&& (128 : Int32)) = (0 : Int32) then ((((0 : Int32) ||| ((y0 &&& (127 : Int32)) <<< ((0 : Int32) &&& 31))) ||| ((y1 &&& (127 : Int32)) <<< ((7 : Int32) &&& 31)))) else (((((0 : Int32) ||| ((y0 &&& (127 : Int32)) <<< ((0 : Int32) &&& 31))) ||| ((y1 &&& (127 : Int32)) <<< ((7 : Int32) &&& 31))) ||| ((y2 &&& (127 : Int32)) <<< ((14 : Int32) &&& 31)))))
set_option maxRecDepth 65536 in
set_option maxHeartbeats 4000000 in
theorem b2n3_0 {p : Program} {l : Launch} {e : Env} {s : State} {m : MethodId} {args : Array Value} {below : List Frame} {meth : Method} {c : Code} {T0 : State} {locs : List Loc} {Z : State} {a0 : Array Value} {h0 : Heap} {n0 : Nat} (a0' : Addr) (p1 : Int32) (y0 : Int32) (y1 : Int32) (y2 : Int32) (vs0 : List Value) {r : Int32} (X0 : Stand p l e ({ frames := 0, cells := 0, slots := 0, locals := 0 } : Room) s m args below meth c T0 locs 0 0) (hx : p.tables.exec = Jvm.exec) (hZ : Z.Warmed39 s.vm) (hw : ∀ d ∈ tables_1, d.before a0 Z = true) (hby : c.code = prog_81_method_4_code) (hml : c.maxLocals = 6) (hown : s.vm.findClass "hotstate/sort/VarInts" = some m.cls) (hret : meth.sig.returnType = some .int) (hlk : meth.locks = false) (e0 : T0.heap = h0) (N0 : Fr n0 locs) (A0 : own_A Z h0 a0' .byte vs0) (hp4 : p1 = 0 ∨ p1 = 1 ∨ p1 = 2 ∨ p1 = 3) (hv0 : vs0[p1.toNatClampNeg + 0]? = some (.int y0)) (hv1 : vs0[p1.toNatClampNeg + 1]? = some (.int y1)) (hv2 : vs0[p1.toNatClampNeg + 2]? = some (.int y2)) (hb0 : (y2 &&& (128 : Int32)) = (0 : Int32)) (hr : r = f2n3_0 p1 y0 y1 y2) :
    own_Ends p e below s 0 0 (own_P (.int r) h0 n0) T0 (mkF m 0 #[.val (.ref a0'), .val (.int p1), .unset, .unset, .unset, .unset] []) := by
  unfold f2n3_0 at hr
  refine own_step (T' := T0) (f' := (mkF m 35 #[.val (.ref a0'), .val (.int p1), .val (.int ((0 : Int32) ||| ((y0 &&& (127 : Int32)) <<< ((0 : Int32) &&& 31)))), .val (.int (7 : Int32)), .val (.int (p1 + (1 : Int32))), .val (.int y0)] [(.int (y0 &&& (128 : Int32)))])) (fun t kt => ?_) ?_
  · show Steps p.tables e below (T0.setTop (mkF m 0 #[.val (.ref a0'), .val (.int p1), .unset, .unset, .unset, .unset] [])) _
    refine XS.iconst X0.here hx rfl (hb hby d2_0) ?_
    show Steps p.tables e below (T0.setTop (mkF m 1 #[.val (.ref a0'), .val (.int p1), .unset, .unset, .unset, .unset] [(.int (0 : Int32))])) _
    refine XS.istoreN X0.here hx rfl (hb hby d2_1) rfl (l' := #[.val (.ref a0'), .val (.int p1), .val (.int (0 : Int32)), .unset, .unset, .unset]) rfl ?_
    show Steps p.tables e below (T0.setTop (mkF m 2 #[.val (.ref a0'), .val (.int p1), .val (.int (0 : Int32)), .unset, .unset, .unset] [])) _
    refine XS.iconst X0.here hx rfl (hb hby d2_2) ?_
    show Steps p.tables e below (T0.setTop (mkF m 3 #[.val (.ref a0'), .val (.int p1), .val (.int (0 : Int32)), .unset, .unset, .unset] [(.int (0 : Int32))])) _
    refine XS.istoreN X0.here hx rfl (hb hby d2_3) rfl (l' := #[.val (.ref a0'), .val (.int p1), .val (.int (0 : Int32)), .val (.int (0 : Int32)), .unset, .unset]) rfl ?_
    show Steps p.tables e below (T0.setTop (mkF m 4 #[.val (.ref a0'), .val (.int p1), .val (.int (0 : Int32)), .val (.int (0 : Int32)), .unset, .unset] [])) _
    refine XS.iloadN X0.here hx rfl (hb hby d2_4) rfl ?_
    show Steps p.tables e below (T0.setTop (mkF m 5 #[.val (.ref a0'), .val (.int p1), .val (.int (0 : Int32)), .val (.int (0 : Int32)), .unset, .unset] [(.int p1)])) _
    refine XS.istore X0.here hx rfl (hb hby d2_5) rfl (l' := #[.val (.ref a0'), .val (.int p1), .val (.int (0 : Int32)), .val (.int (0 : Int32)), .val (.int p1), .unset]) rfl ?_
    show Steps p.tables e below (T0.setTop (mkF m 7 #[.val (.ref a0'), .val (.int p1), .val (.int (0 : Int32)), .val (.int (0 : Int32)), .val (.int p1), .unset] [])) _
    refine XS.aloadN X0.here hx rfl (hb hby d2_7) rfl rfl ?_
    show Steps p.tables e below (T0.setTop (mkF m 8 #[.val (.ref a0'), .val (.int p1), .val (.int (0 : Int32)), .val (.int (0 : Int32)), .val (.int p1), .unset] [(.ref a0')])) _
    refine XS.iload X0.here hx rfl (hb hby d2_8) rfl ?_
    show Steps p.tables e below (T0.setTop (mkF m 10 #[.val (.ref a0'), .val (.int p1), .val (.int (0 : Int32)), .val (.int (0 : Int32)), .val (.int p1), .unset] [(.int p1), (.ref a0')])) _
    refine XS.iinc X0.here hx rfl (hb hby d2_10) rfl (l' := #[.val (.ref a0'), .val (.int p1), .val (.int (0 : Int32)), .val (.int (0 : Int32)), .val (.int (p1 + (1 : Int32))), .unset]) rfl ?_
    show Steps p.tables e below (T0.setTop (mkF m 13 #[.val (.ref a0'), .val (.int p1), .val (.int (0 : Int32)), .val (.int (0 : Int32)), .val (.int (p1 + (1 : Int32))), .unset] [(.int p1), (.ref a0')])) _
    refine own_ldB X0 hx hZ e0 A0 (j := p1) (own_ix0 p1 hp4).1 (k := _) rfl (v := (.int y0)) (by rw [(own_ix0 p1 hp4).2]; exact hv0) (g := (mkF m 13 #[.val (.ref a0'), .val (.int p1), .val (.int (0 : Int32)), .val (.int (0 : Int32)), .val (.int (p1 + (1 : Int32))), .unset] [(.int p1), (.ref a0')])) rfl rfl (hb hby d2_13) _ ?_
    show Steps p.tables e below (T0.setTop (mkF m 14 #[.val (.ref a0'), .val (.int p1), .val (.int (0 : Int32)), .val (.int (0 : Int32)), .val (.int (p1 + (1 : Int32))), .unset] [(.int y0)])) _
    refine XS.istore X0.here hx rfl (hb hby d2_14) rfl (l' := #[.val (.ref a0'), .val (.int p1), .val (.int (0 : Int32)), .val (.int (0 : Int32)), .val (.int (p1 + (1 : Int32))), .val (.int y0)]) rfl ?_
    show Steps p.tables e below (T0.setTop (mkF m 16 #[.val (.ref a0'), .val (.int p1), .val (.int (0 : Int32)), .val (.int (0 : Int32)), .val (.int (p1 + (1 : Int32))), .val (.int y0)] [])) _
    refine XS.iloadN X0.here hx rfl (hb hby d2_16) rfl ?_
    show Steps p.tables e below (T0.setTop (mkF m 17 #[.val (.ref a0'), .val (.int p1), .val (.int (0 : Int32)), .val (.int (0 : Int32)), .val (.int (p1 + (1 : Int32))), .val (.int y0)] [(.int (0 : Int32))])) _
    refine XS.iload X0.here hx rfl (hb hby d2_17) rfl ?_
    show Steps p.tables e below (T0.setTop (mkF m 19 #[.val (.ref a0'), .val (.int p1), .val (.int (0 : Int32)), .val (.int (0 : Int32)), .val (.int (p1 + (1 : Int32))), .val (.int y0)] [(.int y0), (.int (0 : Int32))])) _
    refine XS.bipush X0.here hx rfl (hb hby d2_19) ?_
    show Steps p.tables e below (T0.setTop (mkF m 21 #[.val (.ref a0'), .val (.int p1), .val (.int (0 : Int32)), .val (.int (0 : Int32)), .val (.int (p1 + (1 : Int32))), .val (.int y0)] [(.int (127 : Int32)), (.int y0), (.int (0 : Int32))])) _
    refine XS.iand X0.here hx rfl (hb hby d2_21) rfl ?_
    show Steps p.tables e below (T0.setTop (mkF m 22 #[.val (.ref a0'), .val (.int p1), .val (.int (0 : Int32)), .val (.int (0 : Int32)), .val (.int (p1 + (1 : Int32))), .val (.int y0)] [(.int (y0 &&& (127 : Int32))), (.int (0 : Int32))])) _
    refine XS.iloadN X0.here hx rfl (hb hby d2_22) rfl ?_
    show Steps p.tables e below (T0.setTop (mkF m 23 #[.val (.ref a0'), .val (.int p1), .val (.int (0 : Int32)), .val (.int (0 : Int32)), .val (.int (p1 + (1 : Int32))), .val (.int y0)] [(.int (0 : Int32)), (.int (y0 &&& (127 : Int32))), (.int (0 : Int32))])) _
    refine XS.ishl X0.here hx rfl (hb hby d2_23) rfl ?_
    show Steps p.tables e below (T0.setTop (mkF m 24 #[.val (.ref a0'), .val (.int p1), .val (.int (0 : Int32)), .val (.int (0 : Int32)), .val (.int (p1 + (1 : Int32))), .val (.int y0)] [(.int ((y0 &&& (127 : Int32)) <<< ((0 : Int32) &&& 31))), (.int (0 : Int32))])) _
    refine XS.ior X0.here hx rfl (hb hby d2_24) rfl ?_
    show Steps p.tables e below (T0.setTop (mkF m 25 #[.val (.ref a0'), .val (.int p1), .val (.int (0 : Int32)), .val (.int (0 : Int32)), .val (.int (p1 + (1 : Int32))), .val (.int y0)] [(.int ((0 : Int32) ||| ((y0 &&& (127 : Int32)) <<< ((0 : Int32) &&& 31))))])) _
    refine XS.istoreN X0.here hx rfl (hb hby d2_25) rfl (l' := #[.val (.ref a0'), .val (.int p1), .val (.int ((0 : Int32) ||| ((y0 &&& (127 : Int32)) <<< ((0 : Int32) &&& 31)))), .val (.int (0 : Int32)), .val (.int (p1 + (1 : Int32))), .val (.int y0)]) rfl ?_
    show Steps p.tables e below (T0.setTop (mkF m 26 #[.val (.ref a0'), .val (.int p1), .val (.int ((0 : Int32) ||| ((y0 &&& (127 : Int32)) <<< ((0 : Int32) &&& 31)))), .val (.int (0 : Int32)), .val (.int (p1 + (1 : Int32))), .val (.int y0)] [])) _
    refine XS.iinc X0.here hx rfl (hb hby d2_26) rfl (l' := #[.val (.ref a0'), .val (.int p1), .val (.int ((0 : Int32) ||| ((y0 &&& (127 : Int32)) <<< ((0 : Int32) &&& 31)))), .val (.int (7 : Int32)), .val (.int (p1 + (1 : Int32))), .val (.int y0)]) rfl ?_
    show Steps p.tables e below (T0.setTop (mkF m 29 #[.val (.ref a0'), .val (.int p1), .val (.int ((0 : Int32) ||| ((y0 &&& (127 : Int32)) <<< ((0 : Int32) &&& 31)))), .val (.int (7 : Int32)), .val (.int (p1 + (1 : Int32))), .val (.int y0)] [])) _
    refine XS.iload X0.here hx rfl (hb hby d2_29) rfl ?_
    show Steps p.tables e below (T0.setTop (mkF m 31 #[.val (.ref a0'), .val (.int p1), .val (.int ((0 : Int32) ||| ((y0 &&& (127 : Int32)) <<< ((0 : Int32) &&& 31)))), .val (.int (7 : Int32)), .val (.int (p1 + (1 : Int32))), .val (.int y0)] [(.int y0)])) _
    refine XS.sipush X0.here hx rfl (hb hby d2_31) ?_
    show Steps p.tables e below (T0.setTop (mkF m 34 #[.val (.ref a0'), .val (.int p1), .val (.int ((0 : Int32) ||| ((y0 &&& (127 : Int32)) <<< ((0 : Int32) &&& 31)))), .val (.int (7 : Int32)), .val (.int (p1 + (1 : Int32))), .val (.int y0)] [(.int (128 : Int32)), (.int y0)])) _
    refine XS.iand X0.here hx rfl (hb hby d2_34) rfl ?_
    exact kt
  by_cases hc35_1 : (y0 &&& (128 : Int32)) = (0 : Int32)
  · replace hr := hr.trans (if_pos hc35_1)
    refine own_step (T' := T0) (f' := (mkF m 38 #[.val (.ref a0'), .val (.int p1), .val (.int ((0 : Int32) ||| ((y0 &&& (127 : Int32)) <<< ((0 : Int32) &&& 31)))), .val (.int (7 : Int32)), .val (.int (p1 + (1 : Int32))), .val (.int y0)] [])) (fun t kt => ?_) ?_
    · show Steps p.tables e below (T0.setTop (mkF m 35 #[.val (.ref a0'), .val (.int p1), .val (.int ((0 : Int32) ||| ((y0 &&& (127 : Int32)) <<< ((0 : Int32) &&& 31)))), .val (.int (7 : Int32)), .val (.int (p1 + (1 : Int32))), .val (.int y0)] [(.int (y0 &&& (128 : Int32)))])) _
      refine XS.ifNo X0.here hx rfl (hb hby d2_35) rfl ((if0 _ _).trans (teq hc35_1).2) kt
    refine own_step (T' := T0) (f' := (mkF m 39 #[.val (.ref a0'), .val (.int p1), .val (.int ((0 : Int32) ||| ((y0 &&& (127 : Int32)) <<< ((0 : Int32) &&& 31)))), .val (.int (7 : Int32)), .val (.int (p1 + (1 : Int32))), .val (.int y0)] [(.int ((0 : Int32) ||| ((y0 &&& (127 : Int32)) <<< ((0 : Int32) &&& 31))))])) (fun t kt => ?_) ?_
    · show Steps p.tables e below (T0.setTop (mkF m 38 #[.val (.ref a0'), .val (.int p1), .val (.int ((0 : Int32) ||| ((y0 &&& (127 : Int32)) <<< ((0 : Int32) &&& 31)))), .val (.int (7 : Int32)), .val (.int (p1 + (1 : Int32))), .val (.int y0)] [])) _
      refine XS.iloadN X0.here hx rfl (hb hby d2_38) rfl ?_
      exact kt
    exact own_retI X0 hx hret hlk (hb hby d2_39) (Nat.le_refl _) (Nat.le_refl _) ⟨congrArg (fun z => some (Value.int z)) hr.symm, N0, e0⟩
  · replace hr := hr.trans (if_neg hc35_1)
    refine own_step (T' := T0) (f' := (mkF m 7 #[.val (.ref a0'), .val (.int p1), .val (.int ((0 : Int32) ||| ((y0 &&& (127 : Int32)) <<< ((0 : Int32) &&& 31)))), .val (.int (7 : Int32)), .val (.int (p1 + (1 : Int32))), .val (.int y0)] [])) (fun t kt => ?_) ?_
    · show Steps p.tables e below (T0.setTop (mkF m 35 #[.val (.ref a0'), .val (.int p1), .val (.int ((0 : Int32) ||| ((y0 &&& (127 : Int32)) <<< ((0 : Int32) &&& 31)))), .val (.int (7 : Int32)), .val (.int (p1 + (1 : Int32))), .val (.int y0)] [(.int (y0 &&& (128 : Int32)))])) _
      refine XS.ifYes X0.here hx rfl (pc0 := 35) (pc' := 7) rfl (hb hby d2_35) rfl ((if0 _ _).trans (feq hc35_1).2) (by decide) (by decide) kt
    refine own_step (T' := T0) (f' := (mkF m 35 #[.val (.ref a0'), .val (.int p1), .val (.int (((0 : Int32) ||| ((y0 &&& (127 : Int32)) <<< ((0 : Int32) &&& 31))) ||| ((y1 &&& (127 : Int32)) <<< ((7 : Int32) &&& 31)))), .val (.int (14 : Int32)), .val (.int ((p1 + (1 : Int32)) + (1 : Int32))), .val (.int y1)] [(.int (y1 &&& (128 : Int32)))])) (fun t kt => ?_) ?_
    · show Steps p.tables e below (T0.setTop (mkF m 7 #[.val (.ref a0'), .val (.int p1), .val (.int ((0 : Int32) ||| ((y0 &&& (127 : Int32)) <<< ((0 : Int32) &&& 31)))), .val (.int (7 : Int32)), .val (.int (p1 + (1 : Int32))), .val (.int y0)] [])) _
      refine XS.aloadN X0.here hx rfl (hb hby d2_7) rfl rfl ?_
      show Steps p.tables e below (T0.setTop (mkF m 8 #[.val (.ref a0'), .val (.int p1), .val (.int ((0 : Int32) ||| ((y0 &&& (127 : Int32)) <<< ((0 : Int32) &&& 31)))), .val (.int (7 : Int32)), .val (.int (p1 + (1 : Int32))), .val (.int y0)] [(.ref a0')])) _
      refine XS.iload X0.here hx rfl (hb hby d2_8) rfl ?_
      show Steps p.tables e below (T0.setTop (mkF m 10 #[.val (.ref a0'), .val (.int p1), .val (.int ((0 : Int32) ||| ((y0 &&& (127 : Int32)) <<< ((0 : Int32) &&& 31)))), .val (.int (7 : Int32)), .val (.int (p1 + (1 : Int32))), .val (.int y0)] [(.int (p1 + (1 : Int32))), (.ref a0')])) _
      refine XS.iinc X0.here hx rfl (hb hby d2_10) rfl (l' := #[.val (.ref a0'), .val (.int p1), .val (.int ((0 : Int32) ||| ((y0 &&& (127 : Int32)) <<< ((0 : Int32) &&& 31)))), .val (.int (7 : Int32)), .val (.int ((p1 + (1 : Int32)) + (1 : Int32))), .val (.int y0)]) rfl ?_
      show Steps p.tables e below (T0.setTop (mkF m 13 #[.val (.ref a0'), .val (.int p1), .val (.int ((0 : Int32) ||| ((y0 &&& (127 : Int32)) <<< ((0 : Int32) &&& 31)))), .val (.int (7 : Int32)), .val (.int ((p1 + (1 : Int32)) + (1 : Int32))), .val (.int y0)] [(.int (p1 + (1 : Int32))), (.ref a0')])) _
      refine own_ldB X0 hx hZ e0 A0 (j := (p1 + (1 : Int32))) (own_ix1 p1 hp4).1 (k := _) rfl (v := (.int y1)) (by rw [(own_ix1 p1 hp4).2]; exact hv1) (g := (mkF m 13 #[.val (.ref a0'), .val (.int p1), .val (.int ((0 : Int32) ||| ((y0 &&& (127 : Int32)) <<< ((0 : Int32) &&& 31)))), .val (.int (7 : Int32)), .val (.int ((p1 + (1 : Int32)) + (1 : Int32))), .val (.int y0)] [(.int (p1 + (1 : Int32))), (.ref a0')])) rfl rfl (hb hby d2_13) _ ?_
      show Steps p.tables e below (T0.setTop (mkF m 14 #[.val (.ref a0'), .val (.int p1), .val (.int ((0 : Int32) ||| ((y0 &&& (127 : Int32)) <<< ((0 : Int32) &&& 31)))), .val (.int (7 : Int32)), .val (.int ((p1 + (1 : Int32)) + (1 : Int32))), .val (.int y0)] [(.int y1)])) _
      refine XS.istore X0.here hx rfl (hb hby d2_14) rfl (l' := #[.val (.ref a0'), .val (.int p1), .val (.int ((0 : Int32) ||| ((y0 &&& (127 : Int32)) <<< ((0 : Int32) &&& 31)))), .val (.int (7 : Int32)), .val (.int ((p1 + (1 : Int32)) + (1 : Int32))), .val (.int y1)]) rfl ?_
      show Steps p.tables e below (T0.setTop (mkF m 16 #[.val (.ref a0'), .val (.int p1), .val (.int ((0 : Int32) ||| ((y0 &&& (127 : Int32)) <<< ((0 : Int32) &&& 31)))), .val (.int (7 : Int32)), .val (.int ((p1 + (1 : Int32)) + (1 : Int32))), .val (.int y1)] [])) _
      refine XS.iloadN X0.here hx rfl (hb hby d2_16) rfl ?_
      show Steps p.tables e below (T0.setTop (mkF m 17 #[.val (.ref a0'), .val (.int p1), .val (.int ((0 : Int32) ||| ((y0 &&& (127 : Int32)) <<< ((0 : Int32) &&& 31)))), .val (.int (7 : Int32)), .val (.int ((p1 + (1 : Int32)) + (1 : Int32))), .val (.int y1)] [(.int ((0 : Int32) ||| ((y0 &&& (127 : Int32)) <<< ((0 : Int32) &&& 31))))])) _
      refine XS.iload X0.here hx rfl (hb hby d2_17) rfl ?_
      show Steps p.tables e below (T0.setTop (mkF m 19 #[.val (.ref a0'), .val (.int p1), .val (.int ((0 : Int32) ||| ((y0 &&& (127 : Int32)) <<< ((0 : Int32) &&& 31)))), .val (.int (7 : Int32)), .val (.int ((p1 + (1 : Int32)) + (1 : Int32))), .val (.int y1)] [(.int y1), (.int ((0 : Int32) ||| ((y0 &&& (127 : Int32)) <<< ((0 : Int32) &&& 31))))])) _
      refine XS.bipush X0.here hx rfl (hb hby d2_19) ?_
      show Steps p.tables e below (T0.setTop (mkF m 21 #[.val (.ref a0'), .val (.int p1), .val (.int ((0 : Int32) ||| ((y0 &&& (127 : Int32)) <<< ((0 : Int32) &&& 31)))), .val (.int (7 : Int32)), .val (.int ((p1 + (1 : Int32)) + (1 : Int32))), .val (.int y1)] [(.int (127 : Int32)), (.int y1), (.int ((0 : Int32) ||| ((y0 &&& (127 : Int32)) <<< ((0 : Int32) &&& 31))))])) _
      refine XS.iand X0.here hx rfl (hb hby d2_21) rfl ?_
      show Steps p.tables e below (T0.setTop (mkF m 22 #[.val (.ref a0'), .val (.int p1), .val (.int ((0 : Int32) ||| ((y0 &&& (127 : Int32)) <<< ((0 : Int32) &&& 31)))), .val (.int (7 : Int32)), .val (.int ((p1 + (1 : Int32)) + (1 : Int32))), .val (.int y1)] [(.int (y1 &&& (127 : Int32))), (.int ((0 : Int32) ||| ((y0 &&& (127 : Int32)) <<< ((0 : Int32) &&& 31))))])) _
      refine XS.iloadN X0.here hx rfl (hb hby d2_22) rfl ?_
      show Steps p.tables e below (T0.setTop (mkF m 23 #[.val (.ref a0'), .val (.int p1), .val (.int ((0 : Int32) ||| ((y0 &&& (127 : Int32)) <<< ((0 : Int32) &&& 31)))), .val (.int (7 : Int32)), .val (.int ((p1 + (1 : Int32)) + (1 : Int32))), .val (.int y1)] [(.int (7 : Int32)), (.int (y1 &&& (127 : Int32))), (.int ((0 : Int32) ||| ((y0 &&& (127 : Int32)) <<< ((0 : Int32) &&& 31))))])) _
      refine XS.ishl X0.here hx rfl (hb hby d2_23) rfl ?_
      show Steps p.tables e below (T0.setTop (mkF m 24 #[.val (.ref a0'), .val (.int p1), .val (.int ((0 : Int32) ||| ((y0 &&& (127 : Int32)) <<< ((0 : Int32) &&& 31)))), .val (.int (7 : Int32)), .val (.int ((p1 + (1 : Int32)) + (1 : Int32))), .val (.int y1)] [(.int ((y1 &&& (127 : Int32)) <<< ((7 : Int32) &&& 31))), (.int ((0 : Int32) ||| ((y0 &&& (127 : Int32)) <<< ((0 : Int32) &&& 31))))])) _
      refine XS.ior X0.here hx rfl (hb hby d2_24) rfl ?_
      show Steps p.tables e below (T0.setTop (mkF m 25 #[.val (.ref a0'), .val (.int p1), .val (.int ((0 : Int32) ||| ((y0 &&& (127 : Int32)) <<< ((0 : Int32) &&& 31)))), .val (.int (7 : Int32)), .val (.int ((p1 + (1 : Int32)) + (1 : Int32))), .val (.int y1)] [(.int (((0 : Int32) ||| ((y0 &&& (127 : Int32)) <<< ((0 : Int32) &&& 31))) ||| ((y1 &&& (127 : Int32)) <<< ((7 : Int32) &&& 31))))])) _
      refine XS.istoreN X0.here hx rfl (hb hby d2_25) rfl (l' := #[.val (.ref a0'), .val (.int p1), .val (.int (((0 : Int32) ||| ((y0 &&& (127 : Int32)) <<< ((0 : Int32) &&& 31))) ||| ((y1 &&& (127 : Int32)) <<< ((7 : Int32) &&& 31)))), .val (.int (7 : Int32)), .val (.int ((p1 + (1 : Int32)) + (1 : Int32))), .val (.int y1)]) rfl ?_
      show Steps p.tables e below (T0.setTop (mkF m 26 #[.val (.ref a0'), .val (.int p1), .val (.int (((0 : Int32) ||| ((y0 &&& (127 : Int32)) <<< ((0 : Int32) &&& 31))) ||| ((y1 &&& (127 : Int32)) <<< ((7 : Int32) &&& 31)))), .val (.int (7 : Int32)), .val (.int ((p1 + (1 : Int32)) + (1 : Int32))), .val (.int y1)] [])) _
      refine XS.iinc X0.here hx rfl (hb hby d2_26) rfl (l' := #[.val (.ref a0'), .val (.int p1), .val (.int (((0 : Int32) ||| ((y0 &&& (127 : Int32)) <<< ((0 : Int32) &&& 31))) ||| ((y1 &&& (127 : Int32)) <<< ((7 : Int32) &&& 31)))), .val (.int (14 : Int32)), .val (.int ((p1 + (1 : Int32)) + (1 : Int32))), .val (.int y1)]) rfl ?_
      show Steps p.tables e below (T0.setTop (mkF m 29 #[.val (.ref a0'), .val (.int p1), .val (.int (((0 : Int32) ||| ((y0 &&& (127 : Int32)) <<< ((0 : Int32) &&& 31))) ||| ((y1 &&& (127 : Int32)) <<< ((7 : Int32) &&& 31)))), .val (.int (14 : Int32)), .val (.int ((p1 + (1 : Int32)) + (1 : Int32))), .val (.int y1)] [])) _
      refine XS.iload X0.here hx rfl (hb hby d2_29) rfl ?_
      show Steps p.tables e below (T0.setTop (mkF m 31 #[.val (.ref a0'), .val (.int p1), .val (.int (((0 : Int32) ||| ((y0 &&& (127 : Int32)) <<< ((0 : Int32) &&& 31))) ||| ((y1 &&& (127 : Int32)) <<< ((7 : Int32) &&& 31)))), .val (.int (14 : Int32)), .val (.int ((p1 + (1 : Int32)) + (1 : Int32))), .val (.int y1)] [(.int y1)])) _
      refine XS.sipush X0.here hx rfl (hb hby d2_31) ?_
      show Steps p.tables e below (T0.setTop (mkF m 34 #[.val (.ref a0'), .val (.int p1), .val (.int (((0 : Int32) ||| ((y0 &&& (127 : Int32)) <<< ((0 : Int32) &&& 31))) ||| ((y1 &&& (127 : Int32)) <<< ((7 : Int32) &&& 31)))), .val (.int (14 : Int32)), .val (.int ((p1 + (1 : Int32)) + (1 : Int32))), .val (.int y1)] [(.int (128 : Int32)), (.int y1)])) _
      refine XS.iand X0.here hx rfl (hb hby d2_34) rfl ?_
      exact kt
    by_cases hc35_2 : (y1 &&& (128 : Int32)) = (0 : Int32)
    · replace hr := hr.trans (if_pos hc35_2)
      refine own_step (T' := T0) (f' := (mkF m 38 #[.val (.ref a0'), .val (.int p1), .val (.int (((0 : Int32) ||| ((y0 &&& (127 : Int32)) <<< ((0 : Int32) &&& 31))) ||| ((y1 &&& (127 : Int32)) <<< ((7 : Int32) &&& 31)))), .val (.int (14 : Int32)), .val (.int ((p1 + (1 : Int32)) + (1 : Int32))), .val (.int y1)] [])) (fun t kt => ?_) ?_
      · show Steps p.tables e below (T0.setTop (mkF m 35 #[.val (.ref a0'), .val (.int p1), .val (.int (((0 : Int32) ||| ((y0 &&& (127 : Int32)) <<< ((0 : Int32) &&& 31))) ||| ((y1 &&& (127 : Int32)) <<< ((7 : Int32) &&& 31)))), .val (.int (14 : Int32)), .val (.int ((p1 + (1 : Int32)) + (1 : Int32))), .val (.int y1)] [(.int (y1 &&& (128 : Int32)))])) _
        refine XS.ifNo X0.here hx rfl (hb hby d2_35) rfl ((if0 _ _).trans (teq hc35_2).2) kt
      refine own_step (T' := T0) (f' := (mkF m 39 #[.val (.ref a0'), .val (.int p1), .val (.int (((0 : Int32) ||| ((y0 &&& (127 : Int32)) <<< ((0 : Int32) &&& 31))) ||| ((y1 &&& (127 : Int32)) <<< ((7 : Int32) &&& 31)))), .val (.int (14 : Int32)), .val (.int ((p1 + (1 : Int32)) + (1 : Int32))), .val (.int y1)] [(.int (((0 : Int32) ||| ((y0 &&& (127 : Int32)) <<< ((0 : Int32) &&& 31))) ||| ((y1 &&& (127 : Int32)) <<< ((7 : Int32) &&& 31))))])) (fun t kt => ?_) ?_
      · show Steps p.tables e below (T0.setTop (mkF m 38 #[.val (.ref a0'), .val (.int p1), .val (.int (((0 : Int32) ||| ((y0 &&& (127 : Int32)) <<< ((0 : Int32) &&& 31))) ||| ((y1 &&& (127 : Int32)) <<< ((7 : Int32) &&& 31)))), .val (.int (14 : Int32)), .val (.int ((p1 + (1 : Int32)) + (1 : Int32))), .val (.int y1)] [])) _
        refine XS.iloadN X0.here hx rfl (hb hby d2_38) rfl ?_
        exact kt
      exact own_retI X0 hx hret hlk (hb hby d2_39) (Nat.le_refl _) (Nat.le_refl _) ⟨congrArg (fun z => some (Value.int z)) hr.symm, N0, e0⟩
    · replace hr := hr.trans (if_neg hc35_2)
      refine own_step (T' := T0) (f' := (mkF m 7 #[.val (.ref a0'), .val (.int p1), .val (.int (((0 : Int32) ||| ((y0 &&& (127 : Int32)) <<< ((0 : Int32) &&& 31))) ||| ((y1 &&& (127 : Int32)) <<< ((7 : Int32) &&& 31)))), .val (.int (14 : Int32)), .val (.int ((p1 + (1 : Int32)) + (1 : Int32))), .val (.int y1)] [])) (fun t kt => ?_) ?_
      · show Steps p.tables e below (T0.setTop (mkF m 35 #[.val (.ref a0'), .val (.int p1), .val (.int (((0 : Int32) ||| ((y0 &&& (127 : Int32)) <<< ((0 : Int32) &&& 31))) ||| ((y1 &&& (127 : Int32)) <<< ((7 : Int32) &&& 31)))), .val (.int (14 : Int32)), .val (.int ((p1 + (1 : Int32)) + (1 : Int32))), .val (.int y1)] [(.int (y1 &&& (128 : Int32)))])) _
        refine XS.ifYes X0.here hx rfl (pc0 := 35) (pc' := 7) rfl (hb hby d2_35) rfl ((if0 _ _).trans (feq hc35_2).2) (by decide) (by decide) kt
      refine own_step (T' := T0) (f' := (mkF m 35 #[.val (.ref a0'), .val (.int p1), .val (.int ((((0 : Int32) ||| ((y0 &&& (127 : Int32)) <<< ((0 : Int32) &&& 31))) ||| ((y1 &&& (127 : Int32)) <<< ((7 : Int32) &&& 31))) ||| ((y2 &&& (127 : Int32)) <<< ((14 : Int32) &&& 31)))), .val (.int (21 : Int32)), .val (.int (((p1 + (1 : Int32)) + (1 : Int32)) + (1 : Int32))), .val (.int y2)] [(.int (y2 &&& (128 : Int32)))])) (fun t kt => ?_) ?_
      · show Steps p.tables e below (T0.setTop (mkF m 7 #[.val (.ref a0'), .val (.int p1), .val (.int (((0 : Int32) ||| ((y0 &&& (127 : Int32)) <<< ((0 : Int32) &&& 31))) ||| ((y1 &&& (127 : Int32)) <<< ((7 : Int32) &&& 31)))), .val (.int (14 : Int32)), .val (.int ((p1 + (1 : Int32)) + (1 : Int32))), .val (.int y1)] [])) _
        refine XS.aloadN X0.here hx rfl (hb hby d2_7) rfl rfl ?_
        show Steps p.tables e below (T0.setTop (mkF m 8 #[.val (.ref a0'), .val (.int p1), .val (.int (((0 : Int32) ||| ((y0 &&& (127 : Int32)) <<< ((0 : Int32) &&& 31))) ||| ((y1 &&& (127 : Int32)) <<< ((7 : Int32) &&& 31)))), .val (.int (14 : Int32)), .val (.int ((p1 + (1 : Int32)) + (1 : Int32))), .val (.int y1)] [(.ref a0')])) _
        refine XS.iload X0.here hx rfl (hb hby d2_8) rfl ?_
        show Steps p.tables e below (T0.setTop (mkF m 10 #[.val (.ref a0'), .val (.int p1), .val (.int (((0 : Int32) ||| ((y0 &&& (127 : Int32)) <<< ((0 : Int32) &&& 31))) ||| ((y1 &&& (127 : Int32)) <<< ((7 : Int32) &&& 31)))), .val (.int (14 : Int32)), .val (.int ((p1 + (1 : Int32)) + (1 : Int32))), .val (.int y1)] [(.int ((p1 + (1 : Int32)) + (1 : Int32))), (.ref a0')])) _
        refine XS.iinc X0.here hx rfl (hb hby d2_10) rfl (l' := #[.val (.ref a0'), .val (.int p1), .val (.int (((0 : Int32) ||| ((y0 &&& (127 : Int32)) <<< ((0 : Int32) &&& 31))) ||| ((y1 &&& (127 : Int32)) <<< ((7 : Int32) &&& 31)))), .val (.int (14 : Int32)), .val (.int (((p1 + (1 : Int32)) + (1 : Int32)) + (1 : Int32))), .val (.int y1)]) rfl ?_
        show Steps p.tables e below (T0.setTop (mkF m 13 #[.val (.ref a0'), .val (.int p1), .val (.int (((0 : Int32) ||| ((y0 &&& (127 : Int32)) <<< ((0 : Int32) &&& 31))) ||| ((y1 &&& (127 : Int32)) <<< ((7 : Int32) &&& 31)))), .val (.int (14 : Int32)), .val (.int (((p1 + (1 : Int32)) + (1 : Int32)) + (1 : Int32))), .val (.int y1)] [(.int ((p1 + (1 : Int32)) + (1 : Int32))), (.ref a0')])) _
        refine own_ldB X0 hx hZ e0 A0 (j := ((p1 + (1 : Int32)) + (1 : Int32))) (own_ix2 p1 hp4).1 (k := _) rfl (v := (.int y2)) (by rw [(own_ix2 p1 hp4).2]; exact hv2) (g := (mkF m 13 #[.val (.ref a0'), .val (.int p1), .val (.int (((0 : Int32) ||| ((y0 &&& (127 : Int32)) <<< ((0 : Int32) &&& 31))) ||| ((y1 &&& (127 : Int32)) <<< ((7 : Int32) &&& 31)))), .val (.int (14 : Int32)), .val (.int (((p1 + (1 : Int32)) + (1 : Int32)) + (1 : Int32))), .val (.int y1)] [(.int ((p1 + (1 : Int32)) + (1 : Int32))), (.ref a0')])) rfl rfl (hb hby d2_13) _ ?_
        show Steps p.tables e below (T0.setTop (mkF m 14 #[.val (.ref a0'), .val (.int p1), .val (.int (((0 : Int32) ||| ((y0 &&& (127 : Int32)) <<< ((0 : Int32) &&& 31))) ||| ((y1 &&& (127 : Int32)) <<< ((7 : Int32) &&& 31)))), .val (.int (14 : Int32)), .val (.int (((p1 + (1 : Int32)) + (1 : Int32)) + (1 : Int32))), .val (.int y1)] [(.int y2)])) _
        refine XS.istore X0.here hx rfl (hb hby d2_14) rfl (l' := #[.val (.ref a0'), .val (.int p1), .val (.int (((0 : Int32) ||| ((y0 &&& (127 : Int32)) <<< ((0 : Int32) &&& 31))) ||| ((y1 &&& (127 : Int32)) <<< ((7 : Int32) &&& 31)))), .val (.int (14 : Int32)), .val (.int (((p1 + (1 : Int32)) + (1 : Int32)) + (1 : Int32))), .val (.int y2)]) rfl ?_
        show Steps p.tables e below (T0.setTop (mkF m 16 #[.val (.ref a0'), .val (.int p1), .val (.int (((0 : Int32) ||| ((y0 &&& (127 : Int32)) <<< ((0 : Int32) &&& 31))) ||| ((y1 &&& (127 : Int32)) <<< ((7 : Int32) &&& 31)))), .val (.int (14 : Int32)), .val (.int (((p1 + (1 : Int32)) + (1 : Int32)) + (1 : Int32))), .val (.int y2)] [])) _
        refine XS.iloadN X0.here hx rfl (hb hby d2_16) rfl ?_
        show Steps p.tables e below (T0.setTop (mkF m 17 #[.val (.ref a0'), .val (.int p1), .val (.int (((0 : Int32) ||| ((y0 &&& (127 : Int32)) <<< ((0 : Int32) &&& 31))) ||| ((y1 &&& (127 : Int32)) <<< ((7 : Int32) &&& 31)))), .val (.int (14 : Int32)), .val (.int (((p1 + (1 : Int32)) + (1 : Int32)) + (1 : Int32))), .val (.int y2)] [(.int (((0 : Int32) ||| ((y0 &&& (127 : Int32)) <<< ((0 : Int32) &&& 31))) ||| ((y1 &&& (127 : Int32)) <<< ((7 : Int32) &&& 31))))])) _
        refine XS.iload X0.here hx rfl (hb hby d2_17) rfl ?_
        show Steps p.tables e below (T0.setTop (mkF m 19 #[.val (.ref a0'), .val (.int p1), .val (.int (((0 : Int32) ||| ((y0 &&& (127 : Int32)) <<< ((0 : Int32) &&& 31))) ||| ((y1 &&& (127 : Int32)) <<< ((7 : Int32) &&& 31)))), .val (.int (14 : Int32)), .val (.int (((p1 + (1 : Int32)) + (1 : Int32)) + (1 : Int32))), .val (.int y2)] [(.int y2), (.int (((0 : Int32) ||| ((y0 &&& (127 : Int32)) <<< ((0 : Int32) &&& 31))) ||| ((y1 &&& (127 : Int32)) <<< ((7 : Int32) &&& 31))))])) _
        refine XS.bipush X0.here hx rfl (hb hby d2_19) ?_
        show Steps p.tables e below (T0.setTop (mkF m 21 #[.val (.ref a0'), .val (.int p1), .val (.int (((0 : Int32) ||| ((y0 &&& (127 : Int32)) <<< ((0 : Int32) &&& 31))) ||| ((y1 &&& (127 : Int32)) <<< ((7 : Int32) &&& 31)))), .val (.int (14 : Int32)), .val (.int (((p1 + (1 : Int32)) + (1 : Int32)) + (1 : Int32))), .val (.int y2)] [(.int (127 : Int32)), (.int y2), (.int (((0 : Int32) ||| ((y0 &&& (127 : Int32)) <<< ((0 : Int32) &&& 31))) ||| ((y1 &&& (127 : Int32)) <<< ((7 : Int32) &&& 31))))])) _
        refine XS.iand X0.here hx rfl (hb hby d2_21) rfl ?_
        show Steps p.tables e below (T0.setTop (mkF m 22 #[.val (.ref a0'), .val (.int p1), .val (.int (((0 : Int32) ||| ((y0 &&& (127 : Int32)) <<< ((0 : Int32) &&& 31))) ||| ((y1 &&& (127 : Int32)) <<< ((7 : Int32) &&& 31)))), .val (.int (14 : Int32)), .val (.int (((p1 + (1 : Int32)) + (1 : Int32)) + (1 : Int32))), .val (.int y2)] [(.int (y2 &&& (127 : Int32))), (.int (((0 : Int32) ||| ((y0 &&& (127 : Int32)) <<< ((0 : Int32) &&& 31))) ||| ((y1 &&& (127 : Int32)) <<< ((7 : Int32) &&& 31))))])) _
        refine XS.iloadN X0.here hx rfl (hb hby d2_22) rfl ?_
        show Steps p.tables e below (T0.setTop (mkF m 23 #[.val (.ref a0'), .val (.int p1), .val (.int (((0 : Int32) ||| ((y0 &&& (127 : Int32)) <<< ((0 : Int32) &&& 31))) ||| ((y1 &&& (127 : Int32)) <<< ((7 : Int32) &&& 31)))), .val (.int (14 : Int32)), .val (.int (((p1 + (1 : Int32)) + (1 : Int32)) + (1 : Int32))), .val (.int y2)] [(.int (14 : Int32)), (.int (y2 &&& (127 : Int32))), (.int (((0 : Int32) ||| ((y0 &&& (127 : Int32)) <<< ((0 : Int32) &&& 31))) ||| ((y1 &&& (127 : Int32)) <<< ((7 : Int32) &&& 31))))])) _
        refine XS.ishl X0.here hx rfl (hb hby d2_23) rfl ?_
        show Steps p.tables e below (T0.setTop (mkF m 24 #[.val (.ref a0'), .val (.int p1), .val (.int (((0 : Int32) ||| ((y0 &&& (127 : Int32)) <<< ((0 : Int32) &&& 31))) ||| ((y1 &&& (127 : Int32)) <<< ((7 : Int32) &&& 31)))), .val (.int (14 : Int32)), .val (.int (((p1 + (1 : Int32)) + (1 : Int32)) + (1 : Int32))), .val (.int y2)] [(.int ((y2 &&& (127 : Int32)) <<< ((14 : Int32) &&& 31))), (.int (((0 : Int32) ||| ((y0 &&& (127 : Int32)) <<< ((0 : Int32) &&& 31))) ||| ((y1 &&& (127 : Int32)) <<< ((7 : Int32) &&& 31))))])) _
        refine XS.ior X0.here hx rfl (hb hby d2_24) rfl ?_
        show Steps p.tables e below (T0.setTop (mkF m 25 #[.val (.ref a0'), .val (.int p1), .val (.int (((0 : Int32) ||| ((y0 &&& (127 : Int32)) <<< ((0 : Int32) &&& 31))) ||| ((y1 &&& (127 : Int32)) <<< ((7 : Int32) &&& 31)))), .val (.int (14 : Int32)), .val (.int (((p1 + (1 : Int32)) + (1 : Int32)) + (1 : Int32))), .val (.int y2)] [(.int ((((0 : Int32) ||| ((y0 &&& (127 : Int32)) <<< ((0 : Int32) &&& 31))) ||| ((y1 &&& (127 : Int32)) <<< ((7 : Int32) &&& 31))) ||| ((y2 &&& (127 : Int32)) <<< ((14 : Int32) &&& 31))))])) _
        refine XS.istoreN X0.here hx rfl (hb hby d2_25) rfl (l' := #[.val (.ref a0'), .val (.int p1), .val (.int ((((0 : Int32) ||| ((y0 &&& (127 : Int32)) <<< ((0 : Int32) &&& 31))) ||| ((y1 &&& (127 : Int32)) <<< ((7 : Int32) &&& 31))) ||| ((y2 &&& (127 : Int32)) <<< ((14 : Int32) &&& 31)))), .val (.int (14 : Int32)), .val (.int (((p1 + (1 : Int32)) + (1 : Int32)) + (1 : Int32))), .val (.int y2)]) rfl ?_
        show Steps p.tables e below (T0.setTop (mkF m 26 #[.val (.ref a0'), .val (.int p1), .val (.int ((((0 : Int32) ||| ((y0 &&& (127 : Int32)) <<< ((0 : Int32) &&& 31))) ||| ((y1 &&& (127 : Int32)) <<< ((7 : Int32) &&& 31))) ||| ((y2 &&& (127 : Int32)) <<< ((14 : Int32) &&& 31)))), .val (.int (14 : Int32)), .val (.int (((p1 + (1 : Int32)) + (1 : Int32)) + (1 : Int32))), .val (.int y2)] [])) _
        refine XS.iinc X0.here hx rfl (hb hby d2_26) rfl (l' := #[.val (.ref a0'), .val (.int p1), .val (.int ((((0 : Int32) ||| ((y0 &&& (127 : Int32)) <<< ((0 : Int32) &&& 31))) ||| ((y1 &&& (127 : Int32)) <<< ((7 : Int32) &&& 31))) ||| ((y2 &&& (127 : Int32)) <<< ((14 : Int32) &&& 31)))), .val (.int (21 : Int32)), .val (.int (((p1 + (1 : Int32)) + (1 : Int32)) + (1 : Int32))), .val (.int y2)]) rfl ?_
        show Steps p.tables e below (T0.setTop (mkF m 29 #[.val (.ref a0'), .val (.int p1), .val (.int ((((0 : Int32) ||| ((y0 &&& (127 : Int32)) <<< ((0 : Int32) &&& 31))) ||| ((y1 &&& (127 : Int32)) <<< ((7 : Int32) &&& 31))) ||| ((y2 &&& (127 : Int32)) <<< ((14 : Int32) &&& 31)))), .val (.int (21 : Int32)), .val (.int (((p1 + (1 : Int32)) + (1 : Int32)) + (1 : Int32))), .val (.int y2)] [])) _
        refine XS.iload X0.here hx rfl (hb hby d2_29) rfl ?_
        show Steps p.tables e below (T0.setTop (mkF m 31 #[.val (.ref a0'), .val (.int p1), .val (.int ((((0 : Int32) ||| ((y0 &&& (127 : Int32)) <<< ((0 : Int32) &&& 31))) ||| ((y1 &&& (127 : Int32)) <<< ((7 : Int32) &&& 31))) ||| ((y2 &&& (127 : Int32)) <<< ((14 : Int32) &&& 31)))), .val (.int (21 : Int32)), .val (.int (((p1 + (1 : Int32)) + (1 : Int32)) + (1 : Int32))), .val (.int y2)] [(.int y2)])) _
        refine XS.sipush X0.here hx rfl (hb hby d2_31) ?_
        show Steps p.tables e below (T0.setTop (mkF m 34 #[.val (.ref a0'), .val (.int p1), .val (.int ((((0 : Int32) ||| ((y0 &&& (127 : Int32)) <<< ((0 : Int32) &&& 31))) ||| ((y1 &&& (127 : Int32)) <<< ((7 : Int32) &&& 31))) ||| ((y2 &&& (127 : Int32)) <<< ((14 : Int32) &&& 31)))), .val (.int (21 : Int32)), .val (.int (((p1 + (1 : Int32)) + (1 : Int32)) + (1 : Int32))), .val (.int y2)] [(.int (128 : Int32)), (.int y2)])) _
        refine XS.iand X0.here hx rfl (hb hby d2_34) rfl ?_
        exact kt
      refine own_step (T' := T0) (f' := (mkF m 38 #[.val (.ref a0'), .val (.int p1), .val (.int ((((0 : Int32) ||| ((y0 &&& (127 : Int32)) <<< ((0 : Int32) &&& 31))) ||| ((y1 &&& (127 : Int32)) <<< ((7 : Int32) &&& 31))) ||| ((y2 &&& (127 : Int32)) <<< ((14 : Int32) &&& 31)))), .val (.int (21 : Int32)), .val (.int (((p1 + (1 : Int32)) + (1 : Int32)) + (1 : Int32))), .val (.int y2)] [])) (fun t kt => ?_) ?_
      · show Steps p.tables e below (T0.setTop (mkF m 35 #[.val (.ref a0'), .val (.int p1), .val (.int ((((0 : Int32) ||| ((y0 &&& (127 : Int32)) <<< ((0 : Int32) &&& 31))) ||| ((y1 &&& (127 : Int32)) <<< ((7 : Int32) &&& 31))) ||| ((y2 &&& (127 : Int32)) <<< ((14 : Int32) &&& 31)))), .val (.int (21 : Int32)), .val (.int (((p1 + (1 : Int32)) + (1 : Int32)) + (1 : Int32))), .val (.int y2)] [(.int (y2 &&& (128 : Int32)))])) _
        refine XS.ifNo X0.here hx rfl (hb hby d2_35) rfl ((if0 _ _).trans (teq hb0).2) kt
      refine own_step (T' := T0) (f' := (mkF m 39 #[.val (.ref a0'), .val (.int p1), .val (.int ((((0 : Int32) ||| ((y0 &&& (127 : Int32)) <<< ((0 : Int32) &&& 31))) ||| ((y1 &&& (127 : Int32)) <<< ((7 : Int32) &&& 31))) ||| ((y2 &&& (127 : Int32)) <<< ((14 : Int32) &&& 31)))), .val (.int (21 : Int32)), .val (.int (((p1 + (1 : Int32)) + (1 : Int32)) + (1 : Int32))), .val (.int y2)] [(.int ((((0 : Int32) ||| ((y0 &&& (127 : Int32)) <<< ((0 : Int32) &&& 31))) ||| ((y1 &&& (127 : Int32)) <<< ((7 : Int32) &&& 31))) ||| ((y2 &&& (127 : Int32)) <<< ((14 : Int32) &&& 31))))])) (fun t kt => ?_) ?_
      · show Steps p.tables e below (T0.setTop (mkF m 38 #[.val (.ref a0'), .val (.int p1), .val (.int ((((0 : Int32) ||| ((y0 &&& (127 : Int32)) <<< ((0 : Int32) &&& 31))) ||| ((y1 &&& (127 : Int32)) <<< ((7 : Int32) &&& 31))) ||| ((y2 &&& (127 : Int32)) <<< ((14 : Int32) &&& 31)))), .val (.int (21 : Int32)), .val (.int (((p1 + (1 : Int32)) + (1 : Int32)) + (1 : Int32))), .val (.int y2)] [])) _
        refine XS.iloadN X0.here hx rfl (hb hby d2_38) rfl ?_
        exact kt
      exact own_retI X0 hx hret hlk (hb hby d2_39) (Nat.le_refl _) (Nat.le_refl _) ⟨congrArg (fun z => some (Value.int z)) hr.symm, N0, e0⟩
set_option maxRecDepth 65536 in
set_option maxHeartbeats 4000000 in
theorem rm2n3 (l : Launch) (Z : State) (a0 : Array Value) (hw : ∀ d ∈ tables_1, d.before a0 Z = true) (ws : List Jvm.Cond) (a0' : Addr) (p1 : Int32) (y0 : Int32) (y1 : Int32) (y2 : Int32) (vs0 : List Value) (h0 : Heap) (n0 : Nat) (A0 : own_A Z h0 a0' .byte vs0) (hp4 : p1 = 0 ∨ p1 = 1 ∨ p1 = 2 ∨ p1 = 3) (hv0 : vs0[p1.toNatClampNeg + 0]? = some (.int y0)) (hv1 : vs0[p1.toNatClampNeg + 1]? = some (.int y1)) (hv2 : vs0[p1.toNatClampNeg + 2]? = some (.int y2)) (hb0 : (y2 &&& (128 : Int32)) = (0 : Int32)) :
    MetFree l (⟨"hotstate/sort/VarInts", "read", "([BI)I"⟩ : MethodName) (head1 (Jvm.Cond.code (⟨"hotstate/sort/VarInts", "read", "([BI)I"⟩ : MethodName) prog_81_method_4_code 6 (some .int) :: ws) ({ frames := 0, cells := 0, slots := 0, locals := 0 } : Room)) (fun a U => a = #[(.ref a0'), (.int p1)] ∧ Z.Warmed39 U.vm ∧ U.heap = h0) (fun _ _ _ _ _ => True) (fun _ U o U' => ∃ v L, o = .returned v ∧ (own_P (.int (f2n3_0 p1 y0 y1 y2)) h0 n0) v U'.heap L ∧ FrameEnd U o U' L ({ frames := 0, cells := 0, slots := 0, locals := 0 } : Room).cells ({ frames := 0, cells := 0, slots := 0, locals := 0 } : Room).slots) := by
  refine MetFree.of_bodySF (plainFor_of_name pn2) hisR ?_
  intro p e s m args below meth c s₁ Bd hml0 hP hK
  obtain ⟨rfl, hZ, hh⟩ := hP
  have hown : s.vm.findClass "hotstate/sort/VarInts" = some m.cls := findClass_of_methodNamed Bd.named
  have X0 : Stand p l e ({ frames := 0, cells := 0, slots := 0, locals := 0 } : Room) s m #[(.ref a0'), (.int p1)] below meth c s₁ [] 0 0 := Stand.of_body Bd
  have e0 : s₁.heap = h0 := by rw [← hh, Bd.state]; rfl
  show own_Ends p e below s 0 0 (own_P (.int (f2n3_0 p1 y0 y1 y2)) h0 n0) s₁ (entryFrame m #[(.ref a0'), (.int p1)] 6)
  refine own_step (fun t k => castTop (ef2 m a0' p1) k) ?_
  exact b2n3_0 a0' p1 y0 y1 y2 vs0 X0 Bd.exec hZ hw Bd.bytes hml0 hown Bd.returns (BodyLoose.notSynchronized Bd) e0 (Fr.nil n0) A0 hp4 hv0 hv1 hv2 hb0 rfl
def f2n4_0 (p1 : Int32) (y0 : Int32) (y1 : Int32) (y2 : Int32) (y3 : Int32) : Int32 :=
  if (y0 &&& (128 : Int32)) = (0 : Int32) then (((0 : Int32) ||| ((y0 &&& (127 : Int32)) <<< ((0 : Int32) &&& 31)))) else (if (y1 &&& (128 : Int32)) = (0 : Int32) then ((((0 : Int32) ||| ((y0 &&& (127 : Int32)) <<< ((0 : Int32) &&& 31))) ||| ((y1 &&& (127 : Int32)) <<< ((7 : Int32) &&& 31)))) else (if (y2 &&& (128 : Int32)) = (0 : Int32) then (((((0 : Int32) ||| ((y0 &&& (127 : Int32)) <<< ((0 : Int32) &&& 31))) ||| ((y1 &&& (127 : Int32)) <<< ((7 : Int32) &&& 31))) ||| ((y2 &&& (127 : Int32)) <<< ((14 : Int32) &&& 31)))) else ((((((0 : Int32) ||| ((y0 &&& (127 : Int32)) <<< ((0 : Int32) &&& 31))) ||| ((y1 &&& (127 : Int32)) <<< ((7 : Int32) &&& 31))) ||| ((y2 &&& (127 : Int32)) <<< ((14 : Int32) &&& 31))) ||| ((y3 &&& (127 : Int32)) <<< ((21 : Int32) &&& 31))))))
set_option maxRecDepth 65536 in
set_option maxHeartbeats 4000000 in
theorem b2n4_0 {p : Program} {l : Launch} {e : Env} {s : State} {m : MethodId} {args : Array Value} {below : List Frame} {meth : Method} {c : Code} {T0 : State} {locs : List Loc} {Z : State} {a0 : Array Value} {h0 : Heap} {n0 : Nat} (a0' : Addr) (p1 : Int32) (y0 : Int32) (y1 : Int32) (y2 : Int32) (y3 : Int32) (vs0 : List Value) {r : Int32} (X0 : Stand p l e ({ frames := 0, cells := 0, slots := 0, locals := 0 } : Room) s m args below meth c T0 locs 0 0) (hx : p.tables.exec = Jvm.exec) (hZ : Z.Warmed39 s.vm) (hw : ∀ d ∈ tables_1, d.before a0 Z = true) (hby : c.code = prog_81_method_4_code) (hml : c.maxLocals = 6) (hown : s.vm.findClass "hotstate/sort/VarInts" = some m.cls) (hret : meth.sig.returnType = some .int) (hlk : meth.locks = false) (e0 : T0.heap = h0) (N0 : Fr n0 locs) (A0 : own_A Z h0 a0' .byte vs0) (hp4 : p1 = 0 ∨ p1 = 1 ∨ p1 = 2 ∨ p1 = 3) (hv0 : vs0[p1.toNatClampNeg + 0]? = some (.int y0)) (hv1 : vs0[p1.toNatClampNeg + 1]? = some (.int y1)) (hv2 : vs0[p1.toNatClampNeg + 2]? = some (.int y2)) (hv3 : vs0[p1.toNatClampNeg + 3]? = some (.int y3)) (hb0 : (y3 &&& (128 : Int32)) = (0 : Int32)) (hr : r = f2n4_0 p1 y0 y1 y2 y3) :
    own_Ends p e below s 0 0 (own_P (.int r) h0 n0) T0 (mkF m 0 #[.val (.ref a0'), .val (.int p1), .unset, .unset, .unset, .unset] []) := by
  unfold f2n4_0 at hr
  refine own_step (T' := T0) (f' := (mkF m 35 #[.val (.ref a0'), .val (.int p1), .val (.int ((0 : Int32) ||| ((y0 &&& (127 : Int32)) <<< ((0 : Int32) &&& 31)))), .val (.int (7 : Int32)), .val (.int (p1 + (1 : Int32))), .val (.int y0)] [(.int (y0 &&& (128 : Int32)))])) (fun t kt => ?_) ?_
  · show Steps p.tables e below (T0.setTop (mkF m 0 #[.val (.ref a0'), .val (.int p1), .unset, .unset, .unset, .unset] [])) _
    refine XS.iconst X0.here hx rfl (hb hby d2_0) ?_
    show Steps p.tables e below (T0.setTop (mkF m 1 #[.val (.ref a0'), .val (.int p1), .unset, .unset, .unset, .unset] [(.int (0 : Int32))])) _
    refine XS.istoreN X0.here hx rfl (hb hby d2_1) rfl (l' := #[.val (.ref a0'), .val (.int p1), .val (.int (0 : Int32)), .unset, .unset, .unset]) rfl ?_
    show Steps p.tables e below (T0.setTop (mkF m 2 #[.val (.ref a0'), .val (.int p1), .val (.int (0 : Int32)), .unset, .unset, .unset] [])) _
    refine XS.iconst X0.here hx rfl (hb hby d2_2) ?_
    show Steps p.tables e below (T0.setTop (mkF m 3 #[.val (.ref a0'), .val (.int p1), .val (.int (0 : Int32)), .unset, .unset, .unset] [(.int (0 : Int32))])) _
    refine XS.istoreN X0.here hx rfl (hb hby d2_3) rfl (l' := #[.val (.ref a0'), .val (.int p1), .val (.int (0 : Int32)), .val (.int (0 : Int32)), .unset, .unset]) rfl ?_
    show Steps p.tables e below (T0.setTop (mkF m 4 #[.val (.ref a0'), .val (.int p1), .val (.int (0 : Int32)), .val (.int (0 : Int32)), .unset, .unset] [])) _
    refine XS.iloadN X0.here hx rfl (hb hby d2_4) rfl ?_
    show Steps p.tables e below (T0.setTop (mkF m 5 #[.val (.ref a0'), .val (.int p1), .val (.int (0 : Int32)), .val (.int (0 : Int32)), .unset, .unset] [(.int p1)])) _
    refine XS.istore X0.here hx rfl (hb hby d2_5) rfl (l' := #[.val (.ref a0'), .val (.int p1), .val (.int (0 : Int32)), .val (.int (0 : Int32)), .val (.int p1), .unset]) rfl ?_
    show Steps p.tables e below (T0.setTop (mkF m 7 #[.val (.ref a0'), .val (.int p1), .val (.int (0 : Int32)), .val (.int (0 : Int32)), .val (.int p1), .unset] [])) _
    refine XS.aloadN X0.here hx rfl (hb hby d2_7) rfl rfl ?_
    show Steps p.tables e below (T0.setTop (mkF m 8 #[.val (.ref a0'), .val (.int p1), .val (.int (0 : Int32)), .val (.int (0 : Int32)), .val (.int p1), .unset] [(.ref a0')])) _
    refine XS.iload X0.here hx rfl (hb hby d2_8) rfl ?_
    show Steps p.tables e below (T0.setTop (mkF m 10 #[.val (.ref a0'), .val (.int p1), .val (.int (0 : Int32)), .val (.int (0 : Int32)), .val (.int p1), .unset] [(.int p1), (.ref a0')])) _
    refine XS.iinc X0.here hx rfl (hb hby d2_10) rfl (l' := #[.val (.ref a0'), .val (.int p1), .val (.int (0 : Int32)), .val (.int (0 : Int32)), .val (.int (p1 + (1 : Int32))), .unset]) rfl ?_
    show Steps p.tables e below (T0.setTop (mkF m 13 #[.val (.ref a0'), .val (.int p1), .val (.int (0 : Int32)), .val (.int (0 : Int32)), .val (.int (p1 + (1 : Int32))), .unset] [(.int p1), (.ref a0')])) _
    refine own_ldB X0 hx hZ e0 A0 (j := p1) (own_ix0 p1 hp4).1 (k := _) rfl (v := (.int y0)) (by rw [(own_ix0 p1 hp4).2]; exact hv0) (g := (mkF m 13 #[.val (.ref a0'), .val (.int p1), .val (.int (0 : Int32)), .val (.int (0 : Int32)), .val (.int (p1 + (1 : Int32))), .unset] [(.int p1), (.ref a0')])) rfl rfl (hb hby d2_13) _ ?_
    show Steps p.tables e below (T0.setTop (mkF m 14 #[.val (.ref a0'), .val (.int p1), .val (.int (0 : Int32)), .val (.int (0 : Int32)), .val (.int (p1 + (1 : Int32))), .unset] [(.int y0)])) _
    refine XS.istore X0.here hx rfl (hb hby d2_14) rfl (l' := #[.val (.ref a0'), .val (.int p1), .val (.int (0 : Int32)), .val (.int (0 : Int32)), .val (.int (p1 + (1 : Int32))), .val (.int y0)]) rfl ?_
    show Steps p.tables e below (T0.setTop (mkF m 16 #[.val (.ref a0'), .val (.int p1), .val (.int (0 : Int32)), .val (.int (0 : Int32)), .val (.int (p1 + (1 : Int32))), .val (.int y0)] [])) _
    refine XS.iloadN X0.here hx rfl (hb hby d2_16) rfl ?_
    show Steps p.tables e below (T0.setTop (mkF m 17 #[.val (.ref a0'), .val (.int p1), .val (.int (0 : Int32)), .val (.int (0 : Int32)), .val (.int (p1 + (1 : Int32))), .val (.int y0)] [(.int (0 : Int32))])) _
    refine XS.iload X0.here hx rfl (hb hby d2_17) rfl ?_
    show Steps p.tables e below (T0.setTop (mkF m 19 #[.val (.ref a0'), .val (.int p1), .val (.int (0 : Int32)), .val (.int (0 : Int32)), .val (.int (p1 + (1 : Int32))), .val (.int y0)] [(.int y0), (.int (0 : Int32))])) _
    refine XS.bipush X0.here hx rfl (hb hby d2_19) ?_
    show Steps p.tables e below (T0.setTop (mkF m 21 #[.val (.ref a0'), .val (.int p1), .val (.int (0 : Int32)), .val (.int (0 : Int32)), .val (.int (p1 + (1 : Int32))), .val (.int y0)] [(.int (127 : Int32)), (.int y0), (.int (0 : Int32))])) _
    refine XS.iand X0.here hx rfl (hb hby d2_21) rfl ?_
    show Steps p.tables e below (T0.setTop (mkF m 22 #[.val (.ref a0'), .val (.int p1), .val (.int (0 : Int32)), .val (.int (0 : Int32)), .val (.int (p1 + (1 : Int32))), .val (.int y0)] [(.int (y0 &&& (127 : Int32))), (.int (0 : Int32))])) _
    refine XS.iloadN X0.here hx rfl (hb hby d2_22) rfl ?_
    show Steps p.tables e below (T0.setTop (mkF m 23 #[.val (.ref a0'), .val (.int p1), .val (.int (0 : Int32)), .val (.int (0 : Int32)), .val (.int (p1 + (1 : Int32))), .val (.int y0)] [(.int (0 : Int32)), (.int (y0 &&& (127 : Int32))), (.int (0 : Int32))])) _
    refine XS.ishl X0.here hx rfl (hb hby d2_23) rfl ?_
    show Steps p.tables e below (T0.setTop (mkF m 24 #[.val (.ref a0'), .val (.int p1), .val (.int (0 : Int32)), .val (.int (0 : Int32)), .val (.int (p1 + (1 : Int32))), .val (.int y0)] [(.int ((y0 &&& (127 : Int32)) <<< ((0 : Int32) &&& 31))), (.int (0 : Int32))])) _
    refine XS.ior X0.here hx rfl (hb hby d2_24) rfl ?_
    show Steps p.tables e below (T0.setTop (mkF m 25 #[.val (.ref a0'), .val (.int p1), .val (.int (0 : Int32)), .val (.int (0 : Int32)), .val (.int (p1 + (1 : Int32))), .val (.int y0)] [(.int ((0 : Int32) ||| ((y0 &&& (127 : Int32)) <<< ((0 : Int32) &&& 31))))])) _
    refine XS.istoreN X0.here hx rfl (hb hby d2_25) rfl (l' := #[.val (.ref a0'), .val (.int p1), .val (.int ((0 : Int32) ||| ((y0 &&& (127 : Int32)) <<< ((0 : Int32) &&& 31)))), .val (.int (0 : Int32)), .val (.int (p1 + (1 : Int32))), .val (.int y0)]) rfl ?_
    show Steps p.tables e below (T0.setTop (mkF m 26 #[.val (.ref a0'), .val (.int p1), .val (.int ((0 : Int32) ||| ((y0 &&& (127 : Int32)) <<< ((0 : Int32) &&& 31)))), .val (.int (0 : Int32)), .val (.int (p1 + (1 : Int32))), .val (.int y0)] [])) _
    refine XS.iinc X0.here hx rfl (hb hby d2_26) rfl (l' := #[.val (.ref a0'), .val (.int p1), .val (.int ((0 : Int32) ||| ((y0 &&& (127 : Int32)) <<< ((0 : Int32) &&& 31)))), .val (.int (7 : Int32)), .val (.int (p1 + (1 : Int32))), .val (.int y0)]) rfl ?_
    show Steps p.tables e below (T0.setTop (mkF m 29 #[.val (.ref a0'), .val (.int p1), .val (.int ((0 : Int32) ||| ((y0 &&& (127 : Int32)) <<< ((0 : Int32) &&& 31)))), .val (.int (7 : Int32)), .val (.int (p1 + (1 : Int32))), .val (.int y0)] [])) _
    refine XS.iload X0.here hx rfl (hb hby d2_29) rfl ?_
    show Steps p.tables e below (T0.setTop (mkF m 31 #[.val (.ref a0'), .val (.int p1), .val (.int ((0 : Int32) ||| ((y0 &&& (127 : Int32)) <<< ((0 : Int32) &&& 31)))), .val (.int (7 : Int32)), .val (.int (p1 + (1 : Int32))), .val (.int y0)] [(.int y0)])) _
    refine XS.sipush X0.here hx rfl (hb hby d2_31) ?_
    show Steps p.tables e below (T0.setTop (mkF m 34 #[.val (.ref a0'), .val (.int p1), .val (.int ((0 : Int32) ||| ((y0 &&& (127 : Int32)) <<< ((0 : Int32) &&& 31)))), .val (.int (7 : Int32)), .val (.int (p1 + (1 : Int32))), .val (.int y0)] [(.int (128 : Int32)), (.int y0)])) _
    refine XS.iand X0.here hx rfl (hb hby d2_34) rfl ?_
    exact kt
  by_cases hc35_1 : (y0 &&& (128 : Int32)) = (0 : Int32)
  · replace hr := hr.trans (if_pos hc35_1)
    refine own_step (T' := T0) (f' := (mkF m 38 #[.val (.ref a0'), .val (.int p1), .val (.int ((0 : Int32) ||| ((y0 &&& (127 : Int32)) <<< ((0 : Int32) &&& 31)))), .val (.int (7 : Int32)), .val (.int (p1 + (1 : Int32))), .val (.int y0)] [])) (fun t kt => ?_) ?_
    · show Steps p.tables e below (T0.setTop (mkF m 35 #[.val (.ref a0'), .val (.int p1), .val (.int ((0 : Int32) ||| ((y0 &&& (127 : Int32)) <<< ((0 : Int32) &&& 31)))), .val (.int (7 : Int32)), .val (.int (p1 + (1 : Int32))), .val (.int y0)] [(.int (y0 &&& (128 : Int32)))])) _
      refine XS.ifNo X0.here hx rfl (hb hby d2_35) rfl ((if0 _ _).trans (teq hc35_1).2) kt
    refine own_step (T' := T0) (f' := (mkF m 39 #[.val (.ref a0'), .val (.int p1), .val (.int ((0 : Int32) ||| ((y0 &&& (127 : Int32)) <<< ((0 : Int32) &&& 31)))), .val (.int (7 : Int32)), .val (.int (p1 + (1 : Int32))), .val (.int y0)] [(.int ((0 : Int32) ||| ((y0 &&& (127 : Int32)) <<< ((0 : Int32) &&& 31))))])) (fun t kt => ?_) ?_
    · show Steps p.tables e below (T0.setTop (mkF m 38 #[.val (.ref a0'), .val (.int p1), .val (.int ((0 : Int32) ||| ((y0 &&& (127 : Int32)) <<< ((0 : Int32) &&& 31)))), .val (.int (7 : Int32)), .val (.int (p1 + (1 : Int32))), .val (.int y0)] [])) _
      refine XS.iloadN X0.here hx rfl (hb hby d2_38) rfl ?_
      exact kt
    exact own_retI X0 hx hret hlk (hb hby d2_39) (Nat.le_refl _) (Nat.le_refl _) ⟨congrArg (fun z => some (Value.int z)) hr.symm, N0, e0⟩
  · replace hr := hr.trans (if_neg hc35_1)
    refine own_step (T' := T0) (f' := (mkF m 7 #[.val (.ref a0'), .val (.int p1), .val (.int ((0 : Int32) ||| ((y0 &&& (127 : Int32)) <<< ((0 : Int32) &&& 31)))), .val (.int (7 : Int32)), .val (.int (p1 + (1 : Int32))), .val (.int y0)] [])) (fun t kt => ?_) ?_
    · show Steps p.tables e below (T0.setTop (mkF m 35 #[.val (.ref a0'), .val (.int p1), .val (.int ((0 : Int32) ||| ((y0 &&& (127 : Int32)) <<< ((0 : Int32) &&& 31)))), .val (.int (7 : Int32)), .val (.int (p1 + (1 : Int32))), .val (.int y0)] [(.int (y0 &&& (128 : Int32)))])) _
      refine XS.ifYes X0.here hx rfl (pc0 := 35) (pc' := 7) rfl (hb hby d2_35) rfl ((if0 _ _).trans (feq hc35_1).2) (by decide) (by decide) kt
    refine own_step (T' := T0) (f' := (mkF m 35 #[.val (.ref a0'), .val (.int p1), .val (.int (((0 : Int32) ||| ((y0 &&& (127 : Int32)) <<< ((0 : Int32) &&& 31))) ||| ((y1 &&& (127 : Int32)) <<< ((7 : Int32) &&& 31)))), .val (.int (14 : Int32)), .val (.int ((p1 + (1 : Int32)) + (1 : Int32))), .val (.int y1)] [(.int (y1 &&& (128 : Int32)))])) (fun t kt => ?_) ?_
    · show Steps p.tables e below (T0.setTop (mkF m 7 #[.val (.ref a0'), .val (.int p1), .val (.int ((0 : Int32) ||| ((y0 &&& (127 : Int32)) <<< ((0 : Int32) &&& 31)))), .val (.int (7 : Int32)), .val (.int (p1 + (1 : Int32))), .val (.int y0)] [])) _
      refine XS.aloadN X0.here hx rfl (hb hby d2_7) rfl rfl ?_
      show Steps p.tables e below (T0.setTop (mkF m 8 #[.val (.ref a0'), .val (.int p1), .val (.int ((0 : Int32) ||| ((y0 &&& (127 : Int32)) <<< ((0 : Int32) &&& 31)))), .val (.int (7 : Int32)), .val (.int (p1 + (1 : Int32))), .val (.int y0)] [(.ref a0')])) _
      refine XS.iload X0.here hx rfl (hb hby d2_8) rfl ?_
      show Steps p.tables e below (T0.setTop (mkF m 10 #[.val (.ref a0'), .val (.int p1), .val (.int ((0 : Int32) ||| ((y0 &&& (127 : Int32)) <<< ((0 : Int32) &&& 31)))), .val (.int (7 : Int32)), .val (.int (p1 + (1 : Int32))), .val (.int y0)] [(.int (p1 + (1 : Int32))), (.ref a0')])) _
      refine XS.iinc X0.here hx rfl (hb hby d2_10) rfl (l' := #[.val (.ref a0'), .val (.int p1), .val (.int ((0 : Int32) ||| ((y0 &&& (127 : Int32)) <<< ((0 : Int32) &&& 31)))), .val (.int (7 : Int32)), .val (.int ((p1 + (1 : Int32)) + (1 : Int32))), .val (.int y0)]) rfl ?_
      show Steps p.tables e below (T0.setTop (mkF m 13 #[.val (.ref a0'), .val (.int p1), .val (.int ((0 : Int32) ||| ((y0 &&& (127 : Int32)) <<< ((0 : Int32) &&& 31)))), .val (.int (7 : Int32)), .val (.int ((p1 + (1 : Int32)) + (1 : Int32))), .val (.int y0)] [(.int (p1 + (1 : Int32))), (.ref a0')])) _
      refine own_ldB X0 hx hZ e0 A0 (j := (p1 + (1 : Int32))) (own_ix1 p1 hp4).1 (k := _) rfl (v := (.int y1)) (by rw [(own_ix1 p1 hp4).2]; exact hv1) (g := (mkF m 13 #[.val (.ref a0'), .val (.int p1), .val (.int ((0 : Int32) ||| ((y0 &&& (127 : Int32)) <<< ((0 : Int32) &&& 31)))), .val (.int (7 : Int32)), .val (.int ((p1 + (1 : Int32)) + (1 : Int32))), .val (.int y0)] [(.int (p1 + (1 : Int32))), (.ref a0')])) rfl rfl (hb hby d2_13) _ ?_
      show Steps p.tables e below (T0.setTop (mkF m 14 #[.val (.ref a0'), .val (.int p1), .val (.int ((0 : Int32) ||| ((y0 &&& (127 : Int32)) <<< ((0 : Int32) &&& 31)))), .val (.int (7 : Int32)), .val (.int ((p1 + (1 : Int32)) + (1 : Int32))), .val (.int y0)] [(.int y1)])) _
      refine XS.istore X0.here hx rfl (hb hby d2_14) rfl (l' := #[.val (.ref a0'), .val (.int p1), .val (.int ((0 : Int32) ||| ((y0 &&& (127 : Int32)) <<< ((0 : Int32) &&& 31)))), .val (.int (7 : Int32)), .val (.int ((p1 + (1 : Int32)) + (1 : Int32))), .val (.int y1)]) rfl ?_
      show Steps p.tables e below (T0.setTop (mkF m 16 #[.val (.ref a0'), .val (.int p1), .val (.int ((0 : Int32) ||| ((y0 &&& (127 : Int32)) <<< ((0 : Int32) &&& 31)))), .val (.int (7 : Int32)), .val (.int ((p1 + (1 : Int32)) + (1 : Int32))), .val (.int y1)] [])) _
      refine XS.iloadN X0.here hx rfl (hb hby d2_16) rfl ?_
      show Steps p.tables e below (T0.setTop (mkF m 17 #[.val (.ref a0'), .val (.int p1), .val (.int ((0 : Int32) ||| ((y0 &&& (127 : Int32)) <<< ((0 : Int32) &&& 31)))), .val (.int (7 : Int32)), .val (.int ((p1 + (1 : Int32)) + (1 : Int32))), .val (.int y1)] [(.int ((0 : Int32) ||| ((y0 &&& (127 : Int32)) <<< ((0 : Int32) &&& 31))))])) _
      refine XS.iload X0.here hx rfl (hb hby d2_17) rfl ?_
      show Steps p.tables e below (T0.setTop (mkF m 19 #[.val (.ref a0'), .val (.int p1), .val (.int ((0 : Int32) ||| ((y0 &&& (127 : Int32)) <<< ((0 : Int32) &&& 31)))), .val (.int (7 : Int32)), .val (.int ((p1 + (1 : Int32)) + (1 : Int32))), .val (.int y1)] [(.int y1), (.int ((0 : Int32) ||| ((y0 &&& (127 : Int32)) <<< ((0 : Int32) &&& 31))))])) _
      refine XS.bipush X0.here hx rfl (hb hby d2_19) ?_
      show Steps p.tables e below (T0.setTop (mkF m 21 #[.val (.ref a0'), .val (.int p1), .val (.int ((0 : Int32) ||| ((y0 &&& (127 : Int32)) <<< ((0 : Int32) &&& 31)))), .val (.int (7 : Int32)), .val (.int ((p1 + (1 : Int32)) + (1 : Int32))), .val (.int y1)] [(.int (127 : Int32)), (.int y1), (.int ((0 : Int32) ||| ((y0 &&& (127 : Int32)) <<< ((0 : Int32) &&& 31))))])) _
      refine XS.iand X0.here hx rfl (hb hby d2_21) rfl ?_
      show Steps p.tables e below (T0.setTop (mkF m 22 #[.val (.ref a0'), .val (.int p1), .val (.int ((0 : Int32) ||| ((y0 &&& (127 : Int32)) <<< ((0 : Int32) &&& 31)))), .val (.int (7 : Int32)), .val (.int ((p1 + (1 : Int32)) + (1 : Int32))), .val (.int y1)] [(.int (y1 &&& (127 : Int32))), (.int ((0 : Int32) ||| ((y0 &&& (127 : Int32)) <<< ((0 : Int32) &&& 31))))])) _
      refine XS.iloadN X0.here hx rfl (hb hby d2_22) rfl ?_
      show Steps p.tables e below (T0.setTop (mkF m 23 #[.val (.ref a0'), .val (.int p1), .val (.int ((0 : Int32) ||| ((y0 &&& (127 : Int32)) <<< ((0 : Int32) &&& 31)))), .val (.int (7 : Int32)), .val (.int ((p1 + (1 : Int32)) + (1 : Int32))), .val (.int y1)] [(.int (7 : Int32)), (.int (y1 &&& (127 : Int32))), (.int ((0 : Int32) ||| ((y0 &&& (127 : Int32)) <<< ((0 : Int32) &&& 31))))])) _
      refine XS.ishl X0.here hx rfl (hb hby d2_23) rfl ?_
      show Steps p.tables e below (T0.setTop (mkF m 24 #[.val (.ref a0'), .val (.int p1), .val (.int ((0 : Int32) ||| ((y0 &&& (127 : Int32)) <<< ((0 : Int32) &&& 31)))), .val (.int (7 : Int32)), .val (.int ((p1 + (1 : Int32)) + (1 : Int32))), .val (.int y1)] [(.int ((y1 &&& (127 : Int32)) <<< ((7 : Int32) &&& 31))), (.int ((0 : Int32) ||| ((y0 &&& (127 : Int32)) <<< ((0 : Int32) &&& 31))))])) _
      refine XS.ior X0.here hx rfl (hb hby d2_24) rfl ?_
      show Steps p.tables e below (T0.setTop (mkF m 25 #[.val (.ref a0'), .val (.int p1), .val (.int ((0 : Int32) ||| ((y0 &&& (127 : Int32)) <<< ((0 : Int32) &&& 31)))), .val (.int (7 : Int32)), .val (.int ((p1 + (1 : Int32)) + (1 : Int32))), .val (.int y1)] [(.int (((0 : Int32) ||| ((y0 &&& (127 : Int32)) <<< ((0 : Int32) &&& 31))) ||| ((y1 &&& (127 : Int32)) <<< ((7 : Int32) &&& 31))))])) _
      refine XS.istoreN X0.here hx rfl (hb hby d2_25) rfl (l' := #[.val (.ref a0'), .val (.int p1), .val (.int (((0 : Int32) ||| ((y0 &&& (127 : Int32)) <<< ((0 : Int32) &&& 31))) ||| ((y1 &&& (127 : Int32)) <<< ((7 : Int32) &&& 31)))), .val (.int (7 : Int32)), .val (.int ((p1 + (1 : Int32)) + (1 : Int32))), .val (.int y1)]) rfl ?_
      show Steps p.tables e below (T0.setTop (mkF m 26 #[.val (.ref a0'), .val (.int p1), .val (.int (((0 : Int32) ||| ((y0 &&& (127 : Int32)) <<< ((0 : Int32) &&& 31))) ||| ((y1 &&& (127 : Int32)) <<< ((7 : Int32) &&& 31)))), .val (.int (7 : Int32)), .val (.int ((p1 + (1 : Int32)) + (1 : Int32))), .val (.int y1)] [])) _
      refine XS.iinc X0.here hx rfl (hb hby d2_26) rfl (l' := #[.val (.ref a0'), .val (.int p1), .val (.int (((0 : Int32) ||| ((y0 &&& (127 : Int32)) <<< ((0 : Int32) &&& 31))) ||| ((y1 &&& (127 : Int32)) <<< ((7 : Int32) &&& 31)))), .val (.int (14 : Int32)), .val (.int ((p1 + (1 : Int32)) + (1 : Int32))), .val (.int y1)]) rfl ?_
      show Steps p.tables e below (T0.setTop (mkF m 29 #[.val (.ref a0'), .val (.int p1), .val (.int (((0 : Int32) ||| ((y0 &&& (127 : Int32)) <<< ((0 : Int32) &&& 31))) ||| ((y1 &&& (127 : Int32)) <<< ((7 : Int32) &&& 31)))), .val (.int (14 : Int32)), .val (.int ((p1 + (1 : Int32)) + (1 : Int32))), .val (.int y1)] [])) _
      refine XS.iload X0.here hx rfl (hb hby d2_29) rfl ?_
      show Steps p.tables e below (T0.setTop (mkF m 31 #[.val (.ref a0'), .val (.int p1), .val (.int (((0 : Int32) ||| ((y0 &&& (127 : Int32)) <<< ((0 : Int32) &&& 31))) ||| ((y1 &&& (127 : Int32)) <<< ((7 : Int32) &&& 31)))), .val (.int (14 : Int32)), .val (.int ((p1 + (1 : Int32)) + (1 : Int32))), .val (.int y1)] [(.int y1)])) _
      refine XS.sipush X0.here hx rfl (hb hby d2_31) ?_
      show Steps p.tables e below (T0.setTop (mkF m 34 #[.val (.ref a0'), .val (.int p1), .val (.int (((0 : Int32) ||| ((y0 &&& (127 : Int32)) <<< ((0 : Int32) &&& 31))) ||| ((y1 &&& (127 : Int32)) <<< ((7 : Int32) &&& 31)))), .val (.int (14 : Int32)), .val (.int ((p1 + (1 : Int32)) + (1 : Int32))), .val (.int y1)] [(.int (128 : Int32)), (.int y1)])) _
      refine XS.iand X0.here hx rfl (hb hby d2_34) rfl ?_
      exact kt
    by_cases hc35_2 : (y1 &&& (128 : Int32)) = (0 : Int32)
    · replace hr := hr.trans (if_pos hc35_2)
      refine own_step (T' := T0) (f' := (mkF m 38 #[.val (.ref a0'), .val (.int p1), .val (.int (((0 : Int32) ||| ((y0 &&& (127 : Int32)) <<< ((0 : Int32) &&& 31))) ||| ((y1 &&& (127 : Int32)) <<< ((7 : Int32) &&& 31)))), .val (.int (14 : Int32)), .val (.int ((p1 + (1 : Int32)) + (1 : Int32))), .val (.int y1)] [])) (fun t kt => ?_) ?_
      · show Steps p.tables e below (T0.setTop (mkF m 35 #[.val (.ref a0'), .val (.int p1), .val (.int (((0 : Int32) ||| ((y0 &&& (127 : Int32)) <<< ((0 : Int32) &&& 31))) ||| ((y1 &&& (127 : Int32)) <<< ((7 : Int32) &&& 31)))), .val (.int (14 : Int32)), .val (.int ((p1 + (1 : Int32)) + (1 : Int32))), .val (.int y1)] [(.int (y1 &&& (128 : Int32)))])) _
        refine XS.ifNo X0.here hx rfl (hb hby d2_35) rfl ((if0 _ _).trans (teq hc35_2).2) kt
      refine own_step (T' := T0) (f' := (mkF m 39 #[.val (.ref a0'), .val (.int p1), .val (.int (((0 : Int32) ||| ((y0 &&& (127 : Int32)) <<< ((0 : Int32) &&& 31))) ||| ((y1 &&& (127 : Int32)) <<< ((7 : Int32) &&& 31)))), .val (.int (14 : Int32)), .val (.int ((p1 + (1 : Int32)) + (1 : Int32))), .val (.int y1)] [(.int (((0 : Int32) ||| ((y0 &&& (127 : Int32)) <<< ((0 : Int32) &&& 31))) ||| ((y1 &&& (127 : Int32)) <<< ((7 : Int32) &&& 31))))])) (fun t kt => ?_) ?_
      · show Steps p.tables e below (T0.setTop (mkF m 38 #[.val (.ref a0'), .val (.int p1), .val (.int (((0 : Int32) ||| ((y0 &&& (127 : Int32)) <<< ((0 : Int32) &&& 31))) ||| ((y1 &&& (127 : Int32)) <<< ((7 : Int32) &&& 31)))), .val (.int (14 : Int32)), .val (.int ((p1 + (1 : Int32)) + (1 : Int32))), .val (.int y1)] [])) _
        refine XS.iloadN X0.here hx rfl (hb hby d2_38) rfl ?_
        exact kt
      exact own_retI X0 hx hret hlk (hb hby d2_39) (Nat.le_refl _) (Nat.le_refl _) ⟨congrArg (fun z => some (Value.int z)) hr.symm, N0, e0⟩
    · replace hr := hr.trans (if_neg hc35_2)
      refine own_step (T' := T0) (f' := (mkF m 7 #[.val (.ref a0'), .val (.int p1), .val (.int (((0 : Int32) ||| ((y0 &&& (127 : Int32)) <<< ((0 : Int32) &&& 31))) ||| ((y1 &&& (127 : Int32)) <<< ((7 : Int32) &&& 31)))), .val (.int (14 : Int32)), .val (.int ((p1 + (1 : Int32)) + (1 : Int32))), .val (.int y1)] [])) (fun t kt => ?_) ?_
      · show Steps p.tables e below (T0.setTop (mkF m 35 #[.val (.ref a0'), .val (.int p1), .val (.int (((0 : Int32) ||| ((y0 &&& (127 : Int32)) <<< ((0 : Int32) &&& 31))) ||| ((y1 &&& (127 : Int32)) <<< ((7 : Int32) &&& 31)))), .val (.int (14 : Int32)), .val (.int ((p1 + (1 : Int32)) + (1 : Int32))), .val (.int y1)] [(.int (y1 &&& (128 : Int32)))])) _
        refine XS.ifYes X0.here hx rfl (pc0 := 35) (pc' := 7) rfl (hb hby d2_35) rfl ((if0 _ _).trans (feq hc35_2).2) (by decide) (by decide) kt
      refine own_step (T' := T0) (f' := (mkF m 35 #[.val (.ref a0'), .val (.int p1), .val (.int ((((0 : Int32) ||| ((y0 &&& (127 : Int32)) <<< ((0 : Int32) &&& 31))) ||| ((y1 &&& (127 : Int32)) <<< ((7 : Int32) &&& 31))) ||| ((y2 &&& (127 : Int32)) <<< ((14 : Int32) &&& 31)))), .val (.int (21 : Int32)), .val (.int (((p1 + (1 : Int32)) + (1 : Int32)) + (1 : Int32))), .val (.int y2)] [(.int (y2 &&& (128 : Int32)))])) (fun t kt => ?_) ?_
      · show Steps p.tables e below (T0.setTop (mkF m 7 #[.val (.ref a0'), .val (.int p1), .val (.int (((0 : Int32) ||| ((y0 &&& (127 : Int32)) <<< ((0 : Int32) &&& 31))) ||| ((y1 &&& (127 : Int32)) <<< ((7 : Int32) &&& 31)))), .val (.int (14 : Int32)), .val (.int ((p1 + (1 : Int32)) + (1 : Int32))), .val (.int y1)] [])) _
        refine XS.aloadN X0.here hx rfl (hb hby d2_7) rfl rfl ?_
        show Steps p.tables e below (T0.setTop (mkF m 8 #[.val (.ref a0'), .val (.int p1), .val (.int (((0 : Int32) ||| ((y0 &&& (127 : Int32)) <<< ((0 : Int32) &&& 31))) ||| ((y1 &&& (127 : Int32)) <<< ((7 : Int32) &&& 31)))), .val (.int (14 : Int32)), .val (.int ((p1 + (1 : Int32)) + (1 : Int32))), .val (.int y1)] [(.ref a0')])) _
        refine XS.iload X0.here hx rfl (hb hby d2_8) rfl ?_
        show Steps p.tables e below (T0.setTop (mkF m 10 #[.val (.ref a0'), .val (.int p1), .val (.int (((0 : Int32) ||| ((y0 &&& (127 : Int32)) <<< ((0 : Int32) &&& 31))) ||| ((y1 &&& (127 : Int32)) <<< ((7 : Int32) &&& 31)))), .val (.int (14 : Int32)), .val (.int ((p1 + (1 : Int32)) + (1 : Int32))), .val (.int y1)] [(.int ((p1 + (1 : Int32)) + (1 : Int32))), (.ref a0')])) _
        refine XS.iinc X0.here hx rfl (hb hby d2_10) rfl (l' := #[.val (.ref a0'), .val (.int p1), .val (.int (((0 : Int32) ||| ((y0 &&& (127 : Int32)) <<< ((0 : Int32) &&& 31))) ||| ((y1 &&& (127 : Int32)) <<< ((7 : Int32) &&& 31)))), .val (.int (14 : Int32)), .val (.int (((p1 + (1 : Int32)) + (1 : Int32)) + (1 : Int32))), .val (.int y1)]) rfl ?_
        show Steps p.tables e below (T0.setTop (mkF m 13 #[.val (.ref a0'), .val (.int p1), .val (.int (((0 : Int32) ||| ((y0 &&& (127 : Int32)) <<< ((0 : Int32) &&& 31))) ||| ((y1 &&& (127 : Int32)) <<< ((7 : Int32) &&& 31)))), .val (.int (14 : Int32)), .val (.int (((p1 + (1 : Int32)) + (1 : Int32)) + (1 : Int32))), .val (.int y1)] [(.int ((p1 + (1 : Int32)) + (1 : Int32))), (.ref a0')])) _
        refine own_ldB X0 hx hZ e0 A0 (j := ((p1 + (1 : Int32)) + (1 : Int32))) (own_ix2 p1 hp4).1 (k := _) rfl (v := (.int y2)) (by rw [(own_ix2 p1 hp4).2]; exact hv2) (g := (mkF m 13 #[.val (.ref a0'), .val (.int p1), .val (.int (((0 : Int32) ||| ((y0 &&& (127 : Int32)) <<< ((0 : Int32) &&& 31))) ||| ((y1 &&& (127 : Int32)) <<< ((7 : Int32) &&& 31)))), .val (.int (14 : Int32)), .val (.int (((p1 + (1 : Int32)) + (1 : Int32)) + (1 : Int32))), .val (.int y1)] [(.int ((p1 + (1 : Int32)) + (1 : Int32))), (.ref a0')])) rfl rfl (hb hby d2_13) _ ?_
        show Steps p.tables e below (T0.setTop (mkF m 14 #[.val (.ref a0'), .val (.int p1), .val (.int (((0 : Int32) ||| ((y0 &&& (127 : Int32)) <<< ((0 : Int32) &&& 31))) ||| ((y1 &&& (127 : Int32)) <<< ((7 : Int32) &&& 31)))), .val (.int (14 : Int32)), .val (.int (((p1 + (1 : Int32)) + (1 : Int32)) + (1 : Int32))), .val (.int y1)] [(.int y2)])) _
        refine XS.istore X0.here hx rfl (hb hby d2_14) rfl (l' := #[.val (.ref a0'), .val (.int p1), .val (.int (((0 : Int32) ||| ((y0 &&& (127 : Int32)) <<< ((0 : Int32) &&& 31))) ||| ((y1 &&& (127 : Int32)) <<< ((7 : Int32) &&& 31)))), .val (.int (14 : Int32)), .val (.int (((p1 + (1 : Int32)) + (1 : Int32)) + (1 : Int32))), .val (.int y2)]) rfl ?_
        show Steps p.tables e below (T0.setTop (mkF m 16 #[.val (.ref a0'), .val (.int p1), .val (.int (((0 : Int32) ||| ((y0 &&& (127 : Int32)) <<< ((0 : Int32) &&& 31))) ||| ((y1 &&& (127 : Int32)) <<< ((7 : Int32) &&& 31)))), .val (.int (14 : Int32)), .val (.int (((p1 + (1 : Int32)) + (1 : Int32)) + (1 : Int32))), .val (.int y2)] [])) _
        refine XS.iloadN X0.here hx rfl (hb hby d2_16) rfl ?_
        show Steps p.tables e below (T0.setTop (mkF m 17 #[.val (.ref a0'), .val (.int p1), .val (.int (((0 : Int32) ||| ((y0 &&& (127 : Int32)) <<< ((0 : Int32) &&& 31))) ||| ((y1 &&& (127 : Int32)) <<< ((7 : Int32) &&& 31)))), .val (.int (14 : Int32)), .val (.int (((p1 + (1 : Int32)) + (1 : Int32)) + (1 : Int32))), .val (.int y2)] [(.int (((0 : Int32) ||| ((y0 &&& (127 : Int32)) <<< ((0 : Int32) &&& 31))) ||| ((y1 &&& (127 : Int32)) <<< ((7 : Int32) &&& 31))))])) _
        refine XS.iload X0.here hx rfl (hb hby d2_17) rfl ?_
        show Steps p.tables e below (T0.setTop (mkF m 19 #[.val (.ref a0'), .val (.int p1), .val (.int (((0 : Int32) ||| ((y0 &&& (127 : Int32)) <<< ((0 : Int32) &&& 31))) ||| ((y1 &&& (127 : Int32)) <<< ((7 : Int32) &&& 31)))), .val (.int (14 : Int32)), .val (.int (((p1 + (1 : Int32)) + (1 : Int32)) + (1 : Int32))), .val (.int y2)] [(.int y2), (.int (((0 : Int32) ||| ((y0 &&& (127 : Int32)) <<< ((0 : Int32) &&& 31))) ||| ((y1 &&& (127 : Int32)) <<< ((7 : Int32) &&& 31))))])) _
        refine XS.bipush X0.here hx rfl (hb hby d2_19) ?_
        show Steps p.tables e below (T0.setTop (mkF m 21 #[.val (.ref a0'), .val (.int p1), .val (.int (((0 : Int32) ||| ((y0 &&& (127 : Int32)) <<< ((0 : Int32) &&& 31))) ||| ((y1 &&& (127 : Int32)) <<< ((7 : Int32) &&& 31)))), .val (.int (14 : Int32)), .val (.int (((p1 + (1 : Int32)) + (1 : Int32)) + (1 : Int32))), .val (.int y2)] [(.int (127 : Int32)), (.int y2), (.int (((0 : Int32) ||| ((y0 &&& (127 : Int32)) <<< ((0 : Int32) &&& 31))) ||| ((y1 &&& (127 : Int32)) <<< ((7 : Int32) &&& 31))))])) _
        refine XS.iand X0.here hx rfl (hb hby d2_21) rfl ?_
        show Steps p.tables e below (T0.setTop (mkF m 22 #[.val (.ref a0'), .val (.int p1), .val (.int (((0 : Int32) ||| ((y0 &&& (127 : Int32)) <<< ((0 : Int32) &&& 31))) ||| ((y1 &&& (127 : Int32)) <<< ((7 : Int32) &&& 31)))), .val (.int (14 : Int32)), .val (.int (((p1 + (1 : Int32)) + (1 : Int32)) + (1 : Int32))), .val (.int y2)] [(.int (y2 &&& (127 : Int32))), (.int (((0 : Int32) ||| ((y0 &&& (127 : Int32)) <<< ((0 : Int32) &&& 31))) ||| ((y1 &&& (127 : Int32)) <<< ((7 : Int32) &&& 31))))])) _
        refine XS.iloadN X0.here hx rfl (hb hby d2_22) rfl ?_
        show Steps p.tables e below (T0.setTop (mkF m 23 #[.val (.ref a0'), .val (.int p1), .val (.int (((0 : Int32) ||| ((y0 &&& (127 : Int32)) <<< ((0 : Int32) &&& 31))) ||| ((y1 &&& (127 : Int32)) <<< ((7 : Int32) &&& 31)))), .val (.int (14 : Int32)), .val (.int (((p1 + (1 : Int32)) + (1 : Int32)) + (1 : Int32))), .val (.int y2)] [(.int (14 : Int32)), (.int (y2 &&& (127 : Int32))), (.int (((0 : Int32) ||| ((y0 &&& (127 : Int32)) <<< ((0 : Int32) &&& 31))) ||| ((y1 &&& (127 : Int32)) <<< ((7 : Int32) &&& 31))))])) _
        refine XS.ishl X0.here hx rfl (hb hby d2_23) rfl ?_
        show Steps p.tables e below (T0.setTop (mkF m 24 #[.val (.ref a0'), .val (.int p1), .val (.int (((0 : Int32) ||| ((y0 &&& (127 : Int32)) <<< ((0 : Int32) &&& 31))) ||| ((y1 &&& (127 : Int32)) <<< ((7 : Int32) &&& 31)))), .val (.int (14 : Int32)), .val (.int (((p1 + (1 : Int32)) + (1 : Int32)) + (1 : Int32))), .val (.int y2)] [(.int ((y2 &&& (127 : Int32)) <<< ((14 : Int32) &&& 31))), (.int (((0 : Int32) ||| ((y0 &&& (127 : Int32)) <<< ((0 : Int32) &&& 31))) ||| ((y1 &&& (127 : Int32)) <<< ((7 : Int32) &&& 31))))])) _
        refine XS.ior X0.here hx rfl (hb hby d2_24) rfl ?_
        show Steps p.tables e below (T0.setTop (mkF m 25 #[.val (.ref a0'), .val (.int p1), .val (.int (((0 : Int32) ||| ((y0 &&& (127 : Int32)) <<< ((0 : Int32) &&& 31))) ||| ((y1 &&& (127 : Int32)) <<< ((7 : Int32) &&& 31)))), .val (.int (14 : Int32)), .val (.int (((p1 + (1 : Int32)) + (1 : Int32)) + (1 : Int32))), .val (.int y2)] [(.int ((((0 : Int32) ||| ((y0 &&& (127 : Int32)) <<< ((0 : Int32) &&& 31))) ||| ((y1 &&& (127 : Int32)) <<< ((7 : Int32) &&& 31))) ||| ((y2 &&& (127 : Int32)) <<< ((14 : Int32) &&& 31))))])) _
        refine XS.istoreN X0.here hx rfl (hb hby d2_25) rfl (l' := #[.val (.ref a0'), .val (.int p1), .val (.int ((((0 : Int32) ||| ((y0 &&& (127 : Int32)) <<< ((0 : Int32) &&& 31))) ||| ((y1 &&& (127 : Int32)) <<< ((7 : Int32) &&& 31))) ||| ((y2 &&& (127 : Int32)) <<< ((14 : Int32) &&& 31)))), .val (.int (14 : Int32)), .val (.int (((p1 + (1 : Int32)) + (1 : Int32)) + (1 : Int32))), .val (.int y2)]) rfl ?_
        show Steps p.tables e below (T0.setTop (mkF m 26 #[.val (.ref a0'), .val (.int p1), .val (.int ((((0 : Int32) ||| ((y0 &&& (127 : Int32)) <<< ((0 : Int32) &&& 31))) ||| ((y1 &&& (127 : Int32)) <<< ((7 : Int32) &&& 31))) ||| ((y2 &&& (127 : Int32)) <<< ((14 : Int32) &&& 31)))), .val (.int (14 : Int32)), .val (.int (((p1 + (1 : Int32)) + (1 : Int32)) + (1 : Int32))), .val (.int y2)] [])) _
        refine XS.iinc X0.here hx rfl (hb hby d2_26) rfl (l' := #[.val (.ref a0'), .val (.int p1), .val (.int ((((0 : Int32) ||| ((y0 &&& (127 : Int32)) <<< ((0 : Int32) &&& 31))) ||| ((y1 &&& (127 : Int32)) <<< ((7 : Int32) &&& 31))) ||| ((y2 &&& (127 : Int32)) <<< ((14 : Int32) &&& 31)))), .val (.int (21 : Int32)), .val (.int (((p1 + (1 : Int32)) + (1 : Int32)) + (1 : Int32))), .val (.int y2)]) rfl ?_
        show Steps p.tables e below (T0.setTop (mkF m 29 #[.val (.ref a0'), .val (.int p1), .val (.int ((((0 : Int32) ||| ((y0 &&& (127 : Int32)) <<< ((0 : Int32) &&& 31))) ||| ((y1 &&& (127 : Int32)) <<< ((7 : Int32) &&& 31))) ||| ((y2 &&& (127 : Int32)) <<< ((14 : Int32) &&& 31)))), .val (.int (21 : Int32)), .val (.int (((p1 + (1 : Int32)) + (1 : Int32)) + (1 : Int32))), .val (.int y2)] [])) _
        refine XS.iload X0.here hx rfl (hb hby d2_29) rfl ?_
        show Steps p.tables e below (T0.setTop (mkF m 31 #[.val (.ref a0'), .val (.int p1), .val (.int ((((0 : Int32) ||| ((y0 &&& (127 : Int32)) <<< ((0 : Int32) &&& 31))) ||| ((y1 &&& (127 : Int32)) <<< ((7 : Int32) &&& 31))) ||| ((y2 &&& (127 : Int32)) <<< ((14 : Int32) &&& 31)))), .val (.int (21 : Int32)), .val (.int (((p1 + (1 : Int32)) + (1 : Int32)) + (1 : Int32))), .val (.int y2)] [(.int y2)])) _
        refine XS.sipush X0.here hx rfl (hb hby d2_31) ?_
        show Steps p.tables e below (T0.setTop (mkF m 34 #[.val (.ref a0'), .val (.int p1), .val (.int ((((0 : Int32) ||| ((y0 &&& (127 : Int32)) <<< ((0 : Int32) &&& 31))) ||| ((y1 &&& (127 : Int32)) <<< ((7 : Int32) &&& 31))) ||| ((y2 &&& (127 : Int32)) <<< ((14 : Int32) &&& 31)))), .val (.int (21 : Int32)), .val (.int (((p1 + (1 : Int32)) + (1 : Int32)) + (1 : Int32))), .val (.int y2)] [(.int (128 : Int32)), (.int y2)])) _
        refine XS.iand X0.here hx rfl (hb hby d2_34) rfl ?_
        exact kt
      by_cases hc35_3 : (y2 &&& (128 : Int32)) = (0 : Int32)
      · replace hr := hr.trans (if_pos hc35_3)
        refine own_step (T' := T0) (f' := (mkF m 38 #[.val (.ref a0'), .val (.int p1), .val (.int ((((0 : Int32) ||| ((y0 &&& (127 : Int32)) <<< ((0 : Int32) &&& 31))) ||| ((y1 &&& (127 : Int32)) <<< ((7 : Int32) &&& 31))) ||| ((y2 &&& (127 : Int32)) <<< ((14 : Int32) &&& 31)))), .val (.int (21 : Int32)), .val (.int (((p1 + (1 : Int32)) + (1 : Int32)) + (1 : Int32))), .val (.int y2)] [])) (fun t kt => ?_) ?_
        · show Steps p.tables e below (T0.setTop (mkF m 35 #[.val (.ref a0'), .val (.int p1), .val (.int ((((0 : Int32) ||| ((y0 &&& (127 : Int32)) <<< ((0 : Int32) &&& 31))) ||| ((y1 &&& (127 : Int32)) <<< ((7 : Int32) &&& 31))) ||| ((y2 &&& (127 : Int32)) <<< ((14 : Int32) &&& 31)))), .val (.int (21 : Int32)), .val (.int (((p1 + (1 : Int32)) + (1 : Int32)) + (1 : Int32))), .val (.int y2)] [(.int (y2 &&& (128 : Int32)))])) _
          refine XS.ifNo X0.here hx rfl (hb hby d2_35) rfl ((if0 _ _).trans (teq hc35_3).2) kt
        refine own_step (T' := T0) (f' := (mkF m 39 #[.val (.ref a0'), .val (.int p1), .val (.int ((((0 : Int32) ||| ((y0 &&& (127 : Int32)) <<< ((0 : Int32) &&& 31))) ||| ((y1 &&& (127 : Int32)) <<< ((7 : Int32) &&& 31))) ||| ((y2 &&& (127 : Int32)) <<< ((14 : Int32) &&& 31)))), .val (.int (21 : Int32)), .val (.int (((p1 + (1 : Int32)) + (1 : Int32)) + (1 : Int32))), .val (.int y2)] [(.int ((((0 : Int32) ||| ((y0 &&& (127 : Int32)) <<< ((0 : Int32) &&& 31))) ||| ((y1 &&& (127 : Int32)) <<< ((7 : Int32) &&& 31))) ||| ((y2 &&& (127 : Int32)) <<< ((14 : Int32) &&& 31))))])) (fun t kt => ?_) ?_
        · show Steps p.tables e below (T0.setTop (mkF m 38 #[.val (.ref a0'), .val (.int p1), .val (.int ((((0 : Int32) ||| ((y0 &&& (127 : Int32)) <<< ((0 : Int32) &&& 31))) ||| ((y1 &&& (127 : Int32)) <<< ((7 : Int32) &&& 31))) ||| ((y2 &&& (127 : Int32)) <<< ((14 : Int32) &&& 31)))), .val (.int (21 : Int32)), .val (.int (((p1 + (1 : Int32)) + (1 : Int32)) + (1 : Int32))), .val (.int y2)] [])) _
          refine XS.iloadN X0.here hx rfl (hb hby d2_38) rfl ?_
          exact kt
        exact own_retI X0 hx hret hlk (hb hby d2_39) (Nat.le_refl _) (Nat.le_refl _) ⟨congrArg (fun z => some (Value.int z)) hr.symm, N0, e0⟩
      · replace hr := hr.trans (if_neg hc35_3)
        refine own_step (T' := T0) (f' := (mkF m 7 #[.val (.ref a0'), .val (.int p1), .val (.int ((((0 : Int32) ||| ((y0 &&& (127 : Int32)) <<< ((0 : Int32) &&& 31))) ||| ((y1 &&& (127 : Int32)) <<< ((7 : Int32) &&& 31))) ||| ((y2 &&& (127 : Int32)) <<< ((14 : Int32) &&& 31)))), .val (.int (21 : Int32)), .val (.int (((p1 + (1 : Int32)) + (1 : Int32)) + (1 : Int32))), .val (.int y2)] [])) (fun t kt => ?_) ?_
        · show Steps p.tables e below (T0.setTop (mkF m 35 #[.val (.ref a0'), .val (.int p1), .val (.int ((((0 : Int32) ||| ((y0 &&& (127 : Int32)) <<< ((0 : Int32) &&& 31))) ||| ((y1 &&& (127 : Int32)) <<< ((7 : Int32) &&& 31))) ||| ((y2 &&& (127 : Int32)) <<< ((14 : Int32) &&& 31)))), .val (.int (21 : Int32)), .val (.int (((p1 + (1 : Int32)) + (1 : Int32)) + (1 : Int32))), .val (.int y2)] [(.int (y2 &&& (128 : Int32)))])) _
          refine XS.ifYes X0.here hx rfl (pc0 := 35) (pc' := 7) rfl (hb hby d2_35) rfl ((if0 _ _).trans (feq hc35_3).2) (by decide) (by decide) kt
        refine own_step (T' := T0) (f' := (mkF m 35 #[.val (.ref a0'), .val (.int p1), .val (.int (((((0 : Int32) ||| ((y0 &&& (127 : Int32)) <<< ((0 : Int32) &&& 31))) ||| ((y1 &&& (127 : Int32)) <<< ((7 : Int32) &&& 31))) ||| ((y2 &&& (127 : Int32)) <<< ((14 : Int32) &&& 31))) ||| ((y3 &&& (127 : Int32)) <<< ((21 : Int32) &&& 31)))), .val (.int (28 : Int32)), .val (.int ((((p1 + (1 : Int32)) + (1 : Int32)) + (1 : Int32)) + (1 : Int32))), .val (.int y3)] [(.int (y3 &&& (128 : Int32)))])) (fun t kt => ?_) ?_
        · show Steps p.tables e below (T0.setTop (mkF m 7 #[.val (.ref a0'), .val (.int p1), .val (.int ((((0 : Int32) ||| ((y0 &&& (127 : Int32)) <<< ((0 : Int32) &&& 31))) ||| ((y1 &&& (127 : Int32)) <<< ((7 : Int32) &&& 31))) ||| ((y2 &&& (127 : Int32)) <<< ((14 : Int32) &&& 31)))), .val (.int (21 : Int32)), .val (.int (((p1 + (1 : Int32)) + (1 : Int32)) + (1 : Int32))), .val (.int y2)] [])) _
          refine XS.aloadN X0.here hx rfl (hb hby d2_7) rfl rfl ?_
          show Steps p.tables e below (T0.setTop (mkF m 8 #[.val (.ref a0'), .val (.int p1), .val (.int ((((0 : Int32) ||| ((y0 &&& (127 : Int32)) <<< ((0 : Int32) &&& 31))) ||| ((y1 &&& (127 : Int32)) <<< ((7 : Int32) &&& 31))) ||| ((y2 &&& (127 : Int32)) <<< ((14 : Int32) &&& 31)))), .val (.int (21 : Int32)), .val (.int (((p1 + (1 : Int32)) + (1 : Int32)) + (1 : Int32))), .val (.int y2)] [(.ref a0')])) _
          refine XS.iload X0.here hx rfl (hb hby d2_8) rfl ?_
          show Steps p.tables e below (T0.setTop (mkF m 10 #[.val (.ref a0'), .val (.int p1), .val (.int ((((0 : Int32) ||| ((y0 &&& (127 : Int32)) <<< ((0 : Int32) &&& 31))) ||| ((y1 &&& (127 : Int32)) <<< ((7 : Int32) &&& 31))) ||| ((y2 &&& (127 : Int32)) <<< ((14 : Int32) &&& 31)))), .val (.int (21 : Int32)), .val (.int (((p1 + (1 : Int32)) + (1 : Int32)) + (1 : Int32))), .val (.int y2)] [(.int (((p1 + (1 : Int32)) + (1 : Int32)) + (1 : Int32))), (.ref a0')])) _
          refine XS.iinc X0.here hx rfl (hb hby d2_10) rfl (l' := #[.val (.ref a0'), .val (.int p1), .val (.int ((((0 : Int32) ||| ((y0 &&& (127 : Int32)) <<< ((0 : Int32) &&& 31))) ||| ((y1 &&& (127 : Int32)) <<< ((7 : Int32) &&& 31))) ||| ((y2 &&& (127 : Int32)) <<< ((14 : Int32) &&& 31)))), .val (.int (21 : Int32)), .val (.int ((((p1 + (1 : Int32)) + (1 : Int32)) + (1 : Int32)) + (1 : Int32))), .val (.int y2)]) rfl ?_
          show Steps p.tables e below (T0.setTop (mkF m 13 #[.val (.ref a0'), .val (.int p1), .val (.int ((((0 : Int32) ||| ((y0 &&& (127 : Int32)) <<< ((0 : Int32) &&& 31))) ||| ((y1 &&& (127 : Int32)) <<< ((7 : Int32) &&& 31))) ||| ((y2 &&& (127 : Int32)) <<< ((14 : Int32) &&& 31)))), .val (.int (21 : Int32)), .val (.int ((((p1 + (1 : Int32)) + (1 : Int32)) + (1 : Int32)) + (1 : Int32))), .val (.int y2)] [(.int (((p1 + (1 : Int32)) + (1 : Int32)) + (1 : Int32))), (.ref a0')])) _
          refine own_ldB X0 hx hZ e0 A0 (j := (((p1 + (1 : Int32)) + (1 : Int32)) + (1 : Int32))) (own_ix3 p1 hp4).1 (k := _) rfl (v := (.int y3)) (by rw [(own_ix3 p1 hp4).2]; exact hv3) (g := (mkF m 13 #[.val (.ref a0'), .val (.int p1), .val (.int ((((0 : Int32) ||| ((y0 &&& (127 : Int32)) <<< ((0 : Int32) &&& 31))) ||| ((y1 &&& (127 : Int32)) <<< ((7 : Int32) &&& 31))) ||| ((y2 &&& (127 : Int32)) <<< ((14 : Int32) &&& 31)))), .val (.int (21 : Int32)), .val (.int ((((p1 + (1 : Int32)) + (1 : Int32)) + (1 : Int32)) + (1 : Int32))), .val (.int y2)] [(.int (((p1 + (1 : Int32)) + (1 : Int32)) + (1 : Int32))), (.ref a0')])) rfl rfl (hb hby d2_13) _ ?_
          show Steps p.tables e below (T0.setTop (mkF m 14 #[.val (.ref a0'), .val (.int p1), .val (.int ((((0 : Int32) ||| ((y0 &&& (127 : Int32)) <<< ((0 : Int32) &&& 31))) ||| ((y1 &&& (127 : Int32)) <<< ((7 : Int32) &&& 31))) ||| ((y2 &&& (127 : Int32)) <<< ((14 : Int32) &&& 31)))), .val (.int (21 : Int32)), .val (.int ((((p1 + (1 : Int32)) + (1 : Int32)) + (1 : Int32)) + (1 : Int32))), .val (.int y2)] [(.int y3)])) _
          refine XS.istore X0.here hx rfl (hb hby d2_14) rfl (l' := #[.val (.ref a0'), .val (.int p1), .val (.int ((((0 : Int32) ||| ((y0 &&& (127 : Int32)) <<< ((0 : Int32) &&& 31))) ||| ((y1 &&& (127 : Int32)) <<< ((7 : Int32) &&& 31))) ||| ((y2 &&& (127 : Int32)) <<< ((14 : Int32) &&& 31)))), .val (.int (21 : Int32)), .val (.int ((((p1 + (1 : Int32)) + (1 : Int32)) + (1 : Int32)) + (1 : Int32))), .val (.int y3)]) rfl ?_
          show Steps p.tables e below (T0.setTop (mkF m 16 #[.val (.ref a0'), .val (.int p1), .val (.int ((((0 : Int32) ||| ((y0 &&& (127 : Int32)) <<< ((0 : Int32) &&& 31))) ||| ((y1 &&& (127 : Int32)) <<< ((7 : Int32) &&& 31))) ||| ((y2 &&& (127 : Int32)) <<< ((14 : Int32) &&& 31)))), .val (.int (21 : Int32)), .val (.int ((((p1 + (1 : Int32)) + (1 : Int32)) + (1 : Int32)) + (1 : Int32))), .val (.int y3)] [])) _
          refine XS.iloadN X0.here hx rfl (hb hby d2_16) rfl ?_
          show Steps p.tables e below (T0.setTop (mkF m 17 #[.val (.ref a0'), .val (.int p1), .val (.int ((((0 : Int32) ||| ((y0 &&& (127 : Int32)) <<< ((0 : Int32) &&& 31))) ||| ((y1 &&& (127 : Int32)) <<< ((7 : Int32) &&& 31))) ||| ((y2 &&& (127 : Int32)) <<< ((14 : Int32) &&& 31)))), .val (.int (21 : Int32)), .val (.int ((((p1 + (1 : Int32)) + (1 : Int32)) + (1 : Int32)) + (1 : Int32))), .val (.int y3)] [(.int ((((0 : Int32) ||| ((y0 &&& (127 : Int32)) <<< ((0 : Int32) &&& 31))) ||| ((y1 &&& (127 : Int32)) <<< ((7 : Int32) &&& 31))) ||| ((y2 &&& (127 : Int32)) <<< ((14 : Int32) &&& 31))))])) _
          refine XS.iload X0.here hx rfl (hb hby d2_17) rfl ?_
          show Steps p.tables e below (T0.setTop (mkF m 19 #[.val (.ref a0'), .val (.int p1), .val (.int ((((0 : Int32) ||| ((y0 &&& (127 : Int32)) <<< ((0 : Int32) &&& 31))) ||| ((y1 &&& (127 : Int32)) <<< ((7 : Int32) &&& 31))) ||| ((y2 &&& (127 : Int32)) <<< ((14 : Int32) &&& 31)))), .val (.int (21 : Int32)), .val (.int ((((p1 + (1 : Int32)) + (1 : Int32)) + (1 : Int32)) + (1 : Int32))), .val (.int y3)] [(.int y3), (.int ((((0 : Int32) ||| ((y0 &&& (127 : Int32)) <<< ((0 : Int32) &&& 31))) ||| ((y1 &&& (127 : Int32)) <<< ((7 : Int32) &&& 31))) ||| ((y2 &&& (127 : Int32)) <<< ((14 : Int32) &&& 31))))])) _
          refine XS.bipush X0.here hx rfl (hb hby d2_19) ?_
          show Steps p.tables e below (T0.setTop (mkF m 21 #[.val (.ref a0'), .val (.int p1), .val (.int ((((0 : Int32) ||| ((y0 &&& (127 : Int32)) <<< ((0 : Int32) &&& 31))) ||| ((y1 &&& (127 : Int32)) <<< ((7 : Int32) &&& 31))) ||| ((y2 &&& (127 : Int32)) <<< ((14 : Int32) &&& 31)))), .val (.int (21 : Int32)), .val (.int ((((p1 + (1 : Int32)) + (1 : Int32)) + (1 : Int32)) + (1 : Int32))), .val (.int y3)] [(.int (127 : Int32)), (.int y3), (.int ((((0 : Int32) ||| ((y0 &&& (127 : Int32)) <<< ((0 : Int32) &&& 31))) ||| ((y1 &&& (127 : Int32)) <<< ((7 : Int32) &&& 31))) ||| ((y2 &&& (127 : Int32)) <<< ((14 : Int32) &&& 31))))])) _
          refine XS.iand X0.here hx rfl (hb hby d2_21) rfl ?_
          show Steps p.tables e below (T0.setTop (mkF m 22 #[.val (.ref a0'), .val (.int p1), .val (.int ((((0 : Int32) ||| ((y0 &&& (127 : Int32)) <<< ((0 : Int32) &&& 31))) ||| ((y1 &&& (127 : Int32)) <<< ((7 : Int32) &&& 31))) ||| ((y2 &&& (127 : Int32)) <<< ((14 : Int32) &&& 31)))), .val (.int (21 : Int32)), .val (.int ((((p1 + (1 : Int32)) + (1 : Int32)) + (1 : Int32)) + (1 : Int32))), .val (.int y3)] [(.int (y3 &&& (127 : Int32))), (.int ((((0 : Int32) ||| ((y0 &&& (127 : Int32)) <<< ((0 : Int32) &&& 31))) ||| ((y1 &&& (127 : Int32)) <<< ((7 : Int32) &&& 31))) ||| ((y2 &&& (127 : Int32)) <<< ((14 : Int32) &&& 31))))])) _
          refine XS.iloadN X0.here hx rfl (hb hby d2_22) rfl ?_
          show Steps p.tables e below (T0.setTop (mkF m 23 #[.val (.ref a0'), .val (.int p1), .val (.int ((((0 : Int32) ||| ((y0 &&& (127 : Int32)) <<< ((0 : Int32) &&& 31))) ||| ((y1 &&& (127 : Int32)) <<< ((7 : Int32) &&& 31))) ||| ((y2 &&& (127 : Int32)) <<< ((14 : Int32) &&& 31)))), .val (.int (21 : Int32)), .val (.int ((((p1 + (1 : Int32)) + (1 : Int32)) + (1 : Int32)) + (1 : Int32))), .val (.int y3)] [(.int (21 : Int32)), (.int (y3 &&& (127 : Int32))), (.int ((((0 : Int32) ||| ((y0 &&& (127 : Int32)) <<< ((0 : Int32) &&& 31))) ||| ((y1 &&& (127 : Int32)) <<< ((7 : Int32) &&& 31))) ||| ((y2 &&& (127 : Int32)) <<< ((14 : Int32) &&& 31))))])) _
          refine XS.ishl X0.here hx rfl (hb hby d2_23) rfl ?_
          show Steps p.tables e below (T0.setTop (mkF m 24 #[.val (.ref a0'), .val (.int p1), .val (.int ((((0 : Int32) ||| ((y0 &&& (127 : Int32)) <<< ((0 : Int32) &&& 31))) ||| ((y1 &&& (127 : Int32)) <<< ((7 : Int32) &&& 31))) ||| ((y2 &&& (127 : Int32)) <<< ((14 : Int32) &&& 31)))), .val (.int (21 : Int32)), .val (.int ((((p1 + (1 : Int32)) + (1 : Int32)) + (1 : Int32)) + (1 : Int32))), .val (.int y3)] [(.int ((y3 &&& (127 : Int32)) <<< ((21 : Int32) &&& 31))), (.int ((((0 : Int32) ||| ((y0 &&& (127 : Int32)) <<< ((0 : Int32) &&& 31))) ||| ((y1 &&& (127 : Int32)) <<< ((7 : Int32) &&& 31))) ||| ((y2 &&& (127 : Int32)) <<< ((14 : Int32) &&& 31))))])) _
          refine XS.ior X0.here hx rfl (hb hby d2_24) rfl ?_
          show Steps p.tables e below (T0.setTop (mkF m 25 #[.val (.ref a0'), .val (.int p1), .val (.int ((((0 : Int32) ||| ((y0 &&& (127 : Int32)) <<< ((0 : Int32) &&& 31))) ||| ((y1 &&& (127 : Int32)) <<< ((7 : Int32) &&& 31))) ||| ((y2 &&& (127 : Int32)) <<< ((14 : Int32) &&& 31)))), .val (.int (21 : Int32)), .val (.int ((((p1 + (1 : Int32)) + (1 : Int32)) + (1 : Int32)) + (1 : Int32))), .val (.int y3)] [(.int (((((0 : Int32) ||| ((y0 &&& (127 : Int32)) <<< ((0 : Int32) &&& 31))) ||| ((y1 &&& (127 : Int32)) <<< ((7 : Int32) &&& 31))) ||| ((y2 &&& (127 : Int32)) <<< ((14 : Int32) &&& 31))) ||| ((y3 &&& (127 : Int32)) <<< ((21 : Int32) &&& 31))))])) _
          refine XS.istoreN X0.here hx rfl (hb hby d2_25) rfl (l' := #[.val (.ref a0'), .val (.int p1), .val (.int (((((0 : Int32) ||| ((y0 &&& (127 : Int32)) <<< ((0 : Int32) &&& 31))) ||| ((y1 &&& (127 : Int32)) <<< ((7 : Int32) &&& 31))) ||| ((y2 &&& (127 : Int32)) <<< ((14 : Int32) &&& 31))) ||| ((y3 &&& (127 : Int32)) <<< ((21 : Int32) &&& 31)))), .val (.int (21 : Int32)), .val (.int ((((p1 + (1 : Int32)) + (1 : Int32)) + (1 : Int32)) + (1 : Int32))), .val (.int y3)]) rfl ?_
          show Steps p.tables e below (T0.setTop (mkF m 26 #[.val (.ref a0'), .val (.int p1), .val (.int (((((0 : Int32) ||| ((y0 &&& (127 : Int32)) <<< ((0 : Int32) &&& 31))) ||| ((y1 &&& (127 : Int32)) <<< ((7 : Int32) &&& 31))) ||| ((y2 &&& (127 : Int32)) <<< ((14 : Int32) &&& 31))) ||| ((y3 &&& (127 : Int32)) <<< ((21 : Int32) &&& 31)))), .val (.int (21 : Int32)), .val (.int ((((p1 + (1 : Int32)) + (1 : Int32)) + (1 : Int32)) + (1 : Int32))), .val (.int y3)] [])) _
          refine XS.iinc X0.here hx rfl (hb hby d2_26) rfl (l' := #[.val (.ref a0'), .val (.int p1), .val (.int (((((0 : Int32) ||| ((y0 &&& (127 : Int32)) <<< ((0 : Int32) &&& 31))) ||| ((y1 &&& (127 : Int32)) <<< ((7 : Int32) &&& 31))) ||| ((y2 &&& (127 : Int32)) <<< ((14 : Int32) &&& 31))) ||| ((y3 &&& (127 : Int32)) <<< ((21 : Int32) &&& 31)))), .val (.int (28 : Int32)), .val (.int ((((p1 + (1 : Int32)) + (1 : Int32)) + (1 : Int32)) + (1 : Int32))), .val (.int y3)]) rfl ?_
          show Steps p.tables e below (T0.setTop (mkF m 29 #[.val (.ref a0'), .val (.int p1), .val (.int (((((0 : Int32) ||| ((y0 &&& (127 : Int32)) <<< ((0 : Int32) &&& 31))) ||| ((y1 &&& (127 : Int32)) <<< ((7 : Int32) &&& 31))) ||| ((y2 &&& (127 : Int32)) <<< ((14 : Int32) &&& 31))) ||| ((y3 &&& (127 : Int32)) <<< ((21 : Int32) &&& 31)))), .val (.int (28 : Int32)), .val (.int ((((p1 + (1 : Int32)) + (1 : Int32)) + (1 : Int32)) + (1 : Int32))), .val (.int y3)] [])) _
          refine XS.iload X0.here hx rfl (hb hby d2_29) rfl ?_
          show Steps p.tables e below (T0.setTop (mkF m 31 #[.val (.ref a0'), .val (.int p1), .val (.int (((((0 : Int32) ||| ((y0 &&& (127 : Int32)) <<< ((0 : Int32) &&& 31))) ||| ((y1 &&& (127 : Int32)) <<< ((7 : Int32) &&& 31))) ||| ((y2 &&& (127 : Int32)) <<< ((14 : Int32) &&& 31))) ||| ((y3 &&& (127 : Int32)) <<< ((21 : Int32) &&& 31)))), .val (.int (28 : Int32)), .val (.int ((((p1 + (1 : Int32)) + (1 : Int32)) + (1 : Int32)) + (1 : Int32))), .val (.int y3)] [(.int y3)])) _
          refine XS.sipush X0.here hx rfl (hb hby d2_31) ?_
          show Steps p.tables e below (T0.setTop (mkF m 34 #[.val (.ref a0'), .val (.int p1), .val (.int (((((0 : Int32) ||| ((y0 &&& (127 : Int32)) <<< ((0 : Int32) &&& 31))) ||| ((y1 &&& (127 : Int32)) <<< ((7 : Int32) &&& 31))) ||| ((y2 &&& (127 : Int32)) <<< ((14 : Int32) &&& 31))) ||| ((y3 &&& (127 : Int32)) <<< ((21 : Int32) &&& 31)))), .val (.int (28 : Int32)), .val (.int ((((p1 + (1 : Int32)) + (1 : Int32)) + (1 : Int32)) + (1 : Int32))), .val (.int y3)] [(.int (128 : Int32)), (.int y3)])) _
          refine XS.iand X0.here hx rfl (hb hby d2_34) rfl ?_
          exact kt
        refine own_step (T' := T0) (f' := (mkF m 38 #[.val (.ref a0'), .val (.int p1), .val (.int (((((0 : Int32) ||| ((y0 &&& (127 : Int32)) <<< ((0 : Int32) &&& 31))) ||| ((y1 &&& (127 : Int32)) <<< ((7 : Int32) &&& 31))) ||| ((y2 &&& (127 : Int32)) <<< ((14 : Int32) &&& 31))) ||| ((y3 &&& (127 : Int32)) <<< ((21 : Int32) &&& 31)))), .val (.int (28 : Int32)), .val (.int ((((p1 + (1 : Int32)) + (1 : Int32)) + (1 : Int32)) + (1 : Int32))), .val (.int y3)] [])) (fun t kt => ?_) ?_
        · show Steps p.tables e below (T0.setTop (mkF m 35 #[.val (.ref a0'), .val (.int p1), .val (.int (((((0 : Int32) ||| ((y0 &&& (127 : Int32)) <<< ((0 : Int32) &&& 31))) ||| ((y1 &&& (127 : Int32)) <<< ((7 : Int32) &&& 31))) ||| ((y2 &&& (127 : Int32)) <<< ((14 : Int32) &&& 31))) ||| ((y3 &&& (127 : Int32)) <<< ((21 : Int32) &&& 31)))), .val (.int (28 : Int32)), .val (.int ((((p1 + (1 : Int32)) + (1 : Int32)) + (1 : Int32)) + (1 : Int32))), .val (.int y3)] [(.int (y3 &&& (128 : Int32)))])) _
          refine XS.ifNo X0.here hx rfl (hb hby d2_35) rfl ((if0 _ _).trans (teq hb0).2) kt
        refine own_step (T' := T0) (f' := (mkF m 39 #[.val (.ref a0'), .val (.int p1), .val (.int (((((0 : Int32) ||| ((y0 &&& (127 : Int32)) <<< ((0 : Int32) &&& 31))) ||| ((y1 &&& (127 : Int32)) <<< ((7 : Int32) &&& 31))) ||| ((y2 &&& (127 : Int32)) <<< ((14 : Int32) &&& 31))) ||| ((y3 &&& (127 : Int32)) <<< ((21 : Int32) &&& 31)))), .val (.int (28 : Int32)), .val (.int ((((p1 + (1 : Int32)) + (1 : Int32)) + (1 : Int32)) + (1 : Int32))), .val (.int y3)] [(.int (((((0 : Int32) ||| ((y0 &&& (127 : Int32)) <<< ((0 : Int32) &&& 31))) ||| ((y1 &&& (127 : Int32)) <<< ((7 : Int32) &&& 31))) ||| ((y2 &&& (127 : Int32)) <<< ((14 : Int32) &&& 31))) ||| ((y3 &&& (127 : Int32)) <<< ((21 : Int32) &&& 31))))])) (fun t kt => ?_) ?_
        · show Steps p.tables e below (T0.setTop (mkF m 38 #[.val (.ref a0'), .val (.int p1), .val (.int (((((0 : Int32) ||| ((y0 &&& (127 : Int32)) <<< ((0 : Int32) &&& 31))) ||| ((y1 &&& (127 : Int32)) <<< ((7 : Int32) &&& 31))) ||| ((y2 &&& (127 : Int32)) <<< ((14 : Int32) &&& 31))) ||| ((y3 &&& (127 : Int32)) <<< ((21 : Int32) &&& 31)))), .val (.int (28 : Int32)), .val (.int ((((p1 + (1 : Int32)) + (1 : Int32)) + (1 : Int32)) + (1 : Int32))), .val (.int y3)] [])) _
          refine XS.iloadN X0.here hx rfl (hb hby d2_38) rfl ?_
          exact kt
        exact own_retI X0 hx hret hlk (hb hby d2_39) (Nat.le_refl _) (Nat.le_refl _) ⟨congrArg (fun z => some (Value.int z)) hr.symm, N0, e0⟩
set_option maxRecDepth 65536 in
set_option maxHeartbeats 4000000 in
theorem rm2n4 (l : Launch) (Z : State) (a0 : Array Value) (hw : ∀ d ∈ tables_1, d.before a0 Z = true) (ws : List Jvm.Cond) (a0' : Addr) (p1 : Int32) (y0 : Int32) (y1 : Int32) (y2 : Int32) (y3 : Int32) (vs0 : List Value) (h0 : Heap) (n0 : Nat) (A0 : own_A Z h0 a0' .byte vs0) (hp4 : p1 = 0 ∨ p1 = 1 ∨ p1 = 2 ∨ p1 = 3) (hv0 : vs0[p1.toNatClampNeg + 0]? = some (.int y0)) (hv1 : vs0[p1.toNatClampNeg + 1]? = some (.int y1)) (hv2 : vs0[p1.toNatClampNeg + 2]? = some (.int y2)) (hv3 : vs0[p1.toNatClampNeg + 3]? = some (.int y3)) (hb0 : (y3 &&& (128 : Int32)) = (0 : Int32)) :
    MetFree l (⟨"hotstate/sort/VarInts", "read", "([BI)I"⟩ : MethodName) (head1 (Jvm.Cond.code (⟨"hotstate/sort/VarInts", "read", "([BI)I"⟩ : MethodName) prog_81_method_4_code 6 (some .int) :: ws) ({ frames := 0, cells := 0, slots := 0, locals := 0 } : Room)) (fun a U => a = #[(.ref a0'), (.int p1)] ∧ Z.Warmed39 U.vm ∧ U.heap = h0) (fun _ _ _ _ _ => True) (fun _ U o U' => ∃ v L, o = .returned v ∧ (own_P (.int (f2n4_0 p1 y0 y1 y2 y3)) h0 n0) v U'.heap L ∧ FrameEnd U o U' L ({ frames := 0, cells := 0, slots := 0, locals := 0 } : Room).cells ({ frames := 0, cells := 0, slots := 0, locals := 0 } : Room).slots) := by
  refine MetFree.of_bodySF (plainFor_of_name pn2) hisR ?_
  intro p e s m args below meth c s₁ Bd hml0 hP hK
  obtain ⟨rfl, hZ, hh⟩ := hP
  have hown : s.vm.findClass "hotstate/sort/VarInts" = some m.cls := findClass_of_methodNamed Bd.named
  have X0 : Stand p l e ({ frames := 0, cells := 0, slots := 0, locals := 0 } : Room) s m #[(.ref a0'), (.int p1)] below meth c s₁ [] 0 0 := Stand.of_body Bd
  have e0 : s₁.heap = h0 := by rw [← hh, Bd.state]; rfl
  show own_Ends p e below s 0 0 (own_P (.int (f2n4_0 p1 y0 y1 y2 y3)) h0 n0) s₁ (entryFrame m #[(.ref a0'), (.int p1)] 6)
  refine own_step (fun t k => castTop (ef2 m a0' p1) k) ?_
  exact b2n4_0 a0' p1 y0 y1 y2 y3 vs0 X0 Bd.exec hZ hw Bd.bytes hml0 hown Bd.returns (BodyLoose.notSynchronized Bd) e0 (Fr.nil n0) A0 hp4 hv0 hv1 hv2 hv3 hb0 rfl
def f2n5_0 (p1 : Int32) (y0 : Int32) (y1 : Int32) (y2 : Int32) (y3 : Int32) (y4 : Int32) : Int32 :=
  if (y0 &&& (128 : Int32)) = (0 : Int32) then (((0 : Int32) ||| ((y0 &&& (127 : Int32)) <<< ((0 : Int32) &&& 31)))) else (if (y1 &&& (128 : Int32)) = (0 : Int32) then ((((0 : Int32) ||| ((y0 &&& (127 : Int32)) <<< ((0 : Int32) &&& 31))) ||| ((y1 &&& (127 : Int32)) <<< ((7 : Int32) &&& 31)))) else (if (y2 &&& (128 : Int32)) = (0 : Int32) then (((((0 : Int32) ||| ((y0 &&& (127 : Int32)) <<< ((0 : Int32) &&& 31))) ||| ((y1 &&& (127 : Int32)) <<< ((7 : Int32) &&& 31))) ||| ((y2 &&& (127 : Int32)) <<< ((14 : Int32) &&& 31)))) else (if (y3 &&& (128 : Int32)) = (0 : Int32) then ((((((0 : Int32) ||| ((y0 &&& (127 : Int32)) <<< ((0 : Int32) &&& 31))) ||| ((y1 &&& (127 : Int32)) <<< ((7 : Int32) &&& 31))) ||| ((y2 &&& (127 : Int32)) <<< ((14 : Int32) &&& 31))) ||| ((y3 &&& (127 : Int32)) <<< ((21 : Int32) &&& 31)))) else (((((((0 : Int32) ||| ((y0 &&& (127 : Int32)) <<< ((0 : Int32) &&& 31))) ||| ((y1 &&& (127 : Int32)) <<< ((7 : Int32) &&& 31))) ||| ((y2 &&& (127 : Int32)) <<< ((14 : Int32) &&& 31))) ||| ((y3 &&& (127 : Int32)) <<< ((21 : Int32) &&& 31))) ||| ((y4 &&& (127 : Int32)) <<< ((28 : Int32) &&& 31)))))))
set_option maxRecDepth 65536 in
set_option maxHeartbeats 4000000 in
theorem b2n5_0 {p : Program} {l : Launch} {e : Env} {s : State} {m : MethodId} {args : Array Value} {below : List Frame} {meth : Method} {c : Code} {T0 : State} {locs : List Loc} {Z : State} {a0 : Array Value} {h0 : Heap} {n0 : Nat} (a0' : Addr) (p1 : Int32) (y0 : Int32) (y1 : Int32) (y2 : Int32) (y3 : Int32) (y4 : Int32) (vs0 : List Value) {r : Int32} (X0 : Stand p l e ({ frames := 0, cells := 0, slots := 0, locals := 0 } : Room) s m args below meth c T0 locs 0 0) (hx : p.tables.exec = Jvm.exec) (hZ : Z.Warmed39 s.vm) (hw : ∀ d ∈ tables_1, d.before a0 Z = true) (hby : c.code = prog_81_method_4_code) (hml : c.maxLocals = 6) (hown : s.vm.findClass "hotstate/sort/VarInts" = some m.cls) (hret : meth.sig.returnType = some .int) (hlk : meth.locks = false) (e0 : T0.heap = h0) (N0 : Fr n0 locs) (A0 : own_A Z h0 a0' .byte vs0) (hp4 : p1 = 0 ∨ p1 = 1 ∨ p1 = 2 ∨ p1 = 3) (hv0 : vs0[p1.toNatClampNeg + 0]? = some (.int y0)) (hv1 : vs0[p1.toNatClampNeg + 1]? = some (.int y1)) (hv2 : vs0[p1.toNatClampNeg + 2]? = some (.int y2)) (hv3 : vs0[p1.toNatClampNeg + 3]? = some (.int y3)) (hv4 : vs0[p1.toNatClampNeg + 4]? = some (.int y4)) (hb0 : (y4 &&& (128 : Int32)) = (0 : Int32)) (hr : r = f2n5_0 p1 y0 y1 y2 y3 y4) :
    own_Ends p e below s 0 0 (own_P (.int r) h0 n0) T0 (mkF m 0 #[.val (.ref a0'), .val (.int p1), .unset, .unset, .unset, .unset] []) := by
  unfold f2n5_0 at hr
  refine own_step (T' := T0) (f' := (mkF m 35 #[.val (.ref a0'), .val (.int p1), .val (.int ((0 : Int32) ||| ((y0 &&& (127 : Int32)) <<< ((0 : Int32) &&& 31)))), .val (.int (7 : Int32)), .val (.int (p1 + (1 : Int32))), .val (.int y0)] [(.int (y0 &&& (128 : Int32)))])) (fun t kt => ?_) ?_
  · show Steps p.tables e below (T0.setTop (mkF m 0 #[.val (.ref a0'), .val (.int p1), .unset, .unset, .unset, .unset] [])) _
    refine XS.iconst X0.here hx rfl (hb hby d2_0) ?_
    show Steps p.tables e below (T0.setTop (mkF m 1 #[.val (.ref a0'), .val (.int p1), .unset, .unset, .unset, .unset] [(.int (0 : Int32))])) _
    refine XS.istoreN X0.here hx rfl (hb hby d2_1) rfl (l' := #[.val (.ref a0'), .val (.int p1), .val (.int (0 : Int32)), .unset, .unset, .unset]) rfl ?_
    show Steps p.tables e below (T0.setTop (mkF m 2 #[.val (.ref a0'), .val (.int p1), .val (.int (0 : Int32)), .unset, .unset, .unset] [])) _
    refine XS.iconst X0.here hx rfl (hb hby d2_2) ?_
    show Steps p.tables e below (T0.setTop (mkF m 3 #[.val (.ref a0'), .val (.int p1), .val (.int (0 : Int32)), .unset, .unset, .unset] [(.int (0 : Int32))])) _
    refine XS.istoreN X0.here hx rfl (hb hby d2_3) rfl (l' := #[.val (.ref a0'), .val (.int p1), .val (.int (0 : Int32)), .val (.int (0 : Int32)), .unset, .unset]) rfl ?_
    show Steps p.tables e below (T0.setTop (mkF m 4 #[.val (.ref a0'), .val (.int p1), .val (.int (0 : Int32)), .val (.int (0 : Int32)), .unset, .unset] [])) _
    refine XS.iloadN X0.here hx rfl (hb hby d2_4) rfl ?_
    show Steps p.tables e below (T0.setTop (mkF m 5 #[.val (.ref a0'), .val (.int p1), .val (.int (0 : Int32)), .val (.int (0 : Int32)), .unset, .unset] [(.int p1)])) _
    refine XS.istore X0.here hx rfl (hb hby d2_5) rfl (l' := #[.val (.ref a0'), .val (.int p1), .val (.int (0 : Int32)), .val (.int (0 : Int32)), .val (.int p1), .unset]) rfl ?_
    show Steps p.tables e below (T0.setTop (mkF m 7 #[.val (.ref a0'), .val (.int p1), .val (.int (0 : Int32)), .val (.int (0 : Int32)), .val (.int p1), .unset] [])) _
    refine XS.aloadN X0.here hx rfl (hb hby d2_7) rfl rfl ?_
    show Steps p.tables e below (T0.setTop (mkF m 8 #[.val (.ref a0'), .val (.int p1), .val (.int (0 : Int32)), .val (.int (0 : Int32)), .val (.int p1), .unset] [(.ref a0')])) _
    refine XS.iload X0.here hx rfl (hb hby d2_8) rfl ?_
    show Steps p.tables e below (T0.setTop (mkF m 10 #[.val (.ref a0'), .val (.int p1), .val (.int (0 : Int32)), .val (.int (0 : Int32)), .val (.int p1), .unset] [(.int p1), (.ref a0')])) _
    refine XS.iinc X0.here hx rfl (hb hby d2_10) rfl (l' := #[.val (.ref a0'), .val (.int p1), .val (.int (0 : Int32)), .val (.int (0 : Int32)), .val (.int (p1 + (1 : Int32))), .unset]) rfl ?_
    show Steps p.tables e below (T0.setTop (mkF m 13 #[.val (.ref a0'), .val (.int p1), .val (.int (0 : Int32)), .val (.int (0 : Int32)), .val (.int (p1 + (1 : Int32))), .unset] [(.int p1), (.ref a0')])) _
    refine own_ldB X0 hx hZ e0 A0 (j := p1) (own_ix0 p1 hp4).1 (k := _) rfl (v := (.int y0)) (by rw [(own_ix0 p1 hp4).2]; exact hv0) (g := (mkF m 13 #[.val (.ref a0'), .val (.int p1), .val (.int (0 : Int32)), .val (.int (0 : Int32)), .val (.int (p1 + (1 : Int32))), .unset] [(.int p1), (.ref a0')])) rfl rfl (hb hby d2_13) _ ?_
    show Steps p.tables e below (T0.setTop (mkF m 14 #[.val (.ref a0'), .val (.int p1), .val (.int (0 : Int32)), .val (.int (0 : Int32)), .val (.int (p1 + (1 : Int32))), .unset] [(.int y0)])) _
    refine XS.istore X0.here hx rfl (hb hby d2_14) rfl (l' := #[.val (.ref a0'), .val (.int p1), .val (.int (0 : Int32)), .val (.int (0 : Int32)), .val (.int (p1 + (1 : Int32))), .val (.int y0)]) rfl ?_
    show Steps p.tables e below (T0.setTop (mkF m 16 #[.val (.ref a0'), .val (.int p1), .val (.int (0 : Int32)), .val (.int (0 : Int32)), .val (.int (p1 + (1 : Int32))), .val (.int y0)] [])) _
    refine XS.iloadN X0.here hx rfl (hb hby d2_16) rfl ?_
    show Steps p.tables e below (T0.setTop (mkF m 17 #[.val (.ref a0'), .val (.int p1), .val (.int (0 : Int32)), .val (.int (0 : Int32)), .val (.int (p1 + (1 : Int32))), .val (.int y0)] [(.int (0 : Int32))])) _
    refine XS.iload X0.here hx rfl (hb hby d2_17) rfl ?_
    show Steps p.tables e below (T0.setTop (mkF m 19 #[.val (.ref a0'), .val (.int p1), .val (.int (0 : Int32)), .val (.int (0 : Int32)), .val (.int (p1 + (1 : Int32))), .val (.int y0)] [(.int y0), (.int (0 : Int32))])) _
    refine XS.bipush X0.here hx rfl (hb hby d2_19) ?_
    show Steps p.tables e below (T0.setTop (mkF m 21 #[.val (.ref a0'), .val (.int p1), .val (.int (0 : Int32)), .val (.int (0 : Int32)), .val (.int (p1 + (1 : Int32))), .val (.int y0)] [(.int (127 : Int32)), (.int y0), (.int (0 : Int32))])) _
    refine XS.iand X0.here hx rfl (hb hby d2_21) rfl ?_
    show Steps p.tables e below (T0.setTop (mkF m 22 #[.val (.ref a0'), .val (.int p1), .val (.int (0 : Int32)), .val (.int (0 : Int32)), .val (.int (p1 + (1 : Int32))), .val (.int y0)] [(.int (y0 &&& (127 : Int32))), (.int (0 : Int32))])) _
    refine XS.iloadN X0.here hx rfl (hb hby d2_22) rfl ?_
    show Steps p.tables e below (T0.setTop (mkF m 23 #[.val (.ref a0'), .val (.int p1), .val (.int (0 : Int32)), .val (.int (0 : Int32)), .val (.int (p1 + (1 : Int32))), .val (.int y0)] [(.int (0 : Int32)), (.int (y0 &&& (127 : Int32))), (.int (0 : Int32))])) _
    refine XS.ishl X0.here hx rfl (hb hby d2_23) rfl ?_
    show Steps p.tables e below (T0.setTop (mkF m 24 #[.val (.ref a0'), .val (.int p1), .val (.int (0 : Int32)), .val (.int (0 : Int32)), .val (.int (p1 + (1 : Int32))), .val (.int y0)] [(.int ((y0 &&& (127 : Int32)) <<< ((0 : Int32) &&& 31))), (.int (0 : Int32))])) _
    refine XS.ior X0.here hx rfl (hb hby d2_24) rfl ?_
    show Steps p.tables e below (T0.setTop (mkF m 25 #[.val (.ref a0'), .val (.int p1), .val (.int (0 : Int32)), .val (.int (0 : Int32)), .val (.int (p1 + (1 : Int32))), .val (.int y0)] [(.int ((0 : Int32) ||| ((y0 &&& (127 : Int32)) <<< ((0 : Int32) &&& 31))))])) _
    refine XS.istoreN X0.here hx rfl (hb hby d2_25) rfl (l' := #[.val (.ref a0'), .val (.int p1), .val (.int ((0 : Int32) ||| ((y0 &&& (127 : Int32)) <<< ((0 : Int32) &&& 31)))), .val (.int (0 : Int32)), .val (.int (p1 + (1 : Int32))), .val (.int y0)]) rfl ?_
    show Steps p.tables e below (T0.setTop (mkF m 26 #[.val (.ref a0'), .val (.int p1), .val (.int ((0 : Int32) ||| ((y0 &&& (127 : Int32)) <<< ((0 : Int32) &&& 31)))), .val (.int (0 : Int32)), .val (.int (p1 + (1 : Int32))), .val (.int y0)] [])) _
    refine XS.iinc X0.here hx rfl (hb hby d2_26) rfl (l' := #[.val (.ref a0'), .val (.int p1), .val (.int ((0 : Int32) ||| ((y0 &&& (127 : Int32)) <<< ((0 : Int32) &&& 31)))), .val (.int (7 : Int32)), .val (.int (p1 + (1 : Int32))), .val (.int y0)]) rfl ?_
    show Steps p.tables e below (T0.setTop (mkF m 29 #[.val (.ref a0'), .val (.int p1), .val (.int ((0 : Int32) ||| ((y0 &&& (127 : Int32)) <<< ((0 : Int32) &&& 31)))), .val (.int (7 : Int32)), .val (.int (p1 + (1 : Int32))), .val (.int y0)] [])) _
    refine XS.iload X0.here hx rfl (hb hby d2_29) rfl ?_
    show Steps p.tables e below (T0.setTop (mkF m 31 #[.val (.ref a0'), .val (.int p1), .val (.int ((0 : Int32) ||| ((y0 &&& (127 : Int32)) <<< ((0 : Int32) &&& 31)))), .val (.int (7 : Int32)), .val (.int (p1 + (1 : Int32))), .val (.int y0)] [(.int y0)])) _
    refine XS.sipush X0.here hx rfl (hb hby d2_31) ?_
    show Steps p.tables e below (T0.setTop (mkF m 34 #[.val (.ref a0'), .val (.int p1), .val (.int ((0 : Int32) ||| ((y0 &&& (127 : Int32)) <<< ((0 : Int32) &&& 31)))), .val (.int (7 : Int32)), .val (.int (p1 + (1 : Int32))), .val (.int y0)] [(.int (128 : Int32)), (.int y0)])) _
    refine XS.iand X0.here hx rfl (hb hby d2_34) rfl ?_
    exact kt
  by_cases hc35_1 : (y0 &&& (128 : Int32)) = (0 : Int32)
  · replace hr := hr.trans (if_pos hc35_1)
    refine own_step (T' := T0) (f' := (mkF m 38 #[.val (.ref a0'), .val (.int p1), .val (.int ((0 : Int32) ||| ((y0 &&& (127 : Int32)) <<< ((0 : Int32) &&& 31)))), .val (.int (7 : Int32)), .val (.int (p1 + (1 : Int32))), .val (.int y0)] [])) (fun t kt => ?_) ?_
    · show Steps p.tables e below (T0.setTop (mkF m 35 #[.val (.ref a0'), .val (.int p1), .val (.int ((0 : Int32) ||| ((y0 &&& (127 : Int32)) <<< ((0 : Int32) &&& 31)))), .val (.int (7 : Int32)), .val (.int (p1 + (1 : Int32))), .val (.int y0)] [(.int (y0 &&& (128 : Int32)))])) _
      refine XS.ifNo X0.here hx rfl (hb hby d2_35) rfl ((if0 _ _).trans (teq hc35_1).2) kt
    refine own_step (T' := T0) (f' := (mkF m 39 #[.val (.ref a0'), .val (.int p1), .val (.int ((0 : Int32) ||| ((y0 &&& (127 : Int32)) <<< ((0 : Int32) &&& 31)))), .val (.int (7 : Int32)), .val (.int (p1 + (1 : Int32))), .val (.int y0)] [(.int ((0 : Int32) ||| ((y0 &&& (127 : Int32)) <<< ((0 : Int32) &&& 31))))])) (fun t kt => ?_) ?_
    · show Steps p.tables e below (T0.setTop (mkF m 38 #[.val (.ref a0'), .val (.int p1), .val (.int ((0 : Int32) ||| ((y0 &&& (127 : Int32)) <<< ((0 : Int32) &&& 31)))), .val (.int (7 : Int32)), .val (.int (p1 + (1 : Int32))), .val (.int y0)] [])) _
      refine XS.iloadN X0.here hx rfl (hb hby d2_38) rfl ?_
      exact kt
    exact own_retI X0 hx hret hlk (hb hby d2_39) (Nat.le_refl _) (Nat.le_refl _) ⟨congrArg (fun z => some (Value.int z)) hr.symm, N0, e0⟩
  · replace hr := hr.trans (if_neg hc35_1)
    refine own_step (T' := T0) (f' := (mkF m 7 #[.val (.ref a0'), .val (.int p1), .val (.int ((0 : Int32) ||| ((y0 &&& (127 : Int32)) <<< ((0 : Int32) &&& 31)))), .val (.int (7 : Int32)), .val (.int (p1 + (1 : Int32))), .val (.int y0)] [])) (fun t kt => ?_) ?_
    · show Steps p.tables e below (T0.setTop (mkF m 35 #[.val (.ref a0'), .val (.int p1), .val (.int ((0 : Int32) ||| ((y0 &&& (127 : Int32)) <<< ((0 : Int32) &&& 31)))), .val (.int (7 : Int32)), .val (.int (p1 + (1 : Int32))), .val (.int y0)] [(.int (y0 &&& (128 : Int32)))])) _
      refine XS.ifYes X0.here hx rfl (pc0 := 35) (pc' := 7) rfl (hb hby d2_35) rfl ((if0 _ _).trans (feq hc35_1).2) (by decide) (by decide) kt
    refine own_step (T' := T0) (f' := (mkF m 35 #[.val (.ref a0'), .val (.int p1), .val (.int (((0 : Int32) ||| ((y0 &&& (127 : Int32)) <<< ((0 : Int32) &&& 31))) ||| ((y1 &&& (127 : Int32)) <<< ((7 : Int32) &&& 31)))), .val (.int (14 : Int32)), .val (.int ((p1 + (1 : Int32)) + (1 : Int32))), .val (.int y1)] [(.int (y1 &&& (128 : Int32)))])) (fun t kt => ?_) ?_
    · show Steps p.tables e below (T0.setTop (mkF m 7 #[.val (.ref a0'), .val (.int p1), .val (.int ((0 : Int32) ||| ((y0 &&& (127 : Int32)) <<< ((0 : Int32) &&& 31)))), .val (.int (7 : Int32)), .val (.int (p1 + (1 : Int32))), .val (.int y0)] [])) _
      refine XS.aloadN X0.here hx rfl (hb hby d2_7) rfl rfl ?_
      show Steps p.tables e below (T0.setTop (mkF m 8 #[.val (.ref a0'), .val (.int p1), .val (.int ((0 : Int32) ||| ((y0 &&& (127 : Int32)) <<< ((0 : Int32) &&& 31)))), .val (.int (7 : Int32)), .val (.int (p1 + (1 : Int32))), .val (.int y0)] [(.ref a0')])) _
      refine XS.iload X0.here hx rfl (hb hby d2_8) rfl ?_
      show Steps p.tables e below (T0.setTop (mkF m 10 #[.val (.ref a0'), .val (.int p1), .val (.int ((0 : Int32) ||| ((y0 &&& (127 : Int32)) <<< ((0 : Int32) &&& 31)))), .val (.int (7 : Int32)), .val (.int (p1 + (1 : Int32))), .val (.int y0)] [(.int (p1 + (1 : Int32))), (.ref a0')])) _
      refine XS.iinc X0.here hx rfl (hb hby d2_10) rfl (l' := #[.val (.ref a0'), .val (.int p1), .val (.int ((0 : Int32) ||| ((y0 &&& (127 : Int32)) <<< ((0 : Int32) &&& 31)))), .val (.int (7 : Int32)), .val (.int ((p1 + (1 : Int32)) + (1 : Int32))), .val (.int y0)]) rfl ?_
      show Steps p.tables e below (T0.setTop (mkF m 13 #[.val (.ref a0'), .val (.int p1), .val (.int ((0 : Int32) ||| ((y0 &&& (127 : Int32)) <<< ((0 : Int32) &&& 31)))), .val (.int (7 : Int32)), .val (.int ((p1 + (1 : Int32)) + (1 : Int32))), .val (.int y0)] [(.int (p1 + (1 : Int32))), (.ref a0')])) _
      refine own_ldB X0 hx hZ e0 A0 (j := (p1 + (1 : Int32))) (own_ix1 p1 hp4).1 (k := _) rfl (v := (.int y1)) (by rw [(own_ix1 p1 hp4).2]; exact hv1) (g := (mkF m 13 #[.val (.ref a0'), .val (.int p1), .val (.int ((0 : Int32) ||| ((y0 &&& (127 : Int32)) <<< ((0 : Int32) &&& 31)))), .val (.int (7 : Int32)), .val (.int ((p1 + (1 : Int32)) + (1 : Int32))), .val (.int y0)] [(.int (p1 + (1 : Int32))), (.ref a0')])) rfl rfl (hb hby d2_13) _ ?_
      show Steps p.tables e below (T0.setTop (mkF m 14 #[.val (.ref a0'), .val (.int p1), .val (.int ((0 : Int32) ||| ((y0 &&& (127 : Int32)) <<< ((0 : Int32) &&& 31)))), .val (.int (7 : Int32)), .val (.int ((p1 + (1 : Int32)) + (1 : Int32))), .val (.int y0)] [(.int y1)])) _
      refine XS.istore X0.here hx rfl (hb hby d2_14) rfl (l' := #[.val (.ref a0'), .val (.int p1), .val (.int ((0 : Int32) ||| ((y0 &&& (127 : Int32)) <<< ((0 : Int32) &&& 31)))), .val (.int (7 : Int32)), .val (.int ((p1 + (1 : Int32)) + (1 : Int32))), .val (.int y1)]) rfl ?_
      show Steps p.tables e below (T0.setTop (mkF m 16 #[.val (.ref a0'), .val (.int p1), .val (.int ((0 : Int32) ||| ((y0 &&& (127 : Int32)) <<< ((0 : Int32) &&& 31)))), .val (.int (7 : Int32)), .val (.int ((p1 + (1 : Int32)) + (1 : Int32))), .val (.int y1)] [])) _
      refine XS.iloadN X0.here hx rfl (hb hby d2_16) rfl ?_
      show Steps p.tables e below (T0.setTop (mkF m 17 #[.val (.ref a0'), .val (.int p1), .val (.int ((0 : Int32) ||| ((y0 &&& (127 : Int32)) <<< ((0 : Int32) &&& 31)))), .val (.int (7 : Int32)), .val (.int ((p1 + (1 : Int32)) + (1 : Int32))), .val (.int y1)] [(.int ((0 : Int32) ||| ((y0 &&& (127 : Int32)) <<< ((0 : Int32) &&& 31))))])) _
      refine XS.iload X0.here hx rfl (hb hby d2_17) rfl ?_
      show Steps p.tables e below (T0.setTop (mkF m 19 #[.val (.ref a0'), .val (.int p1), .val (.int ((0 : Int32) ||| ((y0 &&& (127 : Int32)) <<< ((0 : Int32) &&& 31)))), .val (.int (7 : Int32)), .val (.int ((p1 + (1 : Int32)) + (1 : Int32))), .val (.int y1)] [(.int y1), (.int ((0 : Int32) ||| ((y0 &&& (127 : Int32)) <<< ((0 : Int32) &&& 31))))])) _
      refine XS.bipush X0.here hx rfl (hb hby d2_19) ?_
      show Steps p.tables e below (T0.setTop (mkF m 21 #[.val (.ref a0'), .val (.int p1), .val (.int ((0 : Int32) ||| ((y0 &&& (127 : Int32)) <<< ((0 : Int32) &&& 31)))), .val (.int (7 : Int32)), .val (.int ((p1 + (1 : Int32)) + (1 : Int32))), .val (.int y1)] [(.int (127 : Int32)), (.int y1), (.int ((0 : Int32) ||| ((y0 &&& (127 : Int32)) <<< ((0 : Int32) &&& 31))))])) _
      refine XS.iand X0.here hx rfl (hb hby d2_21) rfl ?_
      show Steps p.tables e below (T0.setTop (mkF m 22 #[.val (.ref a0'), .val (.int p1), .val (.int ((0 : Int32) ||| ((y0 &&& (127 : Int32)) <<< ((0 : Int32) &&& 31)))), .val (.int (7 : Int32)), .val (.int ((p1 + (1 : Int32)) + (1 : Int32))), .val (.int y1)] [(.int (y1 &&& (127 : Int32))), (.int ((0 : Int32) ||| ((y0 &&& (127 : Int32)) <<< ((0 : Int32) &&& 31))))])) _
      refine XS.iloadN X0.here hx rfl (hb hby d2_22) rfl ?_
      show Steps p.tables e below (T0.setTop (mkF m 23 #[.val (.ref a0'), .val (.int p1), .val (.int ((0 : Int32) ||| ((y0 &&& (127 : Int32)) <<< ((0 : Int32) &&& 31)))), .val (.int (7 : Int32)), .val (.int ((p1 + (1 : Int32)) + (1 : Int32))), .val (.int y1)] [(.int (7 : Int32)), (.int (y1 &&& (127 : Int32))), (.int ((0 : Int32) ||| ((y0 &&& (127 : Int32)) <<< ((0 : Int32) &&& 31))))])) _
      refine XS.ishl X0.here hx rfl (hb hby d2_23) rfl ?_
      show Steps p.tables e below (T0.setTop (mkF m 24 #[.val (.ref a0'), .val (.int p1), .val (.int ((0 : Int32) ||| ((y0 &&& (127 : Int32)) <<< ((0 : Int32) &&& 31)))), .val (.int (7 : Int32)), .val (.int ((p1 + (1 : Int32)) + (1 : Int32))), .val (.int y1)] [(.int ((y1 &&& (127 : Int32)) <<< ((7 : Int32) &&& 31))), (.int ((0 : Int32) ||| ((y0 &&& (127 : Int32)) <<< ((0 : Int32) &&& 31))))])) _
      refine XS.ior X0.here hx rfl (hb hby d2_24) rfl ?_
      show Steps p.tables e below (T0.setTop (mkF m 25 #[.val (.ref a0'), .val (.int p1), .val (.int ((0 : Int32) ||| ((y0 &&& (127 : Int32)) <<< ((0 : Int32) &&& 31)))), .val (.int (7 : Int32)), .val (.int ((p1 + (1 : Int32)) + (1 : Int32))), .val (.int y1)] [(.int (((0 : Int32) ||| ((y0 &&& (127 : Int32)) <<< ((0 : Int32) &&& 31))) ||| ((y1 &&& (127 : Int32)) <<< ((7 : Int32) &&& 31))))])) _
      refine XS.istoreN X0.here hx rfl (hb hby d2_25) rfl (l' := #[.val (.ref a0'), .val (.int p1), .val (.int (((0 : Int32) ||| ((y0 &&& (127 : Int32)) <<< ((0 : Int32) &&& 31))) ||| ((y1 &&& (127 : Int32)) <<< ((7 : Int32) &&& 31)))), .val (.int (7 : Int32)), .val (.int ((p1 + (1 : Int32)) + (1 : Int32))), .val (.int y1)]) rfl ?_
      show Steps p.tables e below (T0.setTop (mkF m 26 #[.val (.ref a0'), .val (.int p1), .val (.int (((0 : Int32) ||| ((y0 &&& (127 : Int32)) <<< ((0 : Int32) &&& 31))) ||| ((y1 &&& (127 : Int32)) <<< ((7 : Int32) &&& 31)))), .val (.int (7 : Int32)), .val (.int ((p1 + (1 : Int32)) + (1 : Int32))), .val (.int y1)] [])) _
      refine XS.iinc X0.here hx rfl (hb hby d2_26) rfl (l' := #[.val (.ref a0'), .val (.int p1), .val (.int (((0 : Int32) ||| ((y0 &&& (127 : Int32)) <<< ((0 : Int32) &&& 31))) ||| ((y1 &&& (127 : Int32)) <<< ((7 : Int32) &&& 31)))), .val (.int (14 : Int32)), .val (.int ((p1 + (1 : Int32)) + (1 : Int32))), .val (.int y1)]) rfl ?_
      show Steps p.tables e below (T0.setTop (mkF m 29 #[.val (.ref a0'), .val (.int p1), .val (.int (((0 : Int32) ||| ((y0 &&& (127 : Int32)) <<< ((0 : Int32) &&& 31))) ||| ((y1 &&& (127 : Int32)) <<< ((7 : Int32) &&& 31)))), .val (.int (14 : Int32)), .val (.int ((p1 + (1 : Int32)) + (1 : Int32))), .val (.int y1)] [])) _
      refine XS.iload X0.here hx rfl (hb hby d2_29) rfl ?_
      show Steps p.tables e below (T0.setTop (mkF m 31 #[.val (.ref a0'), .val (.int p1), .val (.int (((0 : Int32) ||| ((y0 &&& (127 : Int32)) <<< ((0 : Int32) &&& 31))) ||| ((y1 &&& (127 : Int32)) <<< ((7 : Int32) &&& 31)))), .val (.int (14 : Int32)), .val (.int ((p1 + (1 : Int32)) + (1 : Int32))), .val (.int y1)] [(.int y1)])) _
      refine XS.sipush X0.here hx rfl (hb hby d2_31) ?_
      show Steps p.tables e below (T0.setTop (mkF m 34 #[.val (.ref a0'), .val (.int p1), .val (.int (((0 : Int32) ||| ((y0 &&& (127 : Int32)) <<< ((0 : Int32) &&& 31))) ||| ((y1 &&& (127 : Int32)) <<< ((7 : Int32) &&& 31)))), .val (.int (14 : Int32)), .val (.int ((p1 + (1 : Int32)) + (1 : Int32))), .val (.int y1)] [(.int (128 : Int32)), (.int y1)])) _
      refine XS.iand X0.here hx rfl (hb hby d2_34) rfl ?_
      exact kt
    by_cases hc35_2 : (y1 &&& (128 : Int32)) = (0 : Int32)
    · replace hr := hr.trans (if_pos hc35_2)
      refine own_step (T' := T0) (f' := (mkF m 38 #[.val (.ref a0'), .val (.int p1), .val (.int (((0 : Int32) ||| ((y0 &&& (127 : Int32)) <<< ((0 : Int32) &&& 31))) ||| ((y1 &&& (127 : Int32)) <<< ((7 : Int32) &&& 31)))), .val (.int (14 : Int32)), .val (.int ((p1 + (1 : Int32)) + (1 : Int32))), .val (.int y1)] [])) (fun t kt => ?_) ?_
      · show Steps p.tables e below (T0.setTop (mkF m 35 #[.val (.ref a0'), .val (.int p1), .val (.int (((0 : Int32) ||| ((y0 &&& (127 : Int32)) <<< ((0 : Int32) &&& 31))) ||| ((y1 &&& (127 : Int32)) <<< ((7 : Int32) &&& 31)))), .val (.int (14 : Int32)), .val (.int ((p1 + (1 : Int32)) + (1 : Int32))), .val (.int y1)] [(.int (y1 &&& (128 : Int32)))])) _
        refine XS.ifNo X0.here hx rfl (hb hby d2_35) rfl ((if0 _ _).trans (teq hc35_2).2) kt
      refine own_step (T' := T0) (f' := (mkF m 39 #[.val (.ref a0'), .val (.int p1), .val (.int (((0 : Int32) ||| ((y0 &&& (127 : Int32)) <<< ((0 : Int32) &&& 31))) ||| ((y1 &&& (127 : Int32)) <<< ((7 : Int32) &&& 31)))), .val (.int (14 : Int32)), .val (.int ((p1 + (1 : Int32)) + (1 : Int32))), .val (.int y1)] [(.int (((0 : Int32) ||| ((y0 &&& (127 : Int32)) <<< ((0 : Int32) &&& 31))) ||| ((y1 &&& (127 : Int32)) <<< ((7 : Int32) &&& 31))))])) (fun t kt => ?_) ?_
      · show Steps p.tables e below (T0.setTop (mkF m 38 #[.val (.ref a0'), .val (.int p1), .val (.int (((0 : Int32) ||| ((y0 &&& (127 : Int32)) <<< ((0 : Int32) &&& 31))) ||| ((y1 &&& (127 : Int32)) <<< ((7 : Int32) &&& 31)))), .val (.int (14 : Int32)), .val (.int ((p1 + (1 : Int32)) + (1 : Int32))), .val (.int y1)] [])) _
        refine XS.iloadN X0.here hx rfl (hb hby d2_38) rfl ?_
        exact kt
      exact own_retI X0 hx hret hlk (hb hby d2_39) (Nat.le_refl _) (Nat.le_refl _) ⟨congrArg (fun z => some (Value.int z)) hr.symm, N0, e0⟩
    · replace hr := hr.trans (if_neg hc35_2)
      refine own_step (T' := T0) (f' := (mkF m 7 #[.val (.ref a0'), .val (.int p1), .val (.int (((0 : Int32) ||| ((y0 &&& (127 : Int32)) <<< ((0 : Int32) &&& 31))) ||| ((y1 &&& (127 : Int32)) <<< ((7 : Int32) &&& 31)))), .val (.int (14 : Int32)), .val (.int ((p1 + (1 : Int32)) + (1 : Int32))), .val (.int y1)] [])) (fun t kt => ?_) ?_
      · show Steps p.tables e below (T0.setTop (mkF m 35 #[.val (.ref a0'), .val (.int p1), .val (.int (((0 : Int32) ||| ((y0 &&& (127 : Int32)) <<< ((0 : Int32) &&& 31))) ||| ((y1 &&& (127 : Int32)) <<< ((7 : Int32) &&& 31)))), .val (.int (14 : Int32)), .val (.int ((p1 + (1 : Int32)) + (1 : Int32))), .val (.int y1)] [(.int (y1 &&& (128 : Int32)))])) _
        refine XS.ifYes X0.here hx rfl (pc0 := 35) (pc' := 7) rfl (hb hby d2_35) rfl ((if0 _ _).trans (feq hc35_2).2) (by decide) (by decide) kt
      refine own_step (T' := T0) (f' := (mkF m 35 #[.val (.ref a0'), .val (.int p1), .val (.int ((((0 : Int32) ||| ((y0 &&& (127 : Int32)) <<< ((0 : Int32) &&& 31))) ||| ((y1 &&& (127 : Int32)) <<< ((7 : Int32) &&& 31))) ||| ((y2 &&& (127 : Int32)) <<< ((14 : Int32) &&& 31)))), .val (.int (21 : Int32)), .val (.int (((p1 + (1 : Int32)) + (1 : Int32)) + (1 : Int32))), .val (.int y2)] [(.int (y2 &&& (128 : Int32)))])) (fun t kt => ?_) ?_
      · show Steps p.tables e below (T0.setTop (mkF m 7 #[.val (.ref a0'), .val (.int p1), .val (.int (((0 : Int32) ||| ((y0 &&& (127 : Int32)) <<< ((0 : Int32) &&& 31))) ||| ((y1 &&& (127 : Int32)) <<< ((7 : Int32) &&& 31)))), .val (.int (14 : Int32)), .val (.int ((p1 + (1 : Int32)) + (1 : Int32))), .val (.int y1)] [])) _
        refine XS.aloadN X0.here hx rfl (hb hby d2_7) rfl rfl ?_
        show Steps p.tables e below (T0.setTop (mkF m 8 #[.val (.ref a0'), .val (.int p1), .val (.int (((0 : Int32) ||| ((y0 &&& (127 : Int32)) <<< ((0 : Int32) &&& 31))) ||| ((y1 &&& (127 : Int32)) <<< ((7 : Int32) &&& 31)))), .val (.int (14 : Int32)), .val (.int ((p1 + (1 : Int32)) + (1 : Int32))), .val (.int y1)] [(.ref a0')])) _
        refine XS.iload X0.here hx rfl (hb hby d2_8) rfl ?_
        show Steps p.tables e below (T0.setTop (mkF m 10 #[.val (.ref a0'), .val (.int p1), .val (.int (((0 : Int32) ||| ((y0 &&& (127 : Int32)) <<< ((0 : Int32) &&& 31))) ||| ((y1 &&& (127 : Int32)) <<< ((7 : Int32) &&& 31)))), .val (.int (14 : Int32)), .val (.int ((p1 + (1 : Int32)) + (1 : Int32))), .val (.int y1)] [(.int ((p1 + (1 : Int32)) + (1 : Int32))), (.ref a0')])) _
        refine XS.iinc X0.here hx rfl (hb hby d2_10) rfl (l' := #[.val (.ref a0'), .val (.int p1), .val (.int (((0 : Int32) ||| ((y0 &&& (127 : Int32)) <<< ((0 : Int32) &&& 31))) ||| ((y1 &&& (127 : Int32)) <<< ((7 : Int32) &&& 31)))), .val (.int (14 : Int32)), .val (.int (((p1 + (1 : Int32)) + (1 : Int32)) + (1 : Int32))), .val (.int y1)]) rfl ?_
        show Steps p.tables e below (T0.setTop (mkF m 13 #[.val (.ref a0'), .val (.int p1), .val (.int (((0 : Int32) ||| ((y0 &&& (127 : Int32)) <<< ((0 : Int32) &&& 31))) ||| ((y1 &&& (127 : Int32)) <<< ((7 : Int32) &&& 31)))), .val (.int (14 : Int32)), .val (.int (((p1 + (1 : Int32)) + (1 : Int32)) + (1 : Int32))), .val (.int y1)] [(.int ((p1 + (1 : Int32)) + (1 : Int32))), (.ref a0')])) _
        refine own_ldB X0 hx hZ e0 A0 (j := ((p1 + (1 : Int32)) + (1 : Int32))) (own_ix2 p1 hp4).1 (k := _) rfl (v := (.int y2)) (by rw [(own_ix2 p1 hp4).2]; exact hv2) (g := (mkF m 13 #[.val (.ref a0'), .val (.int p1), .val (.int (((0 : Int32) ||| ((y0 &&& (127 : Int32)) <<< ((0 : Int32) &&& 31))) ||| ((y1 &&& (127 : Int32)) <<< ((7 : Int32) &&& 31)))), .val (.int (14 : Int32)), .val (.int (((p1 + (1 : Int32)) + (1 : Int32)) + (1 : Int32))), .val (.int y1)] [(.int ((p1 + (1 : Int32)) + (1 : Int32))), (.ref a0')])) rfl rfl (hb hby d2_13) _ ?_
        show Steps p.tables e below (T0.setTop (mkF m 14 #[.val (.ref a0'), .val (.int p1), .val (.int (((0 : Int32) ||| ((y0 &&& (127 : Int32)) <<< ((0 : Int32) &&& 31))) ||| ((y1 &&& (127 : Int32)) <<< ((7 : Int32) &&& 31)))), .val (.int (14 : Int32)), .val (.int (((p1 + (1 : Int32)) + (1 : Int32)) + (1 : Int32))), .val (.int y1)] [(.int y2)])) _
        refine XS.istore X0.here hx rfl (hb hby d2_14) rfl (l' := #[.val (.ref a0'), .val (.int p1), .val (.int (((0 : Int32) ||| ((y0 &&& (127 : Int32)) <<< ((0 : Int32) &&& 31))) ||| ((y1 &&& (127 : Int32)) <<< ((7 : Int32) &&& 31)))), .val (.int (14 : Int32)), .val (.int (((p1 + (1 : Int32)) + (1 : Int32)) + (1 : Int32))), .val (.int y2)]) rfl ?_
        show Steps p.tables e below (T0.setTop (mkF m 16 #[.val (.ref a0'), .val (.int p1), .val (.int (((0 : Int32) ||| ((y0 &&& (127 : Int32)) <<< ((0 : Int32) &&& 31))) ||| ((y1 &&& (127 : Int32)) <<< ((7 : Int32) &&& 31)))), .val (.int (14 : Int32)), .val (.int (((p1 + (1 : Int32)) + (1 : Int32)) + (1 : Int32))), .val (.int y2)] [])) _
        refine XS.iloadN X0.here hx rfl (hb hby d2_16) rfl ?_
        show Steps p.tables e below (T0.setTop (mkF m 17 #[.val (.ref a0'), .val (.int p1), .val (.int (((0 : Int32) ||| ((y0 &&& (127 : Int32)) <<< ((0 : Int32) &&& 31))) ||| ((y1 &&& (127 : Int32)) <<< ((7 : Int32) &&& 31)))), .val (.int (14 : Int32)), .val (.int (((p1 + (1 : Int32)) + (1 : Int32)) + (1 : Int32))), .val (.int y2)] [(.int (((0 : Int32) ||| ((y0 &&& (127 : Int32)) <<< ((0 : Int32) &&& 31))) ||| ((y1 &&& (127 : Int32)) <<< ((7 : Int32) &&& 31))))])) _
        refine XS.iload X0.here hx rfl (hb hby d2_17) rfl ?_
        show Steps p.tables e below (T0.setTop (mkF m 19 #[.val (.ref a0'), .val (.int p1), .val (.int (((0 : Int32) ||| ((y0 &&& (127 : Int32)) <<< ((0 : Int32) &&& 31))) ||| ((y1 &&& (127 : Int32)) <<< ((7 : Int32) &&& 31)))), .val (.int (14 : Int32)), .val (.int (((p1 + (1 : Int32)) + (1 : Int32)) + (1 : Int32))), .val (.int y2)] [(.int y2), (.int (((0 : Int32) ||| ((y0 &&& (127 : Int32)) <<< ((0 : Int32) &&& 31))) ||| ((y1 &&& (127 : Int32)) <<< ((7 : Int32) &&& 31))))])) _
        refine XS.bipush X0.here hx rfl (hb hby d2_19) ?_
        show Steps p.tables e below (T0.setTop (mkF m 21 #[.val (.ref a0'), .val (.int p1), .val (.int (((0 : Int32) ||| ((y0 &&& (127 : Int32)) <<< ((0 : Int32) &&& 31))) ||| ((y1 &&& (127 : Int32)) <<< ((7 : Int32) &&& 31)))), .val (.int (14 : Int32)), .val (.int (((p1 + (1 : Int32)) + (1 : Int32)) + (1 : Int32))), .val (.int y2)] [(.int (127 : Int32)), (.int y2), (.int (((0 : Int32) ||| ((y0 &&& (127 : Int32)) <<< ((0 : Int32) &&& 31))) ||| ((y1 &&& (127 : Int32)) <<< ((7 : Int32) &&& 31))))])) _
        refine XS.iand X0.here hx rfl (hb hby d2_21) rfl ?_
        show Steps p.tables e below (T0.setTop (mkF m 22 #[.val (.ref a0'), .val (.int p1), .val (.int (((0 : Int32) ||| ((y0 &&& (127 : Int32)) <<< ((0 : Int32) &&& 31))) ||| ((y1 &&& (127 : Int32)) <<< ((7 : Int32) &&& 31)))), .val (.int (14 : Int32)), .val (.int (((p1 + (1 : Int32)) + (1 : Int32)) + (1 : Int32))), .val (.int y2)] [(.int (y2 &&& (127 : Int32))), (.int (((0 : Int32) ||| ((y0 &&& (127 : Int32)) <<< ((0 : Int32) &&& 31))) ||| ((y1 &&& (127 : Int32)) <<< ((7 : Int32) &&& 31))))])) _
        refine XS.iloadN X0.here hx rfl (hb hby d2_22) rfl ?_
        show Steps p.tables e below (T0.setTop (mkF m 23 #[.val (.ref a0'), .val (.int p1), .val (.int (((0 : Int32) ||| ((y0 &&& (127 : Int32)) <<< ((0 : Int32) &&& 31))) ||| ((y1 &&& (127 : Int32)) <<< ((7 : Int32) &&& 31)))), .val (.int (14 : Int32)), .val (.int (((p1 + (1 : Int32)) + (1 : Int32)) + (1 : Int32))), .val (.int y2)] [(.int (14 : Int32)), (.int (y2 &&& (127 : Int32))), (.int (((0 : Int32) ||| ((y0 &&& (127 : Int32)) <<< ((0 : Int32) &&& 31))) ||| ((y1 &&& (127 : Int32)) <<< ((7 : Int32) &&& 31))))])) _
        refine XS.ishl X0.here hx rfl (hb hby d2_23) rfl ?_
        show Steps p.tables e below (T0.setTop (mkF m 24 #[.val (.ref a0'), .val (.int p1), .val (.int (((0 : Int32) ||| ((y0 &&& (127 : Int32)) <<< ((0 : Int32) &&& 31))) ||| ((y1 &&& (127 : Int32)) <<< ((7 : Int32) &&& 31)))), .val (.int (14 : Int32)), .val (.int (((p1 + (1 : Int32)) + (1 : Int32)) + (1 : Int32))), .val (.int y2)] [(.int ((y2 &&& (127 : Int32)) <<< ((14 : Int32) &&& 31))), (.int (((0 : Int32) ||| ((y0 &&& (127 : Int32)) <<< ((0 : Int32) &&& 31))) ||| ((y1 &&& (127 : Int32)) <<< ((7 : Int32) &&& 31))))])) _
        refine XS.ior X0.here hx rfl (hb hby d2_24) rfl ?_
        show Steps p.tables e below (T0.setTop (mkF m 25 #[.val (.ref a0'), .val (.int p1), .val (.int (((0 : Int32) ||| ((y0 &&& (127 : Int32)) <<< ((0 : Int32) &&& 31))) ||| ((y1 &&& (127 : Int32)) <<< ((7 : Int32) &&& 31)))), .val (.int (14 : Int32)), .val (.int (((p1 + (1 : Int32)) + (1 : Int32)) + (1 : Int32))), .val (.int y2)] [(.int ((((0 : Int32) ||| ((y0 &&& (127 : Int32)) <<< ((0 : Int32) &&& 31))) ||| ((y1 &&& (127 : Int32)) <<< ((7 : Int32) &&& 31))) ||| ((y2 &&& (127 : Int32)) <<< ((14 : Int32) &&& 31))))])) _
        refine XS.istoreN X0.here hx rfl (hb hby d2_25) rfl (l' := #[.val (.ref a0'), .val (.int p1), .val (.int ((((0 : Int32) ||| ((y0 &&& (127 : Int32)) <<< ((0 : Int32) &&& 31))) ||| ((y1 &&& (127 : Int32)) <<< ((7 : Int32) &&& 31))) ||| ((y2 &&& (127 : Int32)) <<< ((14 : Int32) &&& 31)))), .val (.int (14 : Int32)), .val (.int (((p1 + (1 : Int32)) + (1 : Int32)) + (1 : Int32))), .val (.int y2)]) rfl ?_
        show Steps p.tables e below (T0.setTop (mkF m 26 #[.val (.ref a0'), .val (.int p1), .val (.int ((((0 : Int32) ||| ((y0 &&& (127 : Int32)) <<< ((0 : Int32) &&& 31))) ||| ((y1 &&& (127 : Int32)) <<< ((7 : Int32) &&& 31))) ||| ((y2 &&& (127 : Int32)) <<< ((14 : Int32) &&& 31)))), .val (.int (14 : Int32)), .val (.int (((p1 + (1 : Int32)) + (1 : Int32)) + (1 : Int32))), .val (.int y2)] [])) _
        refine XS.iinc X0.here hx rfl (hb hby d2_26) rfl (l' := #[.val (.ref a0'), .val (.int p1), .val (.int ((((0 : Int32) ||| ((y0 &&& (127 : Int32)) <<< ((0 : Int32) &&& 31))) ||| ((y1 &&& (127 : Int32)) <<< ((7 : Int32) &&& 31))) ||| ((y2 &&& (127 : Int32)) <<< ((14 : Int32) &&& 31)))), .val (.int (21 : Int32)), .val (.int (((p1 + (1 : Int32)) + (1 : Int32)) + (1 : Int32))), .val (.int y2)]) rfl ?_
        show Steps p.tables e below (T0.setTop (mkF m 29 #[.val (.ref a0'), .val (.int p1), .val (.int ((((0 : Int32) ||| ((y0 &&& (127 : Int32)) <<< ((0 : Int32) &&& 31))) ||| ((y1 &&& (127 : Int32)) <<< ((7 : Int32) &&& 31))) ||| ((y2 &&& (127 : Int32)) <<< ((14 : Int32) &&& 31)))), .val (.int (21 : Int32)), .val (.int (((p1 + (1 : Int32)) + (1 : Int32)) + (1 : Int32))), .val (.int y2)] [])) _
        refine XS.iload X0.here hx rfl (hb hby d2_29) rfl ?_
        show Steps p.tables e below (T0.setTop (mkF m 31 #[.val (.ref a0'), .val (.int p1), .val (.int ((((0 : Int32) ||| ((y0 &&& (127 : Int32)) <<< ((0 : Int32) &&& 31))) ||| ((y1 &&& (127 : Int32)) <<< ((7 : Int32) &&& 31))) ||| ((y2 &&& (127 : Int32)) <<< ((14 : Int32) &&& 31)))), .val (.int (21 : Int32)), .val (.int (((p1 + (1 : Int32)) + (1 : Int32)) + (1 : Int32))), .val (.int y2)] [(.int y2)])) _
        refine XS.sipush X0.here hx rfl (hb hby d2_31) ?_
        show Steps p.tables e below (T0.setTop (mkF m 34 #[.val (.ref a0'), .val (.int p1), .val (.int ((((0 : Int32) ||| ((y0 &&& (127 : Int32)) <<< ((0 : Int32) &&& 31))) ||| ((y1 &&& (127 : Int32)) <<< ((7 : Int32) &&& 31))) ||| ((y2 &&& (127 : Int32)) <<< ((14 : Int32) &&& 31)))), .val (.int (21 : Int32)), .val (.int (((p1 + (1 : Int32)) + (1 : Int32)) + (1 : Int32))), .val (.int y2)] [(.int (128 : Int32)), (.int y2)])) _
        refine XS.iand X0.here hx rfl (hb hby d2_34) rfl ?_
        exact kt
      by_cases hc35_3 : (y2 &&& (128 : Int32)) = (0 : Int32)
      · replace hr := hr.trans (if_pos hc35_3)
        refine own_step (T' := T0) (f' := (mkF m 38 #[.val (.ref a0'), .val (.int p1), .val (.int ((((0 : Int32) ||| ((y0 &&& (127 : Int32)) <<< ((0 : Int32) &&& 31))) ||| ((y1 &&& (127 : Int32)) <<< ((7 : Int32) &&& 31))) ||| ((y2 &&& (127 : Int32)) <<< ((14 : Int32) &&& 31)))), .val (.int (21 : Int32)), .val (.int (((p1 + (1 : Int32)) + (1 : Int32)) + (1 : Int32))), .val (.int y2)] [])) (fun t kt => ?_) ?_
        · show Steps p.tables e below (T0.setTop (mkF m 35 #[.val (.ref a0'), .val (.int p1), .val (.int ((((0 : Int32) ||| ((y0 &&& (127 : Int32)) <<< ((0 : Int32) &&& 31))) ||| ((y1 &&& (127 : Int32)) <<< ((7 : Int32) &&& 31))) ||| ((y2 &&& (127 : Int32)) <<< ((14 : Int32) &&& 31)))), .val (.int (21 : Int32)), .val (.int (((p1 + (1 : Int32)) + (1 : Int32)) + (1 : Int32))), .val (.int y2)] [(.int (y2 &&& (128 : Int32)))])) _
          refine XS.ifNo X0.here hx rfl (hb hby d2_35) rfl ((if0 _ _).trans (teq hc35_3).2) kt
        refine own_step (T' := T0) (f' := (mkF m 39 #[.val (.ref a0'), .val (.int p1), .val (.int ((((0 : Int32) ||| ((y0 &&& (127 : Int32)) <<< ((0 : Int32) &&& 31))) ||| ((y1 &&& (127 : Int32)) <<< ((7 : Int32) &&& 31))) ||| ((y2 &&& (127 : Int32)) <<< ((14 : Int32) &&& 31)))), .val (.int (21 : Int32)), .val (.int (((p1 + (1 : Int32)) + (1 : Int32)) + (1 : Int32))), .val (.int y2)] [(.int ((((0 : Int32) ||| ((y0 &&& (127 : Int32)) <<< ((0 : Int32) &&& 31))) ||| ((y1 &&& (127 : Int32)) <<< ((7 : Int32) &&& 31))) ||| ((y2 &&& (127 : Int32)) <<< ((14 : Int32) &&& 31))))])) (fun t kt => ?_) ?_
        · show Steps p.tables e below (T0.setTop (mkF m 38 #[.val (.ref a0'), .val (.int p1), .val (.int ((((0 : Int32) ||| ((y0 &&& (127 : Int32)) <<< ((0 : Int32) &&& 31))) ||| ((y1 &&& (127 : Int32)) <<< ((7 : Int32) &&& 31))) ||| ((y2 &&& (127 : Int32)) <<< ((14 : Int32) &&& 31)))), .val (.int (21 : Int32)), .val (.int (((p1 + (1 : Int32)) + (1 : Int32)) + (1 : Int32))), .val (.int y2)] [])) _
          refine XS.iloadN X0.here hx rfl (hb hby d2_38) rfl ?_
          exact kt
        exact own_retI X0 hx hret hlk (hb hby d2_39) (Nat.le_refl _) (Nat.le_refl _) ⟨congrArg (fun z => some (Value.int z)) hr.symm, N0, e0⟩
      · replace hr := hr.trans (if_neg hc35_3)
        refine own_step (T' := T0) (f' := (mkF m 7 #[.val (.ref a0'), .val (.int p1), .val (.int ((((0 : Int32) ||| ((y0 &&& (127 : Int32)) <<< ((0 : Int32) &&& 31))) ||| ((y1 &&& (127 : Int32)) <<< ((7 : Int32) &&& 31))) ||| ((y2 &&& (127 : Int32)) <<< ((14 : Int32) &&& 31)))), .val (.int (21 : Int32)), .val (.int (((p1 + (1 : Int32)) + (1 : Int32)) + (1 : Int32))), .val (.int y2)] [])) (fun t kt => ?_) ?_
        · show Steps p.tables e below (T0.setTop (mkF m 35 #[.val (.ref a0'), .val (.int p1), .val (.int ((((0 : Int32) ||| ((y0 &&& (127 : Int32)) <<< ((0 : Int32) &&& 31))) ||| ((y1 &&& (127 : Int32)) <<< ((7 : Int32) &&& 31))) ||| ((y2 &&& (127 : Int32)) <<< ((14 : Int32) &&& 31)))), .val (.int (21 : Int32)), .val (.int (((p1 + (1 : Int32)) + (1 : Int32)) + (1 : Int32))), .val (.int y2)] [(.int (y2 &&& (128 : Int32)))])) _
          refine XS.ifYes X0.here hx rfl (pc0 := 35) (pc' := 7) rfl (hb hby d2_35) rfl ((if0 _ _).trans (feq hc35_3).2) (by decide) (by decide) kt
        refine own_step (T' := T0) (f' := (mkF m 35 #[.val (.ref a0'), .val (.int p1), .val (.int (((((0 : Int32) ||| ((y0 &&& (127 : Int32)) <<< ((0 : Int32) &&& 31))) ||| ((y1 &&& (127 : Int32)) <<< ((7 : Int32) &&& 31))) ||| ((y2 &&& (127 : Int32)) <<< ((14 : Int32) &&& 31))) ||| ((y3 &&& (127 : Int32)) <<< ((21 : Int32) &&& 31)))), .val (.int (28 : Int32)), .val (.int ((((p1 + (1 : Int32)) + (1 : Int32)) + (1 : Int32)) + (1 : Int32))), .val (.int y3)] [(.int (y3 &&& (128 : Int32)))])) (fun t kt => ?_) ?_
        · show Steps p.tables e below (T0.setTop (mkF m 7 #[.val (.ref a0'), .val (.int p1), .val (.int ((((0 : Int32) ||| ((y0 &&& (127 : Int32)) <<< ((0 : Int32) &&& 31))) ||| ((y1 &&& (127 : Int32)) <<< ((7 : Int32) &&& 31))) ||| ((y2 &&& (127 : Int32)) <<< ((14 : Int32) &&& 31)))), .val (.int (21 : Int32)), .val (.int (((p1 + (1 : Int32)) + (1 : Int32)) + (1 : Int32))), .val (.int y2)] [])) _
          refine XS.aloadN X0.here hx rfl (hb hby d2_7) rfl rfl ?_
          show Steps p.tables e below (T0.setTop (mkF m 8 #[.val (.ref a0'), .val (.int p1), .val (.int ((((0 : Int32) ||| ((y0 &&& (127 : Int32)) <<< ((0 : Int32) &&& 31))) ||| ((y1 &&& (127 : Int32)) <<< ((7 : Int32) &&& 31))) ||| ((y2 &&& (127 : Int32)) <<< ((14 : Int32) &&& 31)))), .val (.int (21 : Int32)), .val (.int (((p1 + (1 : Int32)) + (1 : Int32)) + (1 : Int32))), .val (.int y2)] [(.ref a0')])) _
          refine XS.iload X0.here hx rfl (hb hby d2_8) rfl ?_
          show Steps p.tables e below (T0.setTop (mkF m 10 #[.val (.ref a0'), .val (.int p1), .val (.int ((((0 : Int32) ||| ((y0 &&& (127 : Int32)) <<< ((0 : Int32) &&& 31))) ||| ((y1 &&& (127 : Int32)) <<< ((7 : Int32) &&& 31))) ||| ((y2 &&& (127 : Int32)) <<< ((14 : Int32) &&& 31)))), .val (.int (21 : Int32)), .val (.int (((p1 + (1 : Int32)) + (1 : Int32)) + (1 : Int32))), .val (.int y2)] [(.int (((p1 + (1 : Int32)) + (1 : Int32)) + (1 : Int32))), (.ref a0')])) _
          refine XS.iinc X0.here hx rfl (hb hby d2_10) rfl (l' := #[.val (.ref a0'), .val (.int p1), .val (.int ((((0 : Int32) ||| ((y0 &&& (127 : Int32)) <<< ((0 : Int32) &&& 31))) ||| ((y1 &&& (127 : Int32)) <<< ((7 : Int32) &&& 31))) ||| ((y2 &&& (127 : Int32)) <<< ((14 : Int32) &&& 31)))), .val (.int (21 : Int32)), .val (.int ((((p1 + (1 : Int32)) + (1 : Int32)) + (1 : Int32)) + (1 : Int32))), .val (.int y2)]) rfl ?_
          show Steps p.tables e below (T0.setTop (mkF m 13 #[.val (.ref a0'), .val (.int p1), .val (.int ((((0 : Int32) ||| ((y0 &&& (127 : Int32)) <<< ((0 : Int32) &&& 31))) ||| ((y1 &&& (127 : Int32)) <<< ((7 : Int32) &&& 31))) ||| ((y2 &&& (127 : Int32)) <<< ((14 : Int32) &&& 31)))), .val (.int (21 : Int32)), .val (.int ((((p1 + (1 : Int32)) + (1 : Int32)) + (1 : Int32)) + (1 : Int32))), .val (.int y2)] [(.int (((p1 + (1 : Int32)) + (1 : Int32)) + (1 : Int32))), (.ref a0')])) _
          refine own_ldB X0 hx hZ e0 A0 (j := (((p1 + (1 : Int32)) + (1 : Int32)) + (1 : Int32))) (own_ix3 p1 hp4).1 (k := _) rfl (v := (.int y3)) (by rw [(own_ix3 p1 hp4).2]; exact hv3) (g := (mkF m 13 #[.val (.ref a0'), .val (.int p1), .val (.int ((((0 : Int32) ||| ((y0 &&& (127 : Int32)) <<< ((0 : Int32) &&& 31))) ||| ((y1 &&& (127 : Int32)) <<< ((7 : Int32) &&& 31))) ||| ((y2 &&& (127 : Int32)) <<< ((14 : Int32) &&& 31)))), .val (.int (21 : Int32)), .val (.int ((((p1 + (1 : Int32)) + (1 : Int32)) + (1 : Int32)) + (1 : Int32))), .val (.int y2)] [(.int (((p1 + (1 : Int32)) + (1 : Int32)) + (1 : Int32))), (.ref a0')])) rfl rfl (hb hby d2_13) _ ?_
          show Steps p.tables e below (T0.setTop (mkF m 14 #[.val (.ref a0'), .val (.int p1), .val (.int ((((0 : Int32) ||| ((y0 &&& (127 : Int32)) <<< ((0 : Int32) &&& 31))) ||| ((y1 &&& (127 : Int32)) <<< ((7 : Int32) &&& 31))) ||| ((y2 &&& (127 : Int32)) <<< ((14 : Int32) &&& 31)))), .val (.int (21 : Int32)), .val (.int ((((p1 + (1 : Int32)) + (1 : Int32)) + (1 : Int32)) + (1 : Int32))), .val (.int y2)] [(.int y3)])) _
          refine XS.istore X0.here hx rfl (hb hby d2_14) rfl (l' := #[.val (.ref a0'), .val (.int p1), .val (.int ((((0 : Int32) ||| ((y0 &&& (127 : Int32)) <<< ((0 : Int32) &&& 31))) ||| ((y1 &&& (127 : Int32)) <<< ((7 : Int32) &&& 31))) ||| ((y2 &&& (127 : Int32)) <<< ((14 : Int32) &&& 31)))), .val (.int (21 : Int32)), .val (.int ((((p1 + (1 : Int32)) + (1 : Int32)) + (1 : Int32)) + (1 : Int32))), .val (.int y3)]) rfl ?_
          show Steps p.tables e below (T0.setTop (mkF m 16 #[.val (.ref a0'), .val (.int p1), .val (.int ((((0 : Int32) ||| ((y0 &&& (127 : Int32)) <<< ((0 : Int32) &&& 31))) ||| ((y1 &&& (127 : Int32)) <<< ((7 : Int32) &&& 31))) ||| ((y2 &&& (127 : Int32)) <<< ((14 : Int32) &&& 31)))), .val (.int (21 : Int32)), .val (.int ((((p1 + (1 : Int32)) + (1 : Int32)) + (1 : Int32)) + (1 : Int32))), .val (.int y3)] [])) _
          refine XS.iloadN X0.here hx rfl (hb hby d2_16) rfl ?_
          show Steps p.tables e below (T0.setTop (mkF m 17 #[.val (.ref a0'), .val (.int p1), .val (.int ((((0 : Int32) ||| ((y0 &&& (127 : Int32)) <<< ((0 : Int32) &&& 31))) ||| ((y1 &&& (127 : Int32)) <<< ((7 : Int32) &&& 31))) ||| ((y2 &&& (127 : Int32)) <<< ((14 : Int32) &&& 31)))), .val (.int (21 : Int32)), .val (.int ((((p1 + (1 : Int32)) + (1 : Int32)) + (1 : Int32)) + (1 : Int32))), .val (.int y3)] [(.int ((((0 : Int32) ||| ((y0 &&& (127 : Int32)) <<< ((0 : Int32) &&& 31))) ||| ((y1 &&& (127 : Int32)) <<< ((7 : Int32) &&& 31))) ||| ((y2 &&& (127 : Int32)) <<< ((14 : Int32) &&& 31))))])) _
          refine XS.iload X0.here hx rfl (hb hby d2_17) rfl ?_
          show Steps p.tables e below (T0.setTop (mkF m 19 #[.val (.ref a0'), .val (.int p1), .val (.int ((((0 : Int32) ||| ((y0 &&& (127 : Int32)) <<< ((0 : Int32) &&& 31))) ||| ((y1 &&& (127 : Int32)) <<< ((7 : Int32) &&& 31))) ||| ((y2 &&& (127 : Int32)) <<< ((14 : Int32) &&& 31)))), .val (.int (21 : Int32)), .val (.int ((((p1 + (1 : Int32)) + (1 : Int32)) + (1 : Int32)) + (1 : Int32))), .val (.int y3)] [(.int y3), (.int ((((0 : Int32) ||| ((y0 &&& (127 : Int32)) <<< ((0 : Int32) &&& 31))) ||| ((y1 &&& (127 : Int32)) <<< ((7 : Int32) &&& 31))) ||| ((y2 &&& (127 : Int32)) <<< ((14 : Int32) &&& 31))))])) _
          refine XS.bipush X0.here hx rfl (hb hby d2_19) ?_
          show Steps p.tables e below (T0.setTop (mkF m 21 #[.val (.ref a0'), .val (.int p1), .val (.int ((((0 : Int32) ||| ((y0 &&& (127 : Int32)) <<< ((0 : Int32) &&& 31))) ||| ((y1 &&& (127 : Int32)) <<< ((7 : Int32) &&& 31))) ||| ((y2 &&& (127 : Int32)) <<< ((14 : Int32) &&& 31)))), .val (.int (21 : Int32)), .val (.int ((((p1 + (1 : Int32)) + (1 : Int32)) + (1 : Int32)) + (1 : Int32))), .val (.int y3)] [(.int (127 : Int32)), (.int y3), (.int ((((0 : Int32) ||| ((y0 &&& (127 : Int32)) <<< ((0 : Int32) &&& 31))) ||| ((y1 &&& (127 : Int32)) <<< ((7 : Int32) &&& 31))) ||| ((y2 &&& (127 : Int32)) <<< ((14 : Int32) &&& 31))))])) _
          refine XS.iand X0.here hx rfl (hb hby d2_21) rfl ?_
          show Steps p.tables e below (T0.setTop (mkF m 22 #[.val (.ref a0'), .val (.int p1), .val (.int ((((0 : Int32) ||| ((y0 &&& (127 : Int32)) <<< ((0 : Int32) &&& 31))) ||| ((y1 &&& (127 : Int32)) <<< ((7 : Int32) &&& 31))) ||| ((y2 &&& (127 : Int32)) <<< ((14 : Int32) &&& 31)))), .val (.int (21 : Int32)), .val (.int ((((p1 + (1 : Int32)) + (1 : Int32)) + (1 : Int32)) + (1 : Int32))), .val (.int y3)] [(.int (y3 &&& (127 : Int32))), (.int ((((0 : Int32) ||| ((y0 &&& (127 : Int32)) <<< ((0 : Int32) &&& 31))) ||| ((y1 &&& (127 : Int32)) <<< ((7 : Int32) &&& 31))) ||| ((y2 &&& (127 : Int32)) <<< ((14 : Int32) &&& 31))))])) _
          refine XS.iloadN X0.here hx rfl (hb hby d2_22) rfl ?_
          show Steps p.tables e below (T0.setTop (mkF m 23 #[.val (.ref a0'), .val (.int p1), .val (.int ((((0 : Int32) ||| ((y0 &&& (127 : Int32)) <<< ((0 : Int32) &&& 31))) ||| ((y1 &&& (127 : Int32)) <<< ((7 : Int32) &&& 31))) ||| ((y2 &&& (127 : Int32)) <<< ((14 : Int32) &&& 31)))), .val (.int (21 : Int32)), .val (.int ((((p1 + (1 : Int32)) + (1 : Int32)) + (1 : Int32)) + (1 : Int32))), .val (.int y3)] [(.int (21 : Int32)), (.int (y3 &&& (127 : Int32))), (.int ((((0 : Int32) ||| ((y0 &&& (127 : Int32)) <<< ((0 : Int32) &&& 31))) ||| ((y1 &&& (127 : Int32)) <<< ((7 : Int32) &&& 31))) ||| ((y2 &&& (127 : Int32)) <<< ((14 : Int32) &&& 31))))])) _
          refine XS.ishl X0.here hx rfl (hb hby d2_23) rfl ?_
          show Steps p.tables e below (T0.setTop (mkF m 24 #[.val (.ref a0'), .val (.int p1), .val (.int ((((0 : Int32) ||| ((y0 &&& (127 : Int32)) <<< ((0 : Int32) &&& 31))) ||| ((y1 &&& (127 : Int32)) <<< ((7 : Int32) &&& 31))) ||| ((y2 &&& (127 : Int32)) <<< ((14 : Int32) &&& 31)))), .val (.int (21 : Int32)), .val (.int ((((p1 + (1 : Int32)) + (1 : Int32)) + (1 : Int32)) + (1 : Int32))), .val (.int y3)] [(.int ((y3 &&& (127 : Int32)) <<< ((21 : Int32) &&& 31))), (.int ((((0 : Int32) ||| ((y0 &&& (127 : Int32)) <<< ((0 : Int32) &&& 31))) ||| ((y1 &&& (127 : Int32)) <<< ((7 : Int32) &&& 31))) ||| ((y2 &&& (127 : Int32)) <<< ((14 : Int32) &&& 31))))])) _
          refine XS.ior X0.here hx rfl (hb hby d2_24) rfl ?_
          show Steps p.tables e below (T0.setTop (mkF m 25 #[.val (.ref a0'), .val (.int p1), .val (.int ((((0 : Int32) ||| ((y0 &&& (127 : Int32)) <<< ((0 : Int32) &&& 31))) ||| ((y1 &&& (127 : Int32)) <<< ((7 : Int32) &&& 31))) ||| ((y2 &&& (127 : Int32)) <<< ((14 : Int32) &&& 31)))), .val (.int (21 : Int32)), .val (.int ((((p1 + (1 : Int32)) + (1 : Int32)) + (1 : Int32)) + (1 : Int32))), .val (.int y3)] [(.int (((((0 : Int32) ||| ((y0 &&& (127 : Int32)) <<< ((0 : Int32) &&& 31))) ||| ((y1 &&& (127 : Int32)) <<< ((7 : Int32) &&& 31))) ||| ((y2 &&& (127 : Int32)) <<< ((14 : Int32) &&& 31))) ||| ((y3 &&& (127 : Int32)) <<< ((21 : Int32) &&& 31))))])) _
          refine XS.istoreN X0.here hx rfl (hb hby d2_25) rfl (l' := #[.val (.ref a0'), .val (.int p1), .val (.int (((((0 : Int32) ||| ((y0 &&& (127 : Int32)) <<< ((0 : Int32) &&& 31))) ||| ((y1 &&& (127 : Int32)) <<< ((7 : Int32) &&& 31))) ||| ((y2 &&& (127 : Int32)) <<< ((14 : Int32) &&& 31))) ||| ((y3 &&& (127 : Int32)) <<< ((21 : Int32) &&& 31)))), .val (.int (21 : Int32)), .val (.int ((((p1 + (1 : Int32)) + (1 : Int32)) + (1 : Int32)) + (1 : Int32))), .val (.int y3)]) rfl ?_
          show Steps p.tables e below (T0.setTop (mkF m 26 #[.val (.ref a0'), .val (.int p1), .val (.int (((((0 : Int32) ||| ((y0 &&& (127 : Int32)) <<< ((0 : Int32) &&& 31))) ||| ((y1 &&& (127 : Int32)) <<< ((7 : Int32) &&& 31))) ||| ((y2 &&& (127 : Int32)) <<< ((14 : Int32) &&& 31))) ||| ((y3 &&& (127 : Int32)) <<< ((21 : Int32) &&& 31)))), .val (.int (21 : Int32)), .val (.int ((((p1 + (1 : Int32)) + (1 : Int32)) + (1 : Int32)) + (1 : Int32))), .val (.int y3)] [])) _
          refine XS.iinc X0.here hx rfl (hb hby d2_26) rfl (l' := #[.val (.ref a0'), .val (.int p1), .val (.int (((((0 : Int32) ||| ((y0 &&& (127 : Int32)) <<< ((0 : Int32) &&& 31))) ||| ((y1 &&& (127 : Int32)) <<< ((7 : Int32) &&& 31))) ||| ((y2 &&& (127 : Int32)) <<< ((14 : Int32) &&& 31))) ||| ((y3 &&& (127 : Int32)) <<< ((21 : Int32) &&& 31)))), .val (.int (28 : Int32)), .val (.int ((((p1 + (1 : Int32)) + (1 : Int32)) + (1 : Int32)) + (1 : Int32))), .val (.int y3)]) rfl ?_
          show Steps p.tables e below (T0.setTop (mkF m 29 #[.val (.ref a0'), .val (.int p1), .val (.int (((((0 : Int32) ||| ((y0 &&& (127 : Int32)) <<< ((0 : Int32) &&& 31))) ||| ((y1 &&& (127 : Int32)) <<< ((7 : Int32) &&& 31))) ||| ((y2 &&& (127 : Int32)) <<< ((14 : Int32) &&& 31))) ||| ((y3 &&& (127 : Int32)) <<< ((21 : Int32) &&& 31)))), .val (.int (28 : Int32)), .val (.int ((((p1 + (1 : Int32)) + (1 : Int32)) + (1 : Int32)) + (1 : Int32))), .val (.int y3)] [])) _
          refine XS.iload X0.here hx rfl (hb hby d2_29) rfl ?_
          show Steps p.tables e below (T0.setTop (mkF m 31 #[.val (.ref a0'), .val (.int p1), .val (.int (((((0 : Int32) ||| ((y0 &&& (127 : Int32)) <<< ((0 : Int32) &&& 31))) ||| ((y1 &&& (127 : Int32)) <<< ((7 : Int32) &&& 31))) ||| ((y2 &&& (127 : Int32)) <<< ((14 : Int32) &&& 31))) ||| ((y3 &&& (127 : Int32)) <<< ((21 : Int32) &&& 31)))), .val (.int (28 : Int32)), .val (.int ((((p1 + (1 : Int32)) + (1 : Int32)) + (1 : Int32)) + (1 : Int32))), .val (.int y3)] [(.int y3)])) _
          refine XS.sipush X0.here hx rfl (hb hby d2_31) ?_
          show Steps p.tables e below (T0.setTop (mkF m 34 #[.val (.ref a0'), .val (.int p1), .val (.int (((((0 : Int32) ||| ((y0 &&& (127 : Int32)) <<< ((0 : Int32) &&& 31))) ||| ((y1 &&& (127 : Int32)) <<< ((7 : Int32) &&& 31))) ||| ((y2 &&& (127 : Int32)) <<< ((14 : Int32) &&& 31))) ||| ((y3 &&& (127 : Int32)) <<< ((21 : Int32) &&& 31)))), .val (.int (28 : Int32)), .val (.int ((((p1 + (1 : Int32)) + (1 : Int32)) + (1 : Int32)) + (1 : Int32))), .val (.int y3)] [(.int (128 : Int32)), (.int y3)])) _
          refine XS.iand X0.here hx rfl (hb hby d2_34) rfl ?_
          exact kt
        by_cases hc35_4 : (y3 &&& (128 : Int32)) = (0 : Int32)
        · replace hr := hr.trans (if_pos hc35_4)
          refine own_step (T' := T0) (f' := (mkF m 38 #[.val (.ref a0'), .val (.int p1), .val (.int (((((0 : Int32) ||| ((y0 &&& (127 : Int32)) <<< ((0 : Int32) &&& 31))) ||| ((y1 &&& (127 : Int32)) <<< ((7 : Int32) &&& 31))) ||| ((y2 &&& (127 : Int32)) <<< ((14 : Int32) &&& 31))) ||| ((y3 &&& (127 : Int32)) <<< ((21 : Int32) &&& 31)))), .val (.int (28 : Int32)), .val (.int ((((p1 + (1 : Int32)) + (1 : Int32)) + (1 : Int32)) + (1 : Int32))), .val (.int y3)] [])) (fun t kt => ?_) ?_
          · show Steps p.tables e below (T0.setTop (mkF m 35 #[.val (.ref a0'), .val (.int p1), .val (.int (((((0 : Int32) ||| ((y0 &&& (127 : Int32)) <<< ((0 : Int32) &&& 31))) ||| ((y1 &&& (127 : Int32)) <<< ((7 : Int32) &&& 31))) ||| ((y2 &&& (127 : Int32)) <<< ((14 : Int32) &&& 31))) ||| ((y3 &&& (127 : Int32)) <<< ((21 : Int32) &&& 31)))), .val (.int (28 : Int32)), .val (.int ((((p1 + (1 : Int32)) + (1 : Int32)) + (1 : Int32)) + (1 : Int32))), .val (.int y3)] [(.int (y3 &&& (128 : Int32)))])) _
            refine XS.ifNo X0.here hx rfl (hb hby d2_35) rfl ((if0 _ _).trans (teq hc35_4).2) kt
          refine own_step (T' := T0) (f' := (mkF m 39 #[.val (.ref a0'), .val (.int p1), .val (.int (((((0 : Int32) ||| ((y0 &&& (127 : Int32)) <<< ((0 : Int32) &&& 31))) ||| ((y1 &&& (127 : Int32)) <<< ((7 : Int32) &&& 31))) ||| ((y2 &&& (127 : Int32)) <<< ((14 : Int32) &&& 31))) ||| ((y3 &&& (127 : Int32)) <<< ((21 : Int32) &&& 31)))), .val (.int (28 : Int32)), .val (.int ((((p1 + (1 : Int32)) + (1 : Int32)) + (1 : Int32)) + (1 : Int32))), .val (.int y3)] [(.int (((((0 : Int32) ||| ((y0 &&& (127 : Int32)) <<< ((0 : Int32) &&& 31))) ||| ((y1 &&& (127 : Int32)) <<< ((7 : Int32) &&& 31))) ||| ((y2 &&& (127 : Int32)) <<< ((14 : Int32) &&& 31))) ||| ((y3 &&& (127 : Int32)) <<< ((21 : Int32) &&& 31))))])) (fun t kt => ?_) ?_
          · show Steps p.tables e below (T0.setTop (mkF m 38 #[.val (.ref a0'), .val (.int p1), .val (.int (((((0 : Int32) ||| ((y0 &&& (127 : Int32)) <<< ((0 : Int32) &&& 31))) ||| ((y1 &&& (127 : Int32)) <<< ((7 : Int32) &&& 31))) ||| ((y2 &&& (127 : Int32)) <<< ((14 : Int32) &&& 31))) ||| ((y3 &&& (127 : Int32)) <<< ((21 : Int32) &&& 31)))), .val (.int (28 : Int32)), .val (.int ((((p1 + (1 : Int32)) + (1 : Int32)) + (1 : Int32)) + (1 : Int32))), .val (.int y3)] [])) _
            refine XS.iloadN X0.here hx rfl (hb hby d2_38) rfl ?_
            exact kt
          exact own_retI X0 hx hret hlk (hb hby d2_39) (Nat.le_refl _) (Nat.le_refl _) ⟨congrArg (fun z => some (Value.int z)) hr.symm, N0, e0⟩
        · replace hr := hr.trans (if_neg hc35_4)
          refine own_step (T' := T0) (f' := (mkF m 7 #[.val (.ref a0'), .val (.int p1), .val (.int (((((0 : Int32) ||| ((y0 &&& (127 : Int32)) <<< ((0 : Int32) &&& 31))) ||| ((y1 &&& (127 : Int32)) <<< ((7 : Int32) &&& 31))) ||| ((y2 &&& (127 : Int32)) <<< ((14 : Int32) &&& 31))) ||| ((y3 &&& (127 : Int32)) <<< ((21 : Int32) &&& 31)))), .val (.int (28 : Int32)), .val (.int ((((p1 + (1 : Int32)) + (1 : Int32)) + (1 : Int32)) + (1 : Int32))), .val (.int y3)] [])) (fun t kt => ?_) ?_
          · show Steps p.tables e below (T0.setTop (mkF m 35 #[.val (.ref a0'), .val (.int p1), .val (.int (((((0 : Int32) ||| ((y0 &&& (127 : Int32)) <<< ((0 : Int32) &&& 31))) ||| ((y1 &&& (127 : Int32)) <<< ((7 : Int32) &&& 31))) ||| ((y2 &&& (127 : Int32)) <<< ((14 : Int32) &&& 31))) ||| ((y3 &&& (127 : Int32)) <<< ((21 : Int32) &&& 31)))), .val (.int (28 : Int32)), .val (.int ((((p1 + (1 : Int32)) + (1 : Int32)) + (1 : Int32)) + (1 : Int32))), .val (.int y3)] [(.int (y3 &&& (128 : Int32)))])) _
            refine XS.ifYes X0.here hx rfl (pc0 := 35) (pc' := 7) rfl (hb hby d2_35) rfl ((if0 _ _).trans (feq hc35_4).2) (by decide) (by decide) kt
          refine own_step (T' := T0) (f' := (mkF m 35 #[.val (.ref a0'), .val (.int p1), .val (.int ((((((0 : Int32) ||| ((y0 &&& (127 : Int32)) <<< ((0 : Int32) &&& 31))) ||| ((y1 &&& (127 : Int32)) <<< ((7 : Int32) &&& 31))) ||| ((y2 &&& (127 : Int32)) <<< ((14 : Int32) &&& 31))) ||| ((y3 &&& (127 : Int32)) <<< ((21 : Int32) &&& 31))) ||| ((y4 &&& (127 : Int32)) <<< ((28 : Int32) &&& 31)))), .val (.int (35 : Int32)), .val (.int (((((p1 + (1 : Int32)) + (1 : Int32)) + (1 : Int32)) + (1 : Int32)) + (1 : Int32))), .val (.int y4)] [(.int (y4 &&& (128 : Int32)))])) (fun t kt => ?_) ?_
          · show Steps p.tables e below (T0.setTop (mkF m 7 #[.val (.ref a0'), .val (.int p1), .val (.int (((((0 : Int32) ||| ((y0 &&& (127 : Int32)) <<< ((0 : Int32) &&& 31))) ||| ((y1 &&& (127 : Int32)) <<< ((7 : Int32) &&& 31))) ||| ((y2 &&& (127 : Int32)) <<< ((14 : Int32) &&& 31))) ||| ((y3 &&& (127 : Int32)) <<< ((21 : Int32) &&& 31)))), .val (.int (28 : Int32)), .val (.int ((((p1 + (1 : Int32)) + (1 : Int32)) + (1 : Int32)) + (1 : Int32))), .val (.int y3)] [])) _
            refine XS.aloadN X0.here hx rfl (hb hby d2_7) rfl rfl ?_
            show Steps p.tables e below (T0.setTop (mkF m 8 #[.val (.ref a0'), .val (.int p1), .val (.int (((((0 : Int32) ||| ((y0 &&& (127 : Int32)) <<< ((0 : Int32) &&& 31))) ||| ((y1 &&& (127 : Int32)) <<< ((7 : Int32) &&& 31))) ||| ((y2 &&& (127 : Int32)) <<< ((14 : Int32) &&& 31))) ||| ((y3 &&& (127 : Int32)) <<< ((21 : Int32) &&& 31)))), .val (.int (28 : Int32)), .val (.int ((((p1 + (1 : Int32)) + (1 : Int32)) + (1 : Int32)) + (1 : Int32))), .val (.int y3)] [(.ref a0')])) _
            refine XS.iload X0.here hx rfl (hb hby d2_8) rfl ?_
            show Steps p.tables e below (T0.setTop (mkF m 10 #[.val (.ref a0'), .val (.int p1), .val (.int (((((0 : Int32) ||| ((y0 &&& (127 : Int32)) <<< ((0 : Int32) &&& 31))) ||| ((y1 &&& (127 : Int32)) <<< ((7 : Int32) &&& 31))) ||| ((y2 &&& (127 : Int32)) <<< ((14 : Int32) &&& 31))) ||| ((y3 &&& (127 : Int32)) <<< ((21 : Int32) &&& 31)))), .val (.int (28 : Int32)), .val (.int ((((p1 + (1 : Int32)) + (1 : Int32)) + (1 : Int32)) + (1 : Int32))), .val (.int y3)] [(.int ((((p1 + (1 : Int32)) + (1 : Int32)) + (1 : Int32)) + (1 : Int32))), (.ref a0')])) _
            refine XS.iinc X0.here hx rfl (hb hby d2_10) rfl (l' := #[.val (.ref a0'), .val (.int p1), .val (.int (((((0 : Int32) ||| ((y0 &&& (127 : Int32)) <<< ((0 : Int32) &&& 31))) ||| ((y1 &&& (127 : Int32)) <<< ((7 : Int32) &&& 31))) ||| ((y2 &&& (127 : Int32)) <<< ((14 : Int32) &&& 31))) ||| ((y3 &&& (127 : Int32)) <<< ((21 : Int32) &&& 31)))), .val (.int (28 : Int32)), .val (.int (((((p1 + (1 : Int32)) + (1 : Int32)) + (1 : Int32)) + (1 : Int32)) + (1 : Int32))), .val (.int y3)]) rfl ?_
            show Steps p.tables e below (T0.setTop (mkF m 13 #[.val (.ref a0'), .val (.int p1), .val (.int (((((0 : Int32) ||| ((y0 &&& (127 : Int32)) <<< ((0 : Int32) &&& 31))) ||| ((y1 &&& (127 : Int32)) <<< ((7 : Int32) &&& 31))) ||| ((y2 &&& (127 : Int32)) <<< ((14 : Int32) &&& 31))) ||| ((y3 &&& (127 : Int32)) <<< ((21 : Int32) &&& 31)))), .val (.int (28 : Int32)), .val (.int (((((p1 + (1 : Int32)) + (1 : Int32)) + (1 : Int32)) + (1 : Int32)) + (1 : Int32))), .val (.int y3)] [(.int ((((p1 + (1 : Int32)) + (1 : Int32)) + (1 : Int32)) + (1 : Int32))), (.ref a0')])) _
            refine own_ldB X0 hx hZ e0 A0 (j := ((((p1 + (1 : Int32)) + (1 : Int32)) + (1 : Int32)) + (1 : Int32))) (own_ix4 p1 hp4).1 (k := _) rfl (v := (.int y4)) (by rw [(own_ix4 p1 hp4).2]; exact hv4) (g := (mkF m 13 #[.val (.ref a0'), .val (.int p1), .val (.int (((((0 : Int32) ||| ((y0 &&& (127 : Int32)) <<< ((0 : Int32) &&& 31))) ||| ((y1 &&& (127 : Int32)) <<< ((7 : Int32) &&& 31))) ||| ((y2 &&& (127 : Int32)) <<< ((14 : Int32) &&& 31))) ||| ((y3 &&& (127 : Int32)) <<< ((21 : Int32) &&& 31)))), .val (.int (28 : Int32)), .val (.int (((((p1 + (1 : Int32)) + (1 : Int32)) + (1 : Int32)) + (1 : Int32)) + (1 : Int32))), .val (.int y3)] [(.int ((((p1 + (1 : Int32)) + (1 : Int32)) + (1 : Int32)) + (1 : Int32))), (.ref a0')])) rfl rfl (hb hby d2_13) _ ?_
            show Steps p.tables e below (T0.setTop (mkF m 14 #[.val (.ref a0'), .val (.int p1), .val (.int (((((0 : Int32) ||| ((y0 &&& (127 : Int32)) <<< ((0 : Int32) &&& 31))) ||| ((y1 &&& (127 : Int32)) <<< ((7 : Int32) &&& 31))) ||| ((y2 &&& (127 : Int32)) <<< ((14 : Int32) &&& 31))) ||| ((y3 &&& (127 : Int32)) <<< ((21 : Int32) &&& 31)))), .val (.int (28 : Int32)), .val (.int (((((p1 + (1 : Int32)) + (1 : Int32)) + (1 : Int32)) + (1 : Int32)) + (1 : Int32))), .val (.int y3)] [(.int y4)])) _
            refine XS.istore X0.here hx rfl (hb hby d2_14) rfl (l' := #[.val (.ref a0'), .val (.int p1), .val (.int (((((0 : Int32) ||| ((y0 &&& (127 : Int32)) <<< ((0 : Int32) &&& 31))) ||| ((y1 &&& (127 : Int32)) <<< ((7 : Int32) &&& 31))) ||| ((y2 &&& (127 : Int32)) <<< ((14 : Int32) &&& 31))) ||| ((y3 &&& (127 : Int32)) <<< ((21 : Int32) &&& 31)))), .val (.int (28 : Int32)), .val (.int (((((p1 + (1 : Int32)) + (1 : Int32)) + (1 : Int32)) + (1 : Int32)) + (1 : Int32))), .val (.int y4)]) rfl ?_
            show Steps p.tables e below (T0.setTop (mkF m 16 #[.val (.ref a0'), .val (.int p1), .val (.int (((((0 : Int32) ||| ((y0 &&& (127 : Int32)) <<< ((0 : Int32) &&& 31))) ||| ((y1 &&& (127 : Int32)) <<< ((7 : Int32) &&& 31))) ||| ((y2 &&& (127 : Int32)) <<< ((14 : Int32) &&& 31))) ||| ((y3 &&& (127 : Int32)) <<< ((21 : Int32) &&& 31)))), .val (.int (28 : Int32)), .val (.int (((((p1 + (1 : Int32)) + (1 : Int32)) + (1 : Int32)) + (1 : Int32)) + (1 : Int32))), .val (.int y4)] [])) _
            refine XS.iloadN X0.here hx rfl (hb hby d2_16) rfl ?_
            show Steps p.tables e below (T0.setTop (mkF m 17 #[.val (.ref a0'), .val (.int p1), .val (.int (((((0 : Int32) ||| ((y0 &&& (127 : Int32)) <<< ((0 : Int32) &&& 31))) ||| ((y1 &&& (127 : Int32)) <<< ((7 : Int32) &&& 31))) ||| ((y2 &&& (127 : Int32)) <<< ((14 : Int32) &&& 31))) ||| ((y3 &&& (127 : Int32)) <<< ((21 : Int32) &&& 31)))), .val (.int (28 : Int32)), .val (.int (((((p1 + (1 : Int32)) + (1 : Int32)) + (1 : Int32)) + (1 : Int32)) + (1 : Int32))), .val (.int y4)] [(.int (((((0 : Int32) ||| ((y0 &&& (127 : Int32)) <<< ((0 : Int32) &&& 31))) ||| ((y1 &&& (127 : Int32)) <<< ((7 : Int32) &&& 31))) ||| ((y2 &&& (127 : Int32)) <<< ((14 : Int32) &&& 31))) ||| ((y3 &&& (127 : Int32)) <<< ((21 : Int32) &&& 31))))])) _
            refine XS.iload X0.here hx rfl (hb hby d2_17) rfl ?_
            show Steps p.tables e below (T0.setTop (mkF m 19 #[.val (.ref a0'), .val (.int p1), .val (.int (((((0 : Int32) ||| ((y0 &&& (127 : Int32)) <<< ((0 : Int32) &&& 31))) ||| ((y1 &&& (127 : Int32)) <<< ((7 : Int32) &&& 31))) ||| ((y2 &&& (127 : Int32)) <<< ((14 : Int32) &&& 31))) ||| ((y3 &&& (127 : Int32)) <<< ((21 : Int32) &&& 31)))), .val (.int (28 : Int32)), .val (.int (((((p1 + (1 : Int32)) + (1 : Int32)) + (1 : Int32)) + (1 : Int32)) + (1 : Int32))), .val (.int y4)] [(.int y4), (.int (((((0 : Int32) ||| ((y0 &&& (127 : Int32)) <<< ((0 : Int32) &&& 31))) ||| ((y1 &&& (127 : Int32)) <<< ((7 : Int32) &&& 31))) ||| ((y2 &&& (127 : Int32)) <<< ((14 : Int32) &&& 31))) ||| ((y3 &&& (127 : Int32)) <<< ((21 : Int32) &&& 31))))])) _
            refine XS.bipush X0.here hx rfl (hb hby d2_19) ?_
            show Steps p.tables e below (T0.setTop (mkF m 21 #[.val (.ref a0'), .val (.int p1), .val (.int (((((0 : Int32) ||| ((y0 &&& (127 : Int32)) <<< ((0 : Int32) &&& 31))) ||| ((y1 &&& (127 : Int32)) <<< ((7 : Int32) &&& 31))) ||| ((y2 &&& (127 : Int32)) <<< ((14 : Int32) &&& 31))) ||| ((y3 &&& (127 : Int32)) <<< ((21 : Int32) &&& 31)))), .val (.int (28 : Int32)), .val (.int (((((p1 + (1 : Int32)) + (1 : Int32)) + (1 : Int32)) + (1 : Int32)) + (1 : Int32))), .val (.int y4)] [(.int (127 : Int32)), (.int y4), (.int (((((0 : Int32) ||| ((y0 &&& (127 : Int32)) <<< ((0 : Int32) &&& 31))) ||| ((y1 &&& (127 : Int32)) <<< ((7 : Int32) &&& 31))) ||| ((y2 &&& (127 : Int32)) <<< ((14 : Int32) &&& 31))) ||| ((y3 &&& (127 : Int32)) <<< ((21 : Int32) &&& 31))))])) _
            refine XS.iand X0.here hx rfl (hb hby d2_21) rfl ?_
            show Steps p.tables e below (T0.setTop (mkF m 22 #[.val (.ref a0'), .val (.int p1), .val (.int (((((0 : Int32) ||| ((y0 &&& (127 : Int32)) <<< ((0 : Int32) &&& 31))) ||| ((y1 &&& (127 : Int32)) <<< ((7 : Int32) &&& 31))) ||| ((y2 &&& (127 : Int32)) <<< ((14 : Int32) &&& 31))) ||| ((y3 &&& (127 : Int32)) <<< ((21 : Int32) &&& 31)))), .val (.int (28 : Int32)), .val (.int (((((p1 + (1 : Int32)) + (1 : Int32)) + (1 : Int32)) + (1 : Int32)) + (1 : Int32))), .val (.int y4)] [(.int (y4 &&& (127 : Int32))), (.int (((((0 : Int32) ||| ((y0 &&& (127 : Int32)) <<< ((0 : Int32) &&& 31))) ||| ((y1 &&& (127 : Int32)) <<< ((7 : Int32) &&& 31))) ||| ((y2 &&& (127 : Int32)) <<< ((14 : Int32) &&& 31))) ||| ((y3 &&& (127 : Int32)) <<< ((21 : Int32) &&& 31))))])) _
            refine XS.iloadN X0.here hx rfl (hb hby d2_22) rfl ?_
            show Steps p.tables e below (T0.setTop (mkF m 23 #[.val (.ref a0'), .val (.int p1), .val (.int (((((0 : Int32) ||| ((y0 &&& (127 : Int32)) <<< ((0 : Int32) &&& 31))) ||| ((y1 &&& (127 : Int32)) <<< ((7 : Int32) &&& 31))) ||| ((y2 &&& (127 : Int32)) <<< ((14 : Int32) &&& 31))) ||| ((y3 &&& (127 : Int32)) <<< ((21 : Int32) &&& 31)))), .val (.int (28 : Int32)), .val (.int (((((p1 + (1 : Int32)) + (1 : Int32)) + (1 : Int32)) + (1 : Int32)) + (1 : Int32))), .val (.int y4)] [(.int (28 : Int32)), (.int (y4 &&& (127 : Int32))), (.int (((((0 : Int32) ||| ((y0 &&& (127 : Int32)) <<< ((0 : Int32) &&& 31))) ||| ((y1 &&& (127 : Int32)) <<< ((7 : Int32) &&& 31))) ||| ((y2 &&& (127 : Int32)) <<< ((14 : Int32) &&& 31))) ||| ((y3 &&& (127 : Int32)) <<< ((21 : Int32) &&& 31))))])) _
            refine XS.ishl X0.here hx rfl (hb hby d2_23) rfl ?_
            show Steps p.tables e below (T0.setTop (mkF m 24 #[.val (.ref a0'), .val (.int p1), .val (.int (((((0 : Int32) ||| ((y0 &&& (127 : Int32)) <<< ((0 : Int32) &&& 31))) ||| ((y1 &&& (127 : Int32)) <<< ((7 : Int32) &&& 31))) ||| ((y2 &&& (127 : Int32)) <<< ((14 : Int32) &&& 31))) ||| ((y3 &&& (127 : Int32)) <<< ((21 : Int32) &&& 31)))), .val (.int (28 : Int32)), .val (.int (((((p1 + (1 : Int32)) + (1 : Int32)) + (1 : Int32)) + (1 : Int32)) + (1 : Int32))), .val (.int y4)] [(.int ((y4 &&& (127 : Int32)) <<< ((28 : Int32) &&& 31))), (.int (((((0 : Int32) ||| ((y0 &&& (127 : Int32)) <<< ((0 : Int32) &&& 31))) ||| ((y1 &&& (127 : Int32)) <<< ((7 : Int32) &&& 31))) ||| ((y2 &&& (127 : Int32)) <<< ((14 : Int32) &&& 31))) ||| ((y3 &&& (127 : Int32)) <<< ((21 : Int32) &&& 31))))])) _
            refine XS.ior X0.here hx rfl (hb hby d2_24) rfl ?_
            show Steps p.tables e below (T0.setTop (mkF m 25 #[.val (.ref a0'), .val (.int p1), .val (.int (((((0 : Int32) ||| ((y0 &&& (127 : Int32)) <<< ((0 : Int32) &&& 31))) ||| ((y1 &&& (127 : Int32)) <<< ((7 : Int32) &&& 31))) ||| ((y2 &&& (127 : Int32)) <<< ((14 : Int32) &&& 31))) ||| ((y3 &&& (127 : Int32)) <<< ((21 : Int32) &&& 31)))), .val (.int (28 : Int32)), .val (.int (((((p1 + (1 : Int32)) + (1 : Int32)) + (1 : Int32)) + (1 : Int32)) + (1 : Int32))), .val (.int y4)] [(.int ((((((0 : Int32) ||| ((y0 &&& (127 : Int32)) <<< ((0 : Int32) &&& 31))) ||| ((y1 &&& (127 : Int32)) <<< ((7 : Int32) &&& 31))) ||| ((y2 &&& (127 : Int32)) <<< ((14 : Int32) &&& 31))) ||| ((y3 &&& (127 : Int32)) <<< ((21 : Int32) &&& 31))) ||| ((y4 &&& (127 : Int32)) <<< ((28 : Int32) &&& 31))))])) _
            refine XS.istoreN X0.here hx rfl (hb hby d2_25) rfl (l' := #[.val (.ref a0'), .val (.int p1), .val (.int ((((((0 : Int32) ||| ((y0 &&& (127 : Int32)) <<< ((0 : Int32) &&& 31))) ||| ((y1 &&& (127 : Int32)) <<< ((7 : Int32) &&& 31))) ||| ((y2 &&& (127 : Int32)) <<< ((14 : Int32) &&& 31))) ||| ((y3 &&& (127 : Int32)) <<< ((21 : Int32) &&& 31))) ||| ((y4 &&& (127 : Int32)) <<< ((28 : Int32) &&& 31)))), .val (.int (28 : Int32)), .val (.int (((((p1 + (1 : Int32)) + (1 : Int32)) + (1 : Int32)) + (1 : Int32)) + (1 : Int32))), .val (.int y4)]) rfl ?_
            show Steps p.tables e below (T0.setTop (mkF m 26 #[.val (.ref a0'), .val (.int p1), .val (.int ((((((0 : Int32) ||| ((y0 &&& (127 : Int32)) <<< ((0 : Int32) &&& 31))) ||| ((y1 &&& (127 : Int32)) <<< ((7 : Int32) &&& 31))) ||| ((y2 &&& (127 : Int32)) <<< ((14 : Int32) &&& 31))) ||| ((y3 &&& (127 : Int32)) <<< ((21 : Int32) &&& 31))) ||| ((y4 &&& (127 : Int32)) <<< ((28 : Int32) &&& 31)))), .val (.int (28 : Int32)), .val (.int (((((p1 + (1 : Int32)) + (1 : Int32)) + (1 : Int32)) + (1 : Int32)) + (1 : Int32))), .val (.int y4)] [])) _
            refine XS.iinc X0.here hx rfl (hb hby d2_26) rfl (l' := #[.val (.ref a0'), .val (.int p1), .val (.int ((((((0 : Int32) ||| ((y0 &&& (127 : Int32)) <<< ((0 : Int32) &&& 31))) ||| ((y1 &&& (127 : Int32)) <<< ((7 : Int32) &&& 31))) ||| ((y2 &&& (127 : Int32)) <<< ((14 : Int32) &&& 31))) ||| ((y3 &&& (127 : Int32)) <<< ((21 : Int32) &&& 31))) ||| ((y4 &&& (127 : Int32)) <<< ((28 : Int32) &&& 31)))), .val (.int (35 : Int32)), .val (.int (((((p1 + (1 : Int32)) + (1 : Int32)) + (1 : Int32)) + (1 : Int32)) + (1 : Int32))), .val (.int y4)]) rfl ?_
            show Steps p.tables e below (T0.setTop (mkF m 29 #[.val (.ref a0'), .val (.int p1), .val (.int ((((((0 : Int32) ||| ((y0 &&& (127 : Int32)) <<< ((0 : Int32) &&& 31))) ||| ((y1 &&& (127 : Int32)) <<< ((7 : Int32) &&& 31))) ||| ((y2 &&& (127 : Int32)) <<< ((14 : Int32) &&& 31))) ||| ((y3 &&& (127 : Int32)) <<< ((21 : Int32) &&& 31))) ||| ((y4 &&& (127 : Int32)) <<< ((28 : Int32) &&& 31)))), .val (.int (35 : Int32)), .val (.int (((((p1 + (1 : Int32)) + (1 : Int32)) + (1 : Int32)) + (1 : Int32)) + (1 : Int32))), .val (.int y4)] [])) _
            refine XS.iload X0.here hx rfl (hb hby d2_29) rfl ?_
            show Steps p.tables e below (T0.setTop (mkF m 31 #[.val (.ref a0'), .val (.int p1), .val (.int ((((((0 : Int32) ||| ((y0 &&& (127 : Int32)) <<< ((0 : Int32) &&& 31))) ||| ((y1 &&& (127 : Int32)) <<< ((7 : Int32) &&& 31))) ||| ((y2 &&& (127 : Int32)) <<< ((14 : Int32) &&& 31))) ||| ((y3 &&& (127 : Int32)) <<< ((21 : Int32) &&& 31))) ||| ((y4 &&& (127 : Int32)) <<< ((28 : Int32) &&& 31)))), .val (.int (35 : Int32)), .val (.int (((((p1 + (1 : Int32)) + (1 : Int32)) + (1 : Int32)) + (1 : Int32)) + (1 : Int32))), .val (.int y4)] [(.int y4)])) _
            refine XS.sipush X0.here hx rfl (hb hby d2_31) ?_
            show Steps p.tables e below (T0.setTop (mkF m 34 #[.val (.ref a0'), .val (.int p1), .val (.int ((((((0 : Int32) ||| ((y0 &&& (127 : Int32)) <<< ((0 : Int32) &&& 31))) ||| ((y1 &&& (127 : Int32)) <<< ((7 : Int32) &&& 31))) ||| ((y2 &&& (127 : Int32)) <<< ((14 : Int32) &&& 31))) ||| ((y3 &&& (127 : Int32)) <<< ((21 : Int32) &&& 31))) ||| ((y4 &&& (127 : Int32)) <<< ((28 : Int32) &&& 31)))), .val (.int (35 : Int32)), .val (.int (((((p1 + (1 : Int32)) + (1 : Int32)) + (1 : Int32)) + (1 : Int32)) + (1 : Int32))), .val (.int y4)] [(.int (128 : Int32)), (.int y4)])) _
            refine XS.iand X0.here hx rfl (hb hby d2_34) rfl ?_
            exact kt
          refine own_step (T' := T0) (f' := (mkF m 38 #[.val (.ref a0'), .val (.int p1), .val (.int ((((((0 : Int32) ||| ((y0 &&& (127 : Int32)) <<< ((0 : Int32) &&& 31))) ||| ((y1 &&& (127 : Int32)) <<< ((7 : Int32) &&& 31))) ||| ((y2 &&& (127 : Int32)) <<< ((14 : Int32) &&& 31))) ||| ((y3 &&& (127 : Int32)) <<< ((21 : Int32) &&& 31))) ||| ((y4 &&& (127 : Int32)) <<< ((28 : Int32) &&& 31)))), .val (.int (35 : Int32)), .val (.int (((((p1 + (1 : Int32)) + (1 : Int32)) + (1 : Int32)) + (1 : Int32)) + (1 : Int32))), .val (.int y4)] [])) (fun t kt => ?_) ?_
          · show Steps p.tables e below (T0.setTop (mkF m 35 #[.val (.ref a0'), .val (.int p1), .val (.int ((((((0 : Int32) ||| ((y0 &&& (127 : Int32)) <<< ((0 : Int32) &&& 31))) ||| ((y1 &&& (127 : Int32)) <<< ((7 : Int32) &&& 31))) ||| ((y2 &&& (127 : Int32)) <<< ((14 : Int32) &&& 31))) ||| ((y3 &&& (127 : Int32)) <<< ((21 : Int32) &&& 31))) ||| ((y4 &&& (127 : Int32)) <<< ((28 : Int32) &&& 31)))), .val (.int (35 : Int32)), .val (.int (((((p1 + (1 : Int32)) + (1 : Int32)) + (1 : Int32)) + (1 : Int32)) + (1 : Int32))), .val (.int y4)] [(.int (y4 &&& (128 : Int32)))])) _
            refine XS.ifNo X0.here hx rfl (hb hby d2_35) rfl ((if0 _ _).trans (teq hb0).2) kt
          refine own_step (T' := T0) (f' := (mkF m 39 #[.val (.ref a0'), .val (.int p1), .val (.int ((((((0 : Int32) ||| ((y0 &&& (127 : Int32)) <<< ((0 : Int32) &&& 31))) ||| ((y1 &&& (127 : Int32)) <<< ((7 : Int32) &&& 31))) ||| ((y2 &&& (127 : Int32)) <<< ((14 : Int32) &&& 31))) ||| ((y3 &&& (127 : Int32)) <<< ((21 : Int32) &&& 31))) ||| ((y4 &&& (127 : Int32)) <<< ((28 : Int32) &&& 31)))), .val (.int (35 : Int32)), .val (.int (((((p1 + (1 : Int32)) + (1 : Int32)) + (1 : Int32)) + (1 : Int32)) + (1 : Int32))), .val (.int y4)] [(.int ((((((0 : Int32) ||| ((y0 &&& (127 : Int32)) <<< ((0 : Int32) &&& 31))) ||| ((y1 &&& (127 : Int32)) <<< ((7 : Int32) &&& 31))) ||| ((y2 &&& (127 : Int32)) <<< ((14 : Int32) &&& 31))) ||| ((y3 &&& (127 : Int32)) <<< ((21 : Int32) &&& 31))) ||| ((y4 &&& (127 : Int32)) <<< ((28 : Int32) &&& 31))))])) (fun t kt => ?_) ?_
          · show Steps p.tables e below (T0.setTop (mkF m 38 #[.val (.ref a0'), .val (.int p1), .val (.int ((((((0 : Int32) ||| ((y0 &&& (127 : Int32)) <<< ((0 : Int32) &&& 31))) ||| ((y1 &&& (127 : Int32)) <<< ((7 : Int32) &&& 31))) ||| ((y2 &&& (127 : Int32)) <<< ((14 : Int32) &&& 31))) ||| ((y3 &&& (127 : Int32)) <<< ((21 : Int32) &&& 31))) ||| ((y4 &&& (127 : Int32)) <<< ((28 : Int32) &&& 31)))), .val (.int (35 : Int32)), .val (.int (((((p1 + (1 : Int32)) + (1 : Int32)) + (1 : Int32)) + (1 : Int32)) + (1 : Int32))), .val (.int y4)] [])) _
            refine XS.iloadN X0.here hx rfl (hb hby d2_38) rfl ?_
            exact kt
          exact own_retI X0 hx hret hlk (hb hby d2_39) (Nat.le_refl _) (Nat.le_refl _) ⟨congrArg (fun z => some (Value.int z)) hr.symm, N0, e0⟩
set_option maxRecDepth 65536 in
set_option maxHeartbeats 4000000 in
theorem rm2n5 (l : Launch) (Z : State) (a0 : Array Value) (hw : ∀ d ∈ tables_1, d.before a0 Z = true) (ws : List Jvm.Cond) (a0' : Addr) (p1 : Int32) (y0 : Int32) (y1 : Int32) (y2 : Int32) (y3 : Int32) (y4 : Int32) (vs0 : List Value) (h0 : Heap) (n0 : Nat) (A0 : own_A Z h0 a0' .byte vs0) (hp4 : p1 = 0 ∨ p1 = 1 ∨ p1 = 2 ∨ p1 = 3) (hv0 : vs0[p1.toNatClampNeg + 0]? = some (.int y0)) (hv1 : vs0[p1.toNatClampNeg + 1]? = some (.int y1)) (hv2 : vs0[p1.toNatClampNeg + 2]? = some (.int y2)) (hv3 : vs0[p1.toNatClampNeg + 3]? = some (.int y3)) (hv4 : vs0[p1.toNatClampNeg + 4]? = some (.int y4)) (hb0 : (y4 &&& (128 : Int32)) = (0 : Int32)) :
    MetFree l (⟨"hotstate/sort/VarInts", "read", "([BI)I"⟩ : MethodName) (head1 (Jvm.Cond.code (⟨"hotstate/sort/VarInts", "read", "([BI)I"⟩ : MethodName) prog_81_method_4_code 6 (some .int) :: ws) ({ frames := 0, cells := 0, slots := 0, locals := 0 } : Room)) (fun a U => a = #[(.ref a0'), (.int p1)] ∧ Z.Warmed39 U.vm ∧ U.heap = h0) (fun _ _ _ _ _ => True) (fun _ U o U' => ∃ v L, o = .returned v ∧ (own_P (.int (f2n5_0 p1 y0 y1 y2 y3 y4)) h0 n0) v U'.heap L ∧ FrameEnd U o U' L ({ frames := 0, cells := 0, slots := 0, locals := 0 } : Room).cells ({ frames := 0, cells := 0, slots := 0, locals := 0 } : Room).slots) := by
  refine MetFree.of_bodySF (plainFor_of_name pn2) hisR ?_
  intro p e s m args below meth c s₁ Bd hml0 hP hK
  obtain ⟨rfl, hZ, hh⟩ := hP
  have hown : s.vm.findClass "hotstate/sort/VarInts" = some m.cls := findClass_of_methodNamed Bd.named
  have X0 : Stand p l e ({ frames := 0, cells := 0, slots := 0, locals := 0 } : Room) s m #[(.ref a0'), (.int p1)] below meth c s₁ [] 0 0 := Stand.of_body Bd
  have e0 : s₁.heap = h0 := by rw [← hh, Bd.state]; rfl
  show own_Ends p e below s 0 0 (own_P (.int (f2n5_0 p1 y0 y1 y2 y3 y4)) h0 n0) s₁ (entryFrame m #[(.ref a0'), (.int p1)] 6)
  refine own_step (fun t k => castTop (ef2 m a0' p1) k) ?_
  exact b2n5_0 a0' p1 y0 y1 y2 y3 y4 vs0 X0 Bd.exec hZ hw Bd.bytes hml0 hown Bd.returns (BodyLoose.notSynchronized Bd) e0 (Fr.nil n0) A0 hp4 hv0 hv1 hv2 hv3 hv4 hb0 rfl
theorem own_fin (x : Int32) : ∃ k : Fin 128, x &&& (127 : Int32) = Int32.ofNat k.val := by
  have h := c_mask x 127 7 (by decide) (by decide)
  refine ⟨⟨(x.toInt % 128).toNat, by omega⟩, Int32.toInt_inj.mp ?_⟩
  rw [h, Int32.toInt_ofNat_of_lt (by show (x.toInt % 128).toNat < 2 ^ 31; omega)]
  show x.toInt % (2 ^ 7 : Nat) = ((x.toInt % 128).toNat : Int)
  omega
theorem own_low0 (x : Int32) : ((nar .byte (f1_24 (x &&& (127 : Int32)) (0 : Int32))) &&& (128 : Int32)) = (0 : Int32) ∧ ((nar .byte (f1_24 (x &&& (127 : Int32)) (0 : Int32))) &&& (127 : Int32)) = x &&& (127 : Int32) := by
  obtain ⟨k, hk⟩ := own_fin x
  rw [hk]; clear hk; revert k; decide +kernel
theorem own_low1 (x : Int32) : ¬ ((nar .byte (f1_24 (x &&& (127 : Int32)) (128 : Int32))) &&& (128 : Int32)) = (0 : Int32) ∧ ((nar .byte (f1_24 (x &&& (127 : Int32)) (128 : Int32))) &&& (127 : Int32)) = x &&& (127 : Int32) := by
  obtain ⟨k, hk⟩ := own_fin x
  rw [hk]; clear hk; revert k; decide +kernel
def own_dig (v i : Int32) : Int32 := ((v.toUInt32 >>> (((7 : Int32) * i) &&& 31).toUInt32).toInt32) &&& (127 : Int32)
theorem own_top (v i n : Int32) (h : ¬ i < (n - (1 : Int32))) : ((nar .byte (f1_0 v i n)) &&& (128 : Int32)) = (0 : Int32) ∧ ((nar .byte (f1_0 v i n)) &&& (127 : Int32)) = own_dig v i := by
  unfold f1_0; rw [if_neg h]; exact own_low0 _
theorem own_mid (v i n : Int32) (h : i < (n - (1 : Int32))) : ¬ ((nar .byte (f1_0 v i n)) &&& (128 : Int32)) = (0 : Int32) ∧ ((nar .byte (f1_0 v i n)) &&& (127 : Int32)) = own_dig v i := by
  unfold f1_0; rw [if_pos h]; exact own_low1 _
theorem own_last1 (v : Int32) : ((nar .byte (f1_0 v (0 : Int32) (1 : Int32))) &&& (128 : Int32)) = (0 : Int32) := (own_top v 0 1 (by decide)).1
theorem own_last2 (v : Int32) : ((nar .byte (f1_0 v (1 : Int32) (2 : Int32))) &&& (128 : Int32)) = (0 : Int32) := (own_top v 1 2 (by decide)).1
theorem own_last3 (v : Int32) : ((nar .byte (f1_0 v (2 : Int32) (3 : Int32))) &&& (128 : Int32)) = (0 : Int32) := (own_top v 2 3 (by decide)).1
theorem own_last4 (v : Int32) : ((nar .byte (f1_0 v (3 : Int32) (4 : Int32))) &&& (128 : Int32)) = (0 : Int32) := (own_top v 3 4 (by decide)).1
theorem own_last5 (v : Int32) : ((nar .byte (f1_0 v (4 : Int32) (5 : Int32))) &&& (128 : Int32)) = (0 : Int32) := (own_top v 4 5 (by decide)).1
theorem own_or (acc low q : Int32) (k : Nat) (hq : q.toBitVec.toNat % 32 = k) (hk : k ≤ 31) (P : Int) (hP : P = (2 ^ k : Nat)) (h0 : 0 ≤ acc.toInt) (h1 : acc.toInt < P) (l0 : 0 ≤ low.toInt * P) (l1 : low.toInt * P + P ≤ 2147483648) :
    (acc ||| (low <<< (q &&& 31))).toInt = acc.toInt + low.toInt * P := by
  have s := c_ishl low q k hq
  rw [← hP] at s
  have sl := Int32.le_toInt (low <<< (q &&& 31))
  have su := Int32.toInt_lt (low <<< (q &&& 31))
  have e : (low <<< (q &&& 31)).toInt = low.toInt * P := by
    generalize low.toInt * P = Q at *
    omega
  have o := c_or' acc (low <<< (q &&& 31)) k hk P hP (by rw [e]; exact Int.mul_emod_left _ _) h0 h1
  have ol := Int32.le_toInt (acc ||| (low <<< (q &&& 31)))
  have ou := Int32.toInt_lt (acc ||| (low <<< (q &&& 31)))
  rw [e] at o
  generalize low.toInt * P = Q at *
  omega
theorem own_first (low : Int32) : ((0 : Int32) ||| (low <<< ((0 : Int32) &&& 31))) = low := by
  have e : ((0 : Int32) &&& 31) = 0 := by decide
  rw [e, Int32.zero_or]
  apply Int32.toInt_inj.mp
  have s := c_ishl low 0 0 (by decide)
  rw [show ((0 : Int32) &&& 31) = 0 from e] at s
  have sl := Int32.le_toInt (low <<< (0 : Int32))
  have su := Int32.toInt_lt (low <<< (0 : Int32))
  have l1 := Int32.le_toInt low
  have l2 := Int32.toInt_lt low
  have p0 : ((2 ^ 0 : Nat) : Int) = 1 := by decide
  rw [p0] at s
  omega
theorem own_d0 (v : Int32) (h : 0 ≤ v.toInt) : (own_dig v 0).toInt = v.toInt % 128 := by
  unfold own_dig
  have e : (((7 : Int32) * 0) &&& 31).toUInt32 = 0 := by decide
  rw [e, UInt32.shiftRight_zero]
  have c := c_mask v 127 7 (by decide) (by decide)
  exact c
theorem own_dk (v i : Int32) (h : 0 ≤ v.toInt) (k : Nat) (hk : ((7 : Int32) * i).toBitVec.toNat % 32 = k) (h0 : 0 < k) : (own_dig v i).toInt = v.toInt / (2 ^ k : Nat) % 128 := by
  unfold own_dig
  have u := Int32.toInt_lt v
  have s := c_iushr v ((7 : Int32) * i) k hk h0
  have c := c_mask ((v.toUInt32 >>> (((7 : Int32) * i) &&& 31).toUInt32).toInt32) 127 7 (by decide) (by decide)
  rw [s, Int.emod_eq_of_lt h (by omega)] at c
  exact c

theorem pn0 : plainName "hotstate/sort/VarIntsReadPinLaw" = true := by first | (simp [plainName, overriddenIn]; done) | decide +kernel
theorem ef0 (m : MethodId) (p0 : Int32) (p1 : Int32) (q2 : Int64) (p3 : Int32) : entryFrame m #[(.int p0), (.int p1), (.long q2), (.int p3)] maxLocals = mkF m 0 #[.val (.int p0), .val (.int p1), .val (.long q2), .second, .val (.int p3), .unset, .unset, .unset, .unset] [] := by first | (simp [entryFrame, mkF, argsToLocals, Value.category, maxLocals]; done) | rfl
def f0_161 (i5 : Int32) (i6 : Int32) (i7 : Int32) (xo8_0 : Int32) (xo8_1 : Int32) (xo8_2 : Int32) (xo8_3 : Int32) (xo8_4 : Int32) (xo8_5 : Int32) (xo8_6 : Int32) (xo8_7 : Int32) (xo8_8 : Int32) : Int32 :=
  if i6 = (0 : Int32) then (if i7 = (1 : Int32) then (if (f2n1_0 (0 : Int32) (nar .byte (f1_0 i5 (0 : Int32) (1 : Int32)))) = i5 then ((1 : Int32)) else ((0 : Int32))) else if i7 = (2 : Int32) then (if (f2n2_0 (0 : Int32) (nar .byte (f1_0 i5 (0 : Int32) (2 : Int32))) (nar .byte (f1_0 i5 (1 : Int32) (2 : Int32)))) = i5 then ((1 : Int32)) else ((0 : Int32))) else if i7 = (3 : Int32) then (if (f2n3_0 (0 : Int32) (nar .byte (f1_0 i5 (0 : Int32) (3 : Int32))) (nar .byte (f1_0 i5 (1 : Int32) (3 : Int32))) (nar .byte (f1_0 i5 (2 : Int32) (3 : Int32)))) = i5 then ((1 : Int32)) else ((0 : Int32))) else if i7 = (4 : Int32) then (if (f2n4_0 (0 : Int32) (nar .byte (f1_0 i5 (0 : Int32) (4 : Int32))) (nar .byte (f1_0 i5 (1 : Int32) (4 : Int32))) (nar .byte (f1_0 i5 (2 : Int32) (4 : Int32))) (nar .byte (f1_0 i5 (3 : Int32) (4 : Int32)))) = i5 then ((1 : Int32)) else ((0 : Int32))) else if i7 = (5 : Int32) then (if (f2n5_0 (0 : Int32) (nar .byte (f1_0 i5 (0 : Int32) (5 : Int32))) (nar .byte (f1_0 i5 (1 : Int32) (5 : Int32))) (nar .byte (f1_0 i5 (2 : Int32) (5 : Int32))) (nar .byte (f1_0 i5 (3 : Int32) (5 : Int32))) (nar .byte (f1_0 i5 (4 : Int32) (5 : Int32)))) = i5 then ((1 : Int32)) else ((0 : Int32))) else 0) else if i6 = (1 : Int32) then (if i7 = (1 : Int32) then (if (f2n1_0 (1 : Int32) (nar .byte (f1_0 i5 (0 : Int32) (1 : Int32)))) = i5 then ((1 : Int32)) else ((0 : Int32))) else if i7 = (2 : Int32) then (if (f2n2_0 (1 : Int32) (nar .byte (f1_0 i5 (0 : Int32) (2 : Int32))) (nar .byte (f1_0 i5 (1 : Int32) (2 : Int32)))) = i5 then ((1 : Int32)) else ((0 : Int32))) else if i7 = (3 : Int32) then (if (f2n3_0 (1 : Int32) (nar .byte (f1_0 i5 (0 : Int32) (3 : Int32))) (nar .byte (f1_0 i5 (1 : Int32) (3 : Int32))) (nar .byte (f1_0 i5 (2 : Int32) (3 : Int32)))) = i5 then ((1 : Int32)) else ((0 : Int32))) else if i7 = (4 : Int32) then (if (f2n4_0 (1 : Int32) (nar .byte (f1_0 i5 (0 : Int32) (4 : Int32))) (nar .byte (f1_0 i5 (1 : Int32) (4 : Int32))) (nar .byte (f1_0 i5 (2 : Int32) (4 : Int32))) (nar .byte (f1_0 i5 (3 : Int32) (4 : Int32)))) = i5 then ((1 : Int32)) else ((0 : Int32))) else if i7 = (5 : Int32) then (if (f2n5_0 (1 : Int32) (nar .byte (f1_0 i5 (0 : Int32) (5 : Int32))) (nar .byte (f1_0 i5 (1 : Int32) (5 : Int32))) (nar .byte (f1_0 i5 (2 : Int32) (5 : Int32))) (nar .byte (f1_0 i5 (3 : Int32) (5 : Int32))) (nar .byte (f1_0 i5 (4 : Int32) (5 : Int32)))) = i5 then ((1 : Int32)) else ((0 : Int32))) else 0) else if i6 = (2 : Int32) then (if i7 = (1 : Int32) then (if (f2n1_0 (2 : Int32) (nar .byte (f1_0 i5 (0 : Int32) (1 : Int32)))) = i5 then ((1 : Int32)) else ((0 : Int32))) else if i7 = (2 : Int32) then (if (f2n2_0 (2 : Int32) (nar .byte (f1_0 i5 (0 : Int32) (2 : Int32))) (nar .byte (f1_0 i5 (1 : Int32) (2 : Int32)))) = i5 then ((1 : Int32)) else ((0 : Int32))) else if i7 = (3 : Int32) then (if (f2n3_0 (2 : Int32) (nar .byte (f1_0 i5 (0 : Int32) (3 : Int32))) (nar .byte (f1_0 i5 (1 : Int32) (3 : Int32))) (nar .byte (f1_0 i5 (2 : Int32) (3 : Int32)))) = i5 then ((1 : Int32)) else ((0 : Int32))) else if i7 = (4 : Int32) then (if (f2n4_0 (2 : Int32) (nar .byte (f1_0 i5 (0 : Int32) (4 : Int32))) (nar .byte (f1_0 i5 (1 : Int32) (4 : Int32))) (nar .byte (f1_0 i5 (2 : Int32) (4 : Int32))) (nar .byte (f1_0 i5 (3 : Int32) (4 : Int32)))) = i5 then ((1 : Int32)) else ((0 : Int32))) else if i7 = (5 : Int32) then (if (f2n5_0 (2 : Int32) (nar .byte (f1_0 i5 (0 : Int32) (5 : Int32))) (nar .byte (f1_0 i5 (1 : Int32) (5 : Int32))) (nar .byte (f1_0 i5 (2 : Int32) (5 : Int32))) (nar .byte (f1_0 i5 (3 : Int32) (5 : Int32))) (nar .byte (f1_0 i5 (4 : Int32) (5 : Int32)))) = i5 then ((1 : Int32)) else ((0 : Int32))) else 0) else if i6 = (3 : Int32) then (if i7 = (1 : Int32) then (if (f2n1_0 (3 : Int32) (nar .byte (f1_0 i5 (0 : Int32) (1 : Int32)))) = i5 then ((1 : Int32)) else ((0 : Int32))) else if i7 = (2 : Int32) then (if (f2n2_0 (3 : Int32) (nar .byte (f1_0 i5 (0 : Int32) (2 : Int32))) (nar .byte (f1_0 i5 (1 : Int32) (2 : Int32)))) = i5 then ((1 : Int32)) else ((0 : Int32))) else if i7 = (3 : Int32) then (if (f2n3_0 (3 : Int32) (nar .byte (f1_0 i5 (0 : Int32) (3 : Int32))) (nar .byte (f1_0 i5 (1 : Int32) (3 : Int32))) (nar .byte (f1_0 i5 (2 : Int32) (3 : Int32)))) = i5 then ((1 : Int32)) else ((0 : Int32))) else if i7 = (4 : Int32) then (if (f2n4_0 (3 : Int32) (nar .byte (f1_0 i5 (0 : Int32) (4 : Int32))) (nar .byte (f1_0 i5 (1 : Int32) (4 : Int32))) (nar .byte (f1_0 i5 (2 : Int32) (4 : Int32))) (nar .byte (f1_0 i5 (3 : Int32) (4 : Int32)))) = i5 then ((1 : Int32)) else ((0 : Int32))) else if i7 = (5 : Int32) then (if (f2n5_0 (3 : Int32) (nar .byte (f1_0 i5 (0 : Int32) (5 : Int32))) (nar .byte (f1_0 i5 (1 : Int32) (5 : Int32))) (nar .byte (f1_0 i5 (2 : Int32) (5 : Int32))) (nar .byte (f1_0 i5 (3 : Int32) (5 : Int32))) (nar .byte (f1_0 i5 (4 : Int32) (5 : Int32)))) = i5 then ((1 : Int32)) else ((0 : Int32))) else 0) else 0
set_option maxRecDepth 65536 in
set_option maxHeartbeats 4000000 in
theorem b0_161 {p : Program} {l : Launch} {e : Env} {s : State} {m : MethodId} {args : Array Value} {below : List Frame} {meth : Method} {c : Code} {T0 : State} {locs : List Loc} {Z : State} {a0 : Array Value} {h0 : Heap} {n0 : Nat} (i0 : Int32) (i1 : Int32) (j2 : Int64) (i4 : Int32) (i5 : Int32) (i6 : Int32) (i7 : Int32) (o8 : Addr) (xo8_0 : Int32) (xo8_1 : Int32) (xo8_2 : Int32) (xo8_3 : Int32) (xo8_4 : Int32) (xo8_5 : Int32) (xo8_6 : Int32) (xo8_7 : Int32) (xo8_8 : Int32) {r : Int32} (X0 : Stand p l e room_1 s m args below meth c T0 locs 1 9) (hx : p.tables.exec = Jvm.exec) (hZ : Z.Warmed39 s.vm) (hw : ∀ d ∈ tables_1, d.before a0 Z = true) (hby : c.code = code) (hml : c.maxLocals = 9) (hown : s.vm.findClass "hotstate/sort/VarIntsReadPinLaw" = some m.cls) (hret : meth.sig.returnType = some .boolean) (hlk : meth.locks = false) (e0 : T0.heap = h0) (N0 : Fr n0 locs) (Ao8 : own_A Z h0 o8 .byte [(.int xo8_0), (.int xo8_1), (.int xo8_2), (.int xo8_3), (.int xo8_4), (.int xo8_5), (.int xo8_6), (.int xo8_7), (.int xo8_8)]) (go8 : n0 ≤ o8) (Z0 : n0 ≤ h0.size) (hat : i6 = (0 : Int32) ∨ i6 = (1 : Int32) ∨ i6 = (2 : Int32) ∨ i6 = (3 : Int32)) (hn : i7 = (1 : Int32) ∨ i7 = (2 : Int32) ∨ i7 = (3 : Int32) ∨ i7 = (4 : Int32) ∨ i7 = (5 : Int32)) (hr : r = f0_161 i5 i6 i7 xo8_0 xo8_1 xo8_2 xo8_3 xo8_4 xo8_5 xo8_6 xo8_7 xo8_8) :
    own_Ends p e below s 16 128 (own_R (.int r) n0) T0 (mkF m 161 #[.val (.int i0), .val (.int i1), .val (.long j2), .second, .val (.int i4), .val (.int i5), .val (.int i6), .val (.int i7), .val (.ref o8)] []) := by
  unfold f0_161 at hr
  rcases hat with rfl | rfl | rfl | rfl
  · replace hr := hr.trans (if_pos rfl)
    rcases hn with rfl | rfl | rfl | rfl | rfl
    · replace hr := hr.trans (if_pos rfl)
      refine own_step (T' := T0) (f' := (mkF m 170 #[.val (.int i0), .val (.int i1), .val (.long j2), .second, .val (.int i4), .val (.int i5), .val (.int (0 : Int32)), .val (.int (1 : Int32)), .val (.ref o8)] [(.int (1 : Int32)), (.int (0 : Int32)), (.int i5), (.int (0 : Int32)), (.ref o8)])) (fun t kt => ?_) ?_
      · show Steps p.tables e below (T0.setTop (mkF m 161 #[.val (.int i0), .val (.int i1), .val (.long j2), .second, .val (.int i4), .val (.int i5), .val (.int (0 : Int32)), .val (.int (1 : Int32)), .val (.ref o8)] [])) _
        refine XS.aload X0.here hx rfl (hb hby at_161) rfl rfl ?_
        show Steps p.tables e below (T0.setTop (mkF m 163 #[.val (.int i0), .val (.int i1), .val (.long j2), .second, .val (.int i4), .val (.int i5), .val (.int (0 : Int32)), .val (.int (1 : Int32)), .val (.ref o8)] [(.ref o8)])) _
        refine XS.iload X0.here hx rfl (hb hby at_163) rfl ?_
        show Steps p.tables e below (T0.setTop (mkF m 165 #[.val (.int i0), .val (.int i1), .val (.long j2), .second, .val (.int i4), .val (.int i5), .val (.int (0 : Int32)), .val (.int (1 : Int32)), .val (.ref o8)] [(.int (0 : Int32)), (.ref o8)])) _
        refine XS.iload X0.here hx rfl (hb hby at_165) rfl ?_
        show Steps p.tables e below (T0.setTop (mkF m 167 #[.val (.int i0), .val (.int i1), .val (.long j2), .second, .val (.int i4), .val (.int i5), .val (.int (0 : Int32)), .val (.int (1 : Int32)), .val (.ref o8)] [(.int i5), (.int (0 : Int32)), (.ref o8)])) _
        refine XS.iconst X0.here hx rfl (hb hby at_167) ?_
        show Steps p.tables e below (T0.setTop (mkF m 168 #[.val (.int i0), .val (.int i1), .val (.long j2), .second, .val (.int i4), .val (.int i5), .val (.int (0 : Int32)), .val (.int (1 : Int32)), .val (.ref o8)] [(.int (0 : Int32)), (.int i5), (.int (0 : Int32)), (.ref o8)])) _
        refine XS.iload X0.here hx rfl (hb hby at_168) rfl ?_
        exact kt
      obtain ⟨_, _, ⟨T12, L12, k12, n12⟩, -, X12, ⟨Lc12, hQ12, l12, y12, z12⟩, st12⟩ := Jvm.LawKit.callS X0 hx (y := (⟨"hotstate/sort/VarIntsReadPinLaw", "enc", "(III)B"⟩ : MethodName)) hown (mvT hZ (hw _ (List.mem_of_getElem? (i := 2) rfl))) (mvT hZ (hw _ (List.mem_of_getElem? (i := 3) rfl))) (mvT hZ (hw _ (List.mem_of_getElem? (i := 4) rfl))) (mvT hZ (hw _ (List.mem_of_getElem? (i := 5) rfl))) (by decide) (backOf (W := 2) (rm1 l Z a0 hw [] i5 (0 : Int32) (1 : Int32)  h0 n0 ) hZ (hw _ (List.mem_of_getElem? (i := 5) rfl)) (hw _ (List.mem_of_getElem? (i := 4) rfl)) (by decide) (by decide)) (g := (mkF m 170 #[.val (.int i0), .val (.int i1), .val (.long j2), .second, .val (.int i4), .val (.int i5), .val (.int (0 : Int32)), .val (.int (1 : Int32)), .val (.ref o8)] [(.int (1 : Int32)), (.int (0 : Int32)), (.int i5), (.int (0 : Int32)), (.ref o8)])) rfl (by rw [hml]; rfl) (argsL := [(.int i5), (.int (0 : Int32)), (.int (1 : Int32))]) (rest := [(.int (0 : Int32)), (.ref o8)]) (lenOf pd1 rfl) rfl (by show 2 * 0 + _ ≤ _; exact Nat.le_of_eq rfl) (hb hby at_170) (fun _ _ => ⟨rfl, e0, (by decide : 1 + 0 ≤ _), (by decide : 9 + 0 ≤ _)⟩)
      dsimp only [Pt.U, Pt.locs, Pt.cells, Pt.slots] at X12 l12 y12 z12 st12 hQ12
      subst l12 y12 z12
      obtain ⟨rfl, Nq12, e12⟩ := hQ12
      have N12 := Fr.app N0 Nq12
      refine own_step (T' := T12) (f' := (mkF m 173 #[.val (.int i0), .val (.int i1), .val (.long j2), .second, .val (.int i4), .val (.int i5), .val (.int (0 : Int32)), .val (.int (1 : Int32)), .val (.ref o8)] [(.int (f1_0 i5 (0 : Int32) (1 : Int32))), (.int (0 : Int32)), (.ref o8)])) st12 ?_
      obtain ⟨T13, h13, Lq13, X13, N13, e13, W13, Z13, Aq13, st13⟩ := own_stB X12 hx hZ e12 Ao8 (j := (0 : Int32)) (by decide) (k := 0) (by decide) (Nat.le_of_ble_eq_true rfl) N12 go8 Z0 (g := (mkF m 173 #[.val (.int i0), .val (.int i1), .val (.long j2), .second, .val (.int i4), .val (.int i5), .val (.int (0 : Int32)), .val (.int (1 : Int32)), .val (.ref o8)] [(.int (f1_0 i5 (0 : Int32) (1 : Int32))), (.int (0 : Int32)), (.ref o8)])) rfl rfl (hb hby at_173)
      have Ao8_13 : own_A Z h13 o8 .byte [(.int (nar .byte (f1_0 i5 (0 : Int32) (1 : Int32)))), (.int xo8_1), (.int xo8_2), (.int xo8_3), (.int xo8_4), (.int xo8_5), (.int xo8_6), (.int xo8_7), (.int xo8_8)] := Aq13
      refine own_step (T' := T13) (f' := (mkF m 174 #[.val (.int i0), .val (.int i1), .val (.long j2), .second, .val (.int i4), .val (.int i5), .val (.int (0 : Int32)), .val (.int (1 : Int32)), .val (.ref o8)] [])) st13 ?_
      refine own_step (T' := T13) (f' := (mkF m 177 #[.val (.int i0), .val (.int i1), .val (.long j2), .second, .val (.int i4), .val (.int i5), .val (.int (0 : Int32)), .val (.int (1 : Int32)), .val (.ref o8)] [(.int (1 : Int32)), (.int (1 : Int32))])) (fun t kt => ?_) ?_
      · show Steps p.tables e below (T13.setTop (mkF m 174 #[.val (.int i0), .val (.int i1), .val (.long j2), .second, .val (.int i4), .val (.int i5), .val (.int (0 : Int32)), .val (.int (1 : Int32)), .val (.ref o8)] [])) _
        refine XS.iload X13.here hx rfl (hb hby at_174) rfl ?_
        show Steps p.tables e below (T13.setTop (mkF m 176 #[.val (.int i0), .val (.int i1), .val (.long j2), .second, .val (.int i4), .val (.int i5), .val (.int (0 : Int32)), .val (.int (1 : Int32)), .val (.ref o8)] [(.int (1 : Int32))])) _
        refine XS.iconst X13.here hx rfl (hb hby at_176) ?_
        exact kt
      refine own_step (T' := T13) (f' := (mkF m 195 #[.val (.int i0), .val (.int i1), .val (.long j2), .second, .val (.int i4), .val (.int i5), .val (.int (0 : Int32)), .val (.int (1 : Int32)), .val (.ref o8)] [])) (fun t kt => ?_) ?_
      · show Steps p.tables e below (T13.setTop (mkF m 177 #[.val (.int i0), .val (.int i1), .val (.long j2), .second, .val (.int i4), .val (.int i5), .val (.int (0 : Int32)), .val (.int (1 : Int32)), .val (.ref o8)] [(.int (1 : Int32)), (.int (1 : Int32))])) _
        refine XS.icmpYes X13.here hx rfl (pc0 := 177) (pc' := 195) rfl (hb hby at_177) rfl (flt (by decide : ¬ ((1 : Int32) < (1 : Int32)))).2.2.2 (by decide) (by decide) kt
      refine own_step (T' := T13) (f' := (mkF m 198 #[.val (.int i0), .val (.int i1), .val (.long j2), .second, .val (.int i4), .val (.int i5), .val (.int (0 : Int32)), .val (.int (1 : Int32)), .val (.ref o8)] [(.int (2 : Int32)), (.int (1 : Int32))])) (fun t kt => ?_) ?_
      · show Steps p.tables e below (T13.setTop (mkF m 195 #[.val (.int i0), .val (.int i1), .val (.long j2), .second, .val (.int i4), .val (.int i5), .val (.int (0 : Int32)), .val (.int (1 : Int32)), .val (.ref o8)] [])) _
        refine XS.iload X13.here hx rfl (hb hby at_195) rfl ?_
        show Steps p.tables e below (T13.setTop (mkF m 197 #[.val (.int i0), .val (.int i1), .val (.long j2), .second, .val (.int i4), .val (.int i5), .val (.int (0 : Int32)), .val (.int (1 : Int32)), .val (.ref o8)] [(.int (1 : Int32))])) _
        refine XS.iconst X13.here hx rfl (hb hby at_197) ?_
        exact kt
      refine own_step (T' := T13) (f' := (mkF m 216 #[.val (.int i0), .val (.int i1), .val (.long j2), .second, .val (.int i4), .val (.int i5), .val (.int (0 : Int32)), .val (.int (1 : Int32)), .val (.ref o8)] [])) (fun t kt => ?_) ?_
      · show Steps p.tables e below (T13.setTop (mkF m 198 #[.val (.int i0), .val (.int i1), .val (.long j2), .second, .val (.int i4), .val (.int i5), .val (.int (0 : Int32)), .val (.int (1 : Int32)), .val (.ref o8)] [(.int (2 : Int32)), (.int (1 : Int32))])) _
        refine XS.icmpYes X13.here hx rfl (pc0 := 198) (pc' := 216) rfl (hb hby at_198) rfl (flt (by decide : ¬ ((2 : Int32) < (1 : Int32)))).2.2.2 (by decide) (by decide) kt
      refine own_step (T' := T13) (f' := (mkF m 219 #[.val (.int i0), .val (.int i1), .val (.long j2), .second, .val (.int i4), .val (.int i5), .val (.int (0 : Int32)), .val (.int (1 : Int32)), .val (.ref o8)] [(.int (3 : Int32)), (.int (1 : Int32))])) (fun t kt => ?_) ?_
      · show Steps p.tables e below (T13.setTop (mkF m 216 #[.val (.int i0), .val (.int i1), .val (.long j2), .second, .val (.int i4), .val (.int i5), .val (.int (0 : Int32)), .val (.int (1 : Int32)), .val (.ref o8)] [])) _
        refine XS.iload X13.here hx rfl (hb hby at_216) rfl ?_
        show Steps p.tables e below (T13.setTop (mkF m 218 #[.val (.int i0), .val (.int i1), .val (.long j2), .second, .val (.int i4), .val (.int i5), .val (.int (0 : Int32)), .val (.int (1 : Int32)), .val (.ref o8)] [(.int (1 : Int32))])) _
        refine XS.iconst X13.here hx rfl (hb hby at_218) ?_
        exact kt
      refine own_step (T' := T13) (f' := (mkF m 237 #[.val (.int i0), .val (.int i1), .val (.long j2), .second, .val (.int i4), .val (.int i5), .val (.int (0 : Int32)), .val (.int (1 : Int32)), .val (.ref o8)] [])) (fun t kt => ?_) ?_
      · show Steps p.tables e below (T13.setTop (mkF m 219 #[.val (.int i0), .val (.int i1), .val (.long j2), .second, .val (.int i4), .val (.int i5), .val (.int (0 : Int32)), .val (.int (1 : Int32)), .val (.ref o8)] [(.int (3 : Int32)), (.int (1 : Int32))])) _
        refine XS.icmpYes X13.here hx rfl (pc0 := 219) (pc' := 237) rfl (hb hby at_219) rfl (flt (by decide : ¬ ((3 : Int32) < (1 : Int32)))).2.2.2 (by decide) (by decide) kt
      refine own_step (T' := T13) (f' := (mkF m 240 #[.val (.int i0), .val (.int i1), .val (.long j2), .second, .val (.int i4), .val (.int i5), .val (.int (0 : Int32)), .val (.int (1 : Int32)), .val (.ref o8)] [(.int (4 : Int32)), (.int (1 : Int32))])) (fun t kt => ?_) ?_
      · show Steps p.tables e below (T13.setTop (mkF m 237 #[.val (.int i0), .val (.int i1), .val (.long j2), .second, .val (.int i4), .val (.int i5), .val (.int (0 : Int32)), .val (.int (1 : Int32)), .val (.ref o8)] [])) _
        refine XS.iload X13.here hx rfl (hb hby at_237) rfl ?_
        show Steps p.tables e below (T13.setTop (mkF m 239 #[.val (.int i0), .val (.int i1), .val (.long j2), .second, .val (.int i4), .val (.int i5), .val (.int (0 : Int32)), .val (.int (1 : Int32)), .val (.ref o8)] [(.int (1 : Int32))])) _
        refine XS.iconst X13.here hx rfl (hb hby at_239) ?_
        exact kt
      refine own_step (T' := T13) (f' := (mkF m 258 #[.val (.int i0), .val (.int i1), .val (.long j2), .second, .val (.int i4), .val (.int i5), .val (.int (0 : Int32)), .val (.int (1 : Int32)), .val (.ref o8)] [])) (fun t kt => ?_) ?_
      · show Steps p.tables e below (T13.setTop (mkF m 240 #[.val (.int i0), .val (.int i1), .val (.long j2), .second, .val (.int i4), .val (.int i5), .val (.int (0 : Int32)), .val (.int (1 : Int32)), .val (.ref o8)] [(.int (4 : Int32)), (.int (1 : Int32))])) _
        refine XS.icmpYes X13.here hx rfl (pc0 := 240) (pc' := 258) rfl (hb hby at_240) rfl (flt (by decide : ¬ ((4 : Int32) < (1 : Int32)))).2.2.2 (by decide) (by decide) kt
      refine own_step (T' := T13) (f' := (mkF m 262 #[.val (.int i0), .val (.int i1), .val (.long j2), .second, .val (.int i4), .val (.int i5), .val (.int (0 : Int32)), .val (.int (1 : Int32)), .val (.ref o8)] [(.int (0 : Int32)), (.ref o8)])) (fun t kt => ?_) ?_
      · show Steps p.tables e below (T13.setTop (mkF m 258 #[.val (.int i0), .val (.int i1), .val (.long j2), .second, .val (.int i4), .val (.int i5), .val (.int (0 : Int32)), .val (.int (1 : Int32)), .val (.ref o8)] [])) _
        refine XS.aload X13.here hx rfl (hb hby at_258) rfl rfl ?_
        show Steps p.tables e below (T13.setTop (mkF m 260 #[.val (.int i0), .val (.int i1), .val (.long j2), .second, .val (.int i4), .val (.int i5), .val (.int (0 : Int32)), .val (.int (1 : Int32)), .val (.ref o8)] [(.ref o8)])) _
        refine XS.iload X13.here hx rfl (hb hby at_260) rfl ?_
        exact kt
      obtain ⟨_, _, ⟨T18, L18, k18, n18⟩, -, X18, ⟨Lc18, hQ18, l18, y18, z18⟩, st18⟩ := Jvm.LawKit.callS X13 hx (y := (⟨"hotstate/sort/VarInts", "read", "([BI)I"⟩ : MethodName)) hown (mvT hZ (hw _ (List.mem_of_getElem? (i := 6) rfl))) (mvT hZ (hw _ (List.mem_of_getElem? (i := 7) rfl))) (mvT hZ (hw _ (List.mem_of_getElem? (i := 8) rfl))) (mvT hZ (hw _ (List.mem_of_getElem? (i := 9) rfl))) (by decide) (backOf (W := 0) (rm2n1 l Z a0 hw [] o8 (0 : Int32) (nar .byte (f1_0 i5 (0 : Int32) (1 : Int32))) [(.int (nar .byte (f1_0 i5 (0 : Int32) (1 : Int32)))), (.int xo8_1), (.int xo8_2), (.int xo8_3), (.int xo8_4), (.int xo8_5), (.int xo8_6), (.int xo8_7), (.int xo8_8)] h13 n0 Ao8_13 (by decide) rfl (own_last1 i5)) hZ (hw _ (List.mem_of_getElem? (i := 9) rfl)) (hw _ (List.mem_of_getElem? (i := 8) rfl)) (by decide) (by decide)) (g := (mkF m 262 #[.val (.int i0), .val (.int i1), .val (.long j2), .second, .val (.int i4), .val (.int i5), .val (.int (0 : Int32)), .val (.int (1 : Int32)), .val (.ref o8)] [(.int (0 : Int32)), (.ref o8)])) rfl (by rw [hml]; rfl) (argsL := [(.ref o8), (.int (0 : Int32))]) (rest := []) (lenOf pd2 rfl) rfl (by show 2 * 0 + _ ≤ _; exact Nat.le_of_eq rfl) (hb hby at_262) (fun _ _ => ⟨rfl, e13, (by decide : 1 + 0 ≤ _), (by decide : 9 + 0 ≤ _)⟩)
      dsimp only [Pt.U, Pt.locs, Pt.cells, Pt.slots] at X18 l18 y18 z18 st18 hQ18
      subst l18 y18 z18
      obtain ⟨rfl, Nq18, e18⟩ := hQ18
      have N18 := Fr.app N13 Nq18
      refine own_step (T' := T18) (f' := (mkF m 265 #[.val (.int i0), .val (.int i1), .val (.long j2), .second, .val (.int i4), .val (.int i5), .val (.int (0 : Int32)), .val (.int (1 : Int32)), .val (.ref o8)] [(.int (f2n1_0 (0 : Int32) (nar .byte (f1_0 i5 (0 : Int32) (1 : Int32)))))])) st18 ?_
      refine own_step (T' := T18) (f' := (mkF m 267 #[.val (.int i0), .val (.int i1), .val (.long j2), .second, .val (.int i4), .val (.int i5), .val (.int (0 : Int32)), .val (.int (1 : Int32)), .val (.ref o8)] [(.int i5), (.int (f2n1_0 (0 : Int32) (nar .byte (f1_0 i5 (0 : Int32) (1 : Int32)))))])) (fun t kt => ?_) ?_
      · show Steps p.tables e below (T18.setTop (mkF m 265 #[.val (.int i0), .val (.int i1), .val (.long j2), .second, .val (.int i4), .val (.int i5), .val (.int (0 : Int32)), .val (.int (1 : Int32)), .val (.ref o8)] [(.int (f2n1_0 (0 : Int32) (nar .byte (f1_0 i5 (0 : Int32) (1 : Int32)))))])) _
        refine XS.iload X18.here hx rfl (hb hby at_265) rfl ?_
        exact kt
      by_cases hc267_19 : (f2n1_0 (0 : Int32) (nar .byte (f1_0 i5 (0 : Int32) (1 : Int32)))) = i5
      · replace hr := hr.trans (if_pos hc267_19)
        refine own_step (T' := T18) (f' := (mkF m 270 #[.val (.int i0), .val (.int i1), .val (.long j2), .second, .val (.int i4), .val (.int i5), .val (.int (0 : Int32)), .val (.int (1 : Int32)), .val (.ref o8)] [])) (fun t kt => ?_) ?_
        · show Steps p.tables e below (T18.setTop (mkF m 267 #[.val (.int i0), .val (.int i1), .val (.long j2), .second, .val (.int i4), .val (.int i5), .val (.int (0 : Int32)), .val (.int (1 : Int32)), .val (.ref o8)] [(.int i5), (.int (f2n1_0 (0 : Int32) (nar .byte (f1_0 i5 (0 : Int32) (1 : Int32)))))])) _
          refine XS.icmpNo X18.here hx rfl (hb hby at_267) rfl (teq hc267_19).2 kt
        refine own_step (T' := T18) (f' := (mkF m 275 #[.val (.int i0), .val (.int i1), .val (.long j2), .second, .val (.int i4), .val (.int i5), .val (.int (0 : Int32)), .val (.int (1 : Int32)), .val (.ref o8)] [(.int (1 : Int32))])) (fun t kt => ?_) ?_
        · show Steps p.tables e below (T18.setTop (mkF m 270 #[.val (.int i0), .val (.int i1), .val (.long j2), .second, .val (.int i4), .val (.int i5), .val (.int (0 : Int32)), .val (.int (1 : Int32)), .val (.ref o8)] [])) _
          refine XS.iconst X18.here hx rfl (hb hby at_270) ?_
          show Steps p.tables e below (T18.setTop (mkF m 271 #[.val (.int i0), .val (.int i1), .val (.long j2), .second, .val (.int i4), .val (.int i5), .val (.int (0 : Int32)), .val (.int (1 : Int32)), .val (.ref o8)] [(.int (1 : Int32))])) _
          refine XS.goto X18.here hx rfl (pc0 := 271) (pc' := 275) rfl (hb hby at_271) (by decide) (by decide) ?_
          exact kt
        exact own_retZ X18 hx hret (by simp) hlk (hb hby at_275) (by decide) (by decide) ⟨congrArg (fun z => some (Value.int z)) hr.symm, N18⟩
      · replace hr := hr.trans (if_neg hc267_19)
        refine own_step (T' := T18) (f' := (mkF m 274 #[.val (.int i0), .val (.int i1), .val (.long j2), .second, .val (.int i4), .val (.int i5), .val (.int (0 : Int32)), .val (.int (1 : Int32)), .val (.ref o8)] [])) (fun t kt => ?_) ?_
        · show Steps p.tables e below (T18.setTop (mkF m 267 #[.val (.int i0), .val (.int i1), .val (.long j2), .second, .val (.int i4), .val (.int i5), .val (.int (0 : Int32)), .val (.int (1 : Int32)), .val (.ref o8)] [(.int i5), (.int (f2n1_0 (0 : Int32) (nar .byte (f1_0 i5 (0 : Int32) (1 : Int32)))))])) _
          refine XS.icmpYes X18.here hx rfl (pc0 := 267) (pc' := 274) rfl (hb hby at_267) rfl (feq hc267_19).2 (by decide) (by decide) kt
        refine own_step (T' := T18) (f' := (mkF m 275 #[.val (.int i0), .val (.int i1), .val (.long j2), .second, .val (.int i4), .val (.int i5), .val (.int (0 : Int32)), .val (.int (1 : Int32)), .val (.ref o8)] [(.int (0 : Int32))])) (fun t kt => ?_) ?_
        · show Steps p.tables e below (T18.setTop (mkF m 274 #[.val (.int i0), .val (.int i1), .val (.long j2), .second, .val (.int i4), .val (.int i5), .val (.int (0 : Int32)), .val (.int (1 : Int32)), .val (.ref o8)] [])) _
          refine XS.iconst X18.here hx rfl (hb hby at_274) ?_
          exact kt
        exact own_retZ X18 hx hret (by simp) hlk (hb hby at_275) (by decide) (by decide) ⟨congrArg (fun z => some (Value.int z)) hr.symm, N18⟩
    · replace hr := hr.trans ((if_neg (by decide)).trans (if_pos rfl))
      refine own_step (T' := T0) (f' := (mkF m 170 #[.val (.int i0), .val (.int i1), .val (.long j2), .second, .val (.int i4), .val (.int i5), .val (.int (0 : Int32)), .val (.int (2 : Int32)), .val (.ref o8)] [(.int (2 : Int32)), (.int (0 : Int32)), (.int i5), (.int (0 : Int32)), (.ref o8)])) (fun t kt => ?_) ?_
      · show Steps p.tables e below (T0.setTop (mkF m 161 #[.val (.int i0), .val (.int i1), .val (.long j2), .second, .val (.int i4), .val (.int i5), .val (.int (0 : Int32)), .val (.int (2 : Int32)), .val (.ref o8)] [])) _
        refine XS.aload X0.here hx rfl (hb hby at_161) rfl rfl ?_
        show Steps p.tables e below (T0.setTop (mkF m 163 #[.val (.int i0), .val (.int i1), .val (.long j2), .second, .val (.int i4), .val (.int i5), .val (.int (0 : Int32)), .val (.int (2 : Int32)), .val (.ref o8)] [(.ref o8)])) _
        refine XS.iload X0.here hx rfl (hb hby at_163) rfl ?_
        show Steps p.tables e below (T0.setTop (mkF m 165 #[.val (.int i0), .val (.int i1), .val (.long j2), .second, .val (.int i4), .val (.int i5), .val (.int (0 : Int32)), .val (.int (2 : Int32)), .val (.ref o8)] [(.int (0 : Int32)), (.ref o8)])) _
        refine XS.iload X0.here hx rfl (hb hby at_165) rfl ?_
        show Steps p.tables e below (T0.setTop (mkF m 167 #[.val (.int i0), .val (.int i1), .val (.long j2), .second, .val (.int i4), .val (.int i5), .val (.int (0 : Int32)), .val (.int (2 : Int32)), .val (.ref o8)] [(.int i5), (.int (0 : Int32)), (.ref o8)])) _
        refine XS.iconst X0.here hx rfl (hb hby at_167) ?_
        show Steps p.tables e below (T0.setTop (mkF m 168 #[.val (.int i0), .val (.int i1), .val (.long j2), .second, .val (.int i4), .val (.int i5), .val (.int (0 : Int32)), .val (.int (2 : Int32)), .val (.ref o8)] [(.int (0 : Int32)), (.int i5), (.int (0 : Int32)), (.ref o8)])) _
        refine XS.iload X0.here hx rfl (hb hby at_168) rfl ?_
        exact kt
      obtain ⟨_, _, ⟨T20, L20, k20, n20⟩, -, X20, ⟨Lc20, hQ20, l20, y20, z20⟩, st20⟩ := Jvm.LawKit.callS X0 hx (y := (⟨"hotstate/sort/VarIntsReadPinLaw", "enc", "(III)B"⟩ : MethodName)) hown (mvT hZ (hw _ (List.mem_of_getElem? (i := 2) rfl))) (mvT hZ (hw _ (List.mem_of_getElem? (i := 3) rfl))) (mvT hZ (hw _ (List.mem_of_getElem? (i := 4) rfl))) (mvT hZ (hw _ (List.mem_of_getElem? (i := 5) rfl))) (by decide) (backOf (W := 2) (rm1 l Z a0 hw [] i5 (0 : Int32) (2 : Int32)  h0 n0 ) hZ (hw _ (List.mem_of_getElem? (i := 5) rfl)) (hw _ (List.mem_of_getElem? (i := 4) rfl)) (by decide) (by decide)) (g := (mkF m 170 #[.val (.int i0), .val (.int i1), .val (.long j2), .second, .val (.int i4), .val (.int i5), .val (.int (0 : Int32)), .val (.int (2 : Int32)), .val (.ref o8)] [(.int (2 : Int32)), (.int (0 : Int32)), (.int i5), (.int (0 : Int32)), (.ref o8)])) rfl (by rw [hml]; rfl) (argsL := [(.int i5), (.int (0 : Int32)), (.int (2 : Int32))]) (rest := [(.int (0 : Int32)), (.ref o8)]) (lenOf pd1 rfl) rfl (by show 2 * 0 + _ ≤ _; exact Nat.le_of_eq rfl) (hb hby at_170) (fun _ _ => ⟨rfl, e0, (by decide : 1 + 0 ≤ _), (by decide : 9 + 0 ≤ _)⟩)
      dsimp only [Pt.U, Pt.locs, Pt.cells, Pt.slots] at X20 l20 y20 z20 st20 hQ20
      subst l20 y20 z20
      obtain ⟨rfl, Nq20, e20⟩ := hQ20
      have N20 := Fr.app N0 Nq20
      refine own_step (T' := T20) (f' := (mkF m 173 #[.val (.int i0), .val (.int i1), .val (.long j2), .second, .val (.int i4), .val (.int i5), .val (.int (0 : Int32)), .val (.int (2 : Int32)), .val (.ref o8)] [(.int (f1_0 i5 (0 : Int32) (2 : Int32))), (.int (0 : Int32)), (.ref o8)])) st20 ?_
      obtain ⟨T21, h21, Lq21, X21, N21, e21, W21, Z21, Aq21, st21⟩ := own_stB X20 hx hZ e20 Ao8 (j := (0 : Int32)) (by decide) (k := 0) (by decide) (Nat.le_of_ble_eq_true rfl) N20 go8 Z0 (g := (mkF m 173 #[.val (.int i0), .val (.int i1), .val (.long j2), .second, .val (.int i4), .val (.int i5), .val (.int (0 : Int32)), .val (.int (2 : Int32)), .val (.ref o8)] [(.int (f1_0 i5 (0 : Int32) (2 : Int32))), (.int (0 : Int32)), (.ref o8)])) rfl rfl (hb hby at_173)
      have Ao8_21 : own_A Z h21 o8 .byte [(.int (nar .byte (f1_0 i5 (0 : Int32) (2 : Int32)))), (.int xo8_1), (.int xo8_2), (.int xo8_3), (.int xo8_4), (.int xo8_5), (.int xo8_6), (.int xo8_7), (.int xo8_8)] := Aq21
      refine own_step (T' := T21) (f' := (mkF m 174 #[.val (.int i0), .val (.int i1), .val (.long j2), .second, .val (.int i4), .val (.int i5), .val (.int (0 : Int32)), .val (.int (2 : Int32)), .val (.ref o8)] [])) st21 ?_
      refine own_step (T' := T21) (f' := (mkF m 177 #[.val (.int i0), .val (.int i1), .val (.long j2), .second, .val (.int i4), .val (.int i5), .val (.int (0 : Int32)), .val (.int (2 : Int32)), .val (.ref o8)] [(.int (1 : Int32)), (.int (2 : Int32))])) (fun t kt => ?_) ?_
      · show Steps p.tables e below (T21.setTop (mkF m 174 #[.val (.int i0), .val (.int i1), .val (.long j2), .second, .val (.int i4), .val (.int i5), .val (.int (0 : Int32)), .val (.int (2 : Int32)), .val (.ref o8)] [])) _
        refine XS.iload X21.here hx rfl (hb hby at_174) rfl ?_
        show Steps p.tables e below (T21.setTop (mkF m 176 #[.val (.int i0), .val (.int i1), .val (.long j2), .second, .val (.int i4), .val (.int i5), .val (.int (0 : Int32)), .val (.int (2 : Int32)), .val (.ref o8)] [(.int (2 : Int32))])) _
        refine XS.iconst X21.here hx rfl (hb hby at_176) ?_
        exact kt
      refine own_step (T' := T21) (f' := (mkF m 180 #[.val (.int i0), .val (.int i1), .val (.long j2), .second, .val (.int i4), .val (.int i5), .val (.int (0 : Int32)), .val (.int (2 : Int32)), .val (.ref o8)] [])) (fun t kt => ?_) ?_
      · show Steps p.tables e below (T21.setTop (mkF m 177 #[.val (.int i0), .val (.int i1), .val (.long j2), .second, .val (.int i4), .val (.int i5), .val (.int (0 : Int32)), .val (.int (2 : Int32)), .val (.ref o8)] [(.int (1 : Int32)), (.int (2 : Int32))])) _
        refine XS.icmpNo X21.here hx rfl (hb hby at_177) rfl (tlt (by decide : ((1 : Int32) < (2 : Int32)))).2.2.2 kt
      refine own_step (T' := T21) (f' := (mkF m 191 #[.val (.int i0), .val (.int i1), .val (.long j2), .second, .val (.int i4), .val (.int i5), .val (.int (0 : Int32)), .val (.int (2 : Int32)), .val (.ref o8)] [(.int (2 : Int32)), (.int (1 : Int32)), (.int i5), (.int (1 : Int32)), (.ref o8)])) (fun t kt => ?_) ?_
      · show Steps p.tables e below (T21.setTop (mkF m 180 #[.val (.int i0), .val (.int i1), .val (.long j2), .second, .val (.int i4), .val (.int i5), .val (.int (0 : Int32)), .val (.int (2 : Int32)), .val (.ref o8)] [])) _
        refine XS.aload X21.here hx rfl (hb hby at_180) rfl rfl ?_
        show Steps p.tables e below (T21.setTop (mkF m 182 #[.val (.int i0), .val (.int i1), .val (.long j2), .second, .val (.int i4), .val (.int i5), .val (.int (0 : Int32)), .val (.int (2 : Int32)), .val (.ref o8)] [(.ref o8)])) _
        refine XS.iload X21.here hx rfl (hb hby at_182) rfl ?_
        show Steps p.tables e below (T21.setTop (mkF m 184 #[.val (.int i0), .val (.int i1), .val (.long j2), .second, .val (.int i4), .val (.int i5), .val (.int (0 : Int32)), .val (.int (2 : Int32)), .val (.ref o8)] [(.int (0 : Int32)), (.ref o8)])) _
        refine XS.iconst X21.here hx rfl (hb hby at_184) ?_
        show Steps p.tables e below (T21.setTop (mkF m 185 #[.val (.int i0), .val (.int i1), .val (.long j2), .second, .val (.int i4), .val (.int i5), .val (.int (0 : Int32)), .val (.int (2 : Int32)), .val (.ref o8)] [(.int (1 : Int32)), (.int (0 : Int32)), (.ref o8)])) _
        refine XS.iadd X21.here hx rfl (hb hby at_185) rfl ?_
        show Steps p.tables e below (T21.setTop (mkF m 186 #[.val (.int i0), .val (.int i1), .val (.long j2), .second, .val (.int i4), .val (.int i5), .val (.int (0 : Int32)), .val (.int (2 : Int32)), .val (.ref o8)] [(.int (1 : Int32)), (.ref o8)])) _
        refine XS.iload X21.here hx rfl (hb hby at_186) rfl ?_
        show Steps p.tables e below (T21.setTop (mkF m 188 #[.val (.int i0), .val (.int i1), .val (.long j2), .second, .val (.int i4), .val (.int i5), .val (.int (0 : Int32)), .val (.int (2 : Int32)), .val (.ref o8)] [(.int i5), (.int (1 : Int32)), (.ref o8)])) _
        refine XS.iconst X21.here hx rfl (hb hby at_188) ?_
        show Steps p.tables e below (T21.setTop (mkF m 189 #[.val (.int i0), .val (.int i1), .val (.long j2), .second, .val (.int i4), .val (.int i5), .val (.int (0 : Int32)), .val (.int (2 : Int32)), .val (.ref o8)] [(.int (1 : Int32)), (.int i5), (.int (1 : Int32)), (.ref o8)])) _
        refine XS.iload X21.here hx rfl (hb hby at_189) rfl ?_
        exact kt
      obtain ⟨_, _, ⟨T23, L23, k23, n23⟩, -, X23, ⟨Lc23, hQ23, l23, y23, z23⟩, st23⟩ := Jvm.LawKit.callS X21 hx (y := (⟨"hotstate/sort/VarIntsReadPinLaw", "enc", "(III)B"⟩ : MethodName)) hown (mvT hZ (hw _ (List.mem_of_getElem? (i := 2) rfl))) (mvT hZ (hw _ (List.mem_of_getElem? (i := 3) rfl))) (mvT hZ (hw _ (List.mem_of_getElem? (i := 4) rfl))) (mvT hZ (hw _ (List.mem_of_getElem? (i := 5) rfl))) (by decide) (backOf (W := 2) (rm1 l Z a0 hw [] i5 (1 : Int32) (2 : Int32)  h21 n0 ) hZ (hw _ (List.mem_of_getElem? (i := 5) rfl)) (hw _ (List.mem_of_getElem? (i := 4) rfl)) (by decide) (by decide)) (g := (mkF m 191 #[.val (.int i0), .val (.int i1), .val (.long j2), .second, .val (.int i4), .val (.int i5), .val (.int (0 : Int32)), .val (.int (2 : Int32)), .val (.ref o8)] [(.int (2 : Int32)), (.int (1 : Int32)), (.int i5), (.int (1 : Int32)), (.ref o8)])) rfl (by rw [hml]; rfl) (argsL := [(.int i5), (.int (1 : Int32)), (.int (2 : Int32))]) (rest := [(.int (1 : Int32)), (.ref o8)]) (lenOf pd1 rfl) rfl (by show 2 * 0 + _ ≤ _; exact Nat.le_of_eq rfl) (hb hby at_191) (fun _ _ => ⟨rfl, e21, (by decide : 1 + 0 ≤ _), (by decide : 9 + 0 ≤ _)⟩)
      dsimp only [Pt.U, Pt.locs, Pt.cells, Pt.slots] at X23 l23 y23 z23 st23 hQ23
      subst l23 y23 z23
      obtain ⟨rfl, Nq23, e23⟩ := hQ23
      have N23 := Fr.app N21 Nq23
      refine own_step (T' := T23) (f' := (mkF m 194 #[.val (.int i0), .val (.int i1), .val (.long j2), .second, .val (.int i4), .val (.int i5), .val (.int (0 : Int32)), .val (.int (2 : Int32)), .val (.ref o8)] [(.int (f1_0 i5 (1 : Int32) (2 : Int32))), (.int (1 : Int32)), (.ref o8)])) st23 ?_
      obtain ⟨T24, h24, Lq24, X24, N24, e24, W24, Z24, Aq24, st24⟩ := own_stB X23 hx hZ e23 Ao8_21 (j := (1 : Int32)) (by decide) (k := 1) (by decide) (Nat.le_of_ble_eq_true rfl) N23 go8 Z21 (g := (mkF m 194 #[.val (.int i0), .val (.int i1), .val (.long j2), .second, .val (.int i4), .val (.int i5), .val (.int (0 : Int32)), .val (.int (2 : Int32)), .val (.ref o8)] [(.int (f1_0 i5 (1 : Int32) (2 : Int32))), (.int (1 : Int32)), (.ref o8)])) rfl rfl (hb hby at_194)
      have Ao8_24 : own_A Z h24 o8 .byte [(.int (nar .byte (f1_0 i5 (0 : Int32) (2 : Int32)))), (.int (nar .byte (f1_0 i5 (1 : Int32) (2 : Int32)))), (.int xo8_2), (.int xo8_3), (.int xo8_4), (.int xo8_5), (.int xo8_6), (.int xo8_7), (.int xo8_8)] := Aq24
      refine own_step (T' := T24) (f' := (mkF m 195 #[.val (.int i0), .val (.int i1), .val (.long j2), .second, .val (.int i4), .val (.int i5), .val (.int (0 : Int32)), .val (.int (2 : Int32)), .val (.ref o8)] [])) st24 ?_
      refine own_step (T' := T24) (f' := (mkF m 198 #[.val (.int i0), .val (.int i1), .val (.long j2), .second, .val (.int i4), .val (.int i5), .val (.int (0 : Int32)), .val (.int (2 : Int32)), .val (.ref o8)] [(.int (2 : Int32)), (.int (2 : Int32))])) (fun t kt => ?_) ?_
      · show Steps p.tables e below (T24.setTop (mkF m 195 #[.val (.int i0), .val (.int i1), .val (.long j2), .second, .val (.int i4), .val (.int i5), .val (.int (0 : Int32)), .val (.int (2 : Int32)), .val (.ref o8)] [])) _
        refine XS.iload X24.here hx rfl (hb hby at_195) rfl ?_
        show Steps p.tables e below (T24.setTop (mkF m 197 #[.val (.int i0), .val (.int i1), .val (.long j2), .second, .val (.int i4), .val (.int i5), .val (.int (0 : Int32)), .val (.int (2 : Int32)), .val (.ref o8)] [(.int (2 : Int32))])) _
        refine XS.iconst X24.here hx rfl (hb hby at_197) ?_
        exact kt
      refine own_step (T' := T24) (f' := (mkF m 216 #[.val (.int i0), .val (.int i1), .val (.long j2), .second, .val (.int i4), .val (.int i5), .val (.int (0 : Int32)), .val (.int (2 : Int32)), .val (.ref o8)] [])) (fun t kt => ?_) ?_
      · show Steps p.tables e below (T24.setTop (mkF m 198 #[.val (.int i0), .val (.int i1), .val (.long j2), .second, .val (.int i4), .val (.int i5), .val (.int (0 : Int32)), .val (.int (2 : Int32)), .val (.ref o8)] [(.int (2 : Int32)), (.int (2 : Int32))])) _
        refine XS.icmpYes X24.here hx rfl (pc0 := 198) (pc' := 216) rfl (hb hby at_198) rfl (flt (by decide : ¬ ((2 : Int32) < (2 : Int32)))).2.2.2 (by decide) (by decide) kt
      refine own_step (T' := T24) (f' := (mkF m 219 #[.val (.int i0), .val (.int i1), .val (.long j2), .second, .val (.int i4), .val (.int i5), .val (.int (0 : Int32)), .val (.int (2 : Int32)), .val (.ref o8)] [(.int (3 : Int32)), (.int (2 : Int32))])) (fun t kt => ?_) ?_
      · show Steps p.tables e below (T24.setTop (mkF m 216 #[.val (.int i0), .val (.int i1), .val (.long j2), .second, .val (.int i4), .val (.int i5), .val (.int (0 : Int32)), .val (.int (2 : Int32)), .val (.ref o8)] [])) _
        refine XS.iload X24.here hx rfl (hb hby at_216) rfl ?_
        show Steps p.tables e below (T24.setTop (mkF m 218 #[.val (.int i0), .val (.int i1), .val (.long j2), .second, .val (.int i4), .val (.int i5), .val (.int (0 : Int32)), .val (.int (2 : Int32)), .val (.ref o8)] [(.int (2 : Int32))])) _
        refine XS.iconst X24.here hx rfl (hb hby at_218) ?_
        exact kt
      refine own_step (T' := T24) (f' := (mkF m 237 #[.val (.int i0), .val (.int i1), .val (.long j2), .second, .val (.int i4), .val (.int i5), .val (.int (0 : Int32)), .val (.int (2 : Int32)), .val (.ref o8)] [])) (fun t kt => ?_) ?_
      · show Steps p.tables e below (T24.setTop (mkF m 219 #[.val (.int i0), .val (.int i1), .val (.long j2), .second, .val (.int i4), .val (.int i5), .val (.int (0 : Int32)), .val (.int (2 : Int32)), .val (.ref o8)] [(.int (3 : Int32)), (.int (2 : Int32))])) _
        refine XS.icmpYes X24.here hx rfl (pc0 := 219) (pc' := 237) rfl (hb hby at_219) rfl (flt (by decide : ¬ ((3 : Int32) < (2 : Int32)))).2.2.2 (by decide) (by decide) kt
      refine own_step (T' := T24) (f' := (mkF m 240 #[.val (.int i0), .val (.int i1), .val (.long j2), .second, .val (.int i4), .val (.int i5), .val (.int (0 : Int32)), .val (.int (2 : Int32)), .val (.ref o8)] [(.int (4 : Int32)), (.int (2 : Int32))])) (fun t kt => ?_) ?_
      · show Steps p.tables e below (T24.setTop (mkF m 237 #[.val (.int i0), .val (.int i1), .val (.long j2), .second, .val (.int i4), .val (.int i5), .val (.int (0 : Int32)), .val (.int (2 : Int32)), .val (.ref o8)] [])) _
        refine XS.iload X24.here hx rfl (hb hby at_237) rfl ?_
        show Steps p.tables e below (T24.setTop (mkF m 239 #[.val (.int i0), .val (.int i1), .val (.long j2), .second, .val (.int i4), .val (.int i5), .val (.int (0 : Int32)), .val (.int (2 : Int32)), .val (.ref o8)] [(.int (2 : Int32))])) _
        refine XS.iconst X24.here hx rfl (hb hby at_239) ?_
        exact kt
      refine own_step (T' := T24) (f' := (mkF m 258 #[.val (.int i0), .val (.int i1), .val (.long j2), .second, .val (.int i4), .val (.int i5), .val (.int (0 : Int32)), .val (.int (2 : Int32)), .val (.ref o8)] [])) (fun t kt => ?_) ?_
      · show Steps p.tables e below (T24.setTop (mkF m 240 #[.val (.int i0), .val (.int i1), .val (.long j2), .second, .val (.int i4), .val (.int i5), .val (.int (0 : Int32)), .val (.int (2 : Int32)), .val (.ref o8)] [(.int (4 : Int32)), (.int (2 : Int32))])) _
        refine XS.icmpYes X24.here hx rfl (pc0 := 240) (pc' := 258) rfl (hb hby at_240) rfl (flt (by decide : ¬ ((4 : Int32) < (2 : Int32)))).2.2.2 (by decide) (by decide) kt
      refine own_step (T' := T24) (f' := (mkF m 262 #[.val (.int i0), .val (.int i1), .val (.long j2), .second, .val (.int i4), .val (.int i5), .val (.int (0 : Int32)), .val (.int (2 : Int32)), .val (.ref o8)] [(.int (0 : Int32)), (.ref o8)])) (fun t kt => ?_) ?_
      · show Steps p.tables e below (T24.setTop (mkF m 258 #[.val (.int i0), .val (.int i1), .val (.long j2), .second, .val (.int i4), .val (.int i5), .val (.int (0 : Int32)), .val (.int (2 : Int32)), .val (.ref o8)] [])) _
        refine XS.aload X24.here hx rfl (hb hby at_258) rfl rfl ?_
        show Steps p.tables e below (T24.setTop (mkF m 260 #[.val (.int i0), .val (.int i1), .val (.long j2), .second, .val (.int i4), .val (.int i5), .val (.int (0 : Int32)), .val (.int (2 : Int32)), .val (.ref o8)] [(.ref o8)])) _
        refine XS.iload X24.here hx rfl (hb hby at_260) rfl ?_
        exact kt
      obtain ⟨_, _, ⟨T28, L28, k28, n28⟩, -, X28, ⟨Lc28, hQ28, l28, y28, z28⟩, st28⟩ := Jvm.LawKit.callS X24 hx (y := (⟨"hotstate/sort/VarInts", "read", "([BI)I"⟩ : MethodName)) hown (mvT hZ (hw _ (List.mem_of_getElem? (i := 6) rfl))) (mvT hZ (hw _ (List.mem_of_getElem? (i := 7) rfl))) (mvT hZ (hw _ (List.mem_of_getElem? (i := 8) rfl))) (mvT hZ (hw _ (List.mem_of_getElem? (i := 9) rfl))) (by decide) (backOf (W := 0) (rm2n2 l Z a0 hw [] o8 (0 : Int32) (nar .byte (f1_0 i5 (0 : Int32) (2 : Int32))) (nar .byte (f1_0 i5 (1 : Int32) (2 : Int32))) [(.int (nar .byte (f1_0 i5 (0 : Int32) (2 : Int32)))), (.int (nar .byte (f1_0 i5 (1 : Int32) (2 : Int32)))), (.int xo8_2), (.int xo8_3), (.int xo8_4), (.int xo8_5), (.int xo8_6), (.int xo8_7), (.int xo8_8)] h24 n0 Ao8_24 (by decide) rfl rfl (own_last2 i5)) hZ (hw _ (List.mem_of_getElem? (i := 9) rfl)) (hw _ (List.mem_of_getElem? (i := 8) rfl)) (by decide) (by decide)) (g := (mkF m 262 #[.val (.int i0), .val (.int i1), .val (.long j2), .second, .val (.int i4), .val (.int i5), .val (.int (0 : Int32)), .val (.int (2 : Int32)), .val (.ref o8)] [(.int (0 : Int32)), (.ref o8)])) rfl (by rw [hml]; rfl) (argsL := [(.ref o8), (.int (0 : Int32))]) (rest := []) (lenOf pd2 rfl) rfl (by show 2 * 0 + _ ≤ _; exact Nat.le_of_eq rfl) (hb hby at_262) (fun _ _ => ⟨rfl, e24, (by decide : 1 + 0 ≤ _), (by decide : 9 + 0 ≤ _)⟩)
      dsimp only [Pt.U, Pt.locs, Pt.cells, Pt.slots] at X28 l28 y28 z28 st28 hQ28
      subst l28 y28 z28
      obtain ⟨rfl, Nq28, e28⟩ := hQ28
      have N28 := Fr.app N24 Nq28
      refine own_step (T' := T28) (f' := (mkF m 265 #[.val (.int i0), .val (.int i1), .val (.long j2), .second, .val (.int i4), .val (.int i5), .val (.int (0 : Int32)), .val (.int (2 : Int32)), .val (.ref o8)] [(.int (f2n2_0 (0 : Int32) (nar .byte (f1_0 i5 (0 : Int32) (2 : Int32))) (nar .byte (f1_0 i5 (1 : Int32) (2 : Int32)))))])) st28 ?_
      refine own_step (T' := T28) (f' := (mkF m 267 #[.val (.int i0), .val (.int i1), .val (.long j2), .second, .val (.int i4), .val (.int i5), .val (.int (0 : Int32)), .val (.int (2 : Int32)), .val (.ref o8)] [(.int i5), (.int (f2n2_0 (0 : Int32) (nar .byte (f1_0 i5 (0 : Int32) (2 : Int32))) (nar .byte (f1_0 i5 (1 : Int32) (2 : Int32)))))])) (fun t kt => ?_) ?_
      · show Steps p.tables e below (T28.setTop (mkF m 265 #[.val (.int i0), .val (.int i1), .val (.long j2), .second, .val (.int i4), .val (.int i5), .val (.int (0 : Int32)), .val (.int (2 : Int32)), .val (.ref o8)] [(.int (f2n2_0 (0 : Int32) (nar .byte (f1_0 i5 (0 : Int32) (2 : Int32))) (nar .byte (f1_0 i5 (1 : Int32) (2 : Int32)))))])) _
        refine XS.iload X28.here hx rfl (hb hby at_265) rfl ?_
        exact kt
      by_cases hc267_29 : (f2n2_0 (0 : Int32) (nar .byte (f1_0 i5 (0 : Int32) (2 : Int32))) (nar .byte (f1_0 i5 (1 : Int32) (2 : Int32)))) = i5
      · replace hr := hr.trans (if_pos hc267_29)
        refine own_step (T' := T28) (f' := (mkF m 270 #[.val (.int i0), .val (.int i1), .val (.long j2), .second, .val (.int i4), .val (.int i5), .val (.int (0 : Int32)), .val (.int (2 : Int32)), .val (.ref o8)] [])) (fun t kt => ?_) ?_
        · show Steps p.tables e below (T28.setTop (mkF m 267 #[.val (.int i0), .val (.int i1), .val (.long j2), .second, .val (.int i4), .val (.int i5), .val (.int (0 : Int32)), .val (.int (2 : Int32)), .val (.ref o8)] [(.int i5), (.int (f2n2_0 (0 : Int32) (nar .byte (f1_0 i5 (0 : Int32) (2 : Int32))) (nar .byte (f1_0 i5 (1 : Int32) (2 : Int32)))))])) _
          refine XS.icmpNo X28.here hx rfl (hb hby at_267) rfl (teq hc267_29).2 kt
        refine own_step (T' := T28) (f' := (mkF m 275 #[.val (.int i0), .val (.int i1), .val (.long j2), .second, .val (.int i4), .val (.int i5), .val (.int (0 : Int32)), .val (.int (2 : Int32)), .val (.ref o8)] [(.int (1 : Int32))])) (fun t kt => ?_) ?_
        · show Steps p.tables e below (T28.setTop (mkF m 270 #[.val (.int i0), .val (.int i1), .val (.long j2), .second, .val (.int i4), .val (.int i5), .val (.int (0 : Int32)), .val (.int (2 : Int32)), .val (.ref o8)] [])) _
          refine XS.iconst X28.here hx rfl (hb hby at_270) ?_
          show Steps p.tables e below (T28.setTop (mkF m 271 #[.val (.int i0), .val (.int i1), .val (.long j2), .second, .val (.int i4), .val (.int i5), .val (.int (0 : Int32)), .val (.int (2 : Int32)), .val (.ref o8)] [(.int (1 : Int32))])) _
          refine XS.goto X28.here hx rfl (pc0 := 271) (pc' := 275) rfl (hb hby at_271) (by decide) (by decide) ?_
          exact kt
        exact own_retZ X28 hx hret (by simp) hlk (hb hby at_275) (by decide) (by decide) ⟨congrArg (fun z => some (Value.int z)) hr.symm, N28⟩
      · replace hr := hr.trans (if_neg hc267_29)
        refine own_step (T' := T28) (f' := (mkF m 274 #[.val (.int i0), .val (.int i1), .val (.long j2), .second, .val (.int i4), .val (.int i5), .val (.int (0 : Int32)), .val (.int (2 : Int32)), .val (.ref o8)] [])) (fun t kt => ?_) ?_
        · show Steps p.tables e below (T28.setTop (mkF m 267 #[.val (.int i0), .val (.int i1), .val (.long j2), .second, .val (.int i4), .val (.int i5), .val (.int (0 : Int32)), .val (.int (2 : Int32)), .val (.ref o8)] [(.int i5), (.int (f2n2_0 (0 : Int32) (nar .byte (f1_0 i5 (0 : Int32) (2 : Int32))) (nar .byte (f1_0 i5 (1 : Int32) (2 : Int32)))))])) _
          refine XS.icmpYes X28.here hx rfl (pc0 := 267) (pc' := 274) rfl (hb hby at_267) rfl (feq hc267_29).2 (by decide) (by decide) kt
        refine own_step (T' := T28) (f' := (mkF m 275 #[.val (.int i0), .val (.int i1), .val (.long j2), .second, .val (.int i4), .val (.int i5), .val (.int (0 : Int32)), .val (.int (2 : Int32)), .val (.ref o8)] [(.int (0 : Int32))])) (fun t kt => ?_) ?_
        · show Steps p.tables e below (T28.setTop (mkF m 274 #[.val (.int i0), .val (.int i1), .val (.long j2), .second, .val (.int i4), .val (.int i5), .val (.int (0 : Int32)), .val (.int (2 : Int32)), .val (.ref o8)] [])) _
          refine XS.iconst X28.here hx rfl (hb hby at_274) ?_
          exact kt
        exact own_retZ X28 hx hret (by simp) hlk (hb hby at_275) (by decide) (by decide) ⟨congrArg (fun z => some (Value.int z)) hr.symm, N28⟩
    · replace hr := hr.trans ((if_neg (by decide)).trans ((if_neg (by decide)).trans (if_pos rfl)))
      refine own_step (T' := T0) (f' := (mkF m 170 #[.val (.int i0), .val (.int i1), .val (.long j2), .second, .val (.int i4), .val (.int i5), .val (.int (0 : Int32)), .val (.int (3 : Int32)), .val (.ref o8)] [(.int (3 : Int32)), (.int (0 : Int32)), (.int i5), (.int (0 : Int32)), (.ref o8)])) (fun t kt => ?_) ?_
      · show Steps p.tables e below (T0.setTop (mkF m 161 #[.val (.int i0), .val (.int i1), .val (.long j2), .second, .val (.int i4), .val (.int i5), .val (.int (0 : Int32)), .val (.int (3 : Int32)), .val (.ref o8)] [])) _
        refine XS.aload X0.here hx rfl (hb hby at_161) rfl rfl ?_
        show Steps p.tables e below (T0.setTop (mkF m 163 #[.val (.int i0), .val (.int i1), .val (.long j2), .second, .val (.int i4), .val (.int i5), .val (.int (0 : Int32)), .val (.int (3 : Int32)), .val (.ref o8)] [(.ref o8)])) _
        refine XS.iload X0.here hx rfl (hb hby at_163) rfl ?_
        show Steps p.tables e below (T0.setTop (mkF m 165 #[.val (.int i0), .val (.int i1), .val (.long j2), .second, .val (.int i4), .val (.int i5), .val (.int (0 : Int32)), .val (.int (3 : Int32)), .val (.ref o8)] [(.int (0 : Int32)), (.ref o8)])) _
        refine XS.iload X0.here hx rfl (hb hby at_165) rfl ?_
        show Steps p.tables e below (T0.setTop (mkF m 167 #[.val (.int i0), .val (.int i1), .val (.long j2), .second, .val (.int i4), .val (.int i5), .val (.int (0 : Int32)), .val (.int (3 : Int32)), .val (.ref o8)] [(.int i5), (.int (0 : Int32)), (.ref o8)])) _
        refine XS.iconst X0.here hx rfl (hb hby at_167) ?_
        show Steps p.tables e below (T0.setTop (mkF m 168 #[.val (.int i0), .val (.int i1), .val (.long j2), .second, .val (.int i4), .val (.int i5), .val (.int (0 : Int32)), .val (.int (3 : Int32)), .val (.ref o8)] [(.int (0 : Int32)), (.int i5), (.int (0 : Int32)), (.ref o8)])) _
        refine XS.iload X0.here hx rfl (hb hby at_168) rfl ?_
        exact kt
      obtain ⟨_, _, ⟨T30, L30, k30, n30⟩, -, X30, ⟨Lc30, hQ30, l30, y30, z30⟩, st30⟩ := Jvm.LawKit.callS X0 hx (y := (⟨"hotstate/sort/VarIntsReadPinLaw", "enc", "(III)B"⟩ : MethodName)) hown (mvT hZ (hw _ (List.mem_of_getElem? (i := 2) rfl))) (mvT hZ (hw _ (List.mem_of_getElem? (i := 3) rfl))) (mvT hZ (hw _ (List.mem_of_getElem? (i := 4) rfl))) (mvT hZ (hw _ (List.mem_of_getElem? (i := 5) rfl))) (by decide) (backOf (W := 2) (rm1 l Z a0 hw [] i5 (0 : Int32) (3 : Int32)  h0 n0 ) hZ (hw _ (List.mem_of_getElem? (i := 5) rfl)) (hw _ (List.mem_of_getElem? (i := 4) rfl)) (by decide) (by decide)) (g := (mkF m 170 #[.val (.int i0), .val (.int i1), .val (.long j2), .second, .val (.int i4), .val (.int i5), .val (.int (0 : Int32)), .val (.int (3 : Int32)), .val (.ref o8)] [(.int (3 : Int32)), (.int (0 : Int32)), (.int i5), (.int (0 : Int32)), (.ref o8)])) rfl (by rw [hml]; rfl) (argsL := [(.int i5), (.int (0 : Int32)), (.int (3 : Int32))]) (rest := [(.int (0 : Int32)), (.ref o8)]) (lenOf pd1 rfl) rfl (by show 2 * 0 + _ ≤ _; exact Nat.le_of_eq rfl) (hb hby at_170) (fun _ _ => ⟨rfl, e0, (by decide : 1 + 0 ≤ _), (by decide : 9 + 0 ≤ _)⟩)
      dsimp only [Pt.U, Pt.locs, Pt.cells, Pt.slots] at X30 l30 y30 z30 st30 hQ30
      subst l30 y30 z30
      obtain ⟨rfl, Nq30, e30⟩ := hQ30
      have N30 := Fr.app N0 Nq30
      refine own_step (T' := T30) (f' := (mkF m 173 #[.val (.int i0), .val (.int i1), .val (.long j2), .second, .val (.int i4), .val (.int i5), .val (.int (0 : Int32)), .val (.int (3 : Int32)), .val (.ref o8)] [(.int (f1_0 i5 (0 : Int32) (3 : Int32))), (.int (0 : Int32)), (.ref o8)])) st30 ?_
      obtain ⟨T31, h31, Lq31, X31, N31, e31, W31, Z31, Aq31, st31⟩ := own_stB X30 hx hZ e30 Ao8 (j := (0 : Int32)) (by decide) (k := 0) (by decide) (Nat.le_of_ble_eq_true rfl) N30 go8 Z0 (g := (mkF m 173 #[.val (.int i0), .val (.int i1), .val (.long j2), .second, .val (.int i4), .val (.int i5), .val (.int (0 : Int32)), .val (.int (3 : Int32)), .val (.ref o8)] [(.int (f1_0 i5 (0 : Int32) (3 : Int32))), (.int (0 : Int32)), (.ref o8)])) rfl rfl (hb hby at_173)
      have Ao8_31 : own_A Z h31 o8 .byte [(.int (nar .byte (f1_0 i5 (0 : Int32) (3 : Int32)))), (.int xo8_1), (.int xo8_2), (.int xo8_3), (.int xo8_4), (.int xo8_5), (.int xo8_6), (.int xo8_7), (.int xo8_8)] := Aq31
      refine own_step (T' := T31) (f' := (mkF m 174 #[.val (.int i0), .val (.int i1), .val (.long j2), .second, .val (.int i4), .val (.int i5), .val (.int (0 : Int32)), .val (.int (3 : Int32)), .val (.ref o8)] [])) st31 ?_
      refine own_step (T' := T31) (f' := (mkF m 177 #[.val (.int i0), .val (.int i1), .val (.long j2), .second, .val (.int i4), .val (.int i5), .val (.int (0 : Int32)), .val (.int (3 : Int32)), .val (.ref o8)] [(.int (1 : Int32)), (.int (3 : Int32))])) (fun t kt => ?_) ?_
      · show Steps p.tables e below (T31.setTop (mkF m 174 #[.val (.int i0), .val (.int i1), .val (.long j2), .second, .val (.int i4), .val (.int i5), .val (.int (0 : Int32)), .val (.int (3 : Int32)), .val (.ref o8)] [])) _
        refine XS.iload X31.here hx rfl (hb hby at_174) rfl ?_
        show Steps p.tables e below (T31.setTop (mkF m 176 #[.val (.int i0), .val (.int i1), .val (.long j2), .second, .val (.int i4), .val (.int i5), .val (.int (0 : Int32)), .val (.int (3 : Int32)), .val (.ref o8)] [(.int (3 : Int32))])) _
        refine XS.iconst X31.here hx rfl (hb hby at_176) ?_
        exact kt
      refine own_step (T' := T31) (f' := (mkF m 180 #[.val (.int i0), .val (.int i1), .val (.long j2), .second, .val (.int i4), .val (.int i5), .val (.int (0 : Int32)), .val (.int (3 : Int32)), .val (.ref o8)] [])) (fun t kt => ?_) ?_
      · show Steps p.tables e below (T31.setTop (mkF m 177 #[.val (.int i0), .val (.int i1), .val (.long j2), .second, .val (.int i4), .val (.int i5), .val (.int (0 : Int32)), .val (.int (3 : Int32)), .val (.ref o8)] [(.int (1 : Int32)), (.int (3 : Int32))])) _
        refine XS.icmpNo X31.here hx rfl (hb hby at_177) rfl (tlt (by decide : ((1 : Int32) < (3 : Int32)))).2.2.2 kt
      refine own_step (T' := T31) (f' := (mkF m 191 #[.val (.int i0), .val (.int i1), .val (.long j2), .second, .val (.int i4), .val (.int i5), .val (.int (0 : Int32)), .val (.int (3 : Int32)), .val (.ref o8)] [(.int (3 : Int32)), (.int (1 : Int32)), (.int i5), (.int (1 : Int32)), (.ref o8)])) (fun t kt => ?_) ?_
      · show Steps p.tables e below (T31.setTop (mkF m 180 #[.val (.int i0), .val (.int i1), .val (.long j2), .second, .val (.int i4), .val (.int i5), .val (.int (0 : Int32)), .val (.int (3 : Int32)), .val (.ref o8)] [])) _
        refine XS.aload X31.here hx rfl (hb hby at_180) rfl rfl ?_
        show Steps p.tables e below (T31.setTop (mkF m 182 #[.val (.int i0), .val (.int i1), .val (.long j2), .second, .val (.int i4), .val (.int i5), .val (.int (0 : Int32)), .val (.int (3 : Int32)), .val (.ref o8)] [(.ref o8)])) _
        refine XS.iload X31.here hx rfl (hb hby at_182) rfl ?_
        show Steps p.tables e below (T31.setTop (mkF m 184 #[.val (.int i0), .val (.int i1), .val (.long j2), .second, .val (.int i4), .val (.int i5), .val (.int (0 : Int32)), .val (.int (3 : Int32)), .val (.ref o8)] [(.int (0 : Int32)), (.ref o8)])) _
        refine XS.iconst X31.here hx rfl (hb hby at_184) ?_
        show Steps p.tables e below (T31.setTop (mkF m 185 #[.val (.int i0), .val (.int i1), .val (.long j2), .second, .val (.int i4), .val (.int i5), .val (.int (0 : Int32)), .val (.int (3 : Int32)), .val (.ref o8)] [(.int (1 : Int32)), (.int (0 : Int32)), (.ref o8)])) _
        refine XS.iadd X31.here hx rfl (hb hby at_185) rfl ?_
        show Steps p.tables e below (T31.setTop (mkF m 186 #[.val (.int i0), .val (.int i1), .val (.long j2), .second, .val (.int i4), .val (.int i5), .val (.int (0 : Int32)), .val (.int (3 : Int32)), .val (.ref o8)] [(.int (1 : Int32)), (.ref o8)])) _
        refine XS.iload X31.here hx rfl (hb hby at_186) rfl ?_
        show Steps p.tables e below (T31.setTop (mkF m 188 #[.val (.int i0), .val (.int i1), .val (.long j2), .second, .val (.int i4), .val (.int i5), .val (.int (0 : Int32)), .val (.int (3 : Int32)), .val (.ref o8)] [(.int i5), (.int (1 : Int32)), (.ref o8)])) _
        refine XS.iconst X31.here hx rfl (hb hby at_188) ?_
        show Steps p.tables e below (T31.setTop (mkF m 189 #[.val (.int i0), .val (.int i1), .val (.long j2), .second, .val (.int i4), .val (.int i5), .val (.int (0 : Int32)), .val (.int (3 : Int32)), .val (.ref o8)] [(.int (1 : Int32)), (.int i5), (.int (1 : Int32)), (.ref o8)])) _
        refine XS.iload X31.here hx rfl (hb hby at_189) rfl ?_
        exact kt
      obtain ⟨_, _, ⟨T33, L33, k33, n33⟩, -, X33, ⟨Lc33, hQ33, l33, y33, z33⟩, st33⟩ := Jvm.LawKit.callS X31 hx (y := (⟨"hotstate/sort/VarIntsReadPinLaw", "enc", "(III)B"⟩ : MethodName)) hown (mvT hZ (hw _ (List.mem_of_getElem? (i := 2) rfl))) (mvT hZ (hw _ (List.mem_of_getElem? (i := 3) rfl))) (mvT hZ (hw _ (List.mem_of_getElem? (i := 4) rfl))) (mvT hZ (hw _ (List.mem_of_getElem? (i := 5) rfl))) (by decide) (backOf (W := 2) (rm1 l Z a0 hw [] i5 (1 : Int32) (3 : Int32)  h31 n0 ) hZ (hw _ (List.mem_of_getElem? (i := 5) rfl)) (hw _ (List.mem_of_getElem? (i := 4) rfl)) (by decide) (by decide)) (g := (mkF m 191 #[.val (.int i0), .val (.int i1), .val (.long j2), .second, .val (.int i4), .val (.int i5), .val (.int (0 : Int32)), .val (.int (3 : Int32)), .val (.ref o8)] [(.int (3 : Int32)), (.int (1 : Int32)), (.int i5), (.int (1 : Int32)), (.ref o8)])) rfl (by rw [hml]; rfl) (argsL := [(.int i5), (.int (1 : Int32)), (.int (3 : Int32))]) (rest := [(.int (1 : Int32)), (.ref o8)]) (lenOf pd1 rfl) rfl (by show 2 * 0 + _ ≤ _; exact Nat.le_of_eq rfl) (hb hby at_191) (fun _ _ => ⟨rfl, e31, (by decide : 1 + 0 ≤ _), (by decide : 9 + 0 ≤ _)⟩)
      dsimp only [Pt.U, Pt.locs, Pt.cells, Pt.slots] at X33 l33 y33 z33 st33 hQ33
      subst l33 y33 z33
      obtain ⟨rfl, Nq33, e33⟩ := hQ33
      have N33 := Fr.app N31 Nq33
      refine own_step (T' := T33) (f' := (mkF m 194 #[.val (.int i0), .val (.int i1), .val (.long j2), .second, .val (.int i4), .val (.int i5), .val (.int (0 : Int32)), .val (.int (3 : Int32)), .val (.ref o8)] [(.int (f1_0 i5 (1 : Int32) (3 : Int32))), (.int (1 : Int32)), (.ref o8)])) st33 ?_
      obtain ⟨T34, h34, Lq34, X34, N34, e34, W34, Z34, Aq34, st34⟩ := own_stB X33 hx hZ e33 Ao8_31 (j := (1 : Int32)) (by decide) (k := 1) (by decide) (Nat.le_of_ble_eq_true rfl) N33 go8 Z31 (g := (mkF m 194 #[.val (.int i0), .val (.int i1), .val (.long j2), .second, .val (.int i4), .val (.int i5), .val (.int (0 : Int32)), .val (.int (3 : Int32)), .val (.ref o8)] [(.int (f1_0 i5 (1 : Int32) (3 : Int32))), (.int (1 : Int32)), (.ref o8)])) rfl rfl (hb hby at_194)
      have Ao8_34 : own_A Z h34 o8 .byte [(.int (nar .byte (f1_0 i5 (0 : Int32) (3 : Int32)))), (.int (nar .byte (f1_0 i5 (1 : Int32) (3 : Int32)))), (.int xo8_2), (.int xo8_3), (.int xo8_4), (.int xo8_5), (.int xo8_6), (.int xo8_7), (.int xo8_8)] := Aq34
      refine own_step (T' := T34) (f' := (mkF m 195 #[.val (.int i0), .val (.int i1), .val (.long j2), .second, .val (.int i4), .val (.int i5), .val (.int (0 : Int32)), .val (.int (3 : Int32)), .val (.ref o8)] [])) st34 ?_
      refine own_step (T' := T34) (f' := (mkF m 198 #[.val (.int i0), .val (.int i1), .val (.long j2), .second, .val (.int i4), .val (.int i5), .val (.int (0 : Int32)), .val (.int (3 : Int32)), .val (.ref o8)] [(.int (2 : Int32)), (.int (3 : Int32))])) (fun t kt => ?_) ?_
      · show Steps p.tables e below (T34.setTop (mkF m 195 #[.val (.int i0), .val (.int i1), .val (.long j2), .second, .val (.int i4), .val (.int i5), .val (.int (0 : Int32)), .val (.int (3 : Int32)), .val (.ref o8)] [])) _
        refine XS.iload X34.here hx rfl (hb hby at_195) rfl ?_
        show Steps p.tables e below (T34.setTop (mkF m 197 #[.val (.int i0), .val (.int i1), .val (.long j2), .second, .val (.int i4), .val (.int i5), .val (.int (0 : Int32)), .val (.int (3 : Int32)), .val (.ref o8)] [(.int (3 : Int32))])) _
        refine XS.iconst X34.here hx rfl (hb hby at_197) ?_
        exact kt
      refine own_step (T' := T34) (f' := (mkF m 201 #[.val (.int i0), .val (.int i1), .val (.long j2), .second, .val (.int i4), .val (.int i5), .val (.int (0 : Int32)), .val (.int (3 : Int32)), .val (.ref o8)] [])) (fun t kt => ?_) ?_
      · show Steps p.tables e below (T34.setTop (mkF m 198 #[.val (.int i0), .val (.int i1), .val (.long j2), .second, .val (.int i4), .val (.int i5), .val (.int (0 : Int32)), .val (.int (3 : Int32)), .val (.ref o8)] [(.int (2 : Int32)), (.int (3 : Int32))])) _
        refine XS.icmpNo X34.here hx rfl (hb hby at_198) rfl (tlt (by decide : ((2 : Int32) < (3 : Int32)))).2.2.2 kt
      refine own_step (T' := T34) (f' := (mkF m 212 #[.val (.int i0), .val (.int i1), .val (.long j2), .second, .val (.int i4), .val (.int i5), .val (.int (0 : Int32)), .val (.int (3 : Int32)), .val (.ref o8)] [(.int (3 : Int32)), (.int (2 : Int32)), (.int i5), (.int (2 : Int32)), (.ref o8)])) (fun t kt => ?_) ?_
      · show Steps p.tables e below (T34.setTop (mkF m 201 #[.val (.int i0), .val (.int i1), .val (.long j2), .second, .val (.int i4), .val (.int i5), .val (.int (0 : Int32)), .val (.int (3 : Int32)), .val (.ref o8)] [])) _
        refine XS.aload X34.here hx rfl (hb hby at_201) rfl rfl ?_
        show Steps p.tables e below (T34.setTop (mkF m 203 #[.val (.int i0), .val (.int i1), .val (.long j2), .second, .val (.int i4), .val (.int i5), .val (.int (0 : Int32)), .val (.int (3 : Int32)), .val (.ref o8)] [(.ref o8)])) _
        refine XS.iload X34.here hx rfl (hb hby at_203) rfl ?_
        show Steps p.tables e below (T34.setTop (mkF m 205 #[.val (.int i0), .val (.int i1), .val (.long j2), .second, .val (.int i4), .val (.int i5), .val (.int (0 : Int32)), .val (.int (3 : Int32)), .val (.ref o8)] [(.int (0 : Int32)), (.ref o8)])) _
        refine XS.iconst X34.here hx rfl (hb hby at_205) ?_
        show Steps p.tables e below (T34.setTop (mkF m 206 #[.val (.int i0), .val (.int i1), .val (.long j2), .second, .val (.int i4), .val (.int i5), .val (.int (0 : Int32)), .val (.int (3 : Int32)), .val (.ref o8)] [(.int (2 : Int32)), (.int (0 : Int32)), (.ref o8)])) _
        refine XS.iadd X34.here hx rfl (hb hby at_206) rfl ?_
        show Steps p.tables e below (T34.setTop (mkF m 207 #[.val (.int i0), .val (.int i1), .val (.long j2), .second, .val (.int i4), .val (.int i5), .val (.int (0 : Int32)), .val (.int (3 : Int32)), .val (.ref o8)] [(.int (2 : Int32)), (.ref o8)])) _
        refine XS.iload X34.here hx rfl (hb hby at_207) rfl ?_
        show Steps p.tables e below (T34.setTop (mkF m 209 #[.val (.int i0), .val (.int i1), .val (.long j2), .second, .val (.int i4), .val (.int i5), .val (.int (0 : Int32)), .val (.int (3 : Int32)), .val (.ref o8)] [(.int i5), (.int (2 : Int32)), (.ref o8)])) _
        refine XS.iconst X34.here hx rfl (hb hby at_209) ?_
        show Steps p.tables e below (T34.setTop (mkF m 210 #[.val (.int i0), .val (.int i1), .val (.long j2), .second, .val (.int i4), .val (.int i5), .val (.int (0 : Int32)), .val (.int (3 : Int32)), .val (.ref o8)] [(.int (2 : Int32)), (.int i5), (.int (2 : Int32)), (.ref o8)])) _
        refine XS.iload X34.here hx rfl (hb hby at_210) rfl ?_
        exact kt
      obtain ⟨_, _, ⟨T36, L36, k36, n36⟩, -, X36, ⟨Lc36, hQ36, l36, y36, z36⟩, st36⟩ := Jvm.LawKit.callS X34 hx (y := (⟨"hotstate/sort/VarIntsReadPinLaw", "enc", "(III)B"⟩ : MethodName)) hown (mvT hZ (hw _ (List.mem_of_getElem? (i := 2) rfl))) (mvT hZ (hw _ (List.mem_of_getElem? (i := 3) rfl))) (mvT hZ (hw _ (List.mem_of_getElem? (i := 4) rfl))) (mvT hZ (hw _ (List.mem_of_getElem? (i := 5) rfl))) (by decide) (backOf (W := 2) (rm1 l Z a0 hw [] i5 (2 : Int32) (3 : Int32)  h34 n0 ) hZ (hw _ (List.mem_of_getElem? (i := 5) rfl)) (hw _ (List.mem_of_getElem? (i := 4) rfl)) (by decide) (by decide)) (g := (mkF m 212 #[.val (.int i0), .val (.int i1), .val (.long j2), .second, .val (.int i4), .val (.int i5), .val (.int (0 : Int32)), .val (.int (3 : Int32)), .val (.ref o8)] [(.int (3 : Int32)), (.int (2 : Int32)), (.int i5), (.int (2 : Int32)), (.ref o8)])) rfl (by rw [hml]; rfl) (argsL := [(.int i5), (.int (2 : Int32)), (.int (3 : Int32))]) (rest := [(.int (2 : Int32)), (.ref o8)]) (lenOf pd1 rfl) rfl (by show 2 * 0 + _ ≤ _; exact Nat.le_of_eq rfl) (hb hby at_212) (fun _ _ => ⟨rfl, e34, (by decide : 1 + 0 ≤ _), (by decide : 9 + 0 ≤ _)⟩)
      dsimp only [Pt.U, Pt.locs, Pt.cells, Pt.slots] at X36 l36 y36 z36 st36 hQ36
      subst l36 y36 z36
      obtain ⟨rfl, Nq36, e36⟩ := hQ36
      have N36 := Fr.app N34 Nq36
      refine own_step (T' := T36) (f' := (mkF m 215 #[.val (.int i0), .val (.int i1), .val (.long j2), .second, .val (.int i4), .val (.int i5), .val (.int (0 : Int32)), .val (.int (3 : Int32)), .val (.ref o8)] [(.int (f1_0 i5 (2 : Int32) (3 : Int32))), (.int (2 : Int32)), (.ref o8)])) st36 ?_
      obtain ⟨T37, h37, Lq37, X37, N37, e37, W37, Z37, Aq37, st37⟩ := own_stB X36 hx hZ e36 Ao8_34 (j := (2 : Int32)) (by decide) (k := 2) (by decide) (Nat.le_of_ble_eq_true rfl) N36 go8 Z34 (g := (mkF m 215 #[.val (.int i0), .val (.int i1), .val (.long j2), .second, .val (.int i4), .val (.int i5), .val (.int (0 : Int32)), .val (.int (3 : Int32)), .val (.ref o8)] [(.int (f1_0 i5 (2 : Int32) (3 : Int32))), (.int (2 : Int32)), (.ref o8)])) rfl rfl (hb hby at_215)
      have Ao8_37 : own_A Z h37 o8 .byte [(.int (nar .byte (f1_0 i5 (0 : Int32) (3 : Int32)))), (.int (nar .byte (f1_0 i5 (1 : Int32) (3 : Int32)))), (.int (nar .byte (f1_0 i5 (2 : Int32) (3 : Int32)))), (.int xo8_3), (.int xo8_4), (.int xo8_5), (.int xo8_6), (.int xo8_7), (.int xo8_8)] := Aq37
      refine own_step (T' := T37) (f' := (mkF m 216 #[.val (.int i0), .val (.int i1), .val (.long j2), .second, .val (.int i4), .val (.int i5), .val (.int (0 : Int32)), .val (.int (3 : Int32)), .val (.ref o8)] [])) st37 ?_
      refine own_step (T' := T37) (f' := (mkF m 219 #[.val (.int i0), .val (.int i1), .val (.long j2), .second, .val (.int i4), .val (.int i5), .val (.int (0 : Int32)), .val (.int (3 : Int32)), .val (.ref o8)] [(.int (3 : Int32)), (.int (3 : Int32))])) (fun t kt => ?_) ?_
      · show Steps p.tables e below (T37.setTop (mkF m 216 #[.val (.int i0), .val (.int i1), .val (.long j2), .second, .val (.int i4), .val (.int i5), .val (.int (0 : Int32)), .val (.int (3 : Int32)), .val (.ref o8)] [])) _
        refine XS.iload X37.here hx rfl (hb hby at_216) rfl ?_
        show Steps p.tables e below (T37.setTop (mkF m 218 #[.val (.int i0), .val (.int i1), .val (.long j2), .second, .val (.int i4), .val (.int i5), .val (.int (0 : Int32)), .val (.int (3 : Int32)), .val (.ref o8)] [(.int (3 : Int32))])) _
        refine XS.iconst X37.here hx rfl (hb hby at_218) ?_
        exact kt
      refine own_step (T' := T37) (f' := (mkF m 237 #[.val (.int i0), .val (.int i1), .val (.long j2), .second, .val (.int i4), .val (.int i5), .val (.int (0 : Int32)), .val (.int (3 : Int32)), .val (.ref o8)] [])) (fun t kt => ?_) ?_
      · show Steps p.tables e below (T37.setTop (mkF m 219 #[.val (.int i0), .val (.int i1), .val (.long j2), .second, .val (.int i4), .val (.int i5), .val (.int (0 : Int32)), .val (.int (3 : Int32)), .val (.ref o8)] [(.int (3 : Int32)), (.int (3 : Int32))])) _
        refine XS.icmpYes X37.here hx rfl (pc0 := 219) (pc' := 237) rfl (hb hby at_219) rfl (flt (by decide : ¬ ((3 : Int32) < (3 : Int32)))).2.2.2 (by decide) (by decide) kt
      refine own_step (T' := T37) (f' := (mkF m 240 #[.val (.int i0), .val (.int i1), .val (.long j2), .second, .val (.int i4), .val (.int i5), .val (.int (0 : Int32)), .val (.int (3 : Int32)), .val (.ref o8)] [(.int (4 : Int32)), (.int (3 : Int32))])) (fun t kt => ?_) ?_
      · show Steps p.tables e below (T37.setTop (mkF m 237 #[.val (.int i0), .val (.int i1), .val (.long j2), .second, .val (.int i4), .val (.int i5), .val (.int (0 : Int32)), .val (.int (3 : Int32)), .val (.ref o8)] [])) _
        refine XS.iload X37.here hx rfl (hb hby at_237) rfl ?_
        show Steps p.tables e below (T37.setTop (mkF m 239 #[.val (.int i0), .val (.int i1), .val (.long j2), .second, .val (.int i4), .val (.int i5), .val (.int (0 : Int32)), .val (.int (3 : Int32)), .val (.ref o8)] [(.int (3 : Int32))])) _
        refine XS.iconst X37.here hx rfl (hb hby at_239) ?_
        exact kt
      refine own_step (T' := T37) (f' := (mkF m 258 #[.val (.int i0), .val (.int i1), .val (.long j2), .second, .val (.int i4), .val (.int i5), .val (.int (0 : Int32)), .val (.int (3 : Int32)), .val (.ref o8)] [])) (fun t kt => ?_) ?_
      · show Steps p.tables e below (T37.setTop (mkF m 240 #[.val (.int i0), .val (.int i1), .val (.long j2), .second, .val (.int i4), .val (.int i5), .val (.int (0 : Int32)), .val (.int (3 : Int32)), .val (.ref o8)] [(.int (4 : Int32)), (.int (3 : Int32))])) _
        refine XS.icmpYes X37.here hx rfl (pc0 := 240) (pc' := 258) rfl (hb hby at_240) rfl (flt (by decide : ¬ ((4 : Int32) < (3 : Int32)))).2.2.2 (by decide) (by decide) kt
      refine own_step (T' := T37) (f' := (mkF m 262 #[.val (.int i0), .val (.int i1), .val (.long j2), .second, .val (.int i4), .val (.int i5), .val (.int (0 : Int32)), .val (.int (3 : Int32)), .val (.ref o8)] [(.int (0 : Int32)), (.ref o8)])) (fun t kt => ?_) ?_
      · show Steps p.tables e below (T37.setTop (mkF m 258 #[.val (.int i0), .val (.int i1), .val (.long j2), .second, .val (.int i4), .val (.int i5), .val (.int (0 : Int32)), .val (.int (3 : Int32)), .val (.ref o8)] [])) _
        refine XS.aload X37.here hx rfl (hb hby at_258) rfl rfl ?_
        show Steps p.tables e below (T37.setTop (mkF m 260 #[.val (.int i0), .val (.int i1), .val (.long j2), .second, .val (.int i4), .val (.int i5), .val (.int (0 : Int32)), .val (.int (3 : Int32)), .val (.ref o8)] [(.ref o8)])) _
        refine XS.iload X37.here hx rfl (hb hby at_260) rfl ?_
        exact kt
      obtain ⟨_, _, ⟨T40, L40, k40, n40⟩, -, X40, ⟨Lc40, hQ40, l40, y40, z40⟩, st40⟩ := Jvm.LawKit.callS X37 hx (y := (⟨"hotstate/sort/VarInts", "read", "([BI)I"⟩ : MethodName)) hown (mvT hZ (hw _ (List.mem_of_getElem? (i := 6) rfl))) (mvT hZ (hw _ (List.mem_of_getElem? (i := 7) rfl))) (mvT hZ (hw _ (List.mem_of_getElem? (i := 8) rfl))) (mvT hZ (hw _ (List.mem_of_getElem? (i := 9) rfl))) (by decide) (backOf (W := 0) (rm2n3 l Z a0 hw [] o8 (0 : Int32) (nar .byte (f1_0 i5 (0 : Int32) (3 : Int32))) (nar .byte (f1_0 i5 (1 : Int32) (3 : Int32))) (nar .byte (f1_0 i5 (2 : Int32) (3 : Int32))) [(.int (nar .byte (f1_0 i5 (0 : Int32) (3 : Int32)))), (.int (nar .byte (f1_0 i5 (1 : Int32) (3 : Int32)))), (.int (nar .byte (f1_0 i5 (2 : Int32) (3 : Int32)))), (.int xo8_3), (.int xo8_4), (.int xo8_5), (.int xo8_6), (.int xo8_7), (.int xo8_8)] h37 n0 Ao8_37 (by decide) rfl rfl rfl (own_last3 i5)) hZ (hw _ (List.mem_of_getElem? (i := 9) rfl)) (hw _ (List.mem_of_getElem? (i := 8) rfl)) (by decide) (by decide)) (g := (mkF m 262 #[.val (.int i0), .val (.int i1), .val (.long j2), .second, .val (.int i4), .val (.int i5), .val (.int (0 : Int32)), .val (.int (3 : Int32)), .val (.ref o8)] [(.int (0 : Int32)), (.ref o8)])) rfl (by rw [hml]; rfl) (argsL := [(.ref o8), (.int (0 : Int32))]) (rest := []) (lenOf pd2 rfl) rfl (by show 2 * 0 + _ ≤ _; exact Nat.le_of_eq rfl) (hb hby at_262) (fun _ _ => ⟨rfl, e37, (by decide : 1 + 0 ≤ _), (by decide : 9 + 0 ≤ _)⟩)
      dsimp only [Pt.U, Pt.locs, Pt.cells, Pt.slots] at X40 l40 y40 z40 st40 hQ40
      subst l40 y40 z40
      obtain ⟨rfl, Nq40, e40⟩ := hQ40
      have N40 := Fr.app N37 Nq40
      refine own_step (T' := T40) (f' := (mkF m 265 #[.val (.int i0), .val (.int i1), .val (.long j2), .second, .val (.int i4), .val (.int i5), .val (.int (0 : Int32)), .val (.int (3 : Int32)), .val (.ref o8)] [(.int (f2n3_0 (0 : Int32) (nar .byte (f1_0 i5 (0 : Int32) (3 : Int32))) (nar .byte (f1_0 i5 (1 : Int32) (3 : Int32))) (nar .byte (f1_0 i5 (2 : Int32) (3 : Int32)))))])) st40 ?_
      refine own_step (T' := T40) (f' := (mkF m 267 #[.val (.int i0), .val (.int i1), .val (.long j2), .second, .val (.int i4), .val (.int i5), .val (.int (0 : Int32)), .val (.int (3 : Int32)), .val (.ref o8)] [(.int i5), (.int (f2n3_0 (0 : Int32) (nar .byte (f1_0 i5 (0 : Int32) (3 : Int32))) (nar .byte (f1_0 i5 (1 : Int32) (3 : Int32))) (nar .byte (f1_0 i5 (2 : Int32) (3 : Int32)))))])) (fun t kt => ?_) ?_
      · show Steps p.tables e below (T40.setTop (mkF m 265 #[.val (.int i0), .val (.int i1), .val (.long j2), .second, .val (.int i4), .val (.int i5), .val (.int (0 : Int32)), .val (.int (3 : Int32)), .val (.ref o8)] [(.int (f2n3_0 (0 : Int32) (nar .byte (f1_0 i5 (0 : Int32) (3 : Int32))) (nar .byte (f1_0 i5 (1 : Int32) (3 : Int32))) (nar .byte (f1_0 i5 (2 : Int32) (3 : Int32)))))])) _
        refine XS.iload X40.here hx rfl (hb hby at_265) rfl ?_
        exact kt
      by_cases hc267_41 : (f2n3_0 (0 : Int32) (nar .byte (f1_0 i5 (0 : Int32) (3 : Int32))) (nar .byte (f1_0 i5 (1 : Int32) (3 : Int32))) (nar .byte (f1_0 i5 (2 : Int32) (3 : Int32)))) = i5
      · replace hr := hr.trans (if_pos hc267_41)
        refine own_step (T' := T40) (f' := (mkF m 270 #[.val (.int i0), .val (.int i1), .val (.long j2), .second, .val (.int i4), .val (.int i5), .val (.int (0 : Int32)), .val (.int (3 : Int32)), .val (.ref o8)] [])) (fun t kt => ?_) ?_
        · show Steps p.tables e below (T40.setTop (mkF m 267 #[.val (.int i0), .val (.int i1), .val (.long j2), .second, .val (.int i4), .val (.int i5), .val (.int (0 : Int32)), .val (.int (3 : Int32)), .val (.ref o8)] [(.int i5), (.int (f2n3_0 (0 : Int32) (nar .byte (f1_0 i5 (0 : Int32) (3 : Int32))) (nar .byte (f1_0 i5 (1 : Int32) (3 : Int32))) (nar .byte (f1_0 i5 (2 : Int32) (3 : Int32)))))])) _
          refine XS.icmpNo X40.here hx rfl (hb hby at_267) rfl (teq hc267_41).2 kt
        refine own_step (T' := T40) (f' := (mkF m 275 #[.val (.int i0), .val (.int i1), .val (.long j2), .second, .val (.int i4), .val (.int i5), .val (.int (0 : Int32)), .val (.int (3 : Int32)), .val (.ref o8)] [(.int (1 : Int32))])) (fun t kt => ?_) ?_
        · show Steps p.tables e below (T40.setTop (mkF m 270 #[.val (.int i0), .val (.int i1), .val (.long j2), .second, .val (.int i4), .val (.int i5), .val (.int (0 : Int32)), .val (.int (3 : Int32)), .val (.ref o8)] [])) _
          refine XS.iconst X40.here hx rfl (hb hby at_270) ?_
          show Steps p.tables e below (T40.setTop (mkF m 271 #[.val (.int i0), .val (.int i1), .val (.long j2), .second, .val (.int i4), .val (.int i5), .val (.int (0 : Int32)), .val (.int (3 : Int32)), .val (.ref o8)] [(.int (1 : Int32))])) _
          refine XS.goto X40.here hx rfl (pc0 := 271) (pc' := 275) rfl (hb hby at_271) (by decide) (by decide) ?_
          exact kt
        exact own_retZ X40 hx hret (by simp) hlk (hb hby at_275) (by decide) (by decide) ⟨congrArg (fun z => some (Value.int z)) hr.symm, N40⟩
      · replace hr := hr.trans (if_neg hc267_41)
        refine own_step (T' := T40) (f' := (mkF m 274 #[.val (.int i0), .val (.int i1), .val (.long j2), .second, .val (.int i4), .val (.int i5), .val (.int (0 : Int32)), .val (.int (3 : Int32)), .val (.ref o8)] [])) (fun t kt => ?_) ?_
        · show Steps p.tables e below (T40.setTop (mkF m 267 #[.val (.int i0), .val (.int i1), .val (.long j2), .second, .val (.int i4), .val (.int i5), .val (.int (0 : Int32)), .val (.int (3 : Int32)), .val (.ref o8)] [(.int i5), (.int (f2n3_0 (0 : Int32) (nar .byte (f1_0 i5 (0 : Int32) (3 : Int32))) (nar .byte (f1_0 i5 (1 : Int32) (3 : Int32))) (nar .byte (f1_0 i5 (2 : Int32) (3 : Int32)))))])) _
          refine XS.icmpYes X40.here hx rfl (pc0 := 267) (pc' := 274) rfl (hb hby at_267) rfl (feq hc267_41).2 (by decide) (by decide) kt
        refine own_step (T' := T40) (f' := (mkF m 275 #[.val (.int i0), .val (.int i1), .val (.long j2), .second, .val (.int i4), .val (.int i5), .val (.int (0 : Int32)), .val (.int (3 : Int32)), .val (.ref o8)] [(.int (0 : Int32))])) (fun t kt => ?_) ?_
        · show Steps p.tables e below (T40.setTop (mkF m 274 #[.val (.int i0), .val (.int i1), .val (.long j2), .second, .val (.int i4), .val (.int i5), .val (.int (0 : Int32)), .val (.int (3 : Int32)), .val (.ref o8)] [])) _
          refine XS.iconst X40.here hx rfl (hb hby at_274) ?_
          exact kt
        exact own_retZ X40 hx hret (by simp) hlk (hb hby at_275) (by decide) (by decide) ⟨congrArg (fun z => some (Value.int z)) hr.symm, N40⟩
    · replace hr := hr.trans ((if_neg (by decide)).trans ((if_neg (by decide)).trans ((if_neg (by decide)).trans (if_pos rfl))))
      refine own_step (T' := T0) (f' := (mkF m 170 #[.val (.int i0), .val (.int i1), .val (.long j2), .second, .val (.int i4), .val (.int i5), .val (.int (0 : Int32)), .val (.int (4 : Int32)), .val (.ref o8)] [(.int (4 : Int32)), (.int (0 : Int32)), (.int i5), (.int (0 : Int32)), (.ref o8)])) (fun t kt => ?_) ?_
      · show Steps p.tables e below (T0.setTop (mkF m 161 #[.val (.int i0), .val (.int i1), .val (.long j2), .second, .val (.int i4), .val (.int i5), .val (.int (0 : Int32)), .val (.int (4 : Int32)), .val (.ref o8)] [])) _
        refine XS.aload X0.here hx rfl (hb hby at_161) rfl rfl ?_
        show Steps p.tables e below (T0.setTop (mkF m 163 #[.val (.int i0), .val (.int i1), .val (.long j2), .second, .val (.int i4), .val (.int i5), .val (.int (0 : Int32)), .val (.int (4 : Int32)), .val (.ref o8)] [(.ref o8)])) _
        refine XS.iload X0.here hx rfl (hb hby at_163) rfl ?_
        show Steps p.tables e below (T0.setTop (mkF m 165 #[.val (.int i0), .val (.int i1), .val (.long j2), .second, .val (.int i4), .val (.int i5), .val (.int (0 : Int32)), .val (.int (4 : Int32)), .val (.ref o8)] [(.int (0 : Int32)), (.ref o8)])) _
        refine XS.iload X0.here hx rfl (hb hby at_165) rfl ?_
        show Steps p.tables e below (T0.setTop (mkF m 167 #[.val (.int i0), .val (.int i1), .val (.long j2), .second, .val (.int i4), .val (.int i5), .val (.int (0 : Int32)), .val (.int (4 : Int32)), .val (.ref o8)] [(.int i5), (.int (0 : Int32)), (.ref o8)])) _
        refine XS.iconst X0.here hx rfl (hb hby at_167) ?_
        show Steps p.tables e below (T0.setTop (mkF m 168 #[.val (.int i0), .val (.int i1), .val (.long j2), .second, .val (.int i4), .val (.int i5), .val (.int (0 : Int32)), .val (.int (4 : Int32)), .val (.ref o8)] [(.int (0 : Int32)), (.int i5), (.int (0 : Int32)), (.ref o8)])) _
        refine XS.iload X0.here hx rfl (hb hby at_168) rfl ?_
        exact kt
      obtain ⟨_, _, ⟨T42, L42, k42, n42⟩, -, X42, ⟨Lc42, hQ42, l42, y42, z42⟩, st42⟩ := Jvm.LawKit.callS X0 hx (y := (⟨"hotstate/sort/VarIntsReadPinLaw", "enc", "(III)B"⟩ : MethodName)) hown (mvT hZ (hw _ (List.mem_of_getElem? (i := 2) rfl))) (mvT hZ (hw _ (List.mem_of_getElem? (i := 3) rfl))) (mvT hZ (hw _ (List.mem_of_getElem? (i := 4) rfl))) (mvT hZ (hw _ (List.mem_of_getElem? (i := 5) rfl))) (by decide) (backOf (W := 2) (rm1 l Z a0 hw [] i5 (0 : Int32) (4 : Int32)  h0 n0 ) hZ (hw _ (List.mem_of_getElem? (i := 5) rfl)) (hw _ (List.mem_of_getElem? (i := 4) rfl)) (by decide) (by decide)) (g := (mkF m 170 #[.val (.int i0), .val (.int i1), .val (.long j2), .second, .val (.int i4), .val (.int i5), .val (.int (0 : Int32)), .val (.int (4 : Int32)), .val (.ref o8)] [(.int (4 : Int32)), (.int (0 : Int32)), (.int i5), (.int (0 : Int32)), (.ref o8)])) rfl (by rw [hml]; rfl) (argsL := [(.int i5), (.int (0 : Int32)), (.int (4 : Int32))]) (rest := [(.int (0 : Int32)), (.ref o8)]) (lenOf pd1 rfl) rfl (by show 2 * 0 + _ ≤ _; exact Nat.le_of_eq rfl) (hb hby at_170) (fun _ _ => ⟨rfl, e0, (by decide : 1 + 0 ≤ _), (by decide : 9 + 0 ≤ _)⟩)
      dsimp only [Pt.U, Pt.locs, Pt.cells, Pt.slots] at X42 l42 y42 z42 st42 hQ42
      subst l42 y42 z42
      obtain ⟨rfl, Nq42, e42⟩ := hQ42
      have N42 := Fr.app N0 Nq42
      refine own_step (T' := T42) (f' := (mkF m 173 #[.val (.int i0), .val (.int i1), .val (.long j2), .second, .val (.int i4), .val (.int i5), .val (.int (0 : Int32)), .val (.int (4 : Int32)), .val (.ref o8)] [(.int (f1_0 i5 (0 : Int32) (4 : Int32))), (.int (0 : Int32)), (.ref o8)])) st42 ?_
      obtain ⟨T43, h43, Lq43, X43, N43, e43, W43, Z43, Aq43, st43⟩ := own_stB X42 hx hZ e42 Ao8 (j := (0 : Int32)) (by decide) (k := 0) (by decide) (Nat.le_of_ble_eq_true rfl) N42 go8 Z0 (g := (mkF m 173 #[.val (.int i0), .val (.int i1), .val (.long j2), .second, .val (.int i4), .val (.int i5), .val (.int (0 : Int32)), .val (.int (4 : Int32)), .val (.ref o8)] [(.int (f1_0 i5 (0 : Int32) (4 : Int32))), (.int (0 : Int32)), (.ref o8)])) rfl rfl (hb hby at_173)
      have Ao8_43 : own_A Z h43 o8 .byte [(.int (nar .byte (f1_0 i5 (0 : Int32) (4 : Int32)))), (.int xo8_1), (.int xo8_2), (.int xo8_3), (.int xo8_4), (.int xo8_5), (.int xo8_6), (.int xo8_7), (.int xo8_8)] := Aq43
      refine own_step (T' := T43) (f' := (mkF m 174 #[.val (.int i0), .val (.int i1), .val (.long j2), .second, .val (.int i4), .val (.int i5), .val (.int (0 : Int32)), .val (.int (4 : Int32)), .val (.ref o8)] [])) st43 ?_
      refine own_step (T' := T43) (f' := (mkF m 177 #[.val (.int i0), .val (.int i1), .val (.long j2), .second, .val (.int i4), .val (.int i5), .val (.int (0 : Int32)), .val (.int (4 : Int32)), .val (.ref o8)] [(.int (1 : Int32)), (.int (4 : Int32))])) (fun t kt => ?_) ?_
      · show Steps p.tables e below (T43.setTop (mkF m 174 #[.val (.int i0), .val (.int i1), .val (.long j2), .second, .val (.int i4), .val (.int i5), .val (.int (0 : Int32)), .val (.int (4 : Int32)), .val (.ref o8)] [])) _
        refine XS.iload X43.here hx rfl (hb hby at_174) rfl ?_
        show Steps p.tables e below (T43.setTop (mkF m 176 #[.val (.int i0), .val (.int i1), .val (.long j2), .second, .val (.int i4), .val (.int i5), .val (.int (0 : Int32)), .val (.int (4 : Int32)), .val (.ref o8)] [(.int (4 : Int32))])) _
        refine XS.iconst X43.here hx rfl (hb hby at_176) ?_
        exact kt
      refine own_step (T' := T43) (f' := (mkF m 180 #[.val (.int i0), .val (.int i1), .val (.long j2), .second, .val (.int i4), .val (.int i5), .val (.int (0 : Int32)), .val (.int (4 : Int32)), .val (.ref o8)] [])) (fun t kt => ?_) ?_
      · show Steps p.tables e below (T43.setTop (mkF m 177 #[.val (.int i0), .val (.int i1), .val (.long j2), .second, .val (.int i4), .val (.int i5), .val (.int (0 : Int32)), .val (.int (4 : Int32)), .val (.ref o8)] [(.int (1 : Int32)), (.int (4 : Int32))])) _
        refine XS.icmpNo X43.here hx rfl (hb hby at_177) rfl (tlt (by decide : ((1 : Int32) < (4 : Int32)))).2.2.2 kt
      refine own_step (T' := T43) (f' := (mkF m 191 #[.val (.int i0), .val (.int i1), .val (.long j2), .second, .val (.int i4), .val (.int i5), .val (.int (0 : Int32)), .val (.int (4 : Int32)), .val (.ref o8)] [(.int (4 : Int32)), (.int (1 : Int32)), (.int i5), (.int (1 : Int32)), (.ref o8)])) (fun t kt => ?_) ?_
      · show Steps p.tables e below (T43.setTop (mkF m 180 #[.val (.int i0), .val (.int i1), .val (.long j2), .second, .val (.int i4), .val (.int i5), .val (.int (0 : Int32)), .val (.int (4 : Int32)), .val (.ref o8)] [])) _
        refine XS.aload X43.here hx rfl (hb hby at_180) rfl rfl ?_
        show Steps p.tables e below (T43.setTop (mkF m 182 #[.val (.int i0), .val (.int i1), .val (.long j2), .second, .val (.int i4), .val (.int i5), .val (.int (0 : Int32)), .val (.int (4 : Int32)), .val (.ref o8)] [(.ref o8)])) _
        refine XS.iload X43.here hx rfl (hb hby at_182) rfl ?_
        show Steps p.tables e below (T43.setTop (mkF m 184 #[.val (.int i0), .val (.int i1), .val (.long j2), .second, .val (.int i4), .val (.int i5), .val (.int (0 : Int32)), .val (.int (4 : Int32)), .val (.ref o8)] [(.int (0 : Int32)), (.ref o8)])) _
        refine XS.iconst X43.here hx rfl (hb hby at_184) ?_
        show Steps p.tables e below (T43.setTop (mkF m 185 #[.val (.int i0), .val (.int i1), .val (.long j2), .second, .val (.int i4), .val (.int i5), .val (.int (0 : Int32)), .val (.int (4 : Int32)), .val (.ref o8)] [(.int (1 : Int32)), (.int (0 : Int32)), (.ref o8)])) _
        refine XS.iadd X43.here hx rfl (hb hby at_185) rfl ?_
        show Steps p.tables e below (T43.setTop (mkF m 186 #[.val (.int i0), .val (.int i1), .val (.long j2), .second, .val (.int i4), .val (.int i5), .val (.int (0 : Int32)), .val (.int (4 : Int32)), .val (.ref o8)] [(.int (1 : Int32)), (.ref o8)])) _
        refine XS.iload X43.here hx rfl (hb hby at_186) rfl ?_
        show Steps p.tables e below (T43.setTop (mkF m 188 #[.val (.int i0), .val (.int i1), .val (.long j2), .second, .val (.int i4), .val (.int i5), .val (.int (0 : Int32)), .val (.int (4 : Int32)), .val (.ref o8)] [(.int i5), (.int (1 : Int32)), (.ref o8)])) _
        refine XS.iconst X43.here hx rfl (hb hby at_188) ?_
        show Steps p.tables e below (T43.setTop (mkF m 189 #[.val (.int i0), .val (.int i1), .val (.long j2), .second, .val (.int i4), .val (.int i5), .val (.int (0 : Int32)), .val (.int (4 : Int32)), .val (.ref o8)] [(.int (1 : Int32)), (.int i5), (.int (1 : Int32)), (.ref o8)])) _
        refine XS.iload X43.here hx rfl (hb hby at_189) rfl ?_
        exact kt
      obtain ⟨_, _, ⟨T45, L45, k45, n45⟩, -, X45, ⟨Lc45, hQ45, l45, y45, z45⟩, st45⟩ := Jvm.LawKit.callS X43 hx (y := (⟨"hotstate/sort/VarIntsReadPinLaw", "enc", "(III)B"⟩ : MethodName)) hown (mvT hZ (hw _ (List.mem_of_getElem? (i := 2) rfl))) (mvT hZ (hw _ (List.mem_of_getElem? (i := 3) rfl))) (mvT hZ (hw _ (List.mem_of_getElem? (i := 4) rfl))) (mvT hZ (hw _ (List.mem_of_getElem? (i := 5) rfl))) (by decide) (backOf (W := 2) (rm1 l Z a0 hw [] i5 (1 : Int32) (4 : Int32)  h43 n0 ) hZ (hw _ (List.mem_of_getElem? (i := 5) rfl)) (hw _ (List.mem_of_getElem? (i := 4) rfl)) (by decide) (by decide)) (g := (mkF m 191 #[.val (.int i0), .val (.int i1), .val (.long j2), .second, .val (.int i4), .val (.int i5), .val (.int (0 : Int32)), .val (.int (4 : Int32)), .val (.ref o8)] [(.int (4 : Int32)), (.int (1 : Int32)), (.int i5), (.int (1 : Int32)), (.ref o8)])) rfl (by rw [hml]; rfl) (argsL := [(.int i5), (.int (1 : Int32)), (.int (4 : Int32))]) (rest := [(.int (1 : Int32)), (.ref o8)]) (lenOf pd1 rfl) rfl (by show 2 * 0 + _ ≤ _; exact Nat.le_of_eq rfl) (hb hby at_191) (fun _ _ => ⟨rfl, e43, (by decide : 1 + 0 ≤ _), (by decide : 9 + 0 ≤ _)⟩)
      dsimp only [Pt.U, Pt.locs, Pt.cells, Pt.slots] at X45 l45 y45 z45 st45 hQ45
      subst l45 y45 z45
      obtain ⟨rfl, Nq45, e45⟩ := hQ45
      have N45 := Fr.app N43 Nq45
      refine own_step (T' := T45) (f' := (mkF m 194 #[.val (.int i0), .val (.int i1), .val (.long j2), .second, .val (.int i4), .val (.int i5), .val (.int (0 : Int32)), .val (.int (4 : Int32)), .val (.ref o8)] [(.int (f1_0 i5 (1 : Int32) (4 : Int32))), (.int (1 : Int32)), (.ref o8)])) st45 ?_
      obtain ⟨T46, h46, Lq46, X46, N46, e46, W46, Z46, Aq46, st46⟩ := own_stB X45 hx hZ e45 Ao8_43 (j := (1 : Int32)) (by decide) (k := 1) (by decide) (Nat.le_of_ble_eq_true rfl) N45 go8 Z43 (g := (mkF m 194 #[.val (.int i0), .val (.int i1), .val (.long j2), .second, .val (.int i4), .val (.int i5), .val (.int (0 : Int32)), .val (.int (4 : Int32)), .val (.ref o8)] [(.int (f1_0 i5 (1 : Int32) (4 : Int32))), (.int (1 : Int32)), (.ref o8)])) rfl rfl (hb hby at_194)
      have Ao8_46 : own_A Z h46 o8 .byte [(.int (nar .byte (f1_0 i5 (0 : Int32) (4 : Int32)))), (.int (nar .byte (f1_0 i5 (1 : Int32) (4 : Int32)))), (.int xo8_2), (.int xo8_3), (.int xo8_4), (.int xo8_5), (.int xo8_6), (.int xo8_7), (.int xo8_8)] := Aq46
      refine own_step (T' := T46) (f' := (mkF m 195 #[.val (.int i0), .val (.int i1), .val (.long j2), .second, .val (.int i4), .val (.int i5), .val (.int (0 : Int32)), .val (.int (4 : Int32)), .val (.ref o8)] [])) st46 ?_
      refine own_step (T' := T46) (f' := (mkF m 198 #[.val (.int i0), .val (.int i1), .val (.long j2), .second, .val (.int i4), .val (.int i5), .val (.int (0 : Int32)), .val (.int (4 : Int32)), .val (.ref o8)] [(.int (2 : Int32)), (.int (4 : Int32))])) (fun t kt => ?_) ?_
      · show Steps p.tables e below (T46.setTop (mkF m 195 #[.val (.int i0), .val (.int i1), .val (.long j2), .second, .val (.int i4), .val (.int i5), .val (.int (0 : Int32)), .val (.int (4 : Int32)), .val (.ref o8)] [])) _
        refine XS.iload X46.here hx rfl (hb hby at_195) rfl ?_
        show Steps p.tables e below (T46.setTop (mkF m 197 #[.val (.int i0), .val (.int i1), .val (.long j2), .second, .val (.int i4), .val (.int i5), .val (.int (0 : Int32)), .val (.int (4 : Int32)), .val (.ref o8)] [(.int (4 : Int32))])) _
        refine XS.iconst X46.here hx rfl (hb hby at_197) ?_
        exact kt
      refine own_step (T' := T46) (f' := (mkF m 201 #[.val (.int i0), .val (.int i1), .val (.long j2), .second, .val (.int i4), .val (.int i5), .val (.int (0 : Int32)), .val (.int (4 : Int32)), .val (.ref o8)] [])) (fun t kt => ?_) ?_
      · show Steps p.tables e below (T46.setTop (mkF m 198 #[.val (.int i0), .val (.int i1), .val (.long j2), .second, .val (.int i4), .val (.int i5), .val (.int (0 : Int32)), .val (.int (4 : Int32)), .val (.ref o8)] [(.int (2 : Int32)), (.int (4 : Int32))])) _
        refine XS.icmpNo X46.here hx rfl (hb hby at_198) rfl (tlt (by decide : ((2 : Int32) < (4 : Int32)))).2.2.2 kt
      refine own_step (T' := T46) (f' := (mkF m 212 #[.val (.int i0), .val (.int i1), .val (.long j2), .second, .val (.int i4), .val (.int i5), .val (.int (0 : Int32)), .val (.int (4 : Int32)), .val (.ref o8)] [(.int (4 : Int32)), (.int (2 : Int32)), (.int i5), (.int (2 : Int32)), (.ref o8)])) (fun t kt => ?_) ?_
      · show Steps p.tables e below (T46.setTop (mkF m 201 #[.val (.int i0), .val (.int i1), .val (.long j2), .second, .val (.int i4), .val (.int i5), .val (.int (0 : Int32)), .val (.int (4 : Int32)), .val (.ref o8)] [])) _
        refine XS.aload X46.here hx rfl (hb hby at_201) rfl rfl ?_
        show Steps p.tables e below (T46.setTop (mkF m 203 #[.val (.int i0), .val (.int i1), .val (.long j2), .second, .val (.int i4), .val (.int i5), .val (.int (0 : Int32)), .val (.int (4 : Int32)), .val (.ref o8)] [(.ref o8)])) _
        refine XS.iload X46.here hx rfl (hb hby at_203) rfl ?_
        show Steps p.tables e below (T46.setTop (mkF m 205 #[.val (.int i0), .val (.int i1), .val (.long j2), .second, .val (.int i4), .val (.int i5), .val (.int (0 : Int32)), .val (.int (4 : Int32)), .val (.ref o8)] [(.int (0 : Int32)), (.ref o8)])) _
        refine XS.iconst X46.here hx rfl (hb hby at_205) ?_
        show Steps p.tables e below (T46.setTop (mkF m 206 #[.val (.int i0), .val (.int i1), .val (.long j2), .second, .val (.int i4), .val (.int i5), .val (.int (0 : Int32)), .val (.int (4 : Int32)), .val (.ref o8)] [(.int (2 : Int32)), (.int (0 : Int32)), (.ref o8)])) _
        refine XS.iadd X46.here hx rfl (hb hby at_206) rfl ?_
        show Steps p.tables e below (T46.setTop (mkF m 207 #[.val (.int i0), .val (.int i1), .val (.long j2), .second, .val (.int i4), .val (.int i5), .val (.int (0 : Int32)), .val (.int (4 : Int32)), .val (.ref o8)] [(.int (2 : Int32)), (.ref o8)])) _
        refine XS.iload X46.here hx rfl (hb hby at_207) rfl ?_
        show Steps p.tables e below (T46.setTop (mkF m 209 #[.val (.int i0), .val (.int i1), .val (.long j2), .second, .val (.int i4), .val (.int i5), .val (.int (0 : Int32)), .val (.int (4 : Int32)), .val (.ref o8)] [(.int i5), (.int (2 : Int32)), (.ref o8)])) _
        refine XS.iconst X46.here hx rfl (hb hby at_209) ?_
        show Steps p.tables e below (T46.setTop (mkF m 210 #[.val (.int i0), .val (.int i1), .val (.long j2), .second, .val (.int i4), .val (.int i5), .val (.int (0 : Int32)), .val (.int (4 : Int32)), .val (.ref o8)] [(.int (2 : Int32)), (.int i5), (.int (2 : Int32)), (.ref o8)])) _
        refine XS.iload X46.here hx rfl (hb hby at_210) rfl ?_
        exact kt
      obtain ⟨_, _, ⟨T48, L48, k48, n48⟩, -, X48, ⟨Lc48, hQ48, l48, y48, z48⟩, st48⟩ := Jvm.LawKit.callS X46 hx (y := (⟨"hotstate/sort/VarIntsReadPinLaw", "enc", "(III)B"⟩ : MethodName)) hown (mvT hZ (hw _ (List.mem_of_getElem? (i := 2) rfl))) (mvT hZ (hw _ (List.mem_of_getElem? (i := 3) rfl))) (mvT hZ (hw _ (List.mem_of_getElem? (i := 4) rfl))) (mvT hZ (hw _ (List.mem_of_getElem? (i := 5) rfl))) (by decide) (backOf (W := 2) (rm1 l Z a0 hw [] i5 (2 : Int32) (4 : Int32)  h46 n0 ) hZ (hw _ (List.mem_of_getElem? (i := 5) rfl)) (hw _ (List.mem_of_getElem? (i := 4) rfl)) (by decide) (by decide)) (g := (mkF m 212 #[.val (.int i0), .val (.int i1), .val (.long j2), .second, .val (.int i4), .val (.int i5), .val (.int (0 : Int32)), .val (.int (4 : Int32)), .val (.ref o8)] [(.int (4 : Int32)), (.int (2 : Int32)), (.int i5), (.int (2 : Int32)), (.ref o8)])) rfl (by rw [hml]; rfl) (argsL := [(.int i5), (.int (2 : Int32)), (.int (4 : Int32))]) (rest := [(.int (2 : Int32)), (.ref o8)]) (lenOf pd1 rfl) rfl (by show 2 * 0 + _ ≤ _; exact Nat.le_of_eq rfl) (hb hby at_212) (fun _ _ => ⟨rfl, e46, (by decide : 1 + 0 ≤ _), (by decide : 9 + 0 ≤ _)⟩)
      dsimp only [Pt.U, Pt.locs, Pt.cells, Pt.slots] at X48 l48 y48 z48 st48 hQ48
      subst l48 y48 z48
      obtain ⟨rfl, Nq48, e48⟩ := hQ48
      have N48 := Fr.app N46 Nq48
      refine own_step (T' := T48) (f' := (mkF m 215 #[.val (.int i0), .val (.int i1), .val (.long j2), .second, .val (.int i4), .val (.int i5), .val (.int (0 : Int32)), .val (.int (4 : Int32)), .val (.ref o8)] [(.int (f1_0 i5 (2 : Int32) (4 : Int32))), (.int (2 : Int32)), (.ref o8)])) st48 ?_
      obtain ⟨T49, h49, Lq49, X49, N49, e49, W49, Z49, Aq49, st49⟩ := own_stB X48 hx hZ e48 Ao8_46 (j := (2 : Int32)) (by decide) (k := 2) (by decide) (Nat.le_of_ble_eq_true rfl) N48 go8 Z46 (g := (mkF m 215 #[.val (.int i0), .val (.int i1), .val (.long j2), .second, .val (.int i4), .val (.int i5), .val (.int (0 : Int32)), .val (.int (4 : Int32)), .val (.ref o8)] [(.int (f1_0 i5 (2 : Int32) (4 : Int32))), (.int (2 : Int32)), (.ref o8)])) rfl rfl (hb hby at_215)
      have Ao8_49 : own_A Z h49 o8 .byte [(.int (nar .byte (f1_0 i5 (0 : Int32) (4 : Int32)))), (.int (nar .byte (f1_0 i5 (1 : Int32) (4 : Int32)))), (.int (nar .byte (f1_0 i5 (2 : Int32) (4 : Int32)))), (.int xo8_3), (.int xo8_4), (.int xo8_5), (.int xo8_6), (.int xo8_7), (.int xo8_8)] := Aq49
      refine own_step (T' := T49) (f' := (mkF m 216 #[.val (.int i0), .val (.int i1), .val (.long j2), .second, .val (.int i4), .val (.int i5), .val (.int (0 : Int32)), .val (.int (4 : Int32)), .val (.ref o8)] [])) st49 ?_
      refine own_step (T' := T49) (f' := (mkF m 219 #[.val (.int i0), .val (.int i1), .val (.long j2), .second, .val (.int i4), .val (.int i5), .val (.int (0 : Int32)), .val (.int (4 : Int32)), .val (.ref o8)] [(.int (3 : Int32)), (.int (4 : Int32))])) (fun t kt => ?_) ?_
      · show Steps p.tables e below (T49.setTop (mkF m 216 #[.val (.int i0), .val (.int i1), .val (.long j2), .second, .val (.int i4), .val (.int i5), .val (.int (0 : Int32)), .val (.int (4 : Int32)), .val (.ref o8)] [])) _
        refine XS.iload X49.here hx rfl (hb hby at_216) rfl ?_
        show Steps p.tables e below (T49.setTop (mkF m 218 #[.val (.int i0), .val (.int i1), .val (.long j2), .second, .val (.int i4), .val (.int i5), .val (.int (0 : Int32)), .val (.int (4 : Int32)), .val (.ref o8)] [(.int (4 : Int32))])) _
        refine XS.iconst X49.here hx rfl (hb hby at_218) ?_
        exact kt
      refine own_step (T' := T49) (f' := (mkF m 222 #[.val (.int i0), .val (.int i1), .val (.long j2), .second, .val (.int i4), .val (.int i5), .val (.int (0 : Int32)), .val (.int (4 : Int32)), .val (.ref o8)] [])) (fun t kt => ?_) ?_
      · show Steps p.tables e below (T49.setTop (mkF m 219 #[.val (.int i0), .val (.int i1), .val (.long j2), .second, .val (.int i4), .val (.int i5), .val (.int (0 : Int32)), .val (.int (4 : Int32)), .val (.ref o8)] [(.int (3 : Int32)), (.int (4 : Int32))])) _
        refine XS.icmpNo X49.here hx rfl (hb hby at_219) rfl (tlt (by decide : ((3 : Int32) < (4 : Int32)))).2.2.2 kt
      refine own_step (T' := T49) (f' := (mkF m 233 #[.val (.int i0), .val (.int i1), .val (.long j2), .second, .val (.int i4), .val (.int i5), .val (.int (0 : Int32)), .val (.int (4 : Int32)), .val (.ref o8)] [(.int (4 : Int32)), (.int (3 : Int32)), (.int i5), (.int (3 : Int32)), (.ref o8)])) (fun t kt => ?_) ?_
      · show Steps p.tables e below (T49.setTop (mkF m 222 #[.val (.int i0), .val (.int i1), .val (.long j2), .second, .val (.int i4), .val (.int i5), .val (.int (0 : Int32)), .val (.int (4 : Int32)), .val (.ref o8)] [])) _
        refine XS.aload X49.here hx rfl (hb hby at_222) rfl rfl ?_
        show Steps p.tables e below (T49.setTop (mkF m 224 #[.val (.int i0), .val (.int i1), .val (.long j2), .second, .val (.int i4), .val (.int i5), .val (.int (0 : Int32)), .val (.int (4 : Int32)), .val (.ref o8)] [(.ref o8)])) _
        refine XS.iload X49.here hx rfl (hb hby at_224) rfl ?_
        show Steps p.tables e below (T49.setTop (mkF m 226 #[.val (.int i0), .val (.int i1), .val (.long j2), .second, .val (.int i4), .val (.int i5), .val (.int (0 : Int32)), .val (.int (4 : Int32)), .val (.ref o8)] [(.int (0 : Int32)), (.ref o8)])) _
        refine XS.iconst X49.here hx rfl (hb hby at_226) ?_
        show Steps p.tables e below (T49.setTop (mkF m 227 #[.val (.int i0), .val (.int i1), .val (.long j2), .second, .val (.int i4), .val (.int i5), .val (.int (0 : Int32)), .val (.int (4 : Int32)), .val (.ref o8)] [(.int (3 : Int32)), (.int (0 : Int32)), (.ref o8)])) _
        refine XS.iadd X49.here hx rfl (hb hby at_227) rfl ?_
        show Steps p.tables e below (T49.setTop (mkF m 228 #[.val (.int i0), .val (.int i1), .val (.long j2), .second, .val (.int i4), .val (.int i5), .val (.int (0 : Int32)), .val (.int (4 : Int32)), .val (.ref o8)] [(.int (3 : Int32)), (.ref o8)])) _
        refine XS.iload X49.here hx rfl (hb hby at_228) rfl ?_
        show Steps p.tables e below (T49.setTop (mkF m 230 #[.val (.int i0), .val (.int i1), .val (.long j2), .second, .val (.int i4), .val (.int i5), .val (.int (0 : Int32)), .val (.int (4 : Int32)), .val (.ref o8)] [(.int i5), (.int (3 : Int32)), (.ref o8)])) _
        refine XS.iconst X49.here hx rfl (hb hby at_230) ?_
        show Steps p.tables e below (T49.setTop (mkF m 231 #[.val (.int i0), .val (.int i1), .val (.long j2), .second, .val (.int i4), .val (.int i5), .val (.int (0 : Int32)), .val (.int (4 : Int32)), .val (.ref o8)] [(.int (3 : Int32)), (.int i5), (.int (3 : Int32)), (.ref o8)])) _
        refine XS.iload X49.here hx rfl (hb hby at_231) rfl ?_
        exact kt
      obtain ⟨_, _, ⟨T51, L51, k51, n51⟩, -, X51, ⟨Lc51, hQ51, l51, y51, z51⟩, st51⟩ := Jvm.LawKit.callS X49 hx (y := (⟨"hotstate/sort/VarIntsReadPinLaw", "enc", "(III)B"⟩ : MethodName)) hown (mvT hZ (hw _ (List.mem_of_getElem? (i := 2) rfl))) (mvT hZ (hw _ (List.mem_of_getElem? (i := 3) rfl))) (mvT hZ (hw _ (List.mem_of_getElem? (i := 4) rfl))) (mvT hZ (hw _ (List.mem_of_getElem? (i := 5) rfl))) (by decide) (backOf (W := 2) (rm1 l Z a0 hw [] i5 (3 : Int32) (4 : Int32)  h49 n0 ) hZ (hw _ (List.mem_of_getElem? (i := 5) rfl)) (hw _ (List.mem_of_getElem? (i := 4) rfl)) (by decide) (by decide)) (g := (mkF m 233 #[.val (.int i0), .val (.int i1), .val (.long j2), .second, .val (.int i4), .val (.int i5), .val (.int (0 : Int32)), .val (.int (4 : Int32)), .val (.ref o8)] [(.int (4 : Int32)), (.int (3 : Int32)), (.int i5), (.int (3 : Int32)), (.ref o8)])) rfl (by rw [hml]; rfl) (argsL := [(.int i5), (.int (3 : Int32)), (.int (4 : Int32))]) (rest := [(.int (3 : Int32)), (.ref o8)]) (lenOf pd1 rfl) rfl (by show 2 * 0 + _ ≤ _; exact Nat.le_of_eq rfl) (hb hby at_233) (fun _ _ => ⟨rfl, e49, (by decide : 1 + 0 ≤ _), (by decide : 9 + 0 ≤ _)⟩)
      dsimp only [Pt.U, Pt.locs, Pt.cells, Pt.slots] at X51 l51 y51 z51 st51 hQ51
      subst l51 y51 z51
      obtain ⟨rfl, Nq51, e51⟩ := hQ51
      have N51 := Fr.app N49 Nq51
      refine own_step (T' := T51) (f' := (mkF m 236 #[.val (.int i0), .val (.int i1), .val (.long j2), .second, .val (.int i4), .val (.int i5), .val (.int (0 : Int32)), .val (.int (4 : Int32)), .val (.ref o8)] [(.int (f1_0 i5 (3 : Int32) (4 : Int32))), (.int (3 : Int32)), (.ref o8)])) st51 ?_
      obtain ⟨T52, h52, Lq52, X52, N52, e52, W52, Z52, Aq52, st52⟩ := own_stB X51 hx hZ e51 Ao8_49 (j := (3 : Int32)) (by decide) (k := 3) (by decide) (Nat.le_of_ble_eq_true rfl) N51 go8 Z49 (g := (mkF m 236 #[.val (.int i0), .val (.int i1), .val (.long j2), .second, .val (.int i4), .val (.int i5), .val (.int (0 : Int32)), .val (.int (4 : Int32)), .val (.ref o8)] [(.int (f1_0 i5 (3 : Int32) (4 : Int32))), (.int (3 : Int32)), (.ref o8)])) rfl rfl (hb hby at_236)
      have Ao8_52 : own_A Z h52 o8 .byte [(.int (nar .byte (f1_0 i5 (0 : Int32) (4 : Int32)))), (.int (nar .byte (f1_0 i5 (1 : Int32) (4 : Int32)))), (.int (nar .byte (f1_0 i5 (2 : Int32) (4 : Int32)))), (.int (nar .byte (f1_0 i5 (3 : Int32) (4 : Int32)))), (.int xo8_4), (.int xo8_5), (.int xo8_6), (.int xo8_7), (.int xo8_8)] := Aq52
      refine own_step (T' := T52) (f' := (mkF m 237 #[.val (.int i0), .val (.int i1), .val (.long j2), .second, .val (.int i4), .val (.int i5), .val (.int (0 : Int32)), .val (.int (4 : Int32)), .val (.ref o8)] [])) st52 ?_
      refine own_step (T' := T52) (f' := (mkF m 240 #[.val (.int i0), .val (.int i1), .val (.long j2), .second, .val (.int i4), .val (.int i5), .val (.int (0 : Int32)), .val (.int (4 : Int32)), .val (.ref o8)] [(.int (4 : Int32)), (.int (4 : Int32))])) (fun t kt => ?_) ?_
      · show Steps p.tables e below (T52.setTop (mkF m 237 #[.val (.int i0), .val (.int i1), .val (.long j2), .second, .val (.int i4), .val (.int i5), .val (.int (0 : Int32)), .val (.int (4 : Int32)), .val (.ref o8)] [])) _
        refine XS.iload X52.here hx rfl (hb hby at_237) rfl ?_
        show Steps p.tables e below (T52.setTop (mkF m 239 #[.val (.int i0), .val (.int i1), .val (.long j2), .second, .val (.int i4), .val (.int i5), .val (.int (0 : Int32)), .val (.int (4 : Int32)), .val (.ref o8)] [(.int (4 : Int32))])) _
        refine XS.iconst X52.here hx rfl (hb hby at_239) ?_
        exact kt
      refine own_step (T' := T52) (f' := (mkF m 258 #[.val (.int i0), .val (.int i1), .val (.long j2), .second, .val (.int i4), .val (.int i5), .val (.int (0 : Int32)), .val (.int (4 : Int32)), .val (.ref o8)] [])) (fun t kt => ?_) ?_
      · show Steps p.tables e below (T52.setTop (mkF m 240 #[.val (.int i0), .val (.int i1), .val (.long j2), .second, .val (.int i4), .val (.int i5), .val (.int (0 : Int32)), .val (.int (4 : Int32)), .val (.ref o8)] [(.int (4 : Int32)), (.int (4 : Int32))])) _
        refine XS.icmpYes X52.here hx rfl (pc0 := 240) (pc' := 258) rfl (hb hby at_240) rfl (flt (by decide : ¬ ((4 : Int32) < (4 : Int32)))).2.2.2 (by decide) (by decide) kt
      refine own_step (T' := T52) (f' := (mkF m 262 #[.val (.int i0), .val (.int i1), .val (.long j2), .second, .val (.int i4), .val (.int i5), .val (.int (0 : Int32)), .val (.int (4 : Int32)), .val (.ref o8)] [(.int (0 : Int32)), (.ref o8)])) (fun t kt => ?_) ?_
      · show Steps p.tables e below (T52.setTop (mkF m 258 #[.val (.int i0), .val (.int i1), .val (.long j2), .second, .val (.int i4), .val (.int i5), .val (.int (0 : Int32)), .val (.int (4 : Int32)), .val (.ref o8)] [])) _
        refine XS.aload X52.here hx rfl (hb hby at_258) rfl rfl ?_
        show Steps p.tables e below (T52.setTop (mkF m 260 #[.val (.int i0), .val (.int i1), .val (.long j2), .second, .val (.int i4), .val (.int i5), .val (.int (0 : Int32)), .val (.int (4 : Int32)), .val (.ref o8)] [(.ref o8)])) _
        refine XS.iload X52.here hx rfl (hb hby at_260) rfl ?_
        exact kt
      obtain ⟨_, _, ⟨T54, L54, k54, n54⟩, -, X54, ⟨Lc54, hQ54, l54, y54, z54⟩, st54⟩ := Jvm.LawKit.callS X52 hx (y := (⟨"hotstate/sort/VarInts", "read", "([BI)I"⟩ : MethodName)) hown (mvT hZ (hw _ (List.mem_of_getElem? (i := 6) rfl))) (mvT hZ (hw _ (List.mem_of_getElem? (i := 7) rfl))) (mvT hZ (hw _ (List.mem_of_getElem? (i := 8) rfl))) (mvT hZ (hw _ (List.mem_of_getElem? (i := 9) rfl))) (by decide) (backOf (W := 0) (rm2n4 l Z a0 hw [] o8 (0 : Int32) (nar .byte (f1_0 i5 (0 : Int32) (4 : Int32))) (nar .byte (f1_0 i5 (1 : Int32) (4 : Int32))) (nar .byte (f1_0 i5 (2 : Int32) (4 : Int32))) (nar .byte (f1_0 i5 (3 : Int32) (4 : Int32))) [(.int (nar .byte (f1_0 i5 (0 : Int32) (4 : Int32)))), (.int (nar .byte (f1_0 i5 (1 : Int32) (4 : Int32)))), (.int (nar .byte (f1_0 i5 (2 : Int32) (4 : Int32)))), (.int (nar .byte (f1_0 i5 (3 : Int32) (4 : Int32)))), (.int xo8_4), (.int xo8_5), (.int xo8_6), (.int xo8_7), (.int xo8_8)] h52 n0 Ao8_52 (by decide) rfl rfl rfl rfl (own_last4 i5)) hZ (hw _ (List.mem_of_getElem? (i := 9) rfl)) (hw _ (List.mem_of_getElem? (i := 8) rfl)) (by decide) (by decide)) (g := (mkF m 262 #[.val (.int i0), .val (.int i1), .val (.long j2), .second, .val (.int i4), .val (.int i5), .val (.int (0 : Int32)), .val (.int (4 : Int32)), .val (.ref o8)] [(.int (0 : Int32)), (.ref o8)])) rfl (by rw [hml]; rfl) (argsL := [(.ref o8), (.int (0 : Int32))]) (rest := []) (lenOf pd2 rfl) rfl (by show 2 * 0 + _ ≤ _; exact Nat.le_of_eq rfl) (hb hby at_262) (fun _ _ => ⟨rfl, e52, (by decide : 1 + 0 ≤ _), (by decide : 9 + 0 ≤ _)⟩)
      dsimp only [Pt.U, Pt.locs, Pt.cells, Pt.slots] at X54 l54 y54 z54 st54 hQ54
      subst l54 y54 z54
      obtain ⟨rfl, Nq54, e54⟩ := hQ54
      have N54 := Fr.app N52 Nq54
      refine own_step (T' := T54) (f' := (mkF m 265 #[.val (.int i0), .val (.int i1), .val (.long j2), .second, .val (.int i4), .val (.int i5), .val (.int (0 : Int32)), .val (.int (4 : Int32)), .val (.ref o8)] [(.int (f2n4_0 (0 : Int32) (nar .byte (f1_0 i5 (0 : Int32) (4 : Int32))) (nar .byte (f1_0 i5 (1 : Int32) (4 : Int32))) (nar .byte (f1_0 i5 (2 : Int32) (4 : Int32))) (nar .byte (f1_0 i5 (3 : Int32) (4 : Int32)))))])) st54 ?_
      refine own_step (T' := T54) (f' := (mkF m 267 #[.val (.int i0), .val (.int i1), .val (.long j2), .second, .val (.int i4), .val (.int i5), .val (.int (0 : Int32)), .val (.int (4 : Int32)), .val (.ref o8)] [(.int i5), (.int (f2n4_0 (0 : Int32) (nar .byte (f1_0 i5 (0 : Int32) (4 : Int32))) (nar .byte (f1_0 i5 (1 : Int32) (4 : Int32))) (nar .byte (f1_0 i5 (2 : Int32) (4 : Int32))) (nar .byte (f1_0 i5 (3 : Int32) (4 : Int32)))))])) (fun t kt => ?_) ?_
      · show Steps p.tables e below (T54.setTop (mkF m 265 #[.val (.int i0), .val (.int i1), .val (.long j2), .second, .val (.int i4), .val (.int i5), .val (.int (0 : Int32)), .val (.int (4 : Int32)), .val (.ref o8)] [(.int (f2n4_0 (0 : Int32) (nar .byte (f1_0 i5 (0 : Int32) (4 : Int32))) (nar .byte (f1_0 i5 (1 : Int32) (4 : Int32))) (nar .byte (f1_0 i5 (2 : Int32) (4 : Int32))) (nar .byte (f1_0 i5 (3 : Int32) (4 : Int32)))))])) _
        refine XS.iload X54.here hx rfl (hb hby at_265) rfl ?_
        exact kt
      by_cases hc267_55 : (f2n4_0 (0 : Int32) (nar .byte (f1_0 i5 (0 : Int32) (4 : Int32))) (nar .byte (f1_0 i5 (1 : Int32) (4 : Int32))) (nar .byte (f1_0 i5 (2 : Int32) (4 : Int32))) (nar .byte (f1_0 i5 (3 : Int32) (4 : Int32)))) = i5
      · replace hr := hr.trans (if_pos hc267_55)
        refine own_step (T' := T54) (f' := (mkF m 270 #[.val (.int i0), .val (.int i1), .val (.long j2), .second, .val (.int i4), .val (.int i5), .val (.int (0 : Int32)), .val (.int (4 : Int32)), .val (.ref o8)] [])) (fun t kt => ?_) ?_
        · show Steps p.tables e below (T54.setTop (mkF m 267 #[.val (.int i0), .val (.int i1), .val (.long j2), .second, .val (.int i4), .val (.int i5), .val (.int (0 : Int32)), .val (.int (4 : Int32)), .val (.ref o8)] [(.int i5), (.int (f2n4_0 (0 : Int32) (nar .byte (f1_0 i5 (0 : Int32) (4 : Int32))) (nar .byte (f1_0 i5 (1 : Int32) (4 : Int32))) (nar .byte (f1_0 i5 (2 : Int32) (4 : Int32))) (nar .byte (f1_0 i5 (3 : Int32) (4 : Int32)))))])) _
          refine XS.icmpNo X54.here hx rfl (hb hby at_267) rfl (teq hc267_55).2 kt
        refine own_step (T' := T54) (f' := (mkF m 275 #[.val (.int i0), .val (.int i1), .val (.long j2), .second, .val (.int i4), .val (.int i5), .val (.int (0 : Int32)), .val (.int (4 : Int32)), .val (.ref o8)] [(.int (1 : Int32))])) (fun t kt => ?_) ?_
        · show Steps p.tables e below (T54.setTop (mkF m 270 #[.val (.int i0), .val (.int i1), .val (.long j2), .second, .val (.int i4), .val (.int i5), .val (.int (0 : Int32)), .val (.int (4 : Int32)), .val (.ref o8)] [])) _
          refine XS.iconst X54.here hx rfl (hb hby at_270) ?_
          show Steps p.tables e below (T54.setTop (mkF m 271 #[.val (.int i0), .val (.int i1), .val (.long j2), .second, .val (.int i4), .val (.int i5), .val (.int (0 : Int32)), .val (.int (4 : Int32)), .val (.ref o8)] [(.int (1 : Int32))])) _
          refine XS.goto X54.here hx rfl (pc0 := 271) (pc' := 275) rfl (hb hby at_271) (by decide) (by decide) ?_
          exact kt
        exact own_retZ X54 hx hret (by simp) hlk (hb hby at_275) (by decide) (by decide) ⟨congrArg (fun z => some (Value.int z)) hr.symm, N54⟩
      · replace hr := hr.trans (if_neg hc267_55)
        refine own_step (T' := T54) (f' := (mkF m 274 #[.val (.int i0), .val (.int i1), .val (.long j2), .second, .val (.int i4), .val (.int i5), .val (.int (0 : Int32)), .val (.int (4 : Int32)), .val (.ref o8)] [])) (fun t kt => ?_) ?_
        · show Steps p.tables e below (T54.setTop (mkF m 267 #[.val (.int i0), .val (.int i1), .val (.long j2), .second, .val (.int i4), .val (.int i5), .val (.int (0 : Int32)), .val (.int (4 : Int32)), .val (.ref o8)] [(.int i5), (.int (f2n4_0 (0 : Int32) (nar .byte (f1_0 i5 (0 : Int32) (4 : Int32))) (nar .byte (f1_0 i5 (1 : Int32) (4 : Int32))) (nar .byte (f1_0 i5 (2 : Int32) (4 : Int32))) (nar .byte (f1_0 i5 (3 : Int32) (4 : Int32)))))])) _
          refine XS.icmpYes X54.here hx rfl (pc0 := 267) (pc' := 274) rfl (hb hby at_267) rfl (feq hc267_55).2 (by decide) (by decide) kt
        refine own_step (T' := T54) (f' := (mkF m 275 #[.val (.int i0), .val (.int i1), .val (.long j2), .second, .val (.int i4), .val (.int i5), .val (.int (0 : Int32)), .val (.int (4 : Int32)), .val (.ref o8)] [(.int (0 : Int32))])) (fun t kt => ?_) ?_
        · show Steps p.tables e below (T54.setTop (mkF m 274 #[.val (.int i0), .val (.int i1), .val (.long j2), .second, .val (.int i4), .val (.int i5), .val (.int (0 : Int32)), .val (.int (4 : Int32)), .val (.ref o8)] [])) _
          refine XS.iconst X54.here hx rfl (hb hby at_274) ?_
          exact kt
        exact own_retZ X54 hx hret (by simp) hlk (hb hby at_275) (by decide) (by decide) ⟨congrArg (fun z => some (Value.int z)) hr.symm, N54⟩
    · replace hr := hr.trans ((if_neg (by decide)).trans ((if_neg (by decide)).trans ((if_neg (by decide)).trans ((if_neg (by decide)).trans (if_pos rfl)))))
      refine own_step (T' := T0) (f' := (mkF m 170 #[.val (.int i0), .val (.int i1), .val (.long j2), .second, .val (.int i4), .val (.int i5), .val (.int (0 : Int32)), .val (.int (5 : Int32)), .val (.ref o8)] [(.int (5 : Int32)), (.int (0 : Int32)), (.int i5), (.int (0 : Int32)), (.ref o8)])) (fun t kt => ?_) ?_
      · show Steps p.tables e below (T0.setTop (mkF m 161 #[.val (.int i0), .val (.int i1), .val (.long j2), .second, .val (.int i4), .val (.int i5), .val (.int (0 : Int32)), .val (.int (5 : Int32)), .val (.ref o8)] [])) _
        refine XS.aload X0.here hx rfl (hb hby at_161) rfl rfl ?_
        show Steps p.tables e below (T0.setTop (mkF m 163 #[.val (.int i0), .val (.int i1), .val (.long j2), .second, .val (.int i4), .val (.int i5), .val (.int (0 : Int32)), .val (.int (5 : Int32)), .val (.ref o8)] [(.ref o8)])) _
        refine XS.iload X0.here hx rfl (hb hby at_163) rfl ?_
        show Steps p.tables e below (T0.setTop (mkF m 165 #[.val (.int i0), .val (.int i1), .val (.long j2), .second, .val (.int i4), .val (.int i5), .val (.int (0 : Int32)), .val (.int (5 : Int32)), .val (.ref o8)] [(.int (0 : Int32)), (.ref o8)])) _
        refine XS.iload X0.here hx rfl (hb hby at_165) rfl ?_
        show Steps p.tables e below (T0.setTop (mkF m 167 #[.val (.int i0), .val (.int i1), .val (.long j2), .second, .val (.int i4), .val (.int i5), .val (.int (0 : Int32)), .val (.int (5 : Int32)), .val (.ref o8)] [(.int i5), (.int (0 : Int32)), (.ref o8)])) _
        refine XS.iconst X0.here hx rfl (hb hby at_167) ?_
        show Steps p.tables e below (T0.setTop (mkF m 168 #[.val (.int i0), .val (.int i1), .val (.long j2), .second, .val (.int i4), .val (.int i5), .val (.int (0 : Int32)), .val (.int (5 : Int32)), .val (.ref o8)] [(.int (0 : Int32)), (.int i5), (.int (0 : Int32)), (.ref o8)])) _
        refine XS.iload X0.here hx rfl (hb hby at_168) rfl ?_
        exact kt
      obtain ⟨_, _, ⟨T56, L56, k56, n56⟩, -, X56, ⟨Lc56, hQ56, l56, y56, z56⟩, st56⟩ := Jvm.LawKit.callS X0 hx (y := (⟨"hotstate/sort/VarIntsReadPinLaw", "enc", "(III)B"⟩ : MethodName)) hown (mvT hZ (hw _ (List.mem_of_getElem? (i := 2) rfl))) (mvT hZ (hw _ (List.mem_of_getElem? (i := 3) rfl))) (mvT hZ (hw _ (List.mem_of_getElem? (i := 4) rfl))) (mvT hZ (hw _ (List.mem_of_getElem? (i := 5) rfl))) (by decide) (backOf (W := 2) (rm1 l Z a0 hw [] i5 (0 : Int32) (5 : Int32)  h0 n0 ) hZ (hw _ (List.mem_of_getElem? (i := 5) rfl)) (hw _ (List.mem_of_getElem? (i := 4) rfl)) (by decide) (by decide)) (g := (mkF m 170 #[.val (.int i0), .val (.int i1), .val (.long j2), .second, .val (.int i4), .val (.int i5), .val (.int (0 : Int32)), .val (.int (5 : Int32)), .val (.ref o8)] [(.int (5 : Int32)), (.int (0 : Int32)), (.int i5), (.int (0 : Int32)), (.ref o8)])) rfl (by rw [hml]; rfl) (argsL := [(.int i5), (.int (0 : Int32)), (.int (5 : Int32))]) (rest := [(.int (0 : Int32)), (.ref o8)]) (lenOf pd1 rfl) rfl (by show 2 * 0 + _ ≤ _; exact Nat.le_of_eq rfl) (hb hby at_170) (fun _ _ => ⟨rfl, e0, (by decide : 1 + 0 ≤ _), (by decide : 9 + 0 ≤ _)⟩)
      dsimp only [Pt.U, Pt.locs, Pt.cells, Pt.slots] at X56 l56 y56 z56 st56 hQ56
      subst l56 y56 z56
      obtain ⟨rfl, Nq56, e56⟩ := hQ56
      have N56 := Fr.app N0 Nq56
      refine own_step (T' := T56) (f' := (mkF m 173 #[.val (.int i0), .val (.int i1), .val (.long j2), .second, .val (.int i4), .val (.int i5), .val (.int (0 : Int32)), .val (.int (5 : Int32)), .val (.ref o8)] [(.int (f1_0 i5 (0 : Int32) (5 : Int32))), (.int (0 : Int32)), (.ref o8)])) st56 ?_
      obtain ⟨T57, h57, Lq57, X57, N57, e57, W57, Z57, Aq57, st57⟩ := own_stB X56 hx hZ e56 Ao8 (j := (0 : Int32)) (by decide) (k := 0) (by decide) (Nat.le_of_ble_eq_true rfl) N56 go8 Z0 (g := (mkF m 173 #[.val (.int i0), .val (.int i1), .val (.long j2), .second, .val (.int i4), .val (.int i5), .val (.int (0 : Int32)), .val (.int (5 : Int32)), .val (.ref o8)] [(.int (f1_0 i5 (0 : Int32) (5 : Int32))), (.int (0 : Int32)), (.ref o8)])) rfl rfl (hb hby at_173)
      have Ao8_57 : own_A Z h57 o8 .byte [(.int (nar .byte (f1_0 i5 (0 : Int32) (5 : Int32)))), (.int xo8_1), (.int xo8_2), (.int xo8_3), (.int xo8_4), (.int xo8_5), (.int xo8_6), (.int xo8_7), (.int xo8_8)] := Aq57
      refine own_step (T' := T57) (f' := (mkF m 174 #[.val (.int i0), .val (.int i1), .val (.long j2), .second, .val (.int i4), .val (.int i5), .val (.int (0 : Int32)), .val (.int (5 : Int32)), .val (.ref o8)] [])) st57 ?_
      refine own_step (T' := T57) (f' := (mkF m 177 #[.val (.int i0), .val (.int i1), .val (.long j2), .second, .val (.int i4), .val (.int i5), .val (.int (0 : Int32)), .val (.int (5 : Int32)), .val (.ref o8)] [(.int (1 : Int32)), (.int (5 : Int32))])) (fun t kt => ?_) ?_
      · show Steps p.tables e below (T57.setTop (mkF m 174 #[.val (.int i0), .val (.int i1), .val (.long j2), .second, .val (.int i4), .val (.int i5), .val (.int (0 : Int32)), .val (.int (5 : Int32)), .val (.ref o8)] [])) _
        refine XS.iload X57.here hx rfl (hb hby at_174) rfl ?_
        show Steps p.tables e below (T57.setTop (mkF m 176 #[.val (.int i0), .val (.int i1), .val (.long j2), .second, .val (.int i4), .val (.int i5), .val (.int (0 : Int32)), .val (.int (5 : Int32)), .val (.ref o8)] [(.int (5 : Int32))])) _
        refine XS.iconst X57.here hx rfl (hb hby at_176) ?_
        exact kt
      refine own_step (T' := T57) (f' := (mkF m 180 #[.val (.int i0), .val (.int i1), .val (.long j2), .second, .val (.int i4), .val (.int i5), .val (.int (0 : Int32)), .val (.int (5 : Int32)), .val (.ref o8)] [])) (fun t kt => ?_) ?_
      · show Steps p.tables e below (T57.setTop (mkF m 177 #[.val (.int i0), .val (.int i1), .val (.long j2), .second, .val (.int i4), .val (.int i5), .val (.int (0 : Int32)), .val (.int (5 : Int32)), .val (.ref o8)] [(.int (1 : Int32)), (.int (5 : Int32))])) _
        refine XS.icmpNo X57.here hx rfl (hb hby at_177) rfl (tlt (by decide : ((1 : Int32) < (5 : Int32)))).2.2.2 kt
      refine own_step (T' := T57) (f' := (mkF m 191 #[.val (.int i0), .val (.int i1), .val (.long j2), .second, .val (.int i4), .val (.int i5), .val (.int (0 : Int32)), .val (.int (5 : Int32)), .val (.ref o8)] [(.int (5 : Int32)), (.int (1 : Int32)), (.int i5), (.int (1 : Int32)), (.ref o8)])) (fun t kt => ?_) ?_
      · show Steps p.tables e below (T57.setTop (mkF m 180 #[.val (.int i0), .val (.int i1), .val (.long j2), .second, .val (.int i4), .val (.int i5), .val (.int (0 : Int32)), .val (.int (5 : Int32)), .val (.ref o8)] [])) _
        refine XS.aload X57.here hx rfl (hb hby at_180) rfl rfl ?_
        show Steps p.tables e below (T57.setTop (mkF m 182 #[.val (.int i0), .val (.int i1), .val (.long j2), .second, .val (.int i4), .val (.int i5), .val (.int (0 : Int32)), .val (.int (5 : Int32)), .val (.ref o8)] [(.ref o8)])) _
        refine XS.iload X57.here hx rfl (hb hby at_182) rfl ?_
        show Steps p.tables e below (T57.setTop (mkF m 184 #[.val (.int i0), .val (.int i1), .val (.long j2), .second, .val (.int i4), .val (.int i5), .val (.int (0 : Int32)), .val (.int (5 : Int32)), .val (.ref o8)] [(.int (0 : Int32)), (.ref o8)])) _
        refine XS.iconst X57.here hx rfl (hb hby at_184) ?_
        show Steps p.tables e below (T57.setTop (mkF m 185 #[.val (.int i0), .val (.int i1), .val (.long j2), .second, .val (.int i4), .val (.int i5), .val (.int (0 : Int32)), .val (.int (5 : Int32)), .val (.ref o8)] [(.int (1 : Int32)), (.int (0 : Int32)), (.ref o8)])) _
        refine XS.iadd X57.here hx rfl (hb hby at_185) rfl ?_
        show Steps p.tables e below (T57.setTop (mkF m 186 #[.val (.int i0), .val (.int i1), .val (.long j2), .second, .val (.int i4), .val (.int i5), .val (.int (0 : Int32)), .val (.int (5 : Int32)), .val (.ref o8)] [(.int (1 : Int32)), (.ref o8)])) _
        refine XS.iload X57.here hx rfl (hb hby at_186) rfl ?_
        show Steps p.tables e below (T57.setTop (mkF m 188 #[.val (.int i0), .val (.int i1), .val (.long j2), .second, .val (.int i4), .val (.int i5), .val (.int (0 : Int32)), .val (.int (5 : Int32)), .val (.ref o8)] [(.int i5), (.int (1 : Int32)), (.ref o8)])) _
        refine XS.iconst X57.here hx rfl (hb hby at_188) ?_
        show Steps p.tables e below (T57.setTop (mkF m 189 #[.val (.int i0), .val (.int i1), .val (.long j2), .second, .val (.int i4), .val (.int i5), .val (.int (0 : Int32)), .val (.int (5 : Int32)), .val (.ref o8)] [(.int (1 : Int32)), (.int i5), (.int (1 : Int32)), (.ref o8)])) _
        refine XS.iload X57.here hx rfl (hb hby at_189) rfl ?_
        exact kt
      obtain ⟨_, _, ⟨T59, L59, k59, n59⟩, -, X59, ⟨Lc59, hQ59, l59, y59, z59⟩, st59⟩ := Jvm.LawKit.callS X57 hx (y := (⟨"hotstate/sort/VarIntsReadPinLaw", "enc", "(III)B"⟩ : MethodName)) hown (mvT hZ (hw _ (List.mem_of_getElem? (i := 2) rfl))) (mvT hZ (hw _ (List.mem_of_getElem? (i := 3) rfl))) (mvT hZ (hw _ (List.mem_of_getElem? (i := 4) rfl))) (mvT hZ (hw _ (List.mem_of_getElem? (i := 5) rfl))) (by decide) (backOf (W := 2) (rm1 l Z a0 hw [] i5 (1 : Int32) (5 : Int32)  h57 n0 ) hZ (hw _ (List.mem_of_getElem? (i := 5) rfl)) (hw _ (List.mem_of_getElem? (i := 4) rfl)) (by decide) (by decide)) (g := (mkF m 191 #[.val (.int i0), .val (.int i1), .val (.long j2), .second, .val (.int i4), .val (.int i5), .val (.int (0 : Int32)), .val (.int (5 : Int32)), .val (.ref o8)] [(.int (5 : Int32)), (.int (1 : Int32)), (.int i5), (.int (1 : Int32)), (.ref o8)])) rfl (by rw [hml]; rfl) (argsL := [(.int i5), (.int (1 : Int32)), (.int (5 : Int32))]) (rest := [(.int (1 : Int32)), (.ref o8)]) (lenOf pd1 rfl) rfl (by show 2 * 0 + _ ≤ _; exact Nat.le_of_eq rfl) (hb hby at_191) (fun _ _ => ⟨rfl, e57, (by decide : 1 + 0 ≤ _), (by decide : 9 + 0 ≤ _)⟩)
      dsimp only [Pt.U, Pt.locs, Pt.cells, Pt.slots] at X59 l59 y59 z59 st59 hQ59
      subst l59 y59 z59
      obtain ⟨rfl, Nq59, e59⟩ := hQ59
      have N59 := Fr.app N57 Nq59
      refine own_step (T' := T59) (f' := (mkF m 194 #[.val (.int i0), .val (.int i1), .val (.long j2), .second, .val (.int i4), .val (.int i5), .val (.int (0 : Int32)), .val (.int (5 : Int32)), .val (.ref o8)] [(.int (f1_0 i5 (1 : Int32) (5 : Int32))), (.int (1 : Int32)), (.ref o8)])) st59 ?_
      obtain ⟨T60, h60, Lq60, X60, N60, e60, W60, Z60, Aq60, st60⟩ := own_stB X59 hx hZ e59 Ao8_57 (j := (1 : Int32)) (by decide) (k := 1) (by decide) (Nat.le_of_ble_eq_true rfl) N59 go8 Z57 (g := (mkF m 194 #[.val (.int i0), .val (.int i1), .val (.long j2), .second, .val (.int i4), .val (.int i5), .val (.int (0 : Int32)), .val (.int (5 : Int32)), .val (.ref o8)] [(.int (f1_0 i5 (1 : Int32) (5 : Int32))), (.int (1 : Int32)), (.ref o8)])) rfl rfl (hb hby at_194)
      have Ao8_60 : own_A Z h60 o8 .byte [(.int (nar .byte (f1_0 i5 (0 : Int32) (5 : Int32)))), (.int (nar .byte (f1_0 i5 (1 : Int32) (5 : Int32)))), (.int xo8_2), (.int xo8_3), (.int xo8_4), (.int xo8_5), (.int xo8_6), (.int xo8_7), (.int xo8_8)] := Aq60
      refine own_step (T' := T60) (f' := (mkF m 195 #[.val (.int i0), .val (.int i1), .val (.long j2), .second, .val (.int i4), .val (.int i5), .val (.int (0 : Int32)), .val (.int (5 : Int32)), .val (.ref o8)] [])) st60 ?_
      refine own_step (T' := T60) (f' := (mkF m 198 #[.val (.int i0), .val (.int i1), .val (.long j2), .second, .val (.int i4), .val (.int i5), .val (.int (0 : Int32)), .val (.int (5 : Int32)), .val (.ref o8)] [(.int (2 : Int32)), (.int (5 : Int32))])) (fun t kt => ?_) ?_
      · show Steps p.tables e below (T60.setTop (mkF m 195 #[.val (.int i0), .val (.int i1), .val (.long j2), .second, .val (.int i4), .val (.int i5), .val (.int (0 : Int32)), .val (.int (5 : Int32)), .val (.ref o8)] [])) _
        refine XS.iload X60.here hx rfl (hb hby at_195) rfl ?_
        show Steps p.tables e below (T60.setTop (mkF m 197 #[.val (.int i0), .val (.int i1), .val (.long j2), .second, .val (.int i4), .val (.int i5), .val (.int (0 : Int32)), .val (.int (5 : Int32)), .val (.ref o8)] [(.int (5 : Int32))])) _
        refine XS.iconst X60.here hx rfl (hb hby at_197) ?_
        exact kt
      refine own_step (T' := T60) (f' := (mkF m 201 #[.val (.int i0), .val (.int i1), .val (.long j2), .second, .val (.int i4), .val (.int i5), .val (.int (0 : Int32)), .val (.int (5 : Int32)), .val (.ref o8)] [])) (fun t kt => ?_) ?_
      · show Steps p.tables e below (T60.setTop (mkF m 198 #[.val (.int i0), .val (.int i1), .val (.long j2), .second, .val (.int i4), .val (.int i5), .val (.int (0 : Int32)), .val (.int (5 : Int32)), .val (.ref o8)] [(.int (2 : Int32)), (.int (5 : Int32))])) _
        refine XS.icmpNo X60.here hx rfl (hb hby at_198) rfl (tlt (by decide : ((2 : Int32) < (5 : Int32)))).2.2.2 kt
      refine own_step (T' := T60) (f' := (mkF m 212 #[.val (.int i0), .val (.int i1), .val (.long j2), .second, .val (.int i4), .val (.int i5), .val (.int (0 : Int32)), .val (.int (5 : Int32)), .val (.ref o8)] [(.int (5 : Int32)), (.int (2 : Int32)), (.int i5), (.int (2 : Int32)), (.ref o8)])) (fun t kt => ?_) ?_
      · show Steps p.tables e below (T60.setTop (mkF m 201 #[.val (.int i0), .val (.int i1), .val (.long j2), .second, .val (.int i4), .val (.int i5), .val (.int (0 : Int32)), .val (.int (5 : Int32)), .val (.ref o8)] [])) _
        refine XS.aload X60.here hx rfl (hb hby at_201) rfl rfl ?_
        show Steps p.tables e below (T60.setTop (mkF m 203 #[.val (.int i0), .val (.int i1), .val (.long j2), .second, .val (.int i4), .val (.int i5), .val (.int (0 : Int32)), .val (.int (5 : Int32)), .val (.ref o8)] [(.ref o8)])) _
        refine XS.iload X60.here hx rfl (hb hby at_203) rfl ?_
        show Steps p.tables e below (T60.setTop (mkF m 205 #[.val (.int i0), .val (.int i1), .val (.long j2), .second, .val (.int i4), .val (.int i5), .val (.int (0 : Int32)), .val (.int (5 : Int32)), .val (.ref o8)] [(.int (0 : Int32)), (.ref o8)])) _
        refine XS.iconst X60.here hx rfl (hb hby at_205) ?_
        show Steps p.tables e below (T60.setTop (mkF m 206 #[.val (.int i0), .val (.int i1), .val (.long j2), .second, .val (.int i4), .val (.int i5), .val (.int (0 : Int32)), .val (.int (5 : Int32)), .val (.ref o8)] [(.int (2 : Int32)), (.int (0 : Int32)), (.ref o8)])) _
        refine XS.iadd X60.here hx rfl (hb hby at_206) rfl ?_
        show Steps p.tables e below (T60.setTop (mkF m 207 #[.val (.int i0), .val (.int i1), .val (.long j2), .second, .val (.int i4), .val (.int i5), .val (.int (0 : Int32)), .val (.int (5 : Int32)), .val (.ref o8)] [(.int (2 : Int32)), (.ref o8)])) _
        refine XS.iload X60.here hx rfl (hb hby at_207) rfl ?_
        show Steps p.tables e below (T60.setTop (mkF m 209 #[.val (.int i0), .val (.int i1), .val (.long j2), .second, .val (.int i4), .val (.int i5), .val (.int (0 : Int32)), .val (.int (5 : Int32)), .val (.ref o8)] [(.int i5), (.int (2 : Int32)), (.ref o8)])) _
        refine XS.iconst X60.here hx rfl (hb hby at_209) ?_
        show Steps p.tables e below (T60.setTop (mkF m 210 #[.val (.int i0), .val (.int i1), .val (.long j2), .second, .val (.int i4), .val (.int i5), .val (.int (0 : Int32)), .val (.int (5 : Int32)), .val (.ref o8)] [(.int (2 : Int32)), (.int i5), (.int (2 : Int32)), (.ref o8)])) _
        refine XS.iload X60.here hx rfl (hb hby at_210) rfl ?_
        exact kt
      obtain ⟨_, _, ⟨T62, L62, k62, n62⟩, -, X62, ⟨Lc62, hQ62, l62, y62, z62⟩, st62⟩ := Jvm.LawKit.callS X60 hx (y := (⟨"hotstate/sort/VarIntsReadPinLaw", "enc", "(III)B"⟩ : MethodName)) hown (mvT hZ (hw _ (List.mem_of_getElem? (i := 2) rfl))) (mvT hZ (hw _ (List.mem_of_getElem? (i := 3) rfl))) (mvT hZ (hw _ (List.mem_of_getElem? (i := 4) rfl))) (mvT hZ (hw _ (List.mem_of_getElem? (i := 5) rfl))) (by decide) (backOf (W := 2) (rm1 l Z a0 hw [] i5 (2 : Int32) (5 : Int32)  h60 n0 ) hZ (hw _ (List.mem_of_getElem? (i := 5) rfl)) (hw _ (List.mem_of_getElem? (i := 4) rfl)) (by decide) (by decide)) (g := (mkF m 212 #[.val (.int i0), .val (.int i1), .val (.long j2), .second, .val (.int i4), .val (.int i5), .val (.int (0 : Int32)), .val (.int (5 : Int32)), .val (.ref o8)] [(.int (5 : Int32)), (.int (2 : Int32)), (.int i5), (.int (2 : Int32)), (.ref o8)])) rfl (by rw [hml]; rfl) (argsL := [(.int i5), (.int (2 : Int32)), (.int (5 : Int32))]) (rest := [(.int (2 : Int32)), (.ref o8)]) (lenOf pd1 rfl) rfl (by show 2 * 0 + _ ≤ _; exact Nat.le_of_eq rfl) (hb hby at_212) (fun _ _ => ⟨rfl, e60, (by decide : 1 + 0 ≤ _), (by decide : 9 + 0 ≤ _)⟩)
      dsimp only [Pt.U, Pt.locs, Pt.cells, Pt.slots] at X62 l62 y62 z62 st62 hQ62
      subst l62 y62 z62
      obtain ⟨rfl, Nq62, e62⟩ := hQ62
      have N62 := Fr.app N60 Nq62
      refine own_step (T' := T62) (f' := (mkF m 215 #[.val (.int i0), .val (.int i1), .val (.long j2), .second, .val (.int i4), .val (.int i5), .val (.int (0 : Int32)), .val (.int (5 : Int32)), .val (.ref o8)] [(.int (f1_0 i5 (2 : Int32) (5 : Int32))), (.int (2 : Int32)), (.ref o8)])) st62 ?_
      obtain ⟨T63, h63, Lq63, X63, N63, e63, W63, Z63, Aq63, st63⟩ := own_stB X62 hx hZ e62 Ao8_60 (j := (2 : Int32)) (by decide) (k := 2) (by decide) (Nat.le_of_ble_eq_true rfl) N62 go8 Z60 (g := (mkF m 215 #[.val (.int i0), .val (.int i1), .val (.long j2), .second, .val (.int i4), .val (.int i5), .val (.int (0 : Int32)), .val (.int (5 : Int32)), .val (.ref o8)] [(.int (f1_0 i5 (2 : Int32) (5 : Int32))), (.int (2 : Int32)), (.ref o8)])) rfl rfl (hb hby at_215)
      have Ao8_63 : own_A Z h63 o8 .byte [(.int (nar .byte (f1_0 i5 (0 : Int32) (5 : Int32)))), (.int (nar .byte (f1_0 i5 (1 : Int32) (5 : Int32)))), (.int (nar .byte (f1_0 i5 (2 : Int32) (5 : Int32)))), (.int xo8_3), (.int xo8_4), (.int xo8_5), (.int xo8_6), (.int xo8_7), (.int xo8_8)] := Aq63
      refine own_step (T' := T63) (f' := (mkF m 216 #[.val (.int i0), .val (.int i1), .val (.long j2), .second, .val (.int i4), .val (.int i5), .val (.int (0 : Int32)), .val (.int (5 : Int32)), .val (.ref o8)] [])) st63 ?_
      refine own_step (T' := T63) (f' := (mkF m 219 #[.val (.int i0), .val (.int i1), .val (.long j2), .second, .val (.int i4), .val (.int i5), .val (.int (0 : Int32)), .val (.int (5 : Int32)), .val (.ref o8)] [(.int (3 : Int32)), (.int (5 : Int32))])) (fun t kt => ?_) ?_
      · show Steps p.tables e below (T63.setTop (mkF m 216 #[.val (.int i0), .val (.int i1), .val (.long j2), .second, .val (.int i4), .val (.int i5), .val (.int (0 : Int32)), .val (.int (5 : Int32)), .val (.ref o8)] [])) _
        refine XS.iload X63.here hx rfl (hb hby at_216) rfl ?_
        show Steps p.tables e below (T63.setTop (mkF m 218 #[.val (.int i0), .val (.int i1), .val (.long j2), .second, .val (.int i4), .val (.int i5), .val (.int (0 : Int32)), .val (.int (5 : Int32)), .val (.ref o8)] [(.int (5 : Int32))])) _
        refine XS.iconst X63.here hx rfl (hb hby at_218) ?_
        exact kt
      refine own_step (T' := T63) (f' := (mkF m 222 #[.val (.int i0), .val (.int i1), .val (.long j2), .second, .val (.int i4), .val (.int i5), .val (.int (0 : Int32)), .val (.int (5 : Int32)), .val (.ref o8)] [])) (fun t kt => ?_) ?_
      · show Steps p.tables e below (T63.setTop (mkF m 219 #[.val (.int i0), .val (.int i1), .val (.long j2), .second, .val (.int i4), .val (.int i5), .val (.int (0 : Int32)), .val (.int (5 : Int32)), .val (.ref o8)] [(.int (3 : Int32)), (.int (5 : Int32))])) _
        refine XS.icmpNo X63.here hx rfl (hb hby at_219) rfl (tlt (by decide : ((3 : Int32) < (5 : Int32)))).2.2.2 kt
      refine own_step (T' := T63) (f' := (mkF m 233 #[.val (.int i0), .val (.int i1), .val (.long j2), .second, .val (.int i4), .val (.int i5), .val (.int (0 : Int32)), .val (.int (5 : Int32)), .val (.ref o8)] [(.int (5 : Int32)), (.int (3 : Int32)), (.int i5), (.int (3 : Int32)), (.ref o8)])) (fun t kt => ?_) ?_
      · show Steps p.tables e below (T63.setTop (mkF m 222 #[.val (.int i0), .val (.int i1), .val (.long j2), .second, .val (.int i4), .val (.int i5), .val (.int (0 : Int32)), .val (.int (5 : Int32)), .val (.ref o8)] [])) _
        refine XS.aload X63.here hx rfl (hb hby at_222) rfl rfl ?_
        show Steps p.tables e below (T63.setTop (mkF m 224 #[.val (.int i0), .val (.int i1), .val (.long j2), .second, .val (.int i4), .val (.int i5), .val (.int (0 : Int32)), .val (.int (5 : Int32)), .val (.ref o8)] [(.ref o8)])) _
        refine XS.iload X63.here hx rfl (hb hby at_224) rfl ?_
        show Steps p.tables e below (T63.setTop (mkF m 226 #[.val (.int i0), .val (.int i1), .val (.long j2), .second, .val (.int i4), .val (.int i5), .val (.int (0 : Int32)), .val (.int (5 : Int32)), .val (.ref o8)] [(.int (0 : Int32)), (.ref o8)])) _
        refine XS.iconst X63.here hx rfl (hb hby at_226) ?_
        show Steps p.tables e below (T63.setTop (mkF m 227 #[.val (.int i0), .val (.int i1), .val (.long j2), .second, .val (.int i4), .val (.int i5), .val (.int (0 : Int32)), .val (.int (5 : Int32)), .val (.ref o8)] [(.int (3 : Int32)), (.int (0 : Int32)), (.ref o8)])) _
        refine XS.iadd X63.here hx rfl (hb hby at_227) rfl ?_
        show Steps p.tables e below (T63.setTop (mkF m 228 #[.val (.int i0), .val (.int i1), .val (.long j2), .second, .val (.int i4), .val (.int i5), .val (.int (0 : Int32)), .val (.int (5 : Int32)), .val (.ref o8)] [(.int (3 : Int32)), (.ref o8)])) _
        refine XS.iload X63.here hx rfl (hb hby at_228) rfl ?_
        show Steps p.tables e below (T63.setTop (mkF m 230 #[.val (.int i0), .val (.int i1), .val (.long j2), .second, .val (.int i4), .val (.int i5), .val (.int (0 : Int32)), .val (.int (5 : Int32)), .val (.ref o8)] [(.int i5), (.int (3 : Int32)), (.ref o8)])) _
        refine XS.iconst X63.here hx rfl (hb hby at_230) ?_
        show Steps p.tables e below (T63.setTop (mkF m 231 #[.val (.int i0), .val (.int i1), .val (.long j2), .second, .val (.int i4), .val (.int i5), .val (.int (0 : Int32)), .val (.int (5 : Int32)), .val (.ref o8)] [(.int (3 : Int32)), (.int i5), (.int (3 : Int32)), (.ref o8)])) _
        refine XS.iload X63.here hx rfl (hb hby at_231) rfl ?_
        exact kt
      obtain ⟨_, _, ⟨T65, L65, k65, n65⟩, -, X65, ⟨Lc65, hQ65, l65, y65, z65⟩, st65⟩ := Jvm.LawKit.callS X63 hx (y := (⟨"hotstate/sort/VarIntsReadPinLaw", "enc", "(III)B"⟩ : MethodName)) hown (mvT hZ (hw _ (List.mem_of_getElem? (i := 2) rfl))) (mvT hZ (hw _ (List.mem_of_getElem? (i := 3) rfl))) (mvT hZ (hw _ (List.mem_of_getElem? (i := 4) rfl))) (mvT hZ (hw _ (List.mem_of_getElem? (i := 5) rfl))) (by decide) (backOf (W := 2) (rm1 l Z a0 hw [] i5 (3 : Int32) (5 : Int32)  h63 n0 ) hZ (hw _ (List.mem_of_getElem? (i := 5) rfl)) (hw _ (List.mem_of_getElem? (i := 4) rfl)) (by decide) (by decide)) (g := (mkF m 233 #[.val (.int i0), .val (.int i1), .val (.long j2), .second, .val (.int i4), .val (.int i5), .val (.int (0 : Int32)), .val (.int (5 : Int32)), .val (.ref o8)] [(.int (5 : Int32)), (.int (3 : Int32)), (.int i5), (.int (3 : Int32)), (.ref o8)])) rfl (by rw [hml]; rfl) (argsL := [(.int i5), (.int (3 : Int32)), (.int (5 : Int32))]) (rest := [(.int (3 : Int32)), (.ref o8)]) (lenOf pd1 rfl) rfl (by show 2 * 0 + _ ≤ _; exact Nat.le_of_eq rfl) (hb hby at_233) (fun _ _ => ⟨rfl, e63, (by decide : 1 + 0 ≤ _), (by decide : 9 + 0 ≤ _)⟩)
      dsimp only [Pt.U, Pt.locs, Pt.cells, Pt.slots] at X65 l65 y65 z65 st65 hQ65
      subst l65 y65 z65
      obtain ⟨rfl, Nq65, e65⟩ := hQ65
      have N65 := Fr.app N63 Nq65
      refine own_step (T' := T65) (f' := (mkF m 236 #[.val (.int i0), .val (.int i1), .val (.long j2), .second, .val (.int i4), .val (.int i5), .val (.int (0 : Int32)), .val (.int (5 : Int32)), .val (.ref o8)] [(.int (f1_0 i5 (3 : Int32) (5 : Int32))), (.int (3 : Int32)), (.ref o8)])) st65 ?_
      obtain ⟨T66, h66, Lq66, X66, N66, e66, W66, Z66, Aq66, st66⟩ := own_stB X65 hx hZ e65 Ao8_63 (j := (3 : Int32)) (by decide) (k := 3) (by decide) (Nat.le_of_ble_eq_true rfl) N65 go8 Z63 (g := (mkF m 236 #[.val (.int i0), .val (.int i1), .val (.long j2), .second, .val (.int i4), .val (.int i5), .val (.int (0 : Int32)), .val (.int (5 : Int32)), .val (.ref o8)] [(.int (f1_0 i5 (3 : Int32) (5 : Int32))), (.int (3 : Int32)), (.ref o8)])) rfl rfl (hb hby at_236)
      have Ao8_66 : own_A Z h66 o8 .byte [(.int (nar .byte (f1_0 i5 (0 : Int32) (5 : Int32)))), (.int (nar .byte (f1_0 i5 (1 : Int32) (5 : Int32)))), (.int (nar .byte (f1_0 i5 (2 : Int32) (5 : Int32)))), (.int (nar .byte (f1_0 i5 (3 : Int32) (5 : Int32)))), (.int xo8_4), (.int xo8_5), (.int xo8_6), (.int xo8_7), (.int xo8_8)] := Aq66
      refine own_step (T' := T66) (f' := (mkF m 237 #[.val (.int i0), .val (.int i1), .val (.long j2), .second, .val (.int i4), .val (.int i5), .val (.int (0 : Int32)), .val (.int (5 : Int32)), .val (.ref o8)] [])) st66 ?_
      refine own_step (T' := T66) (f' := (mkF m 240 #[.val (.int i0), .val (.int i1), .val (.long j2), .second, .val (.int i4), .val (.int i5), .val (.int (0 : Int32)), .val (.int (5 : Int32)), .val (.ref o8)] [(.int (4 : Int32)), (.int (5 : Int32))])) (fun t kt => ?_) ?_
      · show Steps p.tables e below (T66.setTop (mkF m 237 #[.val (.int i0), .val (.int i1), .val (.long j2), .second, .val (.int i4), .val (.int i5), .val (.int (0 : Int32)), .val (.int (5 : Int32)), .val (.ref o8)] [])) _
        refine XS.iload X66.here hx rfl (hb hby at_237) rfl ?_
        show Steps p.tables e below (T66.setTop (mkF m 239 #[.val (.int i0), .val (.int i1), .val (.long j2), .second, .val (.int i4), .val (.int i5), .val (.int (0 : Int32)), .val (.int (5 : Int32)), .val (.ref o8)] [(.int (5 : Int32))])) _
        refine XS.iconst X66.here hx rfl (hb hby at_239) ?_
        exact kt
      refine own_step (T' := T66) (f' := (mkF m 243 #[.val (.int i0), .val (.int i1), .val (.long j2), .second, .val (.int i4), .val (.int i5), .val (.int (0 : Int32)), .val (.int (5 : Int32)), .val (.ref o8)] [])) (fun t kt => ?_) ?_
      · show Steps p.tables e below (T66.setTop (mkF m 240 #[.val (.int i0), .val (.int i1), .val (.long j2), .second, .val (.int i4), .val (.int i5), .val (.int (0 : Int32)), .val (.int (5 : Int32)), .val (.ref o8)] [(.int (4 : Int32)), (.int (5 : Int32))])) _
        refine XS.icmpNo X66.here hx rfl (hb hby at_240) rfl (tlt (by decide : ((4 : Int32) < (5 : Int32)))).2.2.2 kt
      refine own_step (T' := T66) (f' := (mkF m 254 #[.val (.int i0), .val (.int i1), .val (.long j2), .second, .val (.int i4), .val (.int i5), .val (.int (0 : Int32)), .val (.int (5 : Int32)), .val (.ref o8)] [(.int (5 : Int32)), (.int (4 : Int32)), (.int i5), (.int (4 : Int32)), (.ref o8)])) (fun t kt => ?_) ?_
      · show Steps p.tables e below (T66.setTop (mkF m 243 #[.val (.int i0), .val (.int i1), .val (.long j2), .second, .val (.int i4), .val (.int i5), .val (.int (0 : Int32)), .val (.int (5 : Int32)), .val (.ref o8)] [])) _
        refine XS.aload X66.here hx rfl (hb hby at_243) rfl rfl ?_
        show Steps p.tables e below (T66.setTop (mkF m 245 #[.val (.int i0), .val (.int i1), .val (.long j2), .second, .val (.int i4), .val (.int i5), .val (.int (0 : Int32)), .val (.int (5 : Int32)), .val (.ref o8)] [(.ref o8)])) _
        refine XS.iload X66.here hx rfl (hb hby at_245) rfl ?_
        show Steps p.tables e below (T66.setTop (mkF m 247 #[.val (.int i0), .val (.int i1), .val (.long j2), .second, .val (.int i4), .val (.int i5), .val (.int (0 : Int32)), .val (.int (5 : Int32)), .val (.ref o8)] [(.int (0 : Int32)), (.ref o8)])) _
        refine XS.iconst X66.here hx rfl (hb hby at_247) ?_
        show Steps p.tables e below (T66.setTop (mkF m 248 #[.val (.int i0), .val (.int i1), .val (.long j2), .second, .val (.int i4), .val (.int i5), .val (.int (0 : Int32)), .val (.int (5 : Int32)), .val (.ref o8)] [(.int (4 : Int32)), (.int (0 : Int32)), (.ref o8)])) _
        refine XS.iadd X66.here hx rfl (hb hby at_248) rfl ?_
        show Steps p.tables e below (T66.setTop (mkF m 249 #[.val (.int i0), .val (.int i1), .val (.long j2), .second, .val (.int i4), .val (.int i5), .val (.int (0 : Int32)), .val (.int (5 : Int32)), .val (.ref o8)] [(.int (4 : Int32)), (.ref o8)])) _
        refine XS.iload X66.here hx rfl (hb hby at_249) rfl ?_
        show Steps p.tables e below (T66.setTop (mkF m 251 #[.val (.int i0), .val (.int i1), .val (.long j2), .second, .val (.int i4), .val (.int i5), .val (.int (0 : Int32)), .val (.int (5 : Int32)), .val (.ref o8)] [(.int i5), (.int (4 : Int32)), (.ref o8)])) _
        refine XS.iconst X66.here hx rfl (hb hby at_251) ?_
        show Steps p.tables e below (T66.setTop (mkF m 252 #[.val (.int i0), .val (.int i1), .val (.long j2), .second, .val (.int i4), .val (.int i5), .val (.int (0 : Int32)), .val (.int (5 : Int32)), .val (.ref o8)] [(.int (4 : Int32)), (.int i5), (.int (4 : Int32)), (.ref o8)])) _
        refine XS.iload X66.here hx rfl (hb hby at_252) rfl ?_
        exact kt
      obtain ⟨_, _, ⟨T68, L68, k68, n68⟩, -, X68, ⟨Lc68, hQ68, l68, y68, z68⟩, st68⟩ := Jvm.LawKit.callS X66 hx (y := (⟨"hotstate/sort/VarIntsReadPinLaw", "enc", "(III)B"⟩ : MethodName)) hown (mvT hZ (hw _ (List.mem_of_getElem? (i := 2) rfl))) (mvT hZ (hw _ (List.mem_of_getElem? (i := 3) rfl))) (mvT hZ (hw _ (List.mem_of_getElem? (i := 4) rfl))) (mvT hZ (hw _ (List.mem_of_getElem? (i := 5) rfl))) (by decide) (backOf (W := 2) (rm1 l Z a0 hw [] i5 (4 : Int32) (5 : Int32)  h66 n0 ) hZ (hw _ (List.mem_of_getElem? (i := 5) rfl)) (hw _ (List.mem_of_getElem? (i := 4) rfl)) (by decide) (by decide)) (g := (mkF m 254 #[.val (.int i0), .val (.int i1), .val (.long j2), .second, .val (.int i4), .val (.int i5), .val (.int (0 : Int32)), .val (.int (5 : Int32)), .val (.ref o8)] [(.int (5 : Int32)), (.int (4 : Int32)), (.int i5), (.int (4 : Int32)), (.ref o8)])) rfl (by rw [hml]; rfl) (argsL := [(.int i5), (.int (4 : Int32)), (.int (5 : Int32))]) (rest := [(.int (4 : Int32)), (.ref o8)]) (lenOf pd1 rfl) rfl (by show 2 * 0 + _ ≤ _; exact Nat.le_of_eq rfl) (hb hby at_254) (fun _ _ => ⟨rfl, e66, (by decide : 1 + 0 ≤ _), (by decide : 9 + 0 ≤ _)⟩)
      dsimp only [Pt.U, Pt.locs, Pt.cells, Pt.slots] at X68 l68 y68 z68 st68 hQ68
      subst l68 y68 z68
      obtain ⟨rfl, Nq68, e68⟩ := hQ68
      have N68 := Fr.app N66 Nq68
      refine own_step (T' := T68) (f' := (mkF m 257 #[.val (.int i0), .val (.int i1), .val (.long j2), .second, .val (.int i4), .val (.int i5), .val (.int (0 : Int32)), .val (.int (5 : Int32)), .val (.ref o8)] [(.int (f1_0 i5 (4 : Int32) (5 : Int32))), (.int (4 : Int32)), (.ref o8)])) st68 ?_
      obtain ⟨T69, h69, Lq69, X69, N69, e69, W69, Z69, Aq69, st69⟩ := own_stB X68 hx hZ e68 Ao8_66 (j := (4 : Int32)) (by decide) (k := 4) (by decide) (Nat.le_of_ble_eq_true rfl) N68 go8 Z66 (g := (mkF m 257 #[.val (.int i0), .val (.int i1), .val (.long j2), .second, .val (.int i4), .val (.int i5), .val (.int (0 : Int32)), .val (.int (5 : Int32)), .val (.ref o8)] [(.int (f1_0 i5 (4 : Int32) (5 : Int32))), (.int (4 : Int32)), (.ref o8)])) rfl rfl (hb hby at_257)
      have Ao8_69 : own_A Z h69 o8 .byte [(.int (nar .byte (f1_0 i5 (0 : Int32) (5 : Int32)))), (.int (nar .byte (f1_0 i5 (1 : Int32) (5 : Int32)))), (.int (nar .byte (f1_0 i5 (2 : Int32) (5 : Int32)))), (.int (nar .byte (f1_0 i5 (3 : Int32) (5 : Int32)))), (.int (nar .byte (f1_0 i5 (4 : Int32) (5 : Int32)))), (.int xo8_5), (.int xo8_6), (.int xo8_7), (.int xo8_8)] := Aq69
      refine own_step (T' := T69) (f' := (mkF m 258 #[.val (.int i0), .val (.int i1), .val (.long j2), .second, .val (.int i4), .val (.int i5), .val (.int (0 : Int32)), .val (.int (5 : Int32)), .val (.ref o8)] [])) st69 ?_
      refine own_step (T' := T69) (f' := (mkF m 262 #[.val (.int i0), .val (.int i1), .val (.long j2), .second, .val (.int i4), .val (.int i5), .val (.int (0 : Int32)), .val (.int (5 : Int32)), .val (.ref o8)] [(.int (0 : Int32)), (.ref o8)])) (fun t kt => ?_) ?_
      · show Steps p.tables e below (T69.setTop (mkF m 258 #[.val (.int i0), .val (.int i1), .val (.long j2), .second, .val (.int i4), .val (.int i5), .val (.int (0 : Int32)), .val (.int (5 : Int32)), .val (.ref o8)] [])) _
        refine XS.aload X69.here hx rfl (hb hby at_258) rfl rfl ?_
        show Steps p.tables e below (T69.setTop (mkF m 260 #[.val (.int i0), .val (.int i1), .val (.long j2), .second, .val (.int i4), .val (.int i5), .val (.int (0 : Int32)), .val (.int (5 : Int32)), .val (.ref o8)] [(.ref o8)])) _
        refine XS.iload X69.here hx rfl (hb hby at_260) rfl ?_
        exact kt
      obtain ⟨_, _, ⟨T70, L70, k70, n70⟩, -, X70, ⟨Lc70, hQ70, l70, y70, z70⟩, st70⟩ := Jvm.LawKit.callS X69 hx (y := (⟨"hotstate/sort/VarInts", "read", "([BI)I"⟩ : MethodName)) hown (mvT hZ (hw _ (List.mem_of_getElem? (i := 6) rfl))) (mvT hZ (hw _ (List.mem_of_getElem? (i := 7) rfl))) (mvT hZ (hw _ (List.mem_of_getElem? (i := 8) rfl))) (mvT hZ (hw _ (List.mem_of_getElem? (i := 9) rfl))) (by decide) (backOf (W := 0) (rm2n5 l Z a0 hw [] o8 (0 : Int32) (nar .byte (f1_0 i5 (0 : Int32) (5 : Int32))) (nar .byte (f1_0 i5 (1 : Int32) (5 : Int32))) (nar .byte (f1_0 i5 (2 : Int32) (5 : Int32))) (nar .byte (f1_0 i5 (3 : Int32) (5 : Int32))) (nar .byte (f1_0 i5 (4 : Int32) (5 : Int32))) [(.int (nar .byte (f1_0 i5 (0 : Int32) (5 : Int32)))), (.int (nar .byte (f1_0 i5 (1 : Int32) (5 : Int32)))), (.int (nar .byte (f1_0 i5 (2 : Int32) (5 : Int32)))), (.int (nar .byte (f1_0 i5 (3 : Int32) (5 : Int32)))), (.int (nar .byte (f1_0 i5 (4 : Int32) (5 : Int32)))), (.int xo8_5), (.int xo8_6), (.int xo8_7), (.int xo8_8)] h69 n0 Ao8_69 (by decide) rfl rfl rfl rfl rfl (own_last5 i5)) hZ (hw _ (List.mem_of_getElem? (i := 9) rfl)) (hw _ (List.mem_of_getElem? (i := 8) rfl)) (by decide) (by decide)) (g := (mkF m 262 #[.val (.int i0), .val (.int i1), .val (.long j2), .second, .val (.int i4), .val (.int i5), .val (.int (0 : Int32)), .val (.int (5 : Int32)), .val (.ref o8)] [(.int (0 : Int32)), (.ref o8)])) rfl (by rw [hml]; rfl) (argsL := [(.ref o8), (.int (0 : Int32))]) (rest := []) (lenOf pd2 rfl) rfl (by show 2 * 0 + _ ≤ _; exact Nat.le_of_eq rfl) (hb hby at_262) (fun _ _ => ⟨rfl, e69, (by decide : 1 + 0 ≤ _), (by decide : 9 + 0 ≤ _)⟩)
      dsimp only [Pt.U, Pt.locs, Pt.cells, Pt.slots] at X70 l70 y70 z70 st70 hQ70
      subst l70 y70 z70
      obtain ⟨rfl, Nq70, e70⟩ := hQ70
      have N70 := Fr.app N69 Nq70
      refine own_step (T' := T70) (f' := (mkF m 265 #[.val (.int i0), .val (.int i1), .val (.long j2), .second, .val (.int i4), .val (.int i5), .val (.int (0 : Int32)), .val (.int (5 : Int32)), .val (.ref o8)] [(.int (f2n5_0 (0 : Int32) (nar .byte (f1_0 i5 (0 : Int32) (5 : Int32))) (nar .byte (f1_0 i5 (1 : Int32) (5 : Int32))) (nar .byte (f1_0 i5 (2 : Int32) (5 : Int32))) (nar .byte (f1_0 i5 (3 : Int32) (5 : Int32))) (nar .byte (f1_0 i5 (4 : Int32) (5 : Int32)))))])) st70 ?_
      refine own_step (T' := T70) (f' := (mkF m 267 #[.val (.int i0), .val (.int i1), .val (.long j2), .second, .val (.int i4), .val (.int i5), .val (.int (0 : Int32)), .val (.int (5 : Int32)), .val (.ref o8)] [(.int i5), (.int (f2n5_0 (0 : Int32) (nar .byte (f1_0 i5 (0 : Int32) (5 : Int32))) (nar .byte (f1_0 i5 (1 : Int32) (5 : Int32))) (nar .byte (f1_0 i5 (2 : Int32) (5 : Int32))) (nar .byte (f1_0 i5 (3 : Int32) (5 : Int32))) (nar .byte (f1_0 i5 (4 : Int32) (5 : Int32)))))])) (fun t kt => ?_) ?_
      · show Steps p.tables e below (T70.setTop (mkF m 265 #[.val (.int i0), .val (.int i1), .val (.long j2), .second, .val (.int i4), .val (.int i5), .val (.int (0 : Int32)), .val (.int (5 : Int32)), .val (.ref o8)] [(.int (f2n5_0 (0 : Int32) (nar .byte (f1_0 i5 (0 : Int32) (5 : Int32))) (nar .byte (f1_0 i5 (1 : Int32) (5 : Int32))) (nar .byte (f1_0 i5 (2 : Int32) (5 : Int32))) (nar .byte (f1_0 i5 (3 : Int32) (5 : Int32))) (nar .byte (f1_0 i5 (4 : Int32) (5 : Int32)))))])) _
        refine XS.iload X70.here hx rfl (hb hby at_265) rfl ?_
        exact kt
      by_cases hc267_71 : (f2n5_0 (0 : Int32) (nar .byte (f1_0 i5 (0 : Int32) (5 : Int32))) (nar .byte (f1_0 i5 (1 : Int32) (5 : Int32))) (nar .byte (f1_0 i5 (2 : Int32) (5 : Int32))) (nar .byte (f1_0 i5 (3 : Int32) (5 : Int32))) (nar .byte (f1_0 i5 (4 : Int32) (5 : Int32)))) = i5
      · replace hr := hr.trans (if_pos hc267_71)
        refine own_step (T' := T70) (f' := (mkF m 270 #[.val (.int i0), .val (.int i1), .val (.long j2), .second, .val (.int i4), .val (.int i5), .val (.int (0 : Int32)), .val (.int (5 : Int32)), .val (.ref o8)] [])) (fun t kt => ?_) ?_
        · show Steps p.tables e below (T70.setTop (mkF m 267 #[.val (.int i0), .val (.int i1), .val (.long j2), .second, .val (.int i4), .val (.int i5), .val (.int (0 : Int32)), .val (.int (5 : Int32)), .val (.ref o8)] [(.int i5), (.int (f2n5_0 (0 : Int32) (nar .byte (f1_0 i5 (0 : Int32) (5 : Int32))) (nar .byte (f1_0 i5 (1 : Int32) (5 : Int32))) (nar .byte (f1_0 i5 (2 : Int32) (5 : Int32))) (nar .byte (f1_0 i5 (3 : Int32) (5 : Int32))) (nar .byte (f1_0 i5 (4 : Int32) (5 : Int32)))))])) _
          refine XS.icmpNo X70.here hx rfl (hb hby at_267) rfl (teq hc267_71).2 kt
        refine own_step (T' := T70) (f' := (mkF m 275 #[.val (.int i0), .val (.int i1), .val (.long j2), .second, .val (.int i4), .val (.int i5), .val (.int (0 : Int32)), .val (.int (5 : Int32)), .val (.ref o8)] [(.int (1 : Int32))])) (fun t kt => ?_) ?_
        · show Steps p.tables e below (T70.setTop (mkF m 270 #[.val (.int i0), .val (.int i1), .val (.long j2), .second, .val (.int i4), .val (.int i5), .val (.int (0 : Int32)), .val (.int (5 : Int32)), .val (.ref o8)] [])) _
          refine XS.iconst X70.here hx rfl (hb hby at_270) ?_
          show Steps p.tables e below (T70.setTop (mkF m 271 #[.val (.int i0), .val (.int i1), .val (.long j2), .second, .val (.int i4), .val (.int i5), .val (.int (0 : Int32)), .val (.int (5 : Int32)), .val (.ref o8)] [(.int (1 : Int32))])) _
          refine XS.goto X70.here hx rfl (pc0 := 271) (pc' := 275) rfl (hb hby at_271) (by decide) (by decide) ?_
          exact kt
        exact own_retZ X70 hx hret (by simp) hlk (hb hby at_275) (by decide) (by decide) ⟨congrArg (fun z => some (Value.int z)) hr.symm, N70⟩
      · replace hr := hr.trans (if_neg hc267_71)
        refine own_step (T' := T70) (f' := (mkF m 274 #[.val (.int i0), .val (.int i1), .val (.long j2), .second, .val (.int i4), .val (.int i5), .val (.int (0 : Int32)), .val (.int (5 : Int32)), .val (.ref o8)] [])) (fun t kt => ?_) ?_
        · show Steps p.tables e below (T70.setTop (mkF m 267 #[.val (.int i0), .val (.int i1), .val (.long j2), .second, .val (.int i4), .val (.int i5), .val (.int (0 : Int32)), .val (.int (5 : Int32)), .val (.ref o8)] [(.int i5), (.int (f2n5_0 (0 : Int32) (nar .byte (f1_0 i5 (0 : Int32) (5 : Int32))) (nar .byte (f1_0 i5 (1 : Int32) (5 : Int32))) (nar .byte (f1_0 i5 (2 : Int32) (5 : Int32))) (nar .byte (f1_0 i5 (3 : Int32) (5 : Int32))) (nar .byte (f1_0 i5 (4 : Int32) (5 : Int32)))))])) _
          refine XS.icmpYes X70.here hx rfl (pc0 := 267) (pc' := 274) rfl (hb hby at_267) rfl (feq hc267_71).2 (by decide) (by decide) kt
        refine own_step (T' := T70) (f' := (mkF m 275 #[.val (.int i0), .val (.int i1), .val (.long j2), .second, .val (.int i4), .val (.int i5), .val (.int (0 : Int32)), .val (.int (5 : Int32)), .val (.ref o8)] [(.int (0 : Int32))])) (fun t kt => ?_) ?_
        · show Steps p.tables e below (T70.setTop (mkF m 274 #[.val (.int i0), .val (.int i1), .val (.long j2), .second, .val (.int i4), .val (.int i5), .val (.int (0 : Int32)), .val (.int (5 : Int32)), .val (.ref o8)] [])) _
          refine XS.iconst X70.here hx rfl (hb hby at_274) ?_
          exact kt
        exact own_retZ X70 hx hret (by simp) hlk (hb hby at_275) (by decide) (by decide) ⟨congrArg (fun z => some (Value.int z)) hr.symm, N70⟩
  · replace hr := hr.trans ((if_neg (by decide)).trans (if_pos rfl))
    rcases hn with rfl | rfl | rfl | rfl | rfl
    · replace hr := hr.trans (if_pos rfl)
      refine own_step (T' := T0) (f' := (mkF m 170 #[.val (.int i0), .val (.int i1), .val (.long j2), .second, .val (.int i4), .val (.int i5), .val (.int (1 : Int32)), .val (.int (1 : Int32)), .val (.ref o8)] [(.int (1 : Int32)), (.int (0 : Int32)), (.int i5), (.int (1 : Int32)), (.ref o8)])) (fun t kt => ?_) ?_
      · show Steps p.tables e below (T0.setTop (mkF m 161 #[.val (.int i0), .val (.int i1), .val (.long j2), .second, .val (.int i4), .val (.int i5), .val (.int (1 : Int32)), .val (.int (1 : Int32)), .val (.ref o8)] [])) _
        refine XS.aload X0.here hx rfl (hb hby at_161) rfl rfl ?_
        show Steps p.tables e below (T0.setTop (mkF m 163 #[.val (.int i0), .val (.int i1), .val (.long j2), .second, .val (.int i4), .val (.int i5), .val (.int (1 : Int32)), .val (.int (1 : Int32)), .val (.ref o8)] [(.ref o8)])) _
        refine XS.iload X0.here hx rfl (hb hby at_163) rfl ?_
        show Steps p.tables e below (T0.setTop (mkF m 165 #[.val (.int i0), .val (.int i1), .val (.long j2), .second, .val (.int i4), .val (.int i5), .val (.int (1 : Int32)), .val (.int (1 : Int32)), .val (.ref o8)] [(.int (1 : Int32)), (.ref o8)])) _
        refine XS.iload X0.here hx rfl (hb hby at_165) rfl ?_
        show Steps p.tables e below (T0.setTop (mkF m 167 #[.val (.int i0), .val (.int i1), .val (.long j2), .second, .val (.int i4), .val (.int i5), .val (.int (1 : Int32)), .val (.int (1 : Int32)), .val (.ref o8)] [(.int i5), (.int (1 : Int32)), (.ref o8)])) _
        refine XS.iconst X0.here hx rfl (hb hby at_167) ?_
        show Steps p.tables e below (T0.setTop (mkF m 168 #[.val (.int i0), .val (.int i1), .val (.long j2), .second, .val (.int i4), .val (.int i5), .val (.int (1 : Int32)), .val (.int (1 : Int32)), .val (.ref o8)] [(.int (0 : Int32)), (.int i5), (.int (1 : Int32)), (.ref o8)])) _
        refine XS.iload X0.here hx rfl (hb hby at_168) rfl ?_
        exact kt
      obtain ⟨_, _, ⟨T72, L72, k72, n72⟩, -, X72, ⟨Lc72, hQ72, l72, y72, z72⟩, st72⟩ := Jvm.LawKit.callS X0 hx (y := (⟨"hotstate/sort/VarIntsReadPinLaw", "enc", "(III)B"⟩ : MethodName)) hown (mvT hZ (hw _ (List.mem_of_getElem? (i := 2) rfl))) (mvT hZ (hw _ (List.mem_of_getElem? (i := 3) rfl))) (mvT hZ (hw _ (List.mem_of_getElem? (i := 4) rfl))) (mvT hZ (hw _ (List.mem_of_getElem? (i := 5) rfl))) (by decide) (backOf (W := 2) (rm1 l Z a0 hw [] i5 (0 : Int32) (1 : Int32)  h0 n0 ) hZ (hw _ (List.mem_of_getElem? (i := 5) rfl)) (hw _ (List.mem_of_getElem? (i := 4) rfl)) (by decide) (by decide)) (g := (mkF m 170 #[.val (.int i0), .val (.int i1), .val (.long j2), .second, .val (.int i4), .val (.int i5), .val (.int (1 : Int32)), .val (.int (1 : Int32)), .val (.ref o8)] [(.int (1 : Int32)), (.int (0 : Int32)), (.int i5), (.int (1 : Int32)), (.ref o8)])) rfl (by rw [hml]; rfl) (argsL := [(.int i5), (.int (0 : Int32)), (.int (1 : Int32))]) (rest := [(.int (1 : Int32)), (.ref o8)]) (lenOf pd1 rfl) rfl (by show 2 * 0 + _ ≤ _; exact Nat.le_of_eq rfl) (hb hby at_170) (fun _ _ => ⟨rfl, e0, (by decide : 1 + 0 ≤ _), (by decide : 9 + 0 ≤ _)⟩)
      dsimp only [Pt.U, Pt.locs, Pt.cells, Pt.slots] at X72 l72 y72 z72 st72 hQ72
      subst l72 y72 z72
      obtain ⟨rfl, Nq72, e72⟩ := hQ72
      have N72 := Fr.app N0 Nq72
      refine own_step (T' := T72) (f' := (mkF m 173 #[.val (.int i0), .val (.int i1), .val (.long j2), .second, .val (.int i4), .val (.int i5), .val (.int (1 : Int32)), .val (.int (1 : Int32)), .val (.ref o8)] [(.int (f1_0 i5 (0 : Int32) (1 : Int32))), (.int (1 : Int32)), (.ref o8)])) st72 ?_
      obtain ⟨T73, h73, Lq73, X73, N73, e73, W73, Z73, Aq73, st73⟩ := own_stB X72 hx hZ e72 Ao8 (j := (1 : Int32)) (by decide) (k := 1) (by decide) (Nat.le_of_ble_eq_true rfl) N72 go8 Z0 (g := (mkF m 173 #[.val (.int i0), .val (.int i1), .val (.long j2), .second, .val (.int i4), .val (.int i5), .val (.int (1 : Int32)), .val (.int (1 : Int32)), .val (.ref o8)] [(.int (f1_0 i5 (0 : Int32) (1 : Int32))), (.int (1 : Int32)), (.ref o8)])) rfl rfl (hb hby at_173)
      have Ao8_73 : own_A Z h73 o8 .byte [(.int xo8_0), (.int (nar .byte (f1_0 i5 (0 : Int32) (1 : Int32)))), (.int xo8_2), (.int xo8_3), (.int xo8_4), (.int xo8_5), (.int xo8_6), (.int xo8_7), (.int xo8_8)] := Aq73
      refine own_step (T' := T73) (f' := (mkF m 174 #[.val (.int i0), .val (.int i1), .val (.long j2), .second, .val (.int i4), .val (.int i5), .val (.int (1 : Int32)), .val (.int (1 : Int32)), .val (.ref o8)] [])) st73 ?_
      refine own_step (T' := T73) (f' := (mkF m 177 #[.val (.int i0), .val (.int i1), .val (.long j2), .second, .val (.int i4), .val (.int i5), .val (.int (1 : Int32)), .val (.int (1 : Int32)), .val (.ref o8)] [(.int (1 : Int32)), (.int (1 : Int32))])) (fun t kt => ?_) ?_
      · show Steps p.tables e below (T73.setTop (mkF m 174 #[.val (.int i0), .val (.int i1), .val (.long j2), .second, .val (.int i4), .val (.int i5), .val (.int (1 : Int32)), .val (.int (1 : Int32)), .val (.ref o8)] [])) _
        refine XS.iload X73.here hx rfl (hb hby at_174) rfl ?_
        show Steps p.tables e below (T73.setTop (mkF m 176 #[.val (.int i0), .val (.int i1), .val (.long j2), .second, .val (.int i4), .val (.int i5), .val (.int (1 : Int32)), .val (.int (1 : Int32)), .val (.ref o8)] [(.int (1 : Int32))])) _
        refine XS.iconst X73.here hx rfl (hb hby at_176) ?_
        exact kt
      refine own_step (T' := T73) (f' := (mkF m 195 #[.val (.int i0), .val (.int i1), .val (.long j2), .second, .val (.int i4), .val (.int i5), .val (.int (1 : Int32)), .val (.int (1 : Int32)), .val (.ref o8)] [])) (fun t kt => ?_) ?_
      · show Steps p.tables e below (T73.setTop (mkF m 177 #[.val (.int i0), .val (.int i1), .val (.long j2), .second, .val (.int i4), .val (.int i5), .val (.int (1 : Int32)), .val (.int (1 : Int32)), .val (.ref o8)] [(.int (1 : Int32)), (.int (1 : Int32))])) _
        refine XS.icmpYes X73.here hx rfl (pc0 := 177) (pc' := 195) rfl (hb hby at_177) rfl (flt (by decide : ¬ ((1 : Int32) < (1 : Int32)))).2.2.2 (by decide) (by decide) kt
      refine own_step (T' := T73) (f' := (mkF m 198 #[.val (.int i0), .val (.int i1), .val (.long j2), .second, .val (.int i4), .val (.int i5), .val (.int (1 : Int32)), .val (.int (1 : Int32)), .val (.ref o8)] [(.int (2 : Int32)), (.int (1 : Int32))])) (fun t kt => ?_) ?_
      · show Steps p.tables e below (T73.setTop (mkF m 195 #[.val (.int i0), .val (.int i1), .val (.long j2), .second, .val (.int i4), .val (.int i5), .val (.int (1 : Int32)), .val (.int (1 : Int32)), .val (.ref o8)] [])) _
        refine XS.iload X73.here hx rfl (hb hby at_195) rfl ?_
        show Steps p.tables e below (T73.setTop (mkF m 197 #[.val (.int i0), .val (.int i1), .val (.long j2), .second, .val (.int i4), .val (.int i5), .val (.int (1 : Int32)), .val (.int (1 : Int32)), .val (.ref o8)] [(.int (1 : Int32))])) _
        refine XS.iconst X73.here hx rfl (hb hby at_197) ?_
        exact kt
      refine own_step (T' := T73) (f' := (mkF m 216 #[.val (.int i0), .val (.int i1), .val (.long j2), .second, .val (.int i4), .val (.int i5), .val (.int (1 : Int32)), .val (.int (1 : Int32)), .val (.ref o8)] [])) (fun t kt => ?_) ?_
      · show Steps p.tables e below (T73.setTop (mkF m 198 #[.val (.int i0), .val (.int i1), .val (.long j2), .second, .val (.int i4), .val (.int i5), .val (.int (1 : Int32)), .val (.int (1 : Int32)), .val (.ref o8)] [(.int (2 : Int32)), (.int (1 : Int32))])) _
        refine XS.icmpYes X73.here hx rfl (pc0 := 198) (pc' := 216) rfl (hb hby at_198) rfl (flt (by decide : ¬ ((2 : Int32) < (1 : Int32)))).2.2.2 (by decide) (by decide) kt
      refine own_step (T' := T73) (f' := (mkF m 219 #[.val (.int i0), .val (.int i1), .val (.long j2), .second, .val (.int i4), .val (.int i5), .val (.int (1 : Int32)), .val (.int (1 : Int32)), .val (.ref o8)] [(.int (3 : Int32)), (.int (1 : Int32))])) (fun t kt => ?_) ?_
      · show Steps p.tables e below (T73.setTop (mkF m 216 #[.val (.int i0), .val (.int i1), .val (.long j2), .second, .val (.int i4), .val (.int i5), .val (.int (1 : Int32)), .val (.int (1 : Int32)), .val (.ref o8)] [])) _
        refine XS.iload X73.here hx rfl (hb hby at_216) rfl ?_
        show Steps p.tables e below (T73.setTop (mkF m 218 #[.val (.int i0), .val (.int i1), .val (.long j2), .second, .val (.int i4), .val (.int i5), .val (.int (1 : Int32)), .val (.int (1 : Int32)), .val (.ref o8)] [(.int (1 : Int32))])) _
        refine XS.iconst X73.here hx rfl (hb hby at_218) ?_
        exact kt
      refine own_step (T' := T73) (f' := (mkF m 237 #[.val (.int i0), .val (.int i1), .val (.long j2), .second, .val (.int i4), .val (.int i5), .val (.int (1 : Int32)), .val (.int (1 : Int32)), .val (.ref o8)] [])) (fun t kt => ?_) ?_
      · show Steps p.tables e below (T73.setTop (mkF m 219 #[.val (.int i0), .val (.int i1), .val (.long j2), .second, .val (.int i4), .val (.int i5), .val (.int (1 : Int32)), .val (.int (1 : Int32)), .val (.ref o8)] [(.int (3 : Int32)), (.int (1 : Int32))])) _
        refine XS.icmpYes X73.here hx rfl (pc0 := 219) (pc' := 237) rfl (hb hby at_219) rfl (flt (by decide : ¬ ((3 : Int32) < (1 : Int32)))).2.2.2 (by decide) (by decide) kt
      refine own_step (T' := T73) (f' := (mkF m 240 #[.val (.int i0), .val (.int i1), .val (.long j2), .second, .val (.int i4), .val (.int i5), .val (.int (1 : Int32)), .val (.int (1 : Int32)), .val (.ref o8)] [(.int (4 : Int32)), (.int (1 : Int32))])) (fun t kt => ?_) ?_
      · show Steps p.tables e below (T73.setTop (mkF m 237 #[.val (.int i0), .val (.int i1), .val (.long j2), .second, .val (.int i4), .val (.int i5), .val (.int (1 : Int32)), .val (.int (1 : Int32)), .val (.ref o8)] [])) _
        refine XS.iload X73.here hx rfl (hb hby at_237) rfl ?_
        show Steps p.tables e below (T73.setTop (mkF m 239 #[.val (.int i0), .val (.int i1), .val (.long j2), .second, .val (.int i4), .val (.int i5), .val (.int (1 : Int32)), .val (.int (1 : Int32)), .val (.ref o8)] [(.int (1 : Int32))])) _
        refine XS.iconst X73.here hx rfl (hb hby at_239) ?_
        exact kt
      refine own_step (T' := T73) (f' := (mkF m 258 #[.val (.int i0), .val (.int i1), .val (.long j2), .second, .val (.int i4), .val (.int i5), .val (.int (1 : Int32)), .val (.int (1 : Int32)), .val (.ref o8)] [])) (fun t kt => ?_) ?_
      · show Steps p.tables e below (T73.setTop (mkF m 240 #[.val (.int i0), .val (.int i1), .val (.long j2), .second, .val (.int i4), .val (.int i5), .val (.int (1 : Int32)), .val (.int (1 : Int32)), .val (.ref o8)] [(.int (4 : Int32)), (.int (1 : Int32))])) _
        refine XS.icmpYes X73.here hx rfl (pc0 := 240) (pc' := 258) rfl (hb hby at_240) rfl (flt (by decide : ¬ ((4 : Int32) < (1 : Int32)))).2.2.2 (by decide) (by decide) kt
      refine own_step (T' := T73) (f' := (mkF m 262 #[.val (.int i0), .val (.int i1), .val (.long j2), .second, .val (.int i4), .val (.int i5), .val (.int (1 : Int32)), .val (.int (1 : Int32)), .val (.ref o8)] [(.int (1 : Int32)), (.ref o8)])) (fun t kt => ?_) ?_
      · show Steps p.tables e below (T73.setTop (mkF m 258 #[.val (.int i0), .val (.int i1), .val (.long j2), .second, .val (.int i4), .val (.int i5), .val (.int (1 : Int32)), .val (.int (1 : Int32)), .val (.ref o8)] [])) _
        refine XS.aload X73.here hx rfl (hb hby at_258) rfl rfl ?_
        show Steps p.tables e below (T73.setTop (mkF m 260 #[.val (.int i0), .val (.int i1), .val (.long j2), .second, .val (.int i4), .val (.int i5), .val (.int (1 : Int32)), .val (.int (1 : Int32)), .val (.ref o8)] [(.ref o8)])) _
        refine XS.iload X73.here hx rfl (hb hby at_260) rfl ?_
        exact kt
      obtain ⟨_, _, ⟨T78, L78, k78, n78⟩, -, X78, ⟨Lc78, hQ78, l78, y78, z78⟩, st78⟩ := Jvm.LawKit.callS X73 hx (y := (⟨"hotstate/sort/VarInts", "read", "([BI)I"⟩ : MethodName)) hown (mvT hZ (hw _ (List.mem_of_getElem? (i := 6) rfl))) (mvT hZ (hw _ (List.mem_of_getElem? (i := 7) rfl))) (mvT hZ (hw _ (List.mem_of_getElem? (i := 8) rfl))) (mvT hZ (hw _ (List.mem_of_getElem? (i := 9) rfl))) (by decide) (backOf (W := 0) (rm2n1 l Z a0 hw [] o8 (1 : Int32) (nar .byte (f1_0 i5 (0 : Int32) (1 : Int32))) [(.int xo8_0), (.int (nar .byte (f1_0 i5 (0 : Int32) (1 : Int32)))), (.int xo8_2), (.int xo8_3), (.int xo8_4), (.int xo8_5), (.int xo8_6), (.int xo8_7), (.int xo8_8)] h73 n0 Ao8_73 (by decide) rfl (own_last1 i5)) hZ (hw _ (List.mem_of_getElem? (i := 9) rfl)) (hw _ (List.mem_of_getElem? (i := 8) rfl)) (by decide) (by decide)) (g := (mkF m 262 #[.val (.int i0), .val (.int i1), .val (.long j2), .second, .val (.int i4), .val (.int i5), .val (.int (1 : Int32)), .val (.int (1 : Int32)), .val (.ref o8)] [(.int (1 : Int32)), (.ref o8)])) rfl (by rw [hml]; rfl) (argsL := [(.ref o8), (.int (1 : Int32))]) (rest := []) (lenOf pd2 rfl) rfl (by show 2 * 0 + _ ≤ _; exact Nat.le_of_eq rfl) (hb hby at_262) (fun _ _ => ⟨rfl, e73, (by decide : 1 + 0 ≤ _), (by decide : 9 + 0 ≤ _)⟩)
      dsimp only [Pt.U, Pt.locs, Pt.cells, Pt.slots] at X78 l78 y78 z78 st78 hQ78
      subst l78 y78 z78
      obtain ⟨rfl, Nq78, e78⟩ := hQ78
      have N78 := Fr.app N73 Nq78
      refine own_step (T' := T78) (f' := (mkF m 265 #[.val (.int i0), .val (.int i1), .val (.long j2), .second, .val (.int i4), .val (.int i5), .val (.int (1 : Int32)), .val (.int (1 : Int32)), .val (.ref o8)] [(.int (f2n1_0 (1 : Int32) (nar .byte (f1_0 i5 (0 : Int32) (1 : Int32)))))])) st78 ?_
      refine own_step (T' := T78) (f' := (mkF m 267 #[.val (.int i0), .val (.int i1), .val (.long j2), .second, .val (.int i4), .val (.int i5), .val (.int (1 : Int32)), .val (.int (1 : Int32)), .val (.ref o8)] [(.int i5), (.int (f2n1_0 (1 : Int32) (nar .byte (f1_0 i5 (0 : Int32) (1 : Int32)))))])) (fun t kt => ?_) ?_
      · show Steps p.tables e below (T78.setTop (mkF m 265 #[.val (.int i0), .val (.int i1), .val (.long j2), .second, .val (.int i4), .val (.int i5), .val (.int (1 : Int32)), .val (.int (1 : Int32)), .val (.ref o8)] [(.int (f2n1_0 (1 : Int32) (nar .byte (f1_0 i5 (0 : Int32) (1 : Int32)))))])) _
        refine XS.iload X78.here hx rfl (hb hby at_265) rfl ?_
        exact kt
      by_cases hc267_79 : (f2n1_0 (1 : Int32) (nar .byte (f1_0 i5 (0 : Int32) (1 : Int32)))) = i5
      · replace hr := hr.trans (if_pos hc267_79)
        refine own_step (T' := T78) (f' := (mkF m 270 #[.val (.int i0), .val (.int i1), .val (.long j2), .second, .val (.int i4), .val (.int i5), .val (.int (1 : Int32)), .val (.int (1 : Int32)), .val (.ref o8)] [])) (fun t kt => ?_) ?_
        · show Steps p.tables e below (T78.setTop (mkF m 267 #[.val (.int i0), .val (.int i1), .val (.long j2), .second, .val (.int i4), .val (.int i5), .val (.int (1 : Int32)), .val (.int (1 : Int32)), .val (.ref o8)] [(.int i5), (.int (f2n1_0 (1 : Int32) (nar .byte (f1_0 i5 (0 : Int32) (1 : Int32)))))])) _
          refine XS.icmpNo X78.here hx rfl (hb hby at_267) rfl (teq hc267_79).2 kt
        refine own_step (T' := T78) (f' := (mkF m 275 #[.val (.int i0), .val (.int i1), .val (.long j2), .second, .val (.int i4), .val (.int i5), .val (.int (1 : Int32)), .val (.int (1 : Int32)), .val (.ref o8)] [(.int (1 : Int32))])) (fun t kt => ?_) ?_
        · show Steps p.tables e below (T78.setTop (mkF m 270 #[.val (.int i0), .val (.int i1), .val (.long j2), .second, .val (.int i4), .val (.int i5), .val (.int (1 : Int32)), .val (.int (1 : Int32)), .val (.ref o8)] [])) _
          refine XS.iconst X78.here hx rfl (hb hby at_270) ?_
          show Steps p.tables e below (T78.setTop (mkF m 271 #[.val (.int i0), .val (.int i1), .val (.long j2), .second, .val (.int i4), .val (.int i5), .val (.int (1 : Int32)), .val (.int (1 : Int32)), .val (.ref o8)] [(.int (1 : Int32))])) _
          refine XS.goto X78.here hx rfl (pc0 := 271) (pc' := 275) rfl (hb hby at_271) (by decide) (by decide) ?_
          exact kt
        exact own_retZ X78 hx hret (by simp) hlk (hb hby at_275) (by decide) (by decide) ⟨congrArg (fun z => some (Value.int z)) hr.symm, N78⟩
      · replace hr := hr.trans (if_neg hc267_79)
        refine own_step (T' := T78) (f' := (mkF m 274 #[.val (.int i0), .val (.int i1), .val (.long j2), .second, .val (.int i4), .val (.int i5), .val (.int (1 : Int32)), .val (.int (1 : Int32)), .val (.ref o8)] [])) (fun t kt => ?_) ?_
        · show Steps p.tables e below (T78.setTop (mkF m 267 #[.val (.int i0), .val (.int i1), .val (.long j2), .second, .val (.int i4), .val (.int i5), .val (.int (1 : Int32)), .val (.int (1 : Int32)), .val (.ref o8)] [(.int i5), (.int (f2n1_0 (1 : Int32) (nar .byte (f1_0 i5 (0 : Int32) (1 : Int32)))))])) _
          refine XS.icmpYes X78.here hx rfl (pc0 := 267) (pc' := 274) rfl (hb hby at_267) rfl (feq hc267_79).2 (by decide) (by decide) kt
        refine own_step (T' := T78) (f' := (mkF m 275 #[.val (.int i0), .val (.int i1), .val (.long j2), .second, .val (.int i4), .val (.int i5), .val (.int (1 : Int32)), .val (.int (1 : Int32)), .val (.ref o8)] [(.int (0 : Int32))])) (fun t kt => ?_) ?_
        · show Steps p.tables e below (T78.setTop (mkF m 274 #[.val (.int i0), .val (.int i1), .val (.long j2), .second, .val (.int i4), .val (.int i5), .val (.int (1 : Int32)), .val (.int (1 : Int32)), .val (.ref o8)] [])) _
          refine XS.iconst X78.here hx rfl (hb hby at_274) ?_
          exact kt
        exact own_retZ X78 hx hret (by simp) hlk (hb hby at_275) (by decide) (by decide) ⟨congrArg (fun z => some (Value.int z)) hr.symm, N78⟩
    · replace hr := hr.trans ((if_neg (by decide)).trans (if_pos rfl))
      refine own_step (T' := T0) (f' := (mkF m 170 #[.val (.int i0), .val (.int i1), .val (.long j2), .second, .val (.int i4), .val (.int i5), .val (.int (1 : Int32)), .val (.int (2 : Int32)), .val (.ref o8)] [(.int (2 : Int32)), (.int (0 : Int32)), (.int i5), (.int (1 : Int32)), (.ref o8)])) (fun t kt => ?_) ?_
      · show Steps p.tables e below (T0.setTop (mkF m 161 #[.val (.int i0), .val (.int i1), .val (.long j2), .second, .val (.int i4), .val (.int i5), .val (.int (1 : Int32)), .val (.int (2 : Int32)), .val (.ref o8)] [])) _
        refine XS.aload X0.here hx rfl (hb hby at_161) rfl rfl ?_
        show Steps p.tables e below (T0.setTop (mkF m 163 #[.val (.int i0), .val (.int i1), .val (.long j2), .second, .val (.int i4), .val (.int i5), .val (.int (1 : Int32)), .val (.int (2 : Int32)), .val (.ref o8)] [(.ref o8)])) _
        refine XS.iload X0.here hx rfl (hb hby at_163) rfl ?_
        show Steps p.tables e below (T0.setTop (mkF m 165 #[.val (.int i0), .val (.int i1), .val (.long j2), .second, .val (.int i4), .val (.int i5), .val (.int (1 : Int32)), .val (.int (2 : Int32)), .val (.ref o8)] [(.int (1 : Int32)), (.ref o8)])) _
        refine XS.iload X0.here hx rfl (hb hby at_165) rfl ?_
        show Steps p.tables e below (T0.setTop (mkF m 167 #[.val (.int i0), .val (.int i1), .val (.long j2), .second, .val (.int i4), .val (.int i5), .val (.int (1 : Int32)), .val (.int (2 : Int32)), .val (.ref o8)] [(.int i5), (.int (1 : Int32)), (.ref o8)])) _
        refine XS.iconst X0.here hx rfl (hb hby at_167) ?_
        show Steps p.tables e below (T0.setTop (mkF m 168 #[.val (.int i0), .val (.int i1), .val (.long j2), .second, .val (.int i4), .val (.int i5), .val (.int (1 : Int32)), .val (.int (2 : Int32)), .val (.ref o8)] [(.int (0 : Int32)), (.int i5), (.int (1 : Int32)), (.ref o8)])) _
        refine XS.iload X0.here hx rfl (hb hby at_168) rfl ?_
        exact kt
      obtain ⟨_, _, ⟨T80, L80, k80, n80⟩, -, X80, ⟨Lc80, hQ80, l80, y80, z80⟩, st80⟩ := Jvm.LawKit.callS X0 hx (y := (⟨"hotstate/sort/VarIntsReadPinLaw", "enc", "(III)B"⟩ : MethodName)) hown (mvT hZ (hw _ (List.mem_of_getElem? (i := 2) rfl))) (mvT hZ (hw _ (List.mem_of_getElem? (i := 3) rfl))) (mvT hZ (hw _ (List.mem_of_getElem? (i := 4) rfl))) (mvT hZ (hw _ (List.mem_of_getElem? (i := 5) rfl))) (by decide) (backOf (W := 2) (rm1 l Z a0 hw [] i5 (0 : Int32) (2 : Int32)  h0 n0 ) hZ (hw _ (List.mem_of_getElem? (i := 5) rfl)) (hw _ (List.mem_of_getElem? (i := 4) rfl)) (by decide) (by decide)) (g := (mkF m 170 #[.val (.int i0), .val (.int i1), .val (.long j2), .second, .val (.int i4), .val (.int i5), .val (.int (1 : Int32)), .val (.int (2 : Int32)), .val (.ref o8)] [(.int (2 : Int32)), (.int (0 : Int32)), (.int i5), (.int (1 : Int32)), (.ref o8)])) rfl (by rw [hml]; rfl) (argsL := [(.int i5), (.int (0 : Int32)), (.int (2 : Int32))]) (rest := [(.int (1 : Int32)), (.ref o8)]) (lenOf pd1 rfl) rfl (by show 2 * 0 + _ ≤ _; exact Nat.le_of_eq rfl) (hb hby at_170) (fun _ _ => ⟨rfl, e0, (by decide : 1 + 0 ≤ _), (by decide : 9 + 0 ≤ _)⟩)
      dsimp only [Pt.U, Pt.locs, Pt.cells, Pt.slots] at X80 l80 y80 z80 st80 hQ80
      subst l80 y80 z80
      obtain ⟨rfl, Nq80, e80⟩ := hQ80
      have N80 := Fr.app N0 Nq80
      refine own_step (T' := T80) (f' := (mkF m 173 #[.val (.int i0), .val (.int i1), .val (.long j2), .second, .val (.int i4), .val (.int i5), .val (.int (1 : Int32)), .val (.int (2 : Int32)), .val (.ref o8)] [(.int (f1_0 i5 (0 : Int32) (2 : Int32))), (.int (1 : Int32)), (.ref o8)])) st80 ?_
      obtain ⟨T81, h81, Lq81, X81, N81, e81, W81, Z81, Aq81, st81⟩ := own_stB X80 hx hZ e80 Ao8 (j := (1 : Int32)) (by decide) (k := 1) (by decide) (Nat.le_of_ble_eq_true rfl) N80 go8 Z0 (g := (mkF m 173 #[.val (.int i0), .val (.int i1), .val (.long j2), .second, .val (.int i4), .val (.int i5), .val (.int (1 : Int32)), .val (.int (2 : Int32)), .val (.ref o8)] [(.int (f1_0 i5 (0 : Int32) (2 : Int32))), (.int (1 : Int32)), (.ref o8)])) rfl rfl (hb hby at_173)
      have Ao8_81 : own_A Z h81 o8 .byte [(.int xo8_0), (.int (nar .byte (f1_0 i5 (0 : Int32) (2 : Int32)))), (.int xo8_2), (.int xo8_3), (.int xo8_4), (.int xo8_5), (.int xo8_6), (.int xo8_7), (.int xo8_8)] := Aq81
      refine own_step (T' := T81) (f' := (mkF m 174 #[.val (.int i0), .val (.int i1), .val (.long j2), .second, .val (.int i4), .val (.int i5), .val (.int (1 : Int32)), .val (.int (2 : Int32)), .val (.ref o8)] [])) st81 ?_
      refine own_step (T' := T81) (f' := (mkF m 177 #[.val (.int i0), .val (.int i1), .val (.long j2), .second, .val (.int i4), .val (.int i5), .val (.int (1 : Int32)), .val (.int (2 : Int32)), .val (.ref o8)] [(.int (1 : Int32)), (.int (2 : Int32))])) (fun t kt => ?_) ?_
      · show Steps p.tables e below (T81.setTop (mkF m 174 #[.val (.int i0), .val (.int i1), .val (.long j2), .second, .val (.int i4), .val (.int i5), .val (.int (1 : Int32)), .val (.int (2 : Int32)), .val (.ref o8)] [])) _
        refine XS.iload X81.here hx rfl (hb hby at_174) rfl ?_
        show Steps p.tables e below (T81.setTop (mkF m 176 #[.val (.int i0), .val (.int i1), .val (.long j2), .second, .val (.int i4), .val (.int i5), .val (.int (1 : Int32)), .val (.int (2 : Int32)), .val (.ref o8)] [(.int (2 : Int32))])) _
        refine XS.iconst X81.here hx rfl (hb hby at_176) ?_
        exact kt
      refine own_step (T' := T81) (f' := (mkF m 180 #[.val (.int i0), .val (.int i1), .val (.long j2), .second, .val (.int i4), .val (.int i5), .val (.int (1 : Int32)), .val (.int (2 : Int32)), .val (.ref o8)] [])) (fun t kt => ?_) ?_
      · show Steps p.tables e below (T81.setTop (mkF m 177 #[.val (.int i0), .val (.int i1), .val (.long j2), .second, .val (.int i4), .val (.int i5), .val (.int (1 : Int32)), .val (.int (2 : Int32)), .val (.ref o8)] [(.int (1 : Int32)), (.int (2 : Int32))])) _
        refine XS.icmpNo X81.here hx rfl (hb hby at_177) rfl (tlt (by decide : ((1 : Int32) < (2 : Int32)))).2.2.2 kt
      refine own_step (T' := T81) (f' := (mkF m 191 #[.val (.int i0), .val (.int i1), .val (.long j2), .second, .val (.int i4), .val (.int i5), .val (.int (1 : Int32)), .val (.int (2 : Int32)), .val (.ref o8)] [(.int (2 : Int32)), (.int (1 : Int32)), (.int i5), (.int (2 : Int32)), (.ref o8)])) (fun t kt => ?_) ?_
      · show Steps p.tables e below (T81.setTop (mkF m 180 #[.val (.int i0), .val (.int i1), .val (.long j2), .second, .val (.int i4), .val (.int i5), .val (.int (1 : Int32)), .val (.int (2 : Int32)), .val (.ref o8)] [])) _
        refine XS.aload X81.here hx rfl (hb hby at_180) rfl rfl ?_
        show Steps p.tables e below (T81.setTop (mkF m 182 #[.val (.int i0), .val (.int i1), .val (.long j2), .second, .val (.int i4), .val (.int i5), .val (.int (1 : Int32)), .val (.int (2 : Int32)), .val (.ref o8)] [(.ref o8)])) _
        refine XS.iload X81.here hx rfl (hb hby at_182) rfl ?_
        show Steps p.tables e below (T81.setTop (mkF m 184 #[.val (.int i0), .val (.int i1), .val (.long j2), .second, .val (.int i4), .val (.int i5), .val (.int (1 : Int32)), .val (.int (2 : Int32)), .val (.ref o8)] [(.int (1 : Int32)), (.ref o8)])) _
        refine XS.iconst X81.here hx rfl (hb hby at_184) ?_
        show Steps p.tables e below (T81.setTop (mkF m 185 #[.val (.int i0), .val (.int i1), .val (.long j2), .second, .val (.int i4), .val (.int i5), .val (.int (1 : Int32)), .val (.int (2 : Int32)), .val (.ref o8)] [(.int (1 : Int32)), (.int (1 : Int32)), (.ref o8)])) _
        refine XS.iadd X81.here hx rfl (hb hby at_185) rfl ?_
        show Steps p.tables e below (T81.setTop (mkF m 186 #[.val (.int i0), .val (.int i1), .val (.long j2), .second, .val (.int i4), .val (.int i5), .val (.int (1 : Int32)), .val (.int (2 : Int32)), .val (.ref o8)] [(.int (2 : Int32)), (.ref o8)])) _
        refine XS.iload X81.here hx rfl (hb hby at_186) rfl ?_
        show Steps p.tables e below (T81.setTop (mkF m 188 #[.val (.int i0), .val (.int i1), .val (.long j2), .second, .val (.int i4), .val (.int i5), .val (.int (1 : Int32)), .val (.int (2 : Int32)), .val (.ref o8)] [(.int i5), (.int (2 : Int32)), (.ref o8)])) _
        refine XS.iconst X81.here hx rfl (hb hby at_188) ?_
        show Steps p.tables e below (T81.setTop (mkF m 189 #[.val (.int i0), .val (.int i1), .val (.long j2), .second, .val (.int i4), .val (.int i5), .val (.int (1 : Int32)), .val (.int (2 : Int32)), .val (.ref o8)] [(.int (1 : Int32)), (.int i5), (.int (2 : Int32)), (.ref o8)])) _
        refine XS.iload X81.here hx rfl (hb hby at_189) rfl ?_
        exact kt
      obtain ⟨_, _, ⟨T83, L83, k83, n83⟩, -, X83, ⟨Lc83, hQ83, l83, y83, z83⟩, st83⟩ := Jvm.LawKit.callS X81 hx (y := (⟨"hotstate/sort/VarIntsReadPinLaw", "enc", "(III)B"⟩ : MethodName)) hown (mvT hZ (hw _ (List.mem_of_getElem? (i := 2) rfl))) (mvT hZ (hw _ (List.mem_of_getElem? (i := 3) rfl))) (mvT hZ (hw _ (List.mem_of_getElem? (i := 4) rfl))) (mvT hZ (hw _ (List.mem_of_getElem? (i := 5) rfl))) (by decide) (backOf (W := 2) (rm1 l Z a0 hw [] i5 (1 : Int32) (2 : Int32)  h81 n0 ) hZ (hw _ (List.mem_of_getElem? (i := 5) rfl)) (hw _ (List.mem_of_getElem? (i := 4) rfl)) (by decide) (by decide)) (g := (mkF m 191 #[.val (.int i0), .val (.int i1), .val (.long j2), .second, .val (.int i4), .val (.int i5), .val (.int (1 : Int32)), .val (.int (2 : Int32)), .val (.ref o8)] [(.int (2 : Int32)), (.int (1 : Int32)), (.int i5), (.int (2 : Int32)), (.ref o8)])) rfl (by rw [hml]; rfl) (argsL := [(.int i5), (.int (1 : Int32)), (.int (2 : Int32))]) (rest := [(.int (2 : Int32)), (.ref o8)]) (lenOf pd1 rfl) rfl (by show 2 * 0 + _ ≤ _; exact Nat.le_of_eq rfl) (hb hby at_191) (fun _ _ => ⟨rfl, e81, (by decide : 1 + 0 ≤ _), (by decide : 9 + 0 ≤ _)⟩)
      dsimp only [Pt.U, Pt.locs, Pt.cells, Pt.slots] at X83 l83 y83 z83 st83 hQ83
      subst l83 y83 z83
      obtain ⟨rfl, Nq83, e83⟩ := hQ83
      have N83 := Fr.app N81 Nq83
      refine own_step (T' := T83) (f' := (mkF m 194 #[.val (.int i0), .val (.int i1), .val (.long j2), .second, .val (.int i4), .val (.int i5), .val (.int (1 : Int32)), .val (.int (2 : Int32)), .val (.ref o8)] [(.int (f1_0 i5 (1 : Int32) (2 : Int32))), (.int (2 : Int32)), (.ref o8)])) st83 ?_
      obtain ⟨T84, h84, Lq84, X84, N84, e84, W84, Z84, Aq84, st84⟩ := own_stB X83 hx hZ e83 Ao8_81 (j := (2 : Int32)) (by decide) (k := 2) (by decide) (Nat.le_of_ble_eq_true rfl) N83 go8 Z81 (g := (mkF m 194 #[.val (.int i0), .val (.int i1), .val (.long j2), .second, .val (.int i4), .val (.int i5), .val (.int (1 : Int32)), .val (.int (2 : Int32)), .val (.ref o8)] [(.int (f1_0 i5 (1 : Int32) (2 : Int32))), (.int (2 : Int32)), (.ref o8)])) rfl rfl (hb hby at_194)
      have Ao8_84 : own_A Z h84 o8 .byte [(.int xo8_0), (.int (nar .byte (f1_0 i5 (0 : Int32) (2 : Int32)))), (.int (nar .byte (f1_0 i5 (1 : Int32) (2 : Int32)))), (.int xo8_3), (.int xo8_4), (.int xo8_5), (.int xo8_6), (.int xo8_7), (.int xo8_8)] := Aq84
      refine own_step (T' := T84) (f' := (mkF m 195 #[.val (.int i0), .val (.int i1), .val (.long j2), .second, .val (.int i4), .val (.int i5), .val (.int (1 : Int32)), .val (.int (2 : Int32)), .val (.ref o8)] [])) st84 ?_
      refine own_step (T' := T84) (f' := (mkF m 198 #[.val (.int i0), .val (.int i1), .val (.long j2), .second, .val (.int i4), .val (.int i5), .val (.int (1 : Int32)), .val (.int (2 : Int32)), .val (.ref o8)] [(.int (2 : Int32)), (.int (2 : Int32))])) (fun t kt => ?_) ?_
      · show Steps p.tables e below (T84.setTop (mkF m 195 #[.val (.int i0), .val (.int i1), .val (.long j2), .second, .val (.int i4), .val (.int i5), .val (.int (1 : Int32)), .val (.int (2 : Int32)), .val (.ref o8)] [])) _
        refine XS.iload X84.here hx rfl (hb hby at_195) rfl ?_
        show Steps p.tables e below (T84.setTop (mkF m 197 #[.val (.int i0), .val (.int i1), .val (.long j2), .second, .val (.int i4), .val (.int i5), .val (.int (1 : Int32)), .val (.int (2 : Int32)), .val (.ref o8)] [(.int (2 : Int32))])) _
        refine XS.iconst X84.here hx rfl (hb hby at_197) ?_
        exact kt
      refine own_step (T' := T84) (f' := (mkF m 216 #[.val (.int i0), .val (.int i1), .val (.long j2), .second, .val (.int i4), .val (.int i5), .val (.int (1 : Int32)), .val (.int (2 : Int32)), .val (.ref o8)] [])) (fun t kt => ?_) ?_
      · show Steps p.tables e below (T84.setTop (mkF m 198 #[.val (.int i0), .val (.int i1), .val (.long j2), .second, .val (.int i4), .val (.int i5), .val (.int (1 : Int32)), .val (.int (2 : Int32)), .val (.ref o8)] [(.int (2 : Int32)), (.int (2 : Int32))])) _
        refine XS.icmpYes X84.here hx rfl (pc0 := 198) (pc' := 216) rfl (hb hby at_198) rfl (flt (by decide : ¬ ((2 : Int32) < (2 : Int32)))).2.2.2 (by decide) (by decide) kt
      refine own_step (T' := T84) (f' := (mkF m 219 #[.val (.int i0), .val (.int i1), .val (.long j2), .second, .val (.int i4), .val (.int i5), .val (.int (1 : Int32)), .val (.int (2 : Int32)), .val (.ref o8)] [(.int (3 : Int32)), (.int (2 : Int32))])) (fun t kt => ?_) ?_
      · show Steps p.tables e below (T84.setTop (mkF m 216 #[.val (.int i0), .val (.int i1), .val (.long j2), .second, .val (.int i4), .val (.int i5), .val (.int (1 : Int32)), .val (.int (2 : Int32)), .val (.ref o8)] [])) _
        refine XS.iload X84.here hx rfl (hb hby at_216) rfl ?_
        show Steps p.tables e below (T84.setTop (mkF m 218 #[.val (.int i0), .val (.int i1), .val (.long j2), .second, .val (.int i4), .val (.int i5), .val (.int (1 : Int32)), .val (.int (2 : Int32)), .val (.ref o8)] [(.int (2 : Int32))])) _
        refine XS.iconst X84.here hx rfl (hb hby at_218) ?_
        exact kt
      refine own_step (T' := T84) (f' := (mkF m 237 #[.val (.int i0), .val (.int i1), .val (.long j2), .second, .val (.int i4), .val (.int i5), .val (.int (1 : Int32)), .val (.int (2 : Int32)), .val (.ref o8)] [])) (fun t kt => ?_) ?_
      · show Steps p.tables e below (T84.setTop (mkF m 219 #[.val (.int i0), .val (.int i1), .val (.long j2), .second, .val (.int i4), .val (.int i5), .val (.int (1 : Int32)), .val (.int (2 : Int32)), .val (.ref o8)] [(.int (3 : Int32)), (.int (2 : Int32))])) _
        refine XS.icmpYes X84.here hx rfl (pc0 := 219) (pc' := 237) rfl (hb hby at_219) rfl (flt (by decide : ¬ ((3 : Int32) < (2 : Int32)))).2.2.2 (by decide) (by decide) kt
      refine own_step (T' := T84) (f' := (mkF m 240 #[.val (.int i0), .val (.int i1), .val (.long j2), .second, .val (.int i4), .val (.int i5), .val (.int (1 : Int32)), .val (.int (2 : Int32)), .val (.ref o8)] [(.int (4 : Int32)), (.int (2 : Int32))])) (fun t kt => ?_) ?_
      · show Steps p.tables e below (T84.setTop (mkF m 237 #[.val (.int i0), .val (.int i1), .val (.long j2), .second, .val (.int i4), .val (.int i5), .val (.int (1 : Int32)), .val (.int (2 : Int32)), .val (.ref o8)] [])) _
        refine XS.iload X84.here hx rfl (hb hby at_237) rfl ?_
        show Steps p.tables e below (T84.setTop (mkF m 239 #[.val (.int i0), .val (.int i1), .val (.long j2), .second, .val (.int i4), .val (.int i5), .val (.int (1 : Int32)), .val (.int (2 : Int32)), .val (.ref o8)] [(.int (2 : Int32))])) _
        refine XS.iconst X84.here hx rfl (hb hby at_239) ?_
        exact kt
      refine own_step (T' := T84) (f' := (mkF m 258 #[.val (.int i0), .val (.int i1), .val (.long j2), .second, .val (.int i4), .val (.int i5), .val (.int (1 : Int32)), .val (.int (2 : Int32)), .val (.ref o8)] [])) (fun t kt => ?_) ?_
      · show Steps p.tables e below (T84.setTop (mkF m 240 #[.val (.int i0), .val (.int i1), .val (.long j2), .second, .val (.int i4), .val (.int i5), .val (.int (1 : Int32)), .val (.int (2 : Int32)), .val (.ref o8)] [(.int (4 : Int32)), (.int (2 : Int32))])) _
        refine XS.icmpYes X84.here hx rfl (pc0 := 240) (pc' := 258) rfl (hb hby at_240) rfl (flt (by decide : ¬ ((4 : Int32) < (2 : Int32)))).2.2.2 (by decide) (by decide) kt
      refine own_step (T' := T84) (f' := (mkF m 262 #[.val (.int i0), .val (.int i1), .val (.long j2), .second, .val (.int i4), .val (.int i5), .val (.int (1 : Int32)), .val (.int (2 : Int32)), .val (.ref o8)] [(.int (1 : Int32)), (.ref o8)])) (fun t kt => ?_) ?_
      · show Steps p.tables e below (T84.setTop (mkF m 258 #[.val (.int i0), .val (.int i1), .val (.long j2), .second, .val (.int i4), .val (.int i5), .val (.int (1 : Int32)), .val (.int (2 : Int32)), .val (.ref o8)] [])) _
        refine XS.aload X84.here hx rfl (hb hby at_258) rfl rfl ?_
        show Steps p.tables e below (T84.setTop (mkF m 260 #[.val (.int i0), .val (.int i1), .val (.long j2), .second, .val (.int i4), .val (.int i5), .val (.int (1 : Int32)), .val (.int (2 : Int32)), .val (.ref o8)] [(.ref o8)])) _
        refine XS.iload X84.here hx rfl (hb hby at_260) rfl ?_
        exact kt
      obtain ⟨_, _, ⟨T88, L88, k88, n88⟩, -, X88, ⟨Lc88, hQ88, l88, y88, z88⟩, st88⟩ := Jvm.LawKit.callS X84 hx (y := (⟨"hotstate/sort/VarInts", "read", "([BI)I"⟩ : MethodName)) hown (mvT hZ (hw _ (List.mem_of_getElem? (i := 6) rfl))) (mvT hZ (hw _ (List.mem_of_getElem? (i := 7) rfl))) (mvT hZ (hw _ (List.mem_of_getElem? (i := 8) rfl))) (mvT hZ (hw _ (List.mem_of_getElem? (i := 9) rfl))) (by decide) (backOf (W := 0) (rm2n2 l Z a0 hw [] o8 (1 : Int32) (nar .byte (f1_0 i5 (0 : Int32) (2 : Int32))) (nar .byte (f1_0 i5 (1 : Int32) (2 : Int32))) [(.int xo8_0), (.int (nar .byte (f1_0 i5 (0 : Int32) (2 : Int32)))), (.int (nar .byte (f1_0 i5 (1 : Int32) (2 : Int32)))), (.int xo8_3), (.int xo8_4), (.int xo8_5), (.int xo8_6), (.int xo8_7), (.int xo8_8)] h84 n0 Ao8_84 (by decide) rfl rfl (own_last2 i5)) hZ (hw _ (List.mem_of_getElem? (i := 9) rfl)) (hw _ (List.mem_of_getElem? (i := 8) rfl)) (by decide) (by decide)) (g := (mkF m 262 #[.val (.int i0), .val (.int i1), .val (.long j2), .second, .val (.int i4), .val (.int i5), .val (.int (1 : Int32)), .val (.int (2 : Int32)), .val (.ref o8)] [(.int (1 : Int32)), (.ref o8)])) rfl (by rw [hml]; rfl) (argsL := [(.ref o8), (.int (1 : Int32))]) (rest := []) (lenOf pd2 rfl) rfl (by show 2 * 0 + _ ≤ _; exact Nat.le_of_eq rfl) (hb hby at_262) (fun _ _ => ⟨rfl, e84, (by decide : 1 + 0 ≤ _), (by decide : 9 + 0 ≤ _)⟩)
      dsimp only [Pt.U, Pt.locs, Pt.cells, Pt.slots] at X88 l88 y88 z88 st88 hQ88
      subst l88 y88 z88
      obtain ⟨rfl, Nq88, e88⟩ := hQ88
      have N88 := Fr.app N84 Nq88
      refine own_step (T' := T88) (f' := (mkF m 265 #[.val (.int i0), .val (.int i1), .val (.long j2), .second, .val (.int i4), .val (.int i5), .val (.int (1 : Int32)), .val (.int (2 : Int32)), .val (.ref o8)] [(.int (f2n2_0 (1 : Int32) (nar .byte (f1_0 i5 (0 : Int32) (2 : Int32))) (nar .byte (f1_0 i5 (1 : Int32) (2 : Int32)))))])) st88 ?_
      refine own_step (T' := T88) (f' := (mkF m 267 #[.val (.int i0), .val (.int i1), .val (.long j2), .second, .val (.int i4), .val (.int i5), .val (.int (1 : Int32)), .val (.int (2 : Int32)), .val (.ref o8)] [(.int i5), (.int (f2n2_0 (1 : Int32) (nar .byte (f1_0 i5 (0 : Int32) (2 : Int32))) (nar .byte (f1_0 i5 (1 : Int32) (2 : Int32)))))])) (fun t kt => ?_) ?_
      · show Steps p.tables e below (T88.setTop (mkF m 265 #[.val (.int i0), .val (.int i1), .val (.long j2), .second, .val (.int i4), .val (.int i5), .val (.int (1 : Int32)), .val (.int (2 : Int32)), .val (.ref o8)] [(.int (f2n2_0 (1 : Int32) (nar .byte (f1_0 i5 (0 : Int32) (2 : Int32))) (nar .byte (f1_0 i5 (1 : Int32) (2 : Int32)))))])) _
        refine XS.iload X88.here hx rfl (hb hby at_265) rfl ?_
        exact kt
      by_cases hc267_89 : (f2n2_0 (1 : Int32) (nar .byte (f1_0 i5 (0 : Int32) (2 : Int32))) (nar .byte (f1_0 i5 (1 : Int32) (2 : Int32)))) = i5
      · replace hr := hr.trans (if_pos hc267_89)
        refine own_step (T' := T88) (f' := (mkF m 270 #[.val (.int i0), .val (.int i1), .val (.long j2), .second, .val (.int i4), .val (.int i5), .val (.int (1 : Int32)), .val (.int (2 : Int32)), .val (.ref o8)] [])) (fun t kt => ?_) ?_
        · show Steps p.tables e below (T88.setTop (mkF m 267 #[.val (.int i0), .val (.int i1), .val (.long j2), .second, .val (.int i4), .val (.int i5), .val (.int (1 : Int32)), .val (.int (2 : Int32)), .val (.ref o8)] [(.int i5), (.int (f2n2_0 (1 : Int32) (nar .byte (f1_0 i5 (0 : Int32) (2 : Int32))) (nar .byte (f1_0 i5 (1 : Int32) (2 : Int32)))))])) _
          refine XS.icmpNo X88.here hx rfl (hb hby at_267) rfl (teq hc267_89).2 kt
        refine own_step (T' := T88) (f' := (mkF m 275 #[.val (.int i0), .val (.int i1), .val (.long j2), .second, .val (.int i4), .val (.int i5), .val (.int (1 : Int32)), .val (.int (2 : Int32)), .val (.ref o8)] [(.int (1 : Int32))])) (fun t kt => ?_) ?_
        · show Steps p.tables e below (T88.setTop (mkF m 270 #[.val (.int i0), .val (.int i1), .val (.long j2), .second, .val (.int i4), .val (.int i5), .val (.int (1 : Int32)), .val (.int (2 : Int32)), .val (.ref o8)] [])) _
          refine XS.iconst X88.here hx rfl (hb hby at_270) ?_
          show Steps p.tables e below (T88.setTop (mkF m 271 #[.val (.int i0), .val (.int i1), .val (.long j2), .second, .val (.int i4), .val (.int i5), .val (.int (1 : Int32)), .val (.int (2 : Int32)), .val (.ref o8)] [(.int (1 : Int32))])) _
          refine XS.goto X88.here hx rfl (pc0 := 271) (pc' := 275) rfl (hb hby at_271) (by decide) (by decide) ?_
          exact kt
        exact own_retZ X88 hx hret (by simp) hlk (hb hby at_275) (by decide) (by decide) ⟨congrArg (fun z => some (Value.int z)) hr.symm, N88⟩
      · replace hr := hr.trans (if_neg hc267_89)
        refine own_step (T' := T88) (f' := (mkF m 274 #[.val (.int i0), .val (.int i1), .val (.long j2), .second, .val (.int i4), .val (.int i5), .val (.int (1 : Int32)), .val (.int (2 : Int32)), .val (.ref o8)] [])) (fun t kt => ?_) ?_
        · show Steps p.tables e below (T88.setTop (mkF m 267 #[.val (.int i0), .val (.int i1), .val (.long j2), .second, .val (.int i4), .val (.int i5), .val (.int (1 : Int32)), .val (.int (2 : Int32)), .val (.ref o8)] [(.int i5), (.int (f2n2_0 (1 : Int32) (nar .byte (f1_0 i5 (0 : Int32) (2 : Int32))) (nar .byte (f1_0 i5 (1 : Int32) (2 : Int32)))))])) _
          refine XS.icmpYes X88.here hx rfl (pc0 := 267) (pc' := 274) rfl (hb hby at_267) rfl (feq hc267_89).2 (by decide) (by decide) kt
        refine own_step (T' := T88) (f' := (mkF m 275 #[.val (.int i0), .val (.int i1), .val (.long j2), .second, .val (.int i4), .val (.int i5), .val (.int (1 : Int32)), .val (.int (2 : Int32)), .val (.ref o8)] [(.int (0 : Int32))])) (fun t kt => ?_) ?_
        · show Steps p.tables e below (T88.setTop (mkF m 274 #[.val (.int i0), .val (.int i1), .val (.long j2), .second, .val (.int i4), .val (.int i5), .val (.int (1 : Int32)), .val (.int (2 : Int32)), .val (.ref o8)] [])) _
          refine XS.iconst X88.here hx rfl (hb hby at_274) ?_
          exact kt
        exact own_retZ X88 hx hret (by simp) hlk (hb hby at_275) (by decide) (by decide) ⟨congrArg (fun z => some (Value.int z)) hr.symm, N88⟩
    · replace hr := hr.trans ((if_neg (by decide)).trans ((if_neg (by decide)).trans (if_pos rfl)))
      refine own_step (T' := T0) (f' := (mkF m 170 #[.val (.int i0), .val (.int i1), .val (.long j2), .second, .val (.int i4), .val (.int i5), .val (.int (1 : Int32)), .val (.int (3 : Int32)), .val (.ref o8)] [(.int (3 : Int32)), (.int (0 : Int32)), (.int i5), (.int (1 : Int32)), (.ref o8)])) (fun t kt => ?_) ?_
      · show Steps p.tables e below (T0.setTop (mkF m 161 #[.val (.int i0), .val (.int i1), .val (.long j2), .second, .val (.int i4), .val (.int i5), .val (.int (1 : Int32)), .val (.int (3 : Int32)), .val (.ref o8)] [])) _
        refine XS.aload X0.here hx rfl (hb hby at_161) rfl rfl ?_
        show Steps p.tables e below (T0.setTop (mkF m 163 #[.val (.int i0), .val (.int i1), .val (.long j2), .second, .val (.int i4), .val (.int i5), .val (.int (1 : Int32)), .val (.int (3 : Int32)), .val (.ref o8)] [(.ref o8)])) _
        refine XS.iload X0.here hx rfl (hb hby at_163) rfl ?_
        show Steps p.tables e below (T0.setTop (mkF m 165 #[.val (.int i0), .val (.int i1), .val (.long j2), .second, .val (.int i4), .val (.int i5), .val (.int (1 : Int32)), .val (.int (3 : Int32)), .val (.ref o8)] [(.int (1 : Int32)), (.ref o8)])) _
        refine XS.iload X0.here hx rfl (hb hby at_165) rfl ?_
        show Steps p.tables e below (T0.setTop (mkF m 167 #[.val (.int i0), .val (.int i1), .val (.long j2), .second, .val (.int i4), .val (.int i5), .val (.int (1 : Int32)), .val (.int (3 : Int32)), .val (.ref o8)] [(.int i5), (.int (1 : Int32)), (.ref o8)])) _
        refine XS.iconst X0.here hx rfl (hb hby at_167) ?_
        show Steps p.tables e below (T0.setTop (mkF m 168 #[.val (.int i0), .val (.int i1), .val (.long j2), .second, .val (.int i4), .val (.int i5), .val (.int (1 : Int32)), .val (.int (3 : Int32)), .val (.ref o8)] [(.int (0 : Int32)), (.int i5), (.int (1 : Int32)), (.ref o8)])) _
        refine XS.iload X0.here hx rfl (hb hby at_168) rfl ?_
        exact kt
      obtain ⟨_, _, ⟨T90, L90, k90, n90⟩, -, X90, ⟨Lc90, hQ90, l90, y90, z90⟩, st90⟩ := Jvm.LawKit.callS X0 hx (y := (⟨"hotstate/sort/VarIntsReadPinLaw", "enc", "(III)B"⟩ : MethodName)) hown (mvT hZ (hw _ (List.mem_of_getElem? (i := 2) rfl))) (mvT hZ (hw _ (List.mem_of_getElem? (i := 3) rfl))) (mvT hZ (hw _ (List.mem_of_getElem? (i := 4) rfl))) (mvT hZ (hw _ (List.mem_of_getElem? (i := 5) rfl))) (by decide) (backOf (W := 2) (rm1 l Z a0 hw [] i5 (0 : Int32) (3 : Int32)  h0 n0 ) hZ (hw _ (List.mem_of_getElem? (i := 5) rfl)) (hw _ (List.mem_of_getElem? (i := 4) rfl)) (by decide) (by decide)) (g := (mkF m 170 #[.val (.int i0), .val (.int i1), .val (.long j2), .second, .val (.int i4), .val (.int i5), .val (.int (1 : Int32)), .val (.int (3 : Int32)), .val (.ref o8)] [(.int (3 : Int32)), (.int (0 : Int32)), (.int i5), (.int (1 : Int32)), (.ref o8)])) rfl (by rw [hml]; rfl) (argsL := [(.int i5), (.int (0 : Int32)), (.int (3 : Int32))]) (rest := [(.int (1 : Int32)), (.ref o8)]) (lenOf pd1 rfl) rfl (by show 2 * 0 + _ ≤ _; exact Nat.le_of_eq rfl) (hb hby at_170) (fun _ _ => ⟨rfl, e0, (by decide : 1 + 0 ≤ _), (by decide : 9 + 0 ≤ _)⟩)
      dsimp only [Pt.U, Pt.locs, Pt.cells, Pt.slots] at X90 l90 y90 z90 st90 hQ90
      subst l90 y90 z90
      obtain ⟨rfl, Nq90, e90⟩ := hQ90
      have N90 := Fr.app N0 Nq90
      refine own_step (T' := T90) (f' := (mkF m 173 #[.val (.int i0), .val (.int i1), .val (.long j2), .second, .val (.int i4), .val (.int i5), .val (.int (1 : Int32)), .val (.int (3 : Int32)), .val (.ref o8)] [(.int (f1_0 i5 (0 : Int32) (3 : Int32))), (.int (1 : Int32)), (.ref o8)])) st90 ?_
      obtain ⟨T91, h91, Lq91, X91, N91, e91, W91, Z91, Aq91, st91⟩ := own_stB X90 hx hZ e90 Ao8 (j := (1 : Int32)) (by decide) (k := 1) (by decide) (Nat.le_of_ble_eq_true rfl) N90 go8 Z0 (g := (mkF m 173 #[.val (.int i0), .val (.int i1), .val (.long j2), .second, .val (.int i4), .val (.int i5), .val (.int (1 : Int32)), .val (.int (3 : Int32)), .val (.ref o8)] [(.int (f1_0 i5 (0 : Int32) (3 : Int32))), (.int (1 : Int32)), (.ref o8)])) rfl rfl (hb hby at_173)
      have Ao8_91 : own_A Z h91 o8 .byte [(.int xo8_0), (.int (nar .byte (f1_0 i5 (0 : Int32) (3 : Int32)))), (.int xo8_2), (.int xo8_3), (.int xo8_4), (.int xo8_5), (.int xo8_6), (.int xo8_7), (.int xo8_8)] := Aq91
      refine own_step (T' := T91) (f' := (mkF m 174 #[.val (.int i0), .val (.int i1), .val (.long j2), .second, .val (.int i4), .val (.int i5), .val (.int (1 : Int32)), .val (.int (3 : Int32)), .val (.ref o8)] [])) st91 ?_
      refine own_step (T' := T91) (f' := (mkF m 177 #[.val (.int i0), .val (.int i1), .val (.long j2), .second, .val (.int i4), .val (.int i5), .val (.int (1 : Int32)), .val (.int (3 : Int32)), .val (.ref o8)] [(.int (1 : Int32)), (.int (3 : Int32))])) (fun t kt => ?_) ?_
      · show Steps p.tables e below (T91.setTop (mkF m 174 #[.val (.int i0), .val (.int i1), .val (.long j2), .second, .val (.int i4), .val (.int i5), .val (.int (1 : Int32)), .val (.int (3 : Int32)), .val (.ref o8)] [])) _
        refine XS.iload X91.here hx rfl (hb hby at_174) rfl ?_
        show Steps p.tables e below (T91.setTop (mkF m 176 #[.val (.int i0), .val (.int i1), .val (.long j2), .second, .val (.int i4), .val (.int i5), .val (.int (1 : Int32)), .val (.int (3 : Int32)), .val (.ref o8)] [(.int (3 : Int32))])) _
        refine XS.iconst X91.here hx rfl (hb hby at_176) ?_
        exact kt
      refine own_step (T' := T91) (f' := (mkF m 180 #[.val (.int i0), .val (.int i1), .val (.long j2), .second, .val (.int i4), .val (.int i5), .val (.int (1 : Int32)), .val (.int (3 : Int32)), .val (.ref o8)] [])) (fun t kt => ?_) ?_
      · show Steps p.tables e below (T91.setTop (mkF m 177 #[.val (.int i0), .val (.int i1), .val (.long j2), .second, .val (.int i4), .val (.int i5), .val (.int (1 : Int32)), .val (.int (3 : Int32)), .val (.ref o8)] [(.int (1 : Int32)), (.int (3 : Int32))])) _
        refine XS.icmpNo X91.here hx rfl (hb hby at_177) rfl (tlt (by decide : ((1 : Int32) < (3 : Int32)))).2.2.2 kt
      refine own_step (T' := T91) (f' := (mkF m 191 #[.val (.int i0), .val (.int i1), .val (.long j2), .second, .val (.int i4), .val (.int i5), .val (.int (1 : Int32)), .val (.int (3 : Int32)), .val (.ref o8)] [(.int (3 : Int32)), (.int (1 : Int32)), (.int i5), (.int (2 : Int32)), (.ref o8)])) (fun t kt => ?_) ?_
      · show Steps p.tables e below (T91.setTop (mkF m 180 #[.val (.int i0), .val (.int i1), .val (.long j2), .second, .val (.int i4), .val (.int i5), .val (.int (1 : Int32)), .val (.int (3 : Int32)), .val (.ref o8)] [])) _
        refine XS.aload X91.here hx rfl (hb hby at_180) rfl rfl ?_
        show Steps p.tables e below (T91.setTop (mkF m 182 #[.val (.int i0), .val (.int i1), .val (.long j2), .second, .val (.int i4), .val (.int i5), .val (.int (1 : Int32)), .val (.int (3 : Int32)), .val (.ref o8)] [(.ref o8)])) _
        refine XS.iload X91.here hx rfl (hb hby at_182) rfl ?_
        show Steps p.tables e below (T91.setTop (mkF m 184 #[.val (.int i0), .val (.int i1), .val (.long j2), .second, .val (.int i4), .val (.int i5), .val (.int (1 : Int32)), .val (.int (3 : Int32)), .val (.ref o8)] [(.int (1 : Int32)), (.ref o8)])) _
        refine XS.iconst X91.here hx rfl (hb hby at_184) ?_
        show Steps p.tables e below (T91.setTop (mkF m 185 #[.val (.int i0), .val (.int i1), .val (.long j2), .second, .val (.int i4), .val (.int i5), .val (.int (1 : Int32)), .val (.int (3 : Int32)), .val (.ref o8)] [(.int (1 : Int32)), (.int (1 : Int32)), (.ref o8)])) _
        refine XS.iadd X91.here hx rfl (hb hby at_185) rfl ?_
        show Steps p.tables e below (T91.setTop (mkF m 186 #[.val (.int i0), .val (.int i1), .val (.long j2), .second, .val (.int i4), .val (.int i5), .val (.int (1 : Int32)), .val (.int (3 : Int32)), .val (.ref o8)] [(.int (2 : Int32)), (.ref o8)])) _
        refine XS.iload X91.here hx rfl (hb hby at_186) rfl ?_
        show Steps p.tables e below (T91.setTop (mkF m 188 #[.val (.int i0), .val (.int i1), .val (.long j2), .second, .val (.int i4), .val (.int i5), .val (.int (1 : Int32)), .val (.int (3 : Int32)), .val (.ref o8)] [(.int i5), (.int (2 : Int32)), (.ref o8)])) _
        refine XS.iconst X91.here hx rfl (hb hby at_188) ?_
        show Steps p.tables e below (T91.setTop (mkF m 189 #[.val (.int i0), .val (.int i1), .val (.long j2), .second, .val (.int i4), .val (.int i5), .val (.int (1 : Int32)), .val (.int (3 : Int32)), .val (.ref o8)] [(.int (1 : Int32)), (.int i5), (.int (2 : Int32)), (.ref o8)])) _
        refine XS.iload X91.here hx rfl (hb hby at_189) rfl ?_
        exact kt
      obtain ⟨_, _, ⟨T93, L93, k93, n93⟩, -, X93, ⟨Lc93, hQ93, l93, y93, z93⟩, st93⟩ := Jvm.LawKit.callS X91 hx (y := (⟨"hotstate/sort/VarIntsReadPinLaw", "enc", "(III)B"⟩ : MethodName)) hown (mvT hZ (hw _ (List.mem_of_getElem? (i := 2) rfl))) (mvT hZ (hw _ (List.mem_of_getElem? (i := 3) rfl))) (mvT hZ (hw _ (List.mem_of_getElem? (i := 4) rfl))) (mvT hZ (hw _ (List.mem_of_getElem? (i := 5) rfl))) (by decide) (backOf (W := 2) (rm1 l Z a0 hw [] i5 (1 : Int32) (3 : Int32)  h91 n0 ) hZ (hw _ (List.mem_of_getElem? (i := 5) rfl)) (hw _ (List.mem_of_getElem? (i := 4) rfl)) (by decide) (by decide)) (g := (mkF m 191 #[.val (.int i0), .val (.int i1), .val (.long j2), .second, .val (.int i4), .val (.int i5), .val (.int (1 : Int32)), .val (.int (3 : Int32)), .val (.ref o8)] [(.int (3 : Int32)), (.int (1 : Int32)), (.int i5), (.int (2 : Int32)), (.ref o8)])) rfl (by rw [hml]; rfl) (argsL := [(.int i5), (.int (1 : Int32)), (.int (3 : Int32))]) (rest := [(.int (2 : Int32)), (.ref o8)]) (lenOf pd1 rfl) rfl (by show 2 * 0 + _ ≤ _; exact Nat.le_of_eq rfl) (hb hby at_191) (fun _ _ => ⟨rfl, e91, (by decide : 1 + 0 ≤ _), (by decide : 9 + 0 ≤ _)⟩)
      dsimp only [Pt.U, Pt.locs, Pt.cells, Pt.slots] at X93 l93 y93 z93 st93 hQ93
      subst l93 y93 z93
      obtain ⟨rfl, Nq93, e93⟩ := hQ93
      have N93 := Fr.app N91 Nq93
      refine own_step (T' := T93) (f' := (mkF m 194 #[.val (.int i0), .val (.int i1), .val (.long j2), .second, .val (.int i4), .val (.int i5), .val (.int (1 : Int32)), .val (.int (3 : Int32)), .val (.ref o8)] [(.int (f1_0 i5 (1 : Int32) (3 : Int32))), (.int (2 : Int32)), (.ref o8)])) st93 ?_
      obtain ⟨T94, h94, Lq94, X94, N94, e94, W94, Z94, Aq94, st94⟩ := own_stB X93 hx hZ e93 Ao8_91 (j := (2 : Int32)) (by decide) (k := 2) (by decide) (Nat.le_of_ble_eq_true rfl) N93 go8 Z91 (g := (mkF m 194 #[.val (.int i0), .val (.int i1), .val (.long j2), .second, .val (.int i4), .val (.int i5), .val (.int (1 : Int32)), .val (.int (3 : Int32)), .val (.ref o8)] [(.int (f1_0 i5 (1 : Int32) (3 : Int32))), (.int (2 : Int32)), (.ref o8)])) rfl rfl (hb hby at_194)
      have Ao8_94 : own_A Z h94 o8 .byte [(.int xo8_0), (.int (nar .byte (f1_0 i5 (0 : Int32) (3 : Int32)))), (.int (nar .byte (f1_0 i5 (1 : Int32) (3 : Int32)))), (.int xo8_3), (.int xo8_4), (.int xo8_5), (.int xo8_6), (.int xo8_7), (.int xo8_8)] := Aq94
      refine own_step (T' := T94) (f' := (mkF m 195 #[.val (.int i0), .val (.int i1), .val (.long j2), .second, .val (.int i4), .val (.int i5), .val (.int (1 : Int32)), .val (.int (3 : Int32)), .val (.ref o8)] [])) st94 ?_
      refine own_step (T' := T94) (f' := (mkF m 198 #[.val (.int i0), .val (.int i1), .val (.long j2), .second, .val (.int i4), .val (.int i5), .val (.int (1 : Int32)), .val (.int (3 : Int32)), .val (.ref o8)] [(.int (2 : Int32)), (.int (3 : Int32))])) (fun t kt => ?_) ?_
      · show Steps p.tables e below (T94.setTop (mkF m 195 #[.val (.int i0), .val (.int i1), .val (.long j2), .second, .val (.int i4), .val (.int i5), .val (.int (1 : Int32)), .val (.int (3 : Int32)), .val (.ref o8)] [])) _
        refine XS.iload X94.here hx rfl (hb hby at_195) rfl ?_
        show Steps p.tables e below (T94.setTop (mkF m 197 #[.val (.int i0), .val (.int i1), .val (.long j2), .second, .val (.int i4), .val (.int i5), .val (.int (1 : Int32)), .val (.int (3 : Int32)), .val (.ref o8)] [(.int (3 : Int32))])) _
        refine XS.iconst X94.here hx rfl (hb hby at_197) ?_
        exact kt
      refine own_step (T' := T94) (f' := (mkF m 201 #[.val (.int i0), .val (.int i1), .val (.long j2), .second, .val (.int i4), .val (.int i5), .val (.int (1 : Int32)), .val (.int (3 : Int32)), .val (.ref o8)] [])) (fun t kt => ?_) ?_
      · show Steps p.tables e below (T94.setTop (mkF m 198 #[.val (.int i0), .val (.int i1), .val (.long j2), .second, .val (.int i4), .val (.int i5), .val (.int (1 : Int32)), .val (.int (3 : Int32)), .val (.ref o8)] [(.int (2 : Int32)), (.int (3 : Int32))])) _
        refine XS.icmpNo X94.here hx rfl (hb hby at_198) rfl (tlt (by decide : ((2 : Int32) < (3 : Int32)))).2.2.2 kt
      refine own_step (T' := T94) (f' := (mkF m 212 #[.val (.int i0), .val (.int i1), .val (.long j2), .second, .val (.int i4), .val (.int i5), .val (.int (1 : Int32)), .val (.int (3 : Int32)), .val (.ref o8)] [(.int (3 : Int32)), (.int (2 : Int32)), (.int i5), (.int (3 : Int32)), (.ref o8)])) (fun t kt => ?_) ?_
      · show Steps p.tables e below (T94.setTop (mkF m 201 #[.val (.int i0), .val (.int i1), .val (.long j2), .second, .val (.int i4), .val (.int i5), .val (.int (1 : Int32)), .val (.int (3 : Int32)), .val (.ref o8)] [])) _
        refine XS.aload X94.here hx rfl (hb hby at_201) rfl rfl ?_
        show Steps p.tables e below (T94.setTop (mkF m 203 #[.val (.int i0), .val (.int i1), .val (.long j2), .second, .val (.int i4), .val (.int i5), .val (.int (1 : Int32)), .val (.int (3 : Int32)), .val (.ref o8)] [(.ref o8)])) _
        refine XS.iload X94.here hx rfl (hb hby at_203) rfl ?_
        show Steps p.tables e below (T94.setTop (mkF m 205 #[.val (.int i0), .val (.int i1), .val (.long j2), .second, .val (.int i4), .val (.int i5), .val (.int (1 : Int32)), .val (.int (3 : Int32)), .val (.ref o8)] [(.int (1 : Int32)), (.ref o8)])) _
        refine XS.iconst X94.here hx rfl (hb hby at_205) ?_
        show Steps p.tables e below (T94.setTop (mkF m 206 #[.val (.int i0), .val (.int i1), .val (.long j2), .second, .val (.int i4), .val (.int i5), .val (.int (1 : Int32)), .val (.int (3 : Int32)), .val (.ref o8)] [(.int (2 : Int32)), (.int (1 : Int32)), (.ref o8)])) _
        refine XS.iadd X94.here hx rfl (hb hby at_206) rfl ?_
        show Steps p.tables e below (T94.setTop (mkF m 207 #[.val (.int i0), .val (.int i1), .val (.long j2), .second, .val (.int i4), .val (.int i5), .val (.int (1 : Int32)), .val (.int (3 : Int32)), .val (.ref o8)] [(.int (3 : Int32)), (.ref o8)])) _
        refine XS.iload X94.here hx rfl (hb hby at_207) rfl ?_
        show Steps p.tables e below (T94.setTop (mkF m 209 #[.val (.int i0), .val (.int i1), .val (.long j2), .second, .val (.int i4), .val (.int i5), .val (.int (1 : Int32)), .val (.int (3 : Int32)), .val (.ref o8)] [(.int i5), (.int (3 : Int32)), (.ref o8)])) _
        refine XS.iconst X94.here hx rfl (hb hby at_209) ?_
        show Steps p.tables e below (T94.setTop (mkF m 210 #[.val (.int i0), .val (.int i1), .val (.long j2), .second, .val (.int i4), .val (.int i5), .val (.int (1 : Int32)), .val (.int (3 : Int32)), .val (.ref o8)] [(.int (2 : Int32)), (.int i5), (.int (3 : Int32)), (.ref o8)])) _
        refine XS.iload X94.here hx rfl (hb hby at_210) rfl ?_
        exact kt
      obtain ⟨_, _, ⟨T96, L96, k96, n96⟩, -, X96, ⟨Lc96, hQ96, l96, y96, z96⟩, st96⟩ := Jvm.LawKit.callS X94 hx (y := (⟨"hotstate/sort/VarIntsReadPinLaw", "enc", "(III)B"⟩ : MethodName)) hown (mvT hZ (hw _ (List.mem_of_getElem? (i := 2) rfl))) (mvT hZ (hw _ (List.mem_of_getElem? (i := 3) rfl))) (mvT hZ (hw _ (List.mem_of_getElem? (i := 4) rfl))) (mvT hZ (hw _ (List.mem_of_getElem? (i := 5) rfl))) (by decide) (backOf (W := 2) (rm1 l Z a0 hw [] i5 (2 : Int32) (3 : Int32)  h94 n0 ) hZ (hw _ (List.mem_of_getElem? (i := 5) rfl)) (hw _ (List.mem_of_getElem? (i := 4) rfl)) (by decide) (by decide)) (g := (mkF m 212 #[.val (.int i0), .val (.int i1), .val (.long j2), .second, .val (.int i4), .val (.int i5), .val (.int (1 : Int32)), .val (.int (3 : Int32)), .val (.ref o8)] [(.int (3 : Int32)), (.int (2 : Int32)), (.int i5), (.int (3 : Int32)), (.ref o8)])) rfl (by rw [hml]; rfl) (argsL := [(.int i5), (.int (2 : Int32)), (.int (3 : Int32))]) (rest := [(.int (3 : Int32)), (.ref o8)]) (lenOf pd1 rfl) rfl (by show 2 * 0 + _ ≤ _; exact Nat.le_of_eq rfl) (hb hby at_212) (fun _ _ => ⟨rfl, e94, (by decide : 1 + 0 ≤ _), (by decide : 9 + 0 ≤ _)⟩)
      dsimp only [Pt.U, Pt.locs, Pt.cells, Pt.slots] at X96 l96 y96 z96 st96 hQ96
      subst l96 y96 z96
      obtain ⟨rfl, Nq96, e96⟩ := hQ96
      have N96 := Fr.app N94 Nq96
      refine own_step (T' := T96) (f' := (mkF m 215 #[.val (.int i0), .val (.int i1), .val (.long j2), .second, .val (.int i4), .val (.int i5), .val (.int (1 : Int32)), .val (.int (3 : Int32)), .val (.ref o8)] [(.int (f1_0 i5 (2 : Int32) (3 : Int32))), (.int (3 : Int32)), (.ref o8)])) st96 ?_
      obtain ⟨T97, h97, Lq97, X97, N97, e97, W97, Z97, Aq97, st97⟩ := own_stB X96 hx hZ e96 Ao8_94 (j := (3 : Int32)) (by decide) (k := 3) (by decide) (Nat.le_of_ble_eq_true rfl) N96 go8 Z94 (g := (mkF m 215 #[.val (.int i0), .val (.int i1), .val (.long j2), .second, .val (.int i4), .val (.int i5), .val (.int (1 : Int32)), .val (.int (3 : Int32)), .val (.ref o8)] [(.int (f1_0 i5 (2 : Int32) (3 : Int32))), (.int (3 : Int32)), (.ref o8)])) rfl rfl (hb hby at_215)
      have Ao8_97 : own_A Z h97 o8 .byte [(.int xo8_0), (.int (nar .byte (f1_0 i5 (0 : Int32) (3 : Int32)))), (.int (nar .byte (f1_0 i5 (1 : Int32) (3 : Int32)))), (.int (nar .byte (f1_0 i5 (2 : Int32) (3 : Int32)))), (.int xo8_4), (.int xo8_5), (.int xo8_6), (.int xo8_7), (.int xo8_8)] := Aq97
      refine own_step (T' := T97) (f' := (mkF m 216 #[.val (.int i0), .val (.int i1), .val (.long j2), .second, .val (.int i4), .val (.int i5), .val (.int (1 : Int32)), .val (.int (3 : Int32)), .val (.ref o8)] [])) st97 ?_
      refine own_step (T' := T97) (f' := (mkF m 219 #[.val (.int i0), .val (.int i1), .val (.long j2), .second, .val (.int i4), .val (.int i5), .val (.int (1 : Int32)), .val (.int (3 : Int32)), .val (.ref o8)] [(.int (3 : Int32)), (.int (3 : Int32))])) (fun t kt => ?_) ?_
      · show Steps p.tables e below (T97.setTop (mkF m 216 #[.val (.int i0), .val (.int i1), .val (.long j2), .second, .val (.int i4), .val (.int i5), .val (.int (1 : Int32)), .val (.int (3 : Int32)), .val (.ref o8)] [])) _
        refine XS.iload X97.here hx rfl (hb hby at_216) rfl ?_
        show Steps p.tables e below (T97.setTop (mkF m 218 #[.val (.int i0), .val (.int i1), .val (.long j2), .second, .val (.int i4), .val (.int i5), .val (.int (1 : Int32)), .val (.int (3 : Int32)), .val (.ref o8)] [(.int (3 : Int32))])) _
        refine XS.iconst X97.here hx rfl (hb hby at_218) ?_
        exact kt
      refine own_step (T' := T97) (f' := (mkF m 237 #[.val (.int i0), .val (.int i1), .val (.long j2), .second, .val (.int i4), .val (.int i5), .val (.int (1 : Int32)), .val (.int (3 : Int32)), .val (.ref o8)] [])) (fun t kt => ?_) ?_
      · show Steps p.tables e below (T97.setTop (mkF m 219 #[.val (.int i0), .val (.int i1), .val (.long j2), .second, .val (.int i4), .val (.int i5), .val (.int (1 : Int32)), .val (.int (3 : Int32)), .val (.ref o8)] [(.int (3 : Int32)), (.int (3 : Int32))])) _
        refine XS.icmpYes X97.here hx rfl (pc0 := 219) (pc' := 237) rfl (hb hby at_219) rfl (flt (by decide : ¬ ((3 : Int32) < (3 : Int32)))).2.2.2 (by decide) (by decide) kt
      refine own_step (T' := T97) (f' := (mkF m 240 #[.val (.int i0), .val (.int i1), .val (.long j2), .second, .val (.int i4), .val (.int i5), .val (.int (1 : Int32)), .val (.int (3 : Int32)), .val (.ref o8)] [(.int (4 : Int32)), (.int (3 : Int32))])) (fun t kt => ?_) ?_
      · show Steps p.tables e below (T97.setTop (mkF m 237 #[.val (.int i0), .val (.int i1), .val (.long j2), .second, .val (.int i4), .val (.int i5), .val (.int (1 : Int32)), .val (.int (3 : Int32)), .val (.ref o8)] [])) _
        refine XS.iload X97.here hx rfl (hb hby at_237) rfl ?_
        show Steps p.tables e below (T97.setTop (mkF m 239 #[.val (.int i0), .val (.int i1), .val (.long j2), .second, .val (.int i4), .val (.int i5), .val (.int (1 : Int32)), .val (.int (3 : Int32)), .val (.ref o8)] [(.int (3 : Int32))])) _
        refine XS.iconst X97.here hx rfl (hb hby at_239) ?_
        exact kt
      refine own_step (T' := T97) (f' := (mkF m 258 #[.val (.int i0), .val (.int i1), .val (.long j2), .second, .val (.int i4), .val (.int i5), .val (.int (1 : Int32)), .val (.int (3 : Int32)), .val (.ref o8)] [])) (fun t kt => ?_) ?_
      · show Steps p.tables e below (T97.setTop (mkF m 240 #[.val (.int i0), .val (.int i1), .val (.long j2), .second, .val (.int i4), .val (.int i5), .val (.int (1 : Int32)), .val (.int (3 : Int32)), .val (.ref o8)] [(.int (4 : Int32)), (.int (3 : Int32))])) _
        refine XS.icmpYes X97.here hx rfl (pc0 := 240) (pc' := 258) rfl (hb hby at_240) rfl (flt (by decide : ¬ ((4 : Int32) < (3 : Int32)))).2.2.2 (by decide) (by decide) kt
      refine own_step (T' := T97) (f' := (mkF m 262 #[.val (.int i0), .val (.int i1), .val (.long j2), .second, .val (.int i4), .val (.int i5), .val (.int (1 : Int32)), .val (.int (3 : Int32)), .val (.ref o8)] [(.int (1 : Int32)), (.ref o8)])) (fun t kt => ?_) ?_
      · show Steps p.tables e below (T97.setTop (mkF m 258 #[.val (.int i0), .val (.int i1), .val (.long j2), .second, .val (.int i4), .val (.int i5), .val (.int (1 : Int32)), .val (.int (3 : Int32)), .val (.ref o8)] [])) _
        refine XS.aload X97.here hx rfl (hb hby at_258) rfl rfl ?_
        show Steps p.tables e below (T97.setTop (mkF m 260 #[.val (.int i0), .val (.int i1), .val (.long j2), .second, .val (.int i4), .val (.int i5), .val (.int (1 : Int32)), .val (.int (3 : Int32)), .val (.ref o8)] [(.ref o8)])) _
        refine XS.iload X97.here hx rfl (hb hby at_260) rfl ?_
        exact kt
      obtain ⟨_, _, ⟨T100, L100, k100, n100⟩, -, X100, ⟨Lc100, hQ100, l100, y100, z100⟩, st100⟩ := Jvm.LawKit.callS X97 hx (y := (⟨"hotstate/sort/VarInts", "read", "([BI)I"⟩ : MethodName)) hown (mvT hZ (hw _ (List.mem_of_getElem? (i := 6) rfl))) (mvT hZ (hw _ (List.mem_of_getElem? (i := 7) rfl))) (mvT hZ (hw _ (List.mem_of_getElem? (i := 8) rfl))) (mvT hZ (hw _ (List.mem_of_getElem? (i := 9) rfl))) (by decide) (backOf (W := 0) (rm2n3 l Z a0 hw [] o8 (1 : Int32) (nar .byte (f1_0 i5 (0 : Int32) (3 : Int32))) (nar .byte (f1_0 i5 (1 : Int32) (3 : Int32))) (nar .byte (f1_0 i5 (2 : Int32) (3 : Int32))) [(.int xo8_0), (.int (nar .byte (f1_0 i5 (0 : Int32) (3 : Int32)))), (.int (nar .byte (f1_0 i5 (1 : Int32) (3 : Int32)))), (.int (nar .byte (f1_0 i5 (2 : Int32) (3 : Int32)))), (.int xo8_4), (.int xo8_5), (.int xo8_6), (.int xo8_7), (.int xo8_8)] h97 n0 Ao8_97 (by decide) rfl rfl rfl (own_last3 i5)) hZ (hw _ (List.mem_of_getElem? (i := 9) rfl)) (hw _ (List.mem_of_getElem? (i := 8) rfl)) (by decide) (by decide)) (g := (mkF m 262 #[.val (.int i0), .val (.int i1), .val (.long j2), .second, .val (.int i4), .val (.int i5), .val (.int (1 : Int32)), .val (.int (3 : Int32)), .val (.ref o8)] [(.int (1 : Int32)), (.ref o8)])) rfl (by rw [hml]; rfl) (argsL := [(.ref o8), (.int (1 : Int32))]) (rest := []) (lenOf pd2 rfl) rfl (by show 2 * 0 + _ ≤ _; exact Nat.le_of_eq rfl) (hb hby at_262) (fun _ _ => ⟨rfl, e97, (by decide : 1 + 0 ≤ _), (by decide : 9 + 0 ≤ _)⟩)
      dsimp only [Pt.U, Pt.locs, Pt.cells, Pt.slots] at X100 l100 y100 z100 st100 hQ100
      subst l100 y100 z100
      obtain ⟨rfl, Nq100, e100⟩ := hQ100
      have N100 := Fr.app N97 Nq100
      refine own_step (T' := T100) (f' := (mkF m 265 #[.val (.int i0), .val (.int i1), .val (.long j2), .second, .val (.int i4), .val (.int i5), .val (.int (1 : Int32)), .val (.int (3 : Int32)), .val (.ref o8)] [(.int (f2n3_0 (1 : Int32) (nar .byte (f1_0 i5 (0 : Int32) (3 : Int32))) (nar .byte (f1_0 i5 (1 : Int32) (3 : Int32))) (nar .byte (f1_0 i5 (2 : Int32) (3 : Int32)))))])) st100 ?_
      refine own_step (T' := T100) (f' := (mkF m 267 #[.val (.int i0), .val (.int i1), .val (.long j2), .second, .val (.int i4), .val (.int i5), .val (.int (1 : Int32)), .val (.int (3 : Int32)), .val (.ref o8)] [(.int i5), (.int (f2n3_0 (1 : Int32) (nar .byte (f1_0 i5 (0 : Int32) (3 : Int32))) (nar .byte (f1_0 i5 (1 : Int32) (3 : Int32))) (nar .byte (f1_0 i5 (2 : Int32) (3 : Int32)))))])) (fun t kt => ?_) ?_
      · show Steps p.tables e below (T100.setTop (mkF m 265 #[.val (.int i0), .val (.int i1), .val (.long j2), .second, .val (.int i4), .val (.int i5), .val (.int (1 : Int32)), .val (.int (3 : Int32)), .val (.ref o8)] [(.int (f2n3_0 (1 : Int32) (nar .byte (f1_0 i5 (0 : Int32) (3 : Int32))) (nar .byte (f1_0 i5 (1 : Int32) (3 : Int32))) (nar .byte (f1_0 i5 (2 : Int32) (3 : Int32)))))])) _
        refine XS.iload X100.here hx rfl (hb hby at_265) rfl ?_
        exact kt
      by_cases hc267_101 : (f2n3_0 (1 : Int32) (nar .byte (f1_0 i5 (0 : Int32) (3 : Int32))) (nar .byte (f1_0 i5 (1 : Int32) (3 : Int32))) (nar .byte (f1_0 i5 (2 : Int32) (3 : Int32)))) = i5
      · replace hr := hr.trans (if_pos hc267_101)
        refine own_step (T' := T100) (f' := (mkF m 270 #[.val (.int i0), .val (.int i1), .val (.long j2), .second, .val (.int i4), .val (.int i5), .val (.int (1 : Int32)), .val (.int (3 : Int32)), .val (.ref o8)] [])) (fun t kt => ?_) ?_
        · show Steps p.tables e below (T100.setTop (mkF m 267 #[.val (.int i0), .val (.int i1), .val (.long j2), .second, .val (.int i4), .val (.int i5), .val (.int (1 : Int32)), .val (.int (3 : Int32)), .val (.ref o8)] [(.int i5), (.int (f2n3_0 (1 : Int32) (nar .byte (f1_0 i5 (0 : Int32) (3 : Int32))) (nar .byte (f1_0 i5 (1 : Int32) (3 : Int32))) (nar .byte (f1_0 i5 (2 : Int32) (3 : Int32)))))])) _
          refine XS.icmpNo X100.here hx rfl (hb hby at_267) rfl (teq hc267_101).2 kt
        refine own_step (T' := T100) (f' := (mkF m 275 #[.val (.int i0), .val (.int i1), .val (.long j2), .second, .val (.int i4), .val (.int i5), .val (.int (1 : Int32)), .val (.int (3 : Int32)), .val (.ref o8)] [(.int (1 : Int32))])) (fun t kt => ?_) ?_
        · show Steps p.tables e below (T100.setTop (mkF m 270 #[.val (.int i0), .val (.int i1), .val (.long j2), .second, .val (.int i4), .val (.int i5), .val (.int (1 : Int32)), .val (.int (3 : Int32)), .val (.ref o8)] [])) _
          refine XS.iconst X100.here hx rfl (hb hby at_270) ?_
          show Steps p.tables e below (T100.setTop (mkF m 271 #[.val (.int i0), .val (.int i1), .val (.long j2), .second, .val (.int i4), .val (.int i5), .val (.int (1 : Int32)), .val (.int (3 : Int32)), .val (.ref o8)] [(.int (1 : Int32))])) _
          refine XS.goto X100.here hx rfl (pc0 := 271) (pc' := 275) rfl (hb hby at_271) (by decide) (by decide) ?_
          exact kt
        exact own_retZ X100 hx hret (by simp) hlk (hb hby at_275) (by decide) (by decide) ⟨congrArg (fun z => some (Value.int z)) hr.symm, N100⟩
      · replace hr := hr.trans (if_neg hc267_101)
        refine own_step (T' := T100) (f' := (mkF m 274 #[.val (.int i0), .val (.int i1), .val (.long j2), .second, .val (.int i4), .val (.int i5), .val (.int (1 : Int32)), .val (.int (3 : Int32)), .val (.ref o8)] [])) (fun t kt => ?_) ?_
        · show Steps p.tables e below (T100.setTop (mkF m 267 #[.val (.int i0), .val (.int i1), .val (.long j2), .second, .val (.int i4), .val (.int i5), .val (.int (1 : Int32)), .val (.int (3 : Int32)), .val (.ref o8)] [(.int i5), (.int (f2n3_0 (1 : Int32) (nar .byte (f1_0 i5 (0 : Int32) (3 : Int32))) (nar .byte (f1_0 i5 (1 : Int32) (3 : Int32))) (nar .byte (f1_0 i5 (2 : Int32) (3 : Int32)))))])) _
          refine XS.icmpYes X100.here hx rfl (pc0 := 267) (pc' := 274) rfl (hb hby at_267) rfl (feq hc267_101).2 (by decide) (by decide) kt
        refine own_step (T' := T100) (f' := (mkF m 275 #[.val (.int i0), .val (.int i1), .val (.long j2), .second, .val (.int i4), .val (.int i5), .val (.int (1 : Int32)), .val (.int (3 : Int32)), .val (.ref o8)] [(.int (0 : Int32))])) (fun t kt => ?_) ?_
        · show Steps p.tables e below (T100.setTop (mkF m 274 #[.val (.int i0), .val (.int i1), .val (.long j2), .second, .val (.int i4), .val (.int i5), .val (.int (1 : Int32)), .val (.int (3 : Int32)), .val (.ref o8)] [])) _
          refine XS.iconst X100.here hx rfl (hb hby at_274) ?_
          exact kt
        exact own_retZ X100 hx hret (by simp) hlk (hb hby at_275) (by decide) (by decide) ⟨congrArg (fun z => some (Value.int z)) hr.symm, N100⟩
    · replace hr := hr.trans ((if_neg (by decide)).trans ((if_neg (by decide)).trans ((if_neg (by decide)).trans (if_pos rfl))))
      refine own_step (T' := T0) (f' := (mkF m 170 #[.val (.int i0), .val (.int i1), .val (.long j2), .second, .val (.int i4), .val (.int i5), .val (.int (1 : Int32)), .val (.int (4 : Int32)), .val (.ref o8)] [(.int (4 : Int32)), (.int (0 : Int32)), (.int i5), (.int (1 : Int32)), (.ref o8)])) (fun t kt => ?_) ?_
      · show Steps p.tables e below (T0.setTop (mkF m 161 #[.val (.int i0), .val (.int i1), .val (.long j2), .second, .val (.int i4), .val (.int i5), .val (.int (1 : Int32)), .val (.int (4 : Int32)), .val (.ref o8)] [])) _
        refine XS.aload X0.here hx rfl (hb hby at_161) rfl rfl ?_
        show Steps p.tables e below (T0.setTop (mkF m 163 #[.val (.int i0), .val (.int i1), .val (.long j2), .second, .val (.int i4), .val (.int i5), .val (.int (1 : Int32)), .val (.int (4 : Int32)), .val (.ref o8)] [(.ref o8)])) _
        refine XS.iload X0.here hx rfl (hb hby at_163) rfl ?_
        show Steps p.tables e below (T0.setTop (mkF m 165 #[.val (.int i0), .val (.int i1), .val (.long j2), .second, .val (.int i4), .val (.int i5), .val (.int (1 : Int32)), .val (.int (4 : Int32)), .val (.ref o8)] [(.int (1 : Int32)), (.ref o8)])) _
        refine XS.iload X0.here hx rfl (hb hby at_165) rfl ?_
        show Steps p.tables e below (T0.setTop (mkF m 167 #[.val (.int i0), .val (.int i1), .val (.long j2), .second, .val (.int i4), .val (.int i5), .val (.int (1 : Int32)), .val (.int (4 : Int32)), .val (.ref o8)] [(.int i5), (.int (1 : Int32)), (.ref o8)])) _
        refine XS.iconst X0.here hx rfl (hb hby at_167) ?_
        show Steps p.tables e below (T0.setTop (mkF m 168 #[.val (.int i0), .val (.int i1), .val (.long j2), .second, .val (.int i4), .val (.int i5), .val (.int (1 : Int32)), .val (.int (4 : Int32)), .val (.ref o8)] [(.int (0 : Int32)), (.int i5), (.int (1 : Int32)), (.ref o8)])) _
        refine XS.iload X0.here hx rfl (hb hby at_168) rfl ?_
        exact kt
      obtain ⟨_, _, ⟨T102, L102, k102, n102⟩, -, X102, ⟨Lc102, hQ102, l102, y102, z102⟩, st102⟩ := Jvm.LawKit.callS X0 hx (y := (⟨"hotstate/sort/VarIntsReadPinLaw", "enc", "(III)B"⟩ : MethodName)) hown (mvT hZ (hw _ (List.mem_of_getElem? (i := 2) rfl))) (mvT hZ (hw _ (List.mem_of_getElem? (i := 3) rfl))) (mvT hZ (hw _ (List.mem_of_getElem? (i := 4) rfl))) (mvT hZ (hw _ (List.mem_of_getElem? (i := 5) rfl))) (by decide) (backOf (W := 2) (rm1 l Z a0 hw [] i5 (0 : Int32) (4 : Int32)  h0 n0 ) hZ (hw _ (List.mem_of_getElem? (i := 5) rfl)) (hw _ (List.mem_of_getElem? (i := 4) rfl)) (by decide) (by decide)) (g := (mkF m 170 #[.val (.int i0), .val (.int i1), .val (.long j2), .second, .val (.int i4), .val (.int i5), .val (.int (1 : Int32)), .val (.int (4 : Int32)), .val (.ref o8)] [(.int (4 : Int32)), (.int (0 : Int32)), (.int i5), (.int (1 : Int32)), (.ref o8)])) rfl (by rw [hml]; rfl) (argsL := [(.int i5), (.int (0 : Int32)), (.int (4 : Int32))]) (rest := [(.int (1 : Int32)), (.ref o8)]) (lenOf pd1 rfl) rfl (by show 2 * 0 + _ ≤ _; exact Nat.le_of_eq rfl) (hb hby at_170) (fun _ _ => ⟨rfl, e0, (by decide : 1 + 0 ≤ _), (by decide : 9 + 0 ≤ _)⟩)
      dsimp only [Pt.U, Pt.locs, Pt.cells, Pt.slots] at X102 l102 y102 z102 st102 hQ102
      subst l102 y102 z102
      obtain ⟨rfl, Nq102, e102⟩ := hQ102
      have N102 := Fr.app N0 Nq102
      refine own_step (T' := T102) (f' := (mkF m 173 #[.val (.int i0), .val (.int i1), .val (.long j2), .second, .val (.int i4), .val (.int i5), .val (.int (1 : Int32)), .val (.int (4 : Int32)), .val (.ref o8)] [(.int (f1_0 i5 (0 : Int32) (4 : Int32))), (.int (1 : Int32)), (.ref o8)])) st102 ?_
      obtain ⟨T103, h103, Lq103, X103, N103, e103, W103, Z103, Aq103, st103⟩ := own_stB X102 hx hZ e102 Ao8 (j := (1 : Int32)) (by decide) (k := 1) (by decide) (Nat.le_of_ble_eq_true rfl) N102 go8 Z0 (g := (mkF m 173 #[.val (.int i0), .val (.int i1), .val (.long j2), .second, .val (.int i4), .val (.int i5), .val (.int (1 : Int32)), .val (.int (4 : Int32)), .val (.ref o8)] [(.int (f1_0 i5 (0 : Int32) (4 : Int32))), (.int (1 : Int32)), (.ref o8)])) rfl rfl (hb hby at_173)
      have Ao8_103 : own_A Z h103 o8 .byte [(.int xo8_0), (.int (nar .byte (f1_0 i5 (0 : Int32) (4 : Int32)))), (.int xo8_2), (.int xo8_3), (.int xo8_4), (.int xo8_5), (.int xo8_6), (.int xo8_7), (.int xo8_8)] := Aq103
      refine own_step (T' := T103) (f' := (mkF m 174 #[.val (.int i0), .val (.int i1), .val (.long j2), .second, .val (.int i4), .val (.int i5), .val (.int (1 : Int32)), .val (.int (4 : Int32)), .val (.ref o8)] [])) st103 ?_
      refine own_step (T' := T103) (f' := (mkF m 177 #[.val (.int i0), .val (.int i1), .val (.long j2), .second, .val (.int i4), .val (.int i5), .val (.int (1 : Int32)), .val (.int (4 : Int32)), .val (.ref o8)] [(.int (1 : Int32)), (.int (4 : Int32))])) (fun t kt => ?_) ?_
      · show Steps p.tables e below (T103.setTop (mkF m 174 #[.val (.int i0), .val (.int i1), .val (.long j2), .second, .val (.int i4), .val (.int i5), .val (.int (1 : Int32)), .val (.int (4 : Int32)), .val (.ref o8)] [])) _
        refine XS.iload X103.here hx rfl (hb hby at_174) rfl ?_
        show Steps p.tables e below (T103.setTop (mkF m 176 #[.val (.int i0), .val (.int i1), .val (.long j2), .second, .val (.int i4), .val (.int i5), .val (.int (1 : Int32)), .val (.int (4 : Int32)), .val (.ref o8)] [(.int (4 : Int32))])) _
        refine XS.iconst X103.here hx rfl (hb hby at_176) ?_
        exact kt
      refine own_step (T' := T103) (f' := (mkF m 180 #[.val (.int i0), .val (.int i1), .val (.long j2), .second, .val (.int i4), .val (.int i5), .val (.int (1 : Int32)), .val (.int (4 : Int32)), .val (.ref o8)] [])) (fun t kt => ?_) ?_
      · show Steps p.tables e below (T103.setTop (mkF m 177 #[.val (.int i0), .val (.int i1), .val (.long j2), .second, .val (.int i4), .val (.int i5), .val (.int (1 : Int32)), .val (.int (4 : Int32)), .val (.ref o8)] [(.int (1 : Int32)), (.int (4 : Int32))])) _
        refine XS.icmpNo X103.here hx rfl (hb hby at_177) rfl (tlt (by decide : ((1 : Int32) < (4 : Int32)))).2.2.2 kt
      refine own_step (T' := T103) (f' := (mkF m 191 #[.val (.int i0), .val (.int i1), .val (.long j2), .second, .val (.int i4), .val (.int i5), .val (.int (1 : Int32)), .val (.int (4 : Int32)), .val (.ref o8)] [(.int (4 : Int32)), (.int (1 : Int32)), (.int i5), (.int (2 : Int32)), (.ref o8)])) (fun t kt => ?_) ?_
      · show Steps p.tables e below (T103.setTop (mkF m 180 #[.val (.int i0), .val (.int i1), .val (.long j2), .second, .val (.int i4), .val (.int i5), .val (.int (1 : Int32)), .val (.int (4 : Int32)), .val (.ref o8)] [])) _
        refine XS.aload X103.here hx rfl (hb hby at_180) rfl rfl ?_
        show Steps p.tables e below (T103.setTop (mkF m 182 #[.val (.int i0), .val (.int i1), .val (.long j2), .second, .val (.int i4), .val (.int i5), .val (.int (1 : Int32)), .val (.int (4 : Int32)), .val (.ref o8)] [(.ref o8)])) _
        refine XS.iload X103.here hx rfl (hb hby at_182) rfl ?_
        show Steps p.tables e below (T103.setTop (mkF m 184 #[.val (.int i0), .val (.int i1), .val (.long j2), .second, .val (.int i4), .val (.int i5), .val (.int (1 : Int32)), .val (.int (4 : Int32)), .val (.ref o8)] [(.int (1 : Int32)), (.ref o8)])) _
        refine XS.iconst X103.here hx rfl (hb hby at_184) ?_
        show Steps p.tables e below (T103.setTop (mkF m 185 #[.val (.int i0), .val (.int i1), .val (.long j2), .second, .val (.int i4), .val (.int i5), .val (.int (1 : Int32)), .val (.int (4 : Int32)), .val (.ref o8)] [(.int (1 : Int32)), (.int (1 : Int32)), (.ref o8)])) _
        refine XS.iadd X103.here hx rfl (hb hby at_185) rfl ?_
        show Steps p.tables e below (T103.setTop (mkF m 186 #[.val (.int i0), .val (.int i1), .val (.long j2), .second, .val (.int i4), .val (.int i5), .val (.int (1 : Int32)), .val (.int (4 : Int32)), .val (.ref o8)] [(.int (2 : Int32)), (.ref o8)])) _
        refine XS.iload X103.here hx rfl (hb hby at_186) rfl ?_
        show Steps p.tables e below (T103.setTop (mkF m 188 #[.val (.int i0), .val (.int i1), .val (.long j2), .second, .val (.int i4), .val (.int i5), .val (.int (1 : Int32)), .val (.int (4 : Int32)), .val (.ref o8)] [(.int i5), (.int (2 : Int32)), (.ref o8)])) _
        refine XS.iconst X103.here hx rfl (hb hby at_188) ?_
        show Steps p.tables e below (T103.setTop (mkF m 189 #[.val (.int i0), .val (.int i1), .val (.long j2), .second, .val (.int i4), .val (.int i5), .val (.int (1 : Int32)), .val (.int (4 : Int32)), .val (.ref o8)] [(.int (1 : Int32)), (.int i5), (.int (2 : Int32)), (.ref o8)])) _
        refine XS.iload X103.here hx rfl (hb hby at_189) rfl ?_
        exact kt
      obtain ⟨_, _, ⟨T105, L105, k105, n105⟩, -, X105, ⟨Lc105, hQ105, l105, y105, z105⟩, st105⟩ := Jvm.LawKit.callS X103 hx (y := (⟨"hotstate/sort/VarIntsReadPinLaw", "enc", "(III)B"⟩ : MethodName)) hown (mvT hZ (hw _ (List.mem_of_getElem? (i := 2) rfl))) (mvT hZ (hw _ (List.mem_of_getElem? (i := 3) rfl))) (mvT hZ (hw _ (List.mem_of_getElem? (i := 4) rfl))) (mvT hZ (hw _ (List.mem_of_getElem? (i := 5) rfl))) (by decide) (backOf (W := 2) (rm1 l Z a0 hw [] i5 (1 : Int32) (4 : Int32)  h103 n0 ) hZ (hw _ (List.mem_of_getElem? (i := 5) rfl)) (hw _ (List.mem_of_getElem? (i := 4) rfl)) (by decide) (by decide)) (g := (mkF m 191 #[.val (.int i0), .val (.int i1), .val (.long j2), .second, .val (.int i4), .val (.int i5), .val (.int (1 : Int32)), .val (.int (4 : Int32)), .val (.ref o8)] [(.int (4 : Int32)), (.int (1 : Int32)), (.int i5), (.int (2 : Int32)), (.ref o8)])) rfl (by rw [hml]; rfl) (argsL := [(.int i5), (.int (1 : Int32)), (.int (4 : Int32))]) (rest := [(.int (2 : Int32)), (.ref o8)]) (lenOf pd1 rfl) rfl (by show 2 * 0 + _ ≤ _; exact Nat.le_of_eq rfl) (hb hby at_191) (fun _ _ => ⟨rfl, e103, (by decide : 1 + 0 ≤ _), (by decide : 9 + 0 ≤ _)⟩)
      dsimp only [Pt.U, Pt.locs, Pt.cells, Pt.slots] at X105 l105 y105 z105 st105 hQ105
      subst l105 y105 z105
      obtain ⟨rfl, Nq105, e105⟩ := hQ105
      have N105 := Fr.app N103 Nq105
      refine own_step (T' := T105) (f' := (mkF m 194 #[.val (.int i0), .val (.int i1), .val (.long j2), .second, .val (.int i4), .val (.int i5), .val (.int (1 : Int32)), .val (.int (4 : Int32)), .val (.ref o8)] [(.int (f1_0 i5 (1 : Int32) (4 : Int32))), (.int (2 : Int32)), (.ref o8)])) st105 ?_
      obtain ⟨T106, h106, Lq106, X106, N106, e106, W106, Z106, Aq106, st106⟩ := own_stB X105 hx hZ e105 Ao8_103 (j := (2 : Int32)) (by decide) (k := 2) (by decide) (Nat.le_of_ble_eq_true rfl) N105 go8 Z103 (g := (mkF m 194 #[.val (.int i0), .val (.int i1), .val (.long j2), .second, .val (.int i4), .val (.int i5), .val (.int (1 : Int32)), .val (.int (4 : Int32)), .val (.ref o8)] [(.int (f1_0 i5 (1 : Int32) (4 : Int32))), (.int (2 : Int32)), (.ref o8)])) rfl rfl (hb hby at_194)
      have Ao8_106 : own_A Z h106 o8 .byte [(.int xo8_0), (.int (nar .byte (f1_0 i5 (0 : Int32) (4 : Int32)))), (.int (nar .byte (f1_0 i5 (1 : Int32) (4 : Int32)))), (.int xo8_3), (.int xo8_4), (.int xo8_5), (.int xo8_6), (.int xo8_7), (.int xo8_8)] := Aq106
      refine own_step (T' := T106) (f' := (mkF m 195 #[.val (.int i0), .val (.int i1), .val (.long j2), .second, .val (.int i4), .val (.int i5), .val (.int (1 : Int32)), .val (.int (4 : Int32)), .val (.ref o8)] [])) st106 ?_
      refine own_step (T' := T106) (f' := (mkF m 198 #[.val (.int i0), .val (.int i1), .val (.long j2), .second, .val (.int i4), .val (.int i5), .val (.int (1 : Int32)), .val (.int (4 : Int32)), .val (.ref o8)] [(.int (2 : Int32)), (.int (4 : Int32))])) (fun t kt => ?_) ?_
      · show Steps p.tables e below (T106.setTop (mkF m 195 #[.val (.int i0), .val (.int i1), .val (.long j2), .second, .val (.int i4), .val (.int i5), .val (.int (1 : Int32)), .val (.int (4 : Int32)), .val (.ref o8)] [])) _
        refine XS.iload X106.here hx rfl (hb hby at_195) rfl ?_
        show Steps p.tables e below (T106.setTop (mkF m 197 #[.val (.int i0), .val (.int i1), .val (.long j2), .second, .val (.int i4), .val (.int i5), .val (.int (1 : Int32)), .val (.int (4 : Int32)), .val (.ref o8)] [(.int (4 : Int32))])) _
        refine XS.iconst X106.here hx rfl (hb hby at_197) ?_
        exact kt
      refine own_step (T' := T106) (f' := (mkF m 201 #[.val (.int i0), .val (.int i1), .val (.long j2), .second, .val (.int i4), .val (.int i5), .val (.int (1 : Int32)), .val (.int (4 : Int32)), .val (.ref o8)] [])) (fun t kt => ?_) ?_
      · show Steps p.tables e below (T106.setTop (mkF m 198 #[.val (.int i0), .val (.int i1), .val (.long j2), .second, .val (.int i4), .val (.int i5), .val (.int (1 : Int32)), .val (.int (4 : Int32)), .val (.ref o8)] [(.int (2 : Int32)), (.int (4 : Int32))])) _
        refine XS.icmpNo X106.here hx rfl (hb hby at_198) rfl (tlt (by decide : ((2 : Int32) < (4 : Int32)))).2.2.2 kt
      refine own_step (T' := T106) (f' := (mkF m 212 #[.val (.int i0), .val (.int i1), .val (.long j2), .second, .val (.int i4), .val (.int i5), .val (.int (1 : Int32)), .val (.int (4 : Int32)), .val (.ref o8)] [(.int (4 : Int32)), (.int (2 : Int32)), (.int i5), (.int (3 : Int32)), (.ref o8)])) (fun t kt => ?_) ?_
      · show Steps p.tables e below (T106.setTop (mkF m 201 #[.val (.int i0), .val (.int i1), .val (.long j2), .second, .val (.int i4), .val (.int i5), .val (.int (1 : Int32)), .val (.int (4 : Int32)), .val (.ref o8)] [])) _
        refine XS.aload X106.here hx rfl (hb hby at_201) rfl rfl ?_
        show Steps p.tables e below (T106.setTop (mkF m 203 #[.val (.int i0), .val (.int i1), .val (.long j2), .second, .val (.int i4), .val (.int i5), .val (.int (1 : Int32)), .val (.int (4 : Int32)), .val (.ref o8)] [(.ref o8)])) _
        refine XS.iload X106.here hx rfl (hb hby at_203) rfl ?_
        show Steps p.tables e below (T106.setTop (mkF m 205 #[.val (.int i0), .val (.int i1), .val (.long j2), .second, .val (.int i4), .val (.int i5), .val (.int (1 : Int32)), .val (.int (4 : Int32)), .val (.ref o8)] [(.int (1 : Int32)), (.ref o8)])) _
        refine XS.iconst X106.here hx rfl (hb hby at_205) ?_
        show Steps p.tables e below (T106.setTop (mkF m 206 #[.val (.int i0), .val (.int i1), .val (.long j2), .second, .val (.int i4), .val (.int i5), .val (.int (1 : Int32)), .val (.int (4 : Int32)), .val (.ref o8)] [(.int (2 : Int32)), (.int (1 : Int32)), (.ref o8)])) _
        refine XS.iadd X106.here hx rfl (hb hby at_206) rfl ?_
        show Steps p.tables e below (T106.setTop (mkF m 207 #[.val (.int i0), .val (.int i1), .val (.long j2), .second, .val (.int i4), .val (.int i5), .val (.int (1 : Int32)), .val (.int (4 : Int32)), .val (.ref o8)] [(.int (3 : Int32)), (.ref o8)])) _
        refine XS.iload X106.here hx rfl (hb hby at_207) rfl ?_
        show Steps p.tables e below (T106.setTop (mkF m 209 #[.val (.int i0), .val (.int i1), .val (.long j2), .second, .val (.int i4), .val (.int i5), .val (.int (1 : Int32)), .val (.int (4 : Int32)), .val (.ref o8)] [(.int i5), (.int (3 : Int32)), (.ref o8)])) _
        refine XS.iconst X106.here hx rfl (hb hby at_209) ?_
        show Steps p.tables e below (T106.setTop (mkF m 210 #[.val (.int i0), .val (.int i1), .val (.long j2), .second, .val (.int i4), .val (.int i5), .val (.int (1 : Int32)), .val (.int (4 : Int32)), .val (.ref o8)] [(.int (2 : Int32)), (.int i5), (.int (3 : Int32)), (.ref o8)])) _
        refine XS.iload X106.here hx rfl (hb hby at_210) rfl ?_
        exact kt
      obtain ⟨_, _, ⟨T108, L108, k108, n108⟩, -, X108, ⟨Lc108, hQ108, l108, y108, z108⟩, st108⟩ := Jvm.LawKit.callS X106 hx (y := (⟨"hotstate/sort/VarIntsReadPinLaw", "enc", "(III)B"⟩ : MethodName)) hown (mvT hZ (hw _ (List.mem_of_getElem? (i := 2) rfl))) (mvT hZ (hw _ (List.mem_of_getElem? (i := 3) rfl))) (mvT hZ (hw _ (List.mem_of_getElem? (i := 4) rfl))) (mvT hZ (hw _ (List.mem_of_getElem? (i := 5) rfl))) (by decide) (backOf (W := 2) (rm1 l Z a0 hw [] i5 (2 : Int32) (4 : Int32)  h106 n0 ) hZ (hw _ (List.mem_of_getElem? (i := 5) rfl)) (hw _ (List.mem_of_getElem? (i := 4) rfl)) (by decide) (by decide)) (g := (mkF m 212 #[.val (.int i0), .val (.int i1), .val (.long j2), .second, .val (.int i4), .val (.int i5), .val (.int (1 : Int32)), .val (.int (4 : Int32)), .val (.ref o8)] [(.int (4 : Int32)), (.int (2 : Int32)), (.int i5), (.int (3 : Int32)), (.ref o8)])) rfl (by rw [hml]; rfl) (argsL := [(.int i5), (.int (2 : Int32)), (.int (4 : Int32))]) (rest := [(.int (3 : Int32)), (.ref o8)]) (lenOf pd1 rfl) rfl (by show 2 * 0 + _ ≤ _; exact Nat.le_of_eq rfl) (hb hby at_212) (fun _ _ => ⟨rfl, e106, (by decide : 1 + 0 ≤ _), (by decide : 9 + 0 ≤ _)⟩)
      dsimp only [Pt.U, Pt.locs, Pt.cells, Pt.slots] at X108 l108 y108 z108 st108 hQ108
      subst l108 y108 z108
      obtain ⟨rfl, Nq108, e108⟩ := hQ108
      have N108 := Fr.app N106 Nq108
      refine own_step (T' := T108) (f' := (mkF m 215 #[.val (.int i0), .val (.int i1), .val (.long j2), .second, .val (.int i4), .val (.int i5), .val (.int (1 : Int32)), .val (.int (4 : Int32)), .val (.ref o8)] [(.int (f1_0 i5 (2 : Int32) (4 : Int32))), (.int (3 : Int32)), (.ref o8)])) st108 ?_
      obtain ⟨T109, h109, Lq109, X109, N109, e109, W109, Z109, Aq109, st109⟩ := own_stB X108 hx hZ e108 Ao8_106 (j := (3 : Int32)) (by decide) (k := 3) (by decide) (Nat.le_of_ble_eq_true rfl) N108 go8 Z106 (g := (mkF m 215 #[.val (.int i0), .val (.int i1), .val (.long j2), .second, .val (.int i4), .val (.int i5), .val (.int (1 : Int32)), .val (.int (4 : Int32)), .val (.ref o8)] [(.int (f1_0 i5 (2 : Int32) (4 : Int32))), (.int (3 : Int32)), (.ref o8)])) rfl rfl (hb hby at_215)
      have Ao8_109 : own_A Z h109 o8 .byte [(.int xo8_0), (.int (nar .byte (f1_0 i5 (0 : Int32) (4 : Int32)))), (.int (nar .byte (f1_0 i5 (1 : Int32) (4 : Int32)))), (.int (nar .byte (f1_0 i5 (2 : Int32) (4 : Int32)))), (.int xo8_4), (.int xo8_5), (.int xo8_6), (.int xo8_7), (.int xo8_8)] := Aq109
      refine own_step (T' := T109) (f' := (mkF m 216 #[.val (.int i0), .val (.int i1), .val (.long j2), .second, .val (.int i4), .val (.int i5), .val (.int (1 : Int32)), .val (.int (4 : Int32)), .val (.ref o8)] [])) st109 ?_
      refine own_step (T' := T109) (f' := (mkF m 219 #[.val (.int i0), .val (.int i1), .val (.long j2), .second, .val (.int i4), .val (.int i5), .val (.int (1 : Int32)), .val (.int (4 : Int32)), .val (.ref o8)] [(.int (3 : Int32)), (.int (4 : Int32))])) (fun t kt => ?_) ?_
      · show Steps p.tables e below (T109.setTop (mkF m 216 #[.val (.int i0), .val (.int i1), .val (.long j2), .second, .val (.int i4), .val (.int i5), .val (.int (1 : Int32)), .val (.int (4 : Int32)), .val (.ref o8)] [])) _
        refine XS.iload X109.here hx rfl (hb hby at_216) rfl ?_
        show Steps p.tables e below (T109.setTop (mkF m 218 #[.val (.int i0), .val (.int i1), .val (.long j2), .second, .val (.int i4), .val (.int i5), .val (.int (1 : Int32)), .val (.int (4 : Int32)), .val (.ref o8)] [(.int (4 : Int32))])) _
        refine XS.iconst X109.here hx rfl (hb hby at_218) ?_
        exact kt
      refine own_step (T' := T109) (f' := (mkF m 222 #[.val (.int i0), .val (.int i1), .val (.long j2), .second, .val (.int i4), .val (.int i5), .val (.int (1 : Int32)), .val (.int (4 : Int32)), .val (.ref o8)] [])) (fun t kt => ?_) ?_
      · show Steps p.tables e below (T109.setTop (mkF m 219 #[.val (.int i0), .val (.int i1), .val (.long j2), .second, .val (.int i4), .val (.int i5), .val (.int (1 : Int32)), .val (.int (4 : Int32)), .val (.ref o8)] [(.int (3 : Int32)), (.int (4 : Int32))])) _
        refine XS.icmpNo X109.here hx rfl (hb hby at_219) rfl (tlt (by decide : ((3 : Int32) < (4 : Int32)))).2.2.2 kt
      refine own_step (T' := T109) (f' := (mkF m 233 #[.val (.int i0), .val (.int i1), .val (.long j2), .second, .val (.int i4), .val (.int i5), .val (.int (1 : Int32)), .val (.int (4 : Int32)), .val (.ref o8)] [(.int (4 : Int32)), (.int (3 : Int32)), (.int i5), (.int (4 : Int32)), (.ref o8)])) (fun t kt => ?_) ?_
      · show Steps p.tables e below (T109.setTop (mkF m 222 #[.val (.int i0), .val (.int i1), .val (.long j2), .second, .val (.int i4), .val (.int i5), .val (.int (1 : Int32)), .val (.int (4 : Int32)), .val (.ref o8)] [])) _
        refine XS.aload X109.here hx rfl (hb hby at_222) rfl rfl ?_
        show Steps p.tables e below (T109.setTop (mkF m 224 #[.val (.int i0), .val (.int i1), .val (.long j2), .second, .val (.int i4), .val (.int i5), .val (.int (1 : Int32)), .val (.int (4 : Int32)), .val (.ref o8)] [(.ref o8)])) _
        refine XS.iload X109.here hx rfl (hb hby at_224) rfl ?_
        show Steps p.tables e below (T109.setTop (mkF m 226 #[.val (.int i0), .val (.int i1), .val (.long j2), .second, .val (.int i4), .val (.int i5), .val (.int (1 : Int32)), .val (.int (4 : Int32)), .val (.ref o8)] [(.int (1 : Int32)), (.ref o8)])) _
        refine XS.iconst X109.here hx rfl (hb hby at_226) ?_
        show Steps p.tables e below (T109.setTop (mkF m 227 #[.val (.int i0), .val (.int i1), .val (.long j2), .second, .val (.int i4), .val (.int i5), .val (.int (1 : Int32)), .val (.int (4 : Int32)), .val (.ref o8)] [(.int (3 : Int32)), (.int (1 : Int32)), (.ref o8)])) _
        refine XS.iadd X109.here hx rfl (hb hby at_227) rfl ?_
        show Steps p.tables e below (T109.setTop (mkF m 228 #[.val (.int i0), .val (.int i1), .val (.long j2), .second, .val (.int i4), .val (.int i5), .val (.int (1 : Int32)), .val (.int (4 : Int32)), .val (.ref o8)] [(.int (4 : Int32)), (.ref o8)])) _
        refine XS.iload X109.here hx rfl (hb hby at_228) rfl ?_
        show Steps p.tables e below (T109.setTop (mkF m 230 #[.val (.int i0), .val (.int i1), .val (.long j2), .second, .val (.int i4), .val (.int i5), .val (.int (1 : Int32)), .val (.int (4 : Int32)), .val (.ref o8)] [(.int i5), (.int (4 : Int32)), (.ref o8)])) _
        refine XS.iconst X109.here hx rfl (hb hby at_230) ?_
        show Steps p.tables e below (T109.setTop (mkF m 231 #[.val (.int i0), .val (.int i1), .val (.long j2), .second, .val (.int i4), .val (.int i5), .val (.int (1 : Int32)), .val (.int (4 : Int32)), .val (.ref o8)] [(.int (3 : Int32)), (.int i5), (.int (4 : Int32)), (.ref o8)])) _
        refine XS.iload X109.here hx rfl (hb hby at_231) rfl ?_
        exact kt
      obtain ⟨_, _, ⟨T111, L111, k111, n111⟩, -, X111, ⟨Lc111, hQ111, l111, y111, z111⟩, st111⟩ := Jvm.LawKit.callS X109 hx (y := (⟨"hotstate/sort/VarIntsReadPinLaw", "enc", "(III)B"⟩ : MethodName)) hown (mvT hZ (hw _ (List.mem_of_getElem? (i := 2) rfl))) (mvT hZ (hw _ (List.mem_of_getElem? (i := 3) rfl))) (mvT hZ (hw _ (List.mem_of_getElem? (i := 4) rfl))) (mvT hZ (hw _ (List.mem_of_getElem? (i := 5) rfl))) (by decide) (backOf (W := 2) (rm1 l Z a0 hw [] i5 (3 : Int32) (4 : Int32)  h109 n0 ) hZ (hw _ (List.mem_of_getElem? (i := 5) rfl)) (hw _ (List.mem_of_getElem? (i := 4) rfl)) (by decide) (by decide)) (g := (mkF m 233 #[.val (.int i0), .val (.int i1), .val (.long j2), .second, .val (.int i4), .val (.int i5), .val (.int (1 : Int32)), .val (.int (4 : Int32)), .val (.ref o8)] [(.int (4 : Int32)), (.int (3 : Int32)), (.int i5), (.int (4 : Int32)), (.ref o8)])) rfl (by rw [hml]; rfl) (argsL := [(.int i5), (.int (3 : Int32)), (.int (4 : Int32))]) (rest := [(.int (4 : Int32)), (.ref o8)]) (lenOf pd1 rfl) rfl (by show 2 * 0 + _ ≤ _; exact Nat.le_of_eq rfl) (hb hby at_233) (fun _ _ => ⟨rfl, e109, (by decide : 1 + 0 ≤ _), (by decide : 9 + 0 ≤ _)⟩)
      dsimp only [Pt.U, Pt.locs, Pt.cells, Pt.slots] at X111 l111 y111 z111 st111 hQ111
      subst l111 y111 z111
      obtain ⟨rfl, Nq111, e111⟩ := hQ111
      have N111 := Fr.app N109 Nq111
      refine own_step (T' := T111) (f' := (mkF m 236 #[.val (.int i0), .val (.int i1), .val (.long j2), .second, .val (.int i4), .val (.int i5), .val (.int (1 : Int32)), .val (.int (4 : Int32)), .val (.ref o8)] [(.int (f1_0 i5 (3 : Int32) (4 : Int32))), (.int (4 : Int32)), (.ref o8)])) st111 ?_
      obtain ⟨T112, h112, Lq112, X112, N112, e112, W112, Z112, Aq112, st112⟩ := own_stB X111 hx hZ e111 Ao8_109 (j := (4 : Int32)) (by decide) (k := 4) (by decide) (Nat.le_of_ble_eq_true rfl) N111 go8 Z109 (g := (mkF m 236 #[.val (.int i0), .val (.int i1), .val (.long j2), .second, .val (.int i4), .val (.int i5), .val (.int (1 : Int32)), .val (.int (4 : Int32)), .val (.ref o8)] [(.int (f1_0 i5 (3 : Int32) (4 : Int32))), (.int (4 : Int32)), (.ref o8)])) rfl rfl (hb hby at_236)
      have Ao8_112 : own_A Z h112 o8 .byte [(.int xo8_0), (.int (nar .byte (f1_0 i5 (0 : Int32) (4 : Int32)))), (.int (nar .byte (f1_0 i5 (1 : Int32) (4 : Int32)))), (.int (nar .byte (f1_0 i5 (2 : Int32) (4 : Int32)))), (.int (nar .byte (f1_0 i5 (3 : Int32) (4 : Int32)))), (.int xo8_5), (.int xo8_6), (.int xo8_7), (.int xo8_8)] := Aq112
      refine own_step (T' := T112) (f' := (mkF m 237 #[.val (.int i0), .val (.int i1), .val (.long j2), .second, .val (.int i4), .val (.int i5), .val (.int (1 : Int32)), .val (.int (4 : Int32)), .val (.ref o8)] [])) st112 ?_
      refine own_step (T' := T112) (f' := (mkF m 240 #[.val (.int i0), .val (.int i1), .val (.long j2), .second, .val (.int i4), .val (.int i5), .val (.int (1 : Int32)), .val (.int (4 : Int32)), .val (.ref o8)] [(.int (4 : Int32)), (.int (4 : Int32))])) (fun t kt => ?_) ?_
      · show Steps p.tables e below (T112.setTop (mkF m 237 #[.val (.int i0), .val (.int i1), .val (.long j2), .second, .val (.int i4), .val (.int i5), .val (.int (1 : Int32)), .val (.int (4 : Int32)), .val (.ref o8)] [])) _
        refine XS.iload X112.here hx rfl (hb hby at_237) rfl ?_
        show Steps p.tables e below (T112.setTop (mkF m 239 #[.val (.int i0), .val (.int i1), .val (.long j2), .second, .val (.int i4), .val (.int i5), .val (.int (1 : Int32)), .val (.int (4 : Int32)), .val (.ref o8)] [(.int (4 : Int32))])) _
        refine XS.iconst X112.here hx rfl (hb hby at_239) ?_
        exact kt
      refine own_step (T' := T112) (f' := (mkF m 258 #[.val (.int i0), .val (.int i1), .val (.long j2), .second, .val (.int i4), .val (.int i5), .val (.int (1 : Int32)), .val (.int (4 : Int32)), .val (.ref o8)] [])) (fun t kt => ?_) ?_
      · show Steps p.tables e below (T112.setTop (mkF m 240 #[.val (.int i0), .val (.int i1), .val (.long j2), .second, .val (.int i4), .val (.int i5), .val (.int (1 : Int32)), .val (.int (4 : Int32)), .val (.ref o8)] [(.int (4 : Int32)), (.int (4 : Int32))])) _
        refine XS.icmpYes X112.here hx rfl (pc0 := 240) (pc' := 258) rfl (hb hby at_240) rfl (flt (by decide : ¬ ((4 : Int32) < (4 : Int32)))).2.2.2 (by decide) (by decide) kt
      refine own_step (T' := T112) (f' := (mkF m 262 #[.val (.int i0), .val (.int i1), .val (.long j2), .second, .val (.int i4), .val (.int i5), .val (.int (1 : Int32)), .val (.int (4 : Int32)), .val (.ref o8)] [(.int (1 : Int32)), (.ref o8)])) (fun t kt => ?_) ?_
      · show Steps p.tables e below (T112.setTop (mkF m 258 #[.val (.int i0), .val (.int i1), .val (.long j2), .second, .val (.int i4), .val (.int i5), .val (.int (1 : Int32)), .val (.int (4 : Int32)), .val (.ref o8)] [])) _
        refine XS.aload X112.here hx rfl (hb hby at_258) rfl rfl ?_
        show Steps p.tables e below (T112.setTop (mkF m 260 #[.val (.int i0), .val (.int i1), .val (.long j2), .second, .val (.int i4), .val (.int i5), .val (.int (1 : Int32)), .val (.int (4 : Int32)), .val (.ref o8)] [(.ref o8)])) _
        refine XS.iload X112.here hx rfl (hb hby at_260) rfl ?_
        exact kt
      obtain ⟨_, _, ⟨T114, L114, k114, n114⟩, -, X114, ⟨Lc114, hQ114, l114, y114, z114⟩, st114⟩ := Jvm.LawKit.callS X112 hx (y := (⟨"hotstate/sort/VarInts", "read", "([BI)I"⟩ : MethodName)) hown (mvT hZ (hw _ (List.mem_of_getElem? (i := 6) rfl))) (mvT hZ (hw _ (List.mem_of_getElem? (i := 7) rfl))) (mvT hZ (hw _ (List.mem_of_getElem? (i := 8) rfl))) (mvT hZ (hw _ (List.mem_of_getElem? (i := 9) rfl))) (by decide) (backOf (W := 0) (rm2n4 l Z a0 hw [] o8 (1 : Int32) (nar .byte (f1_0 i5 (0 : Int32) (4 : Int32))) (nar .byte (f1_0 i5 (1 : Int32) (4 : Int32))) (nar .byte (f1_0 i5 (2 : Int32) (4 : Int32))) (nar .byte (f1_0 i5 (3 : Int32) (4 : Int32))) [(.int xo8_0), (.int (nar .byte (f1_0 i5 (0 : Int32) (4 : Int32)))), (.int (nar .byte (f1_0 i5 (1 : Int32) (4 : Int32)))), (.int (nar .byte (f1_0 i5 (2 : Int32) (4 : Int32)))), (.int (nar .byte (f1_0 i5 (3 : Int32) (4 : Int32)))), (.int xo8_5), (.int xo8_6), (.int xo8_7), (.int xo8_8)] h112 n0 Ao8_112 (by decide) rfl rfl rfl rfl (own_last4 i5)) hZ (hw _ (List.mem_of_getElem? (i := 9) rfl)) (hw _ (List.mem_of_getElem? (i := 8) rfl)) (by decide) (by decide)) (g := (mkF m 262 #[.val (.int i0), .val (.int i1), .val (.long j2), .second, .val (.int i4), .val (.int i5), .val (.int (1 : Int32)), .val (.int (4 : Int32)), .val (.ref o8)] [(.int (1 : Int32)), (.ref o8)])) rfl (by rw [hml]; rfl) (argsL := [(.ref o8), (.int (1 : Int32))]) (rest := []) (lenOf pd2 rfl) rfl (by show 2 * 0 + _ ≤ _; exact Nat.le_of_eq rfl) (hb hby at_262) (fun _ _ => ⟨rfl, e112, (by decide : 1 + 0 ≤ _), (by decide : 9 + 0 ≤ _)⟩)
      dsimp only [Pt.U, Pt.locs, Pt.cells, Pt.slots] at X114 l114 y114 z114 st114 hQ114
      subst l114 y114 z114
      obtain ⟨rfl, Nq114, e114⟩ := hQ114
      have N114 := Fr.app N112 Nq114
      refine own_step (T' := T114) (f' := (mkF m 265 #[.val (.int i0), .val (.int i1), .val (.long j2), .second, .val (.int i4), .val (.int i5), .val (.int (1 : Int32)), .val (.int (4 : Int32)), .val (.ref o8)] [(.int (f2n4_0 (1 : Int32) (nar .byte (f1_0 i5 (0 : Int32) (4 : Int32))) (nar .byte (f1_0 i5 (1 : Int32) (4 : Int32))) (nar .byte (f1_0 i5 (2 : Int32) (4 : Int32))) (nar .byte (f1_0 i5 (3 : Int32) (4 : Int32)))))])) st114 ?_
      refine own_step (T' := T114) (f' := (mkF m 267 #[.val (.int i0), .val (.int i1), .val (.long j2), .second, .val (.int i4), .val (.int i5), .val (.int (1 : Int32)), .val (.int (4 : Int32)), .val (.ref o8)] [(.int i5), (.int (f2n4_0 (1 : Int32) (nar .byte (f1_0 i5 (0 : Int32) (4 : Int32))) (nar .byte (f1_0 i5 (1 : Int32) (4 : Int32))) (nar .byte (f1_0 i5 (2 : Int32) (4 : Int32))) (nar .byte (f1_0 i5 (3 : Int32) (4 : Int32)))))])) (fun t kt => ?_) ?_
      · show Steps p.tables e below (T114.setTop (mkF m 265 #[.val (.int i0), .val (.int i1), .val (.long j2), .second, .val (.int i4), .val (.int i5), .val (.int (1 : Int32)), .val (.int (4 : Int32)), .val (.ref o8)] [(.int (f2n4_0 (1 : Int32) (nar .byte (f1_0 i5 (0 : Int32) (4 : Int32))) (nar .byte (f1_0 i5 (1 : Int32) (4 : Int32))) (nar .byte (f1_0 i5 (2 : Int32) (4 : Int32))) (nar .byte (f1_0 i5 (3 : Int32) (4 : Int32)))))])) _
        refine XS.iload X114.here hx rfl (hb hby at_265) rfl ?_
        exact kt
      by_cases hc267_115 : (f2n4_0 (1 : Int32) (nar .byte (f1_0 i5 (0 : Int32) (4 : Int32))) (nar .byte (f1_0 i5 (1 : Int32) (4 : Int32))) (nar .byte (f1_0 i5 (2 : Int32) (4 : Int32))) (nar .byte (f1_0 i5 (3 : Int32) (4 : Int32)))) = i5
      · replace hr := hr.trans (if_pos hc267_115)
        refine own_step (T' := T114) (f' := (mkF m 270 #[.val (.int i0), .val (.int i1), .val (.long j2), .second, .val (.int i4), .val (.int i5), .val (.int (1 : Int32)), .val (.int (4 : Int32)), .val (.ref o8)] [])) (fun t kt => ?_) ?_
        · show Steps p.tables e below (T114.setTop (mkF m 267 #[.val (.int i0), .val (.int i1), .val (.long j2), .second, .val (.int i4), .val (.int i5), .val (.int (1 : Int32)), .val (.int (4 : Int32)), .val (.ref o8)] [(.int i5), (.int (f2n4_0 (1 : Int32) (nar .byte (f1_0 i5 (0 : Int32) (4 : Int32))) (nar .byte (f1_0 i5 (1 : Int32) (4 : Int32))) (nar .byte (f1_0 i5 (2 : Int32) (4 : Int32))) (nar .byte (f1_0 i5 (3 : Int32) (4 : Int32)))))])) _
          refine XS.icmpNo X114.here hx rfl (hb hby at_267) rfl (teq hc267_115).2 kt
        refine own_step (T' := T114) (f' := (mkF m 275 #[.val (.int i0), .val (.int i1), .val (.long j2), .second, .val (.int i4), .val (.int i5), .val (.int (1 : Int32)), .val (.int (4 : Int32)), .val (.ref o8)] [(.int (1 : Int32))])) (fun t kt => ?_) ?_
        · show Steps p.tables e below (T114.setTop (mkF m 270 #[.val (.int i0), .val (.int i1), .val (.long j2), .second, .val (.int i4), .val (.int i5), .val (.int (1 : Int32)), .val (.int (4 : Int32)), .val (.ref o8)] [])) _
          refine XS.iconst X114.here hx rfl (hb hby at_270) ?_
          show Steps p.tables e below (T114.setTop (mkF m 271 #[.val (.int i0), .val (.int i1), .val (.long j2), .second, .val (.int i4), .val (.int i5), .val (.int (1 : Int32)), .val (.int (4 : Int32)), .val (.ref o8)] [(.int (1 : Int32))])) _
          refine XS.goto X114.here hx rfl (pc0 := 271) (pc' := 275) rfl (hb hby at_271) (by decide) (by decide) ?_
          exact kt
        exact own_retZ X114 hx hret (by simp) hlk (hb hby at_275) (by decide) (by decide) ⟨congrArg (fun z => some (Value.int z)) hr.symm, N114⟩
      · replace hr := hr.trans (if_neg hc267_115)
        refine own_step (T' := T114) (f' := (mkF m 274 #[.val (.int i0), .val (.int i1), .val (.long j2), .second, .val (.int i4), .val (.int i5), .val (.int (1 : Int32)), .val (.int (4 : Int32)), .val (.ref o8)] [])) (fun t kt => ?_) ?_
        · show Steps p.tables e below (T114.setTop (mkF m 267 #[.val (.int i0), .val (.int i1), .val (.long j2), .second, .val (.int i4), .val (.int i5), .val (.int (1 : Int32)), .val (.int (4 : Int32)), .val (.ref o8)] [(.int i5), (.int (f2n4_0 (1 : Int32) (nar .byte (f1_0 i5 (0 : Int32) (4 : Int32))) (nar .byte (f1_0 i5 (1 : Int32) (4 : Int32))) (nar .byte (f1_0 i5 (2 : Int32) (4 : Int32))) (nar .byte (f1_0 i5 (3 : Int32) (4 : Int32)))))])) _
          refine XS.icmpYes X114.here hx rfl (pc0 := 267) (pc' := 274) rfl (hb hby at_267) rfl (feq hc267_115).2 (by decide) (by decide) kt
        refine own_step (T' := T114) (f' := (mkF m 275 #[.val (.int i0), .val (.int i1), .val (.long j2), .second, .val (.int i4), .val (.int i5), .val (.int (1 : Int32)), .val (.int (4 : Int32)), .val (.ref o8)] [(.int (0 : Int32))])) (fun t kt => ?_) ?_
        · show Steps p.tables e below (T114.setTop (mkF m 274 #[.val (.int i0), .val (.int i1), .val (.long j2), .second, .val (.int i4), .val (.int i5), .val (.int (1 : Int32)), .val (.int (4 : Int32)), .val (.ref o8)] [])) _
          refine XS.iconst X114.here hx rfl (hb hby at_274) ?_
          exact kt
        exact own_retZ X114 hx hret (by simp) hlk (hb hby at_275) (by decide) (by decide) ⟨congrArg (fun z => some (Value.int z)) hr.symm, N114⟩
    · replace hr := hr.trans ((if_neg (by decide)).trans ((if_neg (by decide)).trans ((if_neg (by decide)).trans ((if_neg (by decide)).trans (if_pos rfl)))))
      refine own_step (T' := T0) (f' := (mkF m 170 #[.val (.int i0), .val (.int i1), .val (.long j2), .second, .val (.int i4), .val (.int i5), .val (.int (1 : Int32)), .val (.int (5 : Int32)), .val (.ref o8)] [(.int (5 : Int32)), (.int (0 : Int32)), (.int i5), (.int (1 : Int32)), (.ref o8)])) (fun t kt => ?_) ?_
      · show Steps p.tables e below (T0.setTop (mkF m 161 #[.val (.int i0), .val (.int i1), .val (.long j2), .second, .val (.int i4), .val (.int i5), .val (.int (1 : Int32)), .val (.int (5 : Int32)), .val (.ref o8)] [])) _
        refine XS.aload X0.here hx rfl (hb hby at_161) rfl rfl ?_
        show Steps p.tables e below (T0.setTop (mkF m 163 #[.val (.int i0), .val (.int i1), .val (.long j2), .second, .val (.int i4), .val (.int i5), .val (.int (1 : Int32)), .val (.int (5 : Int32)), .val (.ref o8)] [(.ref o8)])) _
        refine XS.iload X0.here hx rfl (hb hby at_163) rfl ?_
        show Steps p.tables e below (T0.setTop (mkF m 165 #[.val (.int i0), .val (.int i1), .val (.long j2), .second, .val (.int i4), .val (.int i5), .val (.int (1 : Int32)), .val (.int (5 : Int32)), .val (.ref o8)] [(.int (1 : Int32)), (.ref o8)])) _
        refine XS.iload X0.here hx rfl (hb hby at_165) rfl ?_
        show Steps p.tables e below (T0.setTop (mkF m 167 #[.val (.int i0), .val (.int i1), .val (.long j2), .second, .val (.int i4), .val (.int i5), .val (.int (1 : Int32)), .val (.int (5 : Int32)), .val (.ref o8)] [(.int i5), (.int (1 : Int32)), (.ref o8)])) _
        refine XS.iconst X0.here hx rfl (hb hby at_167) ?_
        show Steps p.tables e below (T0.setTop (mkF m 168 #[.val (.int i0), .val (.int i1), .val (.long j2), .second, .val (.int i4), .val (.int i5), .val (.int (1 : Int32)), .val (.int (5 : Int32)), .val (.ref o8)] [(.int (0 : Int32)), (.int i5), (.int (1 : Int32)), (.ref o8)])) _
        refine XS.iload X0.here hx rfl (hb hby at_168) rfl ?_
        exact kt
      obtain ⟨_, _, ⟨T116, L116, k116, n116⟩, -, X116, ⟨Lc116, hQ116, l116, y116, z116⟩, st116⟩ := Jvm.LawKit.callS X0 hx (y := (⟨"hotstate/sort/VarIntsReadPinLaw", "enc", "(III)B"⟩ : MethodName)) hown (mvT hZ (hw _ (List.mem_of_getElem? (i := 2) rfl))) (mvT hZ (hw _ (List.mem_of_getElem? (i := 3) rfl))) (mvT hZ (hw _ (List.mem_of_getElem? (i := 4) rfl))) (mvT hZ (hw _ (List.mem_of_getElem? (i := 5) rfl))) (by decide) (backOf (W := 2) (rm1 l Z a0 hw [] i5 (0 : Int32) (5 : Int32)  h0 n0 ) hZ (hw _ (List.mem_of_getElem? (i := 5) rfl)) (hw _ (List.mem_of_getElem? (i := 4) rfl)) (by decide) (by decide)) (g := (mkF m 170 #[.val (.int i0), .val (.int i1), .val (.long j2), .second, .val (.int i4), .val (.int i5), .val (.int (1 : Int32)), .val (.int (5 : Int32)), .val (.ref o8)] [(.int (5 : Int32)), (.int (0 : Int32)), (.int i5), (.int (1 : Int32)), (.ref o8)])) rfl (by rw [hml]; rfl) (argsL := [(.int i5), (.int (0 : Int32)), (.int (5 : Int32))]) (rest := [(.int (1 : Int32)), (.ref o8)]) (lenOf pd1 rfl) rfl (by show 2 * 0 + _ ≤ _; exact Nat.le_of_eq rfl) (hb hby at_170) (fun _ _ => ⟨rfl, e0, (by decide : 1 + 0 ≤ _), (by decide : 9 + 0 ≤ _)⟩)
      dsimp only [Pt.U, Pt.locs, Pt.cells, Pt.slots] at X116 l116 y116 z116 st116 hQ116
      subst l116 y116 z116
      obtain ⟨rfl, Nq116, e116⟩ := hQ116
      have N116 := Fr.app N0 Nq116
      refine own_step (T' := T116) (f' := (mkF m 173 #[.val (.int i0), .val (.int i1), .val (.long j2), .second, .val (.int i4), .val (.int i5), .val (.int (1 : Int32)), .val (.int (5 : Int32)), .val (.ref o8)] [(.int (f1_0 i5 (0 : Int32) (5 : Int32))), (.int (1 : Int32)), (.ref o8)])) st116 ?_
      obtain ⟨T117, h117, Lq117, X117, N117, e117, W117, Z117, Aq117, st117⟩ := own_stB X116 hx hZ e116 Ao8 (j := (1 : Int32)) (by decide) (k := 1) (by decide) (Nat.le_of_ble_eq_true rfl) N116 go8 Z0 (g := (mkF m 173 #[.val (.int i0), .val (.int i1), .val (.long j2), .second, .val (.int i4), .val (.int i5), .val (.int (1 : Int32)), .val (.int (5 : Int32)), .val (.ref o8)] [(.int (f1_0 i5 (0 : Int32) (5 : Int32))), (.int (1 : Int32)), (.ref o8)])) rfl rfl (hb hby at_173)
      have Ao8_117 : own_A Z h117 o8 .byte [(.int xo8_0), (.int (nar .byte (f1_0 i5 (0 : Int32) (5 : Int32)))), (.int xo8_2), (.int xo8_3), (.int xo8_4), (.int xo8_5), (.int xo8_6), (.int xo8_7), (.int xo8_8)] := Aq117
      refine own_step (T' := T117) (f' := (mkF m 174 #[.val (.int i0), .val (.int i1), .val (.long j2), .second, .val (.int i4), .val (.int i5), .val (.int (1 : Int32)), .val (.int (5 : Int32)), .val (.ref o8)] [])) st117 ?_
      refine own_step (T' := T117) (f' := (mkF m 177 #[.val (.int i0), .val (.int i1), .val (.long j2), .second, .val (.int i4), .val (.int i5), .val (.int (1 : Int32)), .val (.int (5 : Int32)), .val (.ref o8)] [(.int (1 : Int32)), (.int (5 : Int32))])) (fun t kt => ?_) ?_
      · show Steps p.tables e below (T117.setTop (mkF m 174 #[.val (.int i0), .val (.int i1), .val (.long j2), .second, .val (.int i4), .val (.int i5), .val (.int (1 : Int32)), .val (.int (5 : Int32)), .val (.ref o8)] [])) _
        refine XS.iload X117.here hx rfl (hb hby at_174) rfl ?_
        show Steps p.tables e below (T117.setTop (mkF m 176 #[.val (.int i0), .val (.int i1), .val (.long j2), .second, .val (.int i4), .val (.int i5), .val (.int (1 : Int32)), .val (.int (5 : Int32)), .val (.ref o8)] [(.int (5 : Int32))])) _
        refine XS.iconst X117.here hx rfl (hb hby at_176) ?_
        exact kt
      refine own_step (T' := T117) (f' := (mkF m 180 #[.val (.int i0), .val (.int i1), .val (.long j2), .second, .val (.int i4), .val (.int i5), .val (.int (1 : Int32)), .val (.int (5 : Int32)), .val (.ref o8)] [])) (fun t kt => ?_) ?_
      · show Steps p.tables e below (T117.setTop (mkF m 177 #[.val (.int i0), .val (.int i1), .val (.long j2), .second, .val (.int i4), .val (.int i5), .val (.int (1 : Int32)), .val (.int (5 : Int32)), .val (.ref o8)] [(.int (1 : Int32)), (.int (5 : Int32))])) _
        refine XS.icmpNo X117.here hx rfl (hb hby at_177) rfl (tlt (by decide : ((1 : Int32) < (5 : Int32)))).2.2.2 kt
      refine own_step (T' := T117) (f' := (mkF m 191 #[.val (.int i0), .val (.int i1), .val (.long j2), .second, .val (.int i4), .val (.int i5), .val (.int (1 : Int32)), .val (.int (5 : Int32)), .val (.ref o8)] [(.int (5 : Int32)), (.int (1 : Int32)), (.int i5), (.int (2 : Int32)), (.ref o8)])) (fun t kt => ?_) ?_
      · show Steps p.tables e below (T117.setTop (mkF m 180 #[.val (.int i0), .val (.int i1), .val (.long j2), .second, .val (.int i4), .val (.int i5), .val (.int (1 : Int32)), .val (.int (5 : Int32)), .val (.ref o8)] [])) _
        refine XS.aload X117.here hx rfl (hb hby at_180) rfl rfl ?_
        show Steps p.tables e below (T117.setTop (mkF m 182 #[.val (.int i0), .val (.int i1), .val (.long j2), .second, .val (.int i4), .val (.int i5), .val (.int (1 : Int32)), .val (.int (5 : Int32)), .val (.ref o8)] [(.ref o8)])) _
        refine XS.iload X117.here hx rfl (hb hby at_182) rfl ?_
        show Steps p.tables e below (T117.setTop (mkF m 184 #[.val (.int i0), .val (.int i1), .val (.long j2), .second, .val (.int i4), .val (.int i5), .val (.int (1 : Int32)), .val (.int (5 : Int32)), .val (.ref o8)] [(.int (1 : Int32)), (.ref o8)])) _
        refine XS.iconst X117.here hx rfl (hb hby at_184) ?_
        show Steps p.tables e below (T117.setTop (mkF m 185 #[.val (.int i0), .val (.int i1), .val (.long j2), .second, .val (.int i4), .val (.int i5), .val (.int (1 : Int32)), .val (.int (5 : Int32)), .val (.ref o8)] [(.int (1 : Int32)), (.int (1 : Int32)), (.ref o8)])) _
        refine XS.iadd X117.here hx rfl (hb hby at_185) rfl ?_
        show Steps p.tables e below (T117.setTop (mkF m 186 #[.val (.int i0), .val (.int i1), .val (.long j2), .second, .val (.int i4), .val (.int i5), .val (.int (1 : Int32)), .val (.int (5 : Int32)), .val (.ref o8)] [(.int (2 : Int32)), (.ref o8)])) _
        refine XS.iload X117.here hx rfl (hb hby at_186) rfl ?_
        show Steps p.tables e below (T117.setTop (mkF m 188 #[.val (.int i0), .val (.int i1), .val (.long j2), .second, .val (.int i4), .val (.int i5), .val (.int (1 : Int32)), .val (.int (5 : Int32)), .val (.ref o8)] [(.int i5), (.int (2 : Int32)), (.ref o8)])) _
        refine XS.iconst X117.here hx rfl (hb hby at_188) ?_
        show Steps p.tables e below (T117.setTop (mkF m 189 #[.val (.int i0), .val (.int i1), .val (.long j2), .second, .val (.int i4), .val (.int i5), .val (.int (1 : Int32)), .val (.int (5 : Int32)), .val (.ref o8)] [(.int (1 : Int32)), (.int i5), (.int (2 : Int32)), (.ref o8)])) _
        refine XS.iload X117.here hx rfl (hb hby at_189) rfl ?_
        exact kt
      obtain ⟨_, _, ⟨T119, L119, k119, n119⟩, -, X119, ⟨Lc119, hQ119, l119, y119, z119⟩, st119⟩ := Jvm.LawKit.callS X117 hx (y := (⟨"hotstate/sort/VarIntsReadPinLaw", "enc", "(III)B"⟩ : MethodName)) hown (mvT hZ (hw _ (List.mem_of_getElem? (i := 2) rfl))) (mvT hZ (hw _ (List.mem_of_getElem? (i := 3) rfl))) (mvT hZ (hw _ (List.mem_of_getElem? (i := 4) rfl))) (mvT hZ (hw _ (List.mem_of_getElem? (i := 5) rfl))) (by decide) (backOf (W := 2) (rm1 l Z a0 hw [] i5 (1 : Int32) (5 : Int32)  h117 n0 ) hZ (hw _ (List.mem_of_getElem? (i := 5) rfl)) (hw _ (List.mem_of_getElem? (i := 4) rfl)) (by decide) (by decide)) (g := (mkF m 191 #[.val (.int i0), .val (.int i1), .val (.long j2), .second, .val (.int i4), .val (.int i5), .val (.int (1 : Int32)), .val (.int (5 : Int32)), .val (.ref o8)] [(.int (5 : Int32)), (.int (1 : Int32)), (.int i5), (.int (2 : Int32)), (.ref o8)])) rfl (by rw [hml]; rfl) (argsL := [(.int i5), (.int (1 : Int32)), (.int (5 : Int32))]) (rest := [(.int (2 : Int32)), (.ref o8)]) (lenOf pd1 rfl) rfl (by show 2 * 0 + _ ≤ _; exact Nat.le_of_eq rfl) (hb hby at_191) (fun _ _ => ⟨rfl, e117, (by decide : 1 + 0 ≤ _), (by decide : 9 + 0 ≤ _)⟩)
      dsimp only [Pt.U, Pt.locs, Pt.cells, Pt.slots] at X119 l119 y119 z119 st119 hQ119
      subst l119 y119 z119
      obtain ⟨rfl, Nq119, e119⟩ := hQ119
      have N119 := Fr.app N117 Nq119
      refine own_step (T' := T119) (f' := (mkF m 194 #[.val (.int i0), .val (.int i1), .val (.long j2), .second, .val (.int i4), .val (.int i5), .val (.int (1 : Int32)), .val (.int (5 : Int32)), .val (.ref o8)] [(.int (f1_0 i5 (1 : Int32) (5 : Int32))), (.int (2 : Int32)), (.ref o8)])) st119 ?_
      obtain ⟨T120, h120, Lq120, X120, N120, e120, W120, Z120, Aq120, st120⟩ := own_stB X119 hx hZ e119 Ao8_117 (j := (2 : Int32)) (by decide) (k := 2) (by decide) (Nat.le_of_ble_eq_true rfl) N119 go8 Z117 (g := (mkF m 194 #[.val (.int i0), .val (.int i1), .val (.long j2), .second, .val (.int i4), .val (.int i5), .val (.int (1 : Int32)), .val (.int (5 : Int32)), .val (.ref o8)] [(.int (f1_0 i5 (1 : Int32) (5 : Int32))), (.int (2 : Int32)), (.ref o8)])) rfl rfl (hb hby at_194)
      have Ao8_120 : own_A Z h120 o8 .byte [(.int xo8_0), (.int (nar .byte (f1_0 i5 (0 : Int32) (5 : Int32)))), (.int (nar .byte (f1_0 i5 (1 : Int32) (5 : Int32)))), (.int xo8_3), (.int xo8_4), (.int xo8_5), (.int xo8_6), (.int xo8_7), (.int xo8_8)] := Aq120
      refine own_step (T' := T120) (f' := (mkF m 195 #[.val (.int i0), .val (.int i1), .val (.long j2), .second, .val (.int i4), .val (.int i5), .val (.int (1 : Int32)), .val (.int (5 : Int32)), .val (.ref o8)] [])) st120 ?_
      refine own_step (T' := T120) (f' := (mkF m 198 #[.val (.int i0), .val (.int i1), .val (.long j2), .second, .val (.int i4), .val (.int i5), .val (.int (1 : Int32)), .val (.int (5 : Int32)), .val (.ref o8)] [(.int (2 : Int32)), (.int (5 : Int32))])) (fun t kt => ?_) ?_
      · show Steps p.tables e below (T120.setTop (mkF m 195 #[.val (.int i0), .val (.int i1), .val (.long j2), .second, .val (.int i4), .val (.int i5), .val (.int (1 : Int32)), .val (.int (5 : Int32)), .val (.ref o8)] [])) _
        refine XS.iload X120.here hx rfl (hb hby at_195) rfl ?_
        show Steps p.tables e below (T120.setTop (mkF m 197 #[.val (.int i0), .val (.int i1), .val (.long j2), .second, .val (.int i4), .val (.int i5), .val (.int (1 : Int32)), .val (.int (5 : Int32)), .val (.ref o8)] [(.int (5 : Int32))])) _
        refine XS.iconst X120.here hx rfl (hb hby at_197) ?_
        exact kt
      refine own_step (T' := T120) (f' := (mkF m 201 #[.val (.int i0), .val (.int i1), .val (.long j2), .second, .val (.int i4), .val (.int i5), .val (.int (1 : Int32)), .val (.int (5 : Int32)), .val (.ref o8)] [])) (fun t kt => ?_) ?_
      · show Steps p.tables e below (T120.setTop (mkF m 198 #[.val (.int i0), .val (.int i1), .val (.long j2), .second, .val (.int i4), .val (.int i5), .val (.int (1 : Int32)), .val (.int (5 : Int32)), .val (.ref o8)] [(.int (2 : Int32)), (.int (5 : Int32))])) _
        refine XS.icmpNo X120.here hx rfl (hb hby at_198) rfl (tlt (by decide : ((2 : Int32) < (5 : Int32)))).2.2.2 kt
      refine own_step (T' := T120) (f' := (mkF m 212 #[.val (.int i0), .val (.int i1), .val (.long j2), .second, .val (.int i4), .val (.int i5), .val (.int (1 : Int32)), .val (.int (5 : Int32)), .val (.ref o8)] [(.int (5 : Int32)), (.int (2 : Int32)), (.int i5), (.int (3 : Int32)), (.ref o8)])) (fun t kt => ?_) ?_
      · show Steps p.tables e below (T120.setTop (mkF m 201 #[.val (.int i0), .val (.int i1), .val (.long j2), .second, .val (.int i4), .val (.int i5), .val (.int (1 : Int32)), .val (.int (5 : Int32)), .val (.ref o8)] [])) _
        refine XS.aload X120.here hx rfl (hb hby at_201) rfl rfl ?_
        show Steps p.tables e below (T120.setTop (mkF m 203 #[.val (.int i0), .val (.int i1), .val (.long j2), .second, .val (.int i4), .val (.int i5), .val (.int (1 : Int32)), .val (.int (5 : Int32)), .val (.ref o8)] [(.ref o8)])) _
        refine XS.iload X120.here hx rfl (hb hby at_203) rfl ?_
        show Steps p.tables e below (T120.setTop (mkF m 205 #[.val (.int i0), .val (.int i1), .val (.long j2), .second, .val (.int i4), .val (.int i5), .val (.int (1 : Int32)), .val (.int (5 : Int32)), .val (.ref o8)] [(.int (1 : Int32)), (.ref o8)])) _
        refine XS.iconst X120.here hx rfl (hb hby at_205) ?_
        show Steps p.tables e below (T120.setTop (mkF m 206 #[.val (.int i0), .val (.int i1), .val (.long j2), .second, .val (.int i4), .val (.int i5), .val (.int (1 : Int32)), .val (.int (5 : Int32)), .val (.ref o8)] [(.int (2 : Int32)), (.int (1 : Int32)), (.ref o8)])) _
        refine XS.iadd X120.here hx rfl (hb hby at_206) rfl ?_
        show Steps p.tables e below (T120.setTop (mkF m 207 #[.val (.int i0), .val (.int i1), .val (.long j2), .second, .val (.int i4), .val (.int i5), .val (.int (1 : Int32)), .val (.int (5 : Int32)), .val (.ref o8)] [(.int (3 : Int32)), (.ref o8)])) _
        refine XS.iload X120.here hx rfl (hb hby at_207) rfl ?_
        show Steps p.tables e below (T120.setTop (mkF m 209 #[.val (.int i0), .val (.int i1), .val (.long j2), .second, .val (.int i4), .val (.int i5), .val (.int (1 : Int32)), .val (.int (5 : Int32)), .val (.ref o8)] [(.int i5), (.int (3 : Int32)), (.ref o8)])) _
        refine XS.iconst X120.here hx rfl (hb hby at_209) ?_
        show Steps p.tables e below (T120.setTop (mkF m 210 #[.val (.int i0), .val (.int i1), .val (.long j2), .second, .val (.int i4), .val (.int i5), .val (.int (1 : Int32)), .val (.int (5 : Int32)), .val (.ref o8)] [(.int (2 : Int32)), (.int i5), (.int (3 : Int32)), (.ref o8)])) _
        refine XS.iload X120.here hx rfl (hb hby at_210) rfl ?_
        exact kt
      obtain ⟨_, _, ⟨T122, L122, k122, n122⟩, -, X122, ⟨Lc122, hQ122, l122, y122, z122⟩, st122⟩ := Jvm.LawKit.callS X120 hx (y := (⟨"hotstate/sort/VarIntsReadPinLaw", "enc", "(III)B"⟩ : MethodName)) hown (mvT hZ (hw _ (List.mem_of_getElem? (i := 2) rfl))) (mvT hZ (hw _ (List.mem_of_getElem? (i := 3) rfl))) (mvT hZ (hw _ (List.mem_of_getElem? (i := 4) rfl))) (mvT hZ (hw _ (List.mem_of_getElem? (i := 5) rfl))) (by decide) (backOf (W := 2) (rm1 l Z a0 hw [] i5 (2 : Int32) (5 : Int32)  h120 n0 ) hZ (hw _ (List.mem_of_getElem? (i := 5) rfl)) (hw _ (List.mem_of_getElem? (i := 4) rfl)) (by decide) (by decide)) (g := (mkF m 212 #[.val (.int i0), .val (.int i1), .val (.long j2), .second, .val (.int i4), .val (.int i5), .val (.int (1 : Int32)), .val (.int (5 : Int32)), .val (.ref o8)] [(.int (5 : Int32)), (.int (2 : Int32)), (.int i5), (.int (3 : Int32)), (.ref o8)])) rfl (by rw [hml]; rfl) (argsL := [(.int i5), (.int (2 : Int32)), (.int (5 : Int32))]) (rest := [(.int (3 : Int32)), (.ref o8)]) (lenOf pd1 rfl) rfl (by show 2 * 0 + _ ≤ _; exact Nat.le_of_eq rfl) (hb hby at_212) (fun _ _ => ⟨rfl, e120, (by decide : 1 + 0 ≤ _), (by decide : 9 + 0 ≤ _)⟩)
      dsimp only [Pt.U, Pt.locs, Pt.cells, Pt.slots] at X122 l122 y122 z122 st122 hQ122
      subst l122 y122 z122
      obtain ⟨rfl, Nq122, e122⟩ := hQ122
      have N122 := Fr.app N120 Nq122
      refine own_step (T' := T122) (f' := (mkF m 215 #[.val (.int i0), .val (.int i1), .val (.long j2), .second, .val (.int i4), .val (.int i5), .val (.int (1 : Int32)), .val (.int (5 : Int32)), .val (.ref o8)] [(.int (f1_0 i5 (2 : Int32) (5 : Int32))), (.int (3 : Int32)), (.ref o8)])) st122 ?_
      obtain ⟨T123, h123, Lq123, X123, N123, e123, W123, Z123, Aq123, st123⟩ := own_stB X122 hx hZ e122 Ao8_120 (j := (3 : Int32)) (by decide) (k := 3) (by decide) (Nat.le_of_ble_eq_true rfl) N122 go8 Z120 (g := (mkF m 215 #[.val (.int i0), .val (.int i1), .val (.long j2), .second, .val (.int i4), .val (.int i5), .val (.int (1 : Int32)), .val (.int (5 : Int32)), .val (.ref o8)] [(.int (f1_0 i5 (2 : Int32) (5 : Int32))), (.int (3 : Int32)), (.ref o8)])) rfl rfl (hb hby at_215)
      have Ao8_123 : own_A Z h123 o8 .byte [(.int xo8_0), (.int (nar .byte (f1_0 i5 (0 : Int32) (5 : Int32)))), (.int (nar .byte (f1_0 i5 (1 : Int32) (5 : Int32)))), (.int (nar .byte (f1_0 i5 (2 : Int32) (5 : Int32)))), (.int xo8_4), (.int xo8_5), (.int xo8_6), (.int xo8_7), (.int xo8_8)] := Aq123
      refine own_step (T' := T123) (f' := (mkF m 216 #[.val (.int i0), .val (.int i1), .val (.long j2), .second, .val (.int i4), .val (.int i5), .val (.int (1 : Int32)), .val (.int (5 : Int32)), .val (.ref o8)] [])) st123 ?_
      refine own_step (T' := T123) (f' := (mkF m 219 #[.val (.int i0), .val (.int i1), .val (.long j2), .second, .val (.int i4), .val (.int i5), .val (.int (1 : Int32)), .val (.int (5 : Int32)), .val (.ref o8)] [(.int (3 : Int32)), (.int (5 : Int32))])) (fun t kt => ?_) ?_
      · show Steps p.tables e below (T123.setTop (mkF m 216 #[.val (.int i0), .val (.int i1), .val (.long j2), .second, .val (.int i4), .val (.int i5), .val (.int (1 : Int32)), .val (.int (5 : Int32)), .val (.ref o8)] [])) _
        refine XS.iload X123.here hx rfl (hb hby at_216) rfl ?_
        show Steps p.tables e below (T123.setTop (mkF m 218 #[.val (.int i0), .val (.int i1), .val (.long j2), .second, .val (.int i4), .val (.int i5), .val (.int (1 : Int32)), .val (.int (5 : Int32)), .val (.ref o8)] [(.int (5 : Int32))])) _
        refine XS.iconst X123.here hx rfl (hb hby at_218) ?_
        exact kt
      refine own_step (T' := T123) (f' := (mkF m 222 #[.val (.int i0), .val (.int i1), .val (.long j2), .second, .val (.int i4), .val (.int i5), .val (.int (1 : Int32)), .val (.int (5 : Int32)), .val (.ref o8)] [])) (fun t kt => ?_) ?_
      · show Steps p.tables e below (T123.setTop (mkF m 219 #[.val (.int i0), .val (.int i1), .val (.long j2), .second, .val (.int i4), .val (.int i5), .val (.int (1 : Int32)), .val (.int (5 : Int32)), .val (.ref o8)] [(.int (3 : Int32)), (.int (5 : Int32))])) _
        refine XS.icmpNo X123.here hx rfl (hb hby at_219) rfl (tlt (by decide : ((3 : Int32) < (5 : Int32)))).2.2.2 kt
      refine own_step (T' := T123) (f' := (mkF m 233 #[.val (.int i0), .val (.int i1), .val (.long j2), .second, .val (.int i4), .val (.int i5), .val (.int (1 : Int32)), .val (.int (5 : Int32)), .val (.ref o8)] [(.int (5 : Int32)), (.int (3 : Int32)), (.int i5), (.int (4 : Int32)), (.ref o8)])) (fun t kt => ?_) ?_
      · show Steps p.tables e below (T123.setTop (mkF m 222 #[.val (.int i0), .val (.int i1), .val (.long j2), .second, .val (.int i4), .val (.int i5), .val (.int (1 : Int32)), .val (.int (5 : Int32)), .val (.ref o8)] [])) _
        refine XS.aload X123.here hx rfl (hb hby at_222) rfl rfl ?_
        show Steps p.tables e below (T123.setTop (mkF m 224 #[.val (.int i0), .val (.int i1), .val (.long j2), .second, .val (.int i4), .val (.int i5), .val (.int (1 : Int32)), .val (.int (5 : Int32)), .val (.ref o8)] [(.ref o8)])) _
        refine XS.iload X123.here hx rfl (hb hby at_224) rfl ?_
        show Steps p.tables e below (T123.setTop (mkF m 226 #[.val (.int i0), .val (.int i1), .val (.long j2), .second, .val (.int i4), .val (.int i5), .val (.int (1 : Int32)), .val (.int (5 : Int32)), .val (.ref o8)] [(.int (1 : Int32)), (.ref o8)])) _
        refine XS.iconst X123.here hx rfl (hb hby at_226) ?_
        show Steps p.tables e below (T123.setTop (mkF m 227 #[.val (.int i0), .val (.int i1), .val (.long j2), .second, .val (.int i4), .val (.int i5), .val (.int (1 : Int32)), .val (.int (5 : Int32)), .val (.ref o8)] [(.int (3 : Int32)), (.int (1 : Int32)), (.ref o8)])) _
        refine XS.iadd X123.here hx rfl (hb hby at_227) rfl ?_
        show Steps p.tables e below (T123.setTop (mkF m 228 #[.val (.int i0), .val (.int i1), .val (.long j2), .second, .val (.int i4), .val (.int i5), .val (.int (1 : Int32)), .val (.int (5 : Int32)), .val (.ref o8)] [(.int (4 : Int32)), (.ref o8)])) _
        refine XS.iload X123.here hx rfl (hb hby at_228) rfl ?_
        show Steps p.tables e below (T123.setTop (mkF m 230 #[.val (.int i0), .val (.int i1), .val (.long j2), .second, .val (.int i4), .val (.int i5), .val (.int (1 : Int32)), .val (.int (5 : Int32)), .val (.ref o8)] [(.int i5), (.int (4 : Int32)), (.ref o8)])) _
        refine XS.iconst X123.here hx rfl (hb hby at_230) ?_
        show Steps p.tables e below (T123.setTop (mkF m 231 #[.val (.int i0), .val (.int i1), .val (.long j2), .second, .val (.int i4), .val (.int i5), .val (.int (1 : Int32)), .val (.int (5 : Int32)), .val (.ref o8)] [(.int (3 : Int32)), (.int i5), (.int (4 : Int32)), (.ref o8)])) _
        refine XS.iload X123.here hx rfl (hb hby at_231) rfl ?_
        exact kt
      obtain ⟨_, _, ⟨T125, L125, k125, n125⟩, -, X125, ⟨Lc125, hQ125, l125, y125, z125⟩, st125⟩ := Jvm.LawKit.callS X123 hx (y := (⟨"hotstate/sort/VarIntsReadPinLaw", "enc", "(III)B"⟩ : MethodName)) hown (mvT hZ (hw _ (List.mem_of_getElem? (i := 2) rfl))) (mvT hZ (hw _ (List.mem_of_getElem? (i := 3) rfl))) (mvT hZ (hw _ (List.mem_of_getElem? (i := 4) rfl))) (mvT hZ (hw _ (List.mem_of_getElem? (i := 5) rfl))) (by decide) (backOf (W := 2) (rm1 l Z a0 hw [] i5 (3 : Int32) (5 : Int32)  h123 n0 ) hZ (hw _ (List.mem_of_getElem? (i := 5) rfl)) (hw _ (List.mem_of_getElem? (i := 4) rfl)) (by decide) (by decide)) (g := (mkF m 233 #[.val (.int i0), .val (.int i1), .val (.long j2), .second, .val (.int i4), .val (.int i5), .val (.int (1 : Int32)), .val (.int (5 : Int32)), .val (.ref o8)] [(.int (5 : Int32)), (.int (3 : Int32)), (.int i5), (.int (4 : Int32)), (.ref o8)])) rfl (by rw [hml]; rfl) (argsL := [(.int i5), (.int (3 : Int32)), (.int (5 : Int32))]) (rest := [(.int (4 : Int32)), (.ref o8)]) (lenOf pd1 rfl) rfl (by show 2 * 0 + _ ≤ _; exact Nat.le_of_eq rfl) (hb hby at_233) (fun _ _ => ⟨rfl, e123, (by decide : 1 + 0 ≤ _), (by decide : 9 + 0 ≤ _)⟩)
      dsimp only [Pt.U, Pt.locs, Pt.cells, Pt.slots] at X125 l125 y125 z125 st125 hQ125
      subst l125 y125 z125
      obtain ⟨rfl, Nq125, e125⟩ := hQ125
      have N125 := Fr.app N123 Nq125
      refine own_step (T' := T125) (f' := (mkF m 236 #[.val (.int i0), .val (.int i1), .val (.long j2), .second, .val (.int i4), .val (.int i5), .val (.int (1 : Int32)), .val (.int (5 : Int32)), .val (.ref o8)] [(.int (f1_0 i5 (3 : Int32) (5 : Int32))), (.int (4 : Int32)), (.ref o8)])) st125 ?_
      obtain ⟨T126, h126, Lq126, X126, N126, e126, W126, Z126, Aq126, st126⟩ := own_stB X125 hx hZ e125 Ao8_123 (j := (4 : Int32)) (by decide) (k := 4) (by decide) (Nat.le_of_ble_eq_true rfl) N125 go8 Z123 (g := (mkF m 236 #[.val (.int i0), .val (.int i1), .val (.long j2), .second, .val (.int i4), .val (.int i5), .val (.int (1 : Int32)), .val (.int (5 : Int32)), .val (.ref o8)] [(.int (f1_0 i5 (3 : Int32) (5 : Int32))), (.int (4 : Int32)), (.ref o8)])) rfl rfl (hb hby at_236)
      have Ao8_126 : own_A Z h126 o8 .byte [(.int xo8_0), (.int (nar .byte (f1_0 i5 (0 : Int32) (5 : Int32)))), (.int (nar .byte (f1_0 i5 (1 : Int32) (5 : Int32)))), (.int (nar .byte (f1_0 i5 (2 : Int32) (5 : Int32)))), (.int (nar .byte (f1_0 i5 (3 : Int32) (5 : Int32)))), (.int xo8_5), (.int xo8_6), (.int xo8_7), (.int xo8_8)] := Aq126
      refine own_step (T' := T126) (f' := (mkF m 237 #[.val (.int i0), .val (.int i1), .val (.long j2), .second, .val (.int i4), .val (.int i5), .val (.int (1 : Int32)), .val (.int (5 : Int32)), .val (.ref o8)] [])) st126 ?_
      refine own_step (T' := T126) (f' := (mkF m 240 #[.val (.int i0), .val (.int i1), .val (.long j2), .second, .val (.int i4), .val (.int i5), .val (.int (1 : Int32)), .val (.int (5 : Int32)), .val (.ref o8)] [(.int (4 : Int32)), (.int (5 : Int32))])) (fun t kt => ?_) ?_
      · show Steps p.tables e below (T126.setTop (mkF m 237 #[.val (.int i0), .val (.int i1), .val (.long j2), .second, .val (.int i4), .val (.int i5), .val (.int (1 : Int32)), .val (.int (5 : Int32)), .val (.ref o8)] [])) _
        refine XS.iload X126.here hx rfl (hb hby at_237) rfl ?_
        show Steps p.tables e below (T126.setTop (mkF m 239 #[.val (.int i0), .val (.int i1), .val (.long j2), .second, .val (.int i4), .val (.int i5), .val (.int (1 : Int32)), .val (.int (5 : Int32)), .val (.ref o8)] [(.int (5 : Int32))])) _
        refine XS.iconst X126.here hx rfl (hb hby at_239) ?_
        exact kt
      refine own_step (T' := T126) (f' := (mkF m 243 #[.val (.int i0), .val (.int i1), .val (.long j2), .second, .val (.int i4), .val (.int i5), .val (.int (1 : Int32)), .val (.int (5 : Int32)), .val (.ref o8)] [])) (fun t kt => ?_) ?_
      · show Steps p.tables e below (T126.setTop (mkF m 240 #[.val (.int i0), .val (.int i1), .val (.long j2), .second, .val (.int i4), .val (.int i5), .val (.int (1 : Int32)), .val (.int (5 : Int32)), .val (.ref o8)] [(.int (4 : Int32)), (.int (5 : Int32))])) _
        refine XS.icmpNo X126.here hx rfl (hb hby at_240) rfl (tlt (by decide : ((4 : Int32) < (5 : Int32)))).2.2.2 kt
      refine own_step (T' := T126) (f' := (mkF m 254 #[.val (.int i0), .val (.int i1), .val (.long j2), .second, .val (.int i4), .val (.int i5), .val (.int (1 : Int32)), .val (.int (5 : Int32)), .val (.ref o8)] [(.int (5 : Int32)), (.int (4 : Int32)), (.int i5), (.int (5 : Int32)), (.ref o8)])) (fun t kt => ?_) ?_
      · show Steps p.tables e below (T126.setTop (mkF m 243 #[.val (.int i0), .val (.int i1), .val (.long j2), .second, .val (.int i4), .val (.int i5), .val (.int (1 : Int32)), .val (.int (5 : Int32)), .val (.ref o8)] [])) _
        refine XS.aload X126.here hx rfl (hb hby at_243) rfl rfl ?_
        show Steps p.tables e below (T126.setTop (mkF m 245 #[.val (.int i0), .val (.int i1), .val (.long j2), .second, .val (.int i4), .val (.int i5), .val (.int (1 : Int32)), .val (.int (5 : Int32)), .val (.ref o8)] [(.ref o8)])) _
        refine XS.iload X126.here hx rfl (hb hby at_245) rfl ?_
        show Steps p.tables e below (T126.setTop (mkF m 247 #[.val (.int i0), .val (.int i1), .val (.long j2), .second, .val (.int i4), .val (.int i5), .val (.int (1 : Int32)), .val (.int (5 : Int32)), .val (.ref o8)] [(.int (1 : Int32)), (.ref o8)])) _
        refine XS.iconst X126.here hx rfl (hb hby at_247) ?_
        show Steps p.tables e below (T126.setTop (mkF m 248 #[.val (.int i0), .val (.int i1), .val (.long j2), .second, .val (.int i4), .val (.int i5), .val (.int (1 : Int32)), .val (.int (5 : Int32)), .val (.ref o8)] [(.int (4 : Int32)), (.int (1 : Int32)), (.ref o8)])) _
        refine XS.iadd X126.here hx rfl (hb hby at_248) rfl ?_
        show Steps p.tables e below (T126.setTop (mkF m 249 #[.val (.int i0), .val (.int i1), .val (.long j2), .second, .val (.int i4), .val (.int i5), .val (.int (1 : Int32)), .val (.int (5 : Int32)), .val (.ref o8)] [(.int (5 : Int32)), (.ref o8)])) _
        refine XS.iload X126.here hx rfl (hb hby at_249) rfl ?_
        show Steps p.tables e below (T126.setTop (mkF m 251 #[.val (.int i0), .val (.int i1), .val (.long j2), .second, .val (.int i4), .val (.int i5), .val (.int (1 : Int32)), .val (.int (5 : Int32)), .val (.ref o8)] [(.int i5), (.int (5 : Int32)), (.ref o8)])) _
        refine XS.iconst X126.here hx rfl (hb hby at_251) ?_
        show Steps p.tables e below (T126.setTop (mkF m 252 #[.val (.int i0), .val (.int i1), .val (.long j2), .second, .val (.int i4), .val (.int i5), .val (.int (1 : Int32)), .val (.int (5 : Int32)), .val (.ref o8)] [(.int (4 : Int32)), (.int i5), (.int (5 : Int32)), (.ref o8)])) _
        refine XS.iload X126.here hx rfl (hb hby at_252) rfl ?_
        exact kt
      obtain ⟨_, _, ⟨T128, L128, k128, n128⟩, -, X128, ⟨Lc128, hQ128, l128, y128, z128⟩, st128⟩ := Jvm.LawKit.callS X126 hx (y := (⟨"hotstate/sort/VarIntsReadPinLaw", "enc", "(III)B"⟩ : MethodName)) hown (mvT hZ (hw _ (List.mem_of_getElem? (i := 2) rfl))) (mvT hZ (hw _ (List.mem_of_getElem? (i := 3) rfl))) (mvT hZ (hw _ (List.mem_of_getElem? (i := 4) rfl))) (mvT hZ (hw _ (List.mem_of_getElem? (i := 5) rfl))) (by decide) (backOf (W := 2) (rm1 l Z a0 hw [] i5 (4 : Int32) (5 : Int32)  h126 n0 ) hZ (hw _ (List.mem_of_getElem? (i := 5) rfl)) (hw _ (List.mem_of_getElem? (i := 4) rfl)) (by decide) (by decide)) (g := (mkF m 254 #[.val (.int i0), .val (.int i1), .val (.long j2), .second, .val (.int i4), .val (.int i5), .val (.int (1 : Int32)), .val (.int (5 : Int32)), .val (.ref o8)] [(.int (5 : Int32)), (.int (4 : Int32)), (.int i5), (.int (5 : Int32)), (.ref o8)])) rfl (by rw [hml]; rfl) (argsL := [(.int i5), (.int (4 : Int32)), (.int (5 : Int32))]) (rest := [(.int (5 : Int32)), (.ref o8)]) (lenOf pd1 rfl) rfl (by show 2 * 0 + _ ≤ _; exact Nat.le_of_eq rfl) (hb hby at_254) (fun _ _ => ⟨rfl, e126, (by decide : 1 + 0 ≤ _), (by decide : 9 + 0 ≤ _)⟩)
      dsimp only [Pt.U, Pt.locs, Pt.cells, Pt.slots] at X128 l128 y128 z128 st128 hQ128
      subst l128 y128 z128
      obtain ⟨rfl, Nq128, e128⟩ := hQ128
      have N128 := Fr.app N126 Nq128
      refine own_step (T' := T128) (f' := (mkF m 257 #[.val (.int i0), .val (.int i1), .val (.long j2), .second, .val (.int i4), .val (.int i5), .val (.int (1 : Int32)), .val (.int (5 : Int32)), .val (.ref o8)] [(.int (f1_0 i5 (4 : Int32) (5 : Int32))), (.int (5 : Int32)), (.ref o8)])) st128 ?_
      obtain ⟨T129, h129, Lq129, X129, N129, e129, W129, Z129, Aq129, st129⟩ := own_stB X128 hx hZ e128 Ao8_126 (j := (5 : Int32)) (by decide) (k := 5) (by decide) (Nat.le_of_ble_eq_true rfl) N128 go8 Z126 (g := (mkF m 257 #[.val (.int i0), .val (.int i1), .val (.long j2), .second, .val (.int i4), .val (.int i5), .val (.int (1 : Int32)), .val (.int (5 : Int32)), .val (.ref o8)] [(.int (f1_0 i5 (4 : Int32) (5 : Int32))), (.int (5 : Int32)), (.ref o8)])) rfl rfl (hb hby at_257)
      have Ao8_129 : own_A Z h129 o8 .byte [(.int xo8_0), (.int (nar .byte (f1_0 i5 (0 : Int32) (5 : Int32)))), (.int (nar .byte (f1_0 i5 (1 : Int32) (5 : Int32)))), (.int (nar .byte (f1_0 i5 (2 : Int32) (5 : Int32)))), (.int (nar .byte (f1_0 i5 (3 : Int32) (5 : Int32)))), (.int (nar .byte (f1_0 i5 (4 : Int32) (5 : Int32)))), (.int xo8_6), (.int xo8_7), (.int xo8_8)] := Aq129
      refine own_step (T' := T129) (f' := (mkF m 258 #[.val (.int i0), .val (.int i1), .val (.long j2), .second, .val (.int i4), .val (.int i5), .val (.int (1 : Int32)), .val (.int (5 : Int32)), .val (.ref o8)] [])) st129 ?_
      refine own_step (T' := T129) (f' := (mkF m 262 #[.val (.int i0), .val (.int i1), .val (.long j2), .second, .val (.int i4), .val (.int i5), .val (.int (1 : Int32)), .val (.int (5 : Int32)), .val (.ref o8)] [(.int (1 : Int32)), (.ref o8)])) (fun t kt => ?_) ?_
      · show Steps p.tables e below (T129.setTop (mkF m 258 #[.val (.int i0), .val (.int i1), .val (.long j2), .second, .val (.int i4), .val (.int i5), .val (.int (1 : Int32)), .val (.int (5 : Int32)), .val (.ref o8)] [])) _
        refine XS.aload X129.here hx rfl (hb hby at_258) rfl rfl ?_
        show Steps p.tables e below (T129.setTop (mkF m 260 #[.val (.int i0), .val (.int i1), .val (.long j2), .second, .val (.int i4), .val (.int i5), .val (.int (1 : Int32)), .val (.int (5 : Int32)), .val (.ref o8)] [(.ref o8)])) _
        refine XS.iload X129.here hx rfl (hb hby at_260) rfl ?_
        exact kt
      obtain ⟨_, _, ⟨T130, L130, k130, n130⟩, -, X130, ⟨Lc130, hQ130, l130, y130, z130⟩, st130⟩ := Jvm.LawKit.callS X129 hx (y := (⟨"hotstate/sort/VarInts", "read", "([BI)I"⟩ : MethodName)) hown (mvT hZ (hw _ (List.mem_of_getElem? (i := 6) rfl))) (mvT hZ (hw _ (List.mem_of_getElem? (i := 7) rfl))) (mvT hZ (hw _ (List.mem_of_getElem? (i := 8) rfl))) (mvT hZ (hw _ (List.mem_of_getElem? (i := 9) rfl))) (by decide) (backOf (W := 0) (rm2n5 l Z a0 hw [] o8 (1 : Int32) (nar .byte (f1_0 i5 (0 : Int32) (5 : Int32))) (nar .byte (f1_0 i5 (1 : Int32) (5 : Int32))) (nar .byte (f1_0 i5 (2 : Int32) (5 : Int32))) (nar .byte (f1_0 i5 (3 : Int32) (5 : Int32))) (nar .byte (f1_0 i5 (4 : Int32) (5 : Int32))) [(.int xo8_0), (.int (nar .byte (f1_0 i5 (0 : Int32) (5 : Int32)))), (.int (nar .byte (f1_0 i5 (1 : Int32) (5 : Int32)))), (.int (nar .byte (f1_0 i5 (2 : Int32) (5 : Int32)))), (.int (nar .byte (f1_0 i5 (3 : Int32) (5 : Int32)))), (.int (nar .byte (f1_0 i5 (4 : Int32) (5 : Int32)))), (.int xo8_6), (.int xo8_7), (.int xo8_8)] h129 n0 Ao8_129 (by decide) rfl rfl rfl rfl rfl (own_last5 i5)) hZ (hw _ (List.mem_of_getElem? (i := 9) rfl)) (hw _ (List.mem_of_getElem? (i := 8) rfl)) (by decide) (by decide)) (g := (mkF m 262 #[.val (.int i0), .val (.int i1), .val (.long j2), .second, .val (.int i4), .val (.int i5), .val (.int (1 : Int32)), .val (.int (5 : Int32)), .val (.ref o8)] [(.int (1 : Int32)), (.ref o8)])) rfl (by rw [hml]; rfl) (argsL := [(.ref o8), (.int (1 : Int32))]) (rest := []) (lenOf pd2 rfl) rfl (by show 2 * 0 + _ ≤ _; exact Nat.le_of_eq rfl) (hb hby at_262) (fun _ _ => ⟨rfl, e129, (by decide : 1 + 0 ≤ _), (by decide : 9 + 0 ≤ _)⟩)
      dsimp only [Pt.U, Pt.locs, Pt.cells, Pt.slots] at X130 l130 y130 z130 st130 hQ130
      subst l130 y130 z130
      obtain ⟨rfl, Nq130, e130⟩ := hQ130
      have N130 := Fr.app N129 Nq130
      refine own_step (T' := T130) (f' := (mkF m 265 #[.val (.int i0), .val (.int i1), .val (.long j2), .second, .val (.int i4), .val (.int i5), .val (.int (1 : Int32)), .val (.int (5 : Int32)), .val (.ref o8)] [(.int (f2n5_0 (1 : Int32) (nar .byte (f1_0 i5 (0 : Int32) (5 : Int32))) (nar .byte (f1_0 i5 (1 : Int32) (5 : Int32))) (nar .byte (f1_0 i5 (2 : Int32) (5 : Int32))) (nar .byte (f1_0 i5 (3 : Int32) (5 : Int32))) (nar .byte (f1_0 i5 (4 : Int32) (5 : Int32)))))])) st130 ?_
      refine own_step (T' := T130) (f' := (mkF m 267 #[.val (.int i0), .val (.int i1), .val (.long j2), .second, .val (.int i4), .val (.int i5), .val (.int (1 : Int32)), .val (.int (5 : Int32)), .val (.ref o8)] [(.int i5), (.int (f2n5_0 (1 : Int32) (nar .byte (f1_0 i5 (0 : Int32) (5 : Int32))) (nar .byte (f1_0 i5 (1 : Int32) (5 : Int32))) (nar .byte (f1_0 i5 (2 : Int32) (5 : Int32))) (nar .byte (f1_0 i5 (3 : Int32) (5 : Int32))) (nar .byte (f1_0 i5 (4 : Int32) (5 : Int32)))))])) (fun t kt => ?_) ?_
      · show Steps p.tables e below (T130.setTop (mkF m 265 #[.val (.int i0), .val (.int i1), .val (.long j2), .second, .val (.int i4), .val (.int i5), .val (.int (1 : Int32)), .val (.int (5 : Int32)), .val (.ref o8)] [(.int (f2n5_0 (1 : Int32) (nar .byte (f1_0 i5 (0 : Int32) (5 : Int32))) (nar .byte (f1_0 i5 (1 : Int32) (5 : Int32))) (nar .byte (f1_0 i5 (2 : Int32) (5 : Int32))) (nar .byte (f1_0 i5 (3 : Int32) (5 : Int32))) (nar .byte (f1_0 i5 (4 : Int32) (5 : Int32)))))])) _
        refine XS.iload X130.here hx rfl (hb hby at_265) rfl ?_
        exact kt
      by_cases hc267_131 : (f2n5_0 (1 : Int32) (nar .byte (f1_0 i5 (0 : Int32) (5 : Int32))) (nar .byte (f1_0 i5 (1 : Int32) (5 : Int32))) (nar .byte (f1_0 i5 (2 : Int32) (5 : Int32))) (nar .byte (f1_0 i5 (3 : Int32) (5 : Int32))) (nar .byte (f1_0 i5 (4 : Int32) (5 : Int32)))) = i5
      · replace hr := hr.trans (if_pos hc267_131)
        refine own_step (T' := T130) (f' := (mkF m 270 #[.val (.int i0), .val (.int i1), .val (.long j2), .second, .val (.int i4), .val (.int i5), .val (.int (1 : Int32)), .val (.int (5 : Int32)), .val (.ref o8)] [])) (fun t kt => ?_) ?_
        · show Steps p.tables e below (T130.setTop (mkF m 267 #[.val (.int i0), .val (.int i1), .val (.long j2), .second, .val (.int i4), .val (.int i5), .val (.int (1 : Int32)), .val (.int (5 : Int32)), .val (.ref o8)] [(.int i5), (.int (f2n5_0 (1 : Int32) (nar .byte (f1_0 i5 (0 : Int32) (5 : Int32))) (nar .byte (f1_0 i5 (1 : Int32) (5 : Int32))) (nar .byte (f1_0 i5 (2 : Int32) (5 : Int32))) (nar .byte (f1_0 i5 (3 : Int32) (5 : Int32))) (nar .byte (f1_0 i5 (4 : Int32) (5 : Int32)))))])) _
          refine XS.icmpNo X130.here hx rfl (hb hby at_267) rfl (teq hc267_131).2 kt
        refine own_step (T' := T130) (f' := (mkF m 275 #[.val (.int i0), .val (.int i1), .val (.long j2), .second, .val (.int i4), .val (.int i5), .val (.int (1 : Int32)), .val (.int (5 : Int32)), .val (.ref o8)] [(.int (1 : Int32))])) (fun t kt => ?_) ?_
        · show Steps p.tables e below (T130.setTop (mkF m 270 #[.val (.int i0), .val (.int i1), .val (.long j2), .second, .val (.int i4), .val (.int i5), .val (.int (1 : Int32)), .val (.int (5 : Int32)), .val (.ref o8)] [])) _
          refine XS.iconst X130.here hx rfl (hb hby at_270) ?_
          show Steps p.tables e below (T130.setTop (mkF m 271 #[.val (.int i0), .val (.int i1), .val (.long j2), .second, .val (.int i4), .val (.int i5), .val (.int (1 : Int32)), .val (.int (5 : Int32)), .val (.ref o8)] [(.int (1 : Int32))])) _
          refine XS.goto X130.here hx rfl (pc0 := 271) (pc' := 275) rfl (hb hby at_271) (by decide) (by decide) ?_
          exact kt
        exact own_retZ X130 hx hret (by simp) hlk (hb hby at_275) (by decide) (by decide) ⟨congrArg (fun z => some (Value.int z)) hr.symm, N130⟩
      · replace hr := hr.trans (if_neg hc267_131)
        refine own_step (T' := T130) (f' := (mkF m 274 #[.val (.int i0), .val (.int i1), .val (.long j2), .second, .val (.int i4), .val (.int i5), .val (.int (1 : Int32)), .val (.int (5 : Int32)), .val (.ref o8)] [])) (fun t kt => ?_) ?_
        · show Steps p.tables e below (T130.setTop (mkF m 267 #[.val (.int i0), .val (.int i1), .val (.long j2), .second, .val (.int i4), .val (.int i5), .val (.int (1 : Int32)), .val (.int (5 : Int32)), .val (.ref o8)] [(.int i5), (.int (f2n5_0 (1 : Int32) (nar .byte (f1_0 i5 (0 : Int32) (5 : Int32))) (nar .byte (f1_0 i5 (1 : Int32) (5 : Int32))) (nar .byte (f1_0 i5 (2 : Int32) (5 : Int32))) (nar .byte (f1_0 i5 (3 : Int32) (5 : Int32))) (nar .byte (f1_0 i5 (4 : Int32) (5 : Int32)))))])) _
          refine XS.icmpYes X130.here hx rfl (pc0 := 267) (pc' := 274) rfl (hb hby at_267) rfl (feq hc267_131).2 (by decide) (by decide) kt
        refine own_step (T' := T130) (f' := (mkF m 275 #[.val (.int i0), .val (.int i1), .val (.long j2), .second, .val (.int i4), .val (.int i5), .val (.int (1 : Int32)), .val (.int (5 : Int32)), .val (.ref o8)] [(.int (0 : Int32))])) (fun t kt => ?_) ?_
        · show Steps p.tables e below (T130.setTop (mkF m 274 #[.val (.int i0), .val (.int i1), .val (.long j2), .second, .val (.int i4), .val (.int i5), .val (.int (1 : Int32)), .val (.int (5 : Int32)), .val (.ref o8)] [])) _
          refine XS.iconst X130.here hx rfl (hb hby at_274) ?_
          exact kt
        exact own_retZ X130 hx hret (by simp) hlk (hb hby at_275) (by decide) (by decide) ⟨congrArg (fun z => some (Value.int z)) hr.symm, N130⟩
  · replace hr := hr.trans ((if_neg (by decide)).trans ((if_neg (by decide)).trans (if_pos rfl)))
    rcases hn with rfl | rfl | rfl | rfl | rfl
    · replace hr := hr.trans (if_pos rfl)
      refine own_step (T' := T0) (f' := (mkF m 170 #[.val (.int i0), .val (.int i1), .val (.long j2), .second, .val (.int i4), .val (.int i5), .val (.int (2 : Int32)), .val (.int (1 : Int32)), .val (.ref o8)] [(.int (1 : Int32)), (.int (0 : Int32)), (.int i5), (.int (2 : Int32)), (.ref o8)])) (fun t kt => ?_) ?_
      · show Steps p.tables e below (T0.setTop (mkF m 161 #[.val (.int i0), .val (.int i1), .val (.long j2), .second, .val (.int i4), .val (.int i5), .val (.int (2 : Int32)), .val (.int (1 : Int32)), .val (.ref o8)] [])) _
        refine XS.aload X0.here hx rfl (hb hby at_161) rfl rfl ?_
        show Steps p.tables e below (T0.setTop (mkF m 163 #[.val (.int i0), .val (.int i1), .val (.long j2), .second, .val (.int i4), .val (.int i5), .val (.int (2 : Int32)), .val (.int (1 : Int32)), .val (.ref o8)] [(.ref o8)])) _
        refine XS.iload X0.here hx rfl (hb hby at_163) rfl ?_
        show Steps p.tables e below (T0.setTop (mkF m 165 #[.val (.int i0), .val (.int i1), .val (.long j2), .second, .val (.int i4), .val (.int i5), .val (.int (2 : Int32)), .val (.int (1 : Int32)), .val (.ref o8)] [(.int (2 : Int32)), (.ref o8)])) _
        refine XS.iload X0.here hx rfl (hb hby at_165) rfl ?_
        show Steps p.tables e below (T0.setTop (mkF m 167 #[.val (.int i0), .val (.int i1), .val (.long j2), .second, .val (.int i4), .val (.int i5), .val (.int (2 : Int32)), .val (.int (1 : Int32)), .val (.ref o8)] [(.int i5), (.int (2 : Int32)), (.ref o8)])) _
        refine XS.iconst X0.here hx rfl (hb hby at_167) ?_
        show Steps p.tables e below (T0.setTop (mkF m 168 #[.val (.int i0), .val (.int i1), .val (.long j2), .second, .val (.int i4), .val (.int i5), .val (.int (2 : Int32)), .val (.int (1 : Int32)), .val (.ref o8)] [(.int (0 : Int32)), (.int i5), (.int (2 : Int32)), (.ref o8)])) _
        refine XS.iload X0.here hx rfl (hb hby at_168) rfl ?_
        exact kt
      obtain ⟨_, _, ⟨T132, L132, k132, n132⟩, -, X132, ⟨Lc132, hQ132, l132, y132, z132⟩, st132⟩ := Jvm.LawKit.callS X0 hx (y := (⟨"hotstate/sort/VarIntsReadPinLaw", "enc", "(III)B"⟩ : MethodName)) hown (mvT hZ (hw _ (List.mem_of_getElem? (i := 2) rfl))) (mvT hZ (hw _ (List.mem_of_getElem? (i := 3) rfl))) (mvT hZ (hw _ (List.mem_of_getElem? (i := 4) rfl))) (mvT hZ (hw _ (List.mem_of_getElem? (i := 5) rfl))) (by decide) (backOf (W := 2) (rm1 l Z a0 hw [] i5 (0 : Int32) (1 : Int32)  h0 n0 ) hZ (hw _ (List.mem_of_getElem? (i := 5) rfl)) (hw _ (List.mem_of_getElem? (i := 4) rfl)) (by decide) (by decide)) (g := (mkF m 170 #[.val (.int i0), .val (.int i1), .val (.long j2), .second, .val (.int i4), .val (.int i5), .val (.int (2 : Int32)), .val (.int (1 : Int32)), .val (.ref o8)] [(.int (1 : Int32)), (.int (0 : Int32)), (.int i5), (.int (2 : Int32)), (.ref o8)])) rfl (by rw [hml]; rfl) (argsL := [(.int i5), (.int (0 : Int32)), (.int (1 : Int32))]) (rest := [(.int (2 : Int32)), (.ref o8)]) (lenOf pd1 rfl) rfl (by show 2 * 0 + _ ≤ _; exact Nat.le_of_eq rfl) (hb hby at_170) (fun _ _ => ⟨rfl, e0, (by decide : 1 + 0 ≤ _), (by decide : 9 + 0 ≤ _)⟩)
      dsimp only [Pt.U, Pt.locs, Pt.cells, Pt.slots] at X132 l132 y132 z132 st132 hQ132
      subst l132 y132 z132
      obtain ⟨rfl, Nq132, e132⟩ := hQ132
      have N132 := Fr.app N0 Nq132
      refine own_step (T' := T132) (f' := (mkF m 173 #[.val (.int i0), .val (.int i1), .val (.long j2), .second, .val (.int i4), .val (.int i5), .val (.int (2 : Int32)), .val (.int (1 : Int32)), .val (.ref o8)] [(.int (f1_0 i5 (0 : Int32) (1 : Int32))), (.int (2 : Int32)), (.ref o8)])) st132 ?_
      obtain ⟨T133, h133, Lq133, X133, N133, e133, W133, Z133, Aq133, st133⟩ := own_stB X132 hx hZ e132 Ao8 (j := (2 : Int32)) (by decide) (k := 2) (by decide) (Nat.le_of_ble_eq_true rfl) N132 go8 Z0 (g := (mkF m 173 #[.val (.int i0), .val (.int i1), .val (.long j2), .second, .val (.int i4), .val (.int i5), .val (.int (2 : Int32)), .val (.int (1 : Int32)), .val (.ref o8)] [(.int (f1_0 i5 (0 : Int32) (1 : Int32))), (.int (2 : Int32)), (.ref o8)])) rfl rfl (hb hby at_173)
      have Ao8_133 : own_A Z h133 o8 .byte [(.int xo8_0), (.int xo8_1), (.int (nar .byte (f1_0 i5 (0 : Int32) (1 : Int32)))), (.int xo8_3), (.int xo8_4), (.int xo8_5), (.int xo8_6), (.int xo8_7), (.int xo8_8)] := Aq133
      refine own_step (T' := T133) (f' := (mkF m 174 #[.val (.int i0), .val (.int i1), .val (.long j2), .second, .val (.int i4), .val (.int i5), .val (.int (2 : Int32)), .val (.int (1 : Int32)), .val (.ref o8)] [])) st133 ?_
      refine own_step (T' := T133) (f' := (mkF m 177 #[.val (.int i0), .val (.int i1), .val (.long j2), .second, .val (.int i4), .val (.int i5), .val (.int (2 : Int32)), .val (.int (1 : Int32)), .val (.ref o8)] [(.int (1 : Int32)), (.int (1 : Int32))])) (fun t kt => ?_) ?_
      · show Steps p.tables e below (T133.setTop (mkF m 174 #[.val (.int i0), .val (.int i1), .val (.long j2), .second, .val (.int i4), .val (.int i5), .val (.int (2 : Int32)), .val (.int (1 : Int32)), .val (.ref o8)] [])) _
        refine XS.iload X133.here hx rfl (hb hby at_174) rfl ?_
        show Steps p.tables e below (T133.setTop (mkF m 176 #[.val (.int i0), .val (.int i1), .val (.long j2), .second, .val (.int i4), .val (.int i5), .val (.int (2 : Int32)), .val (.int (1 : Int32)), .val (.ref o8)] [(.int (1 : Int32))])) _
        refine XS.iconst X133.here hx rfl (hb hby at_176) ?_
        exact kt
      refine own_step (T' := T133) (f' := (mkF m 195 #[.val (.int i0), .val (.int i1), .val (.long j2), .second, .val (.int i4), .val (.int i5), .val (.int (2 : Int32)), .val (.int (1 : Int32)), .val (.ref o8)] [])) (fun t kt => ?_) ?_
      · show Steps p.tables e below (T133.setTop (mkF m 177 #[.val (.int i0), .val (.int i1), .val (.long j2), .second, .val (.int i4), .val (.int i5), .val (.int (2 : Int32)), .val (.int (1 : Int32)), .val (.ref o8)] [(.int (1 : Int32)), (.int (1 : Int32))])) _
        refine XS.icmpYes X133.here hx rfl (pc0 := 177) (pc' := 195) rfl (hb hby at_177) rfl (flt (by decide : ¬ ((1 : Int32) < (1 : Int32)))).2.2.2 (by decide) (by decide) kt
      refine own_step (T' := T133) (f' := (mkF m 198 #[.val (.int i0), .val (.int i1), .val (.long j2), .second, .val (.int i4), .val (.int i5), .val (.int (2 : Int32)), .val (.int (1 : Int32)), .val (.ref o8)] [(.int (2 : Int32)), (.int (1 : Int32))])) (fun t kt => ?_) ?_
      · show Steps p.tables e below (T133.setTop (mkF m 195 #[.val (.int i0), .val (.int i1), .val (.long j2), .second, .val (.int i4), .val (.int i5), .val (.int (2 : Int32)), .val (.int (1 : Int32)), .val (.ref o8)] [])) _
        refine XS.iload X133.here hx rfl (hb hby at_195) rfl ?_
        show Steps p.tables e below (T133.setTop (mkF m 197 #[.val (.int i0), .val (.int i1), .val (.long j2), .second, .val (.int i4), .val (.int i5), .val (.int (2 : Int32)), .val (.int (1 : Int32)), .val (.ref o8)] [(.int (1 : Int32))])) _
        refine XS.iconst X133.here hx rfl (hb hby at_197) ?_
        exact kt
      refine own_step (T' := T133) (f' := (mkF m 216 #[.val (.int i0), .val (.int i1), .val (.long j2), .second, .val (.int i4), .val (.int i5), .val (.int (2 : Int32)), .val (.int (1 : Int32)), .val (.ref o8)] [])) (fun t kt => ?_) ?_
      · show Steps p.tables e below (T133.setTop (mkF m 198 #[.val (.int i0), .val (.int i1), .val (.long j2), .second, .val (.int i4), .val (.int i5), .val (.int (2 : Int32)), .val (.int (1 : Int32)), .val (.ref o8)] [(.int (2 : Int32)), (.int (1 : Int32))])) _
        refine XS.icmpYes X133.here hx rfl (pc0 := 198) (pc' := 216) rfl (hb hby at_198) rfl (flt (by decide : ¬ ((2 : Int32) < (1 : Int32)))).2.2.2 (by decide) (by decide) kt
      refine own_step (T' := T133) (f' := (mkF m 219 #[.val (.int i0), .val (.int i1), .val (.long j2), .second, .val (.int i4), .val (.int i5), .val (.int (2 : Int32)), .val (.int (1 : Int32)), .val (.ref o8)] [(.int (3 : Int32)), (.int (1 : Int32))])) (fun t kt => ?_) ?_
      · show Steps p.tables e below (T133.setTop (mkF m 216 #[.val (.int i0), .val (.int i1), .val (.long j2), .second, .val (.int i4), .val (.int i5), .val (.int (2 : Int32)), .val (.int (1 : Int32)), .val (.ref o8)] [])) _
        refine XS.iload X133.here hx rfl (hb hby at_216) rfl ?_
        show Steps p.tables e below (T133.setTop (mkF m 218 #[.val (.int i0), .val (.int i1), .val (.long j2), .second, .val (.int i4), .val (.int i5), .val (.int (2 : Int32)), .val (.int (1 : Int32)), .val (.ref o8)] [(.int (1 : Int32))])) _
        refine XS.iconst X133.here hx rfl (hb hby at_218) ?_
        exact kt
      refine own_step (T' := T133) (f' := (mkF m 237 #[.val (.int i0), .val (.int i1), .val (.long j2), .second, .val (.int i4), .val (.int i5), .val (.int (2 : Int32)), .val (.int (1 : Int32)), .val (.ref o8)] [])) (fun t kt => ?_) ?_
      · show Steps p.tables e below (T133.setTop (mkF m 219 #[.val (.int i0), .val (.int i1), .val (.long j2), .second, .val (.int i4), .val (.int i5), .val (.int (2 : Int32)), .val (.int (1 : Int32)), .val (.ref o8)] [(.int (3 : Int32)), (.int (1 : Int32))])) _
        refine XS.icmpYes X133.here hx rfl (pc0 := 219) (pc' := 237) rfl (hb hby at_219) rfl (flt (by decide : ¬ ((3 : Int32) < (1 : Int32)))).2.2.2 (by decide) (by decide) kt
      refine own_step (T' := T133) (f' := (mkF m 240 #[.val (.int i0), .val (.int i1), .val (.long j2), .second, .val (.int i4), .val (.int i5), .val (.int (2 : Int32)), .val (.int (1 : Int32)), .val (.ref o8)] [(.int (4 : Int32)), (.int (1 : Int32))])) (fun t kt => ?_) ?_
      · show Steps p.tables e below (T133.setTop (mkF m 237 #[.val (.int i0), .val (.int i1), .val (.long j2), .second, .val (.int i4), .val (.int i5), .val (.int (2 : Int32)), .val (.int (1 : Int32)), .val (.ref o8)] [])) _
        refine XS.iload X133.here hx rfl (hb hby at_237) rfl ?_
        show Steps p.tables e below (T133.setTop (mkF m 239 #[.val (.int i0), .val (.int i1), .val (.long j2), .second, .val (.int i4), .val (.int i5), .val (.int (2 : Int32)), .val (.int (1 : Int32)), .val (.ref o8)] [(.int (1 : Int32))])) _
        refine XS.iconst X133.here hx rfl (hb hby at_239) ?_
        exact kt
      refine own_step (T' := T133) (f' := (mkF m 258 #[.val (.int i0), .val (.int i1), .val (.long j2), .second, .val (.int i4), .val (.int i5), .val (.int (2 : Int32)), .val (.int (1 : Int32)), .val (.ref o8)] [])) (fun t kt => ?_) ?_
      · show Steps p.tables e below (T133.setTop (mkF m 240 #[.val (.int i0), .val (.int i1), .val (.long j2), .second, .val (.int i4), .val (.int i5), .val (.int (2 : Int32)), .val (.int (1 : Int32)), .val (.ref o8)] [(.int (4 : Int32)), (.int (1 : Int32))])) _
        refine XS.icmpYes X133.here hx rfl (pc0 := 240) (pc' := 258) rfl (hb hby at_240) rfl (flt (by decide : ¬ ((4 : Int32) < (1 : Int32)))).2.2.2 (by decide) (by decide) kt
      refine own_step (T' := T133) (f' := (mkF m 262 #[.val (.int i0), .val (.int i1), .val (.long j2), .second, .val (.int i4), .val (.int i5), .val (.int (2 : Int32)), .val (.int (1 : Int32)), .val (.ref o8)] [(.int (2 : Int32)), (.ref o8)])) (fun t kt => ?_) ?_
      · show Steps p.tables e below (T133.setTop (mkF m 258 #[.val (.int i0), .val (.int i1), .val (.long j2), .second, .val (.int i4), .val (.int i5), .val (.int (2 : Int32)), .val (.int (1 : Int32)), .val (.ref o8)] [])) _
        refine XS.aload X133.here hx rfl (hb hby at_258) rfl rfl ?_
        show Steps p.tables e below (T133.setTop (mkF m 260 #[.val (.int i0), .val (.int i1), .val (.long j2), .second, .val (.int i4), .val (.int i5), .val (.int (2 : Int32)), .val (.int (1 : Int32)), .val (.ref o8)] [(.ref o8)])) _
        refine XS.iload X133.here hx rfl (hb hby at_260) rfl ?_
        exact kt
      obtain ⟨_, _, ⟨T138, L138, k138, n138⟩, -, X138, ⟨Lc138, hQ138, l138, y138, z138⟩, st138⟩ := Jvm.LawKit.callS X133 hx (y := (⟨"hotstate/sort/VarInts", "read", "([BI)I"⟩ : MethodName)) hown (mvT hZ (hw _ (List.mem_of_getElem? (i := 6) rfl))) (mvT hZ (hw _ (List.mem_of_getElem? (i := 7) rfl))) (mvT hZ (hw _ (List.mem_of_getElem? (i := 8) rfl))) (mvT hZ (hw _ (List.mem_of_getElem? (i := 9) rfl))) (by decide) (backOf (W := 0) (rm2n1 l Z a0 hw [] o8 (2 : Int32) (nar .byte (f1_0 i5 (0 : Int32) (1 : Int32))) [(.int xo8_0), (.int xo8_1), (.int (nar .byte (f1_0 i5 (0 : Int32) (1 : Int32)))), (.int xo8_3), (.int xo8_4), (.int xo8_5), (.int xo8_6), (.int xo8_7), (.int xo8_8)] h133 n0 Ao8_133 (by decide) rfl (own_last1 i5)) hZ (hw _ (List.mem_of_getElem? (i := 9) rfl)) (hw _ (List.mem_of_getElem? (i := 8) rfl)) (by decide) (by decide)) (g := (mkF m 262 #[.val (.int i0), .val (.int i1), .val (.long j2), .second, .val (.int i4), .val (.int i5), .val (.int (2 : Int32)), .val (.int (1 : Int32)), .val (.ref o8)] [(.int (2 : Int32)), (.ref o8)])) rfl (by rw [hml]; rfl) (argsL := [(.ref o8), (.int (2 : Int32))]) (rest := []) (lenOf pd2 rfl) rfl (by show 2 * 0 + _ ≤ _; exact Nat.le_of_eq rfl) (hb hby at_262) (fun _ _ => ⟨rfl, e133, (by decide : 1 + 0 ≤ _), (by decide : 9 + 0 ≤ _)⟩)
      dsimp only [Pt.U, Pt.locs, Pt.cells, Pt.slots] at X138 l138 y138 z138 st138 hQ138
      subst l138 y138 z138
      obtain ⟨rfl, Nq138, e138⟩ := hQ138
      have N138 := Fr.app N133 Nq138
      refine own_step (T' := T138) (f' := (mkF m 265 #[.val (.int i0), .val (.int i1), .val (.long j2), .second, .val (.int i4), .val (.int i5), .val (.int (2 : Int32)), .val (.int (1 : Int32)), .val (.ref o8)] [(.int (f2n1_0 (2 : Int32) (nar .byte (f1_0 i5 (0 : Int32) (1 : Int32)))))])) st138 ?_
      refine own_step (T' := T138) (f' := (mkF m 267 #[.val (.int i0), .val (.int i1), .val (.long j2), .second, .val (.int i4), .val (.int i5), .val (.int (2 : Int32)), .val (.int (1 : Int32)), .val (.ref o8)] [(.int i5), (.int (f2n1_0 (2 : Int32) (nar .byte (f1_0 i5 (0 : Int32) (1 : Int32)))))])) (fun t kt => ?_) ?_
      · show Steps p.tables e below (T138.setTop (mkF m 265 #[.val (.int i0), .val (.int i1), .val (.long j2), .second, .val (.int i4), .val (.int i5), .val (.int (2 : Int32)), .val (.int (1 : Int32)), .val (.ref o8)] [(.int (f2n1_0 (2 : Int32) (nar .byte (f1_0 i5 (0 : Int32) (1 : Int32)))))])) _
        refine XS.iload X138.here hx rfl (hb hby at_265) rfl ?_
        exact kt
      by_cases hc267_139 : (f2n1_0 (2 : Int32) (nar .byte (f1_0 i5 (0 : Int32) (1 : Int32)))) = i5
      · replace hr := hr.trans (if_pos hc267_139)
        refine own_step (T' := T138) (f' := (mkF m 270 #[.val (.int i0), .val (.int i1), .val (.long j2), .second, .val (.int i4), .val (.int i5), .val (.int (2 : Int32)), .val (.int (1 : Int32)), .val (.ref o8)] [])) (fun t kt => ?_) ?_
        · show Steps p.tables e below (T138.setTop (mkF m 267 #[.val (.int i0), .val (.int i1), .val (.long j2), .second, .val (.int i4), .val (.int i5), .val (.int (2 : Int32)), .val (.int (1 : Int32)), .val (.ref o8)] [(.int i5), (.int (f2n1_0 (2 : Int32) (nar .byte (f1_0 i5 (0 : Int32) (1 : Int32)))))])) _
          refine XS.icmpNo X138.here hx rfl (hb hby at_267) rfl (teq hc267_139).2 kt
        refine own_step (T' := T138) (f' := (mkF m 275 #[.val (.int i0), .val (.int i1), .val (.long j2), .second, .val (.int i4), .val (.int i5), .val (.int (2 : Int32)), .val (.int (1 : Int32)), .val (.ref o8)] [(.int (1 : Int32))])) (fun t kt => ?_) ?_
        · show Steps p.tables e below (T138.setTop (mkF m 270 #[.val (.int i0), .val (.int i1), .val (.long j2), .second, .val (.int i4), .val (.int i5), .val (.int (2 : Int32)), .val (.int (1 : Int32)), .val (.ref o8)] [])) _
          refine XS.iconst X138.here hx rfl (hb hby at_270) ?_
          show Steps p.tables e below (T138.setTop (mkF m 271 #[.val (.int i0), .val (.int i1), .val (.long j2), .second, .val (.int i4), .val (.int i5), .val (.int (2 : Int32)), .val (.int (1 : Int32)), .val (.ref o8)] [(.int (1 : Int32))])) _
          refine XS.goto X138.here hx rfl (pc0 := 271) (pc' := 275) rfl (hb hby at_271) (by decide) (by decide) ?_
          exact kt
        exact own_retZ X138 hx hret (by simp) hlk (hb hby at_275) (by decide) (by decide) ⟨congrArg (fun z => some (Value.int z)) hr.symm, N138⟩
      · replace hr := hr.trans (if_neg hc267_139)
        refine own_step (T' := T138) (f' := (mkF m 274 #[.val (.int i0), .val (.int i1), .val (.long j2), .second, .val (.int i4), .val (.int i5), .val (.int (2 : Int32)), .val (.int (1 : Int32)), .val (.ref o8)] [])) (fun t kt => ?_) ?_
        · show Steps p.tables e below (T138.setTop (mkF m 267 #[.val (.int i0), .val (.int i1), .val (.long j2), .second, .val (.int i4), .val (.int i5), .val (.int (2 : Int32)), .val (.int (1 : Int32)), .val (.ref o8)] [(.int i5), (.int (f2n1_0 (2 : Int32) (nar .byte (f1_0 i5 (0 : Int32) (1 : Int32)))))])) _
          refine XS.icmpYes X138.here hx rfl (pc0 := 267) (pc' := 274) rfl (hb hby at_267) rfl (feq hc267_139).2 (by decide) (by decide) kt
        refine own_step (T' := T138) (f' := (mkF m 275 #[.val (.int i0), .val (.int i1), .val (.long j2), .second, .val (.int i4), .val (.int i5), .val (.int (2 : Int32)), .val (.int (1 : Int32)), .val (.ref o8)] [(.int (0 : Int32))])) (fun t kt => ?_) ?_
        · show Steps p.tables e below (T138.setTop (mkF m 274 #[.val (.int i0), .val (.int i1), .val (.long j2), .second, .val (.int i4), .val (.int i5), .val (.int (2 : Int32)), .val (.int (1 : Int32)), .val (.ref o8)] [])) _
          refine XS.iconst X138.here hx rfl (hb hby at_274) ?_
          exact kt
        exact own_retZ X138 hx hret (by simp) hlk (hb hby at_275) (by decide) (by decide) ⟨congrArg (fun z => some (Value.int z)) hr.symm, N138⟩
    · replace hr := hr.trans ((if_neg (by decide)).trans (if_pos rfl))
      refine own_step (T' := T0) (f' := (mkF m 170 #[.val (.int i0), .val (.int i1), .val (.long j2), .second, .val (.int i4), .val (.int i5), .val (.int (2 : Int32)), .val (.int (2 : Int32)), .val (.ref o8)] [(.int (2 : Int32)), (.int (0 : Int32)), (.int i5), (.int (2 : Int32)), (.ref o8)])) (fun t kt => ?_) ?_
      · show Steps p.tables e below (T0.setTop (mkF m 161 #[.val (.int i0), .val (.int i1), .val (.long j2), .second, .val (.int i4), .val (.int i5), .val (.int (2 : Int32)), .val (.int (2 : Int32)), .val (.ref o8)] [])) _
        refine XS.aload X0.here hx rfl (hb hby at_161) rfl rfl ?_
        show Steps p.tables e below (T0.setTop (mkF m 163 #[.val (.int i0), .val (.int i1), .val (.long j2), .second, .val (.int i4), .val (.int i5), .val (.int (2 : Int32)), .val (.int (2 : Int32)), .val (.ref o8)] [(.ref o8)])) _
        refine XS.iload X0.here hx rfl (hb hby at_163) rfl ?_
        show Steps p.tables e below (T0.setTop (mkF m 165 #[.val (.int i0), .val (.int i1), .val (.long j2), .second, .val (.int i4), .val (.int i5), .val (.int (2 : Int32)), .val (.int (2 : Int32)), .val (.ref o8)] [(.int (2 : Int32)), (.ref o8)])) _
        refine XS.iload X0.here hx rfl (hb hby at_165) rfl ?_
        show Steps p.tables e below (T0.setTop (mkF m 167 #[.val (.int i0), .val (.int i1), .val (.long j2), .second, .val (.int i4), .val (.int i5), .val (.int (2 : Int32)), .val (.int (2 : Int32)), .val (.ref o8)] [(.int i5), (.int (2 : Int32)), (.ref o8)])) _
        refine XS.iconst X0.here hx rfl (hb hby at_167) ?_
        show Steps p.tables e below (T0.setTop (mkF m 168 #[.val (.int i0), .val (.int i1), .val (.long j2), .second, .val (.int i4), .val (.int i5), .val (.int (2 : Int32)), .val (.int (2 : Int32)), .val (.ref o8)] [(.int (0 : Int32)), (.int i5), (.int (2 : Int32)), (.ref o8)])) _
        refine XS.iload X0.here hx rfl (hb hby at_168) rfl ?_
        exact kt
      obtain ⟨_, _, ⟨T140, L140, k140, n140⟩, -, X140, ⟨Lc140, hQ140, l140, y140, z140⟩, st140⟩ := Jvm.LawKit.callS X0 hx (y := (⟨"hotstate/sort/VarIntsReadPinLaw", "enc", "(III)B"⟩ : MethodName)) hown (mvT hZ (hw _ (List.mem_of_getElem? (i := 2) rfl))) (mvT hZ (hw _ (List.mem_of_getElem? (i := 3) rfl))) (mvT hZ (hw _ (List.mem_of_getElem? (i := 4) rfl))) (mvT hZ (hw _ (List.mem_of_getElem? (i := 5) rfl))) (by decide) (backOf (W := 2) (rm1 l Z a0 hw [] i5 (0 : Int32) (2 : Int32)  h0 n0 ) hZ (hw _ (List.mem_of_getElem? (i := 5) rfl)) (hw _ (List.mem_of_getElem? (i := 4) rfl)) (by decide) (by decide)) (g := (mkF m 170 #[.val (.int i0), .val (.int i1), .val (.long j2), .second, .val (.int i4), .val (.int i5), .val (.int (2 : Int32)), .val (.int (2 : Int32)), .val (.ref o8)] [(.int (2 : Int32)), (.int (0 : Int32)), (.int i5), (.int (2 : Int32)), (.ref o8)])) rfl (by rw [hml]; rfl) (argsL := [(.int i5), (.int (0 : Int32)), (.int (2 : Int32))]) (rest := [(.int (2 : Int32)), (.ref o8)]) (lenOf pd1 rfl) rfl (by show 2 * 0 + _ ≤ _; exact Nat.le_of_eq rfl) (hb hby at_170) (fun _ _ => ⟨rfl, e0, (by decide : 1 + 0 ≤ _), (by decide : 9 + 0 ≤ _)⟩)
      dsimp only [Pt.U, Pt.locs, Pt.cells, Pt.slots] at X140 l140 y140 z140 st140 hQ140
      subst l140 y140 z140
      obtain ⟨rfl, Nq140, e140⟩ := hQ140
      have N140 := Fr.app N0 Nq140
      refine own_step (T' := T140) (f' := (mkF m 173 #[.val (.int i0), .val (.int i1), .val (.long j2), .second, .val (.int i4), .val (.int i5), .val (.int (2 : Int32)), .val (.int (2 : Int32)), .val (.ref o8)] [(.int (f1_0 i5 (0 : Int32) (2 : Int32))), (.int (2 : Int32)), (.ref o8)])) st140 ?_
      obtain ⟨T141, h141, Lq141, X141, N141, e141, W141, Z141, Aq141, st141⟩ := own_stB X140 hx hZ e140 Ao8 (j := (2 : Int32)) (by decide) (k := 2) (by decide) (Nat.le_of_ble_eq_true rfl) N140 go8 Z0 (g := (mkF m 173 #[.val (.int i0), .val (.int i1), .val (.long j2), .second, .val (.int i4), .val (.int i5), .val (.int (2 : Int32)), .val (.int (2 : Int32)), .val (.ref o8)] [(.int (f1_0 i5 (0 : Int32) (2 : Int32))), (.int (2 : Int32)), (.ref o8)])) rfl rfl (hb hby at_173)
      have Ao8_141 : own_A Z h141 o8 .byte [(.int xo8_0), (.int xo8_1), (.int (nar .byte (f1_0 i5 (0 : Int32) (2 : Int32)))), (.int xo8_3), (.int xo8_4), (.int xo8_5), (.int xo8_6), (.int xo8_7), (.int xo8_8)] := Aq141
      refine own_step (T' := T141) (f' := (mkF m 174 #[.val (.int i0), .val (.int i1), .val (.long j2), .second, .val (.int i4), .val (.int i5), .val (.int (2 : Int32)), .val (.int (2 : Int32)), .val (.ref o8)] [])) st141 ?_
      refine own_step (T' := T141) (f' := (mkF m 177 #[.val (.int i0), .val (.int i1), .val (.long j2), .second, .val (.int i4), .val (.int i5), .val (.int (2 : Int32)), .val (.int (2 : Int32)), .val (.ref o8)] [(.int (1 : Int32)), (.int (2 : Int32))])) (fun t kt => ?_) ?_
      · show Steps p.tables e below (T141.setTop (mkF m 174 #[.val (.int i0), .val (.int i1), .val (.long j2), .second, .val (.int i4), .val (.int i5), .val (.int (2 : Int32)), .val (.int (2 : Int32)), .val (.ref o8)] [])) _
        refine XS.iload X141.here hx rfl (hb hby at_174) rfl ?_
        show Steps p.tables e below (T141.setTop (mkF m 176 #[.val (.int i0), .val (.int i1), .val (.long j2), .second, .val (.int i4), .val (.int i5), .val (.int (2 : Int32)), .val (.int (2 : Int32)), .val (.ref o8)] [(.int (2 : Int32))])) _
        refine XS.iconst X141.here hx rfl (hb hby at_176) ?_
        exact kt
      refine own_step (T' := T141) (f' := (mkF m 180 #[.val (.int i0), .val (.int i1), .val (.long j2), .second, .val (.int i4), .val (.int i5), .val (.int (2 : Int32)), .val (.int (2 : Int32)), .val (.ref o8)] [])) (fun t kt => ?_) ?_
      · show Steps p.tables e below (T141.setTop (mkF m 177 #[.val (.int i0), .val (.int i1), .val (.long j2), .second, .val (.int i4), .val (.int i5), .val (.int (2 : Int32)), .val (.int (2 : Int32)), .val (.ref o8)] [(.int (1 : Int32)), (.int (2 : Int32))])) _
        refine XS.icmpNo X141.here hx rfl (hb hby at_177) rfl (tlt (by decide : ((1 : Int32) < (2 : Int32)))).2.2.2 kt
      refine own_step (T' := T141) (f' := (mkF m 191 #[.val (.int i0), .val (.int i1), .val (.long j2), .second, .val (.int i4), .val (.int i5), .val (.int (2 : Int32)), .val (.int (2 : Int32)), .val (.ref o8)] [(.int (2 : Int32)), (.int (1 : Int32)), (.int i5), (.int (3 : Int32)), (.ref o8)])) (fun t kt => ?_) ?_
      · show Steps p.tables e below (T141.setTop (mkF m 180 #[.val (.int i0), .val (.int i1), .val (.long j2), .second, .val (.int i4), .val (.int i5), .val (.int (2 : Int32)), .val (.int (2 : Int32)), .val (.ref o8)] [])) _
        refine XS.aload X141.here hx rfl (hb hby at_180) rfl rfl ?_
        show Steps p.tables e below (T141.setTop (mkF m 182 #[.val (.int i0), .val (.int i1), .val (.long j2), .second, .val (.int i4), .val (.int i5), .val (.int (2 : Int32)), .val (.int (2 : Int32)), .val (.ref o8)] [(.ref o8)])) _
        refine XS.iload X141.here hx rfl (hb hby at_182) rfl ?_
        show Steps p.tables e below (T141.setTop (mkF m 184 #[.val (.int i0), .val (.int i1), .val (.long j2), .second, .val (.int i4), .val (.int i5), .val (.int (2 : Int32)), .val (.int (2 : Int32)), .val (.ref o8)] [(.int (2 : Int32)), (.ref o8)])) _
        refine XS.iconst X141.here hx rfl (hb hby at_184) ?_
        show Steps p.tables e below (T141.setTop (mkF m 185 #[.val (.int i0), .val (.int i1), .val (.long j2), .second, .val (.int i4), .val (.int i5), .val (.int (2 : Int32)), .val (.int (2 : Int32)), .val (.ref o8)] [(.int (1 : Int32)), (.int (2 : Int32)), (.ref o8)])) _
        refine XS.iadd X141.here hx rfl (hb hby at_185) rfl ?_
        show Steps p.tables e below (T141.setTop (mkF m 186 #[.val (.int i0), .val (.int i1), .val (.long j2), .second, .val (.int i4), .val (.int i5), .val (.int (2 : Int32)), .val (.int (2 : Int32)), .val (.ref o8)] [(.int (3 : Int32)), (.ref o8)])) _
        refine XS.iload X141.here hx rfl (hb hby at_186) rfl ?_
        show Steps p.tables e below (T141.setTop (mkF m 188 #[.val (.int i0), .val (.int i1), .val (.long j2), .second, .val (.int i4), .val (.int i5), .val (.int (2 : Int32)), .val (.int (2 : Int32)), .val (.ref o8)] [(.int i5), (.int (3 : Int32)), (.ref o8)])) _
        refine XS.iconst X141.here hx rfl (hb hby at_188) ?_
        show Steps p.tables e below (T141.setTop (mkF m 189 #[.val (.int i0), .val (.int i1), .val (.long j2), .second, .val (.int i4), .val (.int i5), .val (.int (2 : Int32)), .val (.int (2 : Int32)), .val (.ref o8)] [(.int (1 : Int32)), (.int i5), (.int (3 : Int32)), (.ref o8)])) _
        refine XS.iload X141.here hx rfl (hb hby at_189) rfl ?_
        exact kt
      obtain ⟨_, _, ⟨T143, L143, k143, n143⟩, -, X143, ⟨Lc143, hQ143, l143, y143, z143⟩, st143⟩ := Jvm.LawKit.callS X141 hx (y := (⟨"hotstate/sort/VarIntsReadPinLaw", "enc", "(III)B"⟩ : MethodName)) hown (mvT hZ (hw _ (List.mem_of_getElem? (i := 2) rfl))) (mvT hZ (hw _ (List.mem_of_getElem? (i := 3) rfl))) (mvT hZ (hw _ (List.mem_of_getElem? (i := 4) rfl))) (mvT hZ (hw _ (List.mem_of_getElem? (i := 5) rfl))) (by decide) (backOf (W := 2) (rm1 l Z a0 hw [] i5 (1 : Int32) (2 : Int32)  h141 n0 ) hZ (hw _ (List.mem_of_getElem? (i := 5) rfl)) (hw _ (List.mem_of_getElem? (i := 4) rfl)) (by decide) (by decide)) (g := (mkF m 191 #[.val (.int i0), .val (.int i1), .val (.long j2), .second, .val (.int i4), .val (.int i5), .val (.int (2 : Int32)), .val (.int (2 : Int32)), .val (.ref o8)] [(.int (2 : Int32)), (.int (1 : Int32)), (.int i5), (.int (3 : Int32)), (.ref o8)])) rfl (by rw [hml]; rfl) (argsL := [(.int i5), (.int (1 : Int32)), (.int (2 : Int32))]) (rest := [(.int (3 : Int32)), (.ref o8)]) (lenOf pd1 rfl) rfl (by show 2 * 0 + _ ≤ _; exact Nat.le_of_eq rfl) (hb hby at_191) (fun _ _ => ⟨rfl, e141, (by decide : 1 + 0 ≤ _), (by decide : 9 + 0 ≤ _)⟩)
      dsimp only [Pt.U, Pt.locs, Pt.cells, Pt.slots] at X143 l143 y143 z143 st143 hQ143
      subst l143 y143 z143
      obtain ⟨rfl, Nq143, e143⟩ := hQ143
      have N143 := Fr.app N141 Nq143
      refine own_step (T' := T143) (f' := (mkF m 194 #[.val (.int i0), .val (.int i1), .val (.long j2), .second, .val (.int i4), .val (.int i5), .val (.int (2 : Int32)), .val (.int (2 : Int32)), .val (.ref o8)] [(.int (f1_0 i5 (1 : Int32) (2 : Int32))), (.int (3 : Int32)), (.ref o8)])) st143 ?_
      obtain ⟨T144, h144, Lq144, X144, N144, e144, W144, Z144, Aq144, st144⟩ := own_stB X143 hx hZ e143 Ao8_141 (j := (3 : Int32)) (by decide) (k := 3) (by decide) (Nat.le_of_ble_eq_true rfl) N143 go8 Z141 (g := (mkF m 194 #[.val (.int i0), .val (.int i1), .val (.long j2), .second, .val (.int i4), .val (.int i5), .val (.int (2 : Int32)), .val (.int (2 : Int32)), .val (.ref o8)] [(.int (f1_0 i5 (1 : Int32) (2 : Int32))), (.int (3 : Int32)), (.ref o8)])) rfl rfl (hb hby at_194)
      have Ao8_144 : own_A Z h144 o8 .byte [(.int xo8_0), (.int xo8_1), (.int (nar .byte (f1_0 i5 (0 : Int32) (2 : Int32)))), (.int (nar .byte (f1_0 i5 (1 : Int32) (2 : Int32)))), (.int xo8_4), (.int xo8_5), (.int xo8_6), (.int xo8_7), (.int xo8_8)] := Aq144
      refine own_step (T' := T144) (f' := (mkF m 195 #[.val (.int i0), .val (.int i1), .val (.long j2), .second, .val (.int i4), .val (.int i5), .val (.int (2 : Int32)), .val (.int (2 : Int32)), .val (.ref o8)] [])) st144 ?_
      refine own_step (T' := T144) (f' := (mkF m 198 #[.val (.int i0), .val (.int i1), .val (.long j2), .second, .val (.int i4), .val (.int i5), .val (.int (2 : Int32)), .val (.int (2 : Int32)), .val (.ref o8)] [(.int (2 : Int32)), (.int (2 : Int32))])) (fun t kt => ?_) ?_
      · show Steps p.tables e below (T144.setTop (mkF m 195 #[.val (.int i0), .val (.int i1), .val (.long j2), .second, .val (.int i4), .val (.int i5), .val (.int (2 : Int32)), .val (.int (2 : Int32)), .val (.ref o8)] [])) _
        refine XS.iload X144.here hx rfl (hb hby at_195) rfl ?_
        show Steps p.tables e below (T144.setTop (mkF m 197 #[.val (.int i0), .val (.int i1), .val (.long j2), .second, .val (.int i4), .val (.int i5), .val (.int (2 : Int32)), .val (.int (2 : Int32)), .val (.ref o8)] [(.int (2 : Int32))])) _
        refine XS.iconst X144.here hx rfl (hb hby at_197) ?_
        exact kt
      refine own_step (T' := T144) (f' := (mkF m 216 #[.val (.int i0), .val (.int i1), .val (.long j2), .second, .val (.int i4), .val (.int i5), .val (.int (2 : Int32)), .val (.int (2 : Int32)), .val (.ref o8)] [])) (fun t kt => ?_) ?_
      · show Steps p.tables e below (T144.setTop (mkF m 198 #[.val (.int i0), .val (.int i1), .val (.long j2), .second, .val (.int i4), .val (.int i5), .val (.int (2 : Int32)), .val (.int (2 : Int32)), .val (.ref o8)] [(.int (2 : Int32)), (.int (2 : Int32))])) _
        refine XS.icmpYes X144.here hx rfl (pc0 := 198) (pc' := 216) rfl (hb hby at_198) rfl (flt (by decide : ¬ ((2 : Int32) < (2 : Int32)))).2.2.2 (by decide) (by decide) kt
      refine own_step (T' := T144) (f' := (mkF m 219 #[.val (.int i0), .val (.int i1), .val (.long j2), .second, .val (.int i4), .val (.int i5), .val (.int (2 : Int32)), .val (.int (2 : Int32)), .val (.ref o8)] [(.int (3 : Int32)), (.int (2 : Int32))])) (fun t kt => ?_) ?_
      · show Steps p.tables e below (T144.setTop (mkF m 216 #[.val (.int i0), .val (.int i1), .val (.long j2), .second, .val (.int i4), .val (.int i5), .val (.int (2 : Int32)), .val (.int (2 : Int32)), .val (.ref o8)] [])) _
        refine XS.iload X144.here hx rfl (hb hby at_216) rfl ?_
        show Steps p.tables e below (T144.setTop (mkF m 218 #[.val (.int i0), .val (.int i1), .val (.long j2), .second, .val (.int i4), .val (.int i5), .val (.int (2 : Int32)), .val (.int (2 : Int32)), .val (.ref o8)] [(.int (2 : Int32))])) _
        refine XS.iconst X144.here hx rfl (hb hby at_218) ?_
        exact kt
      refine own_step (T' := T144) (f' := (mkF m 237 #[.val (.int i0), .val (.int i1), .val (.long j2), .second, .val (.int i4), .val (.int i5), .val (.int (2 : Int32)), .val (.int (2 : Int32)), .val (.ref o8)] [])) (fun t kt => ?_) ?_
      · show Steps p.tables e below (T144.setTop (mkF m 219 #[.val (.int i0), .val (.int i1), .val (.long j2), .second, .val (.int i4), .val (.int i5), .val (.int (2 : Int32)), .val (.int (2 : Int32)), .val (.ref o8)] [(.int (3 : Int32)), (.int (2 : Int32))])) _
        refine XS.icmpYes X144.here hx rfl (pc0 := 219) (pc' := 237) rfl (hb hby at_219) rfl (flt (by decide : ¬ ((3 : Int32) < (2 : Int32)))).2.2.2 (by decide) (by decide) kt
      refine own_step (T' := T144) (f' := (mkF m 240 #[.val (.int i0), .val (.int i1), .val (.long j2), .second, .val (.int i4), .val (.int i5), .val (.int (2 : Int32)), .val (.int (2 : Int32)), .val (.ref o8)] [(.int (4 : Int32)), (.int (2 : Int32))])) (fun t kt => ?_) ?_
      · show Steps p.tables e below (T144.setTop (mkF m 237 #[.val (.int i0), .val (.int i1), .val (.long j2), .second, .val (.int i4), .val (.int i5), .val (.int (2 : Int32)), .val (.int (2 : Int32)), .val (.ref o8)] [])) _
        refine XS.iload X144.here hx rfl (hb hby at_237) rfl ?_
        show Steps p.tables e below (T144.setTop (mkF m 239 #[.val (.int i0), .val (.int i1), .val (.long j2), .second, .val (.int i4), .val (.int i5), .val (.int (2 : Int32)), .val (.int (2 : Int32)), .val (.ref o8)] [(.int (2 : Int32))])) _
        refine XS.iconst X144.here hx rfl (hb hby at_239) ?_
        exact kt
      refine own_step (T' := T144) (f' := (mkF m 258 #[.val (.int i0), .val (.int i1), .val (.long j2), .second, .val (.int i4), .val (.int i5), .val (.int (2 : Int32)), .val (.int (2 : Int32)), .val (.ref o8)] [])) (fun t kt => ?_) ?_
      · show Steps p.tables e below (T144.setTop (mkF m 240 #[.val (.int i0), .val (.int i1), .val (.long j2), .second, .val (.int i4), .val (.int i5), .val (.int (2 : Int32)), .val (.int (2 : Int32)), .val (.ref o8)] [(.int (4 : Int32)), (.int (2 : Int32))])) _
        refine XS.icmpYes X144.here hx rfl (pc0 := 240) (pc' := 258) rfl (hb hby at_240) rfl (flt (by decide : ¬ ((4 : Int32) < (2 : Int32)))).2.2.2 (by decide) (by decide) kt
      refine own_step (T' := T144) (f' := (mkF m 262 #[.val (.int i0), .val (.int i1), .val (.long j2), .second, .val (.int i4), .val (.int i5), .val (.int (2 : Int32)), .val (.int (2 : Int32)), .val (.ref o8)] [(.int (2 : Int32)), (.ref o8)])) (fun t kt => ?_) ?_
      · show Steps p.tables e below (T144.setTop (mkF m 258 #[.val (.int i0), .val (.int i1), .val (.long j2), .second, .val (.int i4), .val (.int i5), .val (.int (2 : Int32)), .val (.int (2 : Int32)), .val (.ref o8)] [])) _
        refine XS.aload X144.here hx rfl (hb hby at_258) rfl rfl ?_
        show Steps p.tables e below (T144.setTop (mkF m 260 #[.val (.int i0), .val (.int i1), .val (.long j2), .second, .val (.int i4), .val (.int i5), .val (.int (2 : Int32)), .val (.int (2 : Int32)), .val (.ref o8)] [(.ref o8)])) _
        refine XS.iload X144.here hx rfl (hb hby at_260) rfl ?_
        exact kt
      obtain ⟨_, _, ⟨T148, L148, k148, n148⟩, -, X148, ⟨Lc148, hQ148, l148, y148, z148⟩, st148⟩ := Jvm.LawKit.callS X144 hx (y := (⟨"hotstate/sort/VarInts", "read", "([BI)I"⟩ : MethodName)) hown (mvT hZ (hw _ (List.mem_of_getElem? (i := 6) rfl))) (mvT hZ (hw _ (List.mem_of_getElem? (i := 7) rfl))) (mvT hZ (hw _ (List.mem_of_getElem? (i := 8) rfl))) (mvT hZ (hw _ (List.mem_of_getElem? (i := 9) rfl))) (by decide) (backOf (W := 0) (rm2n2 l Z a0 hw [] o8 (2 : Int32) (nar .byte (f1_0 i5 (0 : Int32) (2 : Int32))) (nar .byte (f1_0 i5 (1 : Int32) (2 : Int32))) [(.int xo8_0), (.int xo8_1), (.int (nar .byte (f1_0 i5 (0 : Int32) (2 : Int32)))), (.int (nar .byte (f1_0 i5 (1 : Int32) (2 : Int32)))), (.int xo8_4), (.int xo8_5), (.int xo8_6), (.int xo8_7), (.int xo8_8)] h144 n0 Ao8_144 (by decide) rfl rfl (own_last2 i5)) hZ (hw _ (List.mem_of_getElem? (i := 9) rfl)) (hw _ (List.mem_of_getElem? (i := 8) rfl)) (by decide) (by decide)) (g := (mkF m 262 #[.val (.int i0), .val (.int i1), .val (.long j2), .second, .val (.int i4), .val (.int i5), .val (.int (2 : Int32)), .val (.int (2 : Int32)), .val (.ref o8)] [(.int (2 : Int32)), (.ref o8)])) rfl (by rw [hml]; rfl) (argsL := [(.ref o8), (.int (2 : Int32))]) (rest := []) (lenOf pd2 rfl) rfl (by show 2 * 0 + _ ≤ _; exact Nat.le_of_eq rfl) (hb hby at_262) (fun _ _ => ⟨rfl, e144, (by decide : 1 + 0 ≤ _), (by decide : 9 + 0 ≤ _)⟩)
      dsimp only [Pt.U, Pt.locs, Pt.cells, Pt.slots] at X148 l148 y148 z148 st148 hQ148
      subst l148 y148 z148
      obtain ⟨rfl, Nq148, e148⟩ := hQ148
      have N148 := Fr.app N144 Nq148
      refine own_step (T' := T148) (f' := (mkF m 265 #[.val (.int i0), .val (.int i1), .val (.long j2), .second, .val (.int i4), .val (.int i5), .val (.int (2 : Int32)), .val (.int (2 : Int32)), .val (.ref o8)] [(.int (f2n2_0 (2 : Int32) (nar .byte (f1_0 i5 (0 : Int32) (2 : Int32))) (nar .byte (f1_0 i5 (1 : Int32) (2 : Int32)))))])) st148 ?_
      refine own_step (T' := T148) (f' := (mkF m 267 #[.val (.int i0), .val (.int i1), .val (.long j2), .second, .val (.int i4), .val (.int i5), .val (.int (2 : Int32)), .val (.int (2 : Int32)), .val (.ref o8)] [(.int i5), (.int (f2n2_0 (2 : Int32) (nar .byte (f1_0 i5 (0 : Int32) (2 : Int32))) (nar .byte (f1_0 i5 (1 : Int32) (2 : Int32)))))])) (fun t kt => ?_) ?_
      · show Steps p.tables e below (T148.setTop (mkF m 265 #[.val (.int i0), .val (.int i1), .val (.long j2), .second, .val (.int i4), .val (.int i5), .val (.int (2 : Int32)), .val (.int (2 : Int32)), .val (.ref o8)] [(.int (f2n2_0 (2 : Int32) (nar .byte (f1_0 i5 (0 : Int32) (2 : Int32))) (nar .byte (f1_0 i5 (1 : Int32) (2 : Int32)))))])) _
        refine XS.iload X148.here hx rfl (hb hby at_265) rfl ?_
        exact kt
      by_cases hc267_149 : (f2n2_0 (2 : Int32) (nar .byte (f1_0 i5 (0 : Int32) (2 : Int32))) (nar .byte (f1_0 i5 (1 : Int32) (2 : Int32)))) = i5
      · replace hr := hr.trans (if_pos hc267_149)
        refine own_step (T' := T148) (f' := (mkF m 270 #[.val (.int i0), .val (.int i1), .val (.long j2), .second, .val (.int i4), .val (.int i5), .val (.int (2 : Int32)), .val (.int (2 : Int32)), .val (.ref o8)] [])) (fun t kt => ?_) ?_
        · show Steps p.tables e below (T148.setTop (mkF m 267 #[.val (.int i0), .val (.int i1), .val (.long j2), .second, .val (.int i4), .val (.int i5), .val (.int (2 : Int32)), .val (.int (2 : Int32)), .val (.ref o8)] [(.int i5), (.int (f2n2_0 (2 : Int32) (nar .byte (f1_0 i5 (0 : Int32) (2 : Int32))) (nar .byte (f1_0 i5 (1 : Int32) (2 : Int32)))))])) _
          refine XS.icmpNo X148.here hx rfl (hb hby at_267) rfl (teq hc267_149).2 kt
        refine own_step (T' := T148) (f' := (mkF m 275 #[.val (.int i0), .val (.int i1), .val (.long j2), .second, .val (.int i4), .val (.int i5), .val (.int (2 : Int32)), .val (.int (2 : Int32)), .val (.ref o8)] [(.int (1 : Int32))])) (fun t kt => ?_) ?_
        · show Steps p.tables e below (T148.setTop (mkF m 270 #[.val (.int i0), .val (.int i1), .val (.long j2), .second, .val (.int i4), .val (.int i5), .val (.int (2 : Int32)), .val (.int (2 : Int32)), .val (.ref o8)] [])) _
          refine XS.iconst X148.here hx rfl (hb hby at_270) ?_
          show Steps p.tables e below (T148.setTop (mkF m 271 #[.val (.int i0), .val (.int i1), .val (.long j2), .second, .val (.int i4), .val (.int i5), .val (.int (2 : Int32)), .val (.int (2 : Int32)), .val (.ref o8)] [(.int (1 : Int32))])) _
          refine XS.goto X148.here hx rfl (pc0 := 271) (pc' := 275) rfl (hb hby at_271) (by decide) (by decide) ?_
          exact kt
        exact own_retZ X148 hx hret (by simp) hlk (hb hby at_275) (by decide) (by decide) ⟨congrArg (fun z => some (Value.int z)) hr.symm, N148⟩
      · replace hr := hr.trans (if_neg hc267_149)
        refine own_step (T' := T148) (f' := (mkF m 274 #[.val (.int i0), .val (.int i1), .val (.long j2), .second, .val (.int i4), .val (.int i5), .val (.int (2 : Int32)), .val (.int (2 : Int32)), .val (.ref o8)] [])) (fun t kt => ?_) ?_
        · show Steps p.tables e below (T148.setTop (mkF m 267 #[.val (.int i0), .val (.int i1), .val (.long j2), .second, .val (.int i4), .val (.int i5), .val (.int (2 : Int32)), .val (.int (2 : Int32)), .val (.ref o8)] [(.int i5), (.int (f2n2_0 (2 : Int32) (nar .byte (f1_0 i5 (0 : Int32) (2 : Int32))) (nar .byte (f1_0 i5 (1 : Int32) (2 : Int32)))))])) _
          refine XS.icmpYes X148.here hx rfl (pc0 := 267) (pc' := 274) rfl (hb hby at_267) rfl (feq hc267_149).2 (by decide) (by decide) kt
        refine own_step (T' := T148) (f' := (mkF m 275 #[.val (.int i0), .val (.int i1), .val (.long j2), .second, .val (.int i4), .val (.int i5), .val (.int (2 : Int32)), .val (.int (2 : Int32)), .val (.ref o8)] [(.int (0 : Int32))])) (fun t kt => ?_) ?_
        · show Steps p.tables e below (T148.setTop (mkF m 274 #[.val (.int i0), .val (.int i1), .val (.long j2), .second, .val (.int i4), .val (.int i5), .val (.int (2 : Int32)), .val (.int (2 : Int32)), .val (.ref o8)] [])) _
          refine XS.iconst X148.here hx rfl (hb hby at_274) ?_
          exact kt
        exact own_retZ X148 hx hret (by simp) hlk (hb hby at_275) (by decide) (by decide) ⟨congrArg (fun z => some (Value.int z)) hr.symm, N148⟩
    · replace hr := hr.trans ((if_neg (by decide)).trans ((if_neg (by decide)).trans (if_pos rfl)))
      refine own_step (T' := T0) (f' := (mkF m 170 #[.val (.int i0), .val (.int i1), .val (.long j2), .second, .val (.int i4), .val (.int i5), .val (.int (2 : Int32)), .val (.int (3 : Int32)), .val (.ref o8)] [(.int (3 : Int32)), (.int (0 : Int32)), (.int i5), (.int (2 : Int32)), (.ref o8)])) (fun t kt => ?_) ?_
      · show Steps p.tables e below (T0.setTop (mkF m 161 #[.val (.int i0), .val (.int i1), .val (.long j2), .second, .val (.int i4), .val (.int i5), .val (.int (2 : Int32)), .val (.int (3 : Int32)), .val (.ref o8)] [])) _
        refine XS.aload X0.here hx rfl (hb hby at_161) rfl rfl ?_
        show Steps p.tables e below (T0.setTop (mkF m 163 #[.val (.int i0), .val (.int i1), .val (.long j2), .second, .val (.int i4), .val (.int i5), .val (.int (2 : Int32)), .val (.int (3 : Int32)), .val (.ref o8)] [(.ref o8)])) _
        refine XS.iload X0.here hx rfl (hb hby at_163) rfl ?_
        show Steps p.tables e below (T0.setTop (mkF m 165 #[.val (.int i0), .val (.int i1), .val (.long j2), .second, .val (.int i4), .val (.int i5), .val (.int (2 : Int32)), .val (.int (3 : Int32)), .val (.ref o8)] [(.int (2 : Int32)), (.ref o8)])) _
        refine XS.iload X0.here hx rfl (hb hby at_165) rfl ?_
        show Steps p.tables e below (T0.setTop (mkF m 167 #[.val (.int i0), .val (.int i1), .val (.long j2), .second, .val (.int i4), .val (.int i5), .val (.int (2 : Int32)), .val (.int (3 : Int32)), .val (.ref o8)] [(.int i5), (.int (2 : Int32)), (.ref o8)])) _
        refine XS.iconst X0.here hx rfl (hb hby at_167) ?_
        show Steps p.tables e below (T0.setTop (mkF m 168 #[.val (.int i0), .val (.int i1), .val (.long j2), .second, .val (.int i4), .val (.int i5), .val (.int (2 : Int32)), .val (.int (3 : Int32)), .val (.ref o8)] [(.int (0 : Int32)), (.int i5), (.int (2 : Int32)), (.ref o8)])) _
        refine XS.iload X0.here hx rfl (hb hby at_168) rfl ?_
        exact kt
      obtain ⟨_, _, ⟨T150, L150, k150, n150⟩, -, X150, ⟨Lc150, hQ150, l150, y150, z150⟩, st150⟩ := Jvm.LawKit.callS X0 hx (y := (⟨"hotstate/sort/VarIntsReadPinLaw", "enc", "(III)B"⟩ : MethodName)) hown (mvT hZ (hw _ (List.mem_of_getElem? (i := 2) rfl))) (mvT hZ (hw _ (List.mem_of_getElem? (i := 3) rfl))) (mvT hZ (hw _ (List.mem_of_getElem? (i := 4) rfl))) (mvT hZ (hw _ (List.mem_of_getElem? (i := 5) rfl))) (by decide) (backOf (W := 2) (rm1 l Z a0 hw [] i5 (0 : Int32) (3 : Int32)  h0 n0 ) hZ (hw _ (List.mem_of_getElem? (i := 5) rfl)) (hw _ (List.mem_of_getElem? (i := 4) rfl)) (by decide) (by decide)) (g := (mkF m 170 #[.val (.int i0), .val (.int i1), .val (.long j2), .second, .val (.int i4), .val (.int i5), .val (.int (2 : Int32)), .val (.int (3 : Int32)), .val (.ref o8)] [(.int (3 : Int32)), (.int (0 : Int32)), (.int i5), (.int (2 : Int32)), (.ref o8)])) rfl (by rw [hml]; rfl) (argsL := [(.int i5), (.int (0 : Int32)), (.int (3 : Int32))]) (rest := [(.int (2 : Int32)), (.ref o8)]) (lenOf pd1 rfl) rfl (by show 2 * 0 + _ ≤ _; exact Nat.le_of_eq rfl) (hb hby at_170) (fun _ _ => ⟨rfl, e0, (by decide : 1 + 0 ≤ _), (by decide : 9 + 0 ≤ _)⟩)
      dsimp only [Pt.U, Pt.locs, Pt.cells, Pt.slots] at X150 l150 y150 z150 st150 hQ150
      subst l150 y150 z150
      obtain ⟨rfl, Nq150, e150⟩ := hQ150
      have N150 := Fr.app N0 Nq150
      refine own_step (T' := T150) (f' := (mkF m 173 #[.val (.int i0), .val (.int i1), .val (.long j2), .second, .val (.int i4), .val (.int i5), .val (.int (2 : Int32)), .val (.int (3 : Int32)), .val (.ref o8)] [(.int (f1_0 i5 (0 : Int32) (3 : Int32))), (.int (2 : Int32)), (.ref o8)])) st150 ?_
      obtain ⟨T151, h151, Lq151, X151, N151, e151, W151, Z151, Aq151, st151⟩ := own_stB X150 hx hZ e150 Ao8 (j := (2 : Int32)) (by decide) (k := 2) (by decide) (Nat.le_of_ble_eq_true rfl) N150 go8 Z0 (g := (mkF m 173 #[.val (.int i0), .val (.int i1), .val (.long j2), .second, .val (.int i4), .val (.int i5), .val (.int (2 : Int32)), .val (.int (3 : Int32)), .val (.ref o8)] [(.int (f1_0 i5 (0 : Int32) (3 : Int32))), (.int (2 : Int32)), (.ref o8)])) rfl rfl (hb hby at_173)
      have Ao8_151 : own_A Z h151 o8 .byte [(.int xo8_0), (.int xo8_1), (.int (nar .byte (f1_0 i5 (0 : Int32) (3 : Int32)))), (.int xo8_3), (.int xo8_4), (.int xo8_5), (.int xo8_6), (.int xo8_7), (.int xo8_8)] := Aq151
      refine own_step (T' := T151) (f' := (mkF m 174 #[.val (.int i0), .val (.int i1), .val (.long j2), .second, .val (.int i4), .val (.int i5), .val (.int (2 : Int32)), .val (.int (3 : Int32)), .val (.ref o8)] [])) st151 ?_
      refine own_step (T' := T151) (f' := (mkF m 177 #[.val (.int i0), .val (.int i1), .val (.long j2), .second, .val (.int i4), .val (.int i5), .val (.int (2 : Int32)), .val (.int (3 : Int32)), .val (.ref o8)] [(.int (1 : Int32)), (.int (3 : Int32))])) (fun t kt => ?_) ?_
      · show Steps p.tables e below (T151.setTop (mkF m 174 #[.val (.int i0), .val (.int i1), .val (.long j2), .second, .val (.int i4), .val (.int i5), .val (.int (2 : Int32)), .val (.int (3 : Int32)), .val (.ref o8)] [])) _
        refine XS.iload X151.here hx rfl (hb hby at_174) rfl ?_
        show Steps p.tables e below (T151.setTop (mkF m 176 #[.val (.int i0), .val (.int i1), .val (.long j2), .second, .val (.int i4), .val (.int i5), .val (.int (2 : Int32)), .val (.int (3 : Int32)), .val (.ref o8)] [(.int (3 : Int32))])) _
        refine XS.iconst X151.here hx rfl (hb hby at_176) ?_
        exact kt
      refine own_step (T' := T151) (f' := (mkF m 180 #[.val (.int i0), .val (.int i1), .val (.long j2), .second, .val (.int i4), .val (.int i5), .val (.int (2 : Int32)), .val (.int (3 : Int32)), .val (.ref o8)] [])) (fun t kt => ?_) ?_
      · show Steps p.tables e below (T151.setTop (mkF m 177 #[.val (.int i0), .val (.int i1), .val (.long j2), .second, .val (.int i4), .val (.int i5), .val (.int (2 : Int32)), .val (.int (3 : Int32)), .val (.ref o8)] [(.int (1 : Int32)), (.int (3 : Int32))])) _
        refine XS.icmpNo X151.here hx rfl (hb hby at_177) rfl (tlt (by decide : ((1 : Int32) < (3 : Int32)))).2.2.2 kt
      refine own_step (T' := T151) (f' := (mkF m 191 #[.val (.int i0), .val (.int i1), .val (.long j2), .second, .val (.int i4), .val (.int i5), .val (.int (2 : Int32)), .val (.int (3 : Int32)), .val (.ref o8)] [(.int (3 : Int32)), (.int (1 : Int32)), (.int i5), (.int (3 : Int32)), (.ref o8)])) (fun t kt => ?_) ?_
      · show Steps p.tables e below (T151.setTop (mkF m 180 #[.val (.int i0), .val (.int i1), .val (.long j2), .second, .val (.int i4), .val (.int i5), .val (.int (2 : Int32)), .val (.int (3 : Int32)), .val (.ref o8)] [])) _
        refine XS.aload X151.here hx rfl (hb hby at_180) rfl rfl ?_
        show Steps p.tables e below (T151.setTop (mkF m 182 #[.val (.int i0), .val (.int i1), .val (.long j2), .second, .val (.int i4), .val (.int i5), .val (.int (2 : Int32)), .val (.int (3 : Int32)), .val (.ref o8)] [(.ref o8)])) _
        refine XS.iload X151.here hx rfl (hb hby at_182) rfl ?_
        show Steps p.tables e below (T151.setTop (mkF m 184 #[.val (.int i0), .val (.int i1), .val (.long j2), .second, .val (.int i4), .val (.int i5), .val (.int (2 : Int32)), .val (.int (3 : Int32)), .val (.ref o8)] [(.int (2 : Int32)), (.ref o8)])) _
        refine XS.iconst X151.here hx rfl (hb hby at_184) ?_
        show Steps p.tables e below (T151.setTop (mkF m 185 #[.val (.int i0), .val (.int i1), .val (.long j2), .second, .val (.int i4), .val (.int i5), .val (.int (2 : Int32)), .val (.int (3 : Int32)), .val (.ref o8)] [(.int (1 : Int32)), (.int (2 : Int32)), (.ref o8)])) _
        refine XS.iadd X151.here hx rfl (hb hby at_185) rfl ?_
        show Steps p.tables e below (T151.setTop (mkF m 186 #[.val (.int i0), .val (.int i1), .val (.long j2), .second, .val (.int i4), .val (.int i5), .val (.int (2 : Int32)), .val (.int (3 : Int32)), .val (.ref o8)] [(.int (3 : Int32)), (.ref o8)])) _
        refine XS.iload X151.here hx rfl (hb hby at_186) rfl ?_
        show Steps p.tables e below (T151.setTop (mkF m 188 #[.val (.int i0), .val (.int i1), .val (.long j2), .second, .val (.int i4), .val (.int i5), .val (.int (2 : Int32)), .val (.int (3 : Int32)), .val (.ref o8)] [(.int i5), (.int (3 : Int32)), (.ref o8)])) _
        refine XS.iconst X151.here hx rfl (hb hby at_188) ?_
        show Steps p.tables e below (T151.setTop (mkF m 189 #[.val (.int i0), .val (.int i1), .val (.long j2), .second, .val (.int i4), .val (.int i5), .val (.int (2 : Int32)), .val (.int (3 : Int32)), .val (.ref o8)] [(.int (1 : Int32)), (.int i5), (.int (3 : Int32)), (.ref o8)])) _
        refine XS.iload X151.here hx rfl (hb hby at_189) rfl ?_
        exact kt
      obtain ⟨_, _, ⟨T153, L153, k153, n153⟩, -, X153, ⟨Lc153, hQ153, l153, y153, z153⟩, st153⟩ := Jvm.LawKit.callS X151 hx (y := (⟨"hotstate/sort/VarIntsReadPinLaw", "enc", "(III)B"⟩ : MethodName)) hown (mvT hZ (hw _ (List.mem_of_getElem? (i := 2) rfl))) (mvT hZ (hw _ (List.mem_of_getElem? (i := 3) rfl))) (mvT hZ (hw _ (List.mem_of_getElem? (i := 4) rfl))) (mvT hZ (hw _ (List.mem_of_getElem? (i := 5) rfl))) (by decide) (backOf (W := 2) (rm1 l Z a0 hw [] i5 (1 : Int32) (3 : Int32)  h151 n0 ) hZ (hw _ (List.mem_of_getElem? (i := 5) rfl)) (hw _ (List.mem_of_getElem? (i := 4) rfl)) (by decide) (by decide)) (g := (mkF m 191 #[.val (.int i0), .val (.int i1), .val (.long j2), .second, .val (.int i4), .val (.int i5), .val (.int (2 : Int32)), .val (.int (3 : Int32)), .val (.ref o8)] [(.int (3 : Int32)), (.int (1 : Int32)), (.int i5), (.int (3 : Int32)), (.ref o8)])) rfl (by rw [hml]; rfl) (argsL := [(.int i5), (.int (1 : Int32)), (.int (3 : Int32))]) (rest := [(.int (3 : Int32)), (.ref o8)]) (lenOf pd1 rfl) rfl (by show 2 * 0 + _ ≤ _; exact Nat.le_of_eq rfl) (hb hby at_191) (fun _ _ => ⟨rfl, e151, (by decide : 1 + 0 ≤ _), (by decide : 9 + 0 ≤ _)⟩)
      dsimp only [Pt.U, Pt.locs, Pt.cells, Pt.slots] at X153 l153 y153 z153 st153 hQ153
      subst l153 y153 z153
      obtain ⟨rfl, Nq153, e153⟩ := hQ153
      have N153 := Fr.app N151 Nq153
      refine own_step (T' := T153) (f' := (mkF m 194 #[.val (.int i0), .val (.int i1), .val (.long j2), .second, .val (.int i4), .val (.int i5), .val (.int (2 : Int32)), .val (.int (3 : Int32)), .val (.ref o8)] [(.int (f1_0 i5 (1 : Int32) (3 : Int32))), (.int (3 : Int32)), (.ref o8)])) st153 ?_
      obtain ⟨T154, h154, Lq154, X154, N154, e154, W154, Z154, Aq154, st154⟩ := own_stB X153 hx hZ e153 Ao8_151 (j := (3 : Int32)) (by decide) (k := 3) (by decide) (Nat.le_of_ble_eq_true rfl) N153 go8 Z151 (g := (mkF m 194 #[.val (.int i0), .val (.int i1), .val (.long j2), .second, .val (.int i4), .val (.int i5), .val (.int (2 : Int32)), .val (.int (3 : Int32)), .val (.ref o8)] [(.int (f1_0 i5 (1 : Int32) (3 : Int32))), (.int (3 : Int32)), (.ref o8)])) rfl rfl (hb hby at_194)
      have Ao8_154 : own_A Z h154 o8 .byte [(.int xo8_0), (.int xo8_1), (.int (nar .byte (f1_0 i5 (0 : Int32) (3 : Int32)))), (.int (nar .byte (f1_0 i5 (1 : Int32) (3 : Int32)))), (.int xo8_4), (.int xo8_5), (.int xo8_6), (.int xo8_7), (.int xo8_8)] := Aq154
      refine own_step (T' := T154) (f' := (mkF m 195 #[.val (.int i0), .val (.int i1), .val (.long j2), .second, .val (.int i4), .val (.int i5), .val (.int (2 : Int32)), .val (.int (3 : Int32)), .val (.ref o8)] [])) st154 ?_
      refine own_step (T' := T154) (f' := (mkF m 198 #[.val (.int i0), .val (.int i1), .val (.long j2), .second, .val (.int i4), .val (.int i5), .val (.int (2 : Int32)), .val (.int (3 : Int32)), .val (.ref o8)] [(.int (2 : Int32)), (.int (3 : Int32))])) (fun t kt => ?_) ?_
      · show Steps p.tables e below (T154.setTop (mkF m 195 #[.val (.int i0), .val (.int i1), .val (.long j2), .second, .val (.int i4), .val (.int i5), .val (.int (2 : Int32)), .val (.int (3 : Int32)), .val (.ref o8)] [])) _
        refine XS.iload X154.here hx rfl (hb hby at_195) rfl ?_
        show Steps p.tables e below (T154.setTop (mkF m 197 #[.val (.int i0), .val (.int i1), .val (.long j2), .second, .val (.int i4), .val (.int i5), .val (.int (2 : Int32)), .val (.int (3 : Int32)), .val (.ref o8)] [(.int (3 : Int32))])) _
        refine XS.iconst X154.here hx rfl (hb hby at_197) ?_
        exact kt
      refine own_step (T' := T154) (f' := (mkF m 201 #[.val (.int i0), .val (.int i1), .val (.long j2), .second, .val (.int i4), .val (.int i5), .val (.int (2 : Int32)), .val (.int (3 : Int32)), .val (.ref o8)] [])) (fun t kt => ?_) ?_
      · show Steps p.tables e below (T154.setTop (mkF m 198 #[.val (.int i0), .val (.int i1), .val (.long j2), .second, .val (.int i4), .val (.int i5), .val (.int (2 : Int32)), .val (.int (3 : Int32)), .val (.ref o8)] [(.int (2 : Int32)), (.int (3 : Int32))])) _
        refine XS.icmpNo X154.here hx rfl (hb hby at_198) rfl (tlt (by decide : ((2 : Int32) < (3 : Int32)))).2.2.2 kt
      refine own_step (T' := T154) (f' := (mkF m 212 #[.val (.int i0), .val (.int i1), .val (.long j2), .second, .val (.int i4), .val (.int i5), .val (.int (2 : Int32)), .val (.int (3 : Int32)), .val (.ref o8)] [(.int (3 : Int32)), (.int (2 : Int32)), (.int i5), (.int (4 : Int32)), (.ref o8)])) (fun t kt => ?_) ?_
      · show Steps p.tables e below (T154.setTop (mkF m 201 #[.val (.int i0), .val (.int i1), .val (.long j2), .second, .val (.int i4), .val (.int i5), .val (.int (2 : Int32)), .val (.int (3 : Int32)), .val (.ref o8)] [])) _
        refine XS.aload X154.here hx rfl (hb hby at_201) rfl rfl ?_
        show Steps p.tables e below (T154.setTop (mkF m 203 #[.val (.int i0), .val (.int i1), .val (.long j2), .second, .val (.int i4), .val (.int i5), .val (.int (2 : Int32)), .val (.int (3 : Int32)), .val (.ref o8)] [(.ref o8)])) _
        refine XS.iload X154.here hx rfl (hb hby at_203) rfl ?_
        show Steps p.tables e below (T154.setTop (mkF m 205 #[.val (.int i0), .val (.int i1), .val (.long j2), .second, .val (.int i4), .val (.int i5), .val (.int (2 : Int32)), .val (.int (3 : Int32)), .val (.ref o8)] [(.int (2 : Int32)), (.ref o8)])) _
        refine XS.iconst X154.here hx rfl (hb hby at_205) ?_
        show Steps p.tables e below (T154.setTop (mkF m 206 #[.val (.int i0), .val (.int i1), .val (.long j2), .second, .val (.int i4), .val (.int i5), .val (.int (2 : Int32)), .val (.int (3 : Int32)), .val (.ref o8)] [(.int (2 : Int32)), (.int (2 : Int32)), (.ref o8)])) _
        refine XS.iadd X154.here hx rfl (hb hby at_206) rfl ?_
        show Steps p.tables e below (T154.setTop (mkF m 207 #[.val (.int i0), .val (.int i1), .val (.long j2), .second, .val (.int i4), .val (.int i5), .val (.int (2 : Int32)), .val (.int (3 : Int32)), .val (.ref o8)] [(.int (4 : Int32)), (.ref o8)])) _
        refine XS.iload X154.here hx rfl (hb hby at_207) rfl ?_
        show Steps p.tables e below (T154.setTop (mkF m 209 #[.val (.int i0), .val (.int i1), .val (.long j2), .second, .val (.int i4), .val (.int i5), .val (.int (2 : Int32)), .val (.int (3 : Int32)), .val (.ref o8)] [(.int i5), (.int (4 : Int32)), (.ref o8)])) _
        refine XS.iconst X154.here hx rfl (hb hby at_209) ?_
        show Steps p.tables e below (T154.setTop (mkF m 210 #[.val (.int i0), .val (.int i1), .val (.long j2), .second, .val (.int i4), .val (.int i5), .val (.int (2 : Int32)), .val (.int (3 : Int32)), .val (.ref o8)] [(.int (2 : Int32)), (.int i5), (.int (4 : Int32)), (.ref o8)])) _
        refine XS.iload X154.here hx rfl (hb hby at_210) rfl ?_
        exact kt
      obtain ⟨_, _, ⟨T156, L156, k156, n156⟩, -, X156, ⟨Lc156, hQ156, l156, y156, z156⟩, st156⟩ := Jvm.LawKit.callS X154 hx (y := (⟨"hotstate/sort/VarIntsReadPinLaw", "enc", "(III)B"⟩ : MethodName)) hown (mvT hZ (hw _ (List.mem_of_getElem? (i := 2) rfl))) (mvT hZ (hw _ (List.mem_of_getElem? (i := 3) rfl))) (mvT hZ (hw _ (List.mem_of_getElem? (i := 4) rfl))) (mvT hZ (hw _ (List.mem_of_getElem? (i := 5) rfl))) (by decide) (backOf (W := 2) (rm1 l Z a0 hw [] i5 (2 : Int32) (3 : Int32)  h154 n0 ) hZ (hw _ (List.mem_of_getElem? (i := 5) rfl)) (hw _ (List.mem_of_getElem? (i := 4) rfl)) (by decide) (by decide)) (g := (mkF m 212 #[.val (.int i0), .val (.int i1), .val (.long j2), .second, .val (.int i4), .val (.int i5), .val (.int (2 : Int32)), .val (.int (3 : Int32)), .val (.ref o8)] [(.int (3 : Int32)), (.int (2 : Int32)), (.int i5), (.int (4 : Int32)), (.ref o8)])) rfl (by rw [hml]; rfl) (argsL := [(.int i5), (.int (2 : Int32)), (.int (3 : Int32))]) (rest := [(.int (4 : Int32)), (.ref o8)]) (lenOf pd1 rfl) rfl (by show 2 * 0 + _ ≤ _; exact Nat.le_of_eq rfl) (hb hby at_212) (fun _ _ => ⟨rfl, e154, (by decide : 1 + 0 ≤ _), (by decide : 9 + 0 ≤ _)⟩)
      dsimp only [Pt.U, Pt.locs, Pt.cells, Pt.slots] at X156 l156 y156 z156 st156 hQ156
      subst l156 y156 z156
      obtain ⟨rfl, Nq156, e156⟩ := hQ156
      have N156 := Fr.app N154 Nq156
      refine own_step (T' := T156) (f' := (mkF m 215 #[.val (.int i0), .val (.int i1), .val (.long j2), .second, .val (.int i4), .val (.int i5), .val (.int (2 : Int32)), .val (.int (3 : Int32)), .val (.ref o8)] [(.int (f1_0 i5 (2 : Int32) (3 : Int32))), (.int (4 : Int32)), (.ref o8)])) st156 ?_
      obtain ⟨T157, h157, Lq157, X157, N157, e157, W157, Z157, Aq157, st157⟩ := own_stB X156 hx hZ e156 Ao8_154 (j := (4 : Int32)) (by decide) (k := 4) (by decide) (Nat.le_of_ble_eq_true rfl) N156 go8 Z154 (g := (mkF m 215 #[.val (.int i0), .val (.int i1), .val (.long j2), .second, .val (.int i4), .val (.int i5), .val (.int (2 : Int32)), .val (.int (3 : Int32)), .val (.ref o8)] [(.int (f1_0 i5 (2 : Int32) (3 : Int32))), (.int (4 : Int32)), (.ref o8)])) rfl rfl (hb hby at_215)
      have Ao8_157 : own_A Z h157 o8 .byte [(.int xo8_0), (.int xo8_1), (.int (nar .byte (f1_0 i5 (0 : Int32) (3 : Int32)))), (.int (nar .byte (f1_0 i5 (1 : Int32) (3 : Int32)))), (.int (nar .byte (f1_0 i5 (2 : Int32) (3 : Int32)))), (.int xo8_5), (.int xo8_6), (.int xo8_7), (.int xo8_8)] := Aq157
      refine own_step (T' := T157) (f' := (mkF m 216 #[.val (.int i0), .val (.int i1), .val (.long j2), .second, .val (.int i4), .val (.int i5), .val (.int (2 : Int32)), .val (.int (3 : Int32)), .val (.ref o8)] [])) st157 ?_
      refine own_step (T' := T157) (f' := (mkF m 219 #[.val (.int i0), .val (.int i1), .val (.long j2), .second, .val (.int i4), .val (.int i5), .val (.int (2 : Int32)), .val (.int (3 : Int32)), .val (.ref o8)] [(.int (3 : Int32)), (.int (3 : Int32))])) (fun t kt => ?_) ?_
      · show Steps p.tables e below (T157.setTop (mkF m 216 #[.val (.int i0), .val (.int i1), .val (.long j2), .second, .val (.int i4), .val (.int i5), .val (.int (2 : Int32)), .val (.int (3 : Int32)), .val (.ref o8)] [])) _
        refine XS.iload X157.here hx rfl (hb hby at_216) rfl ?_
        show Steps p.tables e below (T157.setTop (mkF m 218 #[.val (.int i0), .val (.int i1), .val (.long j2), .second, .val (.int i4), .val (.int i5), .val (.int (2 : Int32)), .val (.int (3 : Int32)), .val (.ref o8)] [(.int (3 : Int32))])) _
        refine XS.iconst X157.here hx rfl (hb hby at_218) ?_
        exact kt
      refine own_step (T' := T157) (f' := (mkF m 237 #[.val (.int i0), .val (.int i1), .val (.long j2), .second, .val (.int i4), .val (.int i5), .val (.int (2 : Int32)), .val (.int (3 : Int32)), .val (.ref o8)] [])) (fun t kt => ?_) ?_
      · show Steps p.tables e below (T157.setTop (mkF m 219 #[.val (.int i0), .val (.int i1), .val (.long j2), .second, .val (.int i4), .val (.int i5), .val (.int (2 : Int32)), .val (.int (3 : Int32)), .val (.ref o8)] [(.int (3 : Int32)), (.int (3 : Int32))])) _
        refine XS.icmpYes X157.here hx rfl (pc0 := 219) (pc' := 237) rfl (hb hby at_219) rfl (flt (by decide : ¬ ((3 : Int32) < (3 : Int32)))).2.2.2 (by decide) (by decide) kt
      refine own_step (T' := T157) (f' := (mkF m 240 #[.val (.int i0), .val (.int i1), .val (.long j2), .second, .val (.int i4), .val (.int i5), .val (.int (2 : Int32)), .val (.int (3 : Int32)), .val (.ref o8)] [(.int (4 : Int32)), (.int (3 : Int32))])) (fun t kt => ?_) ?_
      · show Steps p.tables e below (T157.setTop (mkF m 237 #[.val (.int i0), .val (.int i1), .val (.long j2), .second, .val (.int i4), .val (.int i5), .val (.int (2 : Int32)), .val (.int (3 : Int32)), .val (.ref o8)] [])) _
        refine XS.iload X157.here hx rfl (hb hby at_237) rfl ?_
        show Steps p.tables e below (T157.setTop (mkF m 239 #[.val (.int i0), .val (.int i1), .val (.long j2), .second, .val (.int i4), .val (.int i5), .val (.int (2 : Int32)), .val (.int (3 : Int32)), .val (.ref o8)] [(.int (3 : Int32))])) _
        refine XS.iconst X157.here hx rfl (hb hby at_239) ?_
        exact kt
      refine own_step (T' := T157) (f' := (mkF m 258 #[.val (.int i0), .val (.int i1), .val (.long j2), .second, .val (.int i4), .val (.int i5), .val (.int (2 : Int32)), .val (.int (3 : Int32)), .val (.ref o8)] [])) (fun t kt => ?_) ?_
      · show Steps p.tables e below (T157.setTop (mkF m 240 #[.val (.int i0), .val (.int i1), .val (.long j2), .second, .val (.int i4), .val (.int i5), .val (.int (2 : Int32)), .val (.int (3 : Int32)), .val (.ref o8)] [(.int (4 : Int32)), (.int (3 : Int32))])) _
        refine XS.icmpYes X157.here hx rfl (pc0 := 240) (pc' := 258) rfl (hb hby at_240) rfl (flt (by decide : ¬ ((4 : Int32) < (3 : Int32)))).2.2.2 (by decide) (by decide) kt
      refine own_step (T' := T157) (f' := (mkF m 262 #[.val (.int i0), .val (.int i1), .val (.long j2), .second, .val (.int i4), .val (.int i5), .val (.int (2 : Int32)), .val (.int (3 : Int32)), .val (.ref o8)] [(.int (2 : Int32)), (.ref o8)])) (fun t kt => ?_) ?_
      · show Steps p.tables e below (T157.setTop (mkF m 258 #[.val (.int i0), .val (.int i1), .val (.long j2), .second, .val (.int i4), .val (.int i5), .val (.int (2 : Int32)), .val (.int (3 : Int32)), .val (.ref o8)] [])) _
        refine XS.aload X157.here hx rfl (hb hby at_258) rfl rfl ?_
        show Steps p.tables e below (T157.setTop (mkF m 260 #[.val (.int i0), .val (.int i1), .val (.long j2), .second, .val (.int i4), .val (.int i5), .val (.int (2 : Int32)), .val (.int (3 : Int32)), .val (.ref o8)] [(.ref o8)])) _
        refine XS.iload X157.here hx rfl (hb hby at_260) rfl ?_
        exact kt
      obtain ⟨_, _, ⟨T160, L160, k160, n160⟩, -, X160, ⟨Lc160, hQ160, l160, y160, z160⟩, st160⟩ := Jvm.LawKit.callS X157 hx (y := (⟨"hotstate/sort/VarInts", "read", "([BI)I"⟩ : MethodName)) hown (mvT hZ (hw _ (List.mem_of_getElem? (i := 6) rfl))) (mvT hZ (hw _ (List.mem_of_getElem? (i := 7) rfl))) (mvT hZ (hw _ (List.mem_of_getElem? (i := 8) rfl))) (mvT hZ (hw _ (List.mem_of_getElem? (i := 9) rfl))) (by decide) (backOf (W := 0) (rm2n3 l Z a0 hw [] o8 (2 : Int32) (nar .byte (f1_0 i5 (0 : Int32) (3 : Int32))) (nar .byte (f1_0 i5 (1 : Int32) (3 : Int32))) (nar .byte (f1_0 i5 (2 : Int32) (3 : Int32))) [(.int xo8_0), (.int xo8_1), (.int (nar .byte (f1_0 i5 (0 : Int32) (3 : Int32)))), (.int (nar .byte (f1_0 i5 (1 : Int32) (3 : Int32)))), (.int (nar .byte (f1_0 i5 (2 : Int32) (3 : Int32)))), (.int xo8_5), (.int xo8_6), (.int xo8_7), (.int xo8_8)] h157 n0 Ao8_157 (by decide) rfl rfl rfl (own_last3 i5)) hZ (hw _ (List.mem_of_getElem? (i := 9) rfl)) (hw _ (List.mem_of_getElem? (i := 8) rfl)) (by decide) (by decide)) (g := (mkF m 262 #[.val (.int i0), .val (.int i1), .val (.long j2), .second, .val (.int i4), .val (.int i5), .val (.int (2 : Int32)), .val (.int (3 : Int32)), .val (.ref o8)] [(.int (2 : Int32)), (.ref o8)])) rfl (by rw [hml]; rfl) (argsL := [(.ref o8), (.int (2 : Int32))]) (rest := []) (lenOf pd2 rfl) rfl (by show 2 * 0 + _ ≤ _; exact Nat.le_of_eq rfl) (hb hby at_262) (fun _ _ => ⟨rfl, e157, (by decide : 1 + 0 ≤ _), (by decide : 9 + 0 ≤ _)⟩)
      dsimp only [Pt.U, Pt.locs, Pt.cells, Pt.slots] at X160 l160 y160 z160 st160 hQ160
      subst l160 y160 z160
      obtain ⟨rfl, Nq160, e160⟩ := hQ160
      have N160 := Fr.app N157 Nq160
      refine own_step (T' := T160) (f' := (mkF m 265 #[.val (.int i0), .val (.int i1), .val (.long j2), .second, .val (.int i4), .val (.int i5), .val (.int (2 : Int32)), .val (.int (3 : Int32)), .val (.ref o8)] [(.int (f2n3_0 (2 : Int32) (nar .byte (f1_0 i5 (0 : Int32) (3 : Int32))) (nar .byte (f1_0 i5 (1 : Int32) (3 : Int32))) (nar .byte (f1_0 i5 (2 : Int32) (3 : Int32)))))])) st160 ?_
      refine own_step (T' := T160) (f' := (mkF m 267 #[.val (.int i0), .val (.int i1), .val (.long j2), .second, .val (.int i4), .val (.int i5), .val (.int (2 : Int32)), .val (.int (3 : Int32)), .val (.ref o8)] [(.int i5), (.int (f2n3_0 (2 : Int32) (nar .byte (f1_0 i5 (0 : Int32) (3 : Int32))) (nar .byte (f1_0 i5 (1 : Int32) (3 : Int32))) (nar .byte (f1_0 i5 (2 : Int32) (3 : Int32)))))])) (fun t kt => ?_) ?_
      · show Steps p.tables e below (T160.setTop (mkF m 265 #[.val (.int i0), .val (.int i1), .val (.long j2), .second, .val (.int i4), .val (.int i5), .val (.int (2 : Int32)), .val (.int (3 : Int32)), .val (.ref o8)] [(.int (f2n3_0 (2 : Int32) (nar .byte (f1_0 i5 (0 : Int32) (3 : Int32))) (nar .byte (f1_0 i5 (1 : Int32) (3 : Int32))) (nar .byte (f1_0 i5 (2 : Int32) (3 : Int32)))))])) _
        refine XS.iload X160.here hx rfl (hb hby at_265) rfl ?_
        exact kt
      by_cases hc267_161 : (f2n3_0 (2 : Int32) (nar .byte (f1_0 i5 (0 : Int32) (3 : Int32))) (nar .byte (f1_0 i5 (1 : Int32) (3 : Int32))) (nar .byte (f1_0 i5 (2 : Int32) (3 : Int32)))) = i5
      · replace hr := hr.trans (if_pos hc267_161)
        refine own_step (T' := T160) (f' := (mkF m 270 #[.val (.int i0), .val (.int i1), .val (.long j2), .second, .val (.int i4), .val (.int i5), .val (.int (2 : Int32)), .val (.int (3 : Int32)), .val (.ref o8)] [])) (fun t kt => ?_) ?_
        · show Steps p.tables e below (T160.setTop (mkF m 267 #[.val (.int i0), .val (.int i1), .val (.long j2), .second, .val (.int i4), .val (.int i5), .val (.int (2 : Int32)), .val (.int (3 : Int32)), .val (.ref o8)] [(.int i5), (.int (f2n3_0 (2 : Int32) (nar .byte (f1_0 i5 (0 : Int32) (3 : Int32))) (nar .byte (f1_0 i5 (1 : Int32) (3 : Int32))) (nar .byte (f1_0 i5 (2 : Int32) (3 : Int32)))))])) _
          refine XS.icmpNo X160.here hx rfl (hb hby at_267) rfl (teq hc267_161).2 kt
        refine own_step (T' := T160) (f' := (mkF m 275 #[.val (.int i0), .val (.int i1), .val (.long j2), .second, .val (.int i4), .val (.int i5), .val (.int (2 : Int32)), .val (.int (3 : Int32)), .val (.ref o8)] [(.int (1 : Int32))])) (fun t kt => ?_) ?_
        · show Steps p.tables e below (T160.setTop (mkF m 270 #[.val (.int i0), .val (.int i1), .val (.long j2), .second, .val (.int i4), .val (.int i5), .val (.int (2 : Int32)), .val (.int (3 : Int32)), .val (.ref o8)] [])) _
          refine XS.iconst X160.here hx rfl (hb hby at_270) ?_
          show Steps p.tables e below (T160.setTop (mkF m 271 #[.val (.int i0), .val (.int i1), .val (.long j2), .second, .val (.int i4), .val (.int i5), .val (.int (2 : Int32)), .val (.int (3 : Int32)), .val (.ref o8)] [(.int (1 : Int32))])) _
          refine XS.goto X160.here hx rfl (pc0 := 271) (pc' := 275) rfl (hb hby at_271) (by decide) (by decide) ?_
          exact kt
        exact own_retZ X160 hx hret (by simp) hlk (hb hby at_275) (by decide) (by decide) ⟨congrArg (fun z => some (Value.int z)) hr.symm, N160⟩
      · replace hr := hr.trans (if_neg hc267_161)
        refine own_step (T' := T160) (f' := (mkF m 274 #[.val (.int i0), .val (.int i1), .val (.long j2), .second, .val (.int i4), .val (.int i5), .val (.int (2 : Int32)), .val (.int (3 : Int32)), .val (.ref o8)] [])) (fun t kt => ?_) ?_
        · show Steps p.tables e below (T160.setTop (mkF m 267 #[.val (.int i0), .val (.int i1), .val (.long j2), .second, .val (.int i4), .val (.int i5), .val (.int (2 : Int32)), .val (.int (3 : Int32)), .val (.ref o8)] [(.int i5), (.int (f2n3_0 (2 : Int32) (nar .byte (f1_0 i5 (0 : Int32) (3 : Int32))) (nar .byte (f1_0 i5 (1 : Int32) (3 : Int32))) (nar .byte (f1_0 i5 (2 : Int32) (3 : Int32)))))])) _
          refine XS.icmpYes X160.here hx rfl (pc0 := 267) (pc' := 274) rfl (hb hby at_267) rfl (feq hc267_161).2 (by decide) (by decide) kt
        refine own_step (T' := T160) (f' := (mkF m 275 #[.val (.int i0), .val (.int i1), .val (.long j2), .second, .val (.int i4), .val (.int i5), .val (.int (2 : Int32)), .val (.int (3 : Int32)), .val (.ref o8)] [(.int (0 : Int32))])) (fun t kt => ?_) ?_
        · show Steps p.tables e below (T160.setTop (mkF m 274 #[.val (.int i0), .val (.int i1), .val (.long j2), .second, .val (.int i4), .val (.int i5), .val (.int (2 : Int32)), .val (.int (3 : Int32)), .val (.ref o8)] [])) _
          refine XS.iconst X160.here hx rfl (hb hby at_274) ?_
          exact kt
        exact own_retZ X160 hx hret (by simp) hlk (hb hby at_275) (by decide) (by decide) ⟨congrArg (fun z => some (Value.int z)) hr.symm, N160⟩
    · replace hr := hr.trans ((if_neg (by decide)).trans ((if_neg (by decide)).trans ((if_neg (by decide)).trans (if_pos rfl))))
      refine own_step (T' := T0) (f' := (mkF m 170 #[.val (.int i0), .val (.int i1), .val (.long j2), .second, .val (.int i4), .val (.int i5), .val (.int (2 : Int32)), .val (.int (4 : Int32)), .val (.ref o8)] [(.int (4 : Int32)), (.int (0 : Int32)), (.int i5), (.int (2 : Int32)), (.ref o8)])) (fun t kt => ?_) ?_
      · show Steps p.tables e below (T0.setTop (mkF m 161 #[.val (.int i0), .val (.int i1), .val (.long j2), .second, .val (.int i4), .val (.int i5), .val (.int (2 : Int32)), .val (.int (4 : Int32)), .val (.ref o8)] [])) _
        refine XS.aload X0.here hx rfl (hb hby at_161) rfl rfl ?_
        show Steps p.tables e below (T0.setTop (mkF m 163 #[.val (.int i0), .val (.int i1), .val (.long j2), .second, .val (.int i4), .val (.int i5), .val (.int (2 : Int32)), .val (.int (4 : Int32)), .val (.ref o8)] [(.ref o8)])) _
        refine XS.iload X0.here hx rfl (hb hby at_163) rfl ?_
        show Steps p.tables e below (T0.setTop (mkF m 165 #[.val (.int i0), .val (.int i1), .val (.long j2), .second, .val (.int i4), .val (.int i5), .val (.int (2 : Int32)), .val (.int (4 : Int32)), .val (.ref o8)] [(.int (2 : Int32)), (.ref o8)])) _
        refine XS.iload X0.here hx rfl (hb hby at_165) rfl ?_
        show Steps p.tables e below (T0.setTop (mkF m 167 #[.val (.int i0), .val (.int i1), .val (.long j2), .second, .val (.int i4), .val (.int i5), .val (.int (2 : Int32)), .val (.int (4 : Int32)), .val (.ref o8)] [(.int i5), (.int (2 : Int32)), (.ref o8)])) _
        refine XS.iconst X0.here hx rfl (hb hby at_167) ?_
        show Steps p.tables e below (T0.setTop (mkF m 168 #[.val (.int i0), .val (.int i1), .val (.long j2), .second, .val (.int i4), .val (.int i5), .val (.int (2 : Int32)), .val (.int (4 : Int32)), .val (.ref o8)] [(.int (0 : Int32)), (.int i5), (.int (2 : Int32)), (.ref o8)])) _
        refine XS.iload X0.here hx rfl (hb hby at_168) rfl ?_
        exact kt
      obtain ⟨_, _, ⟨T162, L162, k162, n162⟩, -, X162, ⟨Lc162, hQ162, l162, y162, z162⟩, st162⟩ := Jvm.LawKit.callS X0 hx (y := (⟨"hotstate/sort/VarIntsReadPinLaw", "enc", "(III)B"⟩ : MethodName)) hown (mvT hZ (hw _ (List.mem_of_getElem? (i := 2) rfl))) (mvT hZ (hw _ (List.mem_of_getElem? (i := 3) rfl))) (mvT hZ (hw _ (List.mem_of_getElem? (i := 4) rfl))) (mvT hZ (hw _ (List.mem_of_getElem? (i := 5) rfl))) (by decide) (backOf (W := 2) (rm1 l Z a0 hw [] i5 (0 : Int32) (4 : Int32)  h0 n0 ) hZ (hw _ (List.mem_of_getElem? (i := 5) rfl)) (hw _ (List.mem_of_getElem? (i := 4) rfl)) (by decide) (by decide)) (g := (mkF m 170 #[.val (.int i0), .val (.int i1), .val (.long j2), .second, .val (.int i4), .val (.int i5), .val (.int (2 : Int32)), .val (.int (4 : Int32)), .val (.ref o8)] [(.int (4 : Int32)), (.int (0 : Int32)), (.int i5), (.int (2 : Int32)), (.ref o8)])) rfl (by rw [hml]; rfl) (argsL := [(.int i5), (.int (0 : Int32)), (.int (4 : Int32))]) (rest := [(.int (2 : Int32)), (.ref o8)]) (lenOf pd1 rfl) rfl (by show 2 * 0 + _ ≤ _; exact Nat.le_of_eq rfl) (hb hby at_170) (fun _ _ => ⟨rfl, e0, (by decide : 1 + 0 ≤ _), (by decide : 9 + 0 ≤ _)⟩)
      dsimp only [Pt.U, Pt.locs, Pt.cells, Pt.slots] at X162 l162 y162 z162 st162 hQ162
      subst l162 y162 z162
      obtain ⟨rfl, Nq162, e162⟩ := hQ162
      have N162 := Fr.app N0 Nq162
      refine own_step (T' := T162) (f' := (mkF m 173 #[.val (.int i0), .val (.int i1), .val (.long j2), .second, .val (.int i4), .val (.int i5), .val (.int (2 : Int32)), .val (.int (4 : Int32)), .val (.ref o8)] [(.int (f1_0 i5 (0 : Int32) (4 : Int32))), (.int (2 : Int32)), (.ref o8)])) st162 ?_
      obtain ⟨T163, h163, Lq163, X163, N163, e163, W163, Z163, Aq163, st163⟩ := own_stB X162 hx hZ e162 Ao8 (j := (2 : Int32)) (by decide) (k := 2) (by decide) (Nat.le_of_ble_eq_true rfl) N162 go8 Z0 (g := (mkF m 173 #[.val (.int i0), .val (.int i1), .val (.long j2), .second, .val (.int i4), .val (.int i5), .val (.int (2 : Int32)), .val (.int (4 : Int32)), .val (.ref o8)] [(.int (f1_0 i5 (0 : Int32) (4 : Int32))), (.int (2 : Int32)), (.ref o8)])) rfl rfl (hb hby at_173)
      have Ao8_163 : own_A Z h163 o8 .byte [(.int xo8_0), (.int xo8_1), (.int (nar .byte (f1_0 i5 (0 : Int32) (4 : Int32)))), (.int xo8_3), (.int xo8_4), (.int xo8_5), (.int xo8_6), (.int xo8_7), (.int xo8_8)] := Aq163
      refine own_step (T' := T163) (f' := (mkF m 174 #[.val (.int i0), .val (.int i1), .val (.long j2), .second, .val (.int i4), .val (.int i5), .val (.int (2 : Int32)), .val (.int (4 : Int32)), .val (.ref o8)] [])) st163 ?_
      refine own_step (T' := T163) (f' := (mkF m 177 #[.val (.int i0), .val (.int i1), .val (.long j2), .second, .val (.int i4), .val (.int i5), .val (.int (2 : Int32)), .val (.int (4 : Int32)), .val (.ref o8)] [(.int (1 : Int32)), (.int (4 : Int32))])) (fun t kt => ?_) ?_
      · show Steps p.tables e below (T163.setTop (mkF m 174 #[.val (.int i0), .val (.int i1), .val (.long j2), .second, .val (.int i4), .val (.int i5), .val (.int (2 : Int32)), .val (.int (4 : Int32)), .val (.ref o8)] [])) _
        refine XS.iload X163.here hx rfl (hb hby at_174) rfl ?_
        show Steps p.tables e below (T163.setTop (mkF m 176 #[.val (.int i0), .val (.int i1), .val (.long j2), .second, .val (.int i4), .val (.int i5), .val (.int (2 : Int32)), .val (.int (4 : Int32)), .val (.ref o8)] [(.int (4 : Int32))])) _
        refine XS.iconst X163.here hx rfl (hb hby at_176) ?_
        exact kt
      refine own_step (T' := T163) (f' := (mkF m 180 #[.val (.int i0), .val (.int i1), .val (.long j2), .second, .val (.int i4), .val (.int i5), .val (.int (2 : Int32)), .val (.int (4 : Int32)), .val (.ref o8)] [])) (fun t kt => ?_) ?_
      · show Steps p.tables e below (T163.setTop (mkF m 177 #[.val (.int i0), .val (.int i1), .val (.long j2), .second, .val (.int i4), .val (.int i5), .val (.int (2 : Int32)), .val (.int (4 : Int32)), .val (.ref o8)] [(.int (1 : Int32)), (.int (4 : Int32))])) _
        refine XS.icmpNo X163.here hx rfl (hb hby at_177) rfl (tlt (by decide : ((1 : Int32) < (4 : Int32)))).2.2.2 kt
      refine own_step (T' := T163) (f' := (mkF m 191 #[.val (.int i0), .val (.int i1), .val (.long j2), .second, .val (.int i4), .val (.int i5), .val (.int (2 : Int32)), .val (.int (4 : Int32)), .val (.ref o8)] [(.int (4 : Int32)), (.int (1 : Int32)), (.int i5), (.int (3 : Int32)), (.ref o8)])) (fun t kt => ?_) ?_
      · show Steps p.tables e below (T163.setTop (mkF m 180 #[.val (.int i0), .val (.int i1), .val (.long j2), .second, .val (.int i4), .val (.int i5), .val (.int (2 : Int32)), .val (.int (4 : Int32)), .val (.ref o8)] [])) _
        refine XS.aload X163.here hx rfl (hb hby at_180) rfl rfl ?_
        show Steps p.tables e below (T163.setTop (mkF m 182 #[.val (.int i0), .val (.int i1), .val (.long j2), .second, .val (.int i4), .val (.int i5), .val (.int (2 : Int32)), .val (.int (4 : Int32)), .val (.ref o8)] [(.ref o8)])) _
        refine XS.iload X163.here hx rfl (hb hby at_182) rfl ?_
        show Steps p.tables e below (T163.setTop (mkF m 184 #[.val (.int i0), .val (.int i1), .val (.long j2), .second, .val (.int i4), .val (.int i5), .val (.int (2 : Int32)), .val (.int (4 : Int32)), .val (.ref o8)] [(.int (2 : Int32)), (.ref o8)])) _
        refine XS.iconst X163.here hx rfl (hb hby at_184) ?_
        show Steps p.tables e below (T163.setTop (mkF m 185 #[.val (.int i0), .val (.int i1), .val (.long j2), .second, .val (.int i4), .val (.int i5), .val (.int (2 : Int32)), .val (.int (4 : Int32)), .val (.ref o8)] [(.int (1 : Int32)), (.int (2 : Int32)), (.ref o8)])) _
        refine XS.iadd X163.here hx rfl (hb hby at_185) rfl ?_
        show Steps p.tables e below (T163.setTop (mkF m 186 #[.val (.int i0), .val (.int i1), .val (.long j2), .second, .val (.int i4), .val (.int i5), .val (.int (2 : Int32)), .val (.int (4 : Int32)), .val (.ref o8)] [(.int (3 : Int32)), (.ref o8)])) _
        refine XS.iload X163.here hx rfl (hb hby at_186) rfl ?_
        show Steps p.tables e below (T163.setTop (mkF m 188 #[.val (.int i0), .val (.int i1), .val (.long j2), .second, .val (.int i4), .val (.int i5), .val (.int (2 : Int32)), .val (.int (4 : Int32)), .val (.ref o8)] [(.int i5), (.int (3 : Int32)), (.ref o8)])) _
        refine XS.iconst X163.here hx rfl (hb hby at_188) ?_
        show Steps p.tables e below (T163.setTop (mkF m 189 #[.val (.int i0), .val (.int i1), .val (.long j2), .second, .val (.int i4), .val (.int i5), .val (.int (2 : Int32)), .val (.int (4 : Int32)), .val (.ref o8)] [(.int (1 : Int32)), (.int i5), (.int (3 : Int32)), (.ref o8)])) _
        refine XS.iload X163.here hx rfl (hb hby at_189) rfl ?_
        exact kt
      obtain ⟨_, _, ⟨T165, L165, k165, n165⟩, -, X165, ⟨Lc165, hQ165, l165, y165, z165⟩, st165⟩ := Jvm.LawKit.callS X163 hx (y := (⟨"hotstate/sort/VarIntsReadPinLaw", "enc", "(III)B"⟩ : MethodName)) hown (mvT hZ (hw _ (List.mem_of_getElem? (i := 2) rfl))) (mvT hZ (hw _ (List.mem_of_getElem? (i := 3) rfl))) (mvT hZ (hw _ (List.mem_of_getElem? (i := 4) rfl))) (mvT hZ (hw _ (List.mem_of_getElem? (i := 5) rfl))) (by decide) (backOf (W := 2) (rm1 l Z a0 hw [] i5 (1 : Int32) (4 : Int32)  h163 n0 ) hZ (hw _ (List.mem_of_getElem? (i := 5) rfl)) (hw _ (List.mem_of_getElem? (i := 4) rfl)) (by decide) (by decide)) (g := (mkF m 191 #[.val (.int i0), .val (.int i1), .val (.long j2), .second, .val (.int i4), .val (.int i5), .val (.int (2 : Int32)), .val (.int (4 : Int32)), .val (.ref o8)] [(.int (4 : Int32)), (.int (1 : Int32)), (.int i5), (.int (3 : Int32)), (.ref o8)])) rfl (by rw [hml]; rfl) (argsL := [(.int i5), (.int (1 : Int32)), (.int (4 : Int32))]) (rest := [(.int (3 : Int32)), (.ref o8)]) (lenOf pd1 rfl) rfl (by show 2 * 0 + _ ≤ _; exact Nat.le_of_eq rfl) (hb hby at_191) (fun _ _ => ⟨rfl, e163, (by decide : 1 + 0 ≤ _), (by decide : 9 + 0 ≤ _)⟩)
      dsimp only [Pt.U, Pt.locs, Pt.cells, Pt.slots] at X165 l165 y165 z165 st165 hQ165
      subst l165 y165 z165
      obtain ⟨rfl, Nq165, e165⟩ := hQ165
      have N165 := Fr.app N163 Nq165
      refine own_step (T' := T165) (f' := (mkF m 194 #[.val (.int i0), .val (.int i1), .val (.long j2), .second, .val (.int i4), .val (.int i5), .val (.int (2 : Int32)), .val (.int (4 : Int32)), .val (.ref o8)] [(.int (f1_0 i5 (1 : Int32) (4 : Int32))), (.int (3 : Int32)), (.ref o8)])) st165 ?_
      obtain ⟨T166, h166, Lq166, X166, N166, e166, W166, Z166, Aq166, st166⟩ := own_stB X165 hx hZ e165 Ao8_163 (j := (3 : Int32)) (by decide) (k := 3) (by decide) (Nat.le_of_ble_eq_true rfl) N165 go8 Z163 (g := (mkF m 194 #[.val (.int i0), .val (.int i1), .val (.long j2), .second, .val (.int i4), .val (.int i5), .val (.int (2 : Int32)), .val (.int (4 : Int32)), .val (.ref o8)] [(.int (f1_0 i5 (1 : Int32) (4 : Int32))), (.int (3 : Int32)), (.ref o8)])) rfl rfl (hb hby at_194)
      have Ao8_166 : own_A Z h166 o8 .byte [(.int xo8_0), (.int xo8_1), (.int (nar .byte (f1_0 i5 (0 : Int32) (4 : Int32)))), (.int (nar .byte (f1_0 i5 (1 : Int32) (4 : Int32)))), (.int xo8_4), (.int xo8_5), (.int xo8_6), (.int xo8_7), (.int xo8_8)] := Aq166
      refine own_step (T' := T166) (f' := (mkF m 195 #[.val (.int i0), .val (.int i1), .val (.long j2), .second, .val (.int i4), .val (.int i5), .val (.int (2 : Int32)), .val (.int (4 : Int32)), .val (.ref o8)] [])) st166 ?_
      refine own_step (T' := T166) (f' := (mkF m 198 #[.val (.int i0), .val (.int i1), .val (.long j2), .second, .val (.int i4), .val (.int i5), .val (.int (2 : Int32)), .val (.int (4 : Int32)), .val (.ref o8)] [(.int (2 : Int32)), (.int (4 : Int32))])) (fun t kt => ?_) ?_
      · show Steps p.tables e below (T166.setTop (mkF m 195 #[.val (.int i0), .val (.int i1), .val (.long j2), .second, .val (.int i4), .val (.int i5), .val (.int (2 : Int32)), .val (.int (4 : Int32)), .val (.ref o8)] [])) _
        refine XS.iload X166.here hx rfl (hb hby at_195) rfl ?_
        show Steps p.tables e below (T166.setTop (mkF m 197 #[.val (.int i0), .val (.int i1), .val (.long j2), .second, .val (.int i4), .val (.int i5), .val (.int (2 : Int32)), .val (.int (4 : Int32)), .val (.ref o8)] [(.int (4 : Int32))])) _
        refine XS.iconst X166.here hx rfl (hb hby at_197) ?_
        exact kt
      refine own_step (T' := T166) (f' := (mkF m 201 #[.val (.int i0), .val (.int i1), .val (.long j2), .second, .val (.int i4), .val (.int i5), .val (.int (2 : Int32)), .val (.int (4 : Int32)), .val (.ref o8)] [])) (fun t kt => ?_) ?_
      · show Steps p.tables e below (T166.setTop (mkF m 198 #[.val (.int i0), .val (.int i1), .val (.long j2), .second, .val (.int i4), .val (.int i5), .val (.int (2 : Int32)), .val (.int (4 : Int32)), .val (.ref o8)] [(.int (2 : Int32)), (.int (4 : Int32))])) _
        refine XS.icmpNo X166.here hx rfl (hb hby at_198) rfl (tlt (by decide : ((2 : Int32) < (4 : Int32)))).2.2.2 kt
      refine own_step (T' := T166) (f' := (mkF m 212 #[.val (.int i0), .val (.int i1), .val (.long j2), .second, .val (.int i4), .val (.int i5), .val (.int (2 : Int32)), .val (.int (4 : Int32)), .val (.ref o8)] [(.int (4 : Int32)), (.int (2 : Int32)), (.int i5), (.int (4 : Int32)), (.ref o8)])) (fun t kt => ?_) ?_
      · show Steps p.tables e below (T166.setTop (mkF m 201 #[.val (.int i0), .val (.int i1), .val (.long j2), .second, .val (.int i4), .val (.int i5), .val (.int (2 : Int32)), .val (.int (4 : Int32)), .val (.ref o8)] [])) _
        refine XS.aload X166.here hx rfl (hb hby at_201) rfl rfl ?_
        show Steps p.tables e below (T166.setTop (mkF m 203 #[.val (.int i0), .val (.int i1), .val (.long j2), .second, .val (.int i4), .val (.int i5), .val (.int (2 : Int32)), .val (.int (4 : Int32)), .val (.ref o8)] [(.ref o8)])) _
        refine XS.iload X166.here hx rfl (hb hby at_203) rfl ?_
        show Steps p.tables e below (T166.setTop (mkF m 205 #[.val (.int i0), .val (.int i1), .val (.long j2), .second, .val (.int i4), .val (.int i5), .val (.int (2 : Int32)), .val (.int (4 : Int32)), .val (.ref o8)] [(.int (2 : Int32)), (.ref o8)])) _
        refine XS.iconst X166.here hx rfl (hb hby at_205) ?_
        show Steps p.tables e below (T166.setTop (mkF m 206 #[.val (.int i0), .val (.int i1), .val (.long j2), .second, .val (.int i4), .val (.int i5), .val (.int (2 : Int32)), .val (.int (4 : Int32)), .val (.ref o8)] [(.int (2 : Int32)), (.int (2 : Int32)), (.ref o8)])) _
        refine XS.iadd X166.here hx rfl (hb hby at_206) rfl ?_
        show Steps p.tables e below (T166.setTop (mkF m 207 #[.val (.int i0), .val (.int i1), .val (.long j2), .second, .val (.int i4), .val (.int i5), .val (.int (2 : Int32)), .val (.int (4 : Int32)), .val (.ref o8)] [(.int (4 : Int32)), (.ref o8)])) _
        refine XS.iload X166.here hx rfl (hb hby at_207) rfl ?_
        show Steps p.tables e below (T166.setTop (mkF m 209 #[.val (.int i0), .val (.int i1), .val (.long j2), .second, .val (.int i4), .val (.int i5), .val (.int (2 : Int32)), .val (.int (4 : Int32)), .val (.ref o8)] [(.int i5), (.int (4 : Int32)), (.ref o8)])) _
        refine XS.iconst X166.here hx rfl (hb hby at_209) ?_
        show Steps p.tables e below (T166.setTop (mkF m 210 #[.val (.int i0), .val (.int i1), .val (.long j2), .second, .val (.int i4), .val (.int i5), .val (.int (2 : Int32)), .val (.int (4 : Int32)), .val (.ref o8)] [(.int (2 : Int32)), (.int i5), (.int (4 : Int32)), (.ref o8)])) _
        refine XS.iload X166.here hx rfl (hb hby at_210) rfl ?_
        exact kt
      obtain ⟨_, _, ⟨T168, L168, k168, n168⟩, -, X168, ⟨Lc168, hQ168, l168, y168, z168⟩, st168⟩ := Jvm.LawKit.callS X166 hx (y := (⟨"hotstate/sort/VarIntsReadPinLaw", "enc", "(III)B"⟩ : MethodName)) hown (mvT hZ (hw _ (List.mem_of_getElem? (i := 2) rfl))) (mvT hZ (hw _ (List.mem_of_getElem? (i := 3) rfl))) (mvT hZ (hw _ (List.mem_of_getElem? (i := 4) rfl))) (mvT hZ (hw _ (List.mem_of_getElem? (i := 5) rfl))) (by decide) (backOf (W := 2) (rm1 l Z a0 hw [] i5 (2 : Int32) (4 : Int32)  h166 n0 ) hZ (hw _ (List.mem_of_getElem? (i := 5) rfl)) (hw _ (List.mem_of_getElem? (i := 4) rfl)) (by decide) (by decide)) (g := (mkF m 212 #[.val (.int i0), .val (.int i1), .val (.long j2), .second, .val (.int i4), .val (.int i5), .val (.int (2 : Int32)), .val (.int (4 : Int32)), .val (.ref o8)] [(.int (4 : Int32)), (.int (2 : Int32)), (.int i5), (.int (4 : Int32)), (.ref o8)])) rfl (by rw [hml]; rfl) (argsL := [(.int i5), (.int (2 : Int32)), (.int (4 : Int32))]) (rest := [(.int (4 : Int32)), (.ref o8)]) (lenOf pd1 rfl) rfl (by show 2 * 0 + _ ≤ _; exact Nat.le_of_eq rfl) (hb hby at_212) (fun _ _ => ⟨rfl, e166, (by decide : 1 + 0 ≤ _), (by decide : 9 + 0 ≤ _)⟩)
      dsimp only [Pt.U, Pt.locs, Pt.cells, Pt.slots] at X168 l168 y168 z168 st168 hQ168
      subst l168 y168 z168
      obtain ⟨rfl, Nq168, e168⟩ := hQ168
      have N168 := Fr.app N166 Nq168
      refine own_step (T' := T168) (f' := (mkF m 215 #[.val (.int i0), .val (.int i1), .val (.long j2), .second, .val (.int i4), .val (.int i5), .val (.int (2 : Int32)), .val (.int (4 : Int32)), .val (.ref o8)] [(.int (f1_0 i5 (2 : Int32) (4 : Int32))), (.int (4 : Int32)), (.ref o8)])) st168 ?_
      obtain ⟨T169, h169, Lq169, X169, N169, e169, W169, Z169, Aq169, st169⟩ := own_stB X168 hx hZ e168 Ao8_166 (j := (4 : Int32)) (by decide) (k := 4) (by decide) (Nat.le_of_ble_eq_true rfl) N168 go8 Z166 (g := (mkF m 215 #[.val (.int i0), .val (.int i1), .val (.long j2), .second, .val (.int i4), .val (.int i5), .val (.int (2 : Int32)), .val (.int (4 : Int32)), .val (.ref o8)] [(.int (f1_0 i5 (2 : Int32) (4 : Int32))), (.int (4 : Int32)), (.ref o8)])) rfl rfl (hb hby at_215)
      have Ao8_169 : own_A Z h169 o8 .byte [(.int xo8_0), (.int xo8_1), (.int (nar .byte (f1_0 i5 (0 : Int32) (4 : Int32)))), (.int (nar .byte (f1_0 i5 (1 : Int32) (4 : Int32)))), (.int (nar .byte (f1_0 i5 (2 : Int32) (4 : Int32)))), (.int xo8_5), (.int xo8_6), (.int xo8_7), (.int xo8_8)] := Aq169
      refine own_step (T' := T169) (f' := (mkF m 216 #[.val (.int i0), .val (.int i1), .val (.long j2), .second, .val (.int i4), .val (.int i5), .val (.int (2 : Int32)), .val (.int (4 : Int32)), .val (.ref o8)] [])) st169 ?_
      refine own_step (T' := T169) (f' := (mkF m 219 #[.val (.int i0), .val (.int i1), .val (.long j2), .second, .val (.int i4), .val (.int i5), .val (.int (2 : Int32)), .val (.int (4 : Int32)), .val (.ref o8)] [(.int (3 : Int32)), (.int (4 : Int32))])) (fun t kt => ?_) ?_
      · show Steps p.tables e below (T169.setTop (mkF m 216 #[.val (.int i0), .val (.int i1), .val (.long j2), .second, .val (.int i4), .val (.int i5), .val (.int (2 : Int32)), .val (.int (4 : Int32)), .val (.ref o8)] [])) _
        refine XS.iload X169.here hx rfl (hb hby at_216) rfl ?_
        show Steps p.tables e below (T169.setTop (mkF m 218 #[.val (.int i0), .val (.int i1), .val (.long j2), .second, .val (.int i4), .val (.int i5), .val (.int (2 : Int32)), .val (.int (4 : Int32)), .val (.ref o8)] [(.int (4 : Int32))])) _
        refine XS.iconst X169.here hx rfl (hb hby at_218) ?_
        exact kt
      refine own_step (T' := T169) (f' := (mkF m 222 #[.val (.int i0), .val (.int i1), .val (.long j2), .second, .val (.int i4), .val (.int i5), .val (.int (2 : Int32)), .val (.int (4 : Int32)), .val (.ref o8)] [])) (fun t kt => ?_) ?_
      · show Steps p.tables e below (T169.setTop (mkF m 219 #[.val (.int i0), .val (.int i1), .val (.long j2), .second, .val (.int i4), .val (.int i5), .val (.int (2 : Int32)), .val (.int (4 : Int32)), .val (.ref o8)] [(.int (3 : Int32)), (.int (4 : Int32))])) _
        refine XS.icmpNo X169.here hx rfl (hb hby at_219) rfl (tlt (by decide : ((3 : Int32) < (4 : Int32)))).2.2.2 kt
      refine own_step (T' := T169) (f' := (mkF m 233 #[.val (.int i0), .val (.int i1), .val (.long j2), .second, .val (.int i4), .val (.int i5), .val (.int (2 : Int32)), .val (.int (4 : Int32)), .val (.ref o8)] [(.int (4 : Int32)), (.int (3 : Int32)), (.int i5), (.int (5 : Int32)), (.ref o8)])) (fun t kt => ?_) ?_
      · show Steps p.tables e below (T169.setTop (mkF m 222 #[.val (.int i0), .val (.int i1), .val (.long j2), .second, .val (.int i4), .val (.int i5), .val (.int (2 : Int32)), .val (.int (4 : Int32)), .val (.ref o8)] [])) _
        refine XS.aload X169.here hx rfl (hb hby at_222) rfl rfl ?_
        show Steps p.tables e below (T169.setTop (mkF m 224 #[.val (.int i0), .val (.int i1), .val (.long j2), .second, .val (.int i4), .val (.int i5), .val (.int (2 : Int32)), .val (.int (4 : Int32)), .val (.ref o8)] [(.ref o8)])) _
        refine XS.iload X169.here hx rfl (hb hby at_224) rfl ?_
        show Steps p.tables e below (T169.setTop (mkF m 226 #[.val (.int i0), .val (.int i1), .val (.long j2), .second, .val (.int i4), .val (.int i5), .val (.int (2 : Int32)), .val (.int (4 : Int32)), .val (.ref o8)] [(.int (2 : Int32)), (.ref o8)])) _
        refine XS.iconst X169.here hx rfl (hb hby at_226) ?_
        show Steps p.tables e below (T169.setTop (mkF m 227 #[.val (.int i0), .val (.int i1), .val (.long j2), .second, .val (.int i4), .val (.int i5), .val (.int (2 : Int32)), .val (.int (4 : Int32)), .val (.ref o8)] [(.int (3 : Int32)), (.int (2 : Int32)), (.ref o8)])) _
        refine XS.iadd X169.here hx rfl (hb hby at_227) rfl ?_
        show Steps p.tables e below (T169.setTop (mkF m 228 #[.val (.int i0), .val (.int i1), .val (.long j2), .second, .val (.int i4), .val (.int i5), .val (.int (2 : Int32)), .val (.int (4 : Int32)), .val (.ref o8)] [(.int (5 : Int32)), (.ref o8)])) _
        refine XS.iload X169.here hx rfl (hb hby at_228) rfl ?_
        show Steps p.tables e below (T169.setTop (mkF m 230 #[.val (.int i0), .val (.int i1), .val (.long j2), .second, .val (.int i4), .val (.int i5), .val (.int (2 : Int32)), .val (.int (4 : Int32)), .val (.ref o8)] [(.int i5), (.int (5 : Int32)), (.ref o8)])) _
        refine XS.iconst X169.here hx rfl (hb hby at_230) ?_
        show Steps p.tables e below (T169.setTop (mkF m 231 #[.val (.int i0), .val (.int i1), .val (.long j2), .second, .val (.int i4), .val (.int i5), .val (.int (2 : Int32)), .val (.int (4 : Int32)), .val (.ref o8)] [(.int (3 : Int32)), (.int i5), (.int (5 : Int32)), (.ref o8)])) _
        refine XS.iload X169.here hx rfl (hb hby at_231) rfl ?_
        exact kt
      obtain ⟨_, _, ⟨T171, L171, k171, n171⟩, -, X171, ⟨Lc171, hQ171, l171, y171, z171⟩, st171⟩ := Jvm.LawKit.callS X169 hx (y := (⟨"hotstate/sort/VarIntsReadPinLaw", "enc", "(III)B"⟩ : MethodName)) hown (mvT hZ (hw _ (List.mem_of_getElem? (i := 2) rfl))) (mvT hZ (hw _ (List.mem_of_getElem? (i := 3) rfl))) (mvT hZ (hw _ (List.mem_of_getElem? (i := 4) rfl))) (mvT hZ (hw _ (List.mem_of_getElem? (i := 5) rfl))) (by decide) (backOf (W := 2) (rm1 l Z a0 hw [] i5 (3 : Int32) (4 : Int32)  h169 n0 ) hZ (hw _ (List.mem_of_getElem? (i := 5) rfl)) (hw _ (List.mem_of_getElem? (i := 4) rfl)) (by decide) (by decide)) (g := (mkF m 233 #[.val (.int i0), .val (.int i1), .val (.long j2), .second, .val (.int i4), .val (.int i5), .val (.int (2 : Int32)), .val (.int (4 : Int32)), .val (.ref o8)] [(.int (4 : Int32)), (.int (3 : Int32)), (.int i5), (.int (5 : Int32)), (.ref o8)])) rfl (by rw [hml]; rfl) (argsL := [(.int i5), (.int (3 : Int32)), (.int (4 : Int32))]) (rest := [(.int (5 : Int32)), (.ref o8)]) (lenOf pd1 rfl) rfl (by show 2 * 0 + _ ≤ _; exact Nat.le_of_eq rfl) (hb hby at_233) (fun _ _ => ⟨rfl, e169, (by decide : 1 + 0 ≤ _), (by decide : 9 + 0 ≤ _)⟩)
      dsimp only [Pt.U, Pt.locs, Pt.cells, Pt.slots] at X171 l171 y171 z171 st171 hQ171
      subst l171 y171 z171
      obtain ⟨rfl, Nq171, e171⟩ := hQ171
      have N171 := Fr.app N169 Nq171
      refine own_step (T' := T171) (f' := (mkF m 236 #[.val (.int i0), .val (.int i1), .val (.long j2), .second, .val (.int i4), .val (.int i5), .val (.int (2 : Int32)), .val (.int (4 : Int32)), .val (.ref o8)] [(.int (f1_0 i5 (3 : Int32) (4 : Int32))), (.int (5 : Int32)), (.ref o8)])) st171 ?_
      obtain ⟨T172, h172, Lq172, X172, N172, e172, W172, Z172, Aq172, st172⟩ := own_stB X171 hx hZ e171 Ao8_169 (j := (5 : Int32)) (by decide) (k := 5) (by decide) (Nat.le_of_ble_eq_true rfl) N171 go8 Z169 (g := (mkF m 236 #[.val (.int i0), .val (.int i1), .val (.long j2), .second, .val (.int i4), .val (.int i5), .val (.int (2 : Int32)), .val (.int (4 : Int32)), .val (.ref o8)] [(.int (f1_0 i5 (3 : Int32) (4 : Int32))), (.int (5 : Int32)), (.ref o8)])) rfl rfl (hb hby at_236)
      have Ao8_172 : own_A Z h172 o8 .byte [(.int xo8_0), (.int xo8_1), (.int (nar .byte (f1_0 i5 (0 : Int32) (4 : Int32)))), (.int (nar .byte (f1_0 i5 (1 : Int32) (4 : Int32)))), (.int (nar .byte (f1_0 i5 (2 : Int32) (4 : Int32)))), (.int (nar .byte (f1_0 i5 (3 : Int32) (4 : Int32)))), (.int xo8_6), (.int xo8_7), (.int xo8_8)] := Aq172
      refine own_step (T' := T172) (f' := (mkF m 237 #[.val (.int i0), .val (.int i1), .val (.long j2), .second, .val (.int i4), .val (.int i5), .val (.int (2 : Int32)), .val (.int (4 : Int32)), .val (.ref o8)] [])) st172 ?_
      refine own_step (T' := T172) (f' := (mkF m 240 #[.val (.int i0), .val (.int i1), .val (.long j2), .second, .val (.int i4), .val (.int i5), .val (.int (2 : Int32)), .val (.int (4 : Int32)), .val (.ref o8)] [(.int (4 : Int32)), (.int (4 : Int32))])) (fun t kt => ?_) ?_
      · show Steps p.tables e below (T172.setTop (mkF m 237 #[.val (.int i0), .val (.int i1), .val (.long j2), .second, .val (.int i4), .val (.int i5), .val (.int (2 : Int32)), .val (.int (4 : Int32)), .val (.ref o8)] [])) _
        refine XS.iload X172.here hx rfl (hb hby at_237) rfl ?_
        show Steps p.tables e below (T172.setTop (mkF m 239 #[.val (.int i0), .val (.int i1), .val (.long j2), .second, .val (.int i4), .val (.int i5), .val (.int (2 : Int32)), .val (.int (4 : Int32)), .val (.ref o8)] [(.int (4 : Int32))])) _
        refine XS.iconst X172.here hx rfl (hb hby at_239) ?_
        exact kt
      refine own_step (T' := T172) (f' := (mkF m 258 #[.val (.int i0), .val (.int i1), .val (.long j2), .second, .val (.int i4), .val (.int i5), .val (.int (2 : Int32)), .val (.int (4 : Int32)), .val (.ref o8)] [])) (fun t kt => ?_) ?_
      · show Steps p.tables e below (T172.setTop (mkF m 240 #[.val (.int i0), .val (.int i1), .val (.long j2), .second, .val (.int i4), .val (.int i5), .val (.int (2 : Int32)), .val (.int (4 : Int32)), .val (.ref o8)] [(.int (4 : Int32)), (.int (4 : Int32))])) _
        refine XS.icmpYes X172.here hx rfl (pc0 := 240) (pc' := 258) rfl (hb hby at_240) rfl (flt (by decide : ¬ ((4 : Int32) < (4 : Int32)))).2.2.2 (by decide) (by decide) kt
      refine own_step (T' := T172) (f' := (mkF m 262 #[.val (.int i0), .val (.int i1), .val (.long j2), .second, .val (.int i4), .val (.int i5), .val (.int (2 : Int32)), .val (.int (4 : Int32)), .val (.ref o8)] [(.int (2 : Int32)), (.ref o8)])) (fun t kt => ?_) ?_
      · show Steps p.tables e below (T172.setTop (mkF m 258 #[.val (.int i0), .val (.int i1), .val (.long j2), .second, .val (.int i4), .val (.int i5), .val (.int (2 : Int32)), .val (.int (4 : Int32)), .val (.ref o8)] [])) _
        refine XS.aload X172.here hx rfl (hb hby at_258) rfl rfl ?_
        show Steps p.tables e below (T172.setTop (mkF m 260 #[.val (.int i0), .val (.int i1), .val (.long j2), .second, .val (.int i4), .val (.int i5), .val (.int (2 : Int32)), .val (.int (4 : Int32)), .val (.ref o8)] [(.ref o8)])) _
        refine XS.iload X172.here hx rfl (hb hby at_260) rfl ?_
        exact kt
      obtain ⟨_, _, ⟨T174, L174, k174, n174⟩, -, X174, ⟨Lc174, hQ174, l174, y174, z174⟩, st174⟩ := Jvm.LawKit.callS X172 hx (y := (⟨"hotstate/sort/VarInts", "read", "([BI)I"⟩ : MethodName)) hown (mvT hZ (hw _ (List.mem_of_getElem? (i := 6) rfl))) (mvT hZ (hw _ (List.mem_of_getElem? (i := 7) rfl))) (mvT hZ (hw _ (List.mem_of_getElem? (i := 8) rfl))) (mvT hZ (hw _ (List.mem_of_getElem? (i := 9) rfl))) (by decide) (backOf (W := 0) (rm2n4 l Z a0 hw [] o8 (2 : Int32) (nar .byte (f1_0 i5 (0 : Int32) (4 : Int32))) (nar .byte (f1_0 i5 (1 : Int32) (4 : Int32))) (nar .byte (f1_0 i5 (2 : Int32) (4 : Int32))) (nar .byte (f1_0 i5 (3 : Int32) (4 : Int32))) [(.int xo8_0), (.int xo8_1), (.int (nar .byte (f1_0 i5 (0 : Int32) (4 : Int32)))), (.int (nar .byte (f1_0 i5 (1 : Int32) (4 : Int32)))), (.int (nar .byte (f1_0 i5 (2 : Int32) (4 : Int32)))), (.int (nar .byte (f1_0 i5 (3 : Int32) (4 : Int32)))), (.int xo8_6), (.int xo8_7), (.int xo8_8)] h172 n0 Ao8_172 (by decide) rfl rfl rfl rfl (own_last4 i5)) hZ (hw _ (List.mem_of_getElem? (i := 9) rfl)) (hw _ (List.mem_of_getElem? (i := 8) rfl)) (by decide) (by decide)) (g := (mkF m 262 #[.val (.int i0), .val (.int i1), .val (.long j2), .second, .val (.int i4), .val (.int i5), .val (.int (2 : Int32)), .val (.int (4 : Int32)), .val (.ref o8)] [(.int (2 : Int32)), (.ref o8)])) rfl (by rw [hml]; rfl) (argsL := [(.ref o8), (.int (2 : Int32))]) (rest := []) (lenOf pd2 rfl) rfl (by show 2 * 0 + _ ≤ _; exact Nat.le_of_eq rfl) (hb hby at_262) (fun _ _ => ⟨rfl, e172, (by decide : 1 + 0 ≤ _), (by decide : 9 + 0 ≤ _)⟩)
      dsimp only [Pt.U, Pt.locs, Pt.cells, Pt.slots] at X174 l174 y174 z174 st174 hQ174
      subst l174 y174 z174
      obtain ⟨rfl, Nq174, e174⟩ := hQ174
      have N174 := Fr.app N172 Nq174
      refine own_step (T' := T174) (f' := (mkF m 265 #[.val (.int i0), .val (.int i1), .val (.long j2), .second, .val (.int i4), .val (.int i5), .val (.int (2 : Int32)), .val (.int (4 : Int32)), .val (.ref o8)] [(.int (f2n4_0 (2 : Int32) (nar .byte (f1_0 i5 (0 : Int32) (4 : Int32))) (nar .byte (f1_0 i5 (1 : Int32) (4 : Int32))) (nar .byte (f1_0 i5 (2 : Int32) (4 : Int32))) (nar .byte (f1_0 i5 (3 : Int32) (4 : Int32)))))])) st174 ?_
      refine own_step (T' := T174) (f' := (mkF m 267 #[.val (.int i0), .val (.int i1), .val (.long j2), .second, .val (.int i4), .val (.int i5), .val (.int (2 : Int32)), .val (.int (4 : Int32)), .val (.ref o8)] [(.int i5), (.int (f2n4_0 (2 : Int32) (nar .byte (f1_0 i5 (0 : Int32) (4 : Int32))) (nar .byte (f1_0 i5 (1 : Int32) (4 : Int32))) (nar .byte (f1_0 i5 (2 : Int32) (4 : Int32))) (nar .byte (f1_0 i5 (3 : Int32) (4 : Int32)))))])) (fun t kt => ?_) ?_
      · show Steps p.tables e below (T174.setTop (mkF m 265 #[.val (.int i0), .val (.int i1), .val (.long j2), .second, .val (.int i4), .val (.int i5), .val (.int (2 : Int32)), .val (.int (4 : Int32)), .val (.ref o8)] [(.int (f2n4_0 (2 : Int32) (nar .byte (f1_0 i5 (0 : Int32) (4 : Int32))) (nar .byte (f1_0 i5 (1 : Int32) (4 : Int32))) (nar .byte (f1_0 i5 (2 : Int32) (4 : Int32))) (nar .byte (f1_0 i5 (3 : Int32) (4 : Int32)))))])) _
        refine XS.iload X174.here hx rfl (hb hby at_265) rfl ?_
        exact kt
      by_cases hc267_175 : (f2n4_0 (2 : Int32) (nar .byte (f1_0 i5 (0 : Int32) (4 : Int32))) (nar .byte (f1_0 i5 (1 : Int32) (4 : Int32))) (nar .byte (f1_0 i5 (2 : Int32) (4 : Int32))) (nar .byte (f1_0 i5 (3 : Int32) (4 : Int32)))) = i5
      · replace hr := hr.trans (if_pos hc267_175)
        refine own_step (T' := T174) (f' := (mkF m 270 #[.val (.int i0), .val (.int i1), .val (.long j2), .second, .val (.int i4), .val (.int i5), .val (.int (2 : Int32)), .val (.int (4 : Int32)), .val (.ref o8)] [])) (fun t kt => ?_) ?_
        · show Steps p.tables e below (T174.setTop (mkF m 267 #[.val (.int i0), .val (.int i1), .val (.long j2), .second, .val (.int i4), .val (.int i5), .val (.int (2 : Int32)), .val (.int (4 : Int32)), .val (.ref o8)] [(.int i5), (.int (f2n4_0 (2 : Int32) (nar .byte (f1_0 i5 (0 : Int32) (4 : Int32))) (nar .byte (f1_0 i5 (1 : Int32) (4 : Int32))) (nar .byte (f1_0 i5 (2 : Int32) (4 : Int32))) (nar .byte (f1_0 i5 (3 : Int32) (4 : Int32)))))])) _
          refine XS.icmpNo X174.here hx rfl (hb hby at_267) rfl (teq hc267_175).2 kt
        refine own_step (T' := T174) (f' := (mkF m 275 #[.val (.int i0), .val (.int i1), .val (.long j2), .second, .val (.int i4), .val (.int i5), .val (.int (2 : Int32)), .val (.int (4 : Int32)), .val (.ref o8)] [(.int (1 : Int32))])) (fun t kt => ?_) ?_
        · show Steps p.tables e below (T174.setTop (mkF m 270 #[.val (.int i0), .val (.int i1), .val (.long j2), .second, .val (.int i4), .val (.int i5), .val (.int (2 : Int32)), .val (.int (4 : Int32)), .val (.ref o8)] [])) _
          refine XS.iconst X174.here hx rfl (hb hby at_270) ?_
          show Steps p.tables e below (T174.setTop (mkF m 271 #[.val (.int i0), .val (.int i1), .val (.long j2), .second, .val (.int i4), .val (.int i5), .val (.int (2 : Int32)), .val (.int (4 : Int32)), .val (.ref o8)] [(.int (1 : Int32))])) _
          refine XS.goto X174.here hx rfl (pc0 := 271) (pc' := 275) rfl (hb hby at_271) (by decide) (by decide) ?_
          exact kt
        exact own_retZ X174 hx hret (by simp) hlk (hb hby at_275) (by decide) (by decide) ⟨congrArg (fun z => some (Value.int z)) hr.symm, N174⟩
      · replace hr := hr.trans (if_neg hc267_175)
        refine own_step (T' := T174) (f' := (mkF m 274 #[.val (.int i0), .val (.int i1), .val (.long j2), .second, .val (.int i4), .val (.int i5), .val (.int (2 : Int32)), .val (.int (4 : Int32)), .val (.ref o8)] [])) (fun t kt => ?_) ?_
        · show Steps p.tables e below (T174.setTop (mkF m 267 #[.val (.int i0), .val (.int i1), .val (.long j2), .second, .val (.int i4), .val (.int i5), .val (.int (2 : Int32)), .val (.int (4 : Int32)), .val (.ref o8)] [(.int i5), (.int (f2n4_0 (2 : Int32) (nar .byte (f1_0 i5 (0 : Int32) (4 : Int32))) (nar .byte (f1_0 i5 (1 : Int32) (4 : Int32))) (nar .byte (f1_0 i5 (2 : Int32) (4 : Int32))) (nar .byte (f1_0 i5 (3 : Int32) (4 : Int32)))))])) _
          refine XS.icmpYes X174.here hx rfl (pc0 := 267) (pc' := 274) rfl (hb hby at_267) rfl (feq hc267_175).2 (by decide) (by decide) kt
        refine own_step (T' := T174) (f' := (mkF m 275 #[.val (.int i0), .val (.int i1), .val (.long j2), .second, .val (.int i4), .val (.int i5), .val (.int (2 : Int32)), .val (.int (4 : Int32)), .val (.ref o8)] [(.int (0 : Int32))])) (fun t kt => ?_) ?_
        · show Steps p.tables e below (T174.setTop (mkF m 274 #[.val (.int i0), .val (.int i1), .val (.long j2), .second, .val (.int i4), .val (.int i5), .val (.int (2 : Int32)), .val (.int (4 : Int32)), .val (.ref o8)] [])) _
          refine XS.iconst X174.here hx rfl (hb hby at_274) ?_
          exact kt
        exact own_retZ X174 hx hret (by simp) hlk (hb hby at_275) (by decide) (by decide) ⟨congrArg (fun z => some (Value.int z)) hr.symm, N174⟩
    · replace hr := hr.trans ((if_neg (by decide)).trans ((if_neg (by decide)).trans ((if_neg (by decide)).trans ((if_neg (by decide)).trans (if_pos rfl)))))
      refine own_step (T' := T0) (f' := (mkF m 170 #[.val (.int i0), .val (.int i1), .val (.long j2), .second, .val (.int i4), .val (.int i5), .val (.int (2 : Int32)), .val (.int (5 : Int32)), .val (.ref o8)] [(.int (5 : Int32)), (.int (0 : Int32)), (.int i5), (.int (2 : Int32)), (.ref o8)])) (fun t kt => ?_) ?_
      · show Steps p.tables e below (T0.setTop (mkF m 161 #[.val (.int i0), .val (.int i1), .val (.long j2), .second, .val (.int i4), .val (.int i5), .val (.int (2 : Int32)), .val (.int (5 : Int32)), .val (.ref o8)] [])) _
        refine XS.aload X0.here hx rfl (hb hby at_161) rfl rfl ?_
        show Steps p.tables e below (T0.setTop (mkF m 163 #[.val (.int i0), .val (.int i1), .val (.long j2), .second, .val (.int i4), .val (.int i5), .val (.int (2 : Int32)), .val (.int (5 : Int32)), .val (.ref o8)] [(.ref o8)])) _
        refine XS.iload X0.here hx rfl (hb hby at_163) rfl ?_
        show Steps p.tables e below (T0.setTop (mkF m 165 #[.val (.int i0), .val (.int i1), .val (.long j2), .second, .val (.int i4), .val (.int i5), .val (.int (2 : Int32)), .val (.int (5 : Int32)), .val (.ref o8)] [(.int (2 : Int32)), (.ref o8)])) _
        refine XS.iload X0.here hx rfl (hb hby at_165) rfl ?_
        show Steps p.tables e below (T0.setTop (mkF m 167 #[.val (.int i0), .val (.int i1), .val (.long j2), .second, .val (.int i4), .val (.int i5), .val (.int (2 : Int32)), .val (.int (5 : Int32)), .val (.ref o8)] [(.int i5), (.int (2 : Int32)), (.ref o8)])) _
        refine XS.iconst X0.here hx rfl (hb hby at_167) ?_
        show Steps p.tables e below (T0.setTop (mkF m 168 #[.val (.int i0), .val (.int i1), .val (.long j2), .second, .val (.int i4), .val (.int i5), .val (.int (2 : Int32)), .val (.int (5 : Int32)), .val (.ref o8)] [(.int (0 : Int32)), (.int i5), (.int (2 : Int32)), (.ref o8)])) _
        refine XS.iload X0.here hx rfl (hb hby at_168) rfl ?_
        exact kt
      obtain ⟨_, _, ⟨T176, L176, k176, n176⟩, -, X176, ⟨Lc176, hQ176, l176, y176, z176⟩, st176⟩ := Jvm.LawKit.callS X0 hx (y := (⟨"hotstate/sort/VarIntsReadPinLaw", "enc", "(III)B"⟩ : MethodName)) hown (mvT hZ (hw _ (List.mem_of_getElem? (i := 2) rfl))) (mvT hZ (hw _ (List.mem_of_getElem? (i := 3) rfl))) (mvT hZ (hw _ (List.mem_of_getElem? (i := 4) rfl))) (mvT hZ (hw _ (List.mem_of_getElem? (i := 5) rfl))) (by decide) (backOf (W := 2) (rm1 l Z a0 hw [] i5 (0 : Int32) (5 : Int32)  h0 n0 ) hZ (hw _ (List.mem_of_getElem? (i := 5) rfl)) (hw _ (List.mem_of_getElem? (i := 4) rfl)) (by decide) (by decide)) (g := (mkF m 170 #[.val (.int i0), .val (.int i1), .val (.long j2), .second, .val (.int i4), .val (.int i5), .val (.int (2 : Int32)), .val (.int (5 : Int32)), .val (.ref o8)] [(.int (5 : Int32)), (.int (0 : Int32)), (.int i5), (.int (2 : Int32)), (.ref o8)])) rfl (by rw [hml]; rfl) (argsL := [(.int i5), (.int (0 : Int32)), (.int (5 : Int32))]) (rest := [(.int (2 : Int32)), (.ref o8)]) (lenOf pd1 rfl) rfl (by show 2 * 0 + _ ≤ _; exact Nat.le_of_eq rfl) (hb hby at_170) (fun _ _ => ⟨rfl, e0, (by decide : 1 + 0 ≤ _), (by decide : 9 + 0 ≤ _)⟩)
      dsimp only [Pt.U, Pt.locs, Pt.cells, Pt.slots] at X176 l176 y176 z176 st176 hQ176
      subst l176 y176 z176
      obtain ⟨rfl, Nq176, e176⟩ := hQ176
      have N176 := Fr.app N0 Nq176
      refine own_step (T' := T176) (f' := (mkF m 173 #[.val (.int i0), .val (.int i1), .val (.long j2), .second, .val (.int i4), .val (.int i5), .val (.int (2 : Int32)), .val (.int (5 : Int32)), .val (.ref o8)] [(.int (f1_0 i5 (0 : Int32) (5 : Int32))), (.int (2 : Int32)), (.ref o8)])) st176 ?_
      obtain ⟨T177, h177, Lq177, X177, N177, e177, W177, Z177, Aq177, st177⟩ := own_stB X176 hx hZ e176 Ao8 (j := (2 : Int32)) (by decide) (k := 2) (by decide) (Nat.le_of_ble_eq_true rfl) N176 go8 Z0 (g := (mkF m 173 #[.val (.int i0), .val (.int i1), .val (.long j2), .second, .val (.int i4), .val (.int i5), .val (.int (2 : Int32)), .val (.int (5 : Int32)), .val (.ref o8)] [(.int (f1_0 i5 (0 : Int32) (5 : Int32))), (.int (2 : Int32)), (.ref o8)])) rfl rfl (hb hby at_173)
      have Ao8_177 : own_A Z h177 o8 .byte [(.int xo8_0), (.int xo8_1), (.int (nar .byte (f1_0 i5 (0 : Int32) (5 : Int32)))), (.int xo8_3), (.int xo8_4), (.int xo8_5), (.int xo8_6), (.int xo8_7), (.int xo8_8)] := Aq177
      refine own_step (T' := T177) (f' := (mkF m 174 #[.val (.int i0), .val (.int i1), .val (.long j2), .second, .val (.int i4), .val (.int i5), .val (.int (2 : Int32)), .val (.int (5 : Int32)), .val (.ref o8)] [])) st177 ?_
      refine own_step (T' := T177) (f' := (mkF m 177 #[.val (.int i0), .val (.int i1), .val (.long j2), .second, .val (.int i4), .val (.int i5), .val (.int (2 : Int32)), .val (.int (5 : Int32)), .val (.ref o8)] [(.int (1 : Int32)), (.int (5 : Int32))])) (fun t kt => ?_) ?_
      · show Steps p.tables e below (T177.setTop (mkF m 174 #[.val (.int i0), .val (.int i1), .val (.long j2), .second, .val (.int i4), .val (.int i5), .val (.int (2 : Int32)), .val (.int (5 : Int32)), .val (.ref o8)] [])) _
        refine XS.iload X177.here hx rfl (hb hby at_174) rfl ?_
        show Steps p.tables e below (T177.setTop (mkF m 176 #[.val (.int i0), .val (.int i1), .val (.long j2), .second, .val (.int i4), .val (.int i5), .val (.int (2 : Int32)), .val (.int (5 : Int32)), .val (.ref o8)] [(.int (5 : Int32))])) _
        refine XS.iconst X177.here hx rfl (hb hby at_176) ?_
        exact kt
      refine own_step (T' := T177) (f' := (mkF m 180 #[.val (.int i0), .val (.int i1), .val (.long j2), .second, .val (.int i4), .val (.int i5), .val (.int (2 : Int32)), .val (.int (5 : Int32)), .val (.ref o8)] [])) (fun t kt => ?_) ?_
      · show Steps p.tables e below (T177.setTop (mkF m 177 #[.val (.int i0), .val (.int i1), .val (.long j2), .second, .val (.int i4), .val (.int i5), .val (.int (2 : Int32)), .val (.int (5 : Int32)), .val (.ref o8)] [(.int (1 : Int32)), (.int (5 : Int32))])) _
        refine XS.icmpNo X177.here hx rfl (hb hby at_177) rfl (tlt (by decide : ((1 : Int32) < (5 : Int32)))).2.2.2 kt
      refine own_step (T' := T177) (f' := (mkF m 191 #[.val (.int i0), .val (.int i1), .val (.long j2), .second, .val (.int i4), .val (.int i5), .val (.int (2 : Int32)), .val (.int (5 : Int32)), .val (.ref o8)] [(.int (5 : Int32)), (.int (1 : Int32)), (.int i5), (.int (3 : Int32)), (.ref o8)])) (fun t kt => ?_) ?_
      · show Steps p.tables e below (T177.setTop (mkF m 180 #[.val (.int i0), .val (.int i1), .val (.long j2), .second, .val (.int i4), .val (.int i5), .val (.int (2 : Int32)), .val (.int (5 : Int32)), .val (.ref o8)] [])) _
        refine XS.aload X177.here hx rfl (hb hby at_180) rfl rfl ?_
        show Steps p.tables e below (T177.setTop (mkF m 182 #[.val (.int i0), .val (.int i1), .val (.long j2), .second, .val (.int i4), .val (.int i5), .val (.int (2 : Int32)), .val (.int (5 : Int32)), .val (.ref o8)] [(.ref o8)])) _
        refine XS.iload X177.here hx rfl (hb hby at_182) rfl ?_
        show Steps p.tables e below (T177.setTop (mkF m 184 #[.val (.int i0), .val (.int i1), .val (.long j2), .second, .val (.int i4), .val (.int i5), .val (.int (2 : Int32)), .val (.int (5 : Int32)), .val (.ref o8)] [(.int (2 : Int32)), (.ref o8)])) _
        refine XS.iconst X177.here hx rfl (hb hby at_184) ?_
        show Steps p.tables e below (T177.setTop (mkF m 185 #[.val (.int i0), .val (.int i1), .val (.long j2), .second, .val (.int i4), .val (.int i5), .val (.int (2 : Int32)), .val (.int (5 : Int32)), .val (.ref o8)] [(.int (1 : Int32)), (.int (2 : Int32)), (.ref o8)])) _
        refine XS.iadd X177.here hx rfl (hb hby at_185) rfl ?_
        show Steps p.tables e below (T177.setTop (mkF m 186 #[.val (.int i0), .val (.int i1), .val (.long j2), .second, .val (.int i4), .val (.int i5), .val (.int (2 : Int32)), .val (.int (5 : Int32)), .val (.ref o8)] [(.int (3 : Int32)), (.ref o8)])) _
        refine XS.iload X177.here hx rfl (hb hby at_186) rfl ?_
        show Steps p.tables e below (T177.setTop (mkF m 188 #[.val (.int i0), .val (.int i1), .val (.long j2), .second, .val (.int i4), .val (.int i5), .val (.int (2 : Int32)), .val (.int (5 : Int32)), .val (.ref o8)] [(.int i5), (.int (3 : Int32)), (.ref o8)])) _
        refine XS.iconst X177.here hx rfl (hb hby at_188) ?_
        show Steps p.tables e below (T177.setTop (mkF m 189 #[.val (.int i0), .val (.int i1), .val (.long j2), .second, .val (.int i4), .val (.int i5), .val (.int (2 : Int32)), .val (.int (5 : Int32)), .val (.ref o8)] [(.int (1 : Int32)), (.int i5), (.int (3 : Int32)), (.ref o8)])) _
        refine XS.iload X177.here hx rfl (hb hby at_189) rfl ?_
        exact kt
      obtain ⟨_, _, ⟨T179, L179, k179, n179⟩, -, X179, ⟨Lc179, hQ179, l179, y179, z179⟩, st179⟩ := Jvm.LawKit.callS X177 hx (y := (⟨"hotstate/sort/VarIntsReadPinLaw", "enc", "(III)B"⟩ : MethodName)) hown (mvT hZ (hw _ (List.mem_of_getElem? (i := 2) rfl))) (mvT hZ (hw _ (List.mem_of_getElem? (i := 3) rfl))) (mvT hZ (hw _ (List.mem_of_getElem? (i := 4) rfl))) (mvT hZ (hw _ (List.mem_of_getElem? (i := 5) rfl))) (by decide) (backOf (W := 2) (rm1 l Z a0 hw [] i5 (1 : Int32) (5 : Int32)  h177 n0 ) hZ (hw _ (List.mem_of_getElem? (i := 5) rfl)) (hw _ (List.mem_of_getElem? (i := 4) rfl)) (by decide) (by decide)) (g := (mkF m 191 #[.val (.int i0), .val (.int i1), .val (.long j2), .second, .val (.int i4), .val (.int i5), .val (.int (2 : Int32)), .val (.int (5 : Int32)), .val (.ref o8)] [(.int (5 : Int32)), (.int (1 : Int32)), (.int i5), (.int (3 : Int32)), (.ref o8)])) rfl (by rw [hml]; rfl) (argsL := [(.int i5), (.int (1 : Int32)), (.int (5 : Int32))]) (rest := [(.int (3 : Int32)), (.ref o8)]) (lenOf pd1 rfl) rfl (by show 2 * 0 + _ ≤ _; exact Nat.le_of_eq rfl) (hb hby at_191) (fun _ _ => ⟨rfl, e177, (by decide : 1 + 0 ≤ _), (by decide : 9 + 0 ≤ _)⟩)
      dsimp only [Pt.U, Pt.locs, Pt.cells, Pt.slots] at X179 l179 y179 z179 st179 hQ179
      subst l179 y179 z179
      obtain ⟨rfl, Nq179, e179⟩ := hQ179
      have N179 := Fr.app N177 Nq179
      refine own_step (T' := T179) (f' := (mkF m 194 #[.val (.int i0), .val (.int i1), .val (.long j2), .second, .val (.int i4), .val (.int i5), .val (.int (2 : Int32)), .val (.int (5 : Int32)), .val (.ref o8)] [(.int (f1_0 i5 (1 : Int32) (5 : Int32))), (.int (3 : Int32)), (.ref o8)])) st179 ?_
      obtain ⟨T180, h180, Lq180, X180, N180, e180, W180, Z180, Aq180, st180⟩ := own_stB X179 hx hZ e179 Ao8_177 (j := (3 : Int32)) (by decide) (k := 3) (by decide) (Nat.le_of_ble_eq_true rfl) N179 go8 Z177 (g := (mkF m 194 #[.val (.int i0), .val (.int i1), .val (.long j2), .second, .val (.int i4), .val (.int i5), .val (.int (2 : Int32)), .val (.int (5 : Int32)), .val (.ref o8)] [(.int (f1_0 i5 (1 : Int32) (5 : Int32))), (.int (3 : Int32)), (.ref o8)])) rfl rfl (hb hby at_194)
      have Ao8_180 : own_A Z h180 o8 .byte [(.int xo8_0), (.int xo8_1), (.int (nar .byte (f1_0 i5 (0 : Int32) (5 : Int32)))), (.int (nar .byte (f1_0 i5 (1 : Int32) (5 : Int32)))), (.int xo8_4), (.int xo8_5), (.int xo8_6), (.int xo8_7), (.int xo8_8)] := Aq180
      refine own_step (T' := T180) (f' := (mkF m 195 #[.val (.int i0), .val (.int i1), .val (.long j2), .second, .val (.int i4), .val (.int i5), .val (.int (2 : Int32)), .val (.int (5 : Int32)), .val (.ref o8)] [])) st180 ?_
      refine own_step (T' := T180) (f' := (mkF m 198 #[.val (.int i0), .val (.int i1), .val (.long j2), .second, .val (.int i4), .val (.int i5), .val (.int (2 : Int32)), .val (.int (5 : Int32)), .val (.ref o8)] [(.int (2 : Int32)), (.int (5 : Int32))])) (fun t kt => ?_) ?_
      · show Steps p.tables e below (T180.setTop (mkF m 195 #[.val (.int i0), .val (.int i1), .val (.long j2), .second, .val (.int i4), .val (.int i5), .val (.int (2 : Int32)), .val (.int (5 : Int32)), .val (.ref o8)] [])) _
        refine XS.iload X180.here hx rfl (hb hby at_195) rfl ?_
        show Steps p.tables e below (T180.setTop (mkF m 197 #[.val (.int i0), .val (.int i1), .val (.long j2), .second, .val (.int i4), .val (.int i5), .val (.int (2 : Int32)), .val (.int (5 : Int32)), .val (.ref o8)] [(.int (5 : Int32))])) _
        refine XS.iconst X180.here hx rfl (hb hby at_197) ?_
        exact kt
      refine own_step (T' := T180) (f' := (mkF m 201 #[.val (.int i0), .val (.int i1), .val (.long j2), .second, .val (.int i4), .val (.int i5), .val (.int (2 : Int32)), .val (.int (5 : Int32)), .val (.ref o8)] [])) (fun t kt => ?_) ?_
      · show Steps p.tables e below (T180.setTop (mkF m 198 #[.val (.int i0), .val (.int i1), .val (.long j2), .second, .val (.int i4), .val (.int i5), .val (.int (2 : Int32)), .val (.int (5 : Int32)), .val (.ref o8)] [(.int (2 : Int32)), (.int (5 : Int32))])) _
        refine XS.icmpNo X180.here hx rfl (hb hby at_198) rfl (tlt (by decide : ((2 : Int32) < (5 : Int32)))).2.2.2 kt
      refine own_step (T' := T180) (f' := (mkF m 212 #[.val (.int i0), .val (.int i1), .val (.long j2), .second, .val (.int i4), .val (.int i5), .val (.int (2 : Int32)), .val (.int (5 : Int32)), .val (.ref o8)] [(.int (5 : Int32)), (.int (2 : Int32)), (.int i5), (.int (4 : Int32)), (.ref o8)])) (fun t kt => ?_) ?_
      · show Steps p.tables e below (T180.setTop (mkF m 201 #[.val (.int i0), .val (.int i1), .val (.long j2), .second, .val (.int i4), .val (.int i5), .val (.int (2 : Int32)), .val (.int (5 : Int32)), .val (.ref o8)] [])) _
        refine XS.aload X180.here hx rfl (hb hby at_201) rfl rfl ?_
        show Steps p.tables e below (T180.setTop (mkF m 203 #[.val (.int i0), .val (.int i1), .val (.long j2), .second, .val (.int i4), .val (.int i5), .val (.int (2 : Int32)), .val (.int (5 : Int32)), .val (.ref o8)] [(.ref o8)])) _
        refine XS.iload X180.here hx rfl (hb hby at_203) rfl ?_
        show Steps p.tables e below (T180.setTop (mkF m 205 #[.val (.int i0), .val (.int i1), .val (.long j2), .second, .val (.int i4), .val (.int i5), .val (.int (2 : Int32)), .val (.int (5 : Int32)), .val (.ref o8)] [(.int (2 : Int32)), (.ref o8)])) _
        refine XS.iconst X180.here hx rfl (hb hby at_205) ?_
        show Steps p.tables e below (T180.setTop (mkF m 206 #[.val (.int i0), .val (.int i1), .val (.long j2), .second, .val (.int i4), .val (.int i5), .val (.int (2 : Int32)), .val (.int (5 : Int32)), .val (.ref o8)] [(.int (2 : Int32)), (.int (2 : Int32)), (.ref o8)])) _
        refine XS.iadd X180.here hx rfl (hb hby at_206) rfl ?_
        show Steps p.tables e below (T180.setTop (mkF m 207 #[.val (.int i0), .val (.int i1), .val (.long j2), .second, .val (.int i4), .val (.int i5), .val (.int (2 : Int32)), .val (.int (5 : Int32)), .val (.ref o8)] [(.int (4 : Int32)), (.ref o8)])) _
        refine XS.iload X180.here hx rfl (hb hby at_207) rfl ?_
        show Steps p.tables e below (T180.setTop (mkF m 209 #[.val (.int i0), .val (.int i1), .val (.long j2), .second, .val (.int i4), .val (.int i5), .val (.int (2 : Int32)), .val (.int (5 : Int32)), .val (.ref o8)] [(.int i5), (.int (4 : Int32)), (.ref o8)])) _
        refine XS.iconst X180.here hx rfl (hb hby at_209) ?_
        show Steps p.tables e below (T180.setTop (mkF m 210 #[.val (.int i0), .val (.int i1), .val (.long j2), .second, .val (.int i4), .val (.int i5), .val (.int (2 : Int32)), .val (.int (5 : Int32)), .val (.ref o8)] [(.int (2 : Int32)), (.int i5), (.int (4 : Int32)), (.ref o8)])) _
        refine XS.iload X180.here hx rfl (hb hby at_210) rfl ?_
        exact kt
      obtain ⟨_, _, ⟨T182, L182, k182, n182⟩, -, X182, ⟨Lc182, hQ182, l182, y182, z182⟩, st182⟩ := Jvm.LawKit.callS X180 hx (y := (⟨"hotstate/sort/VarIntsReadPinLaw", "enc", "(III)B"⟩ : MethodName)) hown (mvT hZ (hw _ (List.mem_of_getElem? (i := 2) rfl))) (mvT hZ (hw _ (List.mem_of_getElem? (i := 3) rfl))) (mvT hZ (hw _ (List.mem_of_getElem? (i := 4) rfl))) (mvT hZ (hw _ (List.mem_of_getElem? (i := 5) rfl))) (by decide) (backOf (W := 2) (rm1 l Z a0 hw [] i5 (2 : Int32) (5 : Int32)  h180 n0 ) hZ (hw _ (List.mem_of_getElem? (i := 5) rfl)) (hw _ (List.mem_of_getElem? (i := 4) rfl)) (by decide) (by decide)) (g := (mkF m 212 #[.val (.int i0), .val (.int i1), .val (.long j2), .second, .val (.int i4), .val (.int i5), .val (.int (2 : Int32)), .val (.int (5 : Int32)), .val (.ref o8)] [(.int (5 : Int32)), (.int (2 : Int32)), (.int i5), (.int (4 : Int32)), (.ref o8)])) rfl (by rw [hml]; rfl) (argsL := [(.int i5), (.int (2 : Int32)), (.int (5 : Int32))]) (rest := [(.int (4 : Int32)), (.ref o8)]) (lenOf pd1 rfl) rfl (by show 2 * 0 + _ ≤ _; exact Nat.le_of_eq rfl) (hb hby at_212) (fun _ _ => ⟨rfl, e180, (by decide : 1 + 0 ≤ _), (by decide : 9 + 0 ≤ _)⟩)
      dsimp only [Pt.U, Pt.locs, Pt.cells, Pt.slots] at X182 l182 y182 z182 st182 hQ182
      subst l182 y182 z182
      obtain ⟨rfl, Nq182, e182⟩ := hQ182
      have N182 := Fr.app N180 Nq182
      refine own_step (T' := T182) (f' := (mkF m 215 #[.val (.int i0), .val (.int i1), .val (.long j2), .second, .val (.int i4), .val (.int i5), .val (.int (2 : Int32)), .val (.int (5 : Int32)), .val (.ref o8)] [(.int (f1_0 i5 (2 : Int32) (5 : Int32))), (.int (4 : Int32)), (.ref o8)])) st182 ?_
      obtain ⟨T183, h183, Lq183, X183, N183, e183, W183, Z183, Aq183, st183⟩ := own_stB X182 hx hZ e182 Ao8_180 (j := (4 : Int32)) (by decide) (k := 4) (by decide) (Nat.le_of_ble_eq_true rfl) N182 go8 Z180 (g := (mkF m 215 #[.val (.int i0), .val (.int i1), .val (.long j2), .second, .val (.int i4), .val (.int i5), .val (.int (2 : Int32)), .val (.int (5 : Int32)), .val (.ref o8)] [(.int (f1_0 i5 (2 : Int32) (5 : Int32))), (.int (4 : Int32)), (.ref o8)])) rfl rfl (hb hby at_215)
      have Ao8_183 : own_A Z h183 o8 .byte [(.int xo8_0), (.int xo8_1), (.int (nar .byte (f1_0 i5 (0 : Int32) (5 : Int32)))), (.int (nar .byte (f1_0 i5 (1 : Int32) (5 : Int32)))), (.int (nar .byte (f1_0 i5 (2 : Int32) (5 : Int32)))), (.int xo8_5), (.int xo8_6), (.int xo8_7), (.int xo8_8)] := Aq183
      refine own_step (T' := T183) (f' := (mkF m 216 #[.val (.int i0), .val (.int i1), .val (.long j2), .second, .val (.int i4), .val (.int i5), .val (.int (2 : Int32)), .val (.int (5 : Int32)), .val (.ref o8)] [])) st183 ?_
      refine own_step (T' := T183) (f' := (mkF m 219 #[.val (.int i0), .val (.int i1), .val (.long j2), .second, .val (.int i4), .val (.int i5), .val (.int (2 : Int32)), .val (.int (5 : Int32)), .val (.ref o8)] [(.int (3 : Int32)), (.int (5 : Int32))])) (fun t kt => ?_) ?_
      · show Steps p.tables e below (T183.setTop (mkF m 216 #[.val (.int i0), .val (.int i1), .val (.long j2), .second, .val (.int i4), .val (.int i5), .val (.int (2 : Int32)), .val (.int (5 : Int32)), .val (.ref o8)] [])) _
        refine XS.iload X183.here hx rfl (hb hby at_216) rfl ?_
        show Steps p.tables e below (T183.setTop (mkF m 218 #[.val (.int i0), .val (.int i1), .val (.long j2), .second, .val (.int i4), .val (.int i5), .val (.int (2 : Int32)), .val (.int (5 : Int32)), .val (.ref o8)] [(.int (5 : Int32))])) _
        refine XS.iconst X183.here hx rfl (hb hby at_218) ?_
        exact kt
      refine own_step (T' := T183) (f' := (mkF m 222 #[.val (.int i0), .val (.int i1), .val (.long j2), .second, .val (.int i4), .val (.int i5), .val (.int (2 : Int32)), .val (.int (5 : Int32)), .val (.ref o8)] [])) (fun t kt => ?_) ?_
      · show Steps p.tables e below (T183.setTop (mkF m 219 #[.val (.int i0), .val (.int i1), .val (.long j2), .second, .val (.int i4), .val (.int i5), .val (.int (2 : Int32)), .val (.int (5 : Int32)), .val (.ref o8)] [(.int (3 : Int32)), (.int (5 : Int32))])) _
        refine XS.icmpNo X183.here hx rfl (hb hby at_219) rfl (tlt (by decide : ((3 : Int32) < (5 : Int32)))).2.2.2 kt
      refine own_step (T' := T183) (f' := (mkF m 233 #[.val (.int i0), .val (.int i1), .val (.long j2), .second, .val (.int i4), .val (.int i5), .val (.int (2 : Int32)), .val (.int (5 : Int32)), .val (.ref o8)] [(.int (5 : Int32)), (.int (3 : Int32)), (.int i5), (.int (5 : Int32)), (.ref o8)])) (fun t kt => ?_) ?_
      · show Steps p.tables e below (T183.setTop (mkF m 222 #[.val (.int i0), .val (.int i1), .val (.long j2), .second, .val (.int i4), .val (.int i5), .val (.int (2 : Int32)), .val (.int (5 : Int32)), .val (.ref o8)] [])) _
        refine XS.aload X183.here hx rfl (hb hby at_222) rfl rfl ?_
        show Steps p.tables e below (T183.setTop (mkF m 224 #[.val (.int i0), .val (.int i1), .val (.long j2), .second, .val (.int i4), .val (.int i5), .val (.int (2 : Int32)), .val (.int (5 : Int32)), .val (.ref o8)] [(.ref o8)])) _
        refine XS.iload X183.here hx rfl (hb hby at_224) rfl ?_
        show Steps p.tables e below (T183.setTop (mkF m 226 #[.val (.int i0), .val (.int i1), .val (.long j2), .second, .val (.int i4), .val (.int i5), .val (.int (2 : Int32)), .val (.int (5 : Int32)), .val (.ref o8)] [(.int (2 : Int32)), (.ref o8)])) _
        refine XS.iconst X183.here hx rfl (hb hby at_226) ?_
        show Steps p.tables e below (T183.setTop (mkF m 227 #[.val (.int i0), .val (.int i1), .val (.long j2), .second, .val (.int i4), .val (.int i5), .val (.int (2 : Int32)), .val (.int (5 : Int32)), .val (.ref o8)] [(.int (3 : Int32)), (.int (2 : Int32)), (.ref o8)])) _
        refine XS.iadd X183.here hx rfl (hb hby at_227) rfl ?_
        show Steps p.tables e below (T183.setTop (mkF m 228 #[.val (.int i0), .val (.int i1), .val (.long j2), .second, .val (.int i4), .val (.int i5), .val (.int (2 : Int32)), .val (.int (5 : Int32)), .val (.ref o8)] [(.int (5 : Int32)), (.ref o8)])) _
        refine XS.iload X183.here hx rfl (hb hby at_228) rfl ?_
        show Steps p.tables e below (T183.setTop (mkF m 230 #[.val (.int i0), .val (.int i1), .val (.long j2), .second, .val (.int i4), .val (.int i5), .val (.int (2 : Int32)), .val (.int (5 : Int32)), .val (.ref o8)] [(.int i5), (.int (5 : Int32)), (.ref o8)])) _
        refine XS.iconst X183.here hx rfl (hb hby at_230) ?_
        show Steps p.tables e below (T183.setTop (mkF m 231 #[.val (.int i0), .val (.int i1), .val (.long j2), .second, .val (.int i4), .val (.int i5), .val (.int (2 : Int32)), .val (.int (5 : Int32)), .val (.ref o8)] [(.int (3 : Int32)), (.int i5), (.int (5 : Int32)), (.ref o8)])) _
        refine XS.iload X183.here hx rfl (hb hby at_231) rfl ?_
        exact kt
      obtain ⟨_, _, ⟨T185, L185, k185, n185⟩, -, X185, ⟨Lc185, hQ185, l185, y185, z185⟩, st185⟩ := Jvm.LawKit.callS X183 hx (y := (⟨"hotstate/sort/VarIntsReadPinLaw", "enc", "(III)B"⟩ : MethodName)) hown (mvT hZ (hw _ (List.mem_of_getElem? (i := 2) rfl))) (mvT hZ (hw _ (List.mem_of_getElem? (i := 3) rfl))) (mvT hZ (hw _ (List.mem_of_getElem? (i := 4) rfl))) (mvT hZ (hw _ (List.mem_of_getElem? (i := 5) rfl))) (by decide) (backOf (W := 2) (rm1 l Z a0 hw [] i5 (3 : Int32) (5 : Int32)  h183 n0 ) hZ (hw _ (List.mem_of_getElem? (i := 5) rfl)) (hw _ (List.mem_of_getElem? (i := 4) rfl)) (by decide) (by decide)) (g := (mkF m 233 #[.val (.int i0), .val (.int i1), .val (.long j2), .second, .val (.int i4), .val (.int i5), .val (.int (2 : Int32)), .val (.int (5 : Int32)), .val (.ref o8)] [(.int (5 : Int32)), (.int (3 : Int32)), (.int i5), (.int (5 : Int32)), (.ref o8)])) rfl (by rw [hml]; rfl) (argsL := [(.int i5), (.int (3 : Int32)), (.int (5 : Int32))]) (rest := [(.int (5 : Int32)), (.ref o8)]) (lenOf pd1 rfl) rfl (by show 2 * 0 + _ ≤ _; exact Nat.le_of_eq rfl) (hb hby at_233) (fun _ _ => ⟨rfl, e183, (by decide : 1 + 0 ≤ _), (by decide : 9 + 0 ≤ _)⟩)
      dsimp only [Pt.U, Pt.locs, Pt.cells, Pt.slots] at X185 l185 y185 z185 st185 hQ185
      subst l185 y185 z185
      obtain ⟨rfl, Nq185, e185⟩ := hQ185
      have N185 := Fr.app N183 Nq185
      refine own_step (T' := T185) (f' := (mkF m 236 #[.val (.int i0), .val (.int i1), .val (.long j2), .second, .val (.int i4), .val (.int i5), .val (.int (2 : Int32)), .val (.int (5 : Int32)), .val (.ref o8)] [(.int (f1_0 i5 (3 : Int32) (5 : Int32))), (.int (5 : Int32)), (.ref o8)])) st185 ?_
      obtain ⟨T186, h186, Lq186, X186, N186, e186, W186, Z186, Aq186, st186⟩ := own_stB X185 hx hZ e185 Ao8_183 (j := (5 : Int32)) (by decide) (k := 5) (by decide) (Nat.le_of_ble_eq_true rfl) N185 go8 Z183 (g := (mkF m 236 #[.val (.int i0), .val (.int i1), .val (.long j2), .second, .val (.int i4), .val (.int i5), .val (.int (2 : Int32)), .val (.int (5 : Int32)), .val (.ref o8)] [(.int (f1_0 i5 (3 : Int32) (5 : Int32))), (.int (5 : Int32)), (.ref o8)])) rfl rfl (hb hby at_236)
      have Ao8_186 : own_A Z h186 o8 .byte [(.int xo8_0), (.int xo8_1), (.int (nar .byte (f1_0 i5 (0 : Int32) (5 : Int32)))), (.int (nar .byte (f1_0 i5 (1 : Int32) (5 : Int32)))), (.int (nar .byte (f1_0 i5 (2 : Int32) (5 : Int32)))), (.int (nar .byte (f1_0 i5 (3 : Int32) (5 : Int32)))), (.int xo8_6), (.int xo8_7), (.int xo8_8)] := Aq186
      refine own_step (T' := T186) (f' := (mkF m 237 #[.val (.int i0), .val (.int i1), .val (.long j2), .second, .val (.int i4), .val (.int i5), .val (.int (2 : Int32)), .val (.int (5 : Int32)), .val (.ref o8)] [])) st186 ?_
      refine own_step (T' := T186) (f' := (mkF m 240 #[.val (.int i0), .val (.int i1), .val (.long j2), .second, .val (.int i4), .val (.int i5), .val (.int (2 : Int32)), .val (.int (5 : Int32)), .val (.ref o8)] [(.int (4 : Int32)), (.int (5 : Int32))])) (fun t kt => ?_) ?_
      · show Steps p.tables e below (T186.setTop (mkF m 237 #[.val (.int i0), .val (.int i1), .val (.long j2), .second, .val (.int i4), .val (.int i5), .val (.int (2 : Int32)), .val (.int (5 : Int32)), .val (.ref o8)] [])) _
        refine XS.iload X186.here hx rfl (hb hby at_237) rfl ?_
        show Steps p.tables e below (T186.setTop (mkF m 239 #[.val (.int i0), .val (.int i1), .val (.long j2), .second, .val (.int i4), .val (.int i5), .val (.int (2 : Int32)), .val (.int (5 : Int32)), .val (.ref o8)] [(.int (5 : Int32))])) _
        refine XS.iconst X186.here hx rfl (hb hby at_239) ?_
        exact kt
      refine own_step (T' := T186) (f' := (mkF m 243 #[.val (.int i0), .val (.int i1), .val (.long j2), .second, .val (.int i4), .val (.int i5), .val (.int (2 : Int32)), .val (.int (5 : Int32)), .val (.ref o8)] [])) (fun t kt => ?_) ?_
      · show Steps p.tables e below (T186.setTop (mkF m 240 #[.val (.int i0), .val (.int i1), .val (.long j2), .second, .val (.int i4), .val (.int i5), .val (.int (2 : Int32)), .val (.int (5 : Int32)), .val (.ref o8)] [(.int (4 : Int32)), (.int (5 : Int32))])) _
        refine XS.icmpNo X186.here hx rfl (hb hby at_240) rfl (tlt (by decide : ((4 : Int32) < (5 : Int32)))).2.2.2 kt
      refine own_step (T' := T186) (f' := (mkF m 254 #[.val (.int i0), .val (.int i1), .val (.long j2), .second, .val (.int i4), .val (.int i5), .val (.int (2 : Int32)), .val (.int (5 : Int32)), .val (.ref o8)] [(.int (5 : Int32)), (.int (4 : Int32)), (.int i5), (.int (6 : Int32)), (.ref o8)])) (fun t kt => ?_) ?_
      · show Steps p.tables e below (T186.setTop (mkF m 243 #[.val (.int i0), .val (.int i1), .val (.long j2), .second, .val (.int i4), .val (.int i5), .val (.int (2 : Int32)), .val (.int (5 : Int32)), .val (.ref o8)] [])) _
        refine XS.aload X186.here hx rfl (hb hby at_243) rfl rfl ?_
        show Steps p.tables e below (T186.setTop (mkF m 245 #[.val (.int i0), .val (.int i1), .val (.long j2), .second, .val (.int i4), .val (.int i5), .val (.int (2 : Int32)), .val (.int (5 : Int32)), .val (.ref o8)] [(.ref o8)])) _
        refine XS.iload X186.here hx rfl (hb hby at_245) rfl ?_
        show Steps p.tables e below (T186.setTop (mkF m 247 #[.val (.int i0), .val (.int i1), .val (.long j2), .second, .val (.int i4), .val (.int i5), .val (.int (2 : Int32)), .val (.int (5 : Int32)), .val (.ref o8)] [(.int (2 : Int32)), (.ref o8)])) _
        refine XS.iconst X186.here hx rfl (hb hby at_247) ?_
        show Steps p.tables e below (T186.setTop (mkF m 248 #[.val (.int i0), .val (.int i1), .val (.long j2), .second, .val (.int i4), .val (.int i5), .val (.int (2 : Int32)), .val (.int (5 : Int32)), .val (.ref o8)] [(.int (4 : Int32)), (.int (2 : Int32)), (.ref o8)])) _
        refine XS.iadd X186.here hx rfl (hb hby at_248) rfl ?_
        show Steps p.tables e below (T186.setTop (mkF m 249 #[.val (.int i0), .val (.int i1), .val (.long j2), .second, .val (.int i4), .val (.int i5), .val (.int (2 : Int32)), .val (.int (5 : Int32)), .val (.ref o8)] [(.int (6 : Int32)), (.ref o8)])) _
        refine XS.iload X186.here hx rfl (hb hby at_249) rfl ?_
        show Steps p.tables e below (T186.setTop (mkF m 251 #[.val (.int i0), .val (.int i1), .val (.long j2), .second, .val (.int i4), .val (.int i5), .val (.int (2 : Int32)), .val (.int (5 : Int32)), .val (.ref o8)] [(.int i5), (.int (6 : Int32)), (.ref o8)])) _
        refine XS.iconst X186.here hx rfl (hb hby at_251) ?_
        show Steps p.tables e below (T186.setTop (mkF m 252 #[.val (.int i0), .val (.int i1), .val (.long j2), .second, .val (.int i4), .val (.int i5), .val (.int (2 : Int32)), .val (.int (5 : Int32)), .val (.ref o8)] [(.int (4 : Int32)), (.int i5), (.int (6 : Int32)), (.ref o8)])) _
        refine XS.iload X186.here hx rfl (hb hby at_252) rfl ?_
        exact kt
      obtain ⟨_, _, ⟨T188, L188, k188, n188⟩, -, X188, ⟨Lc188, hQ188, l188, y188, z188⟩, st188⟩ := Jvm.LawKit.callS X186 hx (y := (⟨"hotstate/sort/VarIntsReadPinLaw", "enc", "(III)B"⟩ : MethodName)) hown (mvT hZ (hw _ (List.mem_of_getElem? (i := 2) rfl))) (mvT hZ (hw _ (List.mem_of_getElem? (i := 3) rfl))) (mvT hZ (hw _ (List.mem_of_getElem? (i := 4) rfl))) (mvT hZ (hw _ (List.mem_of_getElem? (i := 5) rfl))) (by decide) (backOf (W := 2) (rm1 l Z a0 hw [] i5 (4 : Int32) (5 : Int32)  h186 n0 ) hZ (hw _ (List.mem_of_getElem? (i := 5) rfl)) (hw _ (List.mem_of_getElem? (i := 4) rfl)) (by decide) (by decide)) (g := (mkF m 254 #[.val (.int i0), .val (.int i1), .val (.long j2), .second, .val (.int i4), .val (.int i5), .val (.int (2 : Int32)), .val (.int (5 : Int32)), .val (.ref o8)] [(.int (5 : Int32)), (.int (4 : Int32)), (.int i5), (.int (6 : Int32)), (.ref o8)])) rfl (by rw [hml]; rfl) (argsL := [(.int i5), (.int (4 : Int32)), (.int (5 : Int32))]) (rest := [(.int (6 : Int32)), (.ref o8)]) (lenOf pd1 rfl) rfl (by show 2 * 0 + _ ≤ _; exact Nat.le_of_eq rfl) (hb hby at_254) (fun _ _ => ⟨rfl, e186, (by decide : 1 + 0 ≤ _), (by decide : 9 + 0 ≤ _)⟩)
      dsimp only [Pt.U, Pt.locs, Pt.cells, Pt.slots] at X188 l188 y188 z188 st188 hQ188
      subst l188 y188 z188
      obtain ⟨rfl, Nq188, e188⟩ := hQ188
      have N188 := Fr.app N186 Nq188
      refine own_step (T' := T188) (f' := (mkF m 257 #[.val (.int i0), .val (.int i1), .val (.long j2), .second, .val (.int i4), .val (.int i5), .val (.int (2 : Int32)), .val (.int (5 : Int32)), .val (.ref o8)] [(.int (f1_0 i5 (4 : Int32) (5 : Int32))), (.int (6 : Int32)), (.ref o8)])) st188 ?_
      obtain ⟨T189, h189, Lq189, X189, N189, e189, W189, Z189, Aq189, st189⟩ := own_stB X188 hx hZ e188 Ao8_186 (j := (6 : Int32)) (by decide) (k := 6) (by decide) (Nat.le_of_ble_eq_true rfl) N188 go8 Z186 (g := (mkF m 257 #[.val (.int i0), .val (.int i1), .val (.long j2), .second, .val (.int i4), .val (.int i5), .val (.int (2 : Int32)), .val (.int (5 : Int32)), .val (.ref o8)] [(.int (f1_0 i5 (4 : Int32) (5 : Int32))), (.int (6 : Int32)), (.ref o8)])) rfl rfl (hb hby at_257)
      have Ao8_189 : own_A Z h189 o8 .byte [(.int xo8_0), (.int xo8_1), (.int (nar .byte (f1_0 i5 (0 : Int32) (5 : Int32)))), (.int (nar .byte (f1_0 i5 (1 : Int32) (5 : Int32)))), (.int (nar .byte (f1_0 i5 (2 : Int32) (5 : Int32)))), (.int (nar .byte (f1_0 i5 (3 : Int32) (5 : Int32)))), (.int (nar .byte (f1_0 i5 (4 : Int32) (5 : Int32)))), (.int xo8_7), (.int xo8_8)] := Aq189
      refine own_step (T' := T189) (f' := (mkF m 258 #[.val (.int i0), .val (.int i1), .val (.long j2), .second, .val (.int i4), .val (.int i5), .val (.int (2 : Int32)), .val (.int (5 : Int32)), .val (.ref o8)] [])) st189 ?_
      refine own_step (T' := T189) (f' := (mkF m 262 #[.val (.int i0), .val (.int i1), .val (.long j2), .second, .val (.int i4), .val (.int i5), .val (.int (2 : Int32)), .val (.int (5 : Int32)), .val (.ref o8)] [(.int (2 : Int32)), (.ref o8)])) (fun t kt => ?_) ?_
      · show Steps p.tables e below (T189.setTop (mkF m 258 #[.val (.int i0), .val (.int i1), .val (.long j2), .second, .val (.int i4), .val (.int i5), .val (.int (2 : Int32)), .val (.int (5 : Int32)), .val (.ref o8)] [])) _
        refine XS.aload X189.here hx rfl (hb hby at_258) rfl rfl ?_
        show Steps p.tables e below (T189.setTop (mkF m 260 #[.val (.int i0), .val (.int i1), .val (.long j2), .second, .val (.int i4), .val (.int i5), .val (.int (2 : Int32)), .val (.int (5 : Int32)), .val (.ref o8)] [(.ref o8)])) _
        refine XS.iload X189.here hx rfl (hb hby at_260) rfl ?_
        exact kt
      obtain ⟨_, _, ⟨T190, L190, k190, n190⟩, -, X190, ⟨Lc190, hQ190, l190, y190, z190⟩, st190⟩ := Jvm.LawKit.callS X189 hx (y := (⟨"hotstate/sort/VarInts", "read", "([BI)I"⟩ : MethodName)) hown (mvT hZ (hw _ (List.mem_of_getElem? (i := 6) rfl))) (mvT hZ (hw _ (List.mem_of_getElem? (i := 7) rfl))) (mvT hZ (hw _ (List.mem_of_getElem? (i := 8) rfl))) (mvT hZ (hw _ (List.mem_of_getElem? (i := 9) rfl))) (by decide) (backOf (W := 0) (rm2n5 l Z a0 hw [] o8 (2 : Int32) (nar .byte (f1_0 i5 (0 : Int32) (5 : Int32))) (nar .byte (f1_0 i5 (1 : Int32) (5 : Int32))) (nar .byte (f1_0 i5 (2 : Int32) (5 : Int32))) (nar .byte (f1_0 i5 (3 : Int32) (5 : Int32))) (nar .byte (f1_0 i5 (4 : Int32) (5 : Int32))) [(.int xo8_0), (.int xo8_1), (.int (nar .byte (f1_0 i5 (0 : Int32) (5 : Int32)))), (.int (nar .byte (f1_0 i5 (1 : Int32) (5 : Int32)))), (.int (nar .byte (f1_0 i5 (2 : Int32) (5 : Int32)))), (.int (nar .byte (f1_0 i5 (3 : Int32) (5 : Int32)))), (.int (nar .byte (f1_0 i5 (4 : Int32) (5 : Int32)))), (.int xo8_7), (.int xo8_8)] h189 n0 Ao8_189 (by decide) rfl rfl rfl rfl rfl (own_last5 i5)) hZ (hw _ (List.mem_of_getElem? (i := 9) rfl)) (hw _ (List.mem_of_getElem? (i := 8) rfl)) (by decide) (by decide)) (g := (mkF m 262 #[.val (.int i0), .val (.int i1), .val (.long j2), .second, .val (.int i4), .val (.int i5), .val (.int (2 : Int32)), .val (.int (5 : Int32)), .val (.ref o8)] [(.int (2 : Int32)), (.ref o8)])) rfl (by rw [hml]; rfl) (argsL := [(.ref o8), (.int (2 : Int32))]) (rest := []) (lenOf pd2 rfl) rfl (by show 2 * 0 + _ ≤ _; exact Nat.le_of_eq rfl) (hb hby at_262) (fun _ _ => ⟨rfl, e189, (by decide : 1 + 0 ≤ _), (by decide : 9 + 0 ≤ _)⟩)
      dsimp only [Pt.U, Pt.locs, Pt.cells, Pt.slots] at X190 l190 y190 z190 st190 hQ190
      subst l190 y190 z190
      obtain ⟨rfl, Nq190, e190⟩ := hQ190
      have N190 := Fr.app N189 Nq190
      refine own_step (T' := T190) (f' := (mkF m 265 #[.val (.int i0), .val (.int i1), .val (.long j2), .second, .val (.int i4), .val (.int i5), .val (.int (2 : Int32)), .val (.int (5 : Int32)), .val (.ref o8)] [(.int (f2n5_0 (2 : Int32) (nar .byte (f1_0 i5 (0 : Int32) (5 : Int32))) (nar .byte (f1_0 i5 (1 : Int32) (5 : Int32))) (nar .byte (f1_0 i5 (2 : Int32) (5 : Int32))) (nar .byte (f1_0 i5 (3 : Int32) (5 : Int32))) (nar .byte (f1_0 i5 (4 : Int32) (5 : Int32)))))])) st190 ?_
      refine own_step (T' := T190) (f' := (mkF m 267 #[.val (.int i0), .val (.int i1), .val (.long j2), .second, .val (.int i4), .val (.int i5), .val (.int (2 : Int32)), .val (.int (5 : Int32)), .val (.ref o8)] [(.int i5), (.int (f2n5_0 (2 : Int32) (nar .byte (f1_0 i5 (0 : Int32) (5 : Int32))) (nar .byte (f1_0 i5 (1 : Int32) (5 : Int32))) (nar .byte (f1_0 i5 (2 : Int32) (5 : Int32))) (nar .byte (f1_0 i5 (3 : Int32) (5 : Int32))) (nar .byte (f1_0 i5 (4 : Int32) (5 : Int32)))))])) (fun t kt => ?_) ?_
      · show Steps p.tables e below (T190.setTop (mkF m 265 #[.val (.int i0), .val (.int i1), .val (.long j2), .second, .val (.int i4), .val (.int i5), .val (.int (2 : Int32)), .val (.int (5 : Int32)), .val (.ref o8)] [(.int (f2n5_0 (2 : Int32) (nar .byte (f1_0 i5 (0 : Int32) (5 : Int32))) (nar .byte (f1_0 i5 (1 : Int32) (5 : Int32))) (nar .byte (f1_0 i5 (2 : Int32) (5 : Int32))) (nar .byte (f1_0 i5 (3 : Int32) (5 : Int32))) (nar .byte (f1_0 i5 (4 : Int32) (5 : Int32)))))])) _
        refine XS.iload X190.here hx rfl (hb hby at_265) rfl ?_
        exact kt
      by_cases hc267_191 : (f2n5_0 (2 : Int32) (nar .byte (f1_0 i5 (0 : Int32) (5 : Int32))) (nar .byte (f1_0 i5 (1 : Int32) (5 : Int32))) (nar .byte (f1_0 i5 (2 : Int32) (5 : Int32))) (nar .byte (f1_0 i5 (3 : Int32) (5 : Int32))) (nar .byte (f1_0 i5 (4 : Int32) (5 : Int32)))) = i5
      · replace hr := hr.trans (if_pos hc267_191)
        refine own_step (T' := T190) (f' := (mkF m 270 #[.val (.int i0), .val (.int i1), .val (.long j2), .second, .val (.int i4), .val (.int i5), .val (.int (2 : Int32)), .val (.int (5 : Int32)), .val (.ref o8)] [])) (fun t kt => ?_) ?_
        · show Steps p.tables e below (T190.setTop (mkF m 267 #[.val (.int i0), .val (.int i1), .val (.long j2), .second, .val (.int i4), .val (.int i5), .val (.int (2 : Int32)), .val (.int (5 : Int32)), .val (.ref o8)] [(.int i5), (.int (f2n5_0 (2 : Int32) (nar .byte (f1_0 i5 (0 : Int32) (5 : Int32))) (nar .byte (f1_0 i5 (1 : Int32) (5 : Int32))) (nar .byte (f1_0 i5 (2 : Int32) (5 : Int32))) (nar .byte (f1_0 i5 (3 : Int32) (5 : Int32))) (nar .byte (f1_0 i5 (4 : Int32) (5 : Int32)))))])) _
          refine XS.icmpNo X190.here hx rfl (hb hby at_267) rfl (teq hc267_191).2 kt
        refine own_step (T' := T190) (f' := (mkF m 275 #[.val (.int i0), .val (.int i1), .val (.long j2), .second, .val (.int i4), .val (.int i5), .val (.int (2 : Int32)), .val (.int (5 : Int32)), .val (.ref o8)] [(.int (1 : Int32))])) (fun t kt => ?_) ?_
        · show Steps p.tables e below (T190.setTop (mkF m 270 #[.val (.int i0), .val (.int i1), .val (.long j2), .second, .val (.int i4), .val (.int i5), .val (.int (2 : Int32)), .val (.int (5 : Int32)), .val (.ref o8)] [])) _
          refine XS.iconst X190.here hx rfl (hb hby at_270) ?_
          show Steps p.tables e below (T190.setTop (mkF m 271 #[.val (.int i0), .val (.int i1), .val (.long j2), .second, .val (.int i4), .val (.int i5), .val (.int (2 : Int32)), .val (.int (5 : Int32)), .val (.ref o8)] [(.int (1 : Int32))])) _
          refine XS.goto X190.here hx rfl (pc0 := 271) (pc' := 275) rfl (hb hby at_271) (by decide) (by decide) ?_
          exact kt
        exact own_retZ X190 hx hret (by simp) hlk (hb hby at_275) (by decide) (by decide) ⟨congrArg (fun z => some (Value.int z)) hr.symm, N190⟩
      · replace hr := hr.trans (if_neg hc267_191)
        refine own_step (T' := T190) (f' := (mkF m 274 #[.val (.int i0), .val (.int i1), .val (.long j2), .second, .val (.int i4), .val (.int i5), .val (.int (2 : Int32)), .val (.int (5 : Int32)), .val (.ref o8)] [])) (fun t kt => ?_) ?_
        · show Steps p.tables e below (T190.setTop (mkF m 267 #[.val (.int i0), .val (.int i1), .val (.long j2), .second, .val (.int i4), .val (.int i5), .val (.int (2 : Int32)), .val (.int (5 : Int32)), .val (.ref o8)] [(.int i5), (.int (f2n5_0 (2 : Int32) (nar .byte (f1_0 i5 (0 : Int32) (5 : Int32))) (nar .byte (f1_0 i5 (1 : Int32) (5 : Int32))) (nar .byte (f1_0 i5 (2 : Int32) (5 : Int32))) (nar .byte (f1_0 i5 (3 : Int32) (5 : Int32))) (nar .byte (f1_0 i5 (4 : Int32) (5 : Int32)))))])) _
          refine XS.icmpYes X190.here hx rfl (pc0 := 267) (pc' := 274) rfl (hb hby at_267) rfl (feq hc267_191).2 (by decide) (by decide) kt
        refine own_step (T' := T190) (f' := (mkF m 275 #[.val (.int i0), .val (.int i1), .val (.long j2), .second, .val (.int i4), .val (.int i5), .val (.int (2 : Int32)), .val (.int (5 : Int32)), .val (.ref o8)] [(.int (0 : Int32))])) (fun t kt => ?_) ?_
        · show Steps p.tables e below (T190.setTop (mkF m 274 #[.val (.int i0), .val (.int i1), .val (.long j2), .second, .val (.int i4), .val (.int i5), .val (.int (2 : Int32)), .val (.int (5 : Int32)), .val (.ref o8)] [])) _
          refine XS.iconst X190.here hx rfl (hb hby at_274) ?_
          exact kt
        exact own_retZ X190 hx hret (by simp) hlk (hb hby at_275) (by decide) (by decide) ⟨congrArg (fun z => some (Value.int z)) hr.symm, N190⟩
  · replace hr := hr.trans ((if_neg (by decide)).trans ((if_neg (by decide)).trans ((if_neg (by decide)).trans (if_pos rfl))))
    rcases hn with rfl | rfl | rfl | rfl | rfl
    · replace hr := hr.trans (if_pos rfl)
      refine own_step (T' := T0) (f' := (mkF m 170 #[.val (.int i0), .val (.int i1), .val (.long j2), .second, .val (.int i4), .val (.int i5), .val (.int (3 : Int32)), .val (.int (1 : Int32)), .val (.ref o8)] [(.int (1 : Int32)), (.int (0 : Int32)), (.int i5), (.int (3 : Int32)), (.ref o8)])) (fun t kt => ?_) ?_
      · show Steps p.tables e below (T0.setTop (mkF m 161 #[.val (.int i0), .val (.int i1), .val (.long j2), .second, .val (.int i4), .val (.int i5), .val (.int (3 : Int32)), .val (.int (1 : Int32)), .val (.ref o8)] [])) _
        refine XS.aload X0.here hx rfl (hb hby at_161) rfl rfl ?_
        show Steps p.tables e below (T0.setTop (mkF m 163 #[.val (.int i0), .val (.int i1), .val (.long j2), .second, .val (.int i4), .val (.int i5), .val (.int (3 : Int32)), .val (.int (1 : Int32)), .val (.ref o8)] [(.ref o8)])) _
        refine XS.iload X0.here hx rfl (hb hby at_163) rfl ?_
        show Steps p.tables e below (T0.setTop (mkF m 165 #[.val (.int i0), .val (.int i1), .val (.long j2), .second, .val (.int i4), .val (.int i5), .val (.int (3 : Int32)), .val (.int (1 : Int32)), .val (.ref o8)] [(.int (3 : Int32)), (.ref o8)])) _
        refine XS.iload X0.here hx rfl (hb hby at_165) rfl ?_
        show Steps p.tables e below (T0.setTop (mkF m 167 #[.val (.int i0), .val (.int i1), .val (.long j2), .second, .val (.int i4), .val (.int i5), .val (.int (3 : Int32)), .val (.int (1 : Int32)), .val (.ref o8)] [(.int i5), (.int (3 : Int32)), (.ref o8)])) _
        refine XS.iconst X0.here hx rfl (hb hby at_167) ?_
        show Steps p.tables e below (T0.setTop (mkF m 168 #[.val (.int i0), .val (.int i1), .val (.long j2), .second, .val (.int i4), .val (.int i5), .val (.int (3 : Int32)), .val (.int (1 : Int32)), .val (.ref o8)] [(.int (0 : Int32)), (.int i5), (.int (3 : Int32)), (.ref o8)])) _
        refine XS.iload X0.here hx rfl (hb hby at_168) rfl ?_
        exact kt
      obtain ⟨_, _, ⟨T192, L192, k192, n192⟩, -, X192, ⟨Lc192, hQ192, l192, y192, z192⟩, st192⟩ := Jvm.LawKit.callS X0 hx (y := (⟨"hotstate/sort/VarIntsReadPinLaw", "enc", "(III)B"⟩ : MethodName)) hown (mvT hZ (hw _ (List.mem_of_getElem? (i := 2) rfl))) (mvT hZ (hw _ (List.mem_of_getElem? (i := 3) rfl))) (mvT hZ (hw _ (List.mem_of_getElem? (i := 4) rfl))) (mvT hZ (hw _ (List.mem_of_getElem? (i := 5) rfl))) (by decide) (backOf (W := 2) (rm1 l Z a0 hw [] i5 (0 : Int32) (1 : Int32)  h0 n0 ) hZ (hw _ (List.mem_of_getElem? (i := 5) rfl)) (hw _ (List.mem_of_getElem? (i := 4) rfl)) (by decide) (by decide)) (g := (mkF m 170 #[.val (.int i0), .val (.int i1), .val (.long j2), .second, .val (.int i4), .val (.int i5), .val (.int (3 : Int32)), .val (.int (1 : Int32)), .val (.ref o8)] [(.int (1 : Int32)), (.int (0 : Int32)), (.int i5), (.int (3 : Int32)), (.ref o8)])) rfl (by rw [hml]; rfl) (argsL := [(.int i5), (.int (0 : Int32)), (.int (1 : Int32))]) (rest := [(.int (3 : Int32)), (.ref o8)]) (lenOf pd1 rfl) rfl (by show 2 * 0 + _ ≤ _; exact Nat.le_of_eq rfl) (hb hby at_170) (fun _ _ => ⟨rfl, e0, (by decide : 1 + 0 ≤ _), (by decide : 9 + 0 ≤ _)⟩)
      dsimp only [Pt.U, Pt.locs, Pt.cells, Pt.slots] at X192 l192 y192 z192 st192 hQ192
      subst l192 y192 z192
      obtain ⟨rfl, Nq192, e192⟩ := hQ192
      have N192 := Fr.app N0 Nq192
      refine own_step (T' := T192) (f' := (mkF m 173 #[.val (.int i0), .val (.int i1), .val (.long j2), .second, .val (.int i4), .val (.int i5), .val (.int (3 : Int32)), .val (.int (1 : Int32)), .val (.ref o8)] [(.int (f1_0 i5 (0 : Int32) (1 : Int32))), (.int (3 : Int32)), (.ref o8)])) st192 ?_
      obtain ⟨T193, h193, Lq193, X193, N193, e193, W193, Z193, Aq193, st193⟩ := own_stB X192 hx hZ e192 Ao8 (j := (3 : Int32)) (by decide) (k := 3) (by decide) (Nat.le_of_ble_eq_true rfl) N192 go8 Z0 (g := (mkF m 173 #[.val (.int i0), .val (.int i1), .val (.long j2), .second, .val (.int i4), .val (.int i5), .val (.int (3 : Int32)), .val (.int (1 : Int32)), .val (.ref o8)] [(.int (f1_0 i5 (0 : Int32) (1 : Int32))), (.int (3 : Int32)), (.ref o8)])) rfl rfl (hb hby at_173)
      have Ao8_193 : own_A Z h193 o8 .byte [(.int xo8_0), (.int xo8_1), (.int xo8_2), (.int (nar .byte (f1_0 i5 (0 : Int32) (1 : Int32)))), (.int xo8_4), (.int xo8_5), (.int xo8_6), (.int xo8_7), (.int xo8_8)] := Aq193
      refine own_step (T' := T193) (f' := (mkF m 174 #[.val (.int i0), .val (.int i1), .val (.long j2), .second, .val (.int i4), .val (.int i5), .val (.int (3 : Int32)), .val (.int (1 : Int32)), .val (.ref o8)] [])) st193 ?_
      refine own_step (T' := T193) (f' := (mkF m 177 #[.val (.int i0), .val (.int i1), .val (.long j2), .second, .val (.int i4), .val (.int i5), .val (.int (3 : Int32)), .val (.int (1 : Int32)), .val (.ref o8)] [(.int (1 : Int32)), (.int (1 : Int32))])) (fun t kt => ?_) ?_
      · show Steps p.tables e below (T193.setTop (mkF m 174 #[.val (.int i0), .val (.int i1), .val (.long j2), .second, .val (.int i4), .val (.int i5), .val (.int (3 : Int32)), .val (.int (1 : Int32)), .val (.ref o8)] [])) _
        refine XS.iload X193.here hx rfl (hb hby at_174) rfl ?_
        show Steps p.tables e below (T193.setTop (mkF m 176 #[.val (.int i0), .val (.int i1), .val (.long j2), .second, .val (.int i4), .val (.int i5), .val (.int (3 : Int32)), .val (.int (1 : Int32)), .val (.ref o8)] [(.int (1 : Int32))])) _
        refine XS.iconst X193.here hx rfl (hb hby at_176) ?_
        exact kt
      refine own_step (T' := T193) (f' := (mkF m 195 #[.val (.int i0), .val (.int i1), .val (.long j2), .second, .val (.int i4), .val (.int i5), .val (.int (3 : Int32)), .val (.int (1 : Int32)), .val (.ref o8)] [])) (fun t kt => ?_) ?_
      · show Steps p.tables e below (T193.setTop (mkF m 177 #[.val (.int i0), .val (.int i1), .val (.long j2), .second, .val (.int i4), .val (.int i5), .val (.int (3 : Int32)), .val (.int (1 : Int32)), .val (.ref o8)] [(.int (1 : Int32)), (.int (1 : Int32))])) _
        refine XS.icmpYes X193.here hx rfl (pc0 := 177) (pc' := 195) rfl (hb hby at_177) rfl (flt (by decide : ¬ ((1 : Int32) < (1 : Int32)))).2.2.2 (by decide) (by decide) kt
      refine own_step (T' := T193) (f' := (mkF m 198 #[.val (.int i0), .val (.int i1), .val (.long j2), .second, .val (.int i4), .val (.int i5), .val (.int (3 : Int32)), .val (.int (1 : Int32)), .val (.ref o8)] [(.int (2 : Int32)), (.int (1 : Int32))])) (fun t kt => ?_) ?_
      · show Steps p.tables e below (T193.setTop (mkF m 195 #[.val (.int i0), .val (.int i1), .val (.long j2), .second, .val (.int i4), .val (.int i5), .val (.int (3 : Int32)), .val (.int (1 : Int32)), .val (.ref o8)] [])) _
        refine XS.iload X193.here hx rfl (hb hby at_195) rfl ?_
        show Steps p.tables e below (T193.setTop (mkF m 197 #[.val (.int i0), .val (.int i1), .val (.long j2), .second, .val (.int i4), .val (.int i5), .val (.int (3 : Int32)), .val (.int (1 : Int32)), .val (.ref o8)] [(.int (1 : Int32))])) _
        refine XS.iconst X193.here hx rfl (hb hby at_197) ?_
        exact kt
      refine own_step (T' := T193) (f' := (mkF m 216 #[.val (.int i0), .val (.int i1), .val (.long j2), .second, .val (.int i4), .val (.int i5), .val (.int (3 : Int32)), .val (.int (1 : Int32)), .val (.ref o8)] [])) (fun t kt => ?_) ?_
      · show Steps p.tables e below (T193.setTop (mkF m 198 #[.val (.int i0), .val (.int i1), .val (.long j2), .second, .val (.int i4), .val (.int i5), .val (.int (3 : Int32)), .val (.int (1 : Int32)), .val (.ref o8)] [(.int (2 : Int32)), (.int (1 : Int32))])) _
        refine XS.icmpYes X193.here hx rfl (pc0 := 198) (pc' := 216) rfl (hb hby at_198) rfl (flt (by decide : ¬ ((2 : Int32) < (1 : Int32)))).2.2.2 (by decide) (by decide) kt
      refine own_step (T' := T193) (f' := (mkF m 219 #[.val (.int i0), .val (.int i1), .val (.long j2), .second, .val (.int i4), .val (.int i5), .val (.int (3 : Int32)), .val (.int (1 : Int32)), .val (.ref o8)] [(.int (3 : Int32)), (.int (1 : Int32))])) (fun t kt => ?_) ?_
      · show Steps p.tables e below (T193.setTop (mkF m 216 #[.val (.int i0), .val (.int i1), .val (.long j2), .second, .val (.int i4), .val (.int i5), .val (.int (3 : Int32)), .val (.int (1 : Int32)), .val (.ref o8)] [])) _
        refine XS.iload X193.here hx rfl (hb hby at_216) rfl ?_
        show Steps p.tables e below (T193.setTop (mkF m 218 #[.val (.int i0), .val (.int i1), .val (.long j2), .second, .val (.int i4), .val (.int i5), .val (.int (3 : Int32)), .val (.int (1 : Int32)), .val (.ref o8)] [(.int (1 : Int32))])) _
        refine XS.iconst X193.here hx rfl (hb hby at_218) ?_
        exact kt
      refine own_step (T' := T193) (f' := (mkF m 237 #[.val (.int i0), .val (.int i1), .val (.long j2), .second, .val (.int i4), .val (.int i5), .val (.int (3 : Int32)), .val (.int (1 : Int32)), .val (.ref o8)] [])) (fun t kt => ?_) ?_
      · show Steps p.tables e below (T193.setTop (mkF m 219 #[.val (.int i0), .val (.int i1), .val (.long j2), .second, .val (.int i4), .val (.int i5), .val (.int (3 : Int32)), .val (.int (1 : Int32)), .val (.ref o8)] [(.int (3 : Int32)), (.int (1 : Int32))])) _
        refine XS.icmpYes X193.here hx rfl (pc0 := 219) (pc' := 237) rfl (hb hby at_219) rfl (flt (by decide : ¬ ((3 : Int32) < (1 : Int32)))).2.2.2 (by decide) (by decide) kt
      refine own_step (T' := T193) (f' := (mkF m 240 #[.val (.int i0), .val (.int i1), .val (.long j2), .second, .val (.int i4), .val (.int i5), .val (.int (3 : Int32)), .val (.int (1 : Int32)), .val (.ref o8)] [(.int (4 : Int32)), (.int (1 : Int32))])) (fun t kt => ?_) ?_
      · show Steps p.tables e below (T193.setTop (mkF m 237 #[.val (.int i0), .val (.int i1), .val (.long j2), .second, .val (.int i4), .val (.int i5), .val (.int (3 : Int32)), .val (.int (1 : Int32)), .val (.ref o8)] [])) _
        refine XS.iload X193.here hx rfl (hb hby at_237) rfl ?_
        show Steps p.tables e below (T193.setTop (mkF m 239 #[.val (.int i0), .val (.int i1), .val (.long j2), .second, .val (.int i4), .val (.int i5), .val (.int (3 : Int32)), .val (.int (1 : Int32)), .val (.ref o8)] [(.int (1 : Int32))])) _
        refine XS.iconst X193.here hx rfl (hb hby at_239) ?_
        exact kt
      refine own_step (T' := T193) (f' := (mkF m 258 #[.val (.int i0), .val (.int i1), .val (.long j2), .second, .val (.int i4), .val (.int i5), .val (.int (3 : Int32)), .val (.int (1 : Int32)), .val (.ref o8)] [])) (fun t kt => ?_) ?_
      · show Steps p.tables e below (T193.setTop (mkF m 240 #[.val (.int i0), .val (.int i1), .val (.long j2), .second, .val (.int i4), .val (.int i5), .val (.int (3 : Int32)), .val (.int (1 : Int32)), .val (.ref o8)] [(.int (4 : Int32)), (.int (1 : Int32))])) _
        refine XS.icmpYes X193.here hx rfl (pc0 := 240) (pc' := 258) rfl (hb hby at_240) rfl (flt (by decide : ¬ ((4 : Int32) < (1 : Int32)))).2.2.2 (by decide) (by decide) kt
      refine own_step (T' := T193) (f' := (mkF m 262 #[.val (.int i0), .val (.int i1), .val (.long j2), .second, .val (.int i4), .val (.int i5), .val (.int (3 : Int32)), .val (.int (1 : Int32)), .val (.ref o8)] [(.int (3 : Int32)), (.ref o8)])) (fun t kt => ?_) ?_
      · show Steps p.tables e below (T193.setTop (mkF m 258 #[.val (.int i0), .val (.int i1), .val (.long j2), .second, .val (.int i4), .val (.int i5), .val (.int (3 : Int32)), .val (.int (1 : Int32)), .val (.ref o8)] [])) _
        refine XS.aload X193.here hx rfl (hb hby at_258) rfl rfl ?_
        show Steps p.tables e below (T193.setTop (mkF m 260 #[.val (.int i0), .val (.int i1), .val (.long j2), .second, .val (.int i4), .val (.int i5), .val (.int (3 : Int32)), .val (.int (1 : Int32)), .val (.ref o8)] [(.ref o8)])) _
        refine XS.iload X193.here hx rfl (hb hby at_260) rfl ?_
        exact kt
      obtain ⟨_, _, ⟨T198, L198, k198, n198⟩, -, X198, ⟨Lc198, hQ198, l198, y198, z198⟩, st198⟩ := Jvm.LawKit.callS X193 hx (y := (⟨"hotstate/sort/VarInts", "read", "([BI)I"⟩ : MethodName)) hown (mvT hZ (hw _ (List.mem_of_getElem? (i := 6) rfl))) (mvT hZ (hw _ (List.mem_of_getElem? (i := 7) rfl))) (mvT hZ (hw _ (List.mem_of_getElem? (i := 8) rfl))) (mvT hZ (hw _ (List.mem_of_getElem? (i := 9) rfl))) (by decide) (backOf (W := 0) (rm2n1 l Z a0 hw [] o8 (3 : Int32) (nar .byte (f1_0 i5 (0 : Int32) (1 : Int32))) [(.int xo8_0), (.int xo8_1), (.int xo8_2), (.int (nar .byte (f1_0 i5 (0 : Int32) (1 : Int32)))), (.int xo8_4), (.int xo8_5), (.int xo8_6), (.int xo8_7), (.int xo8_8)] h193 n0 Ao8_193 (by decide) rfl (own_last1 i5)) hZ (hw _ (List.mem_of_getElem? (i := 9) rfl)) (hw _ (List.mem_of_getElem? (i := 8) rfl)) (by decide) (by decide)) (g := (mkF m 262 #[.val (.int i0), .val (.int i1), .val (.long j2), .second, .val (.int i4), .val (.int i5), .val (.int (3 : Int32)), .val (.int (1 : Int32)), .val (.ref o8)] [(.int (3 : Int32)), (.ref o8)])) rfl (by rw [hml]; rfl) (argsL := [(.ref o8), (.int (3 : Int32))]) (rest := []) (lenOf pd2 rfl) rfl (by show 2 * 0 + _ ≤ _; exact Nat.le_of_eq rfl) (hb hby at_262) (fun _ _ => ⟨rfl, e193, (by decide : 1 + 0 ≤ _), (by decide : 9 + 0 ≤ _)⟩)
      dsimp only [Pt.U, Pt.locs, Pt.cells, Pt.slots] at X198 l198 y198 z198 st198 hQ198
      subst l198 y198 z198
      obtain ⟨rfl, Nq198, e198⟩ := hQ198
      have N198 := Fr.app N193 Nq198
      refine own_step (T' := T198) (f' := (mkF m 265 #[.val (.int i0), .val (.int i1), .val (.long j2), .second, .val (.int i4), .val (.int i5), .val (.int (3 : Int32)), .val (.int (1 : Int32)), .val (.ref o8)] [(.int (f2n1_0 (3 : Int32) (nar .byte (f1_0 i5 (0 : Int32) (1 : Int32)))))])) st198 ?_
      refine own_step (T' := T198) (f' := (mkF m 267 #[.val (.int i0), .val (.int i1), .val (.long j2), .second, .val (.int i4), .val (.int i5), .val (.int (3 : Int32)), .val (.int (1 : Int32)), .val (.ref o8)] [(.int i5), (.int (f2n1_0 (3 : Int32) (nar .byte (f1_0 i5 (0 : Int32) (1 : Int32)))))])) (fun t kt => ?_) ?_
      · show Steps p.tables e below (T198.setTop (mkF m 265 #[.val (.int i0), .val (.int i1), .val (.long j2), .second, .val (.int i4), .val (.int i5), .val (.int (3 : Int32)), .val (.int (1 : Int32)), .val (.ref o8)] [(.int (f2n1_0 (3 : Int32) (nar .byte (f1_0 i5 (0 : Int32) (1 : Int32)))))])) _
        refine XS.iload X198.here hx rfl (hb hby at_265) rfl ?_
        exact kt
      by_cases hc267_199 : (f2n1_0 (3 : Int32) (nar .byte (f1_0 i5 (0 : Int32) (1 : Int32)))) = i5
      · replace hr := hr.trans (if_pos hc267_199)
        refine own_step (T' := T198) (f' := (mkF m 270 #[.val (.int i0), .val (.int i1), .val (.long j2), .second, .val (.int i4), .val (.int i5), .val (.int (3 : Int32)), .val (.int (1 : Int32)), .val (.ref o8)] [])) (fun t kt => ?_) ?_
        · show Steps p.tables e below (T198.setTop (mkF m 267 #[.val (.int i0), .val (.int i1), .val (.long j2), .second, .val (.int i4), .val (.int i5), .val (.int (3 : Int32)), .val (.int (1 : Int32)), .val (.ref o8)] [(.int i5), (.int (f2n1_0 (3 : Int32) (nar .byte (f1_0 i5 (0 : Int32) (1 : Int32)))))])) _
          refine XS.icmpNo X198.here hx rfl (hb hby at_267) rfl (teq hc267_199).2 kt
        refine own_step (T' := T198) (f' := (mkF m 275 #[.val (.int i0), .val (.int i1), .val (.long j2), .second, .val (.int i4), .val (.int i5), .val (.int (3 : Int32)), .val (.int (1 : Int32)), .val (.ref o8)] [(.int (1 : Int32))])) (fun t kt => ?_) ?_
        · show Steps p.tables e below (T198.setTop (mkF m 270 #[.val (.int i0), .val (.int i1), .val (.long j2), .second, .val (.int i4), .val (.int i5), .val (.int (3 : Int32)), .val (.int (1 : Int32)), .val (.ref o8)] [])) _
          refine XS.iconst X198.here hx rfl (hb hby at_270) ?_
          show Steps p.tables e below (T198.setTop (mkF m 271 #[.val (.int i0), .val (.int i1), .val (.long j2), .second, .val (.int i4), .val (.int i5), .val (.int (3 : Int32)), .val (.int (1 : Int32)), .val (.ref o8)] [(.int (1 : Int32))])) _
          refine XS.goto X198.here hx rfl (pc0 := 271) (pc' := 275) rfl (hb hby at_271) (by decide) (by decide) ?_
          exact kt
        exact own_retZ X198 hx hret (by simp) hlk (hb hby at_275) (by decide) (by decide) ⟨congrArg (fun z => some (Value.int z)) hr.symm, N198⟩
      · replace hr := hr.trans (if_neg hc267_199)
        refine own_step (T' := T198) (f' := (mkF m 274 #[.val (.int i0), .val (.int i1), .val (.long j2), .second, .val (.int i4), .val (.int i5), .val (.int (3 : Int32)), .val (.int (1 : Int32)), .val (.ref o8)] [])) (fun t kt => ?_) ?_
        · show Steps p.tables e below (T198.setTop (mkF m 267 #[.val (.int i0), .val (.int i1), .val (.long j2), .second, .val (.int i4), .val (.int i5), .val (.int (3 : Int32)), .val (.int (1 : Int32)), .val (.ref o8)] [(.int i5), (.int (f2n1_0 (3 : Int32) (nar .byte (f1_0 i5 (0 : Int32) (1 : Int32)))))])) _
          refine XS.icmpYes X198.here hx rfl (pc0 := 267) (pc' := 274) rfl (hb hby at_267) rfl (feq hc267_199).2 (by decide) (by decide) kt
        refine own_step (T' := T198) (f' := (mkF m 275 #[.val (.int i0), .val (.int i1), .val (.long j2), .second, .val (.int i4), .val (.int i5), .val (.int (3 : Int32)), .val (.int (1 : Int32)), .val (.ref o8)] [(.int (0 : Int32))])) (fun t kt => ?_) ?_
        · show Steps p.tables e below (T198.setTop (mkF m 274 #[.val (.int i0), .val (.int i1), .val (.long j2), .second, .val (.int i4), .val (.int i5), .val (.int (3 : Int32)), .val (.int (1 : Int32)), .val (.ref o8)] [])) _
          refine XS.iconst X198.here hx rfl (hb hby at_274) ?_
          exact kt
        exact own_retZ X198 hx hret (by simp) hlk (hb hby at_275) (by decide) (by decide) ⟨congrArg (fun z => some (Value.int z)) hr.symm, N198⟩
    · replace hr := hr.trans ((if_neg (by decide)).trans (if_pos rfl))
      refine own_step (T' := T0) (f' := (mkF m 170 #[.val (.int i0), .val (.int i1), .val (.long j2), .second, .val (.int i4), .val (.int i5), .val (.int (3 : Int32)), .val (.int (2 : Int32)), .val (.ref o8)] [(.int (2 : Int32)), (.int (0 : Int32)), (.int i5), (.int (3 : Int32)), (.ref o8)])) (fun t kt => ?_) ?_
      · show Steps p.tables e below (T0.setTop (mkF m 161 #[.val (.int i0), .val (.int i1), .val (.long j2), .second, .val (.int i4), .val (.int i5), .val (.int (3 : Int32)), .val (.int (2 : Int32)), .val (.ref o8)] [])) _
        refine XS.aload X0.here hx rfl (hb hby at_161) rfl rfl ?_
        show Steps p.tables e below (T0.setTop (mkF m 163 #[.val (.int i0), .val (.int i1), .val (.long j2), .second, .val (.int i4), .val (.int i5), .val (.int (3 : Int32)), .val (.int (2 : Int32)), .val (.ref o8)] [(.ref o8)])) _
        refine XS.iload X0.here hx rfl (hb hby at_163) rfl ?_
        show Steps p.tables e below (T0.setTop (mkF m 165 #[.val (.int i0), .val (.int i1), .val (.long j2), .second, .val (.int i4), .val (.int i5), .val (.int (3 : Int32)), .val (.int (2 : Int32)), .val (.ref o8)] [(.int (3 : Int32)), (.ref o8)])) _
        refine XS.iload X0.here hx rfl (hb hby at_165) rfl ?_
        show Steps p.tables e below (T0.setTop (mkF m 167 #[.val (.int i0), .val (.int i1), .val (.long j2), .second, .val (.int i4), .val (.int i5), .val (.int (3 : Int32)), .val (.int (2 : Int32)), .val (.ref o8)] [(.int i5), (.int (3 : Int32)), (.ref o8)])) _
        refine XS.iconst X0.here hx rfl (hb hby at_167) ?_
        show Steps p.tables e below (T0.setTop (mkF m 168 #[.val (.int i0), .val (.int i1), .val (.long j2), .second, .val (.int i4), .val (.int i5), .val (.int (3 : Int32)), .val (.int (2 : Int32)), .val (.ref o8)] [(.int (0 : Int32)), (.int i5), (.int (3 : Int32)), (.ref o8)])) _
        refine XS.iload X0.here hx rfl (hb hby at_168) rfl ?_
        exact kt
      obtain ⟨_, _, ⟨T200, L200, k200, n200⟩, -, X200, ⟨Lc200, hQ200, l200, y200, z200⟩, st200⟩ := Jvm.LawKit.callS X0 hx (y := (⟨"hotstate/sort/VarIntsReadPinLaw", "enc", "(III)B"⟩ : MethodName)) hown (mvT hZ (hw _ (List.mem_of_getElem? (i := 2) rfl))) (mvT hZ (hw _ (List.mem_of_getElem? (i := 3) rfl))) (mvT hZ (hw _ (List.mem_of_getElem? (i := 4) rfl))) (mvT hZ (hw _ (List.mem_of_getElem? (i := 5) rfl))) (by decide) (backOf (W := 2) (rm1 l Z a0 hw [] i5 (0 : Int32) (2 : Int32)  h0 n0 ) hZ (hw _ (List.mem_of_getElem? (i := 5) rfl)) (hw _ (List.mem_of_getElem? (i := 4) rfl)) (by decide) (by decide)) (g := (mkF m 170 #[.val (.int i0), .val (.int i1), .val (.long j2), .second, .val (.int i4), .val (.int i5), .val (.int (3 : Int32)), .val (.int (2 : Int32)), .val (.ref o8)] [(.int (2 : Int32)), (.int (0 : Int32)), (.int i5), (.int (3 : Int32)), (.ref o8)])) rfl (by rw [hml]; rfl) (argsL := [(.int i5), (.int (0 : Int32)), (.int (2 : Int32))]) (rest := [(.int (3 : Int32)), (.ref o8)]) (lenOf pd1 rfl) rfl (by show 2 * 0 + _ ≤ _; exact Nat.le_of_eq rfl) (hb hby at_170) (fun _ _ => ⟨rfl, e0, (by decide : 1 + 0 ≤ _), (by decide : 9 + 0 ≤ _)⟩)
      dsimp only [Pt.U, Pt.locs, Pt.cells, Pt.slots] at X200 l200 y200 z200 st200 hQ200
      subst l200 y200 z200
      obtain ⟨rfl, Nq200, e200⟩ := hQ200
      have N200 := Fr.app N0 Nq200
      refine own_step (T' := T200) (f' := (mkF m 173 #[.val (.int i0), .val (.int i1), .val (.long j2), .second, .val (.int i4), .val (.int i5), .val (.int (3 : Int32)), .val (.int (2 : Int32)), .val (.ref o8)] [(.int (f1_0 i5 (0 : Int32) (2 : Int32))), (.int (3 : Int32)), (.ref o8)])) st200 ?_
      obtain ⟨T201, h201, Lq201, X201, N201, e201, W201, Z201, Aq201, st201⟩ := own_stB X200 hx hZ e200 Ao8 (j := (3 : Int32)) (by decide) (k := 3) (by decide) (Nat.le_of_ble_eq_true rfl) N200 go8 Z0 (g := (mkF m 173 #[.val (.int i0), .val (.int i1), .val (.long j2), .second, .val (.int i4), .val (.int i5), .val (.int (3 : Int32)), .val (.int (2 : Int32)), .val (.ref o8)] [(.int (f1_0 i5 (0 : Int32) (2 : Int32))), (.int (3 : Int32)), (.ref o8)])) rfl rfl (hb hby at_173)
      have Ao8_201 : own_A Z h201 o8 .byte [(.int xo8_0), (.int xo8_1), (.int xo8_2), (.int (nar .byte (f1_0 i5 (0 : Int32) (2 : Int32)))), (.int xo8_4), (.int xo8_5), (.int xo8_6), (.int xo8_7), (.int xo8_8)] := Aq201
      refine own_step (T' := T201) (f' := (mkF m 174 #[.val (.int i0), .val (.int i1), .val (.long j2), .second, .val (.int i4), .val (.int i5), .val (.int (3 : Int32)), .val (.int (2 : Int32)), .val (.ref o8)] [])) st201 ?_
      refine own_step (T' := T201) (f' := (mkF m 177 #[.val (.int i0), .val (.int i1), .val (.long j2), .second, .val (.int i4), .val (.int i5), .val (.int (3 : Int32)), .val (.int (2 : Int32)), .val (.ref o8)] [(.int (1 : Int32)), (.int (2 : Int32))])) (fun t kt => ?_) ?_
      · show Steps p.tables e below (T201.setTop (mkF m 174 #[.val (.int i0), .val (.int i1), .val (.long j2), .second, .val (.int i4), .val (.int i5), .val (.int (3 : Int32)), .val (.int (2 : Int32)), .val (.ref o8)] [])) _
        refine XS.iload X201.here hx rfl (hb hby at_174) rfl ?_
        show Steps p.tables e below (T201.setTop (mkF m 176 #[.val (.int i0), .val (.int i1), .val (.long j2), .second, .val (.int i4), .val (.int i5), .val (.int (3 : Int32)), .val (.int (2 : Int32)), .val (.ref o8)] [(.int (2 : Int32))])) _
        refine XS.iconst X201.here hx rfl (hb hby at_176) ?_
        exact kt
      refine own_step (T' := T201) (f' := (mkF m 180 #[.val (.int i0), .val (.int i1), .val (.long j2), .second, .val (.int i4), .val (.int i5), .val (.int (3 : Int32)), .val (.int (2 : Int32)), .val (.ref o8)] [])) (fun t kt => ?_) ?_
      · show Steps p.tables e below (T201.setTop (mkF m 177 #[.val (.int i0), .val (.int i1), .val (.long j2), .second, .val (.int i4), .val (.int i5), .val (.int (3 : Int32)), .val (.int (2 : Int32)), .val (.ref o8)] [(.int (1 : Int32)), (.int (2 : Int32))])) _
        refine XS.icmpNo X201.here hx rfl (hb hby at_177) rfl (tlt (by decide : ((1 : Int32) < (2 : Int32)))).2.2.2 kt
      refine own_step (T' := T201) (f' := (mkF m 191 #[.val (.int i0), .val (.int i1), .val (.long j2), .second, .val (.int i4), .val (.int i5), .val (.int (3 : Int32)), .val (.int (2 : Int32)), .val (.ref o8)] [(.int (2 : Int32)), (.int (1 : Int32)), (.int i5), (.int (4 : Int32)), (.ref o8)])) (fun t kt => ?_) ?_
      · show Steps p.tables e below (T201.setTop (mkF m 180 #[.val (.int i0), .val (.int i1), .val (.long j2), .second, .val (.int i4), .val (.int i5), .val (.int (3 : Int32)), .val (.int (2 : Int32)), .val (.ref o8)] [])) _
        refine XS.aload X201.here hx rfl (hb hby at_180) rfl rfl ?_
        show Steps p.tables e below (T201.setTop (mkF m 182 #[.val (.int i0), .val (.int i1), .val (.long j2), .second, .val (.int i4), .val (.int i5), .val (.int (3 : Int32)), .val (.int (2 : Int32)), .val (.ref o8)] [(.ref o8)])) _
        refine XS.iload X201.here hx rfl (hb hby at_182) rfl ?_
        show Steps p.tables e below (T201.setTop (mkF m 184 #[.val (.int i0), .val (.int i1), .val (.long j2), .second, .val (.int i4), .val (.int i5), .val (.int (3 : Int32)), .val (.int (2 : Int32)), .val (.ref o8)] [(.int (3 : Int32)), (.ref o8)])) _
        refine XS.iconst X201.here hx rfl (hb hby at_184) ?_
        show Steps p.tables e below (T201.setTop (mkF m 185 #[.val (.int i0), .val (.int i1), .val (.long j2), .second, .val (.int i4), .val (.int i5), .val (.int (3 : Int32)), .val (.int (2 : Int32)), .val (.ref o8)] [(.int (1 : Int32)), (.int (3 : Int32)), (.ref o8)])) _
        refine XS.iadd X201.here hx rfl (hb hby at_185) rfl ?_
        show Steps p.tables e below (T201.setTop (mkF m 186 #[.val (.int i0), .val (.int i1), .val (.long j2), .second, .val (.int i4), .val (.int i5), .val (.int (3 : Int32)), .val (.int (2 : Int32)), .val (.ref o8)] [(.int (4 : Int32)), (.ref o8)])) _
        refine XS.iload X201.here hx rfl (hb hby at_186) rfl ?_
        show Steps p.tables e below (T201.setTop (mkF m 188 #[.val (.int i0), .val (.int i1), .val (.long j2), .second, .val (.int i4), .val (.int i5), .val (.int (3 : Int32)), .val (.int (2 : Int32)), .val (.ref o8)] [(.int i5), (.int (4 : Int32)), (.ref o8)])) _
        refine XS.iconst X201.here hx rfl (hb hby at_188) ?_
        show Steps p.tables e below (T201.setTop (mkF m 189 #[.val (.int i0), .val (.int i1), .val (.long j2), .second, .val (.int i4), .val (.int i5), .val (.int (3 : Int32)), .val (.int (2 : Int32)), .val (.ref o8)] [(.int (1 : Int32)), (.int i5), (.int (4 : Int32)), (.ref o8)])) _
        refine XS.iload X201.here hx rfl (hb hby at_189) rfl ?_
        exact kt
      obtain ⟨_, _, ⟨T203, L203, k203, n203⟩, -, X203, ⟨Lc203, hQ203, l203, y203, z203⟩, st203⟩ := Jvm.LawKit.callS X201 hx (y := (⟨"hotstate/sort/VarIntsReadPinLaw", "enc", "(III)B"⟩ : MethodName)) hown (mvT hZ (hw _ (List.mem_of_getElem? (i := 2) rfl))) (mvT hZ (hw _ (List.mem_of_getElem? (i := 3) rfl))) (mvT hZ (hw _ (List.mem_of_getElem? (i := 4) rfl))) (mvT hZ (hw _ (List.mem_of_getElem? (i := 5) rfl))) (by decide) (backOf (W := 2) (rm1 l Z a0 hw [] i5 (1 : Int32) (2 : Int32)  h201 n0 ) hZ (hw _ (List.mem_of_getElem? (i := 5) rfl)) (hw _ (List.mem_of_getElem? (i := 4) rfl)) (by decide) (by decide)) (g := (mkF m 191 #[.val (.int i0), .val (.int i1), .val (.long j2), .second, .val (.int i4), .val (.int i5), .val (.int (3 : Int32)), .val (.int (2 : Int32)), .val (.ref o8)] [(.int (2 : Int32)), (.int (1 : Int32)), (.int i5), (.int (4 : Int32)), (.ref o8)])) rfl (by rw [hml]; rfl) (argsL := [(.int i5), (.int (1 : Int32)), (.int (2 : Int32))]) (rest := [(.int (4 : Int32)), (.ref o8)]) (lenOf pd1 rfl) rfl (by show 2 * 0 + _ ≤ _; exact Nat.le_of_eq rfl) (hb hby at_191) (fun _ _ => ⟨rfl, e201, (by decide : 1 + 0 ≤ _), (by decide : 9 + 0 ≤ _)⟩)
      dsimp only [Pt.U, Pt.locs, Pt.cells, Pt.slots] at X203 l203 y203 z203 st203 hQ203
      subst l203 y203 z203
      obtain ⟨rfl, Nq203, e203⟩ := hQ203
      have N203 := Fr.app N201 Nq203
      refine own_step (T' := T203) (f' := (mkF m 194 #[.val (.int i0), .val (.int i1), .val (.long j2), .second, .val (.int i4), .val (.int i5), .val (.int (3 : Int32)), .val (.int (2 : Int32)), .val (.ref o8)] [(.int (f1_0 i5 (1 : Int32) (2 : Int32))), (.int (4 : Int32)), (.ref o8)])) st203 ?_
      obtain ⟨T204, h204, Lq204, X204, N204, e204, W204, Z204, Aq204, st204⟩ := own_stB X203 hx hZ e203 Ao8_201 (j := (4 : Int32)) (by decide) (k := 4) (by decide) (Nat.le_of_ble_eq_true rfl) N203 go8 Z201 (g := (mkF m 194 #[.val (.int i0), .val (.int i1), .val (.long j2), .second, .val (.int i4), .val (.int i5), .val (.int (3 : Int32)), .val (.int (2 : Int32)), .val (.ref o8)] [(.int (f1_0 i5 (1 : Int32) (2 : Int32))), (.int (4 : Int32)), (.ref o8)])) rfl rfl (hb hby at_194)
      have Ao8_204 : own_A Z h204 o8 .byte [(.int xo8_0), (.int xo8_1), (.int xo8_2), (.int (nar .byte (f1_0 i5 (0 : Int32) (2 : Int32)))), (.int (nar .byte (f1_0 i5 (1 : Int32) (2 : Int32)))), (.int xo8_5), (.int xo8_6), (.int xo8_7), (.int xo8_8)] := Aq204
      refine own_step (T' := T204) (f' := (mkF m 195 #[.val (.int i0), .val (.int i1), .val (.long j2), .second, .val (.int i4), .val (.int i5), .val (.int (3 : Int32)), .val (.int (2 : Int32)), .val (.ref o8)] [])) st204 ?_
      refine own_step (T' := T204) (f' := (mkF m 198 #[.val (.int i0), .val (.int i1), .val (.long j2), .second, .val (.int i4), .val (.int i5), .val (.int (3 : Int32)), .val (.int (2 : Int32)), .val (.ref o8)] [(.int (2 : Int32)), (.int (2 : Int32))])) (fun t kt => ?_) ?_
      · show Steps p.tables e below (T204.setTop (mkF m 195 #[.val (.int i0), .val (.int i1), .val (.long j2), .second, .val (.int i4), .val (.int i5), .val (.int (3 : Int32)), .val (.int (2 : Int32)), .val (.ref o8)] [])) _
        refine XS.iload X204.here hx rfl (hb hby at_195) rfl ?_
        show Steps p.tables e below (T204.setTop (mkF m 197 #[.val (.int i0), .val (.int i1), .val (.long j2), .second, .val (.int i4), .val (.int i5), .val (.int (3 : Int32)), .val (.int (2 : Int32)), .val (.ref o8)] [(.int (2 : Int32))])) _
        refine XS.iconst X204.here hx rfl (hb hby at_197) ?_
        exact kt
      refine own_step (T' := T204) (f' := (mkF m 216 #[.val (.int i0), .val (.int i1), .val (.long j2), .second, .val (.int i4), .val (.int i5), .val (.int (3 : Int32)), .val (.int (2 : Int32)), .val (.ref o8)] [])) (fun t kt => ?_) ?_
      · show Steps p.tables e below (T204.setTop (mkF m 198 #[.val (.int i0), .val (.int i1), .val (.long j2), .second, .val (.int i4), .val (.int i5), .val (.int (3 : Int32)), .val (.int (2 : Int32)), .val (.ref o8)] [(.int (2 : Int32)), (.int (2 : Int32))])) _
        refine XS.icmpYes X204.here hx rfl (pc0 := 198) (pc' := 216) rfl (hb hby at_198) rfl (flt (by decide : ¬ ((2 : Int32) < (2 : Int32)))).2.2.2 (by decide) (by decide) kt
      refine own_step (T' := T204) (f' := (mkF m 219 #[.val (.int i0), .val (.int i1), .val (.long j2), .second, .val (.int i4), .val (.int i5), .val (.int (3 : Int32)), .val (.int (2 : Int32)), .val (.ref o8)] [(.int (3 : Int32)), (.int (2 : Int32))])) (fun t kt => ?_) ?_
      · show Steps p.tables e below (T204.setTop (mkF m 216 #[.val (.int i0), .val (.int i1), .val (.long j2), .second, .val (.int i4), .val (.int i5), .val (.int (3 : Int32)), .val (.int (2 : Int32)), .val (.ref o8)] [])) _
        refine XS.iload X204.here hx rfl (hb hby at_216) rfl ?_
        show Steps p.tables e below (T204.setTop (mkF m 218 #[.val (.int i0), .val (.int i1), .val (.long j2), .second, .val (.int i4), .val (.int i5), .val (.int (3 : Int32)), .val (.int (2 : Int32)), .val (.ref o8)] [(.int (2 : Int32))])) _
        refine XS.iconst X204.here hx rfl (hb hby at_218) ?_
        exact kt
      refine own_step (T' := T204) (f' := (mkF m 237 #[.val (.int i0), .val (.int i1), .val (.long j2), .second, .val (.int i4), .val (.int i5), .val (.int (3 : Int32)), .val (.int (2 : Int32)), .val (.ref o8)] [])) (fun t kt => ?_) ?_
      · show Steps p.tables e below (T204.setTop (mkF m 219 #[.val (.int i0), .val (.int i1), .val (.long j2), .second, .val (.int i4), .val (.int i5), .val (.int (3 : Int32)), .val (.int (2 : Int32)), .val (.ref o8)] [(.int (3 : Int32)), (.int (2 : Int32))])) _
        refine XS.icmpYes X204.here hx rfl (pc0 := 219) (pc' := 237) rfl (hb hby at_219) rfl (flt (by decide : ¬ ((3 : Int32) < (2 : Int32)))).2.2.2 (by decide) (by decide) kt
      refine own_step (T' := T204) (f' := (mkF m 240 #[.val (.int i0), .val (.int i1), .val (.long j2), .second, .val (.int i4), .val (.int i5), .val (.int (3 : Int32)), .val (.int (2 : Int32)), .val (.ref o8)] [(.int (4 : Int32)), (.int (2 : Int32))])) (fun t kt => ?_) ?_
      · show Steps p.tables e below (T204.setTop (mkF m 237 #[.val (.int i0), .val (.int i1), .val (.long j2), .second, .val (.int i4), .val (.int i5), .val (.int (3 : Int32)), .val (.int (2 : Int32)), .val (.ref o8)] [])) _
        refine XS.iload X204.here hx rfl (hb hby at_237) rfl ?_
        show Steps p.tables e below (T204.setTop (mkF m 239 #[.val (.int i0), .val (.int i1), .val (.long j2), .second, .val (.int i4), .val (.int i5), .val (.int (3 : Int32)), .val (.int (2 : Int32)), .val (.ref o8)] [(.int (2 : Int32))])) _
        refine XS.iconst X204.here hx rfl (hb hby at_239) ?_
        exact kt
      refine own_step (T' := T204) (f' := (mkF m 258 #[.val (.int i0), .val (.int i1), .val (.long j2), .second, .val (.int i4), .val (.int i5), .val (.int (3 : Int32)), .val (.int (2 : Int32)), .val (.ref o8)] [])) (fun t kt => ?_) ?_
      · show Steps p.tables e below (T204.setTop (mkF m 240 #[.val (.int i0), .val (.int i1), .val (.long j2), .second, .val (.int i4), .val (.int i5), .val (.int (3 : Int32)), .val (.int (2 : Int32)), .val (.ref o8)] [(.int (4 : Int32)), (.int (2 : Int32))])) _
        refine XS.icmpYes X204.here hx rfl (pc0 := 240) (pc' := 258) rfl (hb hby at_240) rfl (flt (by decide : ¬ ((4 : Int32) < (2 : Int32)))).2.2.2 (by decide) (by decide) kt
      refine own_step (T' := T204) (f' := (mkF m 262 #[.val (.int i0), .val (.int i1), .val (.long j2), .second, .val (.int i4), .val (.int i5), .val (.int (3 : Int32)), .val (.int (2 : Int32)), .val (.ref o8)] [(.int (3 : Int32)), (.ref o8)])) (fun t kt => ?_) ?_
      · show Steps p.tables e below (T204.setTop (mkF m 258 #[.val (.int i0), .val (.int i1), .val (.long j2), .second, .val (.int i4), .val (.int i5), .val (.int (3 : Int32)), .val (.int (2 : Int32)), .val (.ref o8)] [])) _
        refine XS.aload X204.here hx rfl (hb hby at_258) rfl rfl ?_
        show Steps p.tables e below (T204.setTop (mkF m 260 #[.val (.int i0), .val (.int i1), .val (.long j2), .second, .val (.int i4), .val (.int i5), .val (.int (3 : Int32)), .val (.int (2 : Int32)), .val (.ref o8)] [(.ref o8)])) _
        refine XS.iload X204.here hx rfl (hb hby at_260) rfl ?_
        exact kt
      obtain ⟨_, _, ⟨T208, L208, k208, n208⟩, -, X208, ⟨Lc208, hQ208, l208, y208, z208⟩, st208⟩ := Jvm.LawKit.callS X204 hx (y := (⟨"hotstate/sort/VarInts", "read", "([BI)I"⟩ : MethodName)) hown (mvT hZ (hw _ (List.mem_of_getElem? (i := 6) rfl))) (mvT hZ (hw _ (List.mem_of_getElem? (i := 7) rfl))) (mvT hZ (hw _ (List.mem_of_getElem? (i := 8) rfl))) (mvT hZ (hw _ (List.mem_of_getElem? (i := 9) rfl))) (by decide) (backOf (W := 0) (rm2n2 l Z a0 hw [] o8 (3 : Int32) (nar .byte (f1_0 i5 (0 : Int32) (2 : Int32))) (nar .byte (f1_0 i5 (1 : Int32) (2 : Int32))) [(.int xo8_0), (.int xo8_1), (.int xo8_2), (.int (nar .byte (f1_0 i5 (0 : Int32) (2 : Int32)))), (.int (nar .byte (f1_0 i5 (1 : Int32) (2 : Int32)))), (.int xo8_5), (.int xo8_6), (.int xo8_7), (.int xo8_8)] h204 n0 Ao8_204 (by decide) rfl rfl (own_last2 i5)) hZ (hw _ (List.mem_of_getElem? (i := 9) rfl)) (hw _ (List.mem_of_getElem? (i := 8) rfl)) (by decide) (by decide)) (g := (mkF m 262 #[.val (.int i0), .val (.int i1), .val (.long j2), .second, .val (.int i4), .val (.int i5), .val (.int (3 : Int32)), .val (.int (2 : Int32)), .val (.ref o8)] [(.int (3 : Int32)), (.ref o8)])) rfl (by rw [hml]; rfl) (argsL := [(.ref o8), (.int (3 : Int32))]) (rest := []) (lenOf pd2 rfl) rfl (by show 2 * 0 + _ ≤ _; exact Nat.le_of_eq rfl) (hb hby at_262) (fun _ _ => ⟨rfl, e204, (by decide : 1 + 0 ≤ _), (by decide : 9 + 0 ≤ _)⟩)
      dsimp only [Pt.U, Pt.locs, Pt.cells, Pt.slots] at X208 l208 y208 z208 st208 hQ208
      subst l208 y208 z208
      obtain ⟨rfl, Nq208, e208⟩ := hQ208
      have N208 := Fr.app N204 Nq208
      refine own_step (T' := T208) (f' := (mkF m 265 #[.val (.int i0), .val (.int i1), .val (.long j2), .second, .val (.int i4), .val (.int i5), .val (.int (3 : Int32)), .val (.int (2 : Int32)), .val (.ref o8)] [(.int (f2n2_0 (3 : Int32) (nar .byte (f1_0 i5 (0 : Int32) (2 : Int32))) (nar .byte (f1_0 i5 (1 : Int32) (2 : Int32)))))])) st208 ?_
      refine own_step (T' := T208) (f' := (mkF m 267 #[.val (.int i0), .val (.int i1), .val (.long j2), .second, .val (.int i4), .val (.int i5), .val (.int (3 : Int32)), .val (.int (2 : Int32)), .val (.ref o8)] [(.int i5), (.int (f2n2_0 (3 : Int32) (nar .byte (f1_0 i5 (0 : Int32) (2 : Int32))) (nar .byte (f1_0 i5 (1 : Int32) (2 : Int32)))))])) (fun t kt => ?_) ?_
      · show Steps p.tables e below (T208.setTop (mkF m 265 #[.val (.int i0), .val (.int i1), .val (.long j2), .second, .val (.int i4), .val (.int i5), .val (.int (3 : Int32)), .val (.int (2 : Int32)), .val (.ref o8)] [(.int (f2n2_0 (3 : Int32) (nar .byte (f1_0 i5 (0 : Int32) (2 : Int32))) (nar .byte (f1_0 i5 (1 : Int32) (2 : Int32)))))])) _
        refine XS.iload X208.here hx rfl (hb hby at_265) rfl ?_
        exact kt
      by_cases hc267_209 : (f2n2_0 (3 : Int32) (nar .byte (f1_0 i5 (0 : Int32) (2 : Int32))) (nar .byte (f1_0 i5 (1 : Int32) (2 : Int32)))) = i5
      · replace hr := hr.trans (if_pos hc267_209)
        refine own_step (T' := T208) (f' := (mkF m 270 #[.val (.int i0), .val (.int i1), .val (.long j2), .second, .val (.int i4), .val (.int i5), .val (.int (3 : Int32)), .val (.int (2 : Int32)), .val (.ref o8)] [])) (fun t kt => ?_) ?_
        · show Steps p.tables e below (T208.setTop (mkF m 267 #[.val (.int i0), .val (.int i1), .val (.long j2), .second, .val (.int i4), .val (.int i5), .val (.int (3 : Int32)), .val (.int (2 : Int32)), .val (.ref o8)] [(.int i5), (.int (f2n2_0 (3 : Int32) (nar .byte (f1_0 i5 (0 : Int32) (2 : Int32))) (nar .byte (f1_0 i5 (1 : Int32) (2 : Int32)))))])) _
          refine XS.icmpNo X208.here hx rfl (hb hby at_267) rfl (teq hc267_209).2 kt
        refine own_step (T' := T208) (f' := (mkF m 275 #[.val (.int i0), .val (.int i1), .val (.long j2), .second, .val (.int i4), .val (.int i5), .val (.int (3 : Int32)), .val (.int (2 : Int32)), .val (.ref o8)] [(.int (1 : Int32))])) (fun t kt => ?_) ?_
        · show Steps p.tables e below (T208.setTop (mkF m 270 #[.val (.int i0), .val (.int i1), .val (.long j2), .second, .val (.int i4), .val (.int i5), .val (.int (3 : Int32)), .val (.int (2 : Int32)), .val (.ref o8)] [])) _
          refine XS.iconst X208.here hx rfl (hb hby at_270) ?_
          show Steps p.tables e below (T208.setTop (mkF m 271 #[.val (.int i0), .val (.int i1), .val (.long j2), .second, .val (.int i4), .val (.int i5), .val (.int (3 : Int32)), .val (.int (2 : Int32)), .val (.ref o8)] [(.int (1 : Int32))])) _
          refine XS.goto X208.here hx rfl (pc0 := 271) (pc' := 275) rfl (hb hby at_271) (by decide) (by decide) ?_
          exact kt
        exact own_retZ X208 hx hret (by simp) hlk (hb hby at_275) (by decide) (by decide) ⟨congrArg (fun z => some (Value.int z)) hr.symm, N208⟩
      · replace hr := hr.trans (if_neg hc267_209)
        refine own_step (T' := T208) (f' := (mkF m 274 #[.val (.int i0), .val (.int i1), .val (.long j2), .second, .val (.int i4), .val (.int i5), .val (.int (3 : Int32)), .val (.int (2 : Int32)), .val (.ref o8)] [])) (fun t kt => ?_) ?_
        · show Steps p.tables e below (T208.setTop (mkF m 267 #[.val (.int i0), .val (.int i1), .val (.long j2), .second, .val (.int i4), .val (.int i5), .val (.int (3 : Int32)), .val (.int (2 : Int32)), .val (.ref o8)] [(.int i5), (.int (f2n2_0 (3 : Int32) (nar .byte (f1_0 i5 (0 : Int32) (2 : Int32))) (nar .byte (f1_0 i5 (1 : Int32) (2 : Int32)))))])) _
          refine XS.icmpYes X208.here hx rfl (pc0 := 267) (pc' := 274) rfl (hb hby at_267) rfl (feq hc267_209).2 (by decide) (by decide) kt
        refine own_step (T' := T208) (f' := (mkF m 275 #[.val (.int i0), .val (.int i1), .val (.long j2), .second, .val (.int i4), .val (.int i5), .val (.int (3 : Int32)), .val (.int (2 : Int32)), .val (.ref o8)] [(.int (0 : Int32))])) (fun t kt => ?_) ?_
        · show Steps p.tables e below (T208.setTop (mkF m 274 #[.val (.int i0), .val (.int i1), .val (.long j2), .second, .val (.int i4), .val (.int i5), .val (.int (3 : Int32)), .val (.int (2 : Int32)), .val (.ref o8)] [])) _
          refine XS.iconst X208.here hx rfl (hb hby at_274) ?_
          exact kt
        exact own_retZ X208 hx hret (by simp) hlk (hb hby at_275) (by decide) (by decide) ⟨congrArg (fun z => some (Value.int z)) hr.symm, N208⟩
    · replace hr := hr.trans ((if_neg (by decide)).trans ((if_neg (by decide)).trans (if_pos rfl)))
      refine own_step (T' := T0) (f' := (mkF m 170 #[.val (.int i0), .val (.int i1), .val (.long j2), .second, .val (.int i4), .val (.int i5), .val (.int (3 : Int32)), .val (.int (3 : Int32)), .val (.ref o8)] [(.int (3 : Int32)), (.int (0 : Int32)), (.int i5), (.int (3 : Int32)), (.ref o8)])) (fun t kt => ?_) ?_
      · show Steps p.tables e below (T0.setTop (mkF m 161 #[.val (.int i0), .val (.int i1), .val (.long j2), .second, .val (.int i4), .val (.int i5), .val (.int (3 : Int32)), .val (.int (3 : Int32)), .val (.ref o8)] [])) _
        refine XS.aload X0.here hx rfl (hb hby at_161) rfl rfl ?_
        show Steps p.tables e below (T0.setTop (mkF m 163 #[.val (.int i0), .val (.int i1), .val (.long j2), .second, .val (.int i4), .val (.int i5), .val (.int (3 : Int32)), .val (.int (3 : Int32)), .val (.ref o8)] [(.ref o8)])) _
        refine XS.iload X0.here hx rfl (hb hby at_163) rfl ?_
        show Steps p.tables e below (T0.setTop (mkF m 165 #[.val (.int i0), .val (.int i1), .val (.long j2), .second, .val (.int i4), .val (.int i5), .val (.int (3 : Int32)), .val (.int (3 : Int32)), .val (.ref o8)] [(.int (3 : Int32)), (.ref o8)])) _
        refine XS.iload X0.here hx rfl (hb hby at_165) rfl ?_
        show Steps p.tables e below (T0.setTop (mkF m 167 #[.val (.int i0), .val (.int i1), .val (.long j2), .second, .val (.int i4), .val (.int i5), .val (.int (3 : Int32)), .val (.int (3 : Int32)), .val (.ref o8)] [(.int i5), (.int (3 : Int32)), (.ref o8)])) _
        refine XS.iconst X0.here hx rfl (hb hby at_167) ?_
        show Steps p.tables e below (T0.setTop (mkF m 168 #[.val (.int i0), .val (.int i1), .val (.long j2), .second, .val (.int i4), .val (.int i5), .val (.int (3 : Int32)), .val (.int (3 : Int32)), .val (.ref o8)] [(.int (0 : Int32)), (.int i5), (.int (3 : Int32)), (.ref o8)])) _
        refine XS.iload X0.here hx rfl (hb hby at_168) rfl ?_
        exact kt
      obtain ⟨_, _, ⟨T210, L210, k210, n210⟩, -, X210, ⟨Lc210, hQ210, l210, y210, z210⟩, st210⟩ := Jvm.LawKit.callS X0 hx (y := (⟨"hotstate/sort/VarIntsReadPinLaw", "enc", "(III)B"⟩ : MethodName)) hown (mvT hZ (hw _ (List.mem_of_getElem? (i := 2) rfl))) (mvT hZ (hw _ (List.mem_of_getElem? (i := 3) rfl))) (mvT hZ (hw _ (List.mem_of_getElem? (i := 4) rfl))) (mvT hZ (hw _ (List.mem_of_getElem? (i := 5) rfl))) (by decide) (backOf (W := 2) (rm1 l Z a0 hw [] i5 (0 : Int32) (3 : Int32)  h0 n0 ) hZ (hw _ (List.mem_of_getElem? (i := 5) rfl)) (hw _ (List.mem_of_getElem? (i := 4) rfl)) (by decide) (by decide)) (g := (mkF m 170 #[.val (.int i0), .val (.int i1), .val (.long j2), .second, .val (.int i4), .val (.int i5), .val (.int (3 : Int32)), .val (.int (3 : Int32)), .val (.ref o8)] [(.int (3 : Int32)), (.int (0 : Int32)), (.int i5), (.int (3 : Int32)), (.ref o8)])) rfl (by rw [hml]; rfl) (argsL := [(.int i5), (.int (0 : Int32)), (.int (3 : Int32))]) (rest := [(.int (3 : Int32)), (.ref o8)]) (lenOf pd1 rfl) rfl (by show 2 * 0 + _ ≤ _; exact Nat.le_of_eq rfl) (hb hby at_170) (fun _ _ => ⟨rfl, e0, (by decide : 1 + 0 ≤ _), (by decide : 9 + 0 ≤ _)⟩)
      dsimp only [Pt.U, Pt.locs, Pt.cells, Pt.slots] at X210 l210 y210 z210 st210 hQ210
      subst l210 y210 z210
      obtain ⟨rfl, Nq210, e210⟩ := hQ210
      have N210 := Fr.app N0 Nq210
      refine own_step (T' := T210) (f' := (mkF m 173 #[.val (.int i0), .val (.int i1), .val (.long j2), .second, .val (.int i4), .val (.int i5), .val (.int (3 : Int32)), .val (.int (3 : Int32)), .val (.ref o8)] [(.int (f1_0 i5 (0 : Int32) (3 : Int32))), (.int (3 : Int32)), (.ref o8)])) st210 ?_
      obtain ⟨T211, h211, Lq211, X211, N211, e211, W211, Z211, Aq211, st211⟩ := own_stB X210 hx hZ e210 Ao8 (j := (3 : Int32)) (by decide) (k := 3) (by decide) (Nat.le_of_ble_eq_true rfl) N210 go8 Z0 (g := (mkF m 173 #[.val (.int i0), .val (.int i1), .val (.long j2), .second, .val (.int i4), .val (.int i5), .val (.int (3 : Int32)), .val (.int (3 : Int32)), .val (.ref o8)] [(.int (f1_0 i5 (0 : Int32) (3 : Int32))), (.int (3 : Int32)), (.ref o8)])) rfl rfl (hb hby at_173)
      have Ao8_211 : own_A Z h211 o8 .byte [(.int xo8_0), (.int xo8_1), (.int xo8_2), (.int (nar .byte (f1_0 i5 (0 : Int32) (3 : Int32)))), (.int xo8_4), (.int xo8_5), (.int xo8_6), (.int xo8_7), (.int xo8_8)] := Aq211
      refine own_step (T' := T211) (f' := (mkF m 174 #[.val (.int i0), .val (.int i1), .val (.long j2), .second, .val (.int i4), .val (.int i5), .val (.int (3 : Int32)), .val (.int (3 : Int32)), .val (.ref o8)] [])) st211 ?_
      refine own_step (T' := T211) (f' := (mkF m 177 #[.val (.int i0), .val (.int i1), .val (.long j2), .second, .val (.int i4), .val (.int i5), .val (.int (3 : Int32)), .val (.int (3 : Int32)), .val (.ref o8)] [(.int (1 : Int32)), (.int (3 : Int32))])) (fun t kt => ?_) ?_
      · show Steps p.tables e below (T211.setTop (mkF m 174 #[.val (.int i0), .val (.int i1), .val (.long j2), .second, .val (.int i4), .val (.int i5), .val (.int (3 : Int32)), .val (.int (3 : Int32)), .val (.ref o8)] [])) _
        refine XS.iload X211.here hx rfl (hb hby at_174) rfl ?_
        show Steps p.tables e below (T211.setTop (mkF m 176 #[.val (.int i0), .val (.int i1), .val (.long j2), .second, .val (.int i4), .val (.int i5), .val (.int (3 : Int32)), .val (.int (3 : Int32)), .val (.ref o8)] [(.int (3 : Int32))])) _
        refine XS.iconst X211.here hx rfl (hb hby at_176) ?_
        exact kt
      refine own_step (T' := T211) (f' := (mkF m 180 #[.val (.int i0), .val (.int i1), .val (.long j2), .second, .val (.int i4), .val (.int i5), .val (.int (3 : Int32)), .val (.int (3 : Int32)), .val (.ref o8)] [])) (fun t kt => ?_) ?_
      · show Steps p.tables e below (T211.setTop (mkF m 177 #[.val (.int i0), .val (.int i1), .val (.long j2), .second, .val (.int i4), .val (.int i5), .val (.int (3 : Int32)), .val (.int (3 : Int32)), .val (.ref o8)] [(.int (1 : Int32)), (.int (3 : Int32))])) _
        refine XS.icmpNo X211.here hx rfl (hb hby at_177) rfl (tlt (by decide : ((1 : Int32) < (3 : Int32)))).2.2.2 kt
      refine own_step (T' := T211) (f' := (mkF m 191 #[.val (.int i0), .val (.int i1), .val (.long j2), .second, .val (.int i4), .val (.int i5), .val (.int (3 : Int32)), .val (.int (3 : Int32)), .val (.ref o8)] [(.int (3 : Int32)), (.int (1 : Int32)), (.int i5), (.int (4 : Int32)), (.ref o8)])) (fun t kt => ?_) ?_
      · show Steps p.tables e below (T211.setTop (mkF m 180 #[.val (.int i0), .val (.int i1), .val (.long j2), .second, .val (.int i4), .val (.int i5), .val (.int (3 : Int32)), .val (.int (3 : Int32)), .val (.ref o8)] [])) _
        refine XS.aload X211.here hx rfl (hb hby at_180) rfl rfl ?_
        show Steps p.tables e below (T211.setTop (mkF m 182 #[.val (.int i0), .val (.int i1), .val (.long j2), .second, .val (.int i4), .val (.int i5), .val (.int (3 : Int32)), .val (.int (3 : Int32)), .val (.ref o8)] [(.ref o8)])) _
        refine XS.iload X211.here hx rfl (hb hby at_182) rfl ?_
        show Steps p.tables e below (T211.setTop (mkF m 184 #[.val (.int i0), .val (.int i1), .val (.long j2), .second, .val (.int i4), .val (.int i5), .val (.int (3 : Int32)), .val (.int (3 : Int32)), .val (.ref o8)] [(.int (3 : Int32)), (.ref o8)])) _
        refine XS.iconst X211.here hx rfl (hb hby at_184) ?_
        show Steps p.tables e below (T211.setTop (mkF m 185 #[.val (.int i0), .val (.int i1), .val (.long j2), .second, .val (.int i4), .val (.int i5), .val (.int (3 : Int32)), .val (.int (3 : Int32)), .val (.ref o8)] [(.int (1 : Int32)), (.int (3 : Int32)), (.ref o8)])) _
        refine XS.iadd X211.here hx rfl (hb hby at_185) rfl ?_
        show Steps p.tables e below (T211.setTop (mkF m 186 #[.val (.int i0), .val (.int i1), .val (.long j2), .second, .val (.int i4), .val (.int i5), .val (.int (3 : Int32)), .val (.int (3 : Int32)), .val (.ref o8)] [(.int (4 : Int32)), (.ref o8)])) _
        refine XS.iload X211.here hx rfl (hb hby at_186) rfl ?_
        show Steps p.tables e below (T211.setTop (mkF m 188 #[.val (.int i0), .val (.int i1), .val (.long j2), .second, .val (.int i4), .val (.int i5), .val (.int (3 : Int32)), .val (.int (3 : Int32)), .val (.ref o8)] [(.int i5), (.int (4 : Int32)), (.ref o8)])) _
        refine XS.iconst X211.here hx rfl (hb hby at_188) ?_
        show Steps p.tables e below (T211.setTop (mkF m 189 #[.val (.int i0), .val (.int i1), .val (.long j2), .second, .val (.int i4), .val (.int i5), .val (.int (3 : Int32)), .val (.int (3 : Int32)), .val (.ref o8)] [(.int (1 : Int32)), (.int i5), (.int (4 : Int32)), (.ref o8)])) _
        refine XS.iload X211.here hx rfl (hb hby at_189) rfl ?_
        exact kt
      obtain ⟨_, _, ⟨T213, L213, k213, n213⟩, -, X213, ⟨Lc213, hQ213, l213, y213, z213⟩, st213⟩ := Jvm.LawKit.callS X211 hx (y := (⟨"hotstate/sort/VarIntsReadPinLaw", "enc", "(III)B"⟩ : MethodName)) hown (mvT hZ (hw _ (List.mem_of_getElem? (i := 2) rfl))) (mvT hZ (hw _ (List.mem_of_getElem? (i := 3) rfl))) (mvT hZ (hw _ (List.mem_of_getElem? (i := 4) rfl))) (mvT hZ (hw _ (List.mem_of_getElem? (i := 5) rfl))) (by decide) (backOf (W := 2) (rm1 l Z a0 hw [] i5 (1 : Int32) (3 : Int32)  h211 n0 ) hZ (hw _ (List.mem_of_getElem? (i := 5) rfl)) (hw _ (List.mem_of_getElem? (i := 4) rfl)) (by decide) (by decide)) (g := (mkF m 191 #[.val (.int i0), .val (.int i1), .val (.long j2), .second, .val (.int i4), .val (.int i5), .val (.int (3 : Int32)), .val (.int (3 : Int32)), .val (.ref o8)] [(.int (3 : Int32)), (.int (1 : Int32)), (.int i5), (.int (4 : Int32)), (.ref o8)])) rfl (by rw [hml]; rfl) (argsL := [(.int i5), (.int (1 : Int32)), (.int (3 : Int32))]) (rest := [(.int (4 : Int32)), (.ref o8)]) (lenOf pd1 rfl) rfl (by show 2 * 0 + _ ≤ _; exact Nat.le_of_eq rfl) (hb hby at_191) (fun _ _ => ⟨rfl, e211, (by decide : 1 + 0 ≤ _), (by decide : 9 + 0 ≤ _)⟩)
      dsimp only [Pt.U, Pt.locs, Pt.cells, Pt.slots] at X213 l213 y213 z213 st213 hQ213
      subst l213 y213 z213
      obtain ⟨rfl, Nq213, e213⟩ := hQ213
      have N213 := Fr.app N211 Nq213
      refine own_step (T' := T213) (f' := (mkF m 194 #[.val (.int i0), .val (.int i1), .val (.long j2), .second, .val (.int i4), .val (.int i5), .val (.int (3 : Int32)), .val (.int (3 : Int32)), .val (.ref o8)] [(.int (f1_0 i5 (1 : Int32) (3 : Int32))), (.int (4 : Int32)), (.ref o8)])) st213 ?_
      obtain ⟨T214, h214, Lq214, X214, N214, e214, W214, Z214, Aq214, st214⟩ := own_stB X213 hx hZ e213 Ao8_211 (j := (4 : Int32)) (by decide) (k := 4) (by decide) (Nat.le_of_ble_eq_true rfl) N213 go8 Z211 (g := (mkF m 194 #[.val (.int i0), .val (.int i1), .val (.long j2), .second, .val (.int i4), .val (.int i5), .val (.int (3 : Int32)), .val (.int (3 : Int32)), .val (.ref o8)] [(.int (f1_0 i5 (1 : Int32) (3 : Int32))), (.int (4 : Int32)), (.ref o8)])) rfl rfl (hb hby at_194)
      have Ao8_214 : own_A Z h214 o8 .byte [(.int xo8_0), (.int xo8_1), (.int xo8_2), (.int (nar .byte (f1_0 i5 (0 : Int32) (3 : Int32)))), (.int (nar .byte (f1_0 i5 (1 : Int32) (3 : Int32)))), (.int xo8_5), (.int xo8_6), (.int xo8_7), (.int xo8_8)] := Aq214
      refine own_step (T' := T214) (f' := (mkF m 195 #[.val (.int i0), .val (.int i1), .val (.long j2), .second, .val (.int i4), .val (.int i5), .val (.int (3 : Int32)), .val (.int (3 : Int32)), .val (.ref o8)] [])) st214 ?_
      refine own_step (T' := T214) (f' := (mkF m 198 #[.val (.int i0), .val (.int i1), .val (.long j2), .second, .val (.int i4), .val (.int i5), .val (.int (3 : Int32)), .val (.int (3 : Int32)), .val (.ref o8)] [(.int (2 : Int32)), (.int (3 : Int32))])) (fun t kt => ?_) ?_
      · show Steps p.tables e below (T214.setTop (mkF m 195 #[.val (.int i0), .val (.int i1), .val (.long j2), .second, .val (.int i4), .val (.int i5), .val (.int (3 : Int32)), .val (.int (3 : Int32)), .val (.ref o8)] [])) _
        refine XS.iload X214.here hx rfl (hb hby at_195) rfl ?_
        show Steps p.tables e below (T214.setTop (mkF m 197 #[.val (.int i0), .val (.int i1), .val (.long j2), .second, .val (.int i4), .val (.int i5), .val (.int (3 : Int32)), .val (.int (3 : Int32)), .val (.ref o8)] [(.int (3 : Int32))])) _
        refine XS.iconst X214.here hx rfl (hb hby at_197) ?_
        exact kt
      refine own_step (T' := T214) (f' := (mkF m 201 #[.val (.int i0), .val (.int i1), .val (.long j2), .second, .val (.int i4), .val (.int i5), .val (.int (3 : Int32)), .val (.int (3 : Int32)), .val (.ref o8)] [])) (fun t kt => ?_) ?_
      · show Steps p.tables e below (T214.setTop (mkF m 198 #[.val (.int i0), .val (.int i1), .val (.long j2), .second, .val (.int i4), .val (.int i5), .val (.int (3 : Int32)), .val (.int (3 : Int32)), .val (.ref o8)] [(.int (2 : Int32)), (.int (3 : Int32))])) _
        refine XS.icmpNo X214.here hx rfl (hb hby at_198) rfl (tlt (by decide : ((2 : Int32) < (3 : Int32)))).2.2.2 kt
      refine own_step (T' := T214) (f' := (mkF m 212 #[.val (.int i0), .val (.int i1), .val (.long j2), .second, .val (.int i4), .val (.int i5), .val (.int (3 : Int32)), .val (.int (3 : Int32)), .val (.ref o8)] [(.int (3 : Int32)), (.int (2 : Int32)), (.int i5), (.int (5 : Int32)), (.ref o8)])) (fun t kt => ?_) ?_
      · show Steps p.tables e below (T214.setTop (mkF m 201 #[.val (.int i0), .val (.int i1), .val (.long j2), .second, .val (.int i4), .val (.int i5), .val (.int (3 : Int32)), .val (.int (3 : Int32)), .val (.ref o8)] [])) _
        refine XS.aload X214.here hx rfl (hb hby at_201) rfl rfl ?_
        show Steps p.tables e below (T214.setTop (mkF m 203 #[.val (.int i0), .val (.int i1), .val (.long j2), .second, .val (.int i4), .val (.int i5), .val (.int (3 : Int32)), .val (.int (3 : Int32)), .val (.ref o8)] [(.ref o8)])) _
        refine XS.iload X214.here hx rfl (hb hby at_203) rfl ?_
        show Steps p.tables e below (T214.setTop (mkF m 205 #[.val (.int i0), .val (.int i1), .val (.long j2), .second, .val (.int i4), .val (.int i5), .val (.int (3 : Int32)), .val (.int (3 : Int32)), .val (.ref o8)] [(.int (3 : Int32)), (.ref o8)])) _
        refine XS.iconst X214.here hx rfl (hb hby at_205) ?_
        show Steps p.tables e below (T214.setTop (mkF m 206 #[.val (.int i0), .val (.int i1), .val (.long j2), .second, .val (.int i4), .val (.int i5), .val (.int (3 : Int32)), .val (.int (3 : Int32)), .val (.ref o8)] [(.int (2 : Int32)), (.int (3 : Int32)), (.ref o8)])) _
        refine XS.iadd X214.here hx rfl (hb hby at_206) rfl ?_
        show Steps p.tables e below (T214.setTop (mkF m 207 #[.val (.int i0), .val (.int i1), .val (.long j2), .second, .val (.int i4), .val (.int i5), .val (.int (3 : Int32)), .val (.int (3 : Int32)), .val (.ref o8)] [(.int (5 : Int32)), (.ref o8)])) _
        refine XS.iload X214.here hx rfl (hb hby at_207) rfl ?_
        show Steps p.tables e below (T214.setTop (mkF m 209 #[.val (.int i0), .val (.int i1), .val (.long j2), .second, .val (.int i4), .val (.int i5), .val (.int (3 : Int32)), .val (.int (3 : Int32)), .val (.ref o8)] [(.int i5), (.int (5 : Int32)), (.ref o8)])) _
        refine XS.iconst X214.here hx rfl (hb hby at_209) ?_
        show Steps p.tables e below (T214.setTop (mkF m 210 #[.val (.int i0), .val (.int i1), .val (.long j2), .second, .val (.int i4), .val (.int i5), .val (.int (3 : Int32)), .val (.int (3 : Int32)), .val (.ref o8)] [(.int (2 : Int32)), (.int i5), (.int (5 : Int32)), (.ref o8)])) _
        refine XS.iload X214.here hx rfl (hb hby at_210) rfl ?_
        exact kt
      obtain ⟨_, _, ⟨T216, L216, k216, n216⟩, -, X216, ⟨Lc216, hQ216, l216, y216, z216⟩, st216⟩ := Jvm.LawKit.callS X214 hx (y := (⟨"hotstate/sort/VarIntsReadPinLaw", "enc", "(III)B"⟩ : MethodName)) hown (mvT hZ (hw _ (List.mem_of_getElem? (i := 2) rfl))) (mvT hZ (hw _ (List.mem_of_getElem? (i := 3) rfl))) (mvT hZ (hw _ (List.mem_of_getElem? (i := 4) rfl))) (mvT hZ (hw _ (List.mem_of_getElem? (i := 5) rfl))) (by decide) (backOf (W := 2) (rm1 l Z a0 hw [] i5 (2 : Int32) (3 : Int32)  h214 n0 ) hZ (hw _ (List.mem_of_getElem? (i := 5) rfl)) (hw _ (List.mem_of_getElem? (i := 4) rfl)) (by decide) (by decide)) (g := (mkF m 212 #[.val (.int i0), .val (.int i1), .val (.long j2), .second, .val (.int i4), .val (.int i5), .val (.int (3 : Int32)), .val (.int (3 : Int32)), .val (.ref o8)] [(.int (3 : Int32)), (.int (2 : Int32)), (.int i5), (.int (5 : Int32)), (.ref o8)])) rfl (by rw [hml]; rfl) (argsL := [(.int i5), (.int (2 : Int32)), (.int (3 : Int32))]) (rest := [(.int (5 : Int32)), (.ref o8)]) (lenOf pd1 rfl) rfl (by show 2 * 0 + _ ≤ _; exact Nat.le_of_eq rfl) (hb hby at_212) (fun _ _ => ⟨rfl, e214, (by decide : 1 + 0 ≤ _), (by decide : 9 + 0 ≤ _)⟩)
      dsimp only [Pt.U, Pt.locs, Pt.cells, Pt.slots] at X216 l216 y216 z216 st216 hQ216
      subst l216 y216 z216
      obtain ⟨rfl, Nq216, e216⟩ := hQ216
      have N216 := Fr.app N214 Nq216
      refine own_step (T' := T216) (f' := (mkF m 215 #[.val (.int i0), .val (.int i1), .val (.long j2), .second, .val (.int i4), .val (.int i5), .val (.int (3 : Int32)), .val (.int (3 : Int32)), .val (.ref o8)] [(.int (f1_0 i5 (2 : Int32) (3 : Int32))), (.int (5 : Int32)), (.ref o8)])) st216 ?_
      obtain ⟨T217, h217, Lq217, X217, N217, e217, W217, Z217, Aq217, st217⟩ := own_stB X216 hx hZ e216 Ao8_214 (j := (5 : Int32)) (by decide) (k := 5) (by decide) (Nat.le_of_ble_eq_true rfl) N216 go8 Z214 (g := (mkF m 215 #[.val (.int i0), .val (.int i1), .val (.long j2), .second, .val (.int i4), .val (.int i5), .val (.int (3 : Int32)), .val (.int (3 : Int32)), .val (.ref o8)] [(.int (f1_0 i5 (2 : Int32) (3 : Int32))), (.int (5 : Int32)), (.ref o8)])) rfl rfl (hb hby at_215)
      have Ao8_217 : own_A Z h217 o8 .byte [(.int xo8_0), (.int xo8_1), (.int xo8_2), (.int (nar .byte (f1_0 i5 (0 : Int32) (3 : Int32)))), (.int (nar .byte (f1_0 i5 (1 : Int32) (3 : Int32)))), (.int (nar .byte (f1_0 i5 (2 : Int32) (3 : Int32)))), (.int xo8_6), (.int xo8_7), (.int xo8_8)] := Aq217
      refine own_step (T' := T217) (f' := (mkF m 216 #[.val (.int i0), .val (.int i1), .val (.long j2), .second, .val (.int i4), .val (.int i5), .val (.int (3 : Int32)), .val (.int (3 : Int32)), .val (.ref o8)] [])) st217 ?_
      refine own_step (T' := T217) (f' := (mkF m 219 #[.val (.int i0), .val (.int i1), .val (.long j2), .second, .val (.int i4), .val (.int i5), .val (.int (3 : Int32)), .val (.int (3 : Int32)), .val (.ref o8)] [(.int (3 : Int32)), (.int (3 : Int32))])) (fun t kt => ?_) ?_
      · show Steps p.tables e below (T217.setTop (mkF m 216 #[.val (.int i0), .val (.int i1), .val (.long j2), .second, .val (.int i4), .val (.int i5), .val (.int (3 : Int32)), .val (.int (3 : Int32)), .val (.ref o8)] [])) _
        refine XS.iload X217.here hx rfl (hb hby at_216) rfl ?_
        show Steps p.tables e below (T217.setTop (mkF m 218 #[.val (.int i0), .val (.int i1), .val (.long j2), .second, .val (.int i4), .val (.int i5), .val (.int (3 : Int32)), .val (.int (3 : Int32)), .val (.ref o8)] [(.int (3 : Int32))])) _
        refine XS.iconst X217.here hx rfl (hb hby at_218) ?_
        exact kt
      refine own_step (T' := T217) (f' := (mkF m 237 #[.val (.int i0), .val (.int i1), .val (.long j2), .second, .val (.int i4), .val (.int i5), .val (.int (3 : Int32)), .val (.int (3 : Int32)), .val (.ref o8)] [])) (fun t kt => ?_) ?_
      · show Steps p.tables e below (T217.setTop (mkF m 219 #[.val (.int i0), .val (.int i1), .val (.long j2), .second, .val (.int i4), .val (.int i5), .val (.int (3 : Int32)), .val (.int (3 : Int32)), .val (.ref o8)] [(.int (3 : Int32)), (.int (3 : Int32))])) _
        refine XS.icmpYes X217.here hx rfl (pc0 := 219) (pc' := 237) rfl (hb hby at_219) rfl (flt (by decide : ¬ ((3 : Int32) < (3 : Int32)))).2.2.2 (by decide) (by decide) kt
      refine own_step (T' := T217) (f' := (mkF m 240 #[.val (.int i0), .val (.int i1), .val (.long j2), .second, .val (.int i4), .val (.int i5), .val (.int (3 : Int32)), .val (.int (3 : Int32)), .val (.ref o8)] [(.int (4 : Int32)), (.int (3 : Int32))])) (fun t kt => ?_) ?_
      · show Steps p.tables e below (T217.setTop (mkF m 237 #[.val (.int i0), .val (.int i1), .val (.long j2), .second, .val (.int i4), .val (.int i5), .val (.int (3 : Int32)), .val (.int (3 : Int32)), .val (.ref o8)] [])) _
        refine XS.iload X217.here hx rfl (hb hby at_237) rfl ?_
        show Steps p.tables e below (T217.setTop (mkF m 239 #[.val (.int i0), .val (.int i1), .val (.long j2), .second, .val (.int i4), .val (.int i5), .val (.int (3 : Int32)), .val (.int (3 : Int32)), .val (.ref o8)] [(.int (3 : Int32))])) _
        refine XS.iconst X217.here hx rfl (hb hby at_239) ?_
        exact kt
      refine own_step (T' := T217) (f' := (mkF m 258 #[.val (.int i0), .val (.int i1), .val (.long j2), .second, .val (.int i4), .val (.int i5), .val (.int (3 : Int32)), .val (.int (3 : Int32)), .val (.ref o8)] [])) (fun t kt => ?_) ?_
      · show Steps p.tables e below (T217.setTop (mkF m 240 #[.val (.int i0), .val (.int i1), .val (.long j2), .second, .val (.int i4), .val (.int i5), .val (.int (3 : Int32)), .val (.int (3 : Int32)), .val (.ref o8)] [(.int (4 : Int32)), (.int (3 : Int32))])) _
        refine XS.icmpYes X217.here hx rfl (pc0 := 240) (pc' := 258) rfl (hb hby at_240) rfl (flt (by decide : ¬ ((4 : Int32) < (3 : Int32)))).2.2.2 (by decide) (by decide) kt
      refine own_step (T' := T217) (f' := (mkF m 262 #[.val (.int i0), .val (.int i1), .val (.long j2), .second, .val (.int i4), .val (.int i5), .val (.int (3 : Int32)), .val (.int (3 : Int32)), .val (.ref o8)] [(.int (3 : Int32)), (.ref o8)])) (fun t kt => ?_) ?_
      · show Steps p.tables e below (T217.setTop (mkF m 258 #[.val (.int i0), .val (.int i1), .val (.long j2), .second, .val (.int i4), .val (.int i5), .val (.int (3 : Int32)), .val (.int (3 : Int32)), .val (.ref o8)] [])) _
        refine XS.aload X217.here hx rfl (hb hby at_258) rfl rfl ?_
        show Steps p.tables e below (T217.setTop (mkF m 260 #[.val (.int i0), .val (.int i1), .val (.long j2), .second, .val (.int i4), .val (.int i5), .val (.int (3 : Int32)), .val (.int (3 : Int32)), .val (.ref o8)] [(.ref o8)])) _
        refine XS.iload X217.here hx rfl (hb hby at_260) rfl ?_
        exact kt
      obtain ⟨_, _, ⟨T220, L220, k220, n220⟩, -, X220, ⟨Lc220, hQ220, l220, y220, z220⟩, st220⟩ := Jvm.LawKit.callS X217 hx (y := (⟨"hotstate/sort/VarInts", "read", "([BI)I"⟩ : MethodName)) hown (mvT hZ (hw _ (List.mem_of_getElem? (i := 6) rfl))) (mvT hZ (hw _ (List.mem_of_getElem? (i := 7) rfl))) (mvT hZ (hw _ (List.mem_of_getElem? (i := 8) rfl))) (mvT hZ (hw _ (List.mem_of_getElem? (i := 9) rfl))) (by decide) (backOf (W := 0) (rm2n3 l Z a0 hw [] o8 (3 : Int32) (nar .byte (f1_0 i5 (0 : Int32) (3 : Int32))) (nar .byte (f1_0 i5 (1 : Int32) (3 : Int32))) (nar .byte (f1_0 i5 (2 : Int32) (3 : Int32))) [(.int xo8_0), (.int xo8_1), (.int xo8_2), (.int (nar .byte (f1_0 i5 (0 : Int32) (3 : Int32)))), (.int (nar .byte (f1_0 i5 (1 : Int32) (3 : Int32)))), (.int (nar .byte (f1_0 i5 (2 : Int32) (3 : Int32)))), (.int xo8_6), (.int xo8_7), (.int xo8_8)] h217 n0 Ao8_217 (by decide) rfl rfl rfl (own_last3 i5)) hZ (hw _ (List.mem_of_getElem? (i := 9) rfl)) (hw _ (List.mem_of_getElem? (i := 8) rfl)) (by decide) (by decide)) (g := (mkF m 262 #[.val (.int i0), .val (.int i1), .val (.long j2), .second, .val (.int i4), .val (.int i5), .val (.int (3 : Int32)), .val (.int (3 : Int32)), .val (.ref o8)] [(.int (3 : Int32)), (.ref o8)])) rfl (by rw [hml]; rfl) (argsL := [(.ref o8), (.int (3 : Int32))]) (rest := []) (lenOf pd2 rfl) rfl (by show 2 * 0 + _ ≤ _; exact Nat.le_of_eq rfl) (hb hby at_262) (fun _ _ => ⟨rfl, e217, (by decide : 1 + 0 ≤ _), (by decide : 9 + 0 ≤ _)⟩)
      dsimp only [Pt.U, Pt.locs, Pt.cells, Pt.slots] at X220 l220 y220 z220 st220 hQ220
      subst l220 y220 z220
      obtain ⟨rfl, Nq220, e220⟩ := hQ220
      have N220 := Fr.app N217 Nq220
      refine own_step (T' := T220) (f' := (mkF m 265 #[.val (.int i0), .val (.int i1), .val (.long j2), .second, .val (.int i4), .val (.int i5), .val (.int (3 : Int32)), .val (.int (3 : Int32)), .val (.ref o8)] [(.int (f2n3_0 (3 : Int32) (nar .byte (f1_0 i5 (0 : Int32) (3 : Int32))) (nar .byte (f1_0 i5 (1 : Int32) (3 : Int32))) (nar .byte (f1_0 i5 (2 : Int32) (3 : Int32)))))])) st220 ?_
      refine own_step (T' := T220) (f' := (mkF m 267 #[.val (.int i0), .val (.int i1), .val (.long j2), .second, .val (.int i4), .val (.int i5), .val (.int (3 : Int32)), .val (.int (3 : Int32)), .val (.ref o8)] [(.int i5), (.int (f2n3_0 (3 : Int32) (nar .byte (f1_0 i5 (0 : Int32) (3 : Int32))) (nar .byte (f1_0 i5 (1 : Int32) (3 : Int32))) (nar .byte (f1_0 i5 (2 : Int32) (3 : Int32)))))])) (fun t kt => ?_) ?_
      · show Steps p.tables e below (T220.setTop (mkF m 265 #[.val (.int i0), .val (.int i1), .val (.long j2), .second, .val (.int i4), .val (.int i5), .val (.int (3 : Int32)), .val (.int (3 : Int32)), .val (.ref o8)] [(.int (f2n3_0 (3 : Int32) (nar .byte (f1_0 i5 (0 : Int32) (3 : Int32))) (nar .byte (f1_0 i5 (1 : Int32) (3 : Int32))) (nar .byte (f1_0 i5 (2 : Int32) (3 : Int32)))))])) _
        refine XS.iload X220.here hx rfl (hb hby at_265) rfl ?_
        exact kt
      by_cases hc267_221 : (f2n3_0 (3 : Int32) (nar .byte (f1_0 i5 (0 : Int32) (3 : Int32))) (nar .byte (f1_0 i5 (1 : Int32) (3 : Int32))) (nar .byte (f1_0 i5 (2 : Int32) (3 : Int32)))) = i5
      · replace hr := hr.trans (if_pos hc267_221)
        refine own_step (T' := T220) (f' := (mkF m 270 #[.val (.int i0), .val (.int i1), .val (.long j2), .second, .val (.int i4), .val (.int i5), .val (.int (3 : Int32)), .val (.int (3 : Int32)), .val (.ref o8)] [])) (fun t kt => ?_) ?_
        · show Steps p.tables e below (T220.setTop (mkF m 267 #[.val (.int i0), .val (.int i1), .val (.long j2), .second, .val (.int i4), .val (.int i5), .val (.int (3 : Int32)), .val (.int (3 : Int32)), .val (.ref o8)] [(.int i5), (.int (f2n3_0 (3 : Int32) (nar .byte (f1_0 i5 (0 : Int32) (3 : Int32))) (nar .byte (f1_0 i5 (1 : Int32) (3 : Int32))) (nar .byte (f1_0 i5 (2 : Int32) (3 : Int32)))))])) _
          refine XS.icmpNo X220.here hx rfl (hb hby at_267) rfl (teq hc267_221).2 kt
        refine own_step (T' := T220) (f' := (mkF m 275 #[.val (.int i0), .val (.int i1), .val (.long j2), .second, .val (.int i4), .val (.int i5), .val (.int (3 : Int32)), .val (.int (3 : Int32)), .val (.ref o8)] [(.int (1 : Int32))])) (fun t kt => ?_) ?_
        · show Steps p.tables e below (T220.setTop (mkF m 270 #[.val (.int i0), .val (.int i1), .val (.long j2), .second, .val (.int i4), .val (.int i5), .val (.int (3 : Int32)), .val (.int (3 : Int32)), .val (.ref o8)] [])) _
          refine XS.iconst X220.here hx rfl (hb hby at_270) ?_
          show Steps p.tables e below (T220.setTop (mkF m 271 #[.val (.int i0), .val (.int i1), .val (.long j2), .second, .val (.int i4), .val (.int i5), .val (.int (3 : Int32)), .val (.int (3 : Int32)), .val (.ref o8)] [(.int (1 : Int32))])) _
          refine XS.goto X220.here hx rfl (pc0 := 271) (pc' := 275) rfl (hb hby at_271) (by decide) (by decide) ?_
          exact kt
        exact own_retZ X220 hx hret (by simp) hlk (hb hby at_275) (by decide) (by decide) ⟨congrArg (fun z => some (Value.int z)) hr.symm, N220⟩
      · replace hr := hr.trans (if_neg hc267_221)
        refine own_step (T' := T220) (f' := (mkF m 274 #[.val (.int i0), .val (.int i1), .val (.long j2), .second, .val (.int i4), .val (.int i5), .val (.int (3 : Int32)), .val (.int (3 : Int32)), .val (.ref o8)] [])) (fun t kt => ?_) ?_
        · show Steps p.tables e below (T220.setTop (mkF m 267 #[.val (.int i0), .val (.int i1), .val (.long j2), .second, .val (.int i4), .val (.int i5), .val (.int (3 : Int32)), .val (.int (3 : Int32)), .val (.ref o8)] [(.int i5), (.int (f2n3_0 (3 : Int32) (nar .byte (f1_0 i5 (0 : Int32) (3 : Int32))) (nar .byte (f1_0 i5 (1 : Int32) (3 : Int32))) (nar .byte (f1_0 i5 (2 : Int32) (3 : Int32)))))])) _
          refine XS.icmpYes X220.here hx rfl (pc0 := 267) (pc' := 274) rfl (hb hby at_267) rfl (feq hc267_221).2 (by decide) (by decide) kt
        refine own_step (T' := T220) (f' := (mkF m 275 #[.val (.int i0), .val (.int i1), .val (.long j2), .second, .val (.int i4), .val (.int i5), .val (.int (3 : Int32)), .val (.int (3 : Int32)), .val (.ref o8)] [(.int (0 : Int32))])) (fun t kt => ?_) ?_
        · show Steps p.tables e below (T220.setTop (mkF m 274 #[.val (.int i0), .val (.int i1), .val (.long j2), .second, .val (.int i4), .val (.int i5), .val (.int (3 : Int32)), .val (.int (3 : Int32)), .val (.ref o8)] [])) _
          refine XS.iconst X220.here hx rfl (hb hby at_274) ?_
          exact kt
        exact own_retZ X220 hx hret (by simp) hlk (hb hby at_275) (by decide) (by decide) ⟨congrArg (fun z => some (Value.int z)) hr.symm, N220⟩
    · replace hr := hr.trans ((if_neg (by decide)).trans ((if_neg (by decide)).trans ((if_neg (by decide)).trans (if_pos rfl))))
      refine own_step (T' := T0) (f' := (mkF m 170 #[.val (.int i0), .val (.int i1), .val (.long j2), .second, .val (.int i4), .val (.int i5), .val (.int (3 : Int32)), .val (.int (4 : Int32)), .val (.ref o8)] [(.int (4 : Int32)), (.int (0 : Int32)), (.int i5), (.int (3 : Int32)), (.ref o8)])) (fun t kt => ?_) ?_
      · show Steps p.tables e below (T0.setTop (mkF m 161 #[.val (.int i0), .val (.int i1), .val (.long j2), .second, .val (.int i4), .val (.int i5), .val (.int (3 : Int32)), .val (.int (4 : Int32)), .val (.ref o8)] [])) _
        refine XS.aload X0.here hx rfl (hb hby at_161) rfl rfl ?_
        show Steps p.tables e below (T0.setTop (mkF m 163 #[.val (.int i0), .val (.int i1), .val (.long j2), .second, .val (.int i4), .val (.int i5), .val (.int (3 : Int32)), .val (.int (4 : Int32)), .val (.ref o8)] [(.ref o8)])) _
        refine XS.iload X0.here hx rfl (hb hby at_163) rfl ?_
        show Steps p.tables e below (T0.setTop (mkF m 165 #[.val (.int i0), .val (.int i1), .val (.long j2), .second, .val (.int i4), .val (.int i5), .val (.int (3 : Int32)), .val (.int (4 : Int32)), .val (.ref o8)] [(.int (3 : Int32)), (.ref o8)])) _
        refine XS.iload X0.here hx rfl (hb hby at_165) rfl ?_
        show Steps p.tables e below (T0.setTop (mkF m 167 #[.val (.int i0), .val (.int i1), .val (.long j2), .second, .val (.int i4), .val (.int i5), .val (.int (3 : Int32)), .val (.int (4 : Int32)), .val (.ref o8)] [(.int i5), (.int (3 : Int32)), (.ref o8)])) _
        refine XS.iconst X0.here hx rfl (hb hby at_167) ?_
        show Steps p.tables e below (T0.setTop (mkF m 168 #[.val (.int i0), .val (.int i1), .val (.long j2), .second, .val (.int i4), .val (.int i5), .val (.int (3 : Int32)), .val (.int (4 : Int32)), .val (.ref o8)] [(.int (0 : Int32)), (.int i5), (.int (3 : Int32)), (.ref o8)])) _
        refine XS.iload X0.here hx rfl (hb hby at_168) rfl ?_
        exact kt
      obtain ⟨_, _, ⟨T222, L222, k222, n222⟩, -, X222, ⟨Lc222, hQ222, l222, y222, z222⟩, st222⟩ := Jvm.LawKit.callS X0 hx (y := (⟨"hotstate/sort/VarIntsReadPinLaw", "enc", "(III)B"⟩ : MethodName)) hown (mvT hZ (hw _ (List.mem_of_getElem? (i := 2) rfl))) (mvT hZ (hw _ (List.mem_of_getElem? (i := 3) rfl))) (mvT hZ (hw _ (List.mem_of_getElem? (i := 4) rfl))) (mvT hZ (hw _ (List.mem_of_getElem? (i := 5) rfl))) (by decide) (backOf (W := 2) (rm1 l Z a0 hw [] i5 (0 : Int32) (4 : Int32)  h0 n0 ) hZ (hw _ (List.mem_of_getElem? (i := 5) rfl)) (hw _ (List.mem_of_getElem? (i := 4) rfl)) (by decide) (by decide)) (g := (mkF m 170 #[.val (.int i0), .val (.int i1), .val (.long j2), .second, .val (.int i4), .val (.int i5), .val (.int (3 : Int32)), .val (.int (4 : Int32)), .val (.ref o8)] [(.int (4 : Int32)), (.int (0 : Int32)), (.int i5), (.int (3 : Int32)), (.ref o8)])) rfl (by rw [hml]; rfl) (argsL := [(.int i5), (.int (0 : Int32)), (.int (4 : Int32))]) (rest := [(.int (3 : Int32)), (.ref o8)]) (lenOf pd1 rfl) rfl (by show 2 * 0 + _ ≤ _; exact Nat.le_of_eq rfl) (hb hby at_170) (fun _ _ => ⟨rfl, e0, (by decide : 1 + 0 ≤ _), (by decide : 9 + 0 ≤ _)⟩)
      dsimp only [Pt.U, Pt.locs, Pt.cells, Pt.slots] at X222 l222 y222 z222 st222 hQ222
      subst l222 y222 z222
      obtain ⟨rfl, Nq222, e222⟩ := hQ222
      have N222 := Fr.app N0 Nq222
      refine own_step (T' := T222) (f' := (mkF m 173 #[.val (.int i0), .val (.int i1), .val (.long j2), .second, .val (.int i4), .val (.int i5), .val (.int (3 : Int32)), .val (.int (4 : Int32)), .val (.ref o8)] [(.int (f1_0 i5 (0 : Int32) (4 : Int32))), (.int (3 : Int32)), (.ref o8)])) st222 ?_
      obtain ⟨T223, h223, Lq223, X223, N223, e223, W223, Z223, Aq223, st223⟩ := own_stB X222 hx hZ e222 Ao8 (j := (3 : Int32)) (by decide) (k := 3) (by decide) (Nat.le_of_ble_eq_true rfl) N222 go8 Z0 (g := (mkF m 173 #[.val (.int i0), .val (.int i1), .val (.long j2), .second, .val (.int i4), .val (.int i5), .val (.int (3 : Int32)), .val (.int (4 : Int32)), .val (.ref o8)] [(.int (f1_0 i5 (0 : Int32) (4 : Int32))), (.int (3 : Int32)), (.ref o8)])) rfl rfl (hb hby at_173)
      have Ao8_223 : own_A Z h223 o8 .byte [(.int xo8_0), (.int xo8_1), (.int xo8_2), (.int (nar .byte (f1_0 i5 (0 : Int32) (4 : Int32)))), (.int xo8_4), (.int xo8_5), (.int xo8_6), (.int xo8_7), (.int xo8_8)] := Aq223
      refine own_step (T' := T223) (f' := (mkF m 174 #[.val (.int i0), .val (.int i1), .val (.long j2), .second, .val (.int i4), .val (.int i5), .val (.int (3 : Int32)), .val (.int (4 : Int32)), .val (.ref o8)] [])) st223 ?_
      refine own_step (T' := T223) (f' := (mkF m 177 #[.val (.int i0), .val (.int i1), .val (.long j2), .second, .val (.int i4), .val (.int i5), .val (.int (3 : Int32)), .val (.int (4 : Int32)), .val (.ref o8)] [(.int (1 : Int32)), (.int (4 : Int32))])) (fun t kt => ?_) ?_
      · show Steps p.tables e below (T223.setTop (mkF m 174 #[.val (.int i0), .val (.int i1), .val (.long j2), .second, .val (.int i4), .val (.int i5), .val (.int (3 : Int32)), .val (.int (4 : Int32)), .val (.ref o8)] [])) _
        refine XS.iload X223.here hx rfl (hb hby at_174) rfl ?_
        show Steps p.tables e below (T223.setTop (mkF m 176 #[.val (.int i0), .val (.int i1), .val (.long j2), .second, .val (.int i4), .val (.int i5), .val (.int (3 : Int32)), .val (.int (4 : Int32)), .val (.ref o8)] [(.int (4 : Int32))])) _
        refine XS.iconst X223.here hx rfl (hb hby at_176) ?_
        exact kt
      refine own_step (T' := T223) (f' := (mkF m 180 #[.val (.int i0), .val (.int i1), .val (.long j2), .second, .val (.int i4), .val (.int i5), .val (.int (3 : Int32)), .val (.int (4 : Int32)), .val (.ref o8)] [])) (fun t kt => ?_) ?_
      · show Steps p.tables e below (T223.setTop (mkF m 177 #[.val (.int i0), .val (.int i1), .val (.long j2), .second, .val (.int i4), .val (.int i5), .val (.int (3 : Int32)), .val (.int (4 : Int32)), .val (.ref o8)] [(.int (1 : Int32)), (.int (4 : Int32))])) _
        refine XS.icmpNo X223.here hx rfl (hb hby at_177) rfl (tlt (by decide : ((1 : Int32) < (4 : Int32)))).2.2.2 kt
      refine own_step (T' := T223) (f' := (mkF m 191 #[.val (.int i0), .val (.int i1), .val (.long j2), .second, .val (.int i4), .val (.int i5), .val (.int (3 : Int32)), .val (.int (4 : Int32)), .val (.ref o8)] [(.int (4 : Int32)), (.int (1 : Int32)), (.int i5), (.int (4 : Int32)), (.ref o8)])) (fun t kt => ?_) ?_
      · show Steps p.tables e below (T223.setTop (mkF m 180 #[.val (.int i0), .val (.int i1), .val (.long j2), .second, .val (.int i4), .val (.int i5), .val (.int (3 : Int32)), .val (.int (4 : Int32)), .val (.ref o8)] [])) _
        refine XS.aload X223.here hx rfl (hb hby at_180) rfl rfl ?_
        show Steps p.tables e below (T223.setTop (mkF m 182 #[.val (.int i0), .val (.int i1), .val (.long j2), .second, .val (.int i4), .val (.int i5), .val (.int (3 : Int32)), .val (.int (4 : Int32)), .val (.ref o8)] [(.ref o8)])) _
        refine XS.iload X223.here hx rfl (hb hby at_182) rfl ?_
        show Steps p.tables e below (T223.setTop (mkF m 184 #[.val (.int i0), .val (.int i1), .val (.long j2), .second, .val (.int i4), .val (.int i5), .val (.int (3 : Int32)), .val (.int (4 : Int32)), .val (.ref o8)] [(.int (3 : Int32)), (.ref o8)])) _
        refine XS.iconst X223.here hx rfl (hb hby at_184) ?_
        show Steps p.tables e below (T223.setTop (mkF m 185 #[.val (.int i0), .val (.int i1), .val (.long j2), .second, .val (.int i4), .val (.int i5), .val (.int (3 : Int32)), .val (.int (4 : Int32)), .val (.ref o8)] [(.int (1 : Int32)), (.int (3 : Int32)), (.ref o8)])) _
        refine XS.iadd X223.here hx rfl (hb hby at_185) rfl ?_
        show Steps p.tables e below (T223.setTop (mkF m 186 #[.val (.int i0), .val (.int i1), .val (.long j2), .second, .val (.int i4), .val (.int i5), .val (.int (3 : Int32)), .val (.int (4 : Int32)), .val (.ref o8)] [(.int (4 : Int32)), (.ref o8)])) _
        refine XS.iload X223.here hx rfl (hb hby at_186) rfl ?_
        show Steps p.tables e below (T223.setTop (mkF m 188 #[.val (.int i0), .val (.int i1), .val (.long j2), .second, .val (.int i4), .val (.int i5), .val (.int (3 : Int32)), .val (.int (4 : Int32)), .val (.ref o8)] [(.int i5), (.int (4 : Int32)), (.ref o8)])) _
        refine XS.iconst X223.here hx rfl (hb hby at_188) ?_
        show Steps p.tables e below (T223.setTop (mkF m 189 #[.val (.int i0), .val (.int i1), .val (.long j2), .second, .val (.int i4), .val (.int i5), .val (.int (3 : Int32)), .val (.int (4 : Int32)), .val (.ref o8)] [(.int (1 : Int32)), (.int i5), (.int (4 : Int32)), (.ref o8)])) _
        refine XS.iload X223.here hx rfl (hb hby at_189) rfl ?_
        exact kt
      obtain ⟨_, _, ⟨T225, L225, k225, n225⟩, -, X225, ⟨Lc225, hQ225, l225, y225, z225⟩, st225⟩ := Jvm.LawKit.callS X223 hx (y := (⟨"hotstate/sort/VarIntsReadPinLaw", "enc", "(III)B"⟩ : MethodName)) hown (mvT hZ (hw _ (List.mem_of_getElem? (i := 2) rfl))) (mvT hZ (hw _ (List.mem_of_getElem? (i := 3) rfl))) (mvT hZ (hw _ (List.mem_of_getElem? (i := 4) rfl))) (mvT hZ (hw _ (List.mem_of_getElem? (i := 5) rfl))) (by decide) (backOf (W := 2) (rm1 l Z a0 hw [] i5 (1 : Int32) (4 : Int32)  h223 n0 ) hZ (hw _ (List.mem_of_getElem? (i := 5) rfl)) (hw _ (List.mem_of_getElem? (i := 4) rfl)) (by decide) (by decide)) (g := (mkF m 191 #[.val (.int i0), .val (.int i1), .val (.long j2), .second, .val (.int i4), .val (.int i5), .val (.int (3 : Int32)), .val (.int (4 : Int32)), .val (.ref o8)] [(.int (4 : Int32)), (.int (1 : Int32)), (.int i5), (.int (4 : Int32)), (.ref o8)])) rfl (by rw [hml]; rfl) (argsL := [(.int i5), (.int (1 : Int32)), (.int (4 : Int32))]) (rest := [(.int (4 : Int32)), (.ref o8)]) (lenOf pd1 rfl) rfl (by show 2 * 0 + _ ≤ _; exact Nat.le_of_eq rfl) (hb hby at_191) (fun _ _ => ⟨rfl, e223, (by decide : 1 + 0 ≤ _), (by decide : 9 + 0 ≤ _)⟩)
      dsimp only [Pt.U, Pt.locs, Pt.cells, Pt.slots] at X225 l225 y225 z225 st225 hQ225
      subst l225 y225 z225
      obtain ⟨rfl, Nq225, e225⟩ := hQ225
      have N225 := Fr.app N223 Nq225
      refine own_step (T' := T225) (f' := (mkF m 194 #[.val (.int i0), .val (.int i1), .val (.long j2), .second, .val (.int i4), .val (.int i5), .val (.int (3 : Int32)), .val (.int (4 : Int32)), .val (.ref o8)] [(.int (f1_0 i5 (1 : Int32) (4 : Int32))), (.int (4 : Int32)), (.ref o8)])) st225 ?_
      obtain ⟨T226, h226, Lq226, X226, N226, e226, W226, Z226, Aq226, st226⟩ := own_stB X225 hx hZ e225 Ao8_223 (j := (4 : Int32)) (by decide) (k := 4) (by decide) (Nat.le_of_ble_eq_true rfl) N225 go8 Z223 (g := (mkF m 194 #[.val (.int i0), .val (.int i1), .val (.long j2), .second, .val (.int i4), .val (.int i5), .val (.int (3 : Int32)), .val (.int (4 : Int32)), .val (.ref o8)] [(.int (f1_0 i5 (1 : Int32) (4 : Int32))), (.int (4 : Int32)), (.ref o8)])) rfl rfl (hb hby at_194)
      have Ao8_226 : own_A Z h226 o8 .byte [(.int xo8_0), (.int xo8_1), (.int xo8_2), (.int (nar .byte (f1_0 i5 (0 : Int32) (4 : Int32)))), (.int (nar .byte (f1_0 i5 (1 : Int32) (4 : Int32)))), (.int xo8_5), (.int xo8_6), (.int xo8_7), (.int xo8_8)] := Aq226
      refine own_step (T' := T226) (f' := (mkF m 195 #[.val (.int i0), .val (.int i1), .val (.long j2), .second, .val (.int i4), .val (.int i5), .val (.int (3 : Int32)), .val (.int (4 : Int32)), .val (.ref o8)] [])) st226 ?_
      refine own_step (T' := T226) (f' := (mkF m 198 #[.val (.int i0), .val (.int i1), .val (.long j2), .second, .val (.int i4), .val (.int i5), .val (.int (3 : Int32)), .val (.int (4 : Int32)), .val (.ref o8)] [(.int (2 : Int32)), (.int (4 : Int32))])) (fun t kt => ?_) ?_
      · show Steps p.tables e below (T226.setTop (mkF m 195 #[.val (.int i0), .val (.int i1), .val (.long j2), .second, .val (.int i4), .val (.int i5), .val (.int (3 : Int32)), .val (.int (4 : Int32)), .val (.ref o8)] [])) _
        refine XS.iload X226.here hx rfl (hb hby at_195) rfl ?_
        show Steps p.tables e below (T226.setTop (mkF m 197 #[.val (.int i0), .val (.int i1), .val (.long j2), .second, .val (.int i4), .val (.int i5), .val (.int (3 : Int32)), .val (.int (4 : Int32)), .val (.ref o8)] [(.int (4 : Int32))])) _
        refine XS.iconst X226.here hx rfl (hb hby at_197) ?_
        exact kt
      refine own_step (T' := T226) (f' := (mkF m 201 #[.val (.int i0), .val (.int i1), .val (.long j2), .second, .val (.int i4), .val (.int i5), .val (.int (3 : Int32)), .val (.int (4 : Int32)), .val (.ref o8)] [])) (fun t kt => ?_) ?_
      · show Steps p.tables e below (T226.setTop (mkF m 198 #[.val (.int i0), .val (.int i1), .val (.long j2), .second, .val (.int i4), .val (.int i5), .val (.int (3 : Int32)), .val (.int (4 : Int32)), .val (.ref o8)] [(.int (2 : Int32)), (.int (4 : Int32))])) _
        refine XS.icmpNo X226.here hx rfl (hb hby at_198) rfl (tlt (by decide : ((2 : Int32) < (4 : Int32)))).2.2.2 kt
      refine own_step (T' := T226) (f' := (mkF m 212 #[.val (.int i0), .val (.int i1), .val (.long j2), .second, .val (.int i4), .val (.int i5), .val (.int (3 : Int32)), .val (.int (4 : Int32)), .val (.ref o8)] [(.int (4 : Int32)), (.int (2 : Int32)), (.int i5), (.int (5 : Int32)), (.ref o8)])) (fun t kt => ?_) ?_
      · show Steps p.tables e below (T226.setTop (mkF m 201 #[.val (.int i0), .val (.int i1), .val (.long j2), .second, .val (.int i4), .val (.int i5), .val (.int (3 : Int32)), .val (.int (4 : Int32)), .val (.ref o8)] [])) _
        refine XS.aload X226.here hx rfl (hb hby at_201) rfl rfl ?_
        show Steps p.tables e below (T226.setTop (mkF m 203 #[.val (.int i0), .val (.int i1), .val (.long j2), .second, .val (.int i4), .val (.int i5), .val (.int (3 : Int32)), .val (.int (4 : Int32)), .val (.ref o8)] [(.ref o8)])) _
        refine XS.iload X226.here hx rfl (hb hby at_203) rfl ?_
        show Steps p.tables e below (T226.setTop (mkF m 205 #[.val (.int i0), .val (.int i1), .val (.long j2), .second, .val (.int i4), .val (.int i5), .val (.int (3 : Int32)), .val (.int (4 : Int32)), .val (.ref o8)] [(.int (3 : Int32)), (.ref o8)])) _
        refine XS.iconst X226.here hx rfl (hb hby at_205) ?_
        show Steps p.tables e below (T226.setTop (mkF m 206 #[.val (.int i0), .val (.int i1), .val (.long j2), .second, .val (.int i4), .val (.int i5), .val (.int (3 : Int32)), .val (.int (4 : Int32)), .val (.ref o8)] [(.int (2 : Int32)), (.int (3 : Int32)), (.ref o8)])) _
        refine XS.iadd X226.here hx rfl (hb hby at_206) rfl ?_
        show Steps p.tables e below (T226.setTop (mkF m 207 #[.val (.int i0), .val (.int i1), .val (.long j2), .second, .val (.int i4), .val (.int i5), .val (.int (3 : Int32)), .val (.int (4 : Int32)), .val (.ref o8)] [(.int (5 : Int32)), (.ref o8)])) _
        refine XS.iload X226.here hx rfl (hb hby at_207) rfl ?_
        show Steps p.tables e below (T226.setTop (mkF m 209 #[.val (.int i0), .val (.int i1), .val (.long j2), .second, .val (.int i4), .val (.int i5), .val (.int (3 : Int32)), .val (.int (4 : Int32)), .val (.ref o8)] [(.int i5), (.int (5 : Int32)), (.ref o8)])) _
        refine XS.iconst X226.here hx rfl (hb hby at_209) ?_
        show Steps p.tables e below (T226.setTop (mkF m 210 #[.val (.int i0), .val (.int i1), .val (.long j2), .second, .val (.int i4), .val (.int i5), .val (.int (3 : Int32)), .val (.int (4 : Int32)), .val (.ref o8)] [(.int (2 : Int32)), (.int i5), (.int (5 : Int32)), (.ref o8)])) _
        refine XS.iload X226.here hx rfl (hb hby at_210) rfl ?_
        exact kt
      obtain ⟨_, _, ⟨T228, L228, k228, n228⟩, -, X228, ⟨Lc228, hQ228, l228, y228, z228⟩, st228⟩ := Jvm.LawKit.callS X226 hx (y := (⟨"hotstate/sort/VarIntsReadPinLaw", "enc", "(III)B"⟩ : MethodName)) hown (mvT hZ (hw _ (List.mem_of_getElem? (i := 2) rfl))) (mvT hZ (hw _ (List.mem_of_getElem? (i := 3) rfl))) (mvT hZ (hw _ (List.mem_of_getElem? (i := 4) rfl))) (mvT hZ (hw _ (List.mem_of_getElem? (i := 5) rfl))) (by decide) (backOf (W := 2) (rm1 l Z a0 hw [] i5 (2 : Int32) (4 : Int32)  h226 n0 ) hZ (hw _ (List.mem_of_getElem? (i := 5) rfl)) (hw _ (List.mem_of_getElem? (i := 4) rfl)) (by decide) (by decide)) (g := (mkF m 212 #[.val (.int i0), .val (.int i1), .val (.long j2), .second, .val (.int i4), .val (.int i5), .val (.int (3 : Int32)), .val (.int (4 : Int32)), .val (.ref o8)] [(.int (4 : Int32)), (.int (2 : Int32)), (.int i5), (.int (5 : Int32)), (.ref o8)])) rfl (by rw [hml]; rfl) (argsL := [(.int i5), (.int (2 : Int32)), (.int (4 : Int32))]) (rest := [(.int (5 : Int32)), (.ref o8)]) (lenOf pd1 rfl) rfl (by show 2 * 0 + _ ≤ _; exact Nat.le_of_eq rfl) (hb hby at_212) (fun _ _ => ⟨rfl, e226, (by decide : 1 + 0 ≤ _), (by decide : 9 + 0 ≤ _)⟩)
      dsimp only [Pt.U, Pt.locs, Pt.cells, Pt.slots] at X228 l228 y228 z228 st228 hQ228
      subst l228 y228 z228
      obtain ⟨rfl, Nq228, e228⟩ := hQ228
      have N228 := Fr.app N226 Nq228
      refine own_step (T' := T228) (f' := (mkF m 215 #[.val (.int i0), .val (.int i1), .val (.long j2), .second, .val (.int i4), .val (.int i5), .val (.int (3 : Int32)), .val (.int (4 : Int32)), .val (.ref o8)] [(.int (f1_0 i5 (2 : Int32) (4 : Int32))), (.int (5 : Int32)), (.ref o8)])) st228 ?_
      obtain ⟨T229, h229, Lq229, X229, N229, e229, W229, Z229, Aq229, st229⟩ := own_stB X228 hx hZ e228 Ao8_226 (j := (5 : Int32)) (by decide) (k := 5) (by decide) (Nat.le_of_ble_eq_true rfl) N228 go8 Z226 (g := (mkF m 215 #[.val (.int i0), .val (.int i1), .val (.long j2), .second, .val (.int i4), .val (.int i5), .val (.int (3 : Int32)), .val (.int (4 : Int32)), .val (.ref o8)] [(.int (f1_0 i5 (2 : Int32) (4 : Int32))), (.int (5 : Int32)), (.ref o8)])) rfl rfl (hb hby at_215)
      have Ao8_229 : own_A Z h229 o8 .byte [(.int xo8_0), (.int xo8_1), (.int xo8_2), (.int (nar .byte (f1_0 i5 (0 : Int32) (4 : Int32)))), (.int (nar .byte (f1_0 i5 (1 : Int32) (4 : Int32)))), (.int (nar .byte (f1_0 i5 (2 : Int32) (4 : Int32)))), (.int xo8_6), (.int xo8_7), (.int xo8_8)] := Aq229
      refine own_step (T' := T229) (f' := (mkF m 216 #[.val (.int i0), .val (.int i1), .val (.long j2), .second, .val (.int i4), .val (.int i5), .val (.int (3 : Int32)), .val (.int (4 : Int32)), .val (.ref o8)] [])) st229 ?_
      refine own_step (T' := T229) (f' := (mkF m 219 #[.val (.int i0), .val (.int i1), .val (.long j2), .second, .val (.int i4), .val (.int i5), .val (.int (3 : Int32)), .val (.int (4 : Int32)), .val (.ref o8)] [(.int (3 : Int32)), (.int (4 : Int32))])) (fun t kt => ?_) ?_
      · show Steps p.tables e below (T229.setTop (mkF m 216 #[.val (.int i0), .val (.int i1), .val (.long j2), .second, .val (.int i4), .val (.int i5), .val (.int (3 : Int32)), .val (.int (4 : Int32)), .val (.ref o8)] [])) _
        refine XS.iload X229.here hx rfl (hb hby at_216) rfl ?_
        show Steps p.tables e below (T229.setTop (mkF m 218 #[.val (.int i0), .val (.int i1), .val (.long j2), .second, .val (.int i4), .val (.int i5), .val (.int (3 : Int32)), .val (.int (4 : Int32)), .val (.ref o8)] [(.int (4 : Int32))])) _
        refine XS.iconst X229.here hx rfl (hb hby at_218) ?_
        exact kt
      refine own_step (T' := T229) (f' := (mkF m 222 #[.val (.int i0), .val (.int i1), .val (.long j2), .second, .val (.int i4), .val (.int i5), .val (.int (3 : Int32)), .val (.int (4 : Int32)), .val (.ref o8)] [])) (fun t kt => ?_) ?_
      · show Steps p.tables e below (T229.setTop (mkF m 219 #[.val (.int i0), .val (.int i1), .val (.long j2), .second, .val (.int i4), .val (.int i5), .val (.int (3 : Int32)), .val (.int (4 : Int32)), .val (.ref o8)] [(.int (3 : Int32)), (.int (4 : Int32))])) _
        refine XS.icmpNo X229.here hx rfl (hb hby at_219) rfl (tlt (by decide : ((3 : Int32) < (4 : Int32)))).2.2.2 kt
      refine own_step (T' := T229) (f' := (mkF m 233 #[.val (.int i0), .val (.int i1), .val (.long j2), .second, .val (.int i4), .val (.int i5), .val (.int (3 : Int32)), .val (.int (4 : Int32)), .val (.ref o8)] [(.int (4 : Int32)), (.int (3 : Int32)), (.int i5), (.int (6 : Int32)), (.ref o8)])) (fun t kt => ?_) ?_
      · show Steps p.tables e below (T229.setTop (mkF m 222 #[.val (.int i0), .val (.int i1), .val (.long j2), .second, .val (.int i4), .val (.int i5), .val (.int (3 : Int32)), .val (.int (4 : Int32)), .val (.ref o8)] [])) _
        refine XS.aload X229.here hx rfl (hb hby at_222) rfl rfl ?_
        show Steps p.tables e below (T229.setTop (mkF m 224 #[.val (.int i0), .val (.int i1), .val (.long j2), .second, .val (.int i4), .val (.int i5), .val (.int (3 : Int32)), .val (.int (4 : Int32)), .val (.ref o8)] [(.ref o8)])) _
        refine XS.iload X229.here hx rfl (hb hby at_224) rfl ?_
        show Steps p.tables e below (T229.setTop (mkF m 226 #[.val (.int i0), .val (.int i1), .val (.long j2), .second, .val (.int i4), .val (.int i5), .val (.int (3 : Int32)), .val (.int (4 : Int32)), .val (.ref o8)] [(.int (3 : Int32)), (.ref o8)])) _
        refine XS.iconst X229.here hx rfl (hb hby at_226) ?_
        show Steps p.tables e below (T229.setTop (mkF m 227 #[.val (.int i0), .val (.int i1), .val (.long j2), .second, .val (.int i4), .val (.int i5), .val (.int (3 : Int32)), .val (.int (4 : Int32)), .val (.ref o8)] [(.int (3 : Int32)), (.int (3 : Int32)), (.ref o8)])) _
        refine XS.iadd X229.here hx rfl (hb hby at_227) rfl ?_
        show Steps p.tables e below (T229.setTop (mkF m 228 #[.val (.int i0), .val (.int i1), .val (.long j2), .second, .val (.int i4), .val (.int i5), .val (.int (3 : Int32)), .val (.int (4 : Int32)), .val (.ref o8)] [(.int (6 : Int32)), (.ref o8)])) _
        refine XS.iload X229.here hx rfl (hb hby at_228) rfl ?_
        show Steps p.tables e below (T229.setTop (mkF m 230 #[.val (.int i0), .val (.int i1), .val (.long j2), .second, .val (.int i4), .val (.int i5), .val (.int (3 : Int32)), .val (.int (4 : Int32)), .val (.ref o8)] [(.int i5), (.int (6 : Int32)), (.ref o8)])) _
        refine XS.iconst X229.here hx rfl (hb hby at_230) ?_
        show Steps p.tables e below (T229.setTop (mkF m 231 #[.val (.int i0), .val (.int i1), .val (.long j2), .second, .val (.int i4), .val (.int i5), .val (.int (3 : Int32)), .val (.int (4 : Int32)), .val (.ref o8)] [(.int (3 : Int32)), (.int i5), (.int (6 : Int32)), (.ref o8)])) _
        refine XS.iload X229.here hx rfl (hb hby at_231) rfl ?_
        exact kt
      obtain ⟨_, _, ⟨T231, L231, k231, n231⟩, -, X231, ⟨Lc231, hQ231, l231, y231, z231⟩, st231⟩ := Jvm.LawKit.callS X229 hx (y := (⟨"hotstate/sort/VarIntsReadPinLaw", "enc", "(III)B"⟩ : MethodName)) hown (mvT hZ (hw _ (List.mem_of_getElem? (i := 2) rfl))) (mvT hZ (hw _ (List.mem_of_getElem? (i := 3) rfl))) (mvT hZ (hw _ (List.mem_of_getElem? (i := 4) rfl))) (mvT hZ (hw _ (List.mem_of_getElem? (i := 5) rfl))) (by decide) (backOf (W := 2) (rm1 l Z a0 hw [] i5 (3 : Int32) (4 : Int32)  h229 n0 ) hZ (hw _ (List.mem_of_getElem? (i := 5) rfl)) (hw _ (List.mem_of_getElem? (i := 4) rfl)) (by decide) (by decide)) (g := (mkF m 233 #[.val (.int i0), .val (.int i1), .val (.long j2), .second, .val (.int i4), .val (.int i5), .val (.int (3 : Int32)), .val (.int (4 : Int32)), .val (.ref o8)] [(.int (4 : Int32)), (.int (3 : Int32)), (.int i5), (.int (6 : Int32)), (.ref o8)])) rfl (by rw [hml]; rfl) (argsL := [(.int i5), (.int (3 : Int32)), (.int (4 : Int32))]) (rest := [(.int (6 : Int32)), (.ref o8)]) (lenOf pd1 rfl) rfl (by show 2 * 0 + _ ≤ _; exact Nat.le_of_eq rfl) (hb hby at_233) (fun _ _ => ⟨rfl, e229, (by decide : 1 + 0 ≤ _), (by decide : 9 + 0 ≤ _)⟩)
      dsimp only [Pt.U, Pt.locs, Pt.cells, Pt.slots] at X231 l231 y231 z231 st231 hQ231
      subst l231 y231 z231
      obtain ⟨rfl, Nq231, e231⟩ := hQ231
      have N231 := Fr.app N229 Nq231
      refine own_step (T' := T231) (f' := (mkF m 236 #[.val (.int i0), .val (.int i1), .val (.long j2), .second, .val (.int i4), .val (.int i5), .val (.int (3 : Int32)), .val (.int (4 : Int32)), .val (.ref o8)] [(.int (f1_0 i5 (3 : Int32) (4 : Int32))), (.int (6 : Int32)), (.ref o8)])) st231 ?_
      obtain ⟨T232, h232, Lq232, X232, N232, e232, W232, Z232, Aq232, st232⟩ := own_stB X231 hx hZ e231 Ao8_229 (j := (6 : Int32)) (by decide) (k := 6) (by decide) (Nat.le_of_ble_eq_true rfl) N231 go8 Z229 (g := (mkF m 236 #[.val (.int i0), .val (.int i1), .val (.long j2), .second, .val (.int i4), .val (.int i5), .val (.int (3 : Int32)), .val (.int (4 : Int32)), .val (.ref o8)] [(.int (f1_0 i5 (3 : Int32) (4 : Int32))), (.int (6 : Int32)), (.ref o8)])) rfl rfl (hb hby at_236)
      have Ao8_232 : own_A Z h232 o8 .byte [(.int xo8_0), (.int xo8_1), (.int xo8_2), (.int (nar .byte (f1_0 i5 (0 : Int32) (4 : Int32)))), (.int (nar .byte (f1_0 i5 (1 : Int32) (4 : Int32)))), (.int (nar .byte (f1_0 i5 (2 : Int32) (4 : Int32)))), (.int (nar .byte (f1_0 i5 (3 : Int32) (4 : Int32)))), (.int xo8_7), (.int xo8_8)] := Aq232
      refine own_step (T' := T232) (f' := (mkF m 237 #[.val (.int i0), .val (.int i1), .val (.long j2), .second, .val (.int i4), .val (.int i5), .val (.int (3 : Int32)), .val (.int (4 : Int32)), .val (.ref o8)] [])) st232 ?_
      refine own_step (T' := T232) (f' := (mkF m 240 #[.val (.int i0), .val (.int i1), .val (.long j2), .second, .val (.int i4), .val (.int i5), .val (.int (3 : Int32)), .val (.int (4 : Int32)), .val (.ref o8)] [(.int (4 : Int32)), (.int (4 : Int32))])) (fun t kt => ?_) ?_
      · show Steps p.tables e below (T232.setTop (mkF m 237 #[.val (.int i0), .val (.int i1), .val (.long j2), .second, .val (.int i4), .val (.int i5), .val (.int (3 : Int32)), .val (.int (4 : Int32)), .val (.ref o8)] [])) _
        refine XS.iload X232.here hx rfl (hb hby at_237) rfl ?_
        show Steps p.tables e below (T232.setTop (mkF m 239 #[.val (.int i0), .val (.int i1), .val (.long j2), .second, .val (.int i4), .val (.int i5), .val (.int (3 : Int32)), .val (.int (4 : Int32)), .val (.ref o8)] [(.int (4 : Int32))])) _
        refine XS.iconst X232.here hx rfl (hb hby at_239) ?_
        exact kt
      refine own_step (T' := T232) (f' := (mkF m 258 #[.val (.int i0), .val (.int i1), .val (.long j2), .second, .val (.int i4), .val (.int i5), .val (.int (3 : Int32)), .val (.int (4 : Int32)), .val (.ref o8)] [])) (fun t kt => ?_) ?_
      · show Steps p.tables e below (T232.setTop (mkF m 240 #[.val (.int i0), .val (.int i1), .val (.long j2), .second, .val (.int i4), .val (.int i5), .val (.int (3 : Int32)), .val (.int (4 : Int32)), .val (.ref o8)] [(.int (4 : Int32)), (.int (4 : Int32))])) _
        refine XS.icmpYes X232.here hx rfl (pc0 := 240) (pc' := 258) rfl (hb hby at_240) rfl (flt (by decide : ¬ ((4 : Int32) < (4 : Int32)))).2.2.2 (by decide) (by decide) kt
      refine own_step (T' := T232) (f' := (mkF m 262 #[.val (.int i0), .val (.int i1), .val (.long j2), .second, .val (.int i4), .val (.int i5), .val (.int (3 : Int32)), .val (.int (4 : Int32)), .val (.ref o8)] [(.int (3 : Int32)), (.ref o8)])) (fun t kt => ?_) ?_
      · show Steps p.tables e below (T232.setTop (mkF m 258 #[.val (.int i0), .val (.int i1), .val (.long j2), .second, .val (.int i4), .val (.int i5), .val (.int (3 : Int32)), .val (.int (4 : Int32)), .val (.ref o8)] [])) _
        refine XS.aload X232.here hx rfl (hb hby at_258) rfl rfl ?_
        show Steps p.tables e below (T232.setTop (mkF m 260 #[.val (.int i0), .val (.int i1), .val (.long j2), .second, .val (.int i4), .val (.int i5), .val (.int (3 : Int32)), .val (.int (4 : Int32)), .val (.ref o8)] [(.ref o8)])) _
        refine XS.iload X232.here hx rfl (hb hby at_260) rfl ?_
        exact kt
      obtain ⟨_, _, ⟨T234, L234, k234, n234⟩, -, X234, ⟨Lc234, hQ234, l234, y234, z234⟩, st234⟩ := Jvm.LawKit.callS X232 hx (y := (⟨"hotstate/sort/VarInts", "read", "([BI)I"⟩ : MethodName)) hown (mvT hZ (hw _ (List.mem_of_getElem? (i := 6) rfl))) (mvT hZ (hw _ (List.mem_of_getElem? (i := 7) rfl))) (mvT hZ (hw _ (List.mem_of_getElem? (i := 8) rfl))) (mvT hZ (hw _ (List.mem_of_getElem? (i := 9) rfl))) (by decide) (backOf (W := 0) (rm2n4 l Z a0 hw [] o8 (3 : Int32) (nar .byte (f1_0 i5 (0 : Int32) (4 : Int32))) (nar .byte (f1_0 i5 (1 : Int32) (4 : Int32))) (nar .byte (f1_0 i5 (2 : Int32) (4 : Int32))) (nar .byte (f1_0 i5 (3 : Int32) (4 : Int32))) [(.int xo8_0), (.int xo8_1), (.int xo8_2), (.int (nar .byte (f1_0 i5 (0 : Int32) (4 : Int32)))), (.int (nar .byte (f1_0 i5 (1 : Int32) (4 : Int32)))), (.int (nar .byte (f1_0 i5 (2 : Int32) (4 : Int32)))), (.int (nar .byte (f1_0 i5 (3 : Int32) (4 : Int32)))), (.int xo8_7), (.int xo8_8)] h232 n0 Ao8_232 (by decide) rfl rfl rfl rfl (own_last4 i5)) hZ (hw _ (List.mem_of_getElem? (i := 9) rfl)) (hw _ (List.mem_of_getElem? (i := 8) rfl)) (by decide) (by decide)) (g := (mkF m 262 #[.val (.int i0), .val (.int i1), .val (.long j2), .second, .val (.int i4), .val (.int i5), .val (.int (3 : Int32)), .val (.int (4 : Int32)), .val (.ref o8)] [(.int (3 : Int32)), (.ref o8)])) rfl (by rw [hml]; rfl) (argsL := [(.ref o8), (.int (3 : Int32))]) (rest := []) (lenOf pd2 rfl) rfl (by show 2 * 0 + _ ≤ _; exact Nat.le_of_eq rfl) (hb hby at_262) (fun _ _ => ⟨rfl, e232, (by decide : 1 + 0 ≤ _), (by decide : 9 + 0 ≤ _)⟩)
      dsimp only [Pt.U, Pt.locs, Pt.cells, Pt.slots] at X234 l234 y234 z234 st234 hQ234
      subst l234 y234 z234
      obtain ⟨rfl, Nq234, e234⟩ := hQ234
      have N234 := Fr.app N232 Nq234
      refine own_step (T' := T234) (f' := (mkF m 265 #[.val (.int i0), .val (.int i1), .val (.long j2), .second, .val (.int i4), .val (.int i5), .val (.int (3 : Int32)), .val (.int (4 : Int32)), .val (.ref o8)] [(.int (f2n4_0 (3 : Int32) (nar .byte (f1_0 i5 (0 : Int32) (4 : Int32))) (nar .byte (f1_0 i5 (1 : Int32) (4 : Int32))) (nar .byte (f1_0 i5 (2 : Int32) (4 : Int32))) (nar .byte (f1_0 i5 (3 : Int32) (4 : Int32)))))])) st234 ?_
      refine own_step (T' := T234) (f' := (mkF m 267 #[.val (.int i0), .val (.int i1), .val (.long j2), .second, .val (.int i4), .val (.int i5), .val (.int (3 : Int32)), .val (.int (4 : Int32)), .val (.ref o8)] [(.int i5), (.int (f2n4_0 (3 : Int32) (nar .byte (f1_0 i5 (0 : Int32) (4 : Int32))) (nar .byte (f1_0 i5 (1 : Int32) (4 : Int32))) (nar .byte (f1_0 i5 (2 : Int32) (4 : Int32))) (nar .byte (f1_0 i5 (3 : Int32) (4 : Int32)))))])) (fun t kt => ?_) ?_
      · show Steps p.tables e below (T234.setTop (mkF m 265 #[.val (.int i0), .val (.int i1), .val (.long j2), .second, .val (.int i4), .val (.int i5), .val (.int (3 : Int32)), .val (.int (4 : Int32)), .val (.ref o8)] [(.int (f2n4_0 (3 : Int32) (nar .byte (f1_0 i5 (0 : Int32) (4 : Int32))) (nar .byte (f1_0 i5 (1 : Int32) (4 : Int32))) (nar .byte (f1_0 i5 (2 : Int32) (4 : Int32))) (nar .byte (f1_0 i5 (3 : Int32) (4 : Int32)))))])) _
        refine XS.iload X234.here hx rfl (hb hby at_265) rfl ?_
        exact kt
      by_cases hc267_235 : (f2n4_0 (3 : Int32) (nar .byte (f1_0 i5 (0 : Int32) (4 : Int32))) (nar .byte (f1_0 i5 (1 : Int32) (4 : Int32))) (nar .byte (f1_0 i5 (2 : Int32) (4 : Int32))) (nar .byte (f1_0 i5 (3 : Int32) (4 : Int32)))) = i5
      · replace hr := hr.trans (if_pos hc267_235)
        refine own_step (T' := T234) (f' := (mkF m 270 #[.val (.int i0), .val (.int i1), .val (.long j2), .second, .val (.int i4), .val (.int i5), .val (.int (3 : Int32)), .val (.int (4 : Int32)), .val (.ref o8)] [])) (fun t kt => ?_) ?_
        · show Steps p.tables e below (T234.setTop (mkF m 267 #[.val (.int i0), .val (.int i1), .val (.long j2), .second, .val (.int i4), .val (.int i5), .val (.int (3 : Int32)), .val (.int (4 : Int32)), .val (.ref o8)] [(.int i5), (.int (f2n4_0 (3 : Int32) (nar .byte (f1_0 i5 (0 : Int32) (4 : Int32))) (nar .byte (f1_0 i5 (1 : Int32) (4 : Int32))) (nar .byte (f1_0 i5 (2 : Int32) (4 : Int32))) (nar .byte (f1_0 i5 (3 : Int32) (4 : Int32)))))])) _
          refine XS.icmpNo X234.here hx rfl (hb hby at_267) rfl (teq hc267_235).2 kt
        refine own_step (T' := T234) (f' := (mkF m 275 #[.val (.int i0), .val (.int i1), .val (.long j2), .second, .val (.int i4), .val (.int i5), .val (.int (3 : Int32)), .val (.int (4 : Int32)), .val (.ref o8)] [(.int (1 : Int32))])) (fun t kt => ?_) ?_
        · show Steps p.tables e below (T234.setTop (mkF m 270 #[.val (.int i0), .val (.int i1), .val (.long j2), .second, .val (.int i4), .val (.int i5), .val (.int (3 : Int32)), .val (.int (4 : Int32)), .val (.ref o8)] [])) _
          refine XS.iconst X234.here hx rfl (hb hby at_270) ?_
          show Steps p.tables e below (T234.setTop (mkF m 271 #[.val (.int i0), .val (.int i1), .val (.long j2), .second, .val (.int i4), .val (.int i5), .val (.int (3 : Int32)), .val (.int (4 : Int32)), .val (.ref o8)] [(.int (1 : Int32))])) _
          refine XS.goto X234.here hx rfl (pc0 := 271) (pc' := 275) rfl (hb hby at_271) (by decide) (by decide) ?_
          exact kt
        exact own_retZ X234 hx hret (by simp) hlk (hb hby at_275) (by decide) (by decide) ⟨congrArg (fun z => some (Value.int z)) hr.symm, N234⟩
      · replace hr := hr.trans (if_neg hc267_235)
        refine own_step (T' := T234) (f' := (mkF m 274 #[.val (.int i0), .val (.int i1), .val (.long j2), .second, .val (.int i4), .val (.int i5), .val (.int (3 : Int32)), .val (.int (4 : Int32)), .val (.ref o8)] [])) (fun t kt => ?_) ?_
        · show Steps p.tables e below (T234.setTop (mkF m 267 #[.val (.int i0), .val (.int i1), .val (.long j2), .second, .val (.int i4), .val (.int i5), .val (.int (3 : Int32)), .val (.int (4 : Int32)), .val (.ref o8)] [(.int i5), (.int (f2n4_0 (3 : Int32) (nar .byte (f1_0 i5 (0 : Int32) (4 : Int32))) (nar .byte (f1_0 i5 (1 : Int32) (4 : Int32))) (nar .byte (f1_0 i5 (2 : Int32) (4 : Int32))) (nar .byte (f1_0 i5 (3 : Int32) (4 : Int32)))))])) _
          refine XS.icmpYes X234.here hx rfl (pc0 := 267) (pc' := 274) rfl (hb hby at_267) rfl (feq hc267_235).2 (by decide) (by decide) kt
        refine own_step (T' := T234) (f' := (mkF m 275 #[.val (.int i0), .val (.int i1), .val (.long j2), .second, .val (.int i4), .val (.int i5), .val (.int (3 : Int32)), .val (.int (4 : Int32)), .val (.ref o8)] [(.int (0 : Int32))])) (fun t kt => ?_) ?_
        · show Steps p.tables e below (T234.setTop (mkF m 274 #[.val (.int i0), .val (.int i1), .val (.long j2), .second, .val (.int i4), .val (.int i5), .val (.int (3 : Int32)), .val (.int (4 : Int32)), .val (.ref o8)] [])) _
          refine XS.iconst X234.here hx rfl (hb hby at_274) ?_
          exact kt
        exact own_retZ X234 hx hret (by simp) hlk (hb hby at_275) (by decide) (by decide) ⟨congrArg (fun z => some (Value.int z)) hr.symm, N234⟩
    · replace hr := hr.trans ((if_neg (by decide)).trans ((if_neg (by decide)).trans ((if_neg (by decide)).trans ((if_neg (by decide)).trans (if_pos rfl)))))
      refine own_step (T' := T0) (f' := (mkF m 170 #[.val (.int i0), .val (.int i1), .val (.long j2), .second, .val (.int i4), .val (.int i5), .val (.int (3 : Int32)), .val (.int (5 : Int32)), .val (.ref o8)] [(.int (5 : Int32)), (.int (0 : Int32)), (.int i5), (.int (3 : Int32)), (.ref o8)])) (fun t kt => ?_) ?_
      · show Steps p.tables e below (T0.setTop (mkF m 161 #[.val (.int i0), .val (.int i1), .val (.long j2), .second, .val (.int i4), .val (.int i5), .val (.int (3 : Int32)), .val (.int (5 : Int32)), .val (.ref o8)] [])) _
        refine XS.aload X0.here hx rfl (hb hby at_161) rfl rfl ?_
        show Steps p.tables e below (T0.setTop (mkF m 163 #[.val (.int i0), .val (.int i1), .val (.long j2), .second, .val (.int i4), .val (.int i5), .val (.int (3 : Int32)), .val (.int (5 : Int32)), .val (.ref o8)] [(.ref o8)])) _
        refine XS.iload X0.here hx rfl (hb hby at_163) rfl ?_
        show Steps p.tables e below (T0.setTop (mkF m 165 #[.val (.int i0), .val (.int i1), .val (.long j2), .second, .val (.int i4), .val (.int i5), .val (.int (3 : Int32)), .val (.int (5 : Int32)), .val (.ref o8)] [(.int (3 : Int32)), (.ref o8)])) _
        refine XS.iload X0.here hx rfl (hb hby at_165) rfl ?_
        show Steps p.tables e below (T0.setTop (mkF m 167 #[.val (.int i0), .val (.int i1), .val (.long j2), .second, .val (.int i4), .val (.int i5), .val (.int (3 : Int32)), .val (.int (5 : Int32)), .val (.ref o8)] [(.int i5), (.int (3 : Int32)), (.ref o8)])) _
        refine XS.iconst X0.here hx rfl (hb hby at_167) ?_
        show Steps p.tables e below (T0.setTop (mkF m 168 #[.val (.int i0), .val (.int i1), .val (.long j2), .second, .val (.int i4), .val (.int i5), .val (.int (3 : Int32)), .val (.int (5 : Int32)), .val (.ref o8)] [(.int (0 : Int32)), (.int i5), (.int (3 : Int32)), (.ref o8)])) _
        refine XS.iload X0.here hx rfl (hb hby at_168) rfl ?_
        exact kt
      obtain ⟨_, _, ⟨T236, L236, k236, n236⟩, -, X236, ⟨Lc236, hQ236, l236, y236, z236⟩, st236⟩ := Jvm.LawKit.callS X0 hx (y := (⟨"hotstate/sort/VarIntsReadPinLaw", "enc", "(III)B"⟩ : MethodName)) hown (mvT hZ (hw _ (List.mem_of_getElem? (i := 2) rfl))) (mvT hZ (hw _ (List.mem_of_getElem? (i := 3) rfl))) (mvT hZ (hw _ (List.mem_of_getElem? (i := 4) rfl))) (mvT hZ (hw _ (List.mem_of_getElem? (i := 5) rfl))) (by decide) (backOf (W := 2) (rm1 l Z a0 hw [] i5 (0 : Int32) (5 : Int32)  h0 n0 ) hZ (hw _ (List.mem_of_getElem? (i := 5) rfl)) (hw _ (List.mem_of_getElem? (i := 4) rfl)) (by decide) (by decide)) (g := (mkF m 170 #[.val (.int i0), .val (.int i1), .val (.long j2), .second, .val (.int i4), .val (.int i5), .val (.int (3 : Int32)), .val (.int (5 : Int32)), .val (.ref o8)] [(.int (5 : Int32)), (.int (0 : Int32)), (.int i5), (.int (3 : Int32)), (.ref o8)])) rfl (by rw [hml]; rfl) (argsL := [(.int i5), (.int (0 : Int32)), (.int (5 : Int32))]) (rest := [(.int (3 : Int32)), (.ref o8)]) (lenOf pd1 rfl) rfl (by show 2 * 0 + _ ≤ _; exact Nat.le_of_eq rfl) (hb hby at_170) (fun _ _ => ⟨rfl, e0, (by decide : 1 + 0 ≤ _), (by decide : 9 + 0 ≤ _)⟩)
      dsimp only [Pt.U, Pt.locs, Pt.cells, Pt.slots] at X236 l236 y236 z236 st236 hQ236
      subst l236 y236 z236
      obtain ⟨rfl, Nq236, e236⟩ := hQ236
      have N236 := Fr.app N0 Nq236
      refine own_step (T' := T236) (f' := (mkF m 173 #[.val (.int i0), .val (.int i1), .val (.long j2), .second, .val (.int i4), .val (.int i5), .val (.int (3 : Int32)), .val (.int (5 : Int32)), .val (.ref o8)] [(.int (f1_0 i5 (0 : Int32) (5 : Int32))), (.int (3 : Int32)), (.ref o8)])) st236 ?_
      obtain ⟨T237, h237, Lq237, X237, N237, e237, W237, Z237, Aq237, st237⟩ := own_stB X236 hx hZ e236 Ao8 (j := (3 : Int32)) (by decide) (k := 3) (by decide) (Nat.le_of_ble_eq_true rfl) N236 go8 Z0 (g := (mkF m 173 #[.val (.int i0), .val (.int i1), .val (.long j2), .second, .val (.int i4), .val (.int i5), .val (.int (3 : Int32)), .val (.int (5 : Int32)), .val (.ref o8)] [(.int (f1_0 i5 (0 : Int32) (5 : Int32))), (.int (3 : Int32)), (.ref o8)])) rfl rfl (hb hby at_173)
      have Ao8_237 : own_A Z h237 o8 .byte [(.int xo8_0), (.int xo8_1), (.int xo8_2), (.int (nar .byte (f1_0 i5 (0 : Int32) (5 : Int32)))), (.int xo8_4), (.int xo8_5), (.int xo8_6), (.int xo8_7), (.int xo8_8)] := Aq237
      refine own_step (T' := T237) (f' := (mkF m 174 #[.val (.int i0), .val (.int i1), .val (.long j2), .second, .val (.int i4), .val (.int i5), .val (.int (3 : Int32)), .val (.int (5 : Int32)), .val (.ref o8)] [])) st237 ?_
      refine own_step (T' := T237) (f' := (mkF m 177 #[.val (.int i0), .val (.int i1), .val (.long j2), .second, .val (.int i4), .val (.int i5), .val (.int (3 : Int32)), .val (.int (5 : Int32)), .val (.ref o8)] [(.int (1 : Int32)), (.int (5 : Int32))])) (fun t kt => ?_) ?_
      · show Steps p.tables e below (T237.setTop (mkF m 174 #[.val (.int i0), .val (.int i1), .val (.long j2), .second, .val (.int i4), .val (.int i5), .val (.int (3 : Int32)), .val (.int (5 : Int32)), .val (.ref o8)] [])) _
        refine XS.iload X237.here hx rfl (hb hby at_174) rfl ?_
        show Steps p.tables e below (T237.setTop (mkF m 176 #[.val (.int i0), .val (.int i1), .val (.long j2), .second, .val (.int i4), .val (.int i5), .val (.int (3 : Int32)), .val (.int (5 : Int32)), .val (.ref o8)] [(.int (5 : Int32))])) _
        refine XS.iconst X237.here hx rfl (hb hby at_176) ?_
        exact kt
      refine own_step (T' := T237) (f' := (mkF m 180 #[.val (.int i0), .val (.int i1), .val (.long j2), .second, .val (.int i4), .val (.int i5), .val (.int (3 : Int32)), .val (.int (5 : Int32)), .val (.ref o8)] [])) (fun t kt => ?_) ?_
      · show Steps p.tables e below (T237.setTop (mkF m 177 #[.val (.int i0), .val (.int i1), .val (.long j2), .second, .val (.int i4), .val (.int i5), .val (.int (3 : Int32)), .val (.int (5 : Int32)), .val (.ref o8)] [(.int (1 : Int32)), (.int (5 : Int32))])) _
        refine XS.icmpNo X237.here hx rfl (hb hby at_177) rfl (tlt (by decide : ((1 : Int32) < (5 : Int32)))).2.2.2 kt
      refine own_step (T' := T237) (f' := (mkF m 191 #[.val (.int i0), .val (.int i1), .val (.long j2), .second, .val (.int i4), .val (.int i5), .val (.int (3 : Int32)), .val (.int (5 : Int32)), .val (.ref o8)] [(.int (5 : Int32)), (.int (1 : Int32)), (.int i5), (.int (4 : Int32)), (.ref o8)])) (fun t kt => ?_) ?_
      · show Steps p.tables e below (T237.setTop (mkF m 180 #[.val (.int i0), .val (.int i1), .val (.long j2), .second, .val (.int i4), .val (.int i5), .val (.int (3 : Int32)), .val (.int (5 : Int32)), .val (.ref o8)] [])) _
        refine XS.aload X237.here hx rfl (hb hby at_180) rfl rfl ?_
        show Steps p.tables e below (T237.setTop (mkF m 182 #[.val (.int i0), .val (.int i1), .val (.long j2), .second, .val (.int i4), .val (.int i5), .val (.int (3 : Int32)), .val (.int (5 : Int32)), .val (.ref o8)] [(.ref o8)])) _
        refine XS.iload X237.here hx rfl (hb hby at_182) rfl ?_
        show Steps p.tables e below (T237.setTop (mkF m 184 #[.val (.int i0), .val (.int i1), .val (.long j2), .second, .val (.int i4), .val (.int i5), .val (.int (3 : Int32)), .val (.int (5 : Int32)), .val (.ref o8)] [(.int (3 : Int32)), (.ref o8)])) _
        refine XS.iconst X237.here hx rfl (hb hby at_184) ?_
        show Steps p.tables e below (T237.setTop (mkF m 185 #[.val (.int i0), .val (.int i1), .val (.long j2), .second, .val (.int i4), .val (.int i5), .val (.int (3 : Int32)), .val (.int (5 : Int32)), .val (.ref o8)] [(.int (1 : Int32)), (.int (3 : Int32)), (.ref o8)])) _
        refine XS.iadd X237.here hx rfl (hb hby at_185) rfl ?_
        show Steps p.tables e below (T237.setTop (mkF m 186 #[.val (.int i0), .val (.int i1), .val (.long j2), .second, .val (.int i4), .val (.int i5), .val (.int (3 : Int32)), .val (.int (5 : Int32)), .val (.ref o8)] [(.int (4 : Int32)), (.ref o8)])) _
        refine XS.iload X237.here hx rfl (hb hby at_186) rfl ?_
        show Steps p.tables e below (T237.setTop (mkF m 188 #[.val (.int i0), .val (.int i1), .val (.long j2), .second, .val (.int i4), .val (.int i5), .val (.int (3 : Int32)), .val (.int (5 : Int32)), .val (.ref o8)] [(.int i5), (.int (4 : Int32)), (.ref o8)])) _
        refine XS.iconst X237.here hx rfl (hb hby at_188) ?_
        show Steps p.tables e below (T237.setTop (mkF m 189 #[.val (.int i0), .val (.int i1), .val (.long j2), .second, .val (.int i4), .val (.int i5), .val (.int (3 : Int32)), .val (.int (5 : Int32)), .val (.ref o8)] [(.int (1 : Int32)), (.int i5), (.int (4 : Int32)), (.ref o8)])) _
        refine XS.iload X237.here hx rfl (hb hby at_189) rfl ?_
        exact kt
      obtain ⟨_, _, ⟨T239, L239, k239, n239⟩, -, X239, ⟨Lc239, hQ239, l239, y239, z239⟩, st239⟩ := Jvm.LawKit.callS X237 hx (y := (⟨"hotstate/sort/VarIntsReadPinLaw", "enc", "(III)B"⟩ : MethodName)) hown (mvT hZ (hw _ (List.mem_of_getElem? (i := 2) rfl))) (mvT hZ (hw _ (List.mem_of_getElem? (i := 3) rfl))) (mvT hZ (hw _ (List.mem_of_getElem? (i := 4) rfl))) (mvT hZ (hw _ (List.mem_of_getElem? (i := 5) rfl))) (by decide) (backOf (W := 2) (rm1 l Z a0 hw [] i5 (1 : Int32) (5 : Int32)  h237 n0 ) hZ (hw _ (List.mem_of_getElem? (i := 5) rfl)) (hw _ (List.mem_of_getElem? (i := 4) rfl)) (by decide) (by decide)) (g := (mkF m 191 #[.val (.int i0), .val (.int i1), .val (.long j2), .second, .val (.int i4), .val (.int i5), .val (.int (3 : Int32)), .val (.int (5 : Int32)), .val (.ref o8)] [(.int (5 : Int32)), (.int (1 : Int32)), (.int i5), (.int (4 : Int32)), (.ref o8)])) rfl (by rw [hml]; rfl) (argsL := [(.int i5), (.int (1 : Int32)), (.int (5 : Int32))]) (rest := [(.int (4 : Int32)), (.ref o8)]) (lenOf pd1 rfl) rfl (by show 2 * 0 + _ ≤ _; exact Nat.le_of_eq rfl) (hb hby at_191) (fun _ _ => ⟨rfl, e237, (by decide : 1 + 0 ≤ _), (by decide : 9 + 0 ≤ _)⟩)
      dsimp only [Pt.U, Pt.locs, Pt.cells, Pt.slots] at X239 l239 y239 z239 st239 hQ239
      subst l239 y239 z239
      obtain ⟨rfl, Nq239, e239⟩ := hQ239
      have N239 := Fr.app N237 Nq239
      refine own_step (T' := T239) (f' := (mkF m 194 #[.val (.int i0), .val (.int i1), .val (.long j2), .second, .val (.int i4), .val (.int i5), .val (.int (3 : Int32)), .val (.int (5 : Int32)), .val (.ref o8)] [(.int (f1_0 i5 (1 : Int32) (5 : Int32))), (.int (4 : Int32)), (.ref o8)])) st239 ?_
      obtain ⟨T240, h240, Lq240, X240, N240, e240, W240, Z240, Aq240, st240⟩ := own_stB X239 hx hZ e239 Ao8_237 (j := (4 : Int32)) (by decide) (k := 4) (by decide) (Nat.le_of_ble_eq_true rfl) N239 go8 Z237 (g := (mkF m 194 #[.val (.int i0), .val (.int i1), .val (.long j2), .second, .val (.int i4), .val (.int i5), .val (.int (3 : Int32)), .val (.int (5 : Int32)), .val (.ref o8)] [(.int (f1_0 i5 (1 : Int32) (5 : Int32))), (.int (4 : Int32)), (.ref o8)])) rfl rfl (hb hby at_194)
      have Ao8_240 : own_A Z h240 o8 .byte [(.int xo8_0), (.int xo8_1), (.int xo8_2), (.int (nar .byte (f1_0 i5 (0 : Int32) (5 : Int32)))), (.int (nar .byte (f1_0 i5 (1 : Int32) (5 : Int32)))), (.int xo8_5), (.int xo8_6), (.int xo8_7), (.int xo8_8)] := Aq240
      refine own_step (T' := T240) (f' := (mkF m 195 #[.val (.int i0), .val (.int i1), .val (.long j2), .second, .val (.int i4), .val (.int i5), .val (.int (3 : Int32)), .val (.int (5 : Int32)), .val (.ref o8)] [])) st240 ?_
      refine own_step (T' := T240) (f' := (mkF m 198 #[.val (.int i0), .val (.int i1), .val (.long j2), .second, .val (.int i4), .val (.int i5), .val (.int (3 : Int32)), .val (.int (5 : Int32)), .val (.ref o8)] [(.int (2 : Int32)), (.int (5 : Int32))])) (fun t kt => ?_) ?_
      · show Steps p.tables e below (T240.setTop (mkF m 195 #[.val (.int i0), .val (.int i1), .val (.long j2), .second, .val (.int i4), .val (.int i5), .val (.int (3 : Int32)), .val (.int (5 : Int32)), .val (.ref o8)] [])) _
        refine XS.iload X240.here hx rfl (hb hby at_195) rfl ?_
        show Steps p.tables e below (T240.setTop (mkF m 197 #[.val (.int i0), .val (.int i1), .val (.long j2), .second, .val (.int i4), .val (.int i5), .val (.int (3 : Int32)), .val (.int (5 : Int32)), .val (.ref o8)] [(.int (5 : Int32))])) _
        refine XS.iconst X240.here hx rfl (hb hby at_197) ?_
        exact kt
      refine own_step (T' := T240) (f' := (mkF m 201 #[.val (.int i0), .val (.int i1), .val (.long j2), .second, .val (.int i4), .val (.int i5), .val (.int (3 : Int32)), .val (.int (5 : Int32)), .val (.ref o8)] [])) (fun t kt => ?_) ?_
      · show Steps p.tables e below (T240.setTop (mkF m 198 #[.val (.int i0), .val (.int i1), .val (.long j2), .second, .val (.int i4), .val (.int i5), .val (.int (3 : Int32)), .val (.int (5 : Int32)), .val (.ref o8)] [(.int (2 : Int32)), (.int (5 : Int32))])) _
        refine XS.icmpNo X240.here hx rfl (hb hby at_198) rfl (tlt (by decide : ((2 : Int32) < (5 : Int32)))).2.2.2 kt
      refine own_step (T' := T240) (f' := (mkF m 212 #[.val (.int i0), .val (.int i1), .val (.long j2), .second, .val (.int i4), .val (.int i5), .val (.int (3 : Int32)), .val (.int (5 : Int32)), .val (.ref o8)] [(.int (5 : Int32)), (.int (2 : Int32)), (.int i5), (.int (5 : Int32)), (.ref o8)])) (fun t kt => ?_) ?_
      · show Steps p.tables e below (T240.setTop (mkF m 201 #[.val (.int i0), .val (.int i1), .val (.long j2), .second, .val (.int i4), .val (.int i5), .val (.int (3 : Int32)), .val (.int (5 : Int32)), .val (.ref o8)] [])) _
        refine XS.aload X240.here hx rfl (hb hby at_201) rfl rfl ?_
        show Steps p.tables e below (T240.setTop (mkF m 203 #[.val (.int i0), .val (.int i1), .val (.long j2), .second, .val (.int i4), .val (.int i5), .val (.int (3 : Int32)), .val (.int (5 : Int32)), .val (.ref o8)] [(.ref o8)])) _
        refine XS.iload X240.here hx rfl (hb hby at_203) rfl ?_
        show Steps p.tables e below (T240.setTop (mkF m 205 #[.val (.int i0), .val (.int i1), .val (.long j2), .second, .val (.int i4), .val (.int i5), .val (.int (3 : Int32)), .val (.int (5 : Int32)), .val (.ref o8)] [(.int (3 : Int32)), (.ref o8)])) _
        refine XS.iconst X240.here hx rfl (hb hby at_205) ?_
        show Steps p.tables e below (T240.setTop (mkF m 206 #[.val (.int i0), .val (.int i1), .val (.long j2), .second, .val (.int i4), .val (.int i5), .val (.int (3 : Int32)), .val (.int (5 : Int32)), .val (.ref o8)] [(.int (2 : Int32)), (.int (3 : Int32)), (.ref o8)])) _
        refine XS.iadd X240.here hx rfl (hb hby at_206) rfl ?_
        show Steps p.tables e below (T240.setTop (mkF m 207 #[.val (.int i0), .val (.int i1), .val (.long j2), .second, .val (.int i4), .val (.int i5), .val (.int (3 : Int32)), .val (.int (5 : Int32)), .val (.ref o8)] [(.int (5 : Int32)), (.ref o8)])) _
        refine XS.iload X240.here hx rfl (hb hby at_207) rfl ?_
        show Steps p.tables e below (T240.setTop (mkF m 209 #[.val (.int i0), .val (.int i1), .val (.long j2), .second, .val (.int i4), .val (.int i5), .val (.int (3 : Int32)), .val (.int (5 : Int32)), .val (.ref o8)] [(.int i5), (.int (5 : Int32)), (.ref o8)])) _
        refine XS.iconst X240.here hx rfl (hb hby at_209) ?_
        show Steps p.tables e below (T240.setTop (mkF m 210 #[.val (.int i0), .val (.int i1), .val (.long j2), .second, .val (.int i4), .val (.int i5), .val (.int (3 : Int32)), .val (.int (5 : Int32)), .val (.ref o8)] [(.int (2 : Int32)), (.int i5), (.int (5 : Int32)), (.ref o8)])) _
        refine XS.iload X240.here hx rfl (hb hby at_210) rfl ?_
        exact kt
      obtain ⟨_, _, ⟨T242, L242, k242, n242⟩, -, X242, ⟨Lc242, hQ242, l242, y242, z242⟩, st242⟩ := Jvm.LawKit.callS X240 hx (y := (⟨"hotstate/sort/VarIntsReadPinLaw", "enc", "(III)B"⟩ : MethodName)) hown (mvT hZ (hw _ (List.mem_of_getElem? (i := 2) rfl))) (mvT hZ (hw _ (List.mem_of_getElem? (i := 3) rfl))) (mvT hZ (hw _ (List.mem_of_getElem? (i := 4) rfl))) (mvT hZ (hw _ (List.mem_of_getElem? (i := 5) rfl))) (by decide) (backOf (W := 2) (rm1 l Z a0 hw [] i5 (2 : Int32) (5 : Int32)  h240 n0 ) hZ (hw _ (List.mem_of_getElem? (i := 5) rfl)) (hw _ (List.mem_of_getElem? (i := 4) rfl)) (by decide) (by decide)) (g := (mkF m 212 #[.val (.int i0), .val (.int i1), .val (.long j2), .second, .val (.int i4), .val (.int i5), .val (.int (3 : Int32)), .val (.int (5 : Int32)), .val (.ref o8)] [(.int (5 : Int32)), (.int (2 : Int32)), (.int i5), (.int (5 : Int32)), (.ref o8)])) rfl (by rw [hml]; rfl) (argsL := [(.int i5), (.int (2 : Int32)), (.int (5 : Int32))]) (rest := [(.int (5 : Int32)), (.ref o8)]) (lenOf pd1 rfl) rfl (by show 2 * 0 + _ ≤ _; exact Nat.le_of_eq rfl) (hb hby at_212) (fun _ _ => ⟨rfl, e240, (by decide : 1 + 0 ≤ _), (by decide : 9 + 0 ≤ _)⟩)
      dsimp only [Pt.U, Pt.locs, Pt.cells, Pt.slots] at X242 l242 y242 z242 st242 hQ242
      subst l242 y242 z242
      obtain ⟨rfl, Nq242, e242⟩ := hQ242
      have N242 := Fr.app N240 Nq242
      refine own_step (T' := T242) (f' := (mkF m 215 #[.val (.int i0), .val (.int i1), .val (.long j2), .second, .val (.int i4), .val (.int i5), .val (.int (3 : Int32)), .val (.int (5 : Int32)), .val (.ref o8)] [(.int (f1_0 i5 (2 : Int32) (5 : Int32))), (.int (5 : Int32)), (.ref o8)])) st242 ?_
      obtain ⟨T243, h243, Lq243, X243, N243, e243, W243, Z243, Aq243, st243⟩ := own_stB X242 hx hZ e242 Ao8_240 (j := (5 : Int32)) (by decide) (k := 5) (by decide) (Nat.le_of_ble_eq_true rfl) N242 go8 Z240 (g := (mkF m 215 #[.val (.int i0), .val (.int i1), .val (.long j2), .second, .val (.int i4), .val (.int i5), .val (.int (3 : Int32)), .val (.int (5 : Int32)), .val (.ref o8)] [(.int (f1_0 i5 (2 : Int32) (5 : Int32))), (.int (5 : Int32)), (.ref o8)])) rfl rfl (hb hby at_215)
      have Ao8_243 : own_A Z h243 o8 .byte [(.int xo8_0), (.int xo8_1), (.int xo8_2), (.int (nar .byte (f1_0 i5 (0 : Int32) (5 : Int32)))), (.int (nar .byte (f1_0 i5 (1 : Int32) (5 : Int32)))), (.int (nar .byte (f1_0 i5 (2 : Int32) (5 : Int32)))), (.int xo8_6), (.int xo8_7), (.int xo8_8)] := Aq243
      refine own_step (T' := T243) (f' := (mkF m 216 #[.val (.int i0), .val (.int i1), .val (.long j2), .second, .val (.int i4), .val (.int i5), .val (.int (3 : Int32)), .val (.int (5 : Int32)), .val (.ref o8)] [])) st243 ?_
      refine own_step (T' := T243) (f' := (mkF m 219 #[.val (.int i0), .val (.int i1), .val (.long j2), .second, .val (.int i4), .val (.int i5), .val (.int (3 : Int32)), .val (.int (5 : Int32)), .val (.ref o8)] [(.int (3 : Int32)), (.int (5 : Int32))])) (fun t kt => ?_) ?_
      · show Steps p.tables e below (T243.setTop (mkF m 216 #[.val (.int i0), .val (.int i1), .val (.long j2), .second, .val (.int i4), .val (.int i5), .val (.int (3 : Int32)), .val (.int (5 : Int32)), .val (.ref o8)] [])) _
        refine XS.iload X243.here hx rfl (hb hby at_216) rfl ?_
        show Steps p.tables e below (T243.setTop (mkF m 218 #[.val (.int i0), .val (.int i1), .val (.long j2), .second, .val (.int i4), .val (.int i5), .val (.int (3 : Int32)), .val (.int (5 : Int32)), .val (.ref o8)] [(.int (5 : Int32))])) _
        refine XS.iconst X243.here hx rfl (hb hby at_218) ?_
        exact kt
      refine own_step (T' := T243) (f' := (mkF m 222 #[.val (.int i0), .val (.int i1), .val (.long j2), .second, .val (.int i4), .val (.int i5), .val (.int (3 : Int32)), .val (.int (5 : Int32)), .val (.ref o8)] [])) (fun t kt => ?_) ?_
      · show Steps p.tables e below (T243.setTop (mkF m 219 #[.val (.int i0), .val (.int i1), .val (.long j2), .second, .val (.int i4), .val (.int i5), .val (.int (3 : Int32)), .val (.int (5 : Int32)), .val (.ref o8)] [(.int (3 : Int32)), (.int (5 : Int32))])) _
        refine XS.icmpNo X243.here hx rfl (hb hby at_219) rfl (tlt (by decide : ((3 : Int32) < (5 : Int32)))).2.2.2 kt
      refine own_step (T' := T243) (f' := (mkF m 233 #[.val (.int i0), .val (.int i1), .val (.long j2), .second, .val (.int i4), .val (.int i5), .val (.int (3 : Int32)), .val (.int (5 : Int32)), .val (.ref o8)] [(.int (5 : Int32)), (.int (3 : Int32)), (.int i5), (.int (6 : Int32)), (.ref o8)])) (fun t kt => ?_) ?_
      · show Steps p.tables e below (T243.setTop (mkF m 222 #[.val (.int i0), .val (.int i1), .val (.long j2), .second, .val (.int i4), .val (.int i5), .val (.int (3 : Int32)), .val (.int (5 : Int32)), .val (.ref o8)] [])) _
        refine XS.aload X243.here hx rfl (hb hby at_222) rfl rfl ?_
        show Steps p.tables e below (T243.setTop (mkF m 224 #[.val (.int i0), .val (.int i1), .val (.long j2), .second, .val (.int i4), .val (.int i5), .val (.int (3 : Int32)), .val (.int (5 : Int32)), .val (.ref o8)] [(.ref o8)])) _
        refine XS.iload X243.here hx rfl (hb hby at_224) rfl ?_
        show Steps p.tables e below (T243.setTop (mkF m 226 #[.val (.int i0), .val (.int i1), .val (.long j2), .second, .val (.int i4), .val (.int i5), .val (.int (3 : Int32)), .val (.int (5 : Int32)), .val (.ref o8)] [(.int (3 : Int32)), (.ref o8)])) _
        refine XS.iconst X243.here hx rfl (hb hby at_226) ?_
        show Steps p.tables e below (T243.setTop (mkF m 227 #[.val (.int i0), .val (.int i1), .val (.long j2), .second, .val (.int i4), .val (.int i5), .val (.int (3 : Int32)), .val (.int (5 : Int32)), .val (.ref o8)] [(.int (3 : Int32)), (.int (3 : Int32)), (.ref o8)])) _
        refine XS.iadd X243.here hx rfl (hb hby at_227) rfl ?_
        show Steps p.tables e below (T243.setTop (mkF m 228 #[.val (.int i0), .val (.int i1), .val (.long j2), .second, .val (.int i4), .val (.int i5), .val (.int (3 : Int32)), .val (.int (5 : Int32)), .val (.ref o8)] [(.int (6 : Int32)), (.ref o8)])) _
        refine XS.iload X243.here hx rfl (hb hby at_228) rfl ?_
        show Steps p.tables e below (T243.setTop (mkF m 230 #[.val (.int i0), .val (.int i1), .val (.long j2), .second, .val (.int i4), .val (.int i5), .val (.int (3 : Int32)), .val (.int (5 : Int32)), .val (.ref o8)] [(.int i5), (.int (6 : Int32)), (.ref o8)])) _
        refine XS.iconst X243.here hx rfl (hb hby at_230) ?_
        show Steps p.tables e below (T243.setTop (mkF m 231 #[.val (.int i0), .val (.int i1), .val (.long j2), .second, .val (.int i4), .val (.int i5), .val (.int (3 : Int32)), .val (.int (5 : Int32)), .val (.ref o8)] [(.int (3 : Int32)), (.int i5), (.int (6 : Int32)), (.ref o8)])) _
        refine XS.iload X243.here hx rfl (hb hby at_231) rfl ?_
        exact kt
      obtain ⟨_, _, ⟨T245, L245, k245, n245⟩, -, X245, ⟨Lc245, hQ245, l245, y245, z245⟩, st245⟩ := Jvm.LawKit.callS X243 hx (y := (⟨"hotstate/sort/VarIntsReadPinLaw", "enc", "(III)B"⟩ : MethodName)) hown (mvT hZ (hw _ (List.mem_of_getElem? (i := 2) rfl))) (mvT hZ (hw _ (List.mem_of_getElem? (i := 3) rfl))) (mvT hZ (hw _ (List.mem_of_getElem? (i := 4) rfl))) (mvT hZ (hw _ (List.mem_of_getElem? (i := 5) rfl))) (by decide) (backOf (W := 2) (rm1 l Z a0 hw [] i5 (3 : Int32) (5 : Int32)  h243 n0 ) hZ (hw _ (List.mem_of_getElem? (i := 5) rfl)) (hw _ (List.mem_of_getElem? (i := 4) rfl)) (by decide) (by decide)) (g := (mkF m 233 #[.val (.int i0), .val (.int i1), .val (.long j2), .second, .val (.int i4), .val (.int i5), .val (.int (3 : Int32)), .val (.int (5 : Int32)), .val (.ref o8)] [(.int (5 : Int32)), (.int (3 : Int32)), (.int i5), (.int (6 : Int32)), (.ref o8)])) rfl (by rw [hml]; rfl) (argsL := [(.int i5), (.int (3 : Int32)), (.int (5 : Int32))]) (rest := [(.int (6 : Int32)), (.ref o8)]) (lenOf pd1 rfl) rfl (by show 2 * 0 + _ ≤ _; exact Nat.le_of_eq rfl) (hb hby at_233) (fun _ _ => ⟨rfl, e243, (by decide : 1 + 0 ≤ _), (by decide : 9 + 0 ≤ _)⟩)
      dsimp only [Pt.U, Pt.locs, Pt.cells, Pt.slots] at X245 l245 y245 z245 st245 hQ245
      subst l245 y245 z245
      obtain ⟨rfl, Nq245, e245⟩ := hQ245
      have N245 := Fr.app N243 Nq245
      refine own_step (T' := T245) (f' := (mkF m 236 #[.val (.int i0), .val (.int i1), .val (.long j2), .second, .val (.int i4), .val (.int i5), .val (.int (3 : Int32)), .val (.int (5 : Int32)), .val (.ref o8)] [(.int (f1_0 i5 (3 : Int32) (5 : Int32))), (.int (6 : Int32)), (.ref o8)])) st245 ?_
      obtain ⟨T246, h246, Lq246, X246, N246, e246, W246, Z246, Aq246, st246⟩ := own_stB X245 hx hZ e245 Ao8_243 (j := (6 : Int32)) (by decide) (k := 6) (by decide) (Nat.le_of_ble_eq_true rfl) N245 go8 Z243 (g := (mkF m 236 #[.val (.int i0), .val (.int i1), .val (.long j2), .second, .val (.int i4), .val (.int i5), .val (.int (3 : Int32)), .val (.int (5 : Int32)), .val (.ref o8)] [(.int (f1_0 i5 (3 : Int32) (5 : Int32))), (.int (6 : Int32)), (.ref o8)])) rfl rfl (hb hby at_236)
      have Ao8_246 : own_A Z h246 o8 .byte [(.int xo8_0), (.int xo8_1), (.int xo8_2), (.int (nar .byte (f1_0 i5 (0 : Int32) (5 : Int32)))), (.int (nar .byte (f1_0 i5 (1 : Int32) (5 : Int32)))), (.int (nar .byte (f1_0 i5 (2 : Int32) (5 : Int32)))), (.int (nar .byte (f1_0 i5 (3 : Int32) (5 : Int32)))), (.int xo8_7), (.int xo8_8)] := Aq246
      refine own_step (T' := T246) (f' := (mkF m 237 #[.val (.int i0), .val (.int i1), .val (.long j2), .second, .val (.int i4), .val (.int i5), .val (.int (3 : Int32)), .val (.int (5 : Int32)), .val (.ref o8)] [])) st246 ?_
      refine own_step (T' := T246) (f' := (mkF m 240 #[.val (.int i0), .val (.int i1), .val (.long j2), .second, .val (.int i4), .val (.int i5), .val (.int (3 : Int32)), .val (.int (5 : Int32)), .val (.ref o8)] [(.int (4 : Int32)), (.int (5 : Int32))])) (fun t kt => ?_) ?_
      · show Steps p.tables e below (T246.setTop (mkF m 237 #[.val (.int i0), .val (.int i1), .val (.long j2), .second, .val (.int i4), .val (.int i5), .val (.int (3 : Int32)), .val (.int (5 : Int32)), .val (.ref o8)] [])) _
        refine XS.iload X246.here hx rfl (hb hby at_237) rfl ?_
        show Steps p.tables e below (T246.setTop (mkF m 239 #[.val (.int i0), .val (.int i1), .val (.long j2), .second, .val (.int i4), .val (.int i5), .val (.int (3 : Int32)), .val (.int (5 : Int32)), .val (.ref o8)] [(.int (5 : Int32))])) _
        refine XS.iconst X246.here hx rfl (hb hby at_239) ?_
        exact kt
      refine own_step (T' := T246) (f' := (mkF m 243 #[.val (.int i0), .val (.int i1), .val (.long j2), .second, .val (.int i4), .val (.int i5), .val (.int (3 : Int32)), .val (.int (5 : Int32)), .val (.ref o8)] [])) (fun t kt => ?_) ?_
      · show Steps p.tables e below (T246.setTop (mkF m 240 #[.val (.int i0), .val (.int i1), .val (.long j2), .second, .val (.int i4), .val (.int i5), .val (.int (3 : Int32)), .val (.int (5 : Int32)), .val (.ref o8)] [(.int (4 : Int32)), (.int (5 : Int32))])) _
        refine XS.icmpNo X246.here hx rfl (hb hby at_240) rfl (tlt (by decide : ((4 : Int32) < (5 : Int32)))).2.2.2 kt
      refine own_step (T' := T246) (f' := (mkF m 254 #[.val (.int i0), .val (.int i1), .val (.long j2), .second, .val (.int i4), .val (.int i5), .val (.int (3 : Int32)), .val (.int (5 : Int32)), .val (.ref o8)] [(.int (5 : Int32)), (.int (4 : Int32)), (.int i5), (.int (7 : Int32)), (.ref o8)])) (fun t kt => ?_) ?_
      · show Steps p.tables e below (T246.setTop (mkF m 243 #[.val (.int i0), .val (.int i1), .val (.long j2), .second, .val (.int i4), .val (.int i5), .val (.int (3 : Int32)), .val (.int (5 : Int32)), .val (.ref o8)] [])) _
        refine XS.aload X246.here hx rfl (hb hby at_243) rfl rfl ?_
        show Steps p.tables e below (T246.setTop (mkF m 245 #[.val (.int i0), .val (.int i1), .val (.long j2), .second, .val (.int i4), .val (.int i5), .val (.int (3 : Int32)), .val (.int (5 : Int32)), .val (.ref o8)] [(.ref o8)])) _
        refine XS.iload X246.here hx rfl (hb hby at_245) rfl ?_
        show Steps p.tables e below (T246.setTop (mkF m 247 #[.val (.int i0), .val (.int i1), .val (.long j2), .second, .val (.int i4), .val (.int i5), .val (.int (3 : Int32)), .val (.int (5 : Int32)), .val (.ref o8)] [(.int (3 : Int32)), (.ref o8)])) _
        refine XS.iconst X246.here hx rfl (hb hby at_247) ?_
        show Steps p.tables e below (T246.setTop (mkF m 248 #[.val (.int i0), .val (.int i1), .val (.long j2), .second, .val (.int i4), .val (.int i5), .val (.int (3 : Int32)), .val (.int (5 : Int32)), .val (.ref o8)] [(.int (4 : Int32)), (.int (3 : Int32)), (.ref o8)])) _
        refine XS.iadd X246.here hx rfl (hb hby at_248) rfl ?_
        show Steps p.tables e below (T246.setTop (mkF m 249 #[.val (.int i0), .val (.int i1), .val (.long j2), .second, .val (.int i4), .val (.int i5), .val (.int (3 : Int32)), .val (.int (5 : Int32)), .val (.ref o8)] [(.int (7 : Int32)), (.ref o8)])) _
        refine XS.iload X246.here hx rfl (hb hby at_249) rfl ?_
        show Steps p.tables e below (T246.setTop (mkF m 251 #[.val (.int i0), .val (.int i1), .val (.long j2), .second, .val (.int i4), .val (.int i5), .val (.int (3 : Int32)), .val (.int (5 : Int32)), .val (.ref o8)] [(.int i5), (.int (7 : Int32)), (.ref o8)])) _
        refine XS.iconst X246.here hx rfl (hb hby at_251) ?_
        show Steps p.tables e below (T246.setTop (mkF m 252 #[.val (.int i0), .val (.int i1), .val (.long j2), .second, .val (.int i4), .val (.int i5), .val (.int (3 : Int32)), .val (.int (5 : Int32)), .val (.ref o8)] [(.int (4 : Int32)), (.int i5), (.int (7 : Int32)), (.ref o8)])) _
        refine XS.iload X246.here hx rfl (hb hby at_252) rfl ?_
        exact kt
      obtain ⟨_, _, ⟨T248, L248, k248, n248⟩, -, X248, ⟨Lc248, hQ248, l248, y248, z248⟩, st248⟩ := Jvm.LawKit.callS X246 hx (y := (⟨"hotstate/sort/VarIntsReadPinLaw", "enc", "(III)B"⟩ : MethodName)) hown (mvT hZ (hw _ (List.mem_of_getElem? (i := 2) rfl))) (mvT hZ (hw _ (List.mem_of_getElem? (i := 3) rfl))) (mvT hZ (hw _ (List.mem_of_getElem? (i := 4) rfl))) (mvT hZ (hw _ (List.mem_of_getElem? (i := 5) rfl))) (by decide) (backOf (W := 2) (rm1 l Z a0 hw [] i5 (4 : Int32) (5 : Int32)  h246 n0 ) hZ (hw _ (List.mem_of_getElem? (i := 5) rfl)) (hw _ (List.mem_of_getElem? (i := 4) rfl)) (by decide) (by decide)) (g := (mkF m 254 #[.val (.int i0), .val (.int i1), .val (.long j2), .second, .val (.int i4), .val (.int i5), .val (.int (3 : Int32)), .val (.int (5 : Int32)), .val (.ref o8)] [(.int (5 : Int32)), (.int (4 : Int32)), (.int i5), (.int (7 : Int32)), (.ref o8)])) rfl (by rw [hml]; rfl) (argsL := [(.int i5), (.int (4 : Int32)), (.int (5 : Int32))]) (rest := [(.int (7 : Int32)), (.ref o8)]) (lenOf pd1 rfl) rfl (by show 2 * 0 + _ ≤ _; exact Nat.le_of_eq rfl) (hb hby at_254) (fun _ _ => ⟨rfl, e246, (by decide : 1 + 0 ≤ _), (by decide : 9 + 0 ≤ _)⟩)
      dsimp only [Pt.U, Pt.locs, Pt.cells, Pt.slots] at X248 l248 y248 z248 st248 hQ248
      subst l248 y248 z248
      obtain ⟨rfl, Nq248, e248⟩ := hQ248
      have N248 := Fr.app N246 Nq248
      refine own_step (T' := T248) (f' := (mkF m 257 #[.val (.int i0), .val (.int i1), .val (.long j2), .second, .val (.int i4), .val (.int i5), .val (.int (3 : Int32)), .val (.int (5 : Int32)), .val (.ref o8)] [(.int (f1_0 i5 (4 : Int32) (5 : Int32))), (.int (7 : Int32)), (.ref o8)])) st248 ?_
      obtain ⟨T249, h249, Lq249, X249, N249, e249, W249, Z249, Aq249, st249⟩ := own_stB X248 hx hZ e248 Ao8_246 (j := (7 : Int32)) (by decide) (k := 7) (by decide) (Nat.le_of_ble_eq_true rfl) N248 go8 Z246 (g := (mkF m 257 #[.val (.int i0), .val (.int i1), .val (.long j2), .second, .val (.int i4), .val (.int i5), .val (.int (3 : Int32)), .val (.int (5 : Int32)), .val (.ref o8)] [(.int (f1_0 i5 (4 : Int32) (5 : Int32))), (.int (7 : Int32)), (.ref o8)])) rfl rfl (hb hby at_257)
      have Ao8_249 : own_A Z h249 o8 .byte [(.int xo8_0), (.int xo8_1), (.int xo8_2), (.int (nar .byte (f1_0 i5 (0 : Int32) (5 : Int32)))), (.int (nar .byte (f1_0 i5 (1 : Int32) (5 : Int32)))), (.int (nar .byte (f1_0 i5 (2 : Int32) (5 : Int32)))), (.int (nar .byte (f1_0 i5 (3 : Int32) (5 : Int32)))), (.int (nar .byte (f1_0 i5 (4 : Int32) (5 : Int32)))), (.int xo8_8)] := Aq249
      refine own_step (T' := T249) (f' := (mkF m 258 #[.val (.int i0), .val (.int i1), .val (.long j2), .second, .val (.int i4), .val (.int i5), .val (.int (3 : Int32)), .val (.int (5 : Int32)), .val (.ref o8)] [])) st249 ?_
      refine own_step (T' := T249) (f' := (mkF m 262 #[.val (.int i0), .val (.int i1), .val (.long j2), .second, .val (.int i4), .val (.int i5), .val (.int (3 : Int32)), .val (.int (5 : Int32)), .val (.ref o8)] [(.int (3 : Int32)), (.ref o8)])) (fun t kt => ?_) ?_
      · show Steps p.tables e below (T249.setTop (mkF m 258 #[.val (.int i0), .val (.int i1), .val (.long j2), .second, .val (.int i4), .val (.int i5), .val (.int (3 : Int32)), .val (.int (5 : Int32)), .val (.ref o8)] [])) _
        refine XS.aload X249.here hx rfl (hb hby at_258) rfl rfl ?_
        show Steps p.tables e below (T249.setTop (mkF m 260 #[.val (.int i0), .val (.int i1), .val (.long j2), .second, .val (.int i4), .val (.int i5), .val (.int (3 : Int32)), .val (.int (5 : Int32)), .val (.ref o8)] [(.ref o8)])) _
        refine XS.iload X249.here hx rfl (hb hby at_260) rfl ?_
        exact kt
      obtain ⟨_, _, ⟨T250, L250, k250, n250⟩, -, X250, ⟨Lc250, hQ250, l250, y250, z250⟩, st250⟩ := Jvm.LawKit.callS X249 hx (y := (⟨"hotstate/sort/VarInts", "read", "([BI)I"⟩ : MethodName)) hown (mvT hZ (hw _ (List.mem_of_getElem? (i := 6) rfl))) (mvT hZ (hw _ (List.mem_of_getElem? (i := 7) rfl))) (mvT hZ (hw _ (List.mem_of_getElem? (i := 8) rfl))) (mvT hZ (hw _ (List.mem_of_getElem? (i := 9) rfl))) (by decide) (backOf (W := 0) (rm2n5 l Z a0 hw [] o8 (3 : Int32) (nar .byte (f1_0 i5 (0 : Int32) (5 : Int32))) (nar .byte (f1_0 i5 (1 : Int32) (5 : Int32))) (nar .byte (f1_0 i5 (2 : Int32) (5 : Int32))) (nar .byte (f1_0 i5 (3 : Int32) (5 : Int32))) (nar .byte (f1_0 i5 (4 : Int32) (5 : Int32))) [(.int xo8_0), (.int xo8_1), (.int xo8_2), (.int (nar .byte (f1_0 i5 (0 : Int32) (5 : Int32)))), (.int (nar .byte (f1_0 i5 (1 : Int32) (5 : Int32)))), (.int (nar .byte (f1_0 i5 (2 : Int32) (5 : Int32)))), (.int (nar .byte (f1_0 i5 (3 : Int32) (5 : Int32)))), (.int (nar .byte (f1_0 i5 (4 : Int32) (5 : Int32)))), (.int xo8_8)] h249 n0 Ao8_249 (by decide) rfl rfl rfl rfl rfl (own_last5 i5)) hZ (hw _ (List.mem_of_getElem? (i := 9) rfl)) (hw _ (List.mem_of_getElem? (i := 8) rfl)) (by decide) (by decide)) (g := (mkF m 262 #[.val (.int i0), .val (.int i1), .val (.long j2), .second, .val (.int i4), .val (.int i5), .val (.int (3 : Int32)), .val (.int (5 : Int32)), .val (.ref o8)] [(.int (3 : Int32)), (.ref o8)])) rfl (by rw [hml]; rfl) (argsL := [(.ref o8), (.int (3 : Int32))]) (rest := []) (lenOf pd2 rfl) rfl (by show 2 * 0 + _ ≤ _; exact Nat.le_of_eq rfl) (hb hby at_262) (fun _ _ => ⟨rfl, e249, (by decide : 1 + 0 ≤ _), (by decide : 9 + 0 ≤ _)⟩)
      dsimp only [Pt.U, Pt.locs, Pt.cells, Pt.slots] at X250 l250 y250 z250 st250 hQ250
      subst l250 y250 z250
      obtain ⟨rfl, Nq250, e250⟩ := hQ250
      have N250 := Fr.app N249 Nq250
      refine own_step (T' := T250) (f' := (mkF m 265 #[.val (.int i0), .val (.int i1), .val (.long j2), .second, .val (.int i4), .val (.int i5), .val (.int (3 : Int32)), .val (.int (5 : Int32)), .val (.ref o8)] [(.int (f2n5_0 (3 : Int32) (nar .byte (f1_0 i5 (0 : Int32) (5 : Int32))) (nar .byte (f1_0 i5 (1 : Int32) (5 : Int32))) (nar .byte (f1_0 i5 (2 : Int32) (5 : Int32))) (nar .byte (f1_0 i5 (3 : Int32) (5 : Int32))) (nar .byte (f1_0 i5 (4 : Int32) (5 : Int32)))))])) st250 ?_
      refine own_step (T' := T250) (f' := (mkF m 267 #[.val (.int i0), .val (.int i1), .val (.long j2), .second, .val (.int i4), .val (.int i5), .val (.int (3 : Int32)), .val (.int (5 : Int32)), .val (.ref o8)] [(.int i5), (.int (f2n5_0 (3 : Int32) (nar .byte (f1_0 i5 (0 : Int32) (5 : Int32))) (nar .byte (f1_0 i5 (1 : Int32) (5 : Int32))) (nar .byte (f1_0 i5 (2 : Int32) (5 : Int32))) (nar .byte (f1_0 i5 (3 : Int32) (5 : Int32))) (nar .byte (f1_0 i5 (4 : Int32) (5 : Int32)))))])) (fun t kt => ?_) ?_
      · show Steps p.tables e below (T250.setTop (mkF m 265 #[.val (.int i0), .val (.int i1), .val (.long j2), .second, .val (.int i4), .val (.int i5), .val (.int (3 : Int32)), .val (.int (5 : Int32)), .val (.ref o8)] [(.int (f2n5_0 (3 : Int32) (nar .byte (f1_0 i5 (0 : Int32) (5 : Int32))) (nar .byte (f1_0 i5 (1 : Int32) (5 : Int32))) (nar .byte (f1_0 i5 (2 : Int32) (5 : Int32))) (nar .byte (f1_0 i5 (3 : Int32) (5 : Int32))) (nar .byte (f1_0 i5 (4 : Int32) (5 : Int32)))))])) _
        refine XS.iload X250.here hx rfl (hb hby at_265) rfl ?_
        exact kt
      by_cases hc267_251 : (f2n5_0 (3 : Int32) (nar .byte (f1_0 i5 (0 : Int32) (5 : Int32))) (nar .byte (f1_0 i5 (1 : Int32) (5 : Int32))) (nar .byte (f1_0 i5 (2 : Int32) (5 : Int32))) (nar .byte (f1_0 i5 (3 : Int32) (5 : Int32))) (nar .byte (f1_0 i5 (4 : Int32) (5 : Int32)))) = i5
      · replace hr := hr.trans (if_pos hc267_251)
        refine own_step (T' := T250) (f' := (mkF m 270 #[.val (.int i0), .val (.int i1), .val (.long j2), .second, .val (.int i4), .val (.int i5), .val (.int (3 : Int32)), .val (.int (5 : Int32)), .val (.ref o8)] [])) (fun t kt => ?_) ?_
        · show Steps p.tables e below (T250.setTop (mkF m 267 #[.val (.int i0), .val (.int i1), .val (.long j2), .second, .val (.int i4), .val (.int i5), .val (.int (3 : Int32)), .val (.int (5 : Int32)), .val (.ref o8)] [(.int i5), (.int (f2n5_0 (3 : Int32) (nar .byte (f1_0 i5 (0 : Int32) (5 : Int32))) (nar .byte (f1_0 i5 (1 : Int32) (5 : Int32))) (nar .byte (f1_0 i5 (2 : Int32) (5 : Int32))) (nar .byte (f1_0 i5 (3 : Int32) (5 : Int32))) (nar .byte (f1_0 i5 (4 : Int32) (5 : Int32)))))])) _
          refine XS.icmpNo X250.here hx rfl (hb hby at_267) rfl (teq hc267_251).2 kt
        refine own_step (T' := T250) (f' := (mkF m 275 #[.val (.int i0), .val (.int i1), .val (.long j2), .second, .val (.int i4), .val (.int i5), .val (.int (3 : Int32)), .val (.int (5 : Int32)), .val (.ref o8)] [(.int (1 : Int32))])) (fun t kt => ?_) ?_
        · show Steps p.tables e below (T250.setTop (mkF m 270 #[.val (.int i0), .val (.int i1), .val (.long j2), .second, .val (.int i4), .val (.int i5), .val (.int (3 : Int32)), .val (.int (5 : Int32)), .val (.ref o8)] [])) _
          refine XS.iconst X250.here hx rfl (hb hby at_270) ?_
          show Steps p.tables e below (T250.setTop (mkF m 271 #[.val (.int i0), .val (.int i1), .val (.long j2), .second, .val (.int i4), .val (.int i5), .val (.int (3 : Int32)), .val (.int (5 : Int32)), .val (.ref o8)] [(.int (1 : Int32))])) _
          refine XS.goto X250.here hx rfl (pc0 := 271) (pc' := 275) rfl (hb hby at_271) (by decide) (by decide) ?_
          exact kt
        exact own_retZ X250 hx hret (by simp) hlk (hb hby at_275) (by decide) (by decide) ⟨congrArg (fun z => some (Value.int z)) hr.symm, N250⟩
      · replace hr := hr.trans (if_neg hc267_251)
        refine own_step (T' := T250) (f' := (mkF m 274 #[.val (.int i0), .val (.int i1), .val (.long j2), .second, .val (.int i4), .val (.int i5), .val (.int (3 : Int32)), .val (.int (5 : Int32)), .val (.ref o8)] [])) (fun t kt => ?_) ?_
        · show Steps p.tables e below (T250.setTop (mkF m 267 #[.val (.int i0), .val (.int i1), .val (.long j2), .second, .val (.int i4), .val (.int i5), .val (.int (3 : Int32)), .val (.int (5 : Int32)), .val (.ref o8)] [(.int i5), (.int (f2n5_0 (3 : Int32) (nar .byte (f1_0 i5 (0 : Int32) (5 : Int32))) (nar .byte (f1_0 i5 (1 : Int32) (5 : Int32))) (nar .byte (f1_0 i5 (2 : Int32) (5 : Int32))) (nar .byte (f1_0 i5 (3 : Int32) (5 : Int32))) (nar .byte (f1_0 i5 (4 : Int32) (5 : Int32)))))])) _
          refine XS.icmpYes X250.here hx rfl (pc0 := 267) (pc' := 274) rfl (hb hby at_267) rfl (feq hc267_251).2 (by decide) (by decide) kt
        refine own_step (T' := T250) (f' := (mkF m 275 #[.val (.int i0), .val (.int i1), .val (.long j2), .second, .val (.int i4), .val (.int i5), .val (.int (3 : Int32)), .val (.int (5 : Int32)), .val (.ref o8)] [(.int (0 : Int32))])) (fun t kt => ?_) ?_
        · show Steps p.tables e below (T250.setTop (mkF m 274 #[.val (.int i0), .val (.int i1), .val (.long j2), .second, .val (.int i4), .val (.int i5), .val (.int (3 : Int32)), .val (.int (5 : Int32)), .val (.ref o8)] [])) _
          refine XS.iconst X250.here hx rfl (hb hby at_274) ?_
          exact kt
        exact own_retZ X250 hx hret (by simp) hlk (hb hby at_275) (by decide) (by decide) ⟨congrArg (fun z => some (Value.int z)) hr.symm, N250⟩
def f0_68 (j2 : Int64) (i4 : Int32) (i5 : Int32) (i6 : Int32) (i7 : Int32) : Int32 :=
  f0_161 i5 i6 i7 (nar .byte ((j2.toInt32).toInt8.toInt32)) (nar .byte ((((j2.toUInt64 >>> ((8 : Int32) &&& 0x3f).toInt64.toUInt64).toInt64).toInt32).toInt8.toInt32)) (nar .byte ((((j2.toUInt64 >>> ((16 : Int32) &&& 0x3f).toInt64.toUInt64).toInt64).toInt32).toInt8.toInt32)) (nar .byte ((((j2.toUInt64 >>> ((24 : Int32) &&& 0x3f).toInt64.toUInt64).toInt64).toInt32).toInt8.toInt32)) (nar .byte ((((j2.toUInt64 >>> ((32 : Int32) &&& 0x3f).toInt64.toUInt64).toInt64).toInt32).toInt8.toInt32)) (nar .byte ((((j2.toUInt64 >>> ((40 : Int32) &&& 0x3f).toInt64.toUInt64).toInt64).toInt32).toInt8.toInt32)) (nar .byte ((((j2.toUInt64 >>> ((48 : Int32) &&& 0x3f).toInt64.toUInt64).toInt64).toInt32).toInt8.toInt32)) (nar .byte ((((j2.toUInt64 >>> ((56 : Int32) &&& 0x3f).toInt64.toUInt64).toInt64).toInt32).toInt8.toInt32)) (nar .byte (i4.toInt8.toInt32))
set_option maxRecDepth 65536 in
set_option maxHeartbeats 4000000 in
theorem b0_68 {p : Program} {l : Launch} {e : Env} {s : State} {m : MethodId} {args : Array Value} {below : List Frame} {meth : Method} {c : Code} {T0 : State} {locs : List Loc} {Z : State} {a0 : Array Value} {h0 : Heap} {n0 : Nat} (i0 : Int32) (i1 : Int32) (j2 : Int64) (i4 : Int32) (i5 : Int32) (i6 : Int32) (i7 : Int32) {r : Int32} (X0 : Stand p l e room_1 s m args below meth c T0 locs 0 0) (hx : p.tables.exec = Jvm.exec) (hZ : Z.Warmed39 s.vm) (hw : ∀ d ∈ tables_1, d.before a0 Z = true) (hby : c.code = code) (hml : c.maxLocals = 9) (hown : s.vm.findClass "hotstate/sort/VarIntsReadPinLaw" = some m.cls) (hret : meth.sig.returnType = some .boolean) (hlk : meth.locks = false) (e0 : T0.heap = h0) (N0 : Fr n0 locs) (Z0 : n0 ≤ h0.size) (hat : i6 = (0 : Int32) ∨ i6 = (1 : Int32) ∨ i6 = (2 : Int32) ∨ i6 = (3 : Int32)) (hn : i7 = (1 : Int32) ∨ i7 = (2 : Int32) ∨ i7 = (3 : Int32) ∨ i7 = (4 : Int32) ∨ i7 = (5 : Int32)) (hr : r = f0_68 j2 i4 i5 i6 i7) :
    own_Ends p e below s 16 128 (own_R (.int r) n0) T0 (mkF m 68 #[.val (.int i0), .val (.int i1), .val (.long j2), .second, .val (.int i4), .val (.int i5), .val (.int i6), .val (.int i7), .unset] []) := by
  unfold f0_68 at hr
  refine own_step (T' := T0) (f' := (mkF m 70 #[.val (.int i0), .val (.int i1), .val (.long j2), .second, .val (.int i4), .val (.int i5), .val (.int i6), .val (.int i7), .unset] [(.int (9 : Int32))])) (fun t kt => ?_) ?_
  · show Steps p.tables e below (T0.setTop (mkF m 68 #[.val (.int i0), .val (.int i1), .val (.long j2), .second, .val (.int i4), .val (.int i5), .val (.int i6), .val (.int i7), .unset] [])) _
    refine XS.bipush X0.here hx rfl (hb hby at_68) ?_
    exact kt
  obtain ⟨T2, h2, b2, X2, e2, Ex2, gb2, g2, Z2, Aq2, st2⟩ := own_new X0 hx hZ (aty := .byte) (hw _ (List.mem_of_getElem? (i := 1) rfl)) e0 (g := (mkF m 70 #[.val (.int i0), .val (.int i1), .val (.long j2), .second, .val (.int i4), .val (.int i5), .val (.int i6), .val (.int i7), .unset] [(.int (9 : Int32))])) rfl (hb hby at_70) rfl (by decide) (k := 9) (by decide) (by decide) (by decide) (by decide) Z0
  have Ab2_2 : own_A Z h2 b2 .byte [(.int (0 : Int32)), (.int (0 : Int32)), (.int (0 : Int32)), (.int (0 : Int32)), (.int (0 : Int32)), (.int (0 : Int32)), (.int (0 : Int32)), (.int (0 : Int32)), (.int (0 : Int32))] := Aq2
  refine own_step (T' := T2) (f' := (mkF m 72 #[.val (.int i0), .val (.int i1), .val (.long j2), .second, .val (.int i4), .val (.int i5), .val (.int i6), .val (.int i7), .unset] [(.ref b2)])) st2 ?_
  refine own_step (T' := T2) (f' := (mkF m 80 #[.val (.int i0), .val (.int i1), .val (.long j2), .second, .val (.int i4), .val (.int i5), .val (.int i6), .val (.int i7), .val (.ref b2)] [(.int ((j2.toInt32).toInt8.toInt32)), (.int (0 : Int32)), (.ref b2)])) (fun t kt => ?_) ?_
  · show Steps p.tables e below (T2.setTop (mkF m 72 #[.val (.int i0), .val (.int i1), .val (.long j2), .second, .val (.int i4), .val (.int i5), .val (.int i6), .val (.int i7), .unset] [(.ref b2)])) _
    refine XS.astore X2.here hx rfl (hb hby at_72) rfl rfl (l' := #[.val (.int i0), .val (.int i1), .val (.long j2), .second, .val (.int i4), .val (.int i5), .val (.int i6), .val (.int i7), .val (.ref b2)]) rfl ?_
    show Steps p.tables e below (T2.setTop (mkF m 74 #[.val (.int i0), .val (.int i1), .val (.long j2), .second, .val (.int i4), .val (.int i5), .val (.int i6), .val (.int i7), .val (.ref b2)] [])) _
    refine XS.aload X2.here hx rfl (hb hby at_74) rfl rfl ?_
    show Steps p.tables e below (T2.setTop (mkF m 76 #[.val (.int i0), .val (.int i1), .val (.long j2), .second, .val (.int i4), .val (.int i5), .val (.int i6), .val (.int i7), .val (.ref b2)] [(.ref b2)])) _
    refine XS.iconst X2.here hx rfl (hb hby at_76) ?_
    show Steps p.tables e below (T2.setTop (mkF m 77 #[.val (.int i0), .val (.int i1), .val (.long j2), .second, .val (.int i4), .val (.int i5), .val (.int i6), .val (.int i7), .val (.ref b2)] [(.int (0 : Int32)), (.ref b2)])) _
    refine XS.lloadN X2.here hx rfl (hb hby at_77) rfl ?_
    show Steps p.tables e below (T2.setTop (mkF m 78 #[.val (.int i0), .val (.int i1), .val (.long j2), .second, .val (.int i4), .val (.int i5), .val (.int i6), .val (.int i7), .val (.ref b2)] [(.long j2), (.int (0 : Int32)), (.ref b2)])) _
    refine XS.l2i X2.here hx rfl (hb hby at_78) rfl ?_
    show Steps p.tables e below (T2.setTop (mkF m 79 #[.val (.int i0), .val (.int i1), .val (.long j2), .second, .val (.int i4), .val (.int i5), .val (.int i6), .val (.int i7), .val (.ref b2)] [(.int (j2.toInt32)), (.int (0 : Int32)), (.ref b2)])) _
    refine XS.i2b X2.here hx rfl (hb hby at_79) rfl ?_
    exact kt
  obtain ⟨T3, h3, Lq3, X3, N3, e3, W3, Z3, Aq3, st3⟩ := own_stB X2 hx hZ e2 Ab2_2 (j := (0 : Int32)) (by decide) (k := 0) (by decide) (Nat.le_of_ble_eq_true rfl) N0 g2 Z2 (g := (mkF m 80 #[.val (.int i0), .val (.int i1), .val (.long j2), .second, .val (.int i4), .val (.int i5), .val (.int i6), .val (.int i7), .val (.ref b2)] [(.int ((j2.toInt32).toInt8.toInt32)), (.int (0 : Int32)), (.ref b2)])) rfl rfl (hb hby at_80)
  have Ab2_3 : own_A Z h3 b2 .byte [(.int (nar .byte ((j2.toInt32).toInt8.toInt32))), (.int (0 : Int32)), (.int (0 : Int32)), (.int (0 : Int32)), (.int (0 : Int32)), (.int (0 : Int32)), (.int (0 : Int32)), (.int (0 : Int32)), (.int (0 : Int32))] := Aq3
  refine own_step (T' := T3) (f' := (mkF m 81 #[.val (.int i0), .val (.int i1), .val (.long j2), .second, .val (.int i4), .val (.int i5), .val (.int i6), .val (.int i7), .val (.ref b2)] [])) st3 ?_
  refine own_step (T' := T3) (f' := (mkF m 90 #[.val (.int i0), .val (.int i1), .val (.long j2), .second, .val (.int i4), .val (.int i5), .val (.int i6), .val (.int i7), .val (.ref b2)] [(.int ((((j2.toUInt64 >>> ((8 : Int32) &&& 0x3f).toInt64.toUInt64).toInt64).toInt32).toInt8.toInt32)), (.int (1 : Int32)), (.ref b2)])) (fun t kt => ?_) ?_
  · show Steps p.tables e below (T3.setTop (mkF m 81 #[.val (.int i0), .val (.int i1), .val (.long j2), .second, .val (.int i4), .val (.int i5), .val (.int i6), .val (.int i7), .val (.ref b2)] [])) _
    refine XS.aload X3.here hx rfl (hb hby at_81) rfl rfl ?_
    show Steps p.tables e below (T3.setTop (mkF m 83 #[.val (.int i0), .val (.int i1), .val (.long j2), .second, .val (.int i4), .val (.int i5), .val (.int i6), .val (.int i7), .val (.ref b2)] [(.ref b2)])) _
    refine XS.iconst X3.here hx rfl (hb hby at_83) ?_
    show Steps p.tables e below (T3.setTop (mkF m 84 #[.val (.int i0), .val (.int i1), .val (.long j2), .second, .val (.int i4), .val (.int i5), .val (.int i6), .val (.int i7), .val (.ref b2)] [(.int (1 : Int32)), (.ref b2)])) _
    refine XS.lloadN X3.here hx rfl (hb hby at_84) rfl ?_
    show Steps p.tables e below (T3.setTop (mkF m 85 #[.val (.int i0), .val (.int i1), .val (.long j2), .second, .val (.int i4), .val (.int i5), .val (.int i6), .val (.int i7), .val (.ref b2)] [(.long j2), (.int (1 : Int32)), (.ref b2)])) _
    refine XS.bipush X3.here hx rfl (hb hby at_85) ?_
    show Steps p.tables e below (T3.setTop (mkF m 87 #[.val (.int i0), .val (.int i1), .val (.long j2), .second, .val (.int i4), .val (.int i5), .val (.int i6), .val (.int i7), .val (.ref b2)] [(.int (8 : Int32)), (.long j2), (.int (1 : Int32)), (.ref b2)])) _
    refine XS.lushr X3.here hx rfl (hb hby at_87) rfl ?_
    show Steps p.tables e below (T3.setTop (mkF m 88 #[.val (.int i0), .val (.int i1), .val (.long j2), .second, .val (.int i4), .val (.int i5), .val (.int i6), .val (.int i7), .val (.ref b2)] [(.long ((j2.toUInt64 >>> ((8 : Int32) &&& 0x3f).toInt64.toUInt64).toInt64)), (.int (1 : Int32)), (.ref b2)])) _
    refine XS.l2i X3.here hx rfl (hb hby at_88) rfl ?_
    show Steps p.tables e below (T3.setTop (mkF m 89 #[.val (.int i0), .val (.int i1), .val (.long j2), .second, .val (.int i4), .val (.int i5), .val (.int i6), .val (.int i7), .val (.ref b2)] [(.int (((j2.toUInt64 >>> ((8 : Int32) &&& 0x3f).toInt64.toUInt64).toInt64).toInt32)), (.int (1 : Int32)), (.ref b2)])) _
    refine XS.i2b X3.here hx rfl (hb hby at_89) rfl ?_
    exact kt
  obtain ⟨T4, h4, Lq4, X4, N4, e4, W4, Z4, Aq4, st4⟩ := own_stB X3 hx hZ e3 Ab2_3 (j := (1 : Int32)) (by decide) (k := 1) (by decide) (Nat.le_of_ble_eq_true rfl) N3 g2 Z3 (g := (mkF m 90 #[.val (.int i0), .val (.int i1), .val (.long j2), .second, .val (.int i4), .val (.int i5), .val (.int i6), .val (.int i7), .val (.ref b2)] [(.int ((((j2.toUInt64 >>> ((8 : Int32) &&& 0x3f).toInt64.toUInt64).toInt64).toInt32).toInt8.toInt32)), (.int (1 : Int32)), (.ref b2)])) rfl rfl (hb hby at_90)
  have Ab2_4 : own_A Z h4 b2 .byte [(.int (nar .byte ((j2.toInt32).toInt8.toInt32))), (.int (nar .byte ((((j2.toUInt64 >>> ((8 : Int32) &&& 0x3f).toInt64.toUInt64).toInt64).toInt32).toInt8.toInt32))), (.int (0 : Int32)), (.int (0 : Int32)), (.int (0 : Int32)), (.int (0 : Int32)), (.int (0 : Int32)), (.int (0 : Int32)), (.int (0 : Int32))] := Aq4
  refine own_step (T' := T4) (f' := (mkF m 91 #[.val (.int i0), .val (.int i1), .val (.long j2), .second, .val (.int i4), .val (.int i5), .val (.int i6), .val (.int i7), .val (.ref b2)] [])) st4 ?_
  refine own_step (T' := T4) (f' := (mkF m 100 #[.val (.int i0), .val (.int i1), .val (.long j2), .second, .val (.int i4), .val (.int i5), .val (.int i6), .val (.int i7), .val (.ref b2)] [(.int ((((j2.toUInt64 >>> ((16 : Int32) &&& 0x3f).toInt64.toUInt64).toInt64).toInt32).toInt8.toInt32)), (.int (2 : Int32)), (.ref b2)])) (fun t kt => ?_) ?_
  · show Steps p.tables e below (T4.setTop (mkF m 91 #[.val (.int i0), .val (.int i1), .val (.long j2), .second, .val (.int i4), .val (.int i5), .val (.int i6), .val (.int i7), .val (.ref b2)] [])) _
    refine XS.aload X4.here hx rfl (hb hby at_91) rfl rfl ?_
    show Steps p.tables e below (T4.setTop (mkF m 93 #[.val (.int i0), .val (.int i1), .val (.long j2), .second, .val (.int i4), .val (.int i5), .val (.int i6), .val (.int i7), .val (.ref b2)] [(.ref b2)])) _
    refine XS.iconst X4.here hx rfl (hb hby at_93) ?_
    show Steps p.tables e below (T4.setTop (mkF m 94 #[.val (.int i0), .val (.int i1), .val (.long j2), .second, .val (.int i4), .val (.int i5), .val (.int i6), .val (.int i7), .val (.ref b2)] [(.int (2 : Int32)), (.ref b2)])) _
    refine XS.lloadN X4.here hx rfl (hb hby at_94) rfl ?_
    show Steps p.tables e below (T4.setTop (mkF m 95 #[.val (.int i0), .val (.int i1), .val (.long j2), .second, .val (.int i4), .val (.int i5), .val (.int i6), .val (.int i7), .val (.ref b2)] [(.long j2), (.int (2 : Int32)), (.ref b2)])) _
    refine XS.bipush X4.here hx rfl (hb hby at_95) ?_
    show Steps p.tables e below (T4.setTop (mkF m 97 #[.val (.int i0), .val (.int i1), .val (.long j2), .second, .val (.int i4), .val (.int i5), .val (.int i6), .val (.int i7), .val (.ref b2)] [(.int (16 : Int32)), (.long j2), (.int (2 : Int32)), (.ref b2)])) _
    refine XS.lushr X4.here hx rfl (hb hby at_97) rfl ?_
    show Steps p.tables e below (T4.setTop (mkF m 98 #[.val (.int i0), .val (.int i1), .val (.long j2), .second, .val (.int i4), .val (.int i5), .val (.int i6), .val (.int i7), .val (.ref b2)] [(.long ((j2.toUInt64 >>> ((16 : Int32) &&& 0x3f).toInt64.toUInt64).toInt64)), (.int (2 : Int32)), (.ref b2)])) _
    refine XS.l2i X4.here hx rfl (hb hby at_98) rfl ?_
    show Steps p.tables e below (T4.setTop (mkF m 99 #[.val (.int i0), .val (.int i1), .val (.long j2), .second, .val (.int i4), .val (.int i5), .val (.int i6), .val (.int i7), .val (.ref b2)] [(.int (((j2.toUInt64 >>> ((16 : Int32) &&& 0x3f).toInt64.toUInt64).toInt64).toInt32)), (.int (2 : Int32)), (.ref b2)])) _
    refine XS.i2b X4.here hx rfl (hb hby at_99) rfl ?_
    exact kt
  obtain ⟨T5, h5, Lq5, X5, N5, e5, W5, Z5, Aq5, st5⟩ := own_stB X4 hx hZ e4 Ab2_4 (j := (2 : Int32)) (by decide) (k := 2) (by decide) (Nat.le_of_ble_eq_true rfl) N4 g2 Z4 (g := (mkF m 100 #[.val (.int i0), .val (.int i1), .val (.long j2), .second, .val (.int i4), .val (.int i5), .val (.int i6), .val (.int i7), .val (.ref b2)] [(.int ((((j2.toUInt64 >>> ((16 : Int32) &&& 0x3f).toInt64.toUInt64).toInt64).toInt32).toInt8.toInt32)), (.int (2 : Int32)), (.ref b2)])) rfl rfl (hb hby at_100)
  have Ab2_5 : own_A Z h5 b2 .byte [(.int (nar .byte ((j2.toInt32).toInt8.toInt32))), (.int (nar .byte ((((j2.toUInt64 >>> ((8 : Int32) &&& 0x3f).toInt64.toUInt64).toInt64).toInt32).toInt8.toInt32))), (.int (nar .byte ((((j2.toUInt64 >>> ((16 : Int32) &&& 0x3f).toInt64.toUInt64).toInt64).toInt32).toInt8.toInt32))), (.int (0 : Int32)), (.int (0 : Int32)), (.int (0 : Int32)), (.int (0 : Int32)), (.int (0 : Int32)), (.int (0 : Int32))] := Aq5
  refine own_step (T' := T5) (f' := (mkF m 101 #[.val (.int i0), .val (.int i1), .val (.long j2), .second, .val (.int i4), .val (.int i5), .val (.int i6), .val (.int i7), .val (.ref b2)] [])) st5 ?_
  refine own_step (T' := T5) (f' := (mkF m 110 #[.val (.int i0), .val (.int i1), .val (.long j2), .second, .val (.int i4), .val (.int i5), .val (.int i6), .val (.int i7), .val (.ref b2)] [(.int ((((j2.toUInt64 >>> ((24 : Int32) &&& 0x3f).toInt64.toUInt64).toInt64).toInt32).toInt8.toInt32)), (.int (3 : Int32)), (.ref b2)])) (fun t kt => ?_) ?_
  · show Steps p.tables e below (T5.setTop (mkF m 101 #[.val (.int i0), .val (.int i1), .val (.long j2), .second, .val (.int i4), .val (.int i5), .val (.int i6), .val (.int i7), .val (.ref b2)] [])) _
    refine XS.aload X5.here hx rfl (hb hby at_101) rfl rfl ?_
    show Steps p.tables e below (T5.setTop (mkF m 103 #[.val (.int i0), .val (.int i1), .val (.long j2), .second, .val (.int i4), .val (.int i5), .val (.int i6), .val (.int i7), .val (.ref b2)] [(.ref b2)])) _
    refine XS.iconst X5.here hx rfl (hb hby at_103) ?_
    show Steps p.tables e below (T5.setTop (mkF m 104 #[.val (.int i0), .val (.int i1), .val (.long j2), .second, .val (.int i4), .val (.int i5), .val (.int i6), .val (.int i7), .val (.ref b2)] [(.int (3 : Int32)), (.ref b2)])) _
    refine XS.lloadN X5.here hx rfl (hb hby at_104) rfl ?_
    show Steps p.tables e below (T5.setTop (mkF m 105 #[.val (.int i0), .val (.int i1), .val (.long j2), .second, .val (.int i4), .val (.int i5), .val (.int i6), .val (.int i7), .val (.ref b2)] [(.long j2), (.int (3 : Int32)), (.ref b2)])) _
    refine XS.bipush X5.here hx rfl (hb hby at_105) ?_
    show Steps p.tables e below (T5.setTop (mkF m 107 #[.val (.int i0), .val (.int i1), .val (.long j2), .second, .val (.int i4), .val (.int i5), .val (.int i6), .val (.int i7), .val (.ref b2)] [(.int (24 : Int32)), (.long j2), (.int (3 : Int32)), (.ref b2)])) _
    refine XS.lushr X5.here hx rfl (hb hby at_107) rfl ?_
    show Steps p.tables e below (T5.setTop (mkF m 108 #[.val (.int i0), .val (.int i1), .val (.long j2), .second, .val (.int i4), .val (.int i5), .val (.int i6), .val (.int i7), .val (.ref b2)] [(.long ((j2.toUInt64 >>> ((24 : Int32) &&& 0x3f).toInt64.toUInt64).toInt64)), (.int (3 : Int32)), (.ref b2)])) _
    refine XS.l2i X5.here hx rfl (hb hby at_108) rfl ?_
    show Steps p.tables e below (T5.setTop (mkF m 109 #[.val (.int i0), .val (.int i1), .val (.long j2), .second, .val (.int i4), .val (.int i5), .val (.int i6), .val (.int i7), .val (.ref b2)] [(.int (((j2.toUInt64 >>> ((24 : Int32) &&& 0x3f).toInt64.toUInt64).toInt64).toInt32)), (.int (3 : Int32)), (.ref b2)])) _
    refine XS.i2b X5.here hx rfl (hb hby at_109) rfl ?_
    exact kt
  obtain ⟨T6, h6, Lq6, X6, N6, e6, W6, Z6, Aq6, st6⟩ := own_stB X5 hx hZ e5 Ab2_5 (j := (3 : Int32)) (by decide) (k := 3) (by decide) (Nat.le_of_ble_eq_true rfl) N5 g2 Z5 (g := (mkF m 110 #[.val (.int i0), .val (.int i1), .val (.long j2), .second, .val (.int i4), .val (.int i5), .val (.int i6), .val (.int i7), .val (.ref b2)] [(.int ((((j2.toUInt64 >>> ((24 : Int32) &&& 0x3f).toInt64.toUInt64).toInt64).toInt32).toInt8.toInt32)), (.int (3 : Int32)), (.ref b2)])) rfl rfl (hb hby at_110)
  have Ab2_6 : own_A Z h6 b2 .byte [(.int (nar .byte ((j2.toInt32).toInt8.toInt32))), (.int (nar .byte ((((j2.toUInt64 >>> ((8 : Int32) &&& 0x3f).toInt64.toUInt64).toInt64).toInt32).toInt8.toInt32))), (.int (nar .byte ((((j2.toUInt64 >>> ((16 : Int32) &&& 0x3f).toInt64.toUInt64).toInt64).toInt32).toInt8.toInt32))), (.int (nar .byte ((((j2.toUInt64 >>> ((24 : Int32) &&& 0x3f).toInt64.toUInt64).toInt64).toInt32).toInt8.toInt32))), (.int (0 : Int32)), (.int (0 : Int32)), (.int (0 : Int32)), (.int (0 : Int32)), (.int (0 : Int32))] := Aq6
  refine own_step (T' := T6) (f' := (mkF m 111 #[.val (.int i0), .val (.int i1), .val (.long j2), .second, .val (.int i4), .val (.int i5), .val (.int i6), .val (.int i7), .val (.ref b2)] [])) st6 ?_
  refine own_step (T' := T6) (f' := (mkF m 120 #[.val (.int i0), .val (.int i1), .val (.long j2), .second, .val (.int i4), .val (.int i5), .val (.int i6), .val (.int i7), .val (.ref b2)] [(.int ((((j2.toUInt64 >>> ((32 : Int32) &&& 0x3f).toInt64.toUInt64).toInt64).toInt32).toInt8.toInt32)), (.int (4 : Int32)), (.ref b2)])) (fun t kt => ?_) ?_
  · show Steps p.tables e below (T6.setTop (mkF m 111 #[.val (.int i0), .val (.int i1), .val (.long j2), .second, .val (.int i4), .val (.int i5), .val (.int i6), .val (.int i7), .val (.ref b2)] [])) _
    refine XS.aload X6.here hx rfl (hb hby at_111) rfl rfl ?_
    show Steps p.tables e below (T6.setTop (mkF m 113 #[.val (.int i0), .val (.int i1), .val (.long j2), .second, .val (.int i4), .val (.int i5), .val (.int i6), .val (.int i7), .val (.ref b2)] [(.ref b2)])) _
    refine XS.iconst X6.here hx rfl (hb hby at_113) ?_
    show Steps p.tables e below (T6.setTop (mkF m 114 #[.val (.int i0), .val (.int i1), .val (.long j2), .second, .val (.int i4), .val (.int i5), .val (.int i6), .val (.int i7), .val (.ref b2)] [(.int (4 : Int32)), (.ref b2)])) _
    refine XS.lloadN X6.here hx rfl (hb hby at_114) rfl ?_
    show Steps p.tables e below (T6.setTop (mkF m 115 #[.val (.int i0), .val (.int i1), .val (.long j2), .second, .val (.int i4), .val (.int i5), .val (.int i6), .val (.int i7), .val (.ref b2)] [(.long j2), (.int (4 : Int32)), (.ref b2)])) _
    refine XS.bipush X6.here hx rfl (hb hby at_115) ?_
    show Steps p.tables e below (T6.setTop (mkF m 117 #[.val (.int i0), .val (.int i1), .val (.long j2), .second, .val (.int i4), .val (.int i5), .val (.int i6), .val (.int i7), .val (.ref b2)] [(.int (32 : Int32)), (.long j2), (.int (4 : Int32)), (.ref b2)])) _
    refine XS.lushr X6.here hx rfl (hb hby at_117) rfl ?_
    show Steps p.tables e below (T6.setTop (mkF m 118 #[.val (.int i0), .val (.int i1), .val (.long j2), .second, .val (.int i4), .val (.int i5), .val (.int i6), .val (.int i7), .val (.ref b2)] [(.long ((j2.toUInt64 >>> ((32 : Int32) &&& 0x3f).toInt64.toUInt64).toInt64)), (.int (4 : Int32)), (.ref b2)])) _
    refine XS.l2i X6.here hx rfl (hb hby at_118) rfl ?_
    show Steps p.tables e below (T6.setTop (mkF m 119 #[.val (.int i0), .val (.int i1), .val (.long j2), .second, .val (.int i4), .val (.int i5), .val (.int i6), .val (.int i7), .val (.ref b2)] [(.int (((j2.toUInt64 >>> ((32 : Int32) &&& 0x3f).toInt64.toUInt64).toInt64).toInt32)), (.int (4 : Int32)), (.ref b2)])) _
    refine XS.i2b X6.here hx rfl (hb hby at_119) rfl ?_
    exact kt
  obtain ⟨T7, h7, Lq7, X7, N7, e7, W7, Z7, Aq7, st7⟩ := own_stB X6 hx hZ e6 Ab2_6 (j := (4 : Int32)) (by decide) (k := 4) (by decide) (Nat.le_of_ble_eq_true rfl) N6 g2 Z6 (g := (mkF m 120 #[.val (.int i0), .val (.int i1), .val (.long j2), .second, .val (.int i4), .val (.int i5), .val (.int i6), .val (.int i7), .val (.ref b2)] [(.int ((((j2.toUInt64 >>> ((32 : Int32) &&& 0x3f).toInt64.toUInt64).toInt64).toInt32).toInt8.toInt32)), (.int (4 : Int32)), (.ref b2)])) rfl rfl (hb hby at_120)
  have Ab2_7 : own_A Z h7 b2 .byte [(.int (nar .byte ((j2.toInt32).toInt8.toInt32))), (.int (nar .byte ((((j2.toUInt64 >>> ((8 : Int32) &&& 0x3f).toInt64.toUInt64).toInt64).toInt32).toInt8.toInt32))), (.int (nar .byte ((((j2.toUInt64 >>> ((16 : Int32) &&& 0x3f).toInt64.toUInt64).toInt64).toInt32).toInt8.toInt32))), (.int (nar .byte ((((j2.toUInt64 >>> ((24 : Int32) &&& 0x3f).toInt64.toUInt64).toInt64).toInt32).toInt8.toInt32))), (.int (nar .byte ((((j2.toUInt64 >>> ((32 : Int32) &&& 0x3f).toInt64.toUInt64).toInt64).toInt32).toInt8.toInt32))), (.int (0 : Int32)), (.int (0 : Int32)), (.int (0 : Int32)), (.int (0 : Int32))] := Aq7
  refine own_step (T' := T7) (f' := (mkF m 121 #[.val (.int i0), .val (.int i1), .val (.long j2), .second, .val (.int i4), .val (.int i5), .val (.int i6), .val (.int i7), .val (.ref b2)] [])) st7 ?_
  refine own_step (T' := T7) (f' := (mkF m 130 #[.val (.int i0), .val (.int i1), .val (.long j2), .second, .val (.int i4), .val (.int i5), .val (.int i6), .val (.int i7), .val (.ref b2)] [(.int ((((j2.toUInt64 >>> ((40 : Int32) &&& 0x3f).toInt64.toUInt64).toInt64).toInt32).toInt8.toInt32)), (.int (5 : Int32)), (.ref b2)])) (fun t kt => ?_) ?_
  · show Steps p.tables e below (T7.setTop (mkF m 121 #[.val (.int i0), .val (.int i1), .val (.long j2), .second, .val (.int i4), .val (.int i5), .val (.int i6), .val (.int i7), .val (.ref b2)] [])) _
    refine XS.aload X7.here hx rfl (hb hby at_121) rfl rfl ?_
    show Steps p.tables e below (T7.setTop (mkF m 123 #[.val (.int i0), .val (.int i1), .val (.long j2), .second, .val (.int i4), .val (.int i5), .val (.int i6), .val (.int i7), .val (.ref b2)] [(.ref b2)])) _
    refine XS.iconst X7.here hx rfl (hb hby at_123) ?_
    show Steps p.tables e below (T7.setTop (mkF m 124 #[.val (.int i0), .val (.int i1), .val (.long j2), .second, .val (.int i4), .val (.int i5), .val (.int i6), .val (.int i7), .val (.ref b2)] [(.int (5 : Int32)), (.ref b2)])) _
    refine XS.lloadN X7.here hx rfl (hb hby at_124) rfl ?_
    show Steps p.tables e below (T7.setTop (mkF m 125 #[.val (.int i0), .val (.int i1), .val (.long j2), .second, .val (.int i4), .val (.int i5), .val (.int i6), .val (.int i7), .val (.ref b2)] [(.long j2), (.int (5 : Int32)), (.ref b2)])) _
    refine XS.bipush X7.here hx rfl (hb hby at_125) ?_
    show Steps p.tables e below (T7.setTop (mkF m 127 #[.val (.int i0), .val (.int i1), .val (.long j2), .second, .val (.int i4), .val (.int i5), .val (.int i6), .val (.int i7), .val (.ref b2)] [(.int (40 : Int32)), (.long j2), (.int (5 : Int32)), (.ref b2)])) _
    refine XS.lushr X7.here hx rfl (hb hby at_127) rfl ?_
    show Steps p.tables e below (T7.setTop (mkF m 128 #[.val (.int i0), .val (.int i1), .val (.long j2), .second, .val (.int i4), .val (.int i5), .val (.int i6), .val (.int i7), .val (.ref b2)] [(.long ((j2.toUInt64 >>> ((40 : Int32) &&& 0x3f).toInt64.toUInt64).toInt64)), (.int (5 : Int32)), (.ref b2)])) _
    refine XS.l2i X7.here hx rfl (hb hby at_128) rfl ?_
    show Steps p.tables e below (T7.setTop (mkF m 129 #[.val (.int i0), .val (.int i1), .val (.long j2), .second, .val (.int i4), .val (.int i5), .val (.int i6), .val (.int i7), .val (.ref b2)] [(.int (((j2.toUInt64 >>> ((40 : Int32) &&& 0x3f).toInt64.toUInt64).toInt64).toInt32)), (.int (5 : Int32)), (.ref b2)])) _
    refine XS.i2b X7.here hx rfl (hb hby at_129) rfl ?_
    exact kt
  obtain ⟨T8, h8, Lq8, X8, N8, e8, W8, Z8, Aq8, st8⟩ := own_stB X7 hx hZ e7 Ab2_7 (j := (5 : Int32)) (by decide) (k := 5) (by decide) (Nat.le_of_ble_eq_true rfl) N7 g2 Z7 (g := (mkF m 130 #[.val (.int i0), .val (.int i1), .val (.long j2), .second, .val (.int i4), .val (.int i5), .val (.int i6), .val (.int i7), .val (.ref b2)] [(.int ((((j2.toUInt64 >>> ((40 : Int32) &&& 0x3f).toInt64.toUInt64).toInt64).toInt32).toInt8.toInt32)), (.int (5 : Int32)), (.ref b2)])) rfl rfl (hb hby at_130)
  have Ab2_8 : own_A Z h8 b2 .byte [(.int (nar .byte ((j2.toInt32).toInt8.toInt32))), (.int (nar .byte ((((j2.toUInt64 >>> ((8 : Int32) &&& 0x3f).toInt64.toUInt64).toInt64).toInt32).toInt8.toInt32))), (.int (nar .byte ((((j2.toUInt64 >>> ((16 : Int32) &&& 0x3f).toInt64.toUInt64).toInt64).toInt32).toInt8.toInt32))), (.int (nar .byte ((((j2.toUInt64 >>> ((24 : Int32) &&& 0x3f).toInt64.toUInt64).toInt64).toInt32).toInt8.toInt32))), (.int (nar .byte ((((j2.toUInt64 >>> ((32 : Int32) &&& 0x3f).toInt64.toUInt64).toInt64).toInt32).toInt8.toInt32))), (.int (nar .byte ((((j2.toUInt64 >>> ((40 : Int32) &&& 0x3f).toInt64.toUInt64).toInt64).toInt32).toInt8.toInt32))), (.int (0 : Int32)), (.int (0 : Int32)), (.int (0 : Int32))] := Aq8
  refine own_step (T' := T8) (f' := (mkF m 131 #[.val (.int i0), .val (.int i1), .val (.long j2), .second, .val (.int i4), .val (.int i5), .val (.int i6), .val (.int i7), .val (.ref b2)] [])) st8 ?_
  refine own_step (T' := T8) (f' := (mkF m 141 #[.val (.int i0), .val (.int i1), .val (.long j2), .second, .val (.int i4), .val (.int i5), .val (.int i6), .val (.int i7), .val (.ref b2)] [(.int ((((j2.toUInt64 >>> ((48 : Int32) &&& 0x3f).toInt64.toUInt64).toInt64).toInt32).toInt8.toInt32)), (.int (6 : Int32)), (.ref b2)])) (fun t kt => ?_) ?_
  · show Steps p.tables e below (T8.setTop (mkF m 131 #[.val (.int i0), .val (.int i1), .val (.long j2), .second, .val (.int i4), .val (.int i5), .val (.int i6), .val (.int i7), .val (.ref b2)] [])) _
    refine XS.aload X8.here hx rfl (hb hby at_131) rfl rfl ?_
    show Steps p.tables e below (T8.setTop (mkF m 133 #[.val (.int i0), .val (.int i1), .val (.long j2), .second, .val (.int i4), .val (.int i5), .val (.int i6), .val (.int i7), .val (.ref b2)] [(.ref b2)])) _
    refine XS.bipush X8.here hx rfl (hb hby at_133) ?_
    show Steps p.tables e below (T8.setTop (mkF m 135 #[.val (.int i0), .val (.int i1), .val (.long j2), .second, .val (.int i4), .val (.int i5), .val (.int i6), .val (.int i7), .val (.ref b2)] [(.int (6 : Int32)), (.ref b2)])) _
    refine XS.lloadN X8.here hx rfl (hb hby at_135) rfl ?_
    show Steps p.tables e below (T8.setTop (mkF m 136 #[.val (.int i0), .val (.int i1), .val (.long j2), .second, .val (.int i4), .val (.int i5), .val (.int i6), .val (.int i7), .val (.ref b2)] [(.long j2), (.int (6 : Int32)), (.ref b2)])) _
    refine XS.bipush X8.here hx rfl (hb hby at_136) ?_
    show Steps p.tables e below (T8.setTop (mkF m 138 #[.val (.int i0), .val (.int i1), .val (.long j2), .second, .val (.int i4), .val (.int i5), .val (.int i6), .val (.int i7), .val (.ref b2)] [(.int (48 : Int32)), (.long j2), (.int (6 : Int32)), (.ref b2)])) _
    refine XS.lushr X8.here hx rfl (hb hby at_138) rfl ?_
    show Steps p.tables e below (T8.setTop (mkF m 139 #[.val (.int i0), .val (.int i1), .val (.long j2), .second, .val (.int i4), .val (.int i5), .val (.int i6), .val (.int i7), .val (.ref b2)] [(.long ((j2.toUInt64 >>> ((48 : Int32) &&& 0x3f).toInt64.toUInt64).toInt64)), (.int (6 : Int32)), (.ref b2)])) _
    refine XS.l2i X8.here hx rfl (hb hby at_139) rfl ?_
    show Steps p.tables e below (T8.setTop (mkF m 140 #[.val (.int i0), .val (.int i1), .val (.long j2), .second, .val (.int i4), .val (.int i5), .val (.int i6), .val (.int i7), .val (.ref b2)] [(.int (((j2.toUInt64 >>> ((48 : Int32) &&& 0x3f).toInt64.toUInt64).toInt64).toInt32)), (.int (6 : Int32)), (.ref b2)])) _
    refine XS.i2b X8.here hx rfl (hb hby at_140) rfl ?_
    exact kt
  obtain ⟨T9, h9, Lq9, X9, N9, e9, W9, Z9, Aq9, st9⟩ := own_stB X8 hx hZ e8 Ab2_8 (j := (6 : Int32)) (by decide) (k := 6) (by decide) (Nat.le_of_ble_eq_true rfl) N8 g2 Z8 (g := (mkF m 141 #[.val (.int i0), .val (.int i1), .val (.long j2), .second, .val (.int i4), .val (.int i5), .val (.int i6), .val (.int i7), .val (.ref b2)] [(.int ((((j2.toUInt64 >>> ((48 : Int32) &&& 0x3f).toInt64.toUInt64).toInt64).toInt32).toInt8.toInt32)), (.int (6 : Int32)), (.ref b2)])) rfl rfl (hb hby at_141)
  have Ab2_9 : own_A Z h9 b2 .byte [(.int (nar .byte ((j2.toInt32).toInt8.toInt32))), (.int (nar .byte ((((j2.toUInt64 >>> ((8 : Int32) &&& 0x3f).toInt64.toUInt64).toInt64).toInt32).toInt8.toInt32))), (.int (nar .byte ((((j2.toUInt64 >>> ((16 : Int32) &&& 0x3f).toInt64.toUInt64).toInt64).toInt32).toInt8.toInt32))), (.int (nar .byte ((((j2.toUInt64 >>> ((24 : Int32) &&& 0x3f).toInt64.toUInt64).toInt64).toInt32).toInt8.toInt32))), (.int (nar .byte ((((j2.toUInt64 >>> ((32 : Int32) &&& 0x3f).toInt64.toUInt64).toInt64).toInt32).toInt8.toInt32))), (.int (nar .byte ((((j2.toUInt64 >>> ((40 : Int32) &&& 0x3f).toInt64.toUInt64).toInt64).toInt32).toInt8.toInt32))), (.int (nar .byte ((((j2.toUInt64 >>> ((48 : Int32) &&& 0x3f).toInt64.toUInt64).toInt64).toInt32).toInt8.toInt32))), (.int (0 : Int32)), (.int (0 : Int32))] := Aq9
  refine own_step (T' := T9) (f' := (mkF m 142 #[.val (.int i0), .val (.int i1), .val (.long j2), .second, .val (.int i4), .val (.int i5), .val (.int i6), .val (.int i7), .val (.ref b2)] [])) st9 ?_
  refine own_step (T' := T9) (f' := (mkF m 152 #[.val (.int i0), .val (.int i1), .val (.long j2), .second, .val (.int i4), .val (.int i5), .val (.int i6), .val (.int i7), .val (.ref b2)] [(.int ((((j2.toUInt64 >>> ((56 : Int32) &&& 0x3f).toInt64.toUInt64).toInt64).toInt32).toInt8.toInt32)), (.int (7 : Int32)), (.ref b2)])) (fun t kt => ?_) ?_
  · show Steps p.tables e below (T9.setTop (mkF m 142 #[.val (.int i0), .val (.int i1), .val (.long j2), .second, .val (.int i4), .val (.int i5), .val (.int i6), .val (.int i7), .val (.ref b2)] [])) _
    refine XS.aload X9.here hx rfl (hb hby at_142) rfl rfl ?_
    show Steps p.tables e below (T9.setTop (mkF m 144 #[.val (.int i0), .val (.int i1), .val (.long j2), .second, .val (.int i4), .val (.int i5), .val (.int i6), .val (.int i7), .val (.ref b2)] [(.ref b2)])) _
    refine XS.bipush X9.here hx rfl (hb hby at_144) ?_
    show Steps p.tables e below (T9.setTop (mkF m 146 #[.val (.int i0), .val (.int i1), .val (.long j2), .second, .val (.int i4), .val (.int i5), .val (.int i6), .val (.int i7), .val (.ref b2)] [(.int (7 : Int32)), (.ref b2)])) _
    refine XS.lloadN X9.here hx rfl (hb hby at_146) rfl ?_
    show Steps p.tables e below (T9.setTop (mkF m 147 #[.val (.int i0), .val (.int i1), .val (.long j2), .second, .val (.int i4), .val (.int i5), .val (.int i6), .val (.int i7), .val (.ref b2)] [(.long j2), (.int (7 : Int32)), (.ref b2)])) _
    refine XS.bipush X9.here hx rfl (hb hby at_147) ?_
    show Steps p.tables e below (T9.setTop (mkF m 149 #[.val (.int i0), .val (.int i1), .val (.long j2), .second, .val (.int i4), .val (.int i5), .val (.int i6), .val (.int i7), .val (.ref b2)] [(.int (56 : Int32)), (.long j2), (.int (7 : Int32)), (.ref b2)])) _
    refine XS.lushr X9.here hx rfl (hb hby at_149) rfl ?_
    show Steps p.tables e below (T9.setTop (mkF m 150 #[.val (.int i0), .val (.int i1), .val (.long j2), .second, .val (.int i4), .val (.int i5), .val (.int i6), .val (.int i7), .val (.ref b2)] [(.long ((j2.toUInt64 >>> ((56 : Int32) &&& 0x3f).toInt64.toUInt64).toInt64)), (.int (7 : Int32)), (.ref b2)])) _
    refine XS.l2i X9.here hx rfl (hb hby at_150) rfl ?_
    show Steps p.tables e below (T9.setTop (mkF m 151 #[.val (.int i0), .val (.int i1), .val (.long j2), .second, .val (.int i4), .val (.int i5), .val (.int i6), .val (.int i7), .val (.ref b2)] [(.int (((j2.toUInt64 >>> ((56 : Int32) &&& 0x3f).toInt64.toUInt64).toInt64).toInt32)), (.int (7 : Int32)), (.ref b2)])) _
    refine XS.i2b X9.here hx rfl (hb hby at_151) rfl ?_
    exact kt
  obtain ⟨T10, h10, Lq10, X10, N10, e10, W10, Z10, Aq10, st10⟩ := own_stB X9 hx hZ e9 Ab2_9 (j := (7 : Int32)) (by decide) (k := 7) (by decide) (Nat.le_of_ble_eq_true rfl) N9 g2 Z9 (g := (mkF m 152 #[.val (.int i0), .val (.int i1), .val (.long j2), .second, .val (.int i4), .val (.int i5), .val (.int i6), .val (.int i7), .val (.ref b2)] [(.int ((((j2.toUInt64 >>> ((56 : Int32) &&& 0x3f).toInt64.toUInt64).toInt64).toInt32).toInt8.toInt32)), (.int (7 : Int32)), (.ref b2)])) rfl rfl (hb hby at_152)
  have Ab2_10 : own_A Z h10 b2 .byte [(.int (nar .byte ((j2.toInt32).toInt8.toInt32))), (.int (nar .byte ((((j2.toUInt64 >>> ((8 : Int32) &&& 0x3f).toInt64.toUInt64).toInt64).toInt32).toInt8.toInt32))), (.int (nar .byte ((((j2.toUInt64 >>> ((16 : Int32) &&& 0x3f).toInt64.toUInt64).toInt64).toInt32).toInt8.toInt32))), (.int (nar .byte ((((j2.toUInt64 >>> ((24 : Int32) &&& 0x3f).toInt64.toUInt64).toInt64).toInt32).toInt8.toInt32))), (.int (nar .byte ((((j2.toUInt64 >>> ((32 : Int32) &&& 0x3f).toInt64.toUInt64).toInt64).toInt32).toInt8.toInt32))), (.int (nar .byte ((((j2.toUInt64 >>> ((40 : Int32) &&& 0x3f).toInt64.toUInt64).toInt64).toInt32).toInt8.toInt32))), (.int (nar .byte ((((j2.toUInt64 >>> ((48 : Int32) &&& 0x3f).toInt64.toUInt64).toInt64).toInt32).toInt8.toInt32))), (.int (nar .byte ((((j2.toUInt64 >>> ((56 : Int32) &&& 0x3f).toInt64.toUInt64).toInt64).toInt32).toInt8.toInt32))), (.int (0 : Int32))] := Aq10
  refine own_step (T' := T10) (f' := (mkF m 153 #[.val (.int i0), .val (.int i1), .val (.long j2), .second, .val (.int i4), .val (.int i5), .val (.int i6), .val (.int i7), .val (.ref b2)] [])) st10 ?_
  refine own_step (T' := T10) (f' := (mkF m 160 #[.val (.int i0), .val (.int i1), .val (.long j2), .second, .val (.int i4), .val (.int i5), .val (.int i6), .val (.int i7), .val (.ref b2)] [(.int (i4.toInt8.toInt32)), (.int (8 : Int32)), (.ref b2)])) (fun t kt => ?_) ?_
  · show Steps p.tables e below (T10.setTop (mkF m 153 #[.val (.int i0), .val (.int i1), .val (.long j2), .second, .val (.int i4), .val (.int i5), .val (.int i6), .val (.int i7), .val (.ref b2)] [])) _
    refine XS.aload X10.here hx rfl (hb hby at_153) rfl rfl ?_
    show Steps p.tables e below (T10.setTop (mkF m 155 #[.val (.int i0), .val (.int i1), .val (.long j2), .second, .val (.int i4), .val (.int i5), .val (.int i6), .val (.int i7), .val (.ref b2)] [(.ref b2)])) _
    refine XS.bipush X10.here hx rfl (hb hby at_155) ?_
    show Steps p.tables e below (T10.setTop (mkF m 157 #[.val (.int i0), .val (.int i1), .val (.long j2), .second, .val (.int i4), .val (.int i5), .val (.int i6), .val (.int i7), .val (.ref b2)] [(.int (8 : Int32)), (.ref b2)])) _
    refine XS.iload X10.here hx rfl (hb hby at_157) rfl ?_
    show Steps p.tables e below (T10.setTop (mkF m 159 #[.val (.int i0), .val (.int i1), .val (.long j2), .second, .val (.int i4), .val (.int i5), .val (.int i6), .val (.int i7), .val (.ref b2)] [(.int i4), (.int (8 : Int32)), (.ref b2)])) _
    refine XS.i2b X10.here hx rfl (hb hby at_159) rfl ?_
    exact kt
  obtain ⟨T11, h11, Lq11, X11, N11, e11, W11, Z11, Aq11, st11⟩ := own_stB X10 hx hZ e10 Ab2_10 (j := (8 : Int32)) (by decide) (k := 8) (by decide) (Nat.le_of_ble_eq_true rfl) N10 g2 Z10 (g := (mkF m 160 #[.val (.int i0), .val (.int i1), .val (.long j2), .second, .val (.int i4), .val (.int i5), .val (.int i6), .val (.int i7), .val (.ref b2)] [(.int (i4.toInt8.toInt32)), (.int (8 : Int32)), (.ref b2)])) rfl rfl (hb hby at_160)
  have Ab2_11 : own_A Z h11 b2 .byte [(.int (nar .byte ((j2.toInt32).toInt8.toInt32))), (.int (nar .byte ((((j2.toUInt64 >>> ((8 : Int32) &&& 0x3f).toInt64.toUInt64).toInt64).toInt32).toInt8.toInt32))), (.int (nar .byte ((((j2.toUInt64 >>> ((16 : Int32) &&& 0x3f).toInt64.toUInt64).toInt64).toInt32).toInt8.toInt32))), (.int (nar .byte ((((j2.toUInt64 >>> ((24 : Int32) &&& 0x3f).toInt64.toUInt64).toInt64).toInt32).toInt8.toInt32))), (.int (nar .byte ((((j2.toUInt64 >>> ((32 : Int32) &&& 0x3f).toInt64.toUInt64).toInt64).toInt32).toInt8.toInt32))), (.int (nar .byte ((((j2.toUInt64 >>> ((40 : Int32) &&& 0x3f).toInt64.toUInt64).toInt64).toInt32).toInt8.toInt32))), (.int (nar .byte ((((j2.toUInt64 >>> ((48 : Int32) &&& 0x3f).toInt64.toUInt64).toInt64).toInt32).toInt8.toInt32))), (.int (nar .byte ((((j2.toUInt64 >>> ((56 : Int32) &&& 0x3f).toInt64.toUInt64).toInt64).toInt32).toInt8.toInt32))), (.int (nar .byte (i4.toInt8.toInt32)))] := Aq11
  refine own_step (T' := T11) (f' := (mkF m 161 #[.val (.int i0), .val (.int i1), .val (.long j2), .second, .val (.int i4), .val (.int i5), .val (.int i6), .val (.int i7), .val (.ref b2)] [])) st11 ?_
  exact b0_161 i0 i1 j2 i4 i5 i6 i7 b2 (nar .byte ((j2.toInt32).toInt8.toInt32)) (nar .byte ((((j2.toUInt64 >>> ((8 : Int32) &&& 0x3f).toInt64.toUInt64).toInt64).toInt32).toInt8.toInt32)) (nar .byte ((((j2.toUInt64 >>> ((16 : Int32) &&& 0x3f).toInt64.toUInt64).toInt64).toInt32).toInt8.toInt32)) (nar .byte ((((j2.toUInt64 >>> ((24 : Int32) &&& 0x3f).toInt64.toUInt64).toInt64).toInt32).toInt8.toInt32)) (nar .byte ((((j2.toUInt64 >>> ((32 : Int32) &&& 0x3f).toInt64.toUInt64).toInt64).toInt32).toInt8.toInt32)) (nar .byte ((((j2.toUInt64 >>> ((40 : Int32) &&& 0x3f).toInt64.toUInt64).toInt64).toInt32).toInt8.toInt32)) (nar .byte ((((j2.toUInt64 >>> ((48 : Int32) &&& 0x3f).toInt64.toUInt64).toInt64).toInt32).toInt8.toInt32)) (nar .byte ((((j2.toUInt64 >>> ((56 : Int32) &&& 0x3f).toInt64.toUInt64).toInt64).toInt32).toInt8.toInt32)) (nar .byte (i4.toInt8.toInt32)) X11 hx hZ hw hby hml hown hret hlk e11 N11 Ab2_11 g2 Z11 hat hn hr
def f0_0 (p0 : Int32) (p1 : Int32) (q2 : Int64) (p3 : Int32) : Int32 :=
  if (p0 &&& (2147483647 : Int32)) < (128 : Int32) then (f0_68 q2 p3 (p0 &&& (2147483647 : Int32)) (p1 &&& (3 : Int32)) (1 : Int32)) else (if (p0 &&& (2147483647 : Int32)) < (16384 : Int32) then (f0_68 q2 p3 (p0 &&& (2147483647 : Int32)) (p1 &&& (3 : Int32)) (2 : Int32)) else (if (p0 &&& (2147483647 : Int32)) < (2097152 : Int32) then (f0_68 q2 p3 (p0 &&& (2147483647 : Int32)) (p1 &&& (3 : Int32)) (3 : Int32)) else (if (p0 &&& (2147483647 : Int32)) < (268435456 : Int32) then (f0_68 q2 p3 (p0 &&& (2147483647 : Int32)) (p1 &&& (3 : Int32)) (4 : Int32)) else (f0_68 q2 p3 (p0 &&& (2147483647 : Int32)) (p1 &&& (3 : Int32)) (5 : Int32)))))
set_option maxRecDepth 65536 in
set_option maxHeartbeats 4000000 in
theorem b0_0 {p : Program} {l : Launch} {e : Env} {s : State} {m : MethodId} {args : Array Value} {below : List Frame} {meth : Method} {c : Code} {T0 : State} {locs : List Loc} {Z : State} {a0 : Array Value} {h0 : Heap} {n0 : Nat} (p0 : Int32) (p1 : Int32) (q2 : Int64) (p3 : Int32) {r : Int32} (X0 : Stand p l e room_1 s m args below meth c T0 locs 0 0) (hx : p.tables.exec = Jvm.exec) (hZ : Z.Warmed39 s.vm) (hw : ∀ d ∈ tables_1, d.before a0 Z = true) (hby : c.code = code) (hml : c.maxLocals = 9) (hown : s.vm.findClass "hotstate/sort/VarIntsReadPinLaw" = some m.cls) (hret : meth.sig.returnType = some .boolean) (hlk : meth.locks = false) (e0 : T0.heap = h0) (N0 : Fr n0 locs) (Z0 : n0 ≤ h0.size) (hr : r = f0_0 p0 p1 q2 p3) :
    own_Ends p e below s 16 128 (own_R (.int r) n0) T0 (mkF m 0 #[.val (.int p0), .val (.int p1), .val (.long q2), .second, .val (.int p3), .unset, .unset, .unset, .unset] []) := by
  unfold f0_0 at hr
  refine own_step (T' := T0) (f' := (mkF m 16 #[.val (.int p0), .val (.int p1), .val (.long q2), .second, .val (.int p3), .val (.int (p0 &&& (2147483647 : Int32))), .val (.int (p1 &&& (3 : Int32))), .unset, .unset] [(.int (128 : Int32)), (.int (p0 &&& (2147483647 : Int32)))])) (fun t kt => ?_) ?_
  · show Steps p.tables e below (T0.setTop (mkF m 0 #[.val (.int p0), .val (.int p1), .val (.long q2), .second, .val (.int p3), .unset, .unset, .unset, .unset] [])) _
    refine XS.iloadN X0.here hx rfl (hb hby at_0) rfl ?_
    show Steps p.tables e below (T0.setTop (mkF m 1 #[.val (.int p0), .val (.int p1), .val (.long q2), .second, .val (.int p3), .unset, .unset, .unset, .unset] [(.int p0)])) _
    refine X0.ldcInt hx hown (mvT hZ (hw _ (List.mem_of_getElem? (i := 0) rfl))) (g := (mkF m 1 #[.val (.int p0), .val (.int p1), .val (.long q2), .second, .val (.int p3), .unset, .unset, .unset, .unset] [(.int p0)])) rfl (hb hby at_1) _ ?_
    show Steps p.tables e below (T0.setTop (mkF m 3 #[.val (.int p0), .val (.int p1), .val (.long q2), .second, .val (.int p3), .unset, .unset, .unset, .unset] [(.int (2147483647 : Int32)), (.int p0)])) _
    refine XS.iand X0.here hx rfl (hb hby at_3) rfl ?_
    show Steps p.tables e below (T0.setTop (mkF m 4 #[.val (.int p0), .val (.int p1), .val (.long q2), .second, .val (.int p3), .unset, .unset, .unset, .unset] [(.int (p0 &&& (2147483647 : Int32)))])) _
    refine XS.istore X0.here hx rfl (hb hby at_4) rfl (l' := #[.val (.int p0), .val (.int p1), .val (.long q2), .second, .val (.int p3), .val (.int (p0 &&& (2147483647 : Int32))), .unset, .unset, .unset]) rfl ?_
    show Steps p.tables e below (T0.setTop (mkF m 6 #[.val (.int p0), .val (.int p1), .val (.long q2), .second, .val (.int p3), .val (.int (p0 &&& (2147483647 : Int32))), .unset, .unset, .unset] [])) _
    refine XS.iloadN X0.here hx rfl (hb hby at_6) rfl ?_
    show Steps p.tables e below (T0.setTop (mkF m 7 #[.val (.int p0), .val (.int p1), .val (.long q2), .second, .val (.int p3), .val (.int (p0 &&& (2147483647 : Int32))), .unset, .unset, .unset] [(.int p1)])) _
    refine XS.iconst X0.here hx rfl (hb hby at_7) ?_
    show Steps p.tables e below (T0.setTop (mkF m 8 #[.val (.int p0), .val (.int p1), .val (.long q2), .second, .val (.int p3), .val (.int (p0 &&& (2147483647 : Int32))), .unset, .unset, .unset] [(.int (3 : Int32)), (.int p1)])) _
    refine XS.iand X0.here hx rfl (hb hby at_8) rfl ?_
    show Steps p.tables e below (T0.setTop (mkF m 9 #[.val (.int p0), .val (.int p1), .val (.long q2), .second, .val (.int p3), .val (.int (p0 &&& (2147483647 : Int32))), .unset, .unset, .unset] [(.int (p1 &&& (3 : Int32)))])) _
    refine XS.istore X0.here hx rfl (hb hby at_9) rfl (l' := #[.val (.int p0), .val (.int p1), .val (.long q2), .second, .val (.int p3), .val (.int (p0 &&& (2147483647 : Int32))), .val (.int (p1 &&& (3 : Int32))), .unset, .unset]) rfl ?_
    show Steps p.tables e below (T0.setTop (mkF m 11 #[.val (.int p0), .val (.int p1), .val (.long q2), .second, .val (.int p3), .val (.int (p0 &&& (2147483647 : Int32))), .val (.int (p1 &&& (3 : Int32))), .unset, .unset] [])) _
    refine XS.iload X0.here hx rfl (hb hby at_11) rfl ?_
    show Steps p.tables e below (T0.setTop (mkF m 13 #[.val (.int p0), .val (.int p1), .val (.long q2), .second, .val (.int p3), .val (.int (p0 &&& (2147483647 : Int32))), .val (.int (p1 &&& (3 : Int32))), .unset, .unset] [(.int (p0 &&& (2147483647 : Int32)))])) _
    refine XS.sipush X0.here hx rfl (hb hby at_13) ?_
    exact kt
  by_cases hc16_1 : (p0 &&& (2147483647 : Int32)) < (128 : Int32)
  · replace hr := hr.trans (if_pos hc16_1)
    refine own_step (T' := T0) (f' := (mkF m 19 #[.val (.int p0), .val (.int p1), .val (.long q2), .second, .val (.int p3), .val (.int (p0 &&& (2147483647 : Int32))), .val (.int (p1 &&& (3 : Int32))), .unset, .unset] [])) (fun t kt => ?_) ?_
    · show Steps p.tables e below (T0.setTop (mkF m 16 #[.val (.int p0), .val (.int p1), .val (.long q2), .second, .val (.int p3), .val (.int (p0 &&& (2147483647 : Int32))), .val (.int (p1 &&& (3 : Int32))), .unset, .unset] [(.int (128 : Int32)), (.int (p0 &&& (2147483647 : Int32)))])) _
      refine XS.icmpNo X0.here hx rfl (hb hby at_16) rfl (tlt hc16_1).2.1 kt
    refine own_step (T' := T0) (f' := (mkF m 68 #[.val (.int p0), .val (.int p1), .val (.long q2), .second, .val (.int p3), .val (.int (p0 &&& (2147483647 : Int32))), .val (.int (p1 &&& (3 : Int32))), .val (.int (1 : Int32)), .unset] [])) (fun t kt => ?_) ?_
    · show Steps p.tables e below (T0.setTop (mkF m 19 #[.val (.int p0), .val (.int p1), .val (.long q2), .second, .val (.int p3), .val (.int (p0 &&& (2147483647 : Int32))), .val (.int (p1 &&& (3 : Int32))), .unset, .unset] [])) _
      refine XS.iconst X0.here hx rfl (hb hby at_19) ?_
      show Steps p.tables e below (T0.setTop (mkF m 20 #[.val (.int p0), .val (.int p1), .val (.long q2), .second, .val (.int p3), .val (.int (p0 &&& (2147483647 : Int32))), .val (.int (p1 &&& (3 : Int32))), .unset, .unset] [(.int (1 : Int32))])) _
      refine XS.istore X0.here hx rfl (hb hby at_20) rfl (l' := #[.val (.int p0), .val (.int p1), .val (.long q2), .second, .val (.int p3), .val (.int (p0 &&& (2147483647 : Int32))), .val (.int (p1 &&& (3 : Int32))), .val (.int (1 : Int32)), .unset]) rfl ?_
      show Steps p.tables e below (T0.setTop (mkF m 22 #[.val (.int p0), .val (.int p1), .val (.long q2), .second, .val (.int p3), .val (.int (p0 &&& (2147483647 : Int32))), .val (.int (p1 &&& (3 : Int32))), .val (.int (1 : Int32)), .unset] [])) _
      refine XS.goto X0.here hx rfl (pc0 := 22) (pc' := 68) rfl (hb hby at_22) (by decide) (by decide) ?_
      exact kt
    exact b0_68 p0 p1 q2 p3 (p0 &&& (2147483647 : Int32)) (p1 &&& (3 : Int32)) (1 : Int32) X0 hx hZ hw hby hml hown hret hlk e0 N0 Z0 (own_at4 _) (by decide) hr
  · replace hr := hr.trans (if_neg hc16_1)
    refine own_step (T' := T0) (f' := (mkF m 25 #[.val (.int p0), .val (.int p1), .val (.long q2), .second, .val (.int p3), .val (.int (p0 &&& (2147483647 : Int32))), .val (.int (p1 &&& (3 : Int32))), .unset, .unset] [])) (fun t kt => ?_) ?_
    · show Steps p.tables e below (T0.setTop (mkF m 16 #[.val (.int p0), .val (.int p1), .val (.long q2), .second, .val (.int p3), .val (.int (p0 &&& (2147483647 : Int32))), .val (.int (p1 &&& (3 : Int32))), .unset, .unset] [(.int (128 : Int32)), (.int (p0 &&& (2147483647 : Int32)))])) _
      refine XS.icmpYes X0.here hx rfl (pc0 := 16) (pc' := 25) rfl (hb hby at_16) rfl (flt hc16_1).2.1 (by decide) (by decide) kt
    refine own_step (T' := T0) (f' := (mkF m 30 #[.val (.int p0), .val (.int p1), .val (.long q2), .second, .val (.int p3), .val (.int (p0 &&& (2147483647 : Int32))), .val (.int (p1 &&& (3 : Int32))), .unset, .unset] [(.int (16384 : Int32)), (.int (p0 &&& (2147483647 : Int32)))])) (fun t kt => ?_) ?_
    · show Steps p.tables e below (T0.setTop (mkF m 25 #[.val (.int p0), .val (.int p1), .val (.long q2), .second, .val (.int p3), .val (.int (p0 &&& (2147483647 : Int32))), .val (.int (p1 &&& (3 : Int32))), .unset, .unset] [])) _
      refine XS.iload X0.here hx rfl (hb hby at_25) rfl ?_
      show Steps p.tables e below (T0.setTop (mkF m 27 #[.val (.int p0), .val (.int p1), .val (.long q2), .second, .val (.int p3), .val (.int (p0 &&& (2147483647 : Int32))), .val (.int (p1 &&& (3 : Int32))), .unset, .unset] [(.int (p0 &&& (2147483647 : Int32)))])) _
      refine XS.sipush X0.here hx rfl (hb hby at_27) ?_
      exact kt
    by_cases hc30_252 : (p0 &&& (2147483647 : Int32)) < (16384 : Int32)
    · replace hr := hr.trans (if_pos hc30_252)
      refine own_step (T' := T0) (f' := (mkF m 33 #[.val (.int p0), .val (.int p1), .val (.long q2), .second, .val (.int p3), .val (.int (p0 &&& (2147483647 : Int32))), .val (.int (p1 &&& (3 : Int32))), .unset, .unset] [])) (fun t kt => ?_) ?_
      · show Steps p.tables e below (T0.setTop (mkF m 30 #[.val (.int p0), .val (.int p1), .val (.long q2), .second, .val (.int p3), .val (.int (p0 &&& (2147483647 : Int32))), .val (.int (p1 &&& (3 : Int32))), .unset, .unset] [(.int (16384 : Int32)), (.int (p0 &&& (2147483647 : Int32)))])) _
        refine XS.icmpNo X0.here hx rfl (hb hby at_30) rfl (tlt hc30_252).2.1 kt
      refine own_step (T' := T0) (f' := (mkF m 68 #[.val (.int p0), .val (.int p1), .val (.long q2), .second, .val (.int p3), .val (.int (p0 &&& (2147483647 : Int32))), .val (.int (p1 &&& (3 : Int32))), .val (.int (2 : Int32)), .unset] [])) (fun t kt => ?_) ?_
      · show Steps p.tables e below (T0.setTop (mkF m 33 #[.val (.int p0), .val (.int p1), .val (.long q2), .second, .val (.int p3), .val (.int (p0 &&& (2147483647 : Int32))), .val (.int (p1 &&& (3 : Int32))), .unset, .unset] [])) _
        refine XS.iconst X0.here hx rfl (hb hby at_33) ?_
        show Steps p.tables e below (T0.setTop (mkF m 34 #[.val (.int p0), .val (.int p1), .val (.long q2), .second, .val (.int p3), .val (.int (p0 &&& (2147483647 : Int32))), .val (.int (p1 &&& (3 : Int32))), .unset, .unset] [(.int (2 : Int32))])) _
        refine XS.istore X0.here hx rfl (hb hby at_34) rfl (l' := #[.val (.int p0), .val (.int p1), .val (.long q2), .second, .val (.int p3), .val (.int (p0 &&& (2147483647 : Int32))), .val (.int (p1 &&& (3 : Int32))), .val (.int (2 : Int32)), .unset]) rfl ?_
        show Steps p.tables e below (T0.setTop (mkF m 36 #[.val (.int p0), .val (.int p1), .val (.long q2), .second, .val (.int p3), .val (.int (p0 &&& (2147483647 : Int32))), .val (.int (p1 &&& (3 : Int32))), .val (.int (2 : Int32)), .unset] [])) _
        refine XS.goto X0.here hx rfl (pc0 := 36) (pc' := 68) rfl (hb hby at_36) (by decide) (by decide) ?_
        exact kt
      exact b0_68 p0 p1 q2 p3 (p0 &&& (2147483647 : Int32)) (p1 &&& (3 : Int32)) (2 : Int32) X0 hx hZ hw hby hml hown hret hlk e0 N0 Z0 (own_at4 _) (by decide) hr
    · replace hr := hr.trans (if_neg hc30_252)
      refine own_step (T' := T0) (f' := (mkF m 39 #[.val (.int p0), .val (.int p1), .val (.long q2), .second, .val (.int p3), .val (.int (p0 &&& (2147483647 : Int32))), .val (.int (p1 &&& (3 : Int32))), .unset, .unset] [])) (fun t kt => ?_) ?_
      · show Steps p.tables e below (T0.setTop (mkF m 30 #[.val (.int p0), .val (.int p1), .val (.long q2), .second, .val (.int p3), .val (.int (p0 &&& (2147483647 : Int32))), .val (.int (p1 &&& (3 : Int32))), .unset, .unset] [(.int (16384 : Int32)), (.int (p0 &&& (2147483647 : Int32)))])) _
        refine XS.icmpYes X0.here hx rfl (pc0 := 30) (pc' := 39) rfl (hb hby at_30) rfl (flt hc30_252).2.1 (by decide) (by decide) kt
      refine own_step (T' := T0) (f' := (mkF m 43 #[.val (.int p0), .val (.int p1), .val (.long q2), .second, .val (.int p3), .val (.int (p0 &&& (2147483647 : Int32))), .val (.int (p1 &&& (3 : Int32))), .unset, .unset] [(.int (2097152 : Int32)), (.int (p0 &&& (2147483647 : Int32)))])) (fun t kt => ?_) ?_
      · show Steps p.tables e below (T0.setTop (mkF m 39 #[.val (.int p0), .val (.int p1), .val (.long q2), .second, .val (.int p3), .val (.int (p0 &&& (2147483647 : Int32))), .val (.int (p1 &&& (3 : Int32))), .unset, .unset] [])) _
        refine XS.iload X0.here hx rfl (hb hby at_39) rfl ?_
        show Steps p.tables e below (T0.setTop (mkF m 41 #[.val (.int p0), .val (.int p1), .val (.long q2), .second, .val (.int p3), .val (.int (p0 &&& (2147483647 : Int32))), .val (.int (p1 &&& (3 : Int32))), .unset, .unset] [(.int (p0 &&& (2147483647 : Int32)))])) _
        refine X0.ldcInt hx hown (mvT hZ (hw _ (List.mem_of_getElem? (i := 10) rfl))) (g := (mkF m 41 #[.val (.int p0), .val (.int p1), .val (.long q2), .second, .val (.int p3), .val (.int (p0 &&& (2147483647 : Int32))), .val (.int (p1 &&& (3 : Int32))), .unset, .unset] [(.int (p0 &&& (2147483647 : Int32)))])) rfl (hb hby at_41) _ ?_
        exact kt
      by_cases hc43_253 : (p0 &&& (2147483647 : Int32)) < (2097152 : Int32)
      · replace hr := hr.trans (if_pos hc43_253)
        refine own_step (T' := T0) (f' := (mkF m 46 #[.val (.int p0), .val (.int p1), .val (.long q2), .second, .val (.int p3), .val (.int (p0 &&& (2147483647 : Int32))), .val (.int (p1 &&& (3 : Int32))), .unset, .unset] [])) (fun t kt => ?_) ?_
        · show Steps p.tables e below (T0.setTop (mkF m 43 #[.val (.int p0), .val (.int p1), .val (.long q2), .second, .val (.int p3), .val (.int (p0 &&& (2147483647 : Int32))), .val (.int (p1 &&& (3 : Int32))), .unset, .unset] [(.int (2097152 : Int32)), (.int (p0 &&& (2147483647 : Int32)))])) _
          refine XS.icmpNo X0.here hx rfl (hb hby at_43) rfl (tlt hc43_253).2.1 kt
        refine own_step (T' := T0) (f' := (mkF m 68 #[.val (.int p0), .val (.int p1), .val (.long q2), .second, .val (.int p3), .val (.int (p0 &&& (2147483647 : Int32))), .val (.int (p1 &&& (3 : Int32))), .val (.int (3 : Int32)), .unset] [])) (fun t kt => ?_) ?_
        · show Steps p.tables e below (T0.setTop (mkF m 46 #[.val (.int p0), .val (.int p1), .val (.long q2), .second, .val (.int p3), .val (.int (p0 &&& (2147483647 : Int32))), .val (.int (p1 &&& (3 : Int32))), .unset, .unset] [])) _
          refine XS.iconst X0.here hx rfl (hb hby at_46) ?_
          show Steps p.tables e below (T0.setTop (mkF m 47 #[.val (.int p0), .val (.int p1), .val (.long q2), .second, .val (.int p3), .val (.int (p0 &&& (2147483647 : Int32))), .val (.int (p1 &&& (3 : Int32))), .unset, .unset] [(.int (3 : Int32))])) _
          refine XS.istore X0.here hx rfl (hb hby at_47) rfl (l' := #[.val (.int p0), .val (.int p1), .val (.long q2), .second, .val (.int p3), .val (.int (p0 &&& (2147483647 : Int32))), .val (.int (p1 &&& (3 : Int32))), .val (.int (3 : Int32)), .unset]) rfl ?_
          show Steps p.tables e below (T0.setTop (mkF m 49 #[.val (.int p0), .val (.int p1), .val (.long q2), .second, .val (.int p3), .val (.int (p0 &&& (2147483647 : Int32))), .val (.int (p1 &&& (3 : Int32))), .val (.int (3 : Int32)), .unset] [])) _
          refine XS.goto X0.here hx rfl (pc0 := 49) (pc' := 68) rfl (hb hby at_49) (by decide) (by decide) ?_
          exact kt
        exact b0_68 p0 p1 q2 p3 (p0 &&& (2147483647 : Int32)) (p1 &&& (3 : Int32)) (3 : Int32) X0 hx hZ hw hby hml hown hret hlk e0 N0 Z0 (own_at4 _) (by decide) hr
      · replace hr := hr.trans (if_neg hc43_253)
        refine own_step (T' := T0) (f' := (mkF m 52 #[.val (.int p0), .val (.int p1), .val (.long q2), .second, .val (.int p3), .val (.int (p0 &&& (2147483647 : Int32))), .val (.int (p1 &&& (3 : Int32))), .unset, .unset] [])) (fun t kt => ?_) ?_
        · show Steps p.tables e below (T0.setTop (mkF m 43 #[.val (.int p0), .val (.int p1), .val (.long q2), .second, .val (.int p3), .val (.int (p0 &&& (2147483647 : Int32))), .val (.int (p1 &&& (3 : Int32))), .unset, .unset] [(.int (2097152 : Int32)), (.int (p0 &&& (2147483647 : Int32)))])) _
          refine XS.icmpYes X0.here hx rfl (pc0 := 43) (pc' := 52) rfl (hb hby at_43) rfl (flt hc43_253).2.1 (by decide) (by decide) kt
        refine own_step (T' := T0) (f' := (mkF m 56 #[.val (.int p0), .val (.int p1), .val (.long q2), .second, .val (.int p3), .val (.int (p0 &&& (2147483647 : Int32))), .val (.int (p1 &&& (3 : Int32))), .unset, .unset] [(.int (268435456 : Int32)), (.int (p0 &&& (2147483647 : Int32)))])) (fun t kt => ?_) ?_
        · show Steps p.tables e below (T0.setTop (mkF m 52 #[.val (.int p0), .val (.int p1), .val (.long q2), .second, .val (.int p3), .val (.int (p0 &&& (2147483647 : Int32))), .val (.int (p1 &&& (3 : Int32))), .unset, .unset] [])) _
          refine XS.iload X0.here hx rfl (hb hby at_52) rfl ?_
          show Steps p.tables e below (T0.setTop (mkF m 54 #[.val (.int p0), .val (.int p1), .val (.long q2), .second, .val (.int p3), .val (.int (p0 &&& (2147483647 : Int32))), .val (.int (p1 &&& (3 : Int32))), .unset, .unset] [(.int (p0 &&& (2147483647 : Int32)))])) _
          refine X0.ldcInt hx hown (mvT hZ (hw _ (List.mem_of_getElem? (i := 11) rfl))) (g := (mkF m 54 #[.val (.int p0), .val (.int p1), .val (.long q2), .second, .val (.int p3), .val (.int (p0 &&& (2147483647 : Int32))), .val (.int (p1 &&& (3 : Int32))), .unset, .unset] [(.int (p0 &&& (2147483647 : Int32)))])) rfl (hb hby at_54) _ ?_
          exact kt
        by_cases hc56_254 : (p0 &&& (2147483647 : Int32)) < (268435456 : Int32)
        · replace hr := hr.trans (if_pos hc56_254)
          refine own_step (T' := T0) (f' := (mkF m 59 #[.val (.int p0), .val (.int p1), .val (.long q2), .second, .val (.int p3), .val (.int (p0 &&& (2147483647 : Int32))), .val (.int (p1 &&& (3 : Int32))), .unset, .unset] [])) (fun t kt => ?_) ?_
          · show Steps p.tables e below (T0.setTop (mkF m 56 #[.val (.int p0), .val (.int p1), .val (.long q2), .second, .val (.int p3), .val (.int (p0 &&& (2147483647 : Int32))), .val (.int (p1 &&& (3 : Int32))), .unset, .unset] [(.int (268435456 : Int32)), (.int (p0 &&& (2147483647 : Int32)))])) _
            refine XS.icmpNo X0.here hx rfl (hb hby at_56) rfl (tlt hc56_254).2.1 kt
          refine own_step (T' := T0) (f' := (mkF m 68 #[.val (.int p0), .val (.int p1), .val (.long q2), .second, .val (.int p3), .val (.int (p0 &&& (2147483647 : Int32))), .val (.int (p1 &&& (3 : Int32))), .val (.int (4 : Int32)), .unset] [])) (fun t kt => ?_) ?_
          · show Steps p.tables e below (T0.setTop (mkF m 59 #[.val (.int p0), .val (.int p1), .val (.long q2), .second, .val (.int p3), .val (.int (p0 &&& (2147483647 : Int32))), .val (.int (p1 &&& (3 : Int32))), .unset, .unset] [])) _
            refine XS.iconst X0.here hx rfl (hb hby at_59) ?_
            show Steps p.tables e below (T0.setTop (mkF m 60 #[.val (.int p0), .val (.int p1), .val (.long q2), .second, .val (.int p3), .val (.int (p0 &&& (2147483647 : Int32))), .val (.int (p1 &&& (3 : Int32))), .unset, .unset] [(.int (4 : Int32))])) _
            refine XS.istore X0.here hx rfl (hb hby at_60) rfl (l' := #[.val (.int p0), .val (.int p1), .val (.long q2), .second, .val (.int p3), .val (.int (p0 &&& (2147483647 : Int32))), .val (.int (p1 &&& (3 : Int32))), .val (.int (4 : Int32)), .unset]) rfl ?_
            show Steps p.tables e below (T0.setTop (mkF m 62 #[.val (.int p0), .val (.int p1), .val (.long q2), .second, .val (.int p3), .val (.int (p0 &&& (2147483647 : Int32))), .val (.int (p1 &&& (3 : Int32))), .val (.int (4 : Int32)), .unset] [])) _
            refine XS.goto X0.here hx rfl (pc0 := 62) (pc' := 68) rfl (hb hby at_62) (by decide) (by decide) ?_
            exact kt
          exact b0_68 p0 p1 q2 p3 (p0 &&& (2147483647 : Int32)) (p1 &&& (3 : Int32)) (4 : Int32) X0 hx hZ hw hby hml hown hret hlk e0 N0 Z0 (own_at4 _) (by decide) hr
        · replace hr := hr.trans (if_neg hc56_254)
          refine own_step (T' := T0) (f' := (mkF m 65 #[.val (.int p0), .val (.int p1), .val (.long q2), .second, .val (.int p3), .val (.int (p0 &&& (2147483647 : Int32))), .val (.int (p1 &&& (3 : Int32))), .unset, .unset] [])) (fun t kt => ?_) ?_
          · show Steps p.tables e below (T0.setTop (mkF m 56 #[.val (.int p0), .val (.int p1), .val (.long q2), .second, .val (.int p3), .val (.int (p0 &&& (2147483647 : Int32))), .val (.int (p1 &&& (3 : Int32))), .unset, .unset] [(.int (268435456 : Int32)), (.int (p0 &&& (2147483647 : Int32)))])) _
            refine XS.icmpYes X0.here hx rfl (pc0 := 56) (pc' := 65) rfl (hb hby at_56) rfl (flt hc56_254).2.1 (by decide) (by decide) kt
          refine own_step (T' := T0) (f' := (mkF m 68 #[.val (.int p0), .val (.int p1), .val (.long q2), .second, .val (.int p3), .val (.int (p0 &&& (2147483647 : Int32))), .val (.int (p1 &&& (3 : Int32))), .val (.int (5 : Int32)), .unset] [])) (fun t kt => ?_) ?_
          · show Steps p.tables e below (T0.setTop (mkF m 65 #[.val (.int p0), .val (.int p1), .val (.long q2), .second, .val (.int p3), .val (.int (p0 &&& (2147483647 : Int32))), .val (.int (p1 &&& (3 : Int32))), .unset, .unset] [])) _
            refine XS.iconst X0.here hx rfl (hb hby at_65) ?_
            show Steps p.tables e below (T0.setTop (mkF m 66 #[.val (.int p0), .val (.int p1), .val (.long q2), .second, .val (.int p3), .val (.int (p0 &&& (2147483647 : Int32))), .val (.int (p1 &&& (3 : Int32))), .unset, .unset] [(.int (5 : Int32))])) _
            refine XS.istore X0.here hx rfl (hb hby at_66) rfl (l' := #[.val (.int p0), .val (.int p1), .val (.long q2), .second, .val (.int p3), .val (.int (p0 &&& (2147483647 : Int32))), .val (.int (p1 &&& (3 : Int32))), .val (.int (5 : Int32)), .unset]) rfl ?_
            exact kt
          exact b0_68 p0 p1 q2 p3 (p0 &&& (2147483647 : Int32)) (p1 &&& (3 : Int32)) (5 : Int32) X0 hx hZ hw hby hml hown hret hlk e0 N0 Z0 (own_at4 _) (by decide) hr
set_option maxRecDepth 65536 in
set_option maxHeartbeats 4000000 in
theorem rm0 (l : Launch) (Z : State) (a0 : Array Value) (hw : ∀ d ∈ tables_1, d.before a0 Z = true) (ws : List Jvm.Cond) (p0 : Int32) (p1 : Int32) (q2 : Int64) (p3 : Int32) (h0 : Heap) (n0 : Nat) (Z0 : n0 ≤ h0.size) :
    MetFree l x (head1 (Jvm.Cond.code x code maxLocals ret :: ws) room_1) (fun a U => a = #[(.int p0), (.int p1), (.long q2), (.int p3)] ∧ Z.Warmed39 U.vm ∧ U.heap = h0) (fun _ _ _ _ _ => True) (fun _ U o U' => ∃ v L, o = .returned v ∧ (own_R (.int (f0_0 p0 p1 q2 p3)) n0) v U'.heap L ∧ FrameEnd U o U' L 16 128) := by
  refine MetFree.of_bodySF (plainFor_of_name pn0) hisR ?_
  intro p e s m args below meth c s₁ Bd hml0 hP hK
  obtain ⟨rfl, hZ, hh⟩ := hP
  have hown : s.vm.findClass "hotstate/sort/VarIntsReadPinLaw" = some m.cls := findClass_of_methodNamed Bd.named
  have X0 : Stand p l e room_1 s m #[(.int p0), (.int p1), (.long q2), (.int p3)] below meth c s₁ [] 0 0 := Stand.of_body Bd
  have e0 : s₁.heap = h0 := by rw [← hh, Bd.state]; rfl
  show own_Ends p e below s 16 128 (own_R (.int (f0_0 p0 p1 q2 p3)) n0) s₁ (entryFrame m #[(.int p0), (.int p1), (.long q2), (.int p3)] maxLocals)
  refine own_step (fun t k => castTop (ef0 m p0 p1 q2 p3) k) ?_
  exact b0_0 p0 p1 q2 p3 X0 Bd.exec hZ hw Bd.bytes hml0 hown Bd.returns (BodyLoose.notSynchronized Bd) e0 (Fr.nil n0) Z0 rfl
theorem own_r1 (p v : Int32) (h : 0 ≤ v.toInt) (hu : v.toInt < 128) : f2n1_0 p (nar .byte (f1_0 v 0 1)) = v := by
  unfold f2n1_0
  rw [(own_top v 0 1 (by decide)).2, own_first]
  apply Int32.toInt_inj.mp
  rw [own_d0 v h]; omega
theorem own_r2 (p v : Int32) (h : 0 ≤ v.toInt) (hu : v.toInt < 16384) : f2n2_0 p (nar .byte (f1_0 v 0 2)) (nar .byte (f1_0 v 1 2)) = v := by
  unfold f2n2_0
  rw [if_neg (own_mid v 0 2 (by decide)).1, (own_mid v 0 2 (by decide)).2, (own_top v 1 2 (by decide)).2, own_first]
  apply Int32.toInt_inj.mp
  have d0 := own_d0 v h
  have d1 := own_dk v 1 h 7 (by decide) (by decide)
  have p7 : ((2 ^ 7 : Nat) : Int) = 128 := by decide
  rw [p7] at d1
  rw [own_or (own_dig v 0) (own_dig v 1) 7 7 (by decide) (by decide) 128 (by decide) (by omega) (by omega) (by omega) (by omega), d0, d1]
  omega
theorem own_r3 (p v : Int32) (h : 0 ≤ v.toInt) (hu : v.toInt < 2097152) : f2n3_0 p (nar .byte (f1_0 v 0 3)) (nar .byte (f1_0 v 1 3)) (nar .byte (f1_0 v 2 3)) = v := by
  unfold f2n3_0
  rw [if_neg (own_mid v 0 3 (by decide)).1, if_neg (own_mid v 1 3 (by decide)).1, (own_mid v 0 3 (by decide)).2, (own_mid v 1 3 (by decide)).2, (own_top v 2 3 (by decide)).2, own_first]
  apply Int32.toInt_inj.mp
  have d0 := own_d0 v h
  have d1 := own_dk v 1 h 7 (by decide) (by decide)
  have d2 := own_dk v 2 h 14 (by decide) (by decide)
  have p7 : ((2 ^ 7 : Nat) : Int) = 128 := by decide
  have p14 : ((2 ^ 14 : Nat) : Int) = 16384 := by decide
  rw [p7] at d1; rw [p14] at d2
  have a1 := own_or (own_dig v 0) (own_dig v 1) 7 7 (by decide) (by decide) 128 (by decide) (by omega) (by omega) (by omega) (by omega)
  rw [own_or _ (own_dig v 2) 14 14 (by decide) (by decide) 16384 (by decide) (by omega) (by omega) (by omega) (by omega), a1, d0, d1, d2]
  omega
theorem own_r4 (p v : Int32) (h : 0 ≤ v.toInt) (hu : v.toInt < 268435456) : f2n4_0 p (nar .byte (f1_0 v 0 4)) (nar .byte (f1_0 v 1 4)) (nar .byte (f1_0 v 2 4)) (nar .byte (f1_0 v 3 4)) = v := by
  unfold f2n4_0
  rw [if_neg (own_mid v 0 4 (by decide)).1, if_neg (own_mid v 1 4 (by decide)).1, if_neg (own_mid v 2 4 (by decide)).1, (own_mid v 0 4 (by decide)).2, (own_mid v 1 4 (by decide)).2, (own_mid v 2 4 (by decide)).2, (own_top v 3 4 (by decide)).2, own_first]
  apply Int32.toInt_inj.mp
  have d0 := own_d0 v h
  have d1 := own_dk v 1 h 7 (by decide) (by decide)
  have d2 := own_dk v 2 h 14 (by decide) (by decide)
  have d3 := own_dk v 3 h 21 (by decide) (by decide)
  have p7 : ((2 ^ 7 : Nat) : Int) = 128 := by decide
  have p14 : ((2 ^ 14 : Nat) : Int) = 16384 := by decide
  have p21 : ((2 ^ 21 : Nat) : Int) = 2097152 := by decide
  rw [p7] at d1; rw [p14] at d2; rw [p21] at d3
  have a1 := own_or (own_dig v 0) (own_dig v 1) 7 7 (by decide) (by decide) 128 (by decide) (by omega) (by omega) (by omega) (by omega)
  have a2 := own_or _ (own_dig v 2) 14 14 (by decide) (by decide) 16384 (by decide) (Int.le_trans (by omega) (Int.le_of_eq a1.symm)) (Int.lt_of_le_of_lt (Int.le_of_eq a1) (by omega)) (by omega) (by omega)
  rw [own_or _ (own_dig v 3) 21 21 (by decide) (by decide) 2097152 (by decide) (by omega) (by omega) (by omega) (by omega), a2, a1, d0, d1, d2, d3]
  omega
theorem own_r5 (p v : Int32) (h : 0 ≤ v.toInt) : f2n5_0 p (nar .byte (f1_0 v 0 5)) (nar .byte (f1_0 v 1 5)) (nar .byte (f1_0 v 2 5)) (nar .byte (f1_0 v 3 5)) (nar .byte (f1_0 v 4 5)) = v := by
  unfold f2n5_0
  rw [if_neg (own_mid v 0 5 (by decide)).1, if_neg (own_mid v 1 5 (by decide)).1, if_neg (own_mid v 2 5 (by decide)).1, if_neg (own_mid v 3 5 (by decide)).1, (own_mid v 0 5 (by decide)).2, (own_mid v 1 5 (by decide)).2, (own_mid v 2 5 (by decide)).2, (own_mid v 3 5 (by decide)).2, (own_top v 4 5 (by decide)).2, own_first]
  apply Int32.toInt_inj.mp
  have hu := Int32.toInt_lt v
  have d0 := own_d0 v h
  have d1 := own_dk v 1 h 7 (by decide) (by decide)
  have d2 := own_dk v 2 h 14 (by decide) (by decide)
  have d3 := own_dk v 3 h 21 (by decide) (by decide)
  have d4 := own_dk v 4 h 28 (by decide) (by decide)
  have p7 : ((2 ^ 7 : Nat) : Int) = 128 := by decide
  have p14 : ((2 ^ 14 : Nat) : Int) = 16384 := by decide
  have p21 : ((2 ^ 21 : Nat) : Int) = 2097152 := by decide
  have p28 : ((2 ^ 28 : Nat) : Int) = 268435456 := by decide
  rw [p7] at d1; rw [p14] at d2; rw [p21] at d3; rw [p28] at d4
  have a1 := own_or (own_dig v 0) (own_dig v 1) 7 7 (by decide) (by decide) 128 (by decide) (by omega) (by omega) (by omega) (by omega)
  have a2 := own_or _ (own_dig v 2) 14 14 (by decide) (by decide) 16384 (by decide) (Int.le_trans (by omega) (Int.le_of_eq a1.symm)) (Int.lt_of_le_of_lt (Int.le_of_eq a1) (by omega)) (by omega) (by omega)
  have a3 := own_or _ (own_dig v 3) 21 21 (by decide) (by decide) 2097152 (by decide) (Int.le_trans (by omega) (Int.le_of_eq a2.symm)) (Int.lt_of_le_of_lt (Int.le_of_eq a2) (by omega)) (by omega) (by omega)
  rw [own_or _ (own_dig v 4) 28 28 (by decide) (by decide) 268435456 (by decide) (by omega) (by omega) (by omega) (by omega), a3, a2, a1, d0, d1, d2, d3, d4]
  omega
theorem own_161 (v at_ n x0 x1 x2 x3 x4 x5 x6 x7 x8 : Int32) (hat : at_ = 0 ∨ at_ = 1 ∨ at_ = 2 ∨ at_ = 3) (h : 0 ≤ v.toInt) (hn : (n = 1 ∧ v.toInt < 128) ∨ (n = 2 ∧ v.toInt < 16384) ∨ (n = 3 ∧ v.toInt < 2097152) ∨ (n = 4 ∧ v.toInt < 268435456) ∨ n = 5) : f0_161 v at_ n x0 x1 x2 x3 x4 x5 x6 x7 x8 = 1 := by
  unfold f0_161
  rcases hn with ⟨rfl, hu⟩ | ⟨rfl, hu⟩ | ⟨rfl, hu⟩ | ⟨rfl, hu⟩ | rfl <;> rcases hat with rfl | rfl | rfl | rfl
  all_goals first
    | simp [own_r1 _ v h hu]
    | simp [own_r2 _ v h hu]
    | simp [own_r3 _ v h hu]
    | simp [own_r4 _ v h hu]
    | simp [own_r5 _ v h]
theorem law_true (p0 p1 : Int32) (q2 : Int64) (p3 : Int32) : f0_0 p0 p1 q2 p3 = 1 := by
  unfold f0_0 f0_68
  have hm := c_mask p0 2147483647 31 (by decide) (by decide)
  have hat := own_at4 p1
  generalize (p0 &&& (2147483647 : Int32)) = v at *
  generalize (p1 &&& (3 : Int32)) = at_ at *
  have h : 0 ≤ v.toInt := by omega
  have z1 : (128 : Int32).toInt = 128 := rfl
  have z2 : (16384 : Int32).toInt = 16384 := rfl
  have z3 : (2097152 : Int32).toInt = 2097152 := rfl
  have z4 : (268435456 : Int32).toInt = 268435456 := rfl
  by_cases h1 : v < (128 : Int32)
  · rw [if_pos h1]; rw [Int32.lt_iff_toInt_lt, z1] at h1
    exact own_161 _ _ _ _ _ _ _ _ _ _ _ _ hat h (Or.inl ⟨rfl, h1⟩)
  · rw [if_neg h1]
    by_cases h2 : v < (16384 : Int32)
    · rw [if_pos h2]; rw [Int32.lt_iff_toInt_lt, z2] at h2
      exact own_161 _ _ _ _ _ _ _ _ _ _ _ _ hat h (Or.inr (Or.inl ⟨rfl, h2⟩))
    · rw [if_neg h2]
      by_cases h3 : v < (2097152 : Int32)
      · rw [if_pos h3]; rw [Int32.lt_iff_toInt_lt, z3] at h3
        exact own_161 _ _ _ _ _ _ _ _ _ _ _ _ hat h (Or.inr (Or.inr (Or.inl ⟨rfl, h3⟩)))
      · rw [if_neg h3]
        by_cases h4 : v < (268435456 : Int32)
        · rw [if_pos h4]; rw [Int32.lt_iff_toInt_lt, z4] at h4
          exact own_161 _ _ _ _ _ _ _ _ _ _ _ _ hat h (Or.inr (Or.inr (Or.inr (Or.inl ⟨rfl, h4⟩))))
        · rw [if_neg h4]
          exact own_161 _ _ _ _ _ _ _ _ _ _ _ _ hat h (Or.inr (Or.inr (Or.inr (Or.inr rfl))))

set_option maxRecDepth 65536 in
set_option maxHeartbeats 4000000 in
theorem comes_1 {Post : Tables → Env → Array Value → State → Outcome → State → Prop} (hpost : ∀ tb e args s v u, (limb_1_1.after args s (.returned v) u = true ∧ limb_1_2.after args s (.returned v) u = true ∧ True) → FrameEnd s (.returned v) u (Jvm.fieldLocs frame_1_writes args s ++ Jvm.arrayLocs frame_1_arrays args s ++ Jvm.staticLocs frame_1_statics s) 16 128 → Post tb e args s (.returned v) u) :
    ArmFor flags0 classFile x code maxLocals ret World_1 tables_1 room_1 Calls_1 rest_1 Pre_1 Post := by
  intro l hfl _ _ p e ha hc hk s m args below hf hA hF happ hP
  obtain ⟨hcalls, hrest, hpre⟩ := hP
  obtain ⟨-, -, -, hnamed, -, -, -, hat⟩ := (Spec.applies_iff hf).mp happ
  obtain ⟨hg, hn⟩ := and_e (Cond.before_iff.mp (show (Jvm.Cond.and given_1 narrow_1).before args s = true from hpre))
  obtain ⟨g1, g2⟩ := and_e hg
  obtain ⟨ga0, gb0⟩ := and_e g2
  obtain ⟨ga1, gb1⟩ := and_e gb0
  obtain ⟨ga2, gb2⟩ := and_e gb1
  obtain ⟨w0, w1, w2, w3, rfl⟩ : ∃ w0 w1 w2 w3 : Value, args = #[w0, w1, w2, w3] := by
    have hs : args.size = 4 := by simpa [Cond.value, given_1] using g1
    obtain ⟨L⟩ := args
    match L, hs with
    | [w0, w1, w2, w3], _ => exact ⟨w0, w1, w2, w3, rfl⟩
  have hw := fun d (hd : d ∈ tables_1) => atoms_spec (ws := Jvm.Cond.code x code maxLocals ret :: tables_1) hat d (List.mem_cons_of_mem _ hd)
  obtain ⟨i0, ei0⟩ := is_v ga0
  obtain rfl : w0 = (.int i0) := Option.some.inj ei0
  obtain ⟨i1, ei1⟩ := is_v ga1
  obtain rfl : w1 = (.int i1) := Option.some.inj ei1
  obtain ⟨i2, ei2⟩ := isL_v ga2
  obtain rfl : w2 = (.long i2) := Option.some.inj ei2
  obtain ⟨i3, ei3⟩ := is_v gb2
  obtain rfl : w3 = (.int i3) := Option.some.inj ei3
  obtain ⟨n, o, h1, h2, h3, _, L, rfl, ⟨rfl, N⟩, hq⟩ := rm0 l s _ hw tables_1 i0 i1 i2 i3 s.heap s.heap.size (Nat.le_refl _) p e ha hc hk s m _ below hf ((Spec.applies_iff_loose hf).mp happ).1 ⟨rfl, State.Warmed39.refl s, rfl⟩ trivial
  rw [law_true] at *
  refine ⟨n, _, h1, h2, h3, hpost _ _ _ _ _ _ ⟨Cond.after_iff.mpr rfl, Cond.after_iff.mpr (eq_i res_at (Term.int_eval (1)) rfl), trivial⟩ ⟨hq.1, hq.2.1, (hq.2.2.sift fun y hy => Or.inr (N y hy)).mono (by decide) (by decide)⟩⟩
theorem main_1_1 : Claimed_1_1 := comes_1 fun _ _ _ _ _ _ h hF => ⟨h.1, hF⟩
theorem main_1_2 : Claimed_1_2 := comes_1 fun _ _ _ _ _ _ h hF => ⟨h.2.1, hF⟩
end Jvm.Pilot.@@N@@
namespace Jvm.Pilot.@@N@@
open Jvm Jvm.ClassFile Sem Op Lib Jvm.Free Jvm.Stand Jvm.Pilot.@@N@@.Jvm.D
/-! MADE BY PROGRAM (witnessworld.py) out of the Statement's table words and the real class files: 9 classes; the members and pool entries that the words name. The judged class is class 1, her method 2. -/
namespace start1
open Jvm.ClassFile
def u (s : String) : CpInfo := .utf8 (stringToUtf16 s)
/-- a pool by its gaps: so many unusable entries, then the entry; so many at the end -/
def gap : Nat → List CpInfo → List CpInfo
  | 0, r => r
  | n + 1, r => .unusable :: gap n r
def poolList (es : List (Nat × CpInfo)) (last : Nat) : List CpInfo := es.foldr (fun e r => gap e.1 (e.2 :: r)) (gap last [])
def pool (es : List (Nat × CpInfo)) (last : Nat) : Array CpInfo := ⟨poolList es last⟩
def fileOf (pool : Array CpInfo) (this : Nat) (attrs : Array Attribute := #[]) (ms : Array MethodInfo := #[]) (fl : Nat := 33) (sup : Nat := 0) (ifs : Array Nat := #[]) (fds : Array FieldInfo := #[]) : ClassFile where
  minorVersion := 0
  majorVersion := 65
  constantPool := pool
  accessFlags := fl
  thisClass := this
  superClass := sup
  interfaces := ifs
  fields := fds
  methods := ms
  attributes := attrs
def plain (name : String) (sup : Option ClassId) : Class where
  name := name
  kind := .ordinary
  loader := none
  accessFlags := 33
  super := sup
  interfaces := #[]
  cf := none
  fields := #[]
  methods := #[]
  instanceTypes := #[]
  staticTypes := #[]
  resolved := #[]
  callSites := []
  init := .initialized
  statics := none
  mirror := none

def pool0 : Array CpInfo := pool [(5, u "<init>"), (0, u "()V"), (1, .class_ 10), (1, u "java/lang/Object")] 113

def k0m0 : Method := { name := "<init>", desc := "()V", sig := { parameters := [], returnType := none }, accessFlags := 1, code := none }
/-- java/lang/Object -/
def k0 : Class := { plain "java/lang/Object" none with
  accessFlags := 33
  interfaces := #[]
  cf := some (fileOf pool0 8 #[] #[{ accessFlags := 1, nameIndex := 5, descriptorIndex := 6, attributes := #[] }] 33 0 #[] #[])
  fields := #[]
  methods := #[k0m0]
  instanceTypes := #[]
  staticTypes := #[]
  resolved := Array.replicate 124 none
  statics := none }

def pool1 : Array CpInfo := pool [(2, .class_ 4), (1, u "java/lang/Object"), (0, u "<init>"), (0, u "()V"), (0, .integer 2147483647), (0, .integer 2097152), (0, .integer 268435456), (0, .methodref 11 12), (0, .class_ 13), (0, .nameAndType 14 15), (0, u "hotstate/sort/VarIntsReadPinLaw"), (0, u "enc"), (0, u "(III)B"), (0, .methodref 17 18), (0, .class_ 19), (0, .nameAndType 20 21), (0, u "hotstate/sort/VarInts"), (0, u "read"), (0, u "([BI)I"), (3, u "law"), (0, u "(IIJI)Z")] 4

def k1m0 : Method := { name := "<init>", desc := "()V", sig := { parameters := [], returnType := none }, accessFlags := 2, code := none }
def k1c1 : Code := { maxStack := 3, maxLocals := 5, code := method_2_code, exceptionTable := #[], attributes := #[] }
def k1m1 : Method := { name := "enc", desc := "(III)B", sig := { parameters := [.int, .int, .int], returnType := some .byte }, accessFlags := 10, code := some k1c1 }
def k1c2 : Code := { maxStack := 5, maxLocals := 9, code := code, exceptionTable := #[], attributes := #[] }
def k1m2 : Method := { name := "law", desc := "(IIJI)Z", sig := { parameters := [.int, .int, .long, .int], returnType := some .boolean }, accessFlags := 9, code := some k1c2 }
/-- hotstate/sort/VarIntsReadPinLaw -/
def k1 : Class := { plain "hotstate/sort/VarIntsReadPinLaw" (some 0) with
  accessFlags := 49
  interfaces := #[]
  cf := some (fileOf pool1 11 #[] #[{ accessFlags := 2, nameIndex := 5, descriptorIndex := 6, attributes := #[] }, { accessFlags := 10, nameIndex := 14, descriptorIndex := 15, attributes := #[] }, { accessFlags := 9, nameIndex := 25, descriptorIndex := 26, attributes := #[] }] 49 2 #[] #[])
  fields := #[]
  methods := #[k1m0, k1m1, k1m2]
  instanceTypes := #[]
  staticTypes := #[]
  resolved := Array.replicate 31 none
  statics := none }

def pool2 : Array CpInfo := pool [(2, .class_ 4), (1, u "java/lang/Object"), (0, u "<init>"), (0, u "()V"), (0, .class_ 8), (0, u "hotstate/sort/VarInts"), (0, u "MAX_BYTES"), (0, u "I"), (2, u "MORE"), (1, u "BITS"), (8, u "read"), (0, u "([BI)I")] 3

def k2m0 : Method := { name := "<init>", desc := "()V", sig := { parameters := [], returnType := none }, accessFlags := 2, code := none }
def k2c1 : Code := { maxStack := 3, maxLocals := 6, code := prog_81_method_4_code, exceptionTable := #[], attributes := #[] }
def k2m1 : Method := { name := "read", desc := "([BI)I", sig := { parameters := [(.array .byte), .int], returnType := some .int }, accessFlags := 8, code := some k2c1 }
/-- hotstate/sort/VarInts -/
def k2 : Class := { plain "hotstate/sort/VarInts" (some 0) with
  accessFlags := 48
  interfaces := #[]
  cf := some (fileOf pool2 7 #[] #[{ accessFlags := 2, nameIndex := 5, descriptorIndex := 6, attributes := #[] }, { accessFlags := 8, nameIndex := 24, descriptorIndex := 25, attributes := #[] }] 48 2 #[] #[{ accessFlags := 24, nameIndex := 9, descriptorIndex := 10, attributes := #[] }, { accessFlags := 26, nameIndex := 13, descriptorIndex := 10, attributes := #[] }, { accessFlags := 26, nameIndex := 15, descriptorIndex := 10, attributes := #[] }])
  fields := #[{ name := "MAX_BYTES", type := .int, accessFlags := 24, slot := 0, constantValue := 0 }, { name := "MORE", type := .int, accessFlags := 26, slot := 1, constantValue := 0 }, { name := "BITS", type := .int, accessFlags := 26, slot := 2, constantValue := 0 }]
  methods := #[k2m0, k2m1]
  instanceTypes := #[]
  staticTypes := #[.int, .int, .int]
  resolved := Array.replicate 29 none
  statics := none }

def pool3 : Array CpInfo := pool [(1, u "java/lang/Cloneable"), (0, .class_ 1), (0, u "java/lang/Object"), (0, .class_ 3)] 3

/-- java/lang/Cloneable -/
def k3 : Class := { plain "java/lang/Cloneable" (some 0) with
  accessFlags := 1537
  interfaces := #[]
  cf := some (fileOf pool3 2 #[] #[] 1537 4 #[] #[])
  fields := #[]
  methods := #[]
  instanceTypes := #[]
  staticTypes := #[]
  resolved := Array.replicate 8 none
  statics := none }

def pool4 : Array CpInfo := pool [(1, u "java/io/Serializable"), (0, .class_ 1), (0, u "java/lang/Object"), (0, .class_ 3)] 3

/-- java/io/Serializable -/
def k4 : Class := { plain "java/io/Serializable" (some 0) with
  accessFlags := 1537
  interfaces := #[]
  cf := some (fileOf pool4 2 #[] #[] 1537 4 #[] #[])
  fields := #[]
  methods := #[]
  instanceTypes := #[]
  staticTypes := #[]
  resolved := Array.replicate 8 none
  statics := none }

/-- the primitive byte -/
def k5 : Class := { plain "byte" none with kind := .primitive 'B', accessFlags := 0x411 }
/-- [B -/
def k6 : Class := { plain "[B" (some 0) with kind := .array 5 .byte, interfaces := #[3, 4], accessFlags := 1041 }

/-- the primitive int -/
def k7 : Class := { plain "int" none with kind := .primitive 'I', accessFlags := 0x411 }
/-- [I -/
def k8 : Class := { plain "[I" (some 0) with kind := .array 7 .int, interfaces := #[3, 4], accessFlags := 1041 }

def heap : Heap := #[]
def classes : Array Class := #[k0, k1, k2, k3, k4, k5, k6, k7, k8]
def interned : List (Array UInt16 × Addr) := []
def slotsUsed : Nat := 0
def theMethod : MethodId := ⟨1, 2⟩
def args0 : Array Value := #[.int 300, .int 2, .long 3, .int 4]
def aboutOver (below : List Frame) : State where
  vm := { classes := classes, interned := interned.toArray }
  heap := heap
  slotsUsed := slotsUsed
  threads := #[{ frames := .invoking theMethod args0 :: below }]
def below0 : List Frame := [.native { method := ⟨0, 0⟩, args := #[] }]
def about1 : State := aboutOver below0
def p0 : Program := .bare "" "" ""
def e0 : Env := launch0.env 0 0 0
theorem w_frames : about1.frames = Frame.invoking theMethod args0 :: below0 := rfl
set_option maxRecDepth 65536 in
theorem w_args : argsFit about1.vm theMethod args0 = true := by decide +kernel
set_option maxRecDepth 65536 in
theorem w_heap : heapFits about1 = true := by decide +kernel
set_option maxRecDepth 65536 in
theorem w_runnable : about1.curStatus? = some .runnable := by decide +kernel
set_option maxRecDepth 65536 in
theorem w_alone : about1.alone = true := by decide +kernel
set_option maxRecDepth 65536 in
theorem w_named : about1.methodNamed? x = some theMethod := by decide +kernel
set_option maxRecDepth 65536 in
theorem w_hears : about1.hears theMethod below0 = true := by decide +kernel
set_option maxRecDepth 65536 in
theorem w_ripe : about1.ripe theMethod args0 below0 = true := by decide +kernel
theorem w_running : about1.status = .running := rfl
set_option maxRecDepth 65536 in
theorem w_room : about1.hasRoom e0.platform room_1 = true :=
  launch0.hasRoom_least _ room_1 (by decide +kernel) (by decide +kernel) (by decide +kernel) (by decide +kernel) (by decide +kernel) (by decide +kernel)
theorem allAtoms_all (ts : List Jvm.Cond) (a : Array Jvm.Value) (st : Jvm.State) : (allAtoms ts).before a st = ts.all (fun c => c.before a st) := by
  induction ts with
  | nil => rfl
  | cons c t ih =>
    show (Jvm.Cond.and c (allAtoms t)).before a st = _
    rw [Jvm.Cond.before_and, ih, List.all_cons]
def words1 : List Jvm.Cond := Jvm.Cond.code x code maxLocals ret :: tables_1
/-- a 'code' word, met by the world's own term for the bytes: nothing is compared byte by byte -/
theorem code_word {y : MethodName} {bytes : ByteArray} {mx : Nat} {rt : Option FieldType} {a : Array Value} {s : State} {m : MethodId} {meth : Method} {c : Code} (h1 : s.methodNamed? y = some m) (h2 : s.vm.method? m = some meth) (h3 : meth.code = some c) (h4 : c.code = bytes)
    (h5 : (c.maxLocals == mx && c.exceptionTable.isEmpty && decide (c.maxStack ≤ mostOperands) && decide (meth.sig.returnType = rt) && !meth.locks && decide (parseMethodDescriptor y.desc = some meth.sig)) = true) : (Jvm.Cond.code y bytes mx rt).before a s = true := by
  simp only [Bool.and_eq_true, beq_iff_eq, Bool.not_eq_true', decide_eq_true_eq] at h5
  obtain ⟨⟨⟨⟨⟨g1, g2⟩, g3⟩, g4⟩, g5⟩, g6⟩ := h5
  simp [Cond.before, Cond.holds, Cond.value, h1, h2, h3, h4, g1, g2, g3, g4, g5, g6]
def isCode : Jvm.Cond → Bool
  | .code _ _ _ _ => true
  | _ => false
theorem all_split {L : List Jvm.Cond} {P : Jvm.Cond → Bool} (h1 : L.all (fun c => isCode c || P c) = true) (h2 : ∀ c ∈ L.filter isCode, P c = true) : L.all P = true := by
  refine List.all_eq_true.mpr fun c hc => ?_
  have h := List.all_eq_true.mp h1 c hc
  rcases Bool.eq_false_or_eq_true (isCode c) with hi | hi
  · exact h2 c (List.mem_filter.mpr ⟨hc, hi⟩)
  · simpa [hi] using h
set_option maxRecDepth 65536 in
theorem w_c0 : (Jvm.Cond.code x code maxLocals ret).before args0 about1 = true := code_word (m := ⟨1, 2⟩) (meth := k1m2) (c := k1c2) (by decide +kernel) rfl rfl rfl (by decide +kernel)
set_option maxRecDepth 65536 in
theorem w_c1 : (Jvm.Cond.code ({ cls := "hotstate/sort/VarIntsReadPinLaw", name := "enc", desc := "(III)B" } : Jvm.MethodName) method_2_code (5 : Nat) (Option.some Jvm.ClassFile.FieldType.byte)).before args0 about1 = true := code_word (m := ⟨1, 1⟩) (meth := k1m1) (c := k1c1) (by decide +kernel) rfl rfl rfl (by decide +kernel)
set_option maxRecDepth 65536 in
theorem w_c2 : (Jvm.Cond.code ({ cls := "hotstate/sort/VarInts", name := "read", desc := "([BI)I" } : Jvm.MethodName) prog_81_method_4_code (6 : Nat) (Option.some Jvm.ClassFile.FieldType.int)).before args0 about1 = true := code_word (m := ⟨2, 1⟩) (meth := k2m1) (c := k2c1) (by decide +kernel) rfl rfl rfl (by decide +kernel)
def codes1 : List Jvm.Cond := [Jvm.Cond.code x code maxLocals ret, Jvm.Cond.code ({ cls := "hotstate/sort/VarIntsReadPinLaw", name := "enc", desc := "(III)B" } : Jvm.MethodName) method_2_code (5 : Nat) (Option.some Jvm.ClassFile.FieldType.byte), Jvm.Cond.code ({ cls := "hotstate/sort/VarInts", name := "read", desc := "([BI)I" } : Jvm.MethodName) prog_81_method_4_code (6 : Nat) (Option.some Jvm.ClassFile.FieldType.int)]
set_option maxRecDepth 65536 in
theorem codes_eq : words1.filter isCode = codes1 := rfl
theorem w_codes : ∀ c ∈ words1.filter isCode, c.before args0 about1 = true := by
  rw [codes_eq]
  intro c hc
  simp only [codes1, List.mem_cons, List.not_mem_nil, or_false] at hc
  rcases hc with rfl | rfl | rfl
  · exact w_c0
  · exact w_c1
  · exact w_c2
set_option maxRecDepth 65536 in
theorem w_t1 : words1.all (fun c => isCode c || c.before args0 about1) = true := by decide +kernel
theorem w_tables : (allAtoms (Jvm.Cond.code x code maxLocals ret :: tables_1)).before args0 about1 = true := by
  rw [allAtoms_all]
  show words1.all (fun c => c.before args0 about1) = true
  refine all_split ?_ w_codes
  rw [w_t1]
set_option maxRecDepth 65536 in
theorem w_case : (Jvm.Cond.and given_1 narrow_1).before args0 about1 = true := by decide +kernel
theorem w_applies : (headSpec (Jvm.Cond.code x code maxLocals ret :: tables_1) room_1).applies x e0.platform about1 = true :=
  (Spec.applies_iff w_frames).mpr ⟨w_running, w_runnable, w_alone, w_named, w_hears, w_ripe, w_room, w_tables⟩
theorem atStart : AtStart classFile x code maxLocals ret World_1 tables_1 room_1 Calls_1 rest_1 Pre_1 launch0 p0 e0 about1 theMethod args0 below0 :=
  ⟨lists_1, trivial, launch0.admits_env _ _ _, launch0.least_env, fairChoices_fair.cas, fairChoices_fair.clock, w_frames, w_args, w_heap, w_applies, trivial, trivial, w_case⟩
end start1
theorem witness_1 : WitnessClaimed_1 := ⟨start1.p0, start1.e0, start1.about1, start1.theMethod, start1.args0, start1.below0, start1.atStart⟩
end Jvm.Pilot.@@N@@
