import JvmDerived
import JvmDerived.Pilot.@@N@@Statement
import JvmDerived.Pilot.@@N@@Code
set_option linter.unusedVariables false
set_option linter.unusedSimpArgs false
@@BLOCK:NumsL.lean.txt@@
namespace Jvm.RoadKit
open Sem ClassFile Op Lib Jvm.Stand Jvm.Free Jvm.LawKit
section New
variable {p : Program} {l : Launch} {e : Env} {R : Room} {s : State} {m : MethodId} {args : Array Value} {below : List Frame} {meth : Method} {c : Code} {T : State} {locs : List Loc} {cells slots : Nat}
theorem retI (X : Stand p l e R s m args below meth c T locs cells slots) (hx : p.tables.exec = Jvm.exec) {pc : Nat} {Ls : Array Slot} {z : Int32} {rest : List Value} (hret : meth.sig.returnType = some .int) (hd : decode c.code pc = .ok (.ireturn, 1)) {fs : List Frame}
    (hl : ∀ (f : JFrame) (acts : List Action), f.method = m → f.locked = none → f.entered = [] → (doReturn e (T.setTop f) acts (some (.int z))).1 = T.setFrames fs) : Steps p.tables e below (T.setTop (mkF m pc Ls (.int z :: rest))) (T.setFrames fs) := by
  have hm' : T.vm.method? m = some meth := X.method'
  have hn : narrow .int (.int z) = .int z := rfl
  show Steps p.tables e below (T.setTop { method := m, pc := pc, locals := Ls, stack := _ :: rest, locked := none }) _
  jvm_step X.here [X.here.top, hx, hd, hm', hret, hn]
  first | (intro acts; rw [hl _ acts rfl rfl rfl]) | rw [hl _ _ rfl rfl rfl]
  exact Steps.refl _
end New
end Jvm.RoadKit
namespace Jvm.Pilot.@@N@@
open Jvm Jvm.ClassFile Sem Op Lib Jvm.Free Jvm.Stand Jvm.LawKit Jvm.RoadKit Bundle Jvm.Pilot.@@N@@.Jvm.D
section Own
variable {p : Program} {l : Launch} {e : Env} {R : Room} {s : State} {m : MethodId} {args : Array Value} {below : List Frame} {meth : Method} {c : Code} {T T' : State} {locs : List Loc} {cells slots : Nat}
/-- what a walk has still to come to: it ends, with an answer of which Q is true -/
def own_Ends (p : Program) (e : Env) (below : List Frame) (U : State) (C S : Nat) (Q : Option Value → Heap → List Loc → Prop) (T : State) (f : JFrame) : Prop :=
  ∃ s₂ o, Steps p.tables e below (T.setTop f) s₂ ∧ s₂.status = .running ∧ Ended s₂ below o ∧ ∃ v L, o = .returned v ∧ Q v s₂.heap L ∧ FrameEnd U o s₂ L C S
theorem own_step {U : State} {C S : Nat} {Q : Option Value → Heap → List Loc → Prop} {f f' : JFrame} (h : ∀ t, Steps p.tables e below (T'.setTop f') t → Steps p.tables e below (T.setTop f) t) (k : own_Ends p e below U C S Q T' f') : own_Ends p e below U C S Q T f := by
  obtain ⟨s₂, o, h1, h2⟩ := k
  exact ⟨s₂, o, h _ h1, h2⟩
/-- a pure answer: that value, nothing old written, the heap as it was -/
def own_P (w : Value) (h0 : Heap) (n0 : Nat) (v : Option Value) (h : Heap) (L : List Loc) : Prop := v = some w ∧ Fr n0 L ∧ h = h0
theorem own_retZ {C S : Nat} {Q : Option Value → Heap → List Loc → Prop} {pc : Nat} {Ls : Array Slot} {z : Int32} {t : FieldType} {rest : List Value} (X : Stand p l e R s m args below meth c T locs cells slots) (hx : p.tables.exec = Jvm.exec) (hret : meth.sig.returnType = some t) (ht : t = .boolean ∨ t = .byte ∨ t = .char ∨ t = .short) (hlk : meth.locks = false)
    (hd : decode c.code pc = .ok (.ireturn, 1)) (hC : cells ≤ C) (hS : slots ≤ S) (hq : Q (some (.int (nar t z))) T.heap locs) : own_Ends p e below s C S Q T (mkF m pc Ls (.int z :: rest)) := by
  obtain ⟨fs, hr, hrun, hended, hW, hsame⟩ := X.leave (v := some (.int (nar t z))) (fun h => by rw [hret] at h; cases h) hlk
  exact ⟨_, _, retN X hx hret ht hd hr, hrun, hended, _, _, rfl, hq, ⟨_, rfl⟩, hW, hsame.mono hC hS⟩
theorem own_retI {C S : Nat} {Q : Option Value → Heap → List Loc → Prop} {pc : Nat} {Ls : Array Slot} {z : Int32} {rest : List Value} (X : Stand p l e R s m args below meth c T locs cells slots) (hx : p.tables.exec = Jvm.exec) (hret : meth.sig.returnType = some .int) (hlk : meth.locks = false)
    (hd : decode c.code pc = .ok (.ireturn, 1)) (hC : cells ≤ C) (hS : slots ≤ S) (hq : Q (some (.int z)) T.heap locs) : own_Ends p e below s C S Q T (mkF m pc Ls (.int z :: rest)) := by
  obtain ⟨fs, hr, hrun, hended, hW, hsame⟩ := X.leave (v := some (.int z)) (fun h => by rw [hret] at h; cases h) hlk
  exact ⟨_, _, retI X hx hret hd hr, hrun, hended, _, _, rfl, hq, ⟨_, rfl⟩, hW, hsame.mono hC hS⟩
def own_V (h0 : Heap) (n0 : Nat) (v : Option Value) (h : Heap) (L : List Loc) : Prop := v = none ∧ Fr n0 L ∧ h = h0
theorem own_retV {C S : Nat} {Q : Option Value → Heap → List Loc → Prop} {pc : Nat} {Ls : Array Slot} (X : Stand p l e R s m args below meth c T locs cells slots) (hx : p.tables.exec = Jvm.exec) (hret : meth.sig.returnType = none) (hlk : meth.locks = false)
    (hd : decode c.code pc = .ok (.return_, 1)) (hC : cells ≤ C) (hS : slots ≤ S) (hq : Q none T.heap locs) : own_Ends p e below s C S Q T (mkF m pc Ls []) := by
  obtain ⟨fs, hr, hrun, hended, hW, hsame⟩ := X.leave (v := none) (fun _ => rfl) hlk
  exact ⟨_, _, X.returnOut hx hret hd hr, hrun, hended, _, _, rfl, hq, ⟨_, rfl⟩, hW, hsame.mono hC hS⟩
theorem own_retJ {C S : Nat} {Q : Option Value → Heap → List Loc → Prop} {pc : Nat} {Ls : Array Slot} {z : Int64} (X : Stand p l e R s m args below meth c T locs cells slots) (hx : p.tables.exec = Jvm.exec) (hret : meth.sig.returnType = some .long) (hlk : meth.locks = false)
    (hd : decode c.code pc = .ok (.lreturn, 1)) (hC : cells ≤ C) (hS : slots ≤ S) (hq : Q (some (.long z)) T.heap locs) : own_Ends p e below s C S Q T (mkF m pc Ls [.long z]) := by
  obtain ⟨fs, hr, hrun, hended, hW, hsame⟩ := X.leave (v := some (.long z)) (fun h => by rw [hret] at h; cases h) hlk
  exact ⟨_, _, X.lreturnOut hx hret hd hr, hrun, hended, _, _, rfl, hq, ⟨_, rfl⟩, hW, hsame.mono hC hS⟩
end Own
section OwnArr
variable {p : Program} {l : Launch} {e : Env} {R : Room} {s : State} {m : MethodId} {args : Array Value} {below : List Frame} {meth : Method} {c : Code} {T : State} {locs : List Loc} {cells slots : Nat} {Z : State} {a0 : Array Value} {h h' : Heap} {a b : Addr} {ty : FieldType} {vs : List Value} {n0 : Nat}
/-- an answer of which the heap isn't said: that value, nothing old written -/
def own_W (Z : State) (w : Value) (a : Addr) (vs : List Value) (n0 : Nat) (v : Option Value) (h : Heap) (L : List Loc) : Prop := v = some w ∧ Fr n0 L ∧ (∃ c : Cell, Arr Z h a c .byte ∧ c.slots.toList = vs) ∧ n0 ≤ h.size
def own_R (w : Value) (n0 : Nat) (v : Option Value) (h : Heap) (L : List Loc) : Prop := v = some w ∧ Fr n0 L
/-- the array at a holds just these -/
def own_A (Z : State) (h : Heap) (a : Addr) (ty : FieldType) (vs : List Value) : Prop := ∃ c : Cell, Arr Z h a c ty ∧ c.slots.toList = vs
theorem own_A.lt (A : own_A Z h a ty vs) : a < h.size := by obtain ⟨c, A, -⟩ := A; exact A.lt
theorem own_A.ext (A : own_A Z h a ty vs) (E : Ext h h') : own_A Z h' a ty vs := by obtain ⟨c, A, q⟩ := A; exact ⟨c, A.ext E, q⟩
theorem own_A.other {sl : Nat} {v : Value} (A : own_A Z h b ty vs) (W : Wr h h' a sl v) (q : b ≠ a) : own_A Z h' b ty vs := by obtain ⟨c, A, r⟩ := A; exact ⟨c, A.other W q, r⟩
theorem own_A.set {k : Nat} {v : Value} (A : own_A Z h a ty vs) (W : Wr h h' a k v) : own_A Z h' a ty (vs.set k v) := by
  obtain ⟨c, A, r⟩ := A
  refine ⟨c.setSlot k v, A.same W, ?_⟩
  subst r
  simp [Cell.setSlot]
theorem own_A.size {c : Cell} (r : c.slots.toList = vs) : c.slots.size = vs.length := by subst r; simp
theorem own_new {aty : ArrayType} (X : Stand p l e R s m args below meth c T locs cells slots) (hx : p.tables.exec = Jvm.exec) (hZ : Z.Warmed39 s.vm) (w : (Cond.arrayClass (newarray.typeOf aty)).before a0 Z = true) (eT : T.heap = h) {g : JFrame} (hg : g.method = m) (hd : decode c.code g.pc = .ok (.newarray aty, 2)) {n : Int32} {rest : List Value} (hs : g.stack = .int n :: rest)
    (hn : ¬ n < 0) {k : Nat} (hk : n.toNatClampNeg = k) (hb : k * 8 ≤ 536870912) (hc : cells + 1 ≤ R.cells) (hl : slots + k ≤ R.slots) (Sz : n0 ≤ h.size) :
    ∃ T' h' b, Stand p l e R s m args below meth c T' locs (cells + 1) (slots + k) ∧ T'.heap = h' ∧ Ext h h' ∧ b = h.size ∧ n0 ≤ b ∧ n0 ≤ h'.size ∧ own_A Z h' b (newarray.typeOf aty) (List.replicate k (defaultValue (newarray.typeOf aty))) ∧
      ∀ target, Steps p.tables e below (T'.setTop { g with pc := g.pc + 2, stack := .ref b :: rest }) target → Steps p.tables e below (T.setTop g) target := by
  obtain ⟨T', h', cA, X', e', E, A, st⟩ := newP X hx hZ w eT hg hd hs hn (cap := k) (Nat.le_of_eq hk) hb hc hl
  exact ⟨T', h', h.size, X', e', E, rfl, Sz, Nat.le_trans Sz E.1, ⟨_, A, by simp [newA, hk]⟩, st⟩
theorem own_stI (X : Stand p l e R s m args below meth c T locs cells slots) (hx : p.tables.exec = Jvm.exec) (hZ : Z.Warmed39 s.vm) (eT : T.heap = h) (A : own_A Z h a .int vs) {j x : Int32} (hj : ¬ j < 0) {k : Nat} (hk : j.toNatClampNeg = k) (hl : k < vs.length) (N : Fr n0 locs) (ga : n0 ≤ a) (Sz : n0 ≤ h.size) {g : JFrame} (hg : g.method = m) {rest : List Value} (hs : g.stack = .int x :: .int j :: .ref a :: rest) (hd : decode c.code g.pc = .ok (.iastore, 1)) :
    ∃ T' h' locs', Stand p l e R s m args below meth c T' locs' cells slots ∧ Fr n0 locs' ∧ T'.heap = h' ∧ Wr h h' a k (.int x) ∧ n0 ≤ h'.size ∧ own_A Z h' a .int (vs.set k (.int x)) ∧ ∀ target, Steps p.tables e below (T'.setTop { g with pc := g.pc + 1, stack := rest }) target → Steps p.tables e below (T.setTop g) target := by
  obtain ⟨cl, Ar, r⟩ := id A
  subst hk
  obtain ⟨T', h', X', e', W, st⟩ := stI X hx hZ eT Ar (j := j) (x := x) (fun q => q.elim hj fun z => absurd hl (by rw [← own_A.size r]; omega)) hg hs hd
  exact ⟨T', h', _, X', Fr.snoc X' N ga, e', W, by rw [W.size]; exact Sz, A.set W, st⟩
theorem own_stJ (X : Stand p l e R s m args below meth c T locs cells slots) (hx : p.tables.exec = Jvm.exec) (hZ : Z.Warmed39 s.vm) (eT : T.heap = h) (A : own_A Z h a .long vs) {j : Int32} {x : Int64} (hj : ¬ j < 0) {k : Nat} (hk : j.toNatClampNeg = k) (hl : k < vs.length) (N : Fr n0 locs) (ga : n0 ≤ a) (Sz : n0 ≤ h.size) {g : JFrame} (hg : g.method = m) {rest : List Value} (hs : g.stack = .long x :: .int j :: .ref a :: rest) (hd : decode c.code g.pc = .ok (.lastore, 1)) :
    ∃ T' h' locs', Stand p l e R s m args below meth c T' locs' cells slots ∧ Fr n0 locs' ∧ T'.heap = h' ∧ Wr h h' a k (.long x) ∧ n0 ≤ h'.size ∧ own_A Z h' a .long (vs.set k (.long x)) ∧ ∀ target, Steps p.tables e below (T'.setTop { g with pc := g.pc + 1, stack := rest }) target → Steps p.tables e below (T.setTop g) target := by
  obtain ⟨cl, Ar, r⟩ := id A
  subst hk
  obtain ⟨T', h', X', e', W, st⟩ := stJ X hx hZ eT Ar (j := j) (x := x) (fun q => q.elim hj fun z => absurd hl (by rw [← own_A.size r]; omega)) hg hs hd
  exact ⟨T', h', _, X', Fr.snoc X' N ga, e', W, by rw [W.size]; exact Sz, A.set W, st⟩
theorem own_stB (X : Stand p l e R s m args below meth c T locs cells slots) (hx : p.tables.exec = Jvm.exec) (hZ : Z.Warmed39 s.vm) (eT : T.heap = h) (A : own_A Z h a .byte vs) {j x : Int32} (hj : ¬ j < 0) {k : Nat} (hk : j.toNatClampNeg = k) (hl : k < vs.length) (N : Fr n0 locs) (ga : n0 ≤ a) (Sz : n0 ≤ h.size) {g : JFrame} (hg : g.method = m) {rest : List Value} (hs : g.stack = .int x :: .int j :: .ref a :: rest) (hd : decode c.code g.pc = .ok (.bastore, 1)) :
    ∃ T' h' locs', Stand p l e R s m args below meth c T' locs' cells slots ∧ Fr n0 locs' ∧ T'.heap = h' ∧ Wr h h' a k (.int (nar .byte x)) ∧ n0 ≤ h'.size ∧ own_A Z h' a .byte (vs.set k (.int (nar .byte x))) ∧ ∀ target, Steps p.tables e below (T'.setTop { g with pc := g.pc + 1, stack := rest }) target → Steps p.tables e below (T.setTop g) target := by
  obtain ⟨cl, Ar, r⟩ := id A
  subst hk
  obtain ⟨T', h', X', e', W, st⟩ := stB X hx hZ eT Ar (j := j) (x := x) (fun q => q.elim hj fun z => absurd hl (by rw [← own_A.size r]; omega)) hg hs hd
  exact ⟨T', h', _, X', Fr.snoc X' N ga, e', W, by rw [W.size]; exact Sz, A.set W, st⟩
theorem own_at {cl : Cell} (r : cl.slots.toList = vs) {k : Nat} {v : Value} (hv : vs[k]? = some v) : cl.slots[k]? = some v ∧ k < cl.slots.size := by
  subst r
  rw [Array.getElem?_toList] at hv
  exact ⟨hv, (Array.getElem?_eq_some_iff.mp hv).1⟩
theorem own_ldI (X : Stand p l e R s m args below meth c T locs cells slots) (hx : p.tables.exec = Jvm.exec) (hZ : Z.Warmed39 s.vm) (eT : T.heap = h) (A : own_A Z h a .int vs) {j : Int32} (hj : ¬ j < 0) {k : Nat} (hk : j.toNatClampNeg = k) {v : Value} (hv : vs[k]? = some v) {g : JFrame} (hg : g.method = m) {rest : List Value} (hs : g.stack = .int j :: .ref a :: rest) (hd : decode c.code g.pc = .ok (.iaload, 1)) (target : State)
    (hr : Steps p.tables e below (T.setTop { g with pc := g.pc + 1, stack := v :: rest }) target) : Steps p.tables e below (T.setTop g) target := by
  obtain ⟨cl, Ar, r⟩ := A
  obtain ⟨q1, q2⟩ := own_at r hv
  subst hk
  exact X.iaload hx (j := j) (v := v) (by rw [eT]; exact Ar.1) (State.isArrayOf_alike hZ.alike Ar.2.1) Ar.2.2 (fun z => z.elim hj fun z => by omega) q1 hg hs hd target hr
theorem own_ldJ (X : Stand p l e R s m args below meth c T locs cells slots) (hx : p.tables.exec = Jvm.exec) (hZ : Z.Warmed39 s.vm) (eT : T.heap = h) (A : own_A Z h a .long vs) {j : Int32} (hj : ¬ j < 0) {k : Nat} (hk : j.toNatClampNeg = k) {v : Value} (hv : vs[k]? = some v) {g : JFrame} (hg : g.method = m) {rest : List Value} (hs : g.stack = .int j :: .ref a :: rest) (hd : decode c.code g.pc = .ok (.laload, 1)) (target : State)
    (hr : Steps p.tables e below (T.setTop { g with pc := g.pc + 1, stack := v :: rest }) target) : Steps p.tables e below (T.setTop g) target := by
  obtain ⟨cl, Ar, r⟩ := A
  obtain ⟨q1, q2⟩ := own_at r hv
  subst hk
  exact X.laload hx (j := j) (v := v) (by rw [eT]; exact Ar.1) (State.isArrayOf_alike hZ.alike Ar.2.1) Ar.2.2 (fun z => z.elim hj fun z => by omega) q1 hg hs hd target hr
theorem own_ldB (X : Stand p l e R s m args below meth c T locs cells slots) (hx : p.tables.exec = Jvm.exec) (hZ : Z.Warmed39 s.vm) (eT : T.heap = h) (A : own_A Z h a .byte vs) {j : Int32} (hj : ¬ j < 0) {k : Nat} (hk : j.toNatClampNeg = k) {v : Value} (hv : vs[k]? = some v) {g : JFrame} (hg : g.method = m) {rest : List Value} (hs : g.stack = .int j :: .ref a :: rest) (hd : decode c.code g.pc = .ok (.baload, 1)) (target : State)
    (hr : Steps p.tables e below (T.setTop { g with pc := g.pc + 1, stack := v :: rest }) target) : Steps p.tables e below (T.setTop g) target := by
  obtain ⟨cl, Ar, r⟩ := A
  obtain ⟨q1, q2⟩ := own_at r hv
  subst hk
  exact X.baloadBytes hx (j := j) (v := v) (by rw [eT]; exact Ar.1) (State.isArrayOf_alike hZ.alike Ar.2.1) Ar.2.2 (fun z => z.elim hj fun z => by omega) q1 hg hs hd target hr
theorem own_len (X : Stand p l e R s m args below meth c T locs cells slots) (hx : p.tables.exec = Jvm.exec) (hZ : Z.Warmed39 s.vm) (eT : T.heap = h) (A : own_A Z h a ty vs) {n : Int32} (hn : vs.length.toInt32 = n) {g : JFrame} (hg : g.method = m) {rest : List Value} (hs : g.stack = .ref a :: rest) (hd : decode c.code g.pc = .ok (.arraylength, 1)) (target : State)
    (hr : Steps p.tables e below (T.setTop { g with pc := g.pc + 1, stack := .int n :: rest }) target) : Steps p.tables e below (T.setTop g) target := by
  obtain ⟨cl, Ar, r⟩ := A
  refine X.arraylength hx (by rw [eT]; exact Ar.1) (State.isArrayOf_alike hZ.alike Ar.2.1) hg hs hd target ?_
  rw [own_A.size r, hn]
  exact hr
end OwnArr
theorem own_at4 (y : Int32) : (y &&& (3 : Int32)) = (0 : Int32) ∨ (y &&& (3 : Int32)) = (1 : Int32) ∨ (y &&& (3 : Int32)) = (2 : Int32) ∨ (y &&& (3 : Int32)) = (3 : Int32) := by
  have h := c_mask y 3 2 (by decide) (by decide)
  have hv : y &&& (3 : Int32) = Int32.ofNat (y.toInt % 4).toNat := by
    apply Int32.toInt_inj.mp
    rw [h, Int32.toInt_ofNat_of_lt (by omega)]; omega
  have key : ∀ k : Fin 4, ∀ z : Int32, z = Int32.ofNat k.val → z = 0 ∨ z = 1 ∨ z = 2 ∨ z = 3 := by
    intro k z hz; subst hz; revert k; decide +kernel
  exact key ⟨(y.toInt % 4).toNat, by omega⟩ _ hv
theorem own_ix0 (p : Int32) (hp : p = 0 ∨ p = 1 ∨ p = 2 ∨ p = 3) : ¬ p < 0 ∧ p.toNatClampNeg = p.toNatClampNeg + 0 := by rcases hp with rfl | rfl | rfl | rfl <;> decide +kernel
theorem own_ix1 (p : Int32) (hp : p = 0 ∨ p = 1 ∨ p = 2 ∨ p = 3) : ¬ (p + (1 : Int32)) < 0 ∧ (p + (1 : Int32)).toNatClampNeg = p.toNatClampNeg + 1 := by rcases hp with rfl | rfl | rfl | rfl <;> decide +kernel
theorem own_ix2 (p : Int32) (hp : p = 0 ∨ p = 1 ∨ p = 2 ∨ p = 3) : ¬ ((p + (1 : Int32)) + (1 : Int32)) < 0 ∧ ((p + (1 : Int32)) + (1 : Int32)).toNatClampNeg = p.toNatClampNeg + 2 := by rcases hp with rfl | rfl | rfl | rfl <;> decide +kernel
theorem own_ix3 (p : Int32) (hp : p = 0 ∨ p = 1 ∨ p = 2 ∨ p = 3) : ¬ (((p + (1 : Int32)) + (1 : Int32)) + (1 : Int32)) < 0 ∧ (((p + (1 : Int32)) + (1 : Int32)) + (1 : Int32)).toNatClampNeg = p.toNatClampNeg + 3 := by rcases hp with rfl | rfl | rfl | rfl <;> decide +kernel
theorem own_ix4 (p : Int32) (hp : p = 0 ∨ p = 1 ∨ p = 2 ∨ p = 3) : ¬ ((((p + (1 : Int32)) + (1 : Int32)) + (1 : Int32)) + (1 : Int32)) < 0 ∧ ((((p + (1 : Int32)) + (1 : Int32)) + (1 : Int32)) + (1 : Int32)).toNatClampNeg = p.toNatClampNeg + 4 := by rcases hp with rfl | rfl | rfl | rfl <;> decide +kernel
theorem own_kl (p : Int32) (hp : p = 0 ∨ p = 1 ∨ p = 2 ∨ p = 3) {vs : List Value} (h : vs.length = 10) (i : Nat) (hi : i < 7) : p.toNatClampNeg + i < vs.length := by
  rw [h]
  have q : p.toNatClampNeg ≤ 3 := by rcases hp with rfl | rfl | rfl | rfl <;> decide +kernel
  omega

theorem d1_0 : decode prog_81_method_3_code 0 = .ok (.iload_n 0, 1) := by decide +kernel
theorem d1_1 : decode prog_81_method_3_code 1 = .ok (.istore_n 3, 1) := by decide +kernel
theorem d1_2 : decode prog_81_method_3_code 2 = .ok (.iload_n 3, 1) := by decide +kernel
theorem d1_3 : decode prog_81_method_3_code 3 = .ok (.sipush 128, 3) := by decide +kernel
theorem d1_6 : decode prog_81_method_3_code 6 = .ok (.if_icmp .lt 23, 3) := by decide +kernel
theorem d1_9 : decode prog_81_method_3_code 9 = .ok (.aload_n 1, 1) := by decide +kernel
theorem d1_10 : decode prog_81_method_3_code 10 = .ok (.iload_n 2, 1) := by decide +kernel
theorem d1_11 : decode prog_81_method_3_code 11 = .ok (.iinc 2 1, 3) := by decide +kernel
theorem d1_14 : decode prog_81_method_3_code 14 = .ok (.iload_n 3, 1) := by decide +kernel
theorem d1_15 : decode prog_81_method_3_code 15 = .ok (.sipush 128, 3) := by decide +kernel
theorem d1_18 : decode prog_81_method_3_code 18 = .ok (.ior, 1) := by decide +kernel
theorem d1_19 : decode prog_81_method_3_code 19 = .ok (.i2b, 1) := by decide +kernel
theorem d1_20 : decode prog_81_method_3_code 20 = .ok (.bastore, 1) := by decide +kernel
theorem d1_21 : decode prog_81_method_3_code 21 = .ok (.iload_n 3, 1) := by decide +kernel
theorem d1_22 : decode prog_81_method_3_code 22 = .ok (.bipush 7, 2) := by decide +kernel
theorem d1_24 : decode prog_81_method_3_code 24 = .ok (.iushr, 1) := by decide +kernel
theorem d1_25 : decode prog_81_method_3_code 25 = .ok (.istore_n 3, 1) := by decide +kernel
theorem d1_26 : decode prog_81_method_3_code 26 = .ok (.goto (-24), 3) := by decide +kernel
theorem d1_29 : decode prog_81_method_3_code 29 = .ok (.aload_n 1, 1) := by decide +kernel
theorem d1_30 : decode prog_81_method_3_code 30 = .ok (.iload_n 2, 1) := by decide +kernel
theorem d1_31 : decode prog_81_method_3_code 31 = .ok (.iinc 2 1, 3) := by decide +kernel
theorem d1_34 : decode prog_81_method_3_code 34 = .ok (.iload_n 3, 1) := by decide +kernel
theorem d1_35 : decode prog_81_method_3_code 35 = .ok (.i2b, 1) := by decide +kernel
theorem d1_36 : decode prog_81_method_3_code 36 = .ok (.bastore, 1) := by decide +kernel
theorem d1_37 : decode prog_81_method_3_code 37 = .ok (.iload_n 2, 1) := by decide +kernel
theorem d1_38 : decode prog_81_method_3_code 38 = .ok (.ireturn, 1) := by decide +kernel
theorem pn1 : plainName "hotstate/sort/VarInts" = true := by first | (simp [plainName, overriddenIn]; done) | decide +kernel
theorem pd1 : parseMethodDescriptor "(I[BI)I" = some ⟨[.int, (.array .byte), .int], some .int⟩ := by decide +kernel
theorem ef1 (m : MethodId) (p0 : Int32) (a1' : Addr) (p2 : Int32) : entryFrame m #[(.int p0), (.ref a1'), (.int p2)] 4 = mkF m 0 #[.val (.int p0), .val (.ref a1'), .val (.int p2), .unset] [] := by first | (simp [entryFrame, mkF, argsToLocals, Value.category]; done) | rfl
def f1n1_0 (p0 : Int32) (p2 : Int32) : Int32 :=
  (p2 + (1 : Int32))
set_option maxRecDepth 65536 in
set_option maxHeartbeats 4000000 in
theorem b1n1_0 {p : Program} {l : Launch} {e : Env} {s : State} {m : MethodId} {args : Array Value} {below : List Frame} {meth : Method} {c : Code} {T0 : State} {locs : List Loc} {Z : State} {a0 : Array Value} {h0 : Heap} {n0 : Nat} (p0 : Int32) (a1' : Addr) (p2 : Int32) (vs1 : List Value) {r : Int32} (X0 : Stand p l e ({ frames := 0, cells := 0, slots := 0, locals := 0 } : Room) s m args below meth c T0 locs 0 0) (hx : p.tables.exec = Jvm.exec) (hZ : Z.Warmed39 s.vm) (hw : ∀ d ∈ tables_1, d.before a0 Z = true) (hby : c.code = prog_81_method_3_code) (hml : c.maxLocals = 4) (hown : s.vm.findClass "hotstate/sort/VarInts" = some m.cls) (hret : meth.sig.returnType = some .int) (hlk : meth.locks = false) (e0 : T0.heap = h0) (N0 : Fr n0 locs) (A1 : own_A Z h0 a1' .byte vs1) (ga1 : n0 ≤ a1') (hl0 : vs1.length = 10) (hp4 : p2 = 0 ∨ p2 = 1 ∨ p2 = 2 ∨ p2 = 3) (hq0 : p0 < (128 : Int32)) (Z0 : n0 ≤ h0.size) (hr : r = f1n1_0 p0 p2) :
    own_Ends p e below s 0 0 (own_W Z (.int r) a1' ((vs1.set (p2.toNatClampNeg + 0) (.int (nar .byte (p0.toInt8.toInt32))))) n0) T0 (mkF m 0 #[.val (.int p0), .val (.ref a1'), .val (.int p2), .unset] []) := by
  unfold f1n1_0 at hr
  refine own_step (T' := T0) (f' := (mkF m 6 #[.val (.int p0), .val (.ref a1'), .val (.int p2), .val (.int p0)] [(.int (128 : Int32)), (.int p0)])) (fun t kt => ?_) ?_
  · show Steps p.tables e below (T0.setTop (mkF m 0 #[.val (.int p0), .val (.ref a1'), .val (.int p2), .unset] [])) _
    refine XS.iloadN X0.here hx rfl (hb hby d1_0) rfl ?_
    show Steps p.tables e below (T0.setTop (mkF m 1 #[.val (.int p0), .val (.ref a1'), .val (.int p2), .unset] [(.int p0)])) _
    refine XS.istoreN X0.here hx rfl (hb hby d1_1) rfl (l' := #[.val (.int p0), .val (.ref a1'), .val (.int p2), .val (.int p0)]) rfl ?_
    show Steps p.tables e below (T0.setTop (mkF m 2 #[.val (.int p0), .val (.ref a1'), .val (.int p2), .val (.int p0)] [])) _
    refine XS.iloadN X0.here hx rfl (hb hby d1_2) rfl ?_
    show Steps p.tables e below (T0.setTop (mkF m 3 #[.val (.int p0), .val (.ref a1'), .val (.int p2), .val (.int p0)] [(.int p0)])) _
    refine XS.sipush X0.here hx rfl (hb hby d1_3) ?_
    exact kt
  refine own_step (T' := T0) (f' := (mkF m 29 #[.val (.int p0), .val (.ref a1'), .val (.int p2), .val (.int p0)] [])) (fun t kt => ?_) ?_
  · show Steps p.tables e below (T0.setTop (mkF m 6 #[.val (.int p0), .val (.ref a1'), .val (.int p2), .val (.int p0)] [(.int (128 : Int32)), (.int p0)])) _
    refine XS.icmpYes X0.here hx rfl (pc0 := 6) (pc' := 29) rfl (hb hby d1_6) rfl (tlt hq0).1 (by decide) (by decide) kt
  refine own_step (T' := T0) (f' := (mkF m 36 #[.val (.int p0), .val (.ref a1'), .val (.int (p2 + (1 : Int32))), .val (.int p0)] [(.int (p0.toInt8.toInt32)), (.int p2), (.ref a1')])) (fun t kt => ?_) ?_
  · show Steps p.tables e below (T0.setTop (mkF m 29 #[.val (.int p0), .val (.ref a1'), .val (.int p2), .val (.int p0)] [])) _
    refine XS.aloadN X0.here hx rfl (hb hby d1_29) rfl rfl ?_
    show Steps p.tables e below (T0.setTop (mkF m 30 #[.val (.int p0), .val (.ref a1'), .val (.int p2), .val (.int p0)] [(.ref a1')])) _
    refine XS.iloadN X0.here hx rfl (hb hby d1_30) rfl ?_
    show Steps p.tables e below (T0.setTop (mkF m 31 #[.val (.int p0), .val (.ref a1'), .val (.int p2), .val (.int p0)] [(.int p2), (.ref a1')])) _
    refine XS.iinc X0.here hx rfl (hb hby d1_31) rfl (l' := #[.val (.int p0), .val (.ref a1'), .val (.int (p2 + (1 : Int32))), .val (.int p0)]) rfl ?_
    show Steps p.tables e below (T0.setTop (mkF m 34 #[.val (.int p0), .val (.ref a1'), .val (.int (p2 + (1 : Int32))), .val (.int p0)] [(.int p2), (.ref a1')])) _
    refine XS.iloadN X0.here hx rfl (hb hby d1_34) rfl ?_
    show Steps p.tables e below (T0.setTop (mkF m 35 #[.val (.int p0), .val (.ref a1'), .val (.int (p2 + (1 : Int32))), .val (.int p0)] [(.int p0), (.int p2), (.ref a1')])) _
    refine XS.i2b X0.here hx rfl (hb hby d1_35) rfl ?_
    exact kt
  obtain ⟨T2, h2, Lq2, X2, N2, e2, W2, Z2, Aq2, st2⟩ := own_stB X0 hx hZ e0 A1 (j := p2) (own_ix0 p2 hp4).1 (k := p2.toNatClampNeg + 0) (own_ix0 p2 hp4).2 (own_kl p2 hp4 hl0 0 (by decide)) N0 ga1 Z0 (g := (mkF m 36 #[.val (.int p0), .val (.ref a1'), .val (.int (p2 + (1 : Int32))), .val (.int p0)] [(.int (p0.toInt8.toInt32)), (.int p2), (.ref a1')])) rfl rfl (hb hby d1_36)
  refine own_step (T' := T2) (f' := (mkF m 37 #[.val (.int p0), .val (.ref a1'), .val (.int (p2 + (1 : Int32))), .val (.int p0)] [])) st2 ?_
  refine own_step (T' := T2) (f' := (mkF m 38 #[.val (.int p0), .val (.ref a1'), .val (.int (p2 + (1 : Int32))), .val (.int p0)] [(.int (p2 + (1 : Int32)))])) (fun t kt => ?_) ?_
  · show Steps p.tables e below (T2.setTop (mkF m 37 #[.val (.int p0), .val (.ref a1'), .val (.int (p2 + (1 : Int32))), .val (.int p0)] [])) _
    refine XS.iloadN X2.here hx rfl (hb hby d1_37) rfl ?_
    exact kt
  exact own_retI X2 hx hret hlk (hb hby d1_38) (by decide) (by decide) ⟨congrArg (fun z => some (Value.int z)) hr.symm, N2, (by rw [e2]; exact Aq2), (by rw [e2]; exact Z2)⟩
set_option maxRecDepth 65536 in
set_option maxHeartbeats 4000000 in
theorem rm1n1 (l : Launch) (Z : State) (a0 : Array Value) (hw : ∀ d ∈ tables_1, d.before a0 Z = true) (ws : List Jvm.Cond) (p0 : Int32) (a1' : Addr) (p2 : Int32) (vs1 : List Value) (h0 : Heap) (n0 : Nat) (A1 : own_A Z h0 a1' .byte vs1) (ga1 : n0 ≤ a1') (hl0 : vs1.length = 10) (hp4 : p2 = 0 ∨ p2 = 1 ∨ p2 = 2 ∨ p2 = 3) (hq0 : p0 < (128 : Int32)) (Z0 : n0 ≤ h0.size) :
    MetFree l (⟨"hotstate/sort/VarInts", "write", "(I[BI)I"⟩ : MethodName) (head1 (Jvm.Cond.code (⟨"hotstate/sort/VarInts", "write", "(I[BI)I"⟩ : MethodName) prog_81_method_3_code 4 (some .int) :: ws) ({ frames := 0, cells := 0, slots := 0, locals := 0 } : Room)) (fun a U => a = #[(.int p0), (.ref a1'), (.int p2)] ∧ Z.Warmed39 U.vm ∧ U.heap = h0) (fun _ _ _ _ _ => True) (fun _ U o U' => ∃ v L, o = .returned v ∧ (own_W Z (.int (f1n1_0 p0 p2)) a1' ((vs1.set (p2.toNatClampNeg + 0) (.int (nar .byte (p0.toInt8.toInt32))))) n0) v U'.heap L ∧ FrameEnd U o U' L ({ frames := 0, cells := 0, slots := 0, locals := 0 } : Room).cells ({ frames := 0, cells := 0, slots := 0, locals := 0 } : Room).slots) := by
  refine MetFree.of_bodySF (plainFor_of_name pn1) hisR ?_
  intro p e s m args below meth c s₁ Bd hml0 hP hK
  obtain ⟨rfl, hZ, hh⟩ := hP
  have hown : s.vm.findClass "hotstate/sort/VarInts" = some m.cls := findClass_of_methodNamed Bd.named
  have X0 : Stand p l e ({ frames := 0, cells := 0, slots := 0, locals := 0 } : Room) s m #[(.int p0), (.ref a1'), (.int p2)] below meth c s₁ [] 0 0 := Stand.of_body Bd
  have e0 : s₁.heap = h0 := by rw [← hh, Bd.state]; rfl
  show own_Ends p e below s 0 0 (own_W Z (.int (f1n1_0 p0 p2)) a1' ((vs1.set (p2.toNatClampNeg + 0) (.int (nar .byte (p0.toInt8.toInt32))))) n0) s₁ (entryFrame m #[(.int p0), (.ref a1'), (.int p2)] 4)
  refine own_step (fun t k => castTop (ef1 m p0 a1' p2) k) ?_
  exact b1n1_0 p0 a1' p2 vs1 X0 Bd.exec hZ hw Bd.bytes hml0 hown Bd.returns (BodyLoose.notSynchronized Bd) e0 (Fr.nil n0) A1 ga1 hl0 hp4 hq0 Z0 rfl
def f1n2_0 (p0 : Int32) (p2 : Int32) : Int32 :=
  ((p2 + (1 : Int32)) + (1 : Int32))
set_option maxRecDepth 65536 in
set_option maxHeartbeats 4000000 in
theorem b1n2_0 {p : Program} {l : Launch} {e : Env} {s : State} {m : MethodId} {args : Array Value} {below : List Frame} {meth : Method} {c : Code} {T0 : State} {locs : List Loc} {Z : State} {a0 : Array Value} {h0 : Heap} {n0 : Nat} (p0 : Int32) (a1' : Addr) (p2 : Int32) (vs1 : List Value) {r : Int32} (X0 : Stand p l e ({ frames := 0, cells := 0, slots := 0, locals := 0 } : Room) s m args below meth c T0 locs 0 0) (hx : p.tables.exec = Jvm.exec) (hZ : Z.Warmed39 s.vm) (hw : ∀ d ∈ tables_1, d.before a0 Z = true) (hby : c.code = prog_81_method_3_code) (hml : c.maxLocals = 4) (hown : s.vm.findClass "hotstate/sort/VarInts" = some m.cls) (hret : meth.sig.returnType = some .int) (hlk : meth.locks = false) (e0 : T0.heap = h0) (N0 : Fr n0 locs) (A1 : own_A Z h0 a1' .byte vs1) (ga1 : n0 ≤ a1') (hl0 : vs1.length = 10) (hp4 : p2 = 0 ∨ p2 = 1 ∨ p2 = 2 ∨ p2 = 3) (hq0 : ¬ (p0 < (128 : Int32))) (hq1 : ((p0.toUInt32 >>> ((7 : Int32) &&& 31).toUInt32).toInt32) < (128 : Int32)) (Z0 : n0 ≤ h0.size) (hr : r = f1n2_0 p0 p2) :
    own_Ends p e below s 0 0 (own_W Z (.int r) a1' (((vs1.set (p2.toNatClampNeg + 0) (.int (nar .byte ((p0 ||| (128 : Int32)).toInt8.toInt32)))).set (p2.toNatClampNeg + 1) (.int (nar .byte (((p0.toUInt32 >>> ((7 : Int32) &&& 31).toUInt32).toInt32).toInt8.toInt32))))) n0) T0 (mkF m 0 #[.val (.int p0), .val (.ref a1'), .val (.int p2), .unset] []) := by
  unfold f1n2_0 at hr
  refine own_step (T' := T0) (f' := (mkF m 6 #[.val (.int p0), .val (.ref a1'), .val (.int p2), .val (.int p0)] [(.int (128 : Int32)), (.int p0)])) (fun t kt => ?_) ?_
  · show Steps p.tables e below (T0.setTop (mkF m 0 #[.val (.int p0), .val (.ref a1'), .val (.int p2), .unset] [])) _
    refine XS.iloadN X0.here hx rfl (hb hby d1_0) rfl ?_
    show Steps p.tables e below (T0.setTop (mkF m 1 #[.val (.int p0), .val (.ref a1'), .val (.int p2), .unset] [(.int p0)])) _
    refine XS.istoreN X0.here hx rfl (hb hby d1_1) rfl (l' := #[.val (.int p0), .val (.ref a1'), .val (.int p2), .val (.int p0)]) rfl ?_
    show Steps p.tables e below (T0.setTop (mkF m 2 #[.val (.int p0), .val (.ref a1'), .val (.int p2), .val (.int p0)] [])) _
    refine XS.iloadN X0.here hx rfl (hb hby d1_2) rfl ?_
    show Steps p.tables e below (T0.setTop (mkF m 3 #[.val (.int p0), .val (.ref a1'), .val (.int p2), .val (.int p0)] [(.int p0)])) _
    refine XS.sipush X0.here hx rfl (hb hby d1_3) ?_
    exact kt
  refine own_step (T' := T0) (f' := (mkF m 9 #[.val (.int p0), .val (.ref a1'), .val (.int p2), .val (.int p0)] [])) (fun t kt => ?_) ?_
  · show Steps p.tables e below (T0.setTop (mkF m 6 #[.val (.int p0), .val (.ref a1'), .val (.int p2), .val (.int p0)] [(.int (128 : Int32)), (.int p0)])) _
    refine XS.icmpNo X0.here hx rfl (hb hby d1_6) rfl (flt hq0).1 kt
  refine own_step (T' := T0) (f' := (mkF m 20 #[.val (.int p0), .val (.ref a1'), .val (.int (p2 + (1 : Int32))), .val (.int p0)] [(.int ((p0 ||| (128 : Int32)).toInt8.toInt32)), (.int p2), (.ref a1')])) (fun t kt => ?_) ?_
  · show Steps p.tables e below (T0.setTop (mkF m 9 #[.val (.int p0), .val (.ref a1'), .val (.int p2), .val (.int p0)] [])) _
    refine XS.aloadN X0.here hx rfl (hb hby d1_9) rfl rfl ?_
    show Steps p.tables e below (T0.setTop (mkF m 10 #[.val (.int p0), .val (.ref a1'), .val (.int p2), .val (.int p0)] [(.ref a1')])) _
    refine XS.iloadN X0.here hx rfl (hb hby d1_10) rfl ?_
    show Steps p.tables e below (T0.setTop (mkF m 11 #[.val (.int p0), .val (.ref a1'), .val (.int p2), .val (.int p0)] [(.int p2), (.ref a1')])) _
    refine XS.iinc X0.here hx rfl (hb hby d1_11) rfl (l' := #[.val (.int p0), .val (.ref a1'), .val (.int (p2 + (1 : Int32))), .val (.int p0)]) rfl ?_
    show Steps p.tables e below (T0.setTop (mkF m 14 #[.val (.int p0), .val (.ref a1'), .val (.int (p2 + (1 : Int32))), .val (.int p0)] [(.int p2), (.ref a1')])) _
    refine XS.iloadN X0.here hx rfl (hb hby d1_14) rfl ?_
    show Steps p.tables e below (T0.setTop (mkF m 15 #[.val (.int p0), .val (.ref a1'), .val (.int (p2 + (1 : Int32))), .val (.int p0)] [(.int p0), (.int p2), (.ref a1')])) _
    refine XS.sipush X0.here hx rfl (hb hby d1_15) ?_
    show Steps p.tables e below (T0.setTop (mkF m 18 #[.val (.int p0), .val (.ref a1'), .val (.int (p2 + (1 : Int32))), .val (.int p0)] [(.int (128 : Int32)), (.int p0), (.int p2), (.ref a1')])) _
    refine XS.ior X0.here hx rfl (hb hby d1_18) rfl ?_
    show Steps p.tables e below (T0.setTop (mkF m 19 #[.val (.int p0), .val (.ref a1'), .val (.int (p2 + (1 : Int32))), .val (.int p0)] [(.int (p0 ||| (128 : Int32))), (.int p2), (.ref a1')])) _
    refine XS.i2b X0.here hx rfl (hb hby d1_19) rfl ?_
    exact kt
  obtain ⟨T2, h2, Lq2, X2, N2, e2, W2, Z2, Aq2, st2⟩ := own_stB X0 hx hZ e0 A1 (j := p2) (own_ix0 p2 hp4).1 (k := p2.toNatClampNeg + 0) (own_ix0 p2 hp4).2 (own_kl p2 hp4 hl0 0 (by decide)) N0 ga1 Z0 (g := (mkF m 20 #[.val (.int p0), .val (.ref a1'), .val (.int (p2 + (1 : Int32))), .val (.int p0)] [(.int ((p0 ||| (128 : Int32)).toInt8.toInt32)), (.int p2), (.ref a1')])) rfl rfl (hb hby d1_20)
  refine own_step (T' := T2) (f' := (mkF m 21 #[.val (.int p0), .val (.ref a1'), .val (.int (p2 + (1 : Int32))), .val (.int p0)] [])) st2 ?_
  refine own_step (T' := T2) (f' := (mkF m 6 #[.val (.int p0), .val (.ref a1'), .val (.int (p2 + (1 : Int32))), .val (.int ((p0.toUInt32 >>> ((7 : Int32) &&& 31).toUInt32).toInt32))] [(.int (128 : Int32)), (.int ((p0.toUInt32 >>> ((7 : Int32) &&& 31).toUInt32).toInt32))])) (fun t kt => ?_) ?_
  · show Steps p.tables e below (T2.setTop (mkF m 21 #[.val (.int p0), .val (.ref a1'), .val (.int (p2 + (1 : Int32))), .val (.int p0)] [])) _
    refine XS.iloadN X2.here hx rfl (hb hby d1_21) rfl ?_
    show Steps p.tables e below (T2.setTop (mkF m 22 #[.val (.int p0), .val (.ref a1'), .val (.int (p2 + (1 : Int32))), .val (.int p0)] [(.int p0)])) _
    refine XS.bipush X2.here hx rfl (hb hby d1_22) ?_
    show Steps p.tables e below (T2.setTop (mkF m 24 #[.val (.int p0), .val (.ref a1'), .val (.int (p2 + (1 : Int32))), .val (.int p0)] [(.int (7 : Int32)), (.int p0)])) _
    refine XS.iushr X2.here hx rfl (hb hby d1_24) rfl ?_
    show Steps p.tables e below (T2.setTop (mkF m 25 #[.val (.int p0), .val (.ref a1'), .val (.int (p2 + (1 : Int32))), .val (.int p0)] [(.int ((p0.toUInt32 >>> ((7 : Int32) &&& 31).toUInt32).toInt32))])) _
    refine XS.istoreN X2.here hx rfl (hb hby d1_25) rfl (l' := #[.val (.int p0), .val (.ref a1'), .val (.int (p2 + (1 : Int32))), .val (.int ((p0.toUInt32 >>> ((7 : Int32) &&& 31).toUInt32).toInt32))]) rfl ?_
    show Steps p.tables e below (T2.setTop (mkF m 26 #[.val (.int p0), .val (.ref a1'), .val (.int (p2 + (1 : Int32))), .val (.int ((p0.toUInt32 >>> ((7 : Int32) &&& 31).toUInt32).toInt32))] [])) _
    refine XS.goto X2.here hx rfl (pc0 := 26) (pc' := 2) rfl (hb hby d1_26) (by decide) (by decide) ?_
    show Steps p.tables e below (T2.setTop (mkF m 2 #[.val (.int p0), .val (.ref a1'), .val (.int (p2 + (1 : Int32))), .val (.int ((p0.toUInt32 >>> ((7 : Int32) &&& 31).toUInt32).toInt32))] [])) _
    refine XS.iloadN X2.here hx rfl (hb hby d1_2) rfl ?_
    show Steps p.tables e below (T2.setTop (mkF m 3 #[.val (.int p0), .val (.ref a1'), .val (.int (p2 + (1 : Int32))), .val (.int ((p0.toUInt32 >>> ((7 : Int32) &&& 31).toUInt32).toInt32))] [(.int ((p0.toUInt32 >>> ((7 : Int32) &&& 31).toUInt32).toInt32))])) _
    refine XS.sipush X2.here hx rfl (hb hby d1_3) ?_
    exact kt
  refine own_step (T' := T2) (f' := (mkF m 29 #[.val (.int p0), .val (.ref a1'), .val (.int (p2 + (1 : Int32))), .val (.int ((p0.toUInt32 >>> ((7 : Int32) &&& 31).toUInt32).toInt32))] [])) (fun t kt => ?_) ?_
  · show Steps p.tables e below (T2.setTop (mkF m 6 #[.val (.int p0), .val (.ref a1'), .val (.int (p2 + (1 : Int32))), .val (.int ((p0.toUInt32 >>> ((7 : Int32) &&& 31).toUInt32).toInt32))] [(.int (128 : Int32)), (.int ((p0.toUInt32 >>> ((7 : Int32) &&& 31).toUInt32).toInt32))])) _
    refine XS.icmpYes X2.here hx rfl (pc0 := 6) (pc' := 29) rfl (hb hby d1_6) rfl (tlt hq1).1 (by decide) (by decide) kt
  refine own_step (T' := T2) (f' := (mkF m 36 #[.val (.int p0), .val (.ref a1'), .val (.int ((p2 + (1 : Int32)) + (1 : Int32))), .val (.int ((p0.toUInt32 >>> ((7 : Int32) &&& 31).toUInt32).toInt32))] [(.int (((p0.toUInt32 >>> ((7 : Int32) &&& 31).toUInt32).toInt32).toInt8.toInt32)), (.int (p2 + (1 : Int32))), (.ref a1')])) (fun t kt => ?_) ?_
  · show Steps p.tables e below (T2.setTop (mkF m 29 #[.val (.int p0), .val (.ref a1'), .val (.int (p2 + (1 : Int32))), .val (.int ((p0.toUInt32 >>> ((7 : Int32) &&& 31).toUInt32).toInt32))] [])) _
    refine XS.aloadN X2.here hx rfl (hb hby d1_29) rfl rfl ?_
    show Steps p.tables e below (T2.setTop (mkF m 30 #[.val (.int p0), .val (.ref a1'), .val (.int (p2 + (1 : Int32))), .val (.int ((p0.toUInt32 >>> ((7 : Int32) &&& 31).toUInt32).toInt32))] [(.ref a1')])) _
    refine XS.iloadN X2.here hx rfl (hb hby d1_30) rfl ?_
    show Steps p.tables e below (T2.setTop (mkF m 31 #[.val (.int p0), .val (.ref a1'), .val (.int (p2 + (1 : Int32))), .val (.int ((p0.toUInt32 >>> ((7 : Int32) &&& 31).toUInt32).toInt32))] [(.int (p2 + (1 : Int32))), (.ref a1')])) _
    refine XS.iinc X2.here hx rfl (hb hby d1_31) rfl (l' := #[.val (.int p0), .val (.ref a1'), .val (.int ((p2 + (1 : Int32)) + (1 : Int32))), .val (.int ((p0.toUInt32 >>> ((7 : Int32) &&& 31).toUInt32).toInt32))]) rfl ?_
    show Steps p.tables e below (T2.setTop (mkF m 34 #[.val (.int p0), .val (.ref a1'), .val (.int ((p2 + (1 : Int32)) + (1 : Int32))), .val (.int ((p0.toUInt32 >>> ((7 : Int32) &&& 31).toUInt32).toInt32))] [(.int (p2 + (1 : Int32))), (.ref a1')])) _
    refine XS.iloadN X2.here hx rfl (hb hby d1_34) rfl ?_
    show Steps p.tables e below (T2.setTop (mkF m 35 #[.val (.int p0), .val (.ref a1'), .val (.int ((p2 + (1 : Int32)) + (1 : Int32))), .val (.int ((p0.toUInt32 >>> ((7 : Int32) &&& 31).toUInt32).toInt32))] [(.int ((p0.toUInt32 >>> ((7 : Int32) &&& 31).toUInt32).toInt32)), (.int (p2 + (1 : Int32))), (.ref a1')])) _
    refine XS.i2b X2.here hx rfl (hb hby d1_35) rfl ?_
    exact kt
  obtain ⟨T4, h4, Lq4, X4, N4, e4, W4, Z4, Aq4, st4⟩ := own_stB X2 hx hZ e2 Aq2 (j := (p2 + (1 : Int32))) (own_ix1 p2 hp4).1 (k := p2.toNatClampNeg + 1) (own_ix1 p2 hp4).2 (by simp only [List.length_set]; exact own_kl p2 hp4 hl0 1 (by decide)) N2 ga1 Z2 (g := (mkF m 36 #[.val (.int p0), .val (.ref a1'), .val (.int ((p2 + (1 : Int32)) + (1 : Int32))), .val (.int ((p0.toUInt32 >>> ((7 : Int32) &&& 31).toUInt32).toInt32))] [(.int (((p0.toUInt32 >>> ((7 : Int32) &&& 31).toUInt32).toInt32).toInt8.toInt32)), (.int (p2 + (1 : Int32))), (.ref a1')])) rfl rfl (hb hby d1_36)
  refine own_step (T' := T4) (f' := (mkF m 37 #[.val (.int p0), .val (.ref a1'), .val (.int ((p2 + (1 : Int32)) + (1 : Int32))), .val (.int ((p0.toUInt32 >>> ((7 : Int32) &&& 31).toUInt32).toInt32))] [])) st4 ?_
  refine own_step (T' := T4) (f' := (mkF m 38 #[.val (.int p0), .val (.ref a1'), .val (.int ((p2 + (1 : Int32)) + (1 : Int32))), .val (.int ((p0.toUInt32 >>> ((7 : Int32) &&& 31).toUInt32).toInt32))] [(.int ((p2 + (1 : Int32)) + (1 : Int32)))])) (fun t kt => ?_) ?_
  · show Steps p.tables e below (T4.setTop (mkF m 37 #[.val (.int p0), .val (.ref a1'), .val (.int ((p2 + (1 : Int32)) + (1 : Int32))), .val (.int ((p0.toUInt32 >>> ((7 : Int32) &&& 31).toUInt32).toInt32))] [])) _
    refine XS.iloadN X4.here hx rfl (hb hby d1_37) rfl ?_
    exact kt
  exact own_retI X4 hx hret hlk (hb hby d1_38) (by decide) (by decide) ⟨congrArg (fun z => some (Value.int z)) hr.symm, N4, (by rw [e4]; exact Aq4), (by rw [e4]; exact Z4)⟩
set_option maxRecDepth 65536 in
set_option maxHeartbeats 4000000 in
theorem rm1n2 (l : Launch) (Z : State) (a0 : Array Value) (hw : ∀ d ∈ tables_1, d.before a0 Z = true) (ws : List Jvm.Cond) (p0 : Int32) (a1' : Addr) (p2 : Int32) (vs1 : List Value) (h0 : Heap) (n0 : Nat) (A1 : own_A Z h0 a1' .byte vs1) (ga1 : n0 ≤ a1') (hl0 : vs1.length = 10) (hp4 : p2 = 0 ∨ p2 = 1 ∨ p2 = 2 ∨ p2 = 3) (hq0 : ¬ (p0 < (128 : Int32))) (hq1 : ((p0.toUInt32 >>> ((7 : Int32) &&& 31).toUInt32).toInt32) < (128 : Int32)) (Z0 : n0 ≤ h0.size) :
    MetFree l (⟨"hotstate/sort/VarInts", "write", "(I[BI)I"⟩ : MethodName) (head1 (Jvm.Cond.code (⟨"hotstate/sort/VarInts", "write", "(I[BI)I"⟩ : MethodName) prog_81_method_3_code 4 (some .int) :: ws) ({ frames := 0, cells := 0, slots := 0, locals := 0 } : Room)) (fun a U => a = #[(.int p0), (.ref a1'), (.int p2)] ∧ Z.Warmed39 U.vm ∧ U.heap = h0) (fun _ _ _ _ _ => True) (fun _ U o U' => ∃ v L, o = .returned v ∧ (own_W Z (.int (f1n2_0 p0 p2)) a1' (((vs1.set (p2.toNatClampNeg + 0) (.int (nar .byte ((p0 ||| (128 : Int32)).toInt8.toInt32)))).set (p2.toNatClampNeg + 1) (.int (nar .byte (((p0.toUInt32 >>> ((7 : Int32) &&& 31).toUInt32).toInt32).toInt8.toInt32))))) n0) v U'.heap L ∧ FrameEnd U o U' L ({ frames := 0, cells := 0, slots := 0, locals := 0 } : Room).cells ({ frames := 0, cells := 0, slots := 0, locals := 0 } : Room).slots) := by
  refine MetFree.of_bodySF (plainFor_of_name pn1) hisR ?_
  intro p e s m args below meth c s₁ Bd hml0 hP hK
  obtain ⟨rfl, hZ, hh⟩ := hP
  have hown : s.vm.findClass "hotstate/sort/VarInts" = some m.cls := findClass_of_methodNamed Bd.named
  have X0 : Stand p l e ({ frames := 0, cells := 0, slots := 0, locals := 0 } : Room) s m #[(.int p0), (.ref a1'), (.int p2)] below meth c s₁ [] 0 0 := Stand.of_body Bd
  have e0 : s₁.heap = h0 := by rw [← hh, Bd.state]; rfl
  show own_Ends p e below s 0 0 (own_W Z (.int (f1n2_0 p0 p2)) a1' (((vs1.set (p2.toNatClampNeg + 0) (.int (nar .byte ((p0 ||| (128 : Int32)).toInt8.toInt32)))).set (p2.toNatClampNeg + 1) (.int (nar .byte (((p0.toUInt32 >>> ((7 : Int32) &&& 31).toUInt32).toInt32).toInt8.toInt32))))) n0) s₁ (entryFrame m #[(.int p0), (.ref a1'), (.int p2)] 4)
  refine own_step (fun t k => castTop (ef1 m p0 a1' p2) k) ?_
  exact b1n2_0 p0 a1' p2 vs1 X0 Bd.exec hZ hw Bd.bytes hml0 hown Bd.returns (BodyLoose.notSynchronized Bd) e0 (Fr.nil n0) A1 ga1 hl0 hp4 hq0 hq1 Z0 rfl
def f1n3_0 (p0 : Int32) (p2 : Int32) : Int32 :=
  (((p2 + (1 : Int32)) + (1 : Int32)) + (1 : Int32))
set_option maxRecDepth 65536 in
set_option maxHeartbeats 4000000 in
theorem b1n3_0 {p : Program} {l : Launch} {e : Env} {s : State} {m : MethodId} {args : Array Value} {below : List Frame} {meth : Method} {c : Code} {T0 : State} {locs : List Loc} {Z : State} {a0 : Array Value} {h0 : Heap} {n0 : Nat} (p0 : Int32) (a1' : Addr) (p2 : Int32) (vs1 : List Value) {r : Int32} (X0 : Stand p l e ({ frames := 0, cells := 0, slots := 0, locals := 0 } : Room) s m args below meth c T0 locs 0 0) (hx : p.tables.exec = Jvm.exec) (hZ : Z.Warmed39 s.vm) (hw : ∀ d ∈ tables_1, d.before a0 Z = true) (hby : c.code = prog_81_method_3_code) (hml : c.maxLocals = 4) (hown : s.vm.findClass "hotstate/sort/VarInts" = some m.cls) (hret : meth.sig.returnType = some .int) (hlk : meth.locks = false) (e0 : T0.heap = h0) (N0 : Fr n0 locs) (A1 : own_A Z h0 a1' .byte vs1) (ga1 : n0 ≤ a1') (hl0 : vs1.length = 10) (hp4 : p2 = 0 ∨ p2 = 1 ∨ p2 = 2 ∨ p2 = 3) (hq0 : ¬ (p0 < (128 : Int32))) (hq1 : ¬ (((p0.toUInt32 >>> ((7 : Int32) &&& 31).toUInt32).toInt32) < (128 : Int32))) (hq2 : ((((p0.toUInt32 >>> ((7 : Int32) &&& 31).toUInt32).toInt32).toUInt32 >>> ((7 : Int32) &&& 31).toUInt32).toInt32) < (128 : Int32)) (Z0 : n0 ≤ h0.size) (hr : r = f1n3_0 p0 p2) :
    own_Ends p e below s 0 0 (own_W Z (.int r) a1' ((((vs1.set (p2.toNatClampNeg + 0) (.int (nar .byte ((p0 ||| (128 : Int32)).toInt8.toInt32)))).set (p2.toNatClampNeg + 1) (.int (nar .byte ((((p0.toUInt32 >>> ((7 : Int32) &&& 31).toUInt32).toInt32) ||| (128 : Int32)).toInt8.toInt32)))).set (p2.toNatClampNeg + 2) (.int (nar .byte (((((p0.toUInt32 >>> ((7 : Int32) &&& 31).toUInt32).toInt32).toUInt32 >>> ((7 : Int32) &&& 31).toUInt32).toInt32).toInt8.toInt32))))) n0) T0 (mkF m 0 #[.val (.int p0), .val (.ref a1'), .val (.int p2), .unset] []) := by
  unfold f1n3_0 at hr
  refine own_step (T' := T0) (f' := (mkF m 6 #[.val (.int p0), .val (.ref a1'), .val (.int p2), .val (.int p0)] [(.int (128 : Int32)), (.int p0)])) (fun t kt => ?_) ?_
  · show Steps p.tables e below (T0.setTop (mkF m 0 #[.val (.int p0), .val (.ref a1'), .val (.int p2), .unset] [])) _
    refine XS.iloadN X0.here hx rfl (hb hby d1_0) rfl ?_
    show Steps p.tables e below (T0.setTop (mkF m 1 #[.val (.int p0), .val (.ref a1'), .val (.int p2), .unset] [(.int p0)])) _
    refine XS.istoreN X0.here hx rfl (hb hby d1_1) rfl (l' := #[.val (.int p0), .val (.ref a1'), .val (.int p2), .val (.int p0)]) rfl ?_
    show Steps p.tables e below (T0.setTop (mkF m 2 #[.val (.int p0), .val (.ref a1'), .val (.int p2), .val (.int p0)] [])) _
    refine XS.iloadN X0.here hx rfl (hb hby d1_2) rfl ?_
    show Steps p.tables e below (T0.setTop (mkF m 3 #[.val (.int p0), .val (.ref a1'), .val (.int p2), .val (.int p0)] [(.int p0)])) _
    refine XS.sipush X0.here hx rfl (hb hby d1_3) ?_
    exact kt
  refine own_step (T' := T0) (f' := (mkF m 9 #[.val (.int p0), .val (.ref a1'), .val (.int p2), .val (.int p0)] [])) (fun t kt => ?_) ?_
  · show Steps p.tables e below (T0.setTop (mkF m 6 #[.val (.int p0), .val (.ref a1'), .val (.int p2), .val (.int p0)] [(.int (128 : Int32)), (.int p0)])) _
    refine XS.icmpNo X0.here hx rfl (hb hby d1_6) rfl (flt hq0).1 kt
  refine own_step (T' := T0) (f' := (mkF m 20 #[.val (.int p0), .val (.ref a1'), .val (.int (p2 + (1 : Int32))), .val (.int p0)] [(.int ((p0 ||| (128 : Int32)).toInt8.toInt32)), (.int p2), (.ref a1')])) (fun t kt => ?_) ?_
  · show Steps p.tables e below (T0.setTop (mkF m 9 #[.val (.int p0), .val (.ref a1'), .val (.int p2), .val (.int p0)] [])) _
    refine XS.aloadN X0.here hx rfl (hb hby d1_9) rfl rfl ?_
    show Steps p.tables e below (T0.setTop (mkF m 10 #[.val (.int p0), .val (.ref a1'), .val (.int p2), .val (.int p0)] [(.ref a1')])) _
    refine XS.iloadN X0.here hx rfl (hb hby d1_10) rfl ?_
    show Steps p.tables e below (T0.setTop (mkF m 11 #[.val (.int p0), .val (.ref a1'), .val (.int p2), .val (.int p0)] [(.int p2), (.ref a1')])) _
    refine XS.iinc X0.here hx rfl (hb hby d1_11) rfl (l' := #[.val (.int p0), .val (.ref a1'), .val (.int (p2 + (1 : Int32))), .val (.int p0)]) rfl ?_
    show Steps p.tables e below (T0.setTop (mkF m 14 #[.val (.int p0), .val (.ref a1'), .val (.int (p2 + (1 : Int32))), .val (.int p0)] [(.int p2), (.ref a1')])) _
    refine XS.iloadN X0.here hx rfl (hb hby d1_14) rfl ?_
    show Steps p.tables e below (T0.setTop (mkF m 15 #[.val (.int p0), .val (.ref a1'), .val (.int (p2 + (1 : Int32))), .val (.int p0)] [(.int p0), (.int p2), (.ref a1')])) _
    refine XS.sipush X0.here hx rfl (hb hby d1_15) ?_
    show Steps p.tables e below (T0.setTop (mkF m 18 #[.val (.int p0), .val (.ref a1'), .val (.int (p2 + (1 : Int32))), .val (.int p0)] [(.int (128 : Int32)), (.int p0), (.int p2), (.ref a1')])) _
    refine XS.ior X0.here hx rfl (hb hby d1_18) rfl ?_
    show Steps p.tables e below (T0.setTop (mkF m 19 #[.val (.int p0), .val (.ref a1'), .val (.int (p2 + (1 : Int32))), .val (.int p0)] [(.int (p0 ||| (128 : Int32))), (.int p2), (.ref a1')])) _
    refine XS.i2b X0.here hx rfl (hb hby d1_19) rfl ?_
    exact kt
  obtain ⟨T2, h2, Lq2, X2, N2, e2, W2, Z2, Aq2, st2⟩ := own_stB X0 hx hZ e0 A1 (j := p2) (own_ix0 p2 hp4).1 (k := p2.toNatClampNeg + 0) (own_ix0 p2 hp4).2 (own_kl p2 hp4 hl0 0 (by decide)) N0 ga1 Z0 (g := (mkF m 20 #[.val (.int p0), .val (.ref a1'), .val (.int (p2 + (1 : Int32))), .val (.int p0)] [(.int ((p0 ||| (128 : Int32)).toInt8.toInt32)), (.int p2), (.ref a1')])) rfl rfl (hb hby d1_20)
  refine own_step (T' := T2) (f' := (mkF m 21 #[.val (.int p0), .val (.ref a1'), .val (.int (p2 + (1 : Int32))), .val (.int p0)] [])) st2 ?_
  refine own_step (T' := T2) (f' := (mkF m 6 #[.val (.int p0), .val (.ref a1'), .val (.int (p2 + (1 : Int32))), .val (.int ((p0.toUInt32 >>> ((7 : Int32) &&& 31).toUInt32).toInt32))] [(.int (128 : Int32)), (.int ((p0.toUInt32 >>> ((7 : Int32) &&& 31).toUInt32).toInt32))])) (fun t kt => ?_) ?_
  · show Steps p.tables e below (T2.setTop (mkF m 21 #[.val (.int p0), .val (.ref a1'), .val (.int (p2 + (1 : Int32))), .val (.int p0)] [])) _
    refine XS.iloadN X2.here hx rfl (hb hby d1_21) rfl ?_
    show Steps p.tables e below (T2.setTop (mkF m 22 #[.val (.int p0), .val (.ref a1'), .val (.int (p2 + (1 : Int32))), .val (.int p0)] [(.int p0)])) _
    refine XS.bipush X2.here hx rfl (hb hby d1_22) ?_
    show Steps p.tables e below (T2.setTop (mkF m 24 #[.val (.int p0), .val (.ref a1'), .val (.int (p2 + (1 : Int32))), .val (.int p0)] [(.int (7 : Int32)), (.int p0)])) _
    refine XS.iushr X2.here hx rfl (hb hby d1_24) rfl ?_
    show Steps p.tables e below (T2.setTop (mkF m 25 #[.val (.int p0), .val (.ref a1'), .val (.int (p2 + (1 : Int32))), .val (.int p0)] [(.int ((p0.toUInt32 >>> ((7 : Int32) &&& 31).toUInt32).toInt32))])) _
    refine XS.istoreN X2.here hx rfl (hb hby d1_25) rfl (l' := #[.val (.int p0), .val (.ref a1'), .val (.int (p2 + (1 : Int32))), .val (.int ((p0.toUInt32 >>> ((7 : Int32) &&& 31).toUInt32).toInt32))]) rfl ?_
    show Steps p.tables e below (T2.setTop (mkF m 26 #[.val (.int p0), .val (.ref a1'), .val (.int (p2 + (1 : Int32))), .val (.int ((p0.toUInt32 >>> ((7 : Int32) &&& 31).toUInt32).toInt32))] [])) _
    refine XS.goto X2.here hx rfl (pc0 := 26) (pc' := 2) rfl (hb hby d1_26) (by decide) (by decide) ?_
    show Steps p.tables e below (T2.setTop (mkF m 2 #[.val (.int p0), .val (.ref a1'), .val (.int (p2 + (1 : Int32))), .val (.int ((p0.toUInt32 >>> ((7 : Int32) &&& 31).toUInt32).toInt32))] [])) _
    refine XS.iloadN X2.here hx rfl (hb hby d1_2) rfl ?_
    show Steps p.tables e below (T2.setTop (mkF m 3 #[.val (.int p0), .val (.ref a1'), .val (.int (p2 + (1 : Int32))), .val (.int ((p0.toUInt32 >>> ((7 : Int32) &&& 31).toUInt32).toInt32))] [(.int ((p0.toUInt32 >>> ((7 : Int32) &&& 31).toUInt32).toInt32))])) _
    refine XS.sipush X2.here hx rfl (hb hby d1_3) ?_
    exact kt
  refine own_step (T' := T2) (f' := (mkF m 9 #[.val (.int p0), .val (.ref a1'), .val (.int (p2 + (1 : Int32))), .val (.int ((p0.toUInt32 >>> ((7 : Int32) &&& 31).toUInt32).toInt32))] [])) (fun t kt => ?_) ?_
  · show Steps p.tables e below (T2.setTop (mkF m 6 #[.val (.int p0), .val (.ref a1'), .val (.int (p2 + (1 : Int32))), .val (.int ((p0.toUInt32 >>> ((7 : Int32) &&& 31).toUInt32).toInt32))] [(.int (128 : Int32)), (.int ((p0.toUInt32 >>> ((7 : Int32) &&& 31).toUInt32).toInt32))])) _
    refine XS.icmpNo X2.here hx rfl (hb hby d1_6) rfl (flt hq1).1 kt
  refine own_step (T' := T2) (f' := (mkF m 20 #[.val (.int p0), .val (.ref a1'), .val (.int ((p2 + (1 : Int32)) + (1 : Int32))), .val (.int ((p0.toUInt32 >>> ((7 : Int32) &&& 31).toUInt32).toInt32))] [(.int ((((p0.toUInt32 >>> ((7 : Int32) &&& 31).toUInt32).toInt32) ||| (128 : Int32)).toInt8.toInt32)), (.int (p2 + (1 : Int32))), (.ref a1')])) (fun t kt => ?_) ?_
  · show Steps p.tables e below (T2.setTop (mkF m 9 #[.val (.int p0), .val (.ref a1'), .val (.int (p2 + (1 : Int32))), .val (.int ((p0.toUInt32 >>> ((7 : Int32) &&& 31).toUInt32).toInt32))] [])) _
    refine XS.aloadN X2.here hx rfl (hb hby d1_9) rfl rfl ?_
    show Steps p.tables e below (T2.setTop (mkF m 10 #[.val (.int p0), .val (.ref a1'), .val (.int (p2 + (1 : Int32))), .val (.int ((p0.toUInt32 >>> ((7 : Int32) &&& 31).toUInt32).toInt32))] [(.ref a1')])) _
    refine XS.iloadN X2.here hx rfl (hb hby d1_10) rfl ?_
    show Steps p.tables e below (T2.setTop (mkF m 11 #[.val (.int p0), .val (.ref a1'), .val (.int (p2 + (1 : Int32))), .val (.int ((p0.toUInt32 >>> ((7 : Int32) &&& 31).toUInt32).toInt32))] [(.int (p2 + (1 : Int32))), (.ref a1')])) _
    refine XS.iinc X2.here hx rfl (hb hby d1_11) rfl (l' := #[.val (.int p0), .val (.ref a1'), .val (.int ((p2 + (1 : Int32)) + (1 : Int32))), .val (.int ((p0.toUInt32 >>> ((7 : Int32) &&& 31).toUInt32).toInt32))]) rfl ?_
    show Steps p.tables e below (T2.setTop (mkF m 14 #[.val (.int p0), .val (.ref a1'), .val (.int ((p2 + (1 : Int32)) + (1 : Int32))), .val (.int ((p0.toUInt32 >>> ((7 : Int32) &&& 31).toUInt32).toInt32))] [(.int (p2 + (1 : Int32))), (.ref a1')])) _
    refine XS.iloadN X2.here hx rfl (hb hby d1_14) rfl ?_
    show Steps p.tables e below (T2.setTop (mkF m 15 #[.val (.int p0), .val (.ref a1'), .val (.int ((p2 + (1 : Int32)) + (1 : Int32))), .val (.int ((p0.toUInt32 >>> ((7 : Int32) &&& 31).toUInt32).toInt32))] [(.int ((p0.toUInt32 >>> ((7 : Int32) &&& 31).toUInt32).toInt32)), (.int (p2 + (1 : Int32))), (.ref a1')])) _
    refine XS.sipush X2.here hx rfl (hb hby d1_15) ?_
    show Steps p.tables e below (T2.setTop (mkF m 18 #[.val (.int p0), .val (.ref a1'), .val (.int ((p2 + (1 : Int32)) + (1 : Int32))), .val (.int ((p0.toUInt32 >>> ((7 : Int32) &&& 31).toUInt32).toInt32))] [(.int (128 : Int32)), (.int ((p0.toUInt32 >>> ((7 : Int32) &&& 31).toUInt32).toInt32)), (.int (p2 + (1 : Int32))), (.ref a1')])) _
    refine XS.ior X2.here hx rfl (hb hby d1_18) rfl ?_
    show Steps p.tables e below (T2.setTop (mkF m 19 #[.val (.int p0), .val (.ref a1'), .val (.int ((p2 + (1 : Int32)) + (1 : Int32))), .val (.int ((p0.toUInt32 >>> ((7 : Int32) &&& 31).toUInt32).toInt32))] [(.int (((p0.toUInt32 >>> ((7 : Int32) &&& 31).toUInt32).toInt32) ||| (128 : Int32))), (.int (p2 + (1 : Int32))), (.ref a1')])) _
    refine XS.i2b X2.here hx rfl (hb hby d1_19) rfl ?_
    exact kt
  obtain ⟨T4, h4, Lq4, X4, N4, e4, W4, Z4, Aq4, st4⟩ := own_stB X2 hx hZ e2 Aq2 (j := (p2 + (1 : Int32))) (own_ix1 p2 hp4).1 (k := p2.toNatClampNeg + 1) (own_ix1 p2 hp4).2 (by simp only [List.length_set]; exact own_kl p2 hp4 hl0 1 (by decide)) N2 ga1 Z2 (g := (mkF m 20 #[.val (.int p0), .val (.ref a1'), .val (.int ((p2 + (1 : Int32)) + (1 : Int32))), .val (.int ((p0.toUInt32 >>> ((7 : Int32) &&& 31).toUInt32).toInt32))] [(.int ((((p0.toUInt32 >>> ((7 : Int32) &&& 31).toUInt32).toInt32) ||| (128 : Int32)).toInt8.toInt32)), (.int (p2 + (1 : Int32))), (.ref a1')])) rfl rfl (hb hby d1_20)
  refine own_step (T' := T4) (f' := (mkF m 21 #[.val (.int p0), .val (.ref a1'), .val (.int ((p2 + (1 : Int32)) + (1 : Int32))), .val (.int ((p0.toUInt32 >>> ((7 : Int32) &&& 31).toUInt32).toInt32))] [])) st4 ?_
  refine own_step (T' := T4) (f' := (mkF m 6 #[.val (.int p0), .val (.ref a1'), .val (.int ((p2 + (1 : Int32)) + (1 : Int32))), .val (.int ((((p0.toUInt32 >>> ((7 : Int32) &&& 31).toUInt32).toInt32).toUInt32 >>> ((7 : Int32) &&& 31).toUInt32).toInt32))] [(.int (128 : Int32)), (.int ((((p0.toUInt32 >>> ((7 : Int32) &&& 31).toUInt32).toInt32).toUInt32 >>> ((7 : Int32) &&& 31).toUInt32).toInt32))])) (fun t kt => ?_) ?_
  · show Steps p.tables e below (T4.setTop (mkF m 21 #[.val (.int p0), .val (.ref a1'), .val (.int ((p2 + (1 : Int32)) + (1 : Int32))), .val (.int ((p0.toUInt32 >>> ((7 : Int32) &&& 31).toUInt32).toInt32))] [])) _
    refine XS.iloadN X4.here hx rfl (hb hby d1_21) rfl ?_
    show Steps p.tables e below (T4.setTop (mkF m 22 #[.val (.int p0), .val (.ref a1'), .val (.int ((p2 + (1 : Int32)) + (1 : Int32))), .val (.int ((p0.toUInt32 >>> ((7 : Int32) &&& 31).toUInt32).toInt32))] [(.int ((p0.toUInt32 >>> ((7 : Int32) &&& 31).toUInt32).toInt32))])) _
    refine XS.bipush X4.here hx rfl (hb hby d1_22) ?_
    show Steps p.tables e below (T4.setTop (mkF m 24 #[.val (.int p0), .val (.ref a1'), .val (.int ((p2 + (1 : Int32)) + (1 : Int32))), .val (.int ((p0.toUInt32 >>> ((7 : Int32) &&& 31).toUInt32).toInt32))] [(.int (7 : Int32)), (.int ((p0.toUInt32 >>> ((7 : Int32) &&& 31).toUInt32).toInt32))])) _
    refine XS.iushr X4.here hx rfl (hb hby d1_24) rfl ?_
    show Steps p.tables e below (T4.setTop (mkF m 25 #[.val (.int p0), .val (.ref a1'), .val (.int ((p2 + (1 : Int32)) + (1 : Int32))), .val (.int ((p0.toUInt32 >>> ((7 : Int32) &&& 31).toUInt32).toInt32))] [(.int ((((p0.toUInt32 >>> ((7 : Int32) &&& 31).toUInt32).toInt32).toUInt32 >>> ((7 : Int32) &&& 31).toUInt32).toInt32))])) _
    refine XS.istoreN X4.here hx rfl (hb hby d1_25) rfl (l' := #[.val (.int p0), .val (.ref a1'), .val (.int ((p2 + (1 : Int32)) + (1 : Int32))), .val (.int ((((p0.toUInt32 >>> ((7 : Int32) &&& 31).toUInt32).toInt32).toUInt32 >>> ((7 : Int32) &&& 31).toUInt32).toInt32))]) rfl ?_
    show Steps p.tables e below (T4.setTop (mkF m 26 #[.val (.int p0), .val (.ref a1'), .val (.int ((p2 + (1 : Int32)) + (1 : Int32))), .val (.int ((((p0.toUInt32 >>> ((7 : Int32) &&& 31).toUInt32).toInt32).toUInt32 >>> ((7 : Int32) &&& 31).toUInt32).toInt32))] [])) _
    refine XS.goto X4.here hx rfl (pc0 := 26) (pc' := 2) rfl (hb hby d1_26) (by decide) (by decide) ?_
    show Steps p.tables e below (T4.setTop (mkF m 2 #[.val (.int p0), .val (.ref a1'), .val (.int ((p2 + (1 : Int32)) + (1 : Int32))), .val (.int ((((p0.toUInt32 >>> ((7 : Int32) &&& 31).toUInt32).toInt32).toUInt32 >>> ((7 : Int32) &&& 31).toUInt32).toInt32))] [])) _
    refine XS.iloadN X4.here hx rfl (hb hby d1_2) rfl ?_
    show Steps p.tables e below (T4.setTop (mkF m 3 #[.val (.int p0), .val (.ref a1'), .val (.int ((p2 + (1 : Int32)) + (1 : Int32))), .val (.int ((((p0.toUInt32 >>> ((7 : Int32) &&& 31).toUInt32).toInt32).toUInt32 >>> ((7 : Int32) &&& 31).toUInt32).toInt32))] [(.int ((((p0.toUInt32 >>> ((7 : Int32) &&& 31).toUInt32).toInt32).toUInt32 >>> ((7 : Int32) &&& 31).toUInt32).toInt32))])) _
    refine XS.sipush X4.here hx rfl (hb hby d1_3) ?_
    exact kt
  refine own_step (T' := T4) (f' := (mkF m 29 #[.val (.int p0), .val (.ref a1'), .val (.int ((p2 + (1 : Int32)) + (1 : Int32))), .val (.int ((((p0.toUInt32 >>> ((7 : Int32) &&& 31).toUInt32).toInt32).toUInt32 >>> ((7 : Int32) &&& 31).toUInt32).toInt32))] [])) (fun t kt => ?_) ?_
  · show Steps p.tables e below (T4.setTop (mkF m 6 #[.val (.int p0), .val (.ref a1'), .val (.int ((p2 + (1 : Int32)) + (1 : Int32))), .val (.int ((((p0.toUInt32 >>> ((7 : Int32) &&& 31).toUInt32).toInt32).toUInt32 >>> ((7 : Int32) &&& 31).toUInt32).toInt32))] [(.int (128 : Int32)), (.int ((((p0.toUInt32 >>> ((7 : Int32) &&& 31).toUInt32).toInt32).toUInt32 >>> ((7 : Int32) &&& 31).toUInt32).toInt32))])) _
    refine XS.icmpYes X4.here hx rfl (pc0 := 6) (pc' := 29) rfl (hb hby d1_6) rfl (tlt hq2).1 (by decide) (by decide) kt
  refine own_step (T' := T4) (f' := (mkF m 36 #[.val (.int p0), .val (.ref a1'), .val (.int (((p2 + (1 : Int32)) + (1 : Int32)) + (1 : Int32))), .val (.int ((((p0.toUInt32 >>> ((7 : Int32) &&& 31).toUInt32).toInt32).toUInt32 >>> ((7 : Int32) &&& 31).toUInt32).toInt32))] [(.int (((((p0.toUInt32 >>> ((7 : Int32) &&& 31).toUInt32).toInt32).toUInt32 >>> ((7 : Int32) &&& 31).toUInt32).toInt32).toInt8.toInt32)), (.int ((p2 + (1 : Int32)) + (1 : Int32))), (.ref a1')])) (fun t kt => ?_) ?_
  · show Steps p.tables e below (T4.setTop (mkF m 29 #[.val (.int p0), .val (.ref a1'), .val (.int ((p2 + (1 : Int32)) + (1 : Int32))), .val (.int ((((p0.toUInt32 >>> ((7 : Int32) &&& 31).toUInt32).toInt32).toUInt32 >>> ((7 : Int32) &&& 31).toUInt32).toInt32))] [])) _
    refine XS.aloadN X4.here hx rfl (hb hby d1_29) rfl rfl ?_
    show Steps p.tables e below (T4.setTop (mkF m 30 #[.val (.int p0), .val (.ref a1'), .val (.int ((p2 + (1 : Int32)) + (1 : Int32))), .val (.int ((((p0.toUInt32 >>> ((7 : Int32) &&& 31).toUInt32).toInt32).toUInt32 >>> ((7 : Int32) &&& 31).toUInt32).toInt32))] [(.ref a1')])) _
    refine XS.iloadN X4.here hx rfl (hb hby d1_30) rfl ?_
    show Steps p.tables e below (T4.setTop (mkF m 31 #[.val (.int p0), .val (.ref a1'), .val (.int ((p2 + (1 : Int32)) + (1 : Int32))), .val (.int ((((p0.toUInt32 >>> ((7 : Int32) &&& 31).toUInt32).toInt32).toUInt32 >>> ((7 : Int32) &&& 31).toUInt32).toInt32))] [(.int ((p2 + (1 : Int32)) + (1 : Int32))), (.ref a1')])) _
    refine XS.iinc X4.here hx rfl (hb hby d1_31) rfl (l' := #[.val (.int p0), .val (.ref a1'), .val (.int (((p2 + (1 : Int32)) + (1 : Int32)) + (1 : Int32))), .val (.int ((((p0.toUInt32 >>> ((7 : Int32) &&& 31).toUInt32).toInt32).toUInt32 >>> ((7 : Int32) &&& 31).toUInt32).toInt32))]) rfl ?_
    show Steps p.tables e below (T4.setTop (mkF m 34 #[.val (.int p0), .val (.ref a1'), .val (.int (((p2 + (1 : Int32)) + (1 : Int32)) + (1 : Int32))), .val (.int ((((p0.toUInt32 >>> ((7 : Int32) &&& 31).toUInt32).toInt32).toUInt32 >>> ((7 : Int32) &&& 31).toUInt32).toInt32))] [(.int ((p2 + (1 : Int32)) + (1 : Int32))), (.ref a1')])) _
    refine XS.iloadN X4.here hx rfl (hb hby d1_34) rfl ?_
    show Steps p.tables e below (T4.setTop (mkF m 35 #[.val (.int p0), .val (.ref a1'), .val (.int (((p2 + (1 : Int32)) + (1 : Int32)) + (1 : Int32))), .val (.int ((((p0.toUInt32 >>> ((7 : Int32) &&& 31).toUInt32).toInt32).toUInt32 >>> ((7 : Int32) &&& 31).toUInt32).toInt32))] [(.int ((((p0.toUInt32 >>> ((7 : Int32) &&& 31).toUInt32).toInt32).toUInt32 >>> ((7 : Int32) &&& 31).toUInt32).toInt32)), (.int ((p2 + (1 : Int32)) + (1 : Int32))), (.ref a1')])) _
    refine XS.i2b X4.here hx rfl (hb hby d1_35) rfl ?_
    exact kt
  obtain ⟨T6, h6, Lq6, X6, N6, e6, W6, Z6, Aq6, st6⟩ := own_stB X4 hx hZ e4 Aq4 (j := ((p2 + (1 : Int32)) + (1 : Int32))) (own_ix2 p2 hp4).1 (k := p2.toNatClampNeg + 2) (own_ix2 p2 hp4).2 (by simp only [List.length_set]; exact own_kl p2 hp4 hl0 2 (by decide)) N4 ga1 Z4 (g := (mkF m 36 #[.val (.int p0), .val (.ref a1'), .val (.int (((p2 + (1 : Int32)) + (1 : Int32)) + (1 : Int32))), .val (.int ((((p0.toUInt32 >>> ((7 : Int32) &&& 31).toUInt32).toInt32).toUInt32 >>> ((7 : Int32) &&& 31).toUInt32).toInt32))] [(.int (((((p0.toUInt32 >>> ((7 : Int32) &&& 31).toUInt32).toInt32).toUInt32 >>> ((7 : Int32) &&& 31).toUInt32).toInt32).toInt8.toInt32)), (.int ((p2 + (1 : Int32)) + (1 : Int32))), (.ref a1')])) rfl rfl (hb hby d1_36)
  refine own_step (T' := T6) (f' := (mkF m 37 #[.val (.int p0), .val (.ref a1'), .val (.int (((p2 + (1 : Int32)) + (1 : Int32)) + (1 : Int32))), .val (.int ((((p0.toUInt32 >>> ((7 : Int32) &&& 31).toUInt32).toInt32).toUInt32 >>> ((7 : Int32) &&& 31).toUInt32).toInt32))] [])) st6 ?_
  refine own_step (T' := T6) (f' := (mkF m 38 #[.val (.int p0), .val (.ref a1'), .val (.int (((p2 + (1 : Int32)) + (1 : Int32)) + (1 : Int32))), .val (.int ((((p0.toUInt32 >>> ((7 : Int32) &&& 31).toUInt32).toInt32).toUInt32 >>> ((7 : Int32) &&& 31).toUInt32).toInt32))] [(.int (((p2 + (1 : Int32)) + (1 : Int32)) + (1 : Int32)))])) (fun t kt => ?_) ?_
  · show Steps p.tables e below (T6.setTop (mkF m 37 #[.val (.int p0), .val (.ref a1'), .val (.int (((p2 + (1 : Int32)) + (1 : Int32)) + (1 : Int32))), .val (.int ((((p0.toUInt32 >>> ((7 : Int32) &&& 31).toUInt32).toInt32).toUInt32 >>> ((7 : Int32) &&& 31).toUInt32).toInt32))] [])) _
    refine XS.iloadN X6.here hx rfl (hb hby d1_37) rfl ?_
    exact kt
  exact own_retI X6 hx hret hlk (hb hby d1_38) (by decide) (by decide) ⟨congrArg (fun z => some (Value.int z)) hr.symm, N6, (by rw [e6]; exact Aq6), (by rw [e6]; exact Z6)⟩
set_option maxRecDepth 65536 in
set_option maxHeartbeats 4000000 in
theorem rm1n3 (l : Launch) (Z : State) (a0 : Array Value) (hw : ∀ d ∈ tables_1, d.before a0 Z = true) (ws : List Jvm.Cond) (p0 : Int32) (a1' : Addr) (p2 : Int32) (vs1 : List Value) (h0 : Heap) (n0 : Nat) (A1 : own_A Z h0 a1' .byte vs1) (ga1 : n0 ≤ a1') (hl0 : vs1.length = 10) (hp4 : p2 = 0 ∨ p2 = 1 ∨ p2 = 2 ∨ p2 = 3) (hq0 : ¬ (p0 < (128 : Int32))) (hq1 : ¬ (((p0.toUInt32 >>> ((7 : Int32) &&& 31).toUInt32).toInt32) < (128 : Int32))) (hq2 : ((((p0.toUInt32 >>> ((7 : Int32) &&& 31).toUInt32).toInt32).toUInt32 >>> ((7 : Int32) &&& 31).toUInt32).toInt32) < (128 : Int32)) (Z0 : n0 ≤ h0.size) :
    MetFree l (⟨"hotstate/sort/VarInts", "write", "(I[BI)I"⟩ : MethodName) (head1 (Jvm.Cond.code (⟨"hotstate/sort/VarInts", "write", "(I[BI)I"⟩ : MethodName) prog_81_method_3_code 4 (some .int) :: ws) ({ frames := 0, cells := 0, slots := 0, locals := 0 } : Room)) (fun a U => a = #[(.int p0), (.ref a1'), (.int p2)] ∧ Z.Warmed39 U.vm ∧ U.heap = h0) (fun _ _ _ _ _ => True) (fun _ U o U' => ∃ v L, o = .returned v ∧ (own_W Z (.int (f1n3_0 p0 p2)) a1' ((((vs1.set (p2.toNatClampNeg + 0) (.int (nar .byte ((p0 ||| (128 : Int32)).toInt8.toInt32)))).set (p2.toNatClampNeg + 1) (.int (nar .byte ((((p0.toUInt32 >>> ((7 : Int32) &&& 31).toUInt32).toInt32) ||| (128 : Int32)).toInt8.toInt32)))).set (p2.toNatClampNeg + 2) (.int (nar .byte (((((p0.toUInt32 >>> ((7 : Int32) &&& 31).toUInt32).toInt32).toUInt32 >>> ((7 : Int32) &&& 31).toUInt32).toInt32).toInt8.toInt32))))) n0) v U'.heap L ∧ FrameEnd U o U' L ({ frames := 0, cells := 0, slots := 0, locals := 0 } : Room).cells ({ frames := 0, cells := 0, slots := 0, locals := 0 } : Room).slots) := by
  refine MetFree.of_bodySF (plainFor_of_name pn1) hisR ?_
  intro p e s m args below meth c s₁ Bd hml0 hP hK
  obtain ⟨rfl, hZ, hh⟩ := hP
  have hown : s.vm.findClass "hotstate/sort/VarInts" = some m.cls := findClass_of_methodNamed Bd.named
  have X0 : Stand p l e ({ frames := 0, cells := 0, slots := 0, locals := 0 } : Room) s m #[(.int p0), (.ref a1'), (.int p2)] below meth c s₁ [] 0 0 := Stand.of_body Bd
  have e0 : s₁.heap = h0 := by rw [← hh, Bd.state]; rfl
  show own_Ends p e below s 0 0 (own_W Z (.int (f1n3_0 p0 p2)) a1' ((((vs1.set (p2.toNatClampNeg + 0) (.int (nar .byte ((p0 ||| (128 : Int32)).toInt8.toInt32)))).set (p2.toNatClampNeg + 1) (.int (nar .byte ((((p0.toUInt32 >>> ((7 : Int32) &&& 31).toUInt32).toInt32) ||| (128 : Int32)).toInt8.toInt32)))).set (p2.toNatClampNeg + 2) (.int (nar .byte (((((p0.toUInt32 >>> ((7 : Int32) &&& 31).toUInt32).toInt32).toUInt32 >>> ((7 : Int32) &&& 31).toUInt32).toInt32).toInt8.toInt32))))) n0) s₁ (entryFrame m #[(.int p0), (.ref a1'), (.int p2)] 4)
  refine own_step (fun t k => castTop (ef1 m p0 a1' p2) k) ?_
  exact b1n3_0 p0 a1' p2 vs1 X0 Bd.exec hZ hw Bd.bytes hml0 hown Bd.returns (BodyLoose.notSynchronized Bd) e0 (Fr.nil n0) A1 ga1 hl0 hp4 hq0 hq1 hq2 Z0 rfl
def f1n4_0 (p0 : Int32) (p2 : Int32) : Int32 :=
  ((((p2 + (1 : Int32)) + (1 : Int32)) + (1 : Int32)) + (1 : Int32))
set_option maxRecDepth 65536 in
set_option maxHeartbeats 4000000 in
theorem b1n4_0 {p : Program} {l : Launch} {e : Env} {s : State} {m : MethodId} {args : Array Value} {below : List Frame} {meth : Method} {c : Code} {T0 : State} {locs : List Loc} {Z : State} {a0 : Array Value} {h0 : Heap} {n0 : Nat} (p0 : Int32) (a1' : Addr) (p2 : Int32) (vs1 : List Value) {r : Int32} (X0 : Stand p l e ({ frames := 0, cells := 0, slots := 0, locals := 0 } : Room) s m args below meth c T0 locs 0 0) (hx : p.tables.exec = Jvm.exec) (hZ : Z.Warmed39 s.vm) (hw : ∀ d ∈ tables_1, d.before a0 Z = true) (hby : c.code = prog_81_method_3_code) (hml : c.maxLocals = 4) (hown : s.vm.findClass "hotstate/sort/VarInts" = some m.cls) (hret : meth.sig.returnType = some .int) (hlk : meth.locks = false) (e0 : T0.heap = h0) (N0 : Fr n0 locs) (A1 : own_A Z h0 a1' .byte vs1) (ga1 : n0 ≤ a1') (hl0 : vs1.length = 10) (hp4 : p2 = 0 ∨ p2 = 1 ∨ p2 = 2 ∨ p2 = 3) (hq0 : ¬ (p0 < (128 : Int32))) (hq1 : ¬ (((p0.toUInt32 >>> ((7 : Int32) &&& 31).toUInt32).toInt32) < (128 : Int32))) (hq2 : ¬ (((((p0.toUInt32 >>> ((7 : Int32) &&& 31).toUInt32).toInt32).toUInt32 >>> ((7 : Int32) &&& 31).toUInt32).toInt32) < (128 : Int32))) (hq3 : ((((((p0.toUInt32 >>> ((7 : Int32) &&& 31).toUInt32).toInt32).toUInt32 >>> ((7 : Int32) &&& 31).toUInt32).toInt32).toUInt32 >>> ((7 : Int32) &&& 31).toUInt32).toInt32) < (128 : Int32)) (Z0 : n0 ≤ h0.size) (hr : r = f1n4_0 p0 p2) :
    own_Ends p e below s 0 0 (own_W Z (.int r) a1' (((((vs1.set (p2.toNatClampNeg + 0) (.int (nar .byte ((p0 ||| (128 : Int32)).toInt8.toInt32)))).set (p2.toNatClampNeg + 1) (.int (nar .byte ((((p0.toUInt32 >>> ((7 : Int32) &&& 31).toUInt32).toInt32) ||| (128 : Int32)).toInt8.toInt32)))).set (p2.toNatClampNeg + 2) (.int (nar .byte ((((((p0.toUInt32 >>> ((7 : Int32) &&& 31).toUInt32).toInt32).toUInt32 >>> ((7 : Int32) &&& 31).toUInt32).toInt32) ||| (128 : Int32)).toInt8.toInt32)))).set (p2.toNatClampNeg + 3) (.int (nar .byte (((((((p0.toUInt32 >>> ((7 : Int32) &&& 31).toUInt32).toInt32).toUInt32 >>> ((7 : Int32) &&& 31).toUInt32).toInt32).toUInt32 >>> ((7 : Int32) &&& 31).toUInt32).toInt32).toInt8.toInt32))))) n0) T0 (mkF m 0 #[.val (.int p0), .val (.ref a1'), .val (.int p2), .unset] []) := by
  unfold f1n4_0 at hr
  refine own_step (T' := T0) (f' := (mkF m 6 #[.val (.int p0), .val (.ref a1'), .val (.int p2), .val (.int p0)] [(.int (128 : Int32)), (.int p0)])) (fun t kt => ?_) ?_
  · show Steps p.tables e below (T0.setTop (mkF m 0 #[.val (.int p0), .val (.ref a1'), .val (.int p2), .unset] [])) _
    refine XS.iloadN X0.here hx rfl (hb hby d1_0) rfl ?_
    show Steps p.tables e below (T0.setTop (mkF m 1 #[.val (.int p0), .val (.ref a1'), .val (.int p2), .unset] [(.int p0)])) _
    refine XS.istoreN X0.here hx rfl (hb hby d1_1) rfl (l' := #[.val (.int p0), .val (.ref a1'), .val (.int p2), .val (.int p0)]) rfl ?_
    show Steps p.tables e below (T0.setTop (mkF m 2 #[.val (.int p0), .val (.ref a1'), .val (.int p2), .val (.int p0)] [])) _
    refine XS.iloadN X0.here hx rfl (hb hby d1_2) rfl ?_
    show Steps p.tables e below (T0.setTop (mkF m 3 #[.val (.int p0), .val (.ref a1'), .val (.int p2), .val (.int p0)] [(.int p0)])) _
    refine XS.sipush X0.here hx rfl (hb hby d1_3) ?_
    exact kt
  refine own_step (T' := T0) (f' := (mkF m 9 #[.val (.int p0), .val (.ref a1'), .val (.int p2), .val (.int p0)] [])) (fun t kt => ?_) ?_
  · show Steps p.tables e below (T0.setTop (mkF m 6 #[.val (.int p0), .val (.ref a1'), .val (.int p2), .val (.int p0)] [(.int (128 : Int32)), (.int p0)])) _
    refine XS.icmpNo X0.here hx rfl (hb hby d1_6) rfl (flt hq0).1 kt
  refine own_step (T' := T0) (f' := (mkF m 20 #[.val (.int p0), .val (.ref a1'), .val (.int (p2 + (1 : Int32))), .val (.int p0)] [(.int ((p0 ||| (128 : Int32)).toInt8.toInt32)), (.int p2), (.ref a1')])) (fun t kt => ?_) ?_
  · show Steps p.tables e below (T0.setTop (mkF m 9 #[.val (.int p0), .val (.ref a1'), .val (.int p2), .val (.int p0)] [])) _
    refine XS.aloadN X0.here hx rfl (hb hby d1_9) rfl rfl ?_
    show Steps p.tables e below (T0.setTop (mkF m 10 #[.val (.int p0), .val (.ref a1'), .val (.int p2), .val (.int p0)] [(.ref a1')])) _
    refine XS.iloadN X0.here hx rfl (hb hby d1_10) rfl ?_
    show Steps p.tables e below (T0.setTop (mkF m 11 #[.val (.int p0), .val (.ref a1'), .val (.int p2), .val (.int p0)] [(.int p2), (.ref a1')])) _
    refine XS.iinc X0.here hx rfl (hb hby d1_11) rfl (l' := #[.val (.int p0), .val (.ref a1'), .val (.int (p2 + (1 : Int32))), .val (.int p0)]) rfl ?_
    show Steps p.tables e below (T0.setTop (mkF m 14 #[.val (.int p0), .val (.ref a1'), .val (.int (p2 + (1 : Int32))), .val (.int p0)] [(.int p2), (.ref a1')])) _
    refine XS.iloadN X0.here hx rfl (hb hby d1_14) rfl ?_
    show Steps p.tables e below (T0.setTop (mkF m 15 #[.val (.int p0), .val (.ref a1'), .val (.int (p2 + (1 : Int32))), .val (.int p0)] [(.int p0), (.int p2), (.ref a1')])) _
    refine XS.sipush X0.here hx rfl (hb hby d1_15) ?_
    show Steps p.tables e below (T0.setTop (mkF m 18 #[.val (.int p0), .val (.ref a1'), .val (.int (p2 + (1 : Int32))), .val (.int p0)] [(.int (128 : Int32)), (.int p0), (.int p2), (.ref a1')])) _
    refine XS.ior X0.here hx rfl (hb hby d1_18) rfl ?_
    show Steps p.tables e below (T0.setTop (mkF m 19 #[.val (.int p0), .val (.ref a1'), .val (.int (p2 + (1 : Int32))), .val (.int p0)] [(.int (p0 ||| (128 : Int32))), (.int p2), (.ref a1')])) _
    refine XS.i2b X0.here hx rfl (hb hby d1_19) rfl ?_
    exact kt
  obtain ⟨T2, h2, Lq2, X2, N2, e2, W2, Z2, Aq2, st2⟩ := own_stB X0 hx hZ e0 A1 (j := p2) (own_ix0 p2 hp4).1 (k := p2.toNatClampNeg + 0) (own_ix0 p2 hp4).2 (own_kl p2 hp4 hl0 0 (by decide)) N0 ga1 Z0 (g := (mkF m 20 #[.val (.int p0), .val (.ref a1'), .val (.int (p2 + (1 : Int32))), .val (.int p0)] [(.int ((p0 ||| (128 : Int32)).toInt8.toInt32)), (.int p2), (.ref a1')])) rfl rfl (hb hby d1_20)
  refine own_step (T' := T2) (f' := (mkF m 21 #[.val (.int p0), .val (.ref a1'), .val (.int (p2 + (1 : Int32))), .val (.int p0)] [])) st2 ?_
  refine own_step (T' := T2) (f' := (mkF m 6 #[.val (.int p0), .val (.ref a1'), .val (.int (p2 + (1 : Int32))), .val (.int ((p0.toUInt32 >>> ((7 : Int32) &&& 31).toUInt32).toInt32))] [(.int (128 : Int32)), (.int ((p0.toUInt32 >>> ((7 : Int32) &&& 31).toUInt32).toInt32))])) (fun t kt => ?_) ?_
  · show Steps p.tables e below (T2.setTop (mkF m 21 #[.val (.int p0), .val (.ref a1'), .val (.int (p2 + (1 : Int32))), .val (.int p0)] [])) _
    refine XS.iloadN X2.here hx rfl (hb hby d1_21) rfl ?_
    show Steps p.tables e below (T2.setTop (mkF m 22 #[.val (.int p0), .val (.ref a1'), .val (.int (p2 + (1 : Int32))), .val (.int p0)] [(.int p0)])) _
    refine XS.bipush X2.here hx rfl (hb hby d1_22) ?_
    show Steps p.tables e below (T2.setTop (mkF m 24 #[.val (.int p0), .val (.ref a1'), .val (.int (p2 + (1 : Int32))), .val (.int p0)] [(.int (7 : Int32)), (.int p0)])) _
    refine XS.iushr X2.here hx rfl (hb hby d1_24) rfl ?_
    show Steps p.tables e below (T2.setTop (mkF m 25 #[.val (.int p0), .val (.ref a1'), .val (.int (p2 + (1 : Int32))), .val (.int p0)] [(.int ((p0.toUInt32 >>> ((7 : Int32) &&& 31).toUInt32).toInt32))])) _
    refine XS.istoreN X2.here hx rfl (hb hby d1_25) rfl (l' := #[.val (.int p0), .val (.ref a1'), .val (.int (p2 + (1 : Int32))), .val (.int ((p0.toUInt32 >>> ((7 : Int32) &&& 31).toUInt32).toInt32))]) rfl ?_
    show Steps p.tables e below (T2.setTop (mkF m 26 #[.val (.int p0), .val (.ref a1'), .val (.int (p2 + (1 : Int32))), .val (.int ((p0.toUInt32 >>> ((7 : Int32) &&& 31).toUInt32).toInt32))] [])) _
    refine XS.goto X2.here hx rfl (pc0 := 26) (pc' := 2) rfl (hb hby d1_26) (by decide) (by decide) ?_
    show Steps p.tables e below (T2.setTop (mkF m 2 #[.val (.int p0), .val (.ref a1'), .val (.int (p2 + (1 : Int32))), .val (.int ((p0.toUInt32 >>> ((7 : Int32) &&& 31).toUInt32).toInt32))] [])) _
    refine XS.iloadN X2.here hx rfl (hb hby d1_2) rfl ?_
    show Steps p.tables e below (T2.setTop (mkF m 3 #[.val (.int p0), .val (.ref a1'), .val (.int (p2 + (1 : Int32))), .val (.int ((p0.toUInt32 >>> ((7 : Int32) &&& 31).toUInt32).toInt32))] [(.int ((p0.toUInt32 >>> ((7 : Int32) &&& 31).toUInt32).toInt32))])) _
    refine XS.sipush X2.here hx rfl (hb hby d1_3) ?_
    exact kt
  refine own_step (T' := T2) (f' := (mkF m 9 #[.val (.int p0), .val (.ref a1'), .val (.int (p2 + (1 : Int32))), .val (.int ((p0.toUInt32 >>> ((7 : Int32) &&& 31).toUInt32).toInt32))] [])) (fun t kt => ?_) ?_
  · show Steps p.tables e below (T2.setTop (mkF m 6 #[.val (.int p0), .val (.ref a1'), .val (.int (p2 + (1 : Int32))), .val (.int ((p0.toUInt32 >>> ((7 : Int32) &&& 31).toUInt32).toInt32))] [(.int (128 : Int32)), (.int ((p0.toUInt32 >>> ((7 : Int32) &&& 31).toUInt32).toInt32))])) _
    refine XS.icmpNo X2.here hx rfl (hb hby d1_6) rfl (flt hq1).1 kt
  refine own_step (T' := T2) (f' := (mkF m 20 #[.val (.int p0), .val (.ref a1'), .val (.int ((p2 + (1 : Int32)) + (1 : Int32))), .val (.int ((p0.toUInt32 >>> ((7 : Int32) &&& 31).toUInt32).toInt32))] [(.int ((((p0.toUInt32 >>> ((7 : Int32) &&& 31).toUInt32).toInt32) ||| (128 : Int32)).toInt8.toInt32)), (.int (p2 + (1 : Int32))), (.ref a1')])) (fun t kt => ?_) ?_
  · show Steps p.tables e below (T2.setTop (mkF m 9 #[.val (.int p0), .val (.ref a1'), .val (.int (p2 + (1 : Int32))), .val (.int ((p0.toUInt32 >>> ((7 : Int32) &&& 31).toUInt32).toInt32))] [])) _
    refine XS.aloadN X2.here hx rfl (hb hby d1_9) rfl rfl ?_
    show Steps p.tables e below (T2.setTop (mkF m 10 #[.val (.int p0), .val (.ref a1'), .val (.int (p2 + (1 : Int32))), .val (.int ((p0.toUInt32 >>> ((7 : Int32) &&& 31).toUInt32).toInt32))] [(.ref a1')])) _
    refine XS.iloadN X2.here hx rfl (hb hby d1_10) rfl ?_
    show Steps p.tables e below (T2.setTop (mkF m 11 #[.val (.int p0), .val (.ref a1'), .val (.int (p2 + (1 : Int32))), .val (.int ((p0.toUInt32 >>> ((7 : Int32) &&& 31).toUInt32).toInt32))] [(.int (p2 + (1 : Int32))), (.ref a1')])) _
    refine XS.iinc X2.here hx rfl (hb hby d1_11) rfl (l' := #[.val (.int p0), .val (.ref a1'), .val (.int ((p2 + (1 : Int32)) + (1 : Int32))), .val (.int ((p0.toUInt32 >>> ((7 : Int32) &&& 31).toUInt32).toInt32))]) rfl ?_
    show Steps p.tables e below (T2.setTop (mkF m 14 #[.val (.int p0), .val (.ref a1'), .val (.int ((p2 + (1 : Int32)) + (1 : Int32))), .val (.int ((p0.toUInt32 >>> ((7 : Int32) &&& 31).toUInt32).toInt32))] [(.int (p2 + (1 : Int32))), (.ref a1')])) _
    refine XS.iloadN X2.here hx rfl (hb hby d1_14) rfl ?_
    show Steps p.tables e below (T2.setTop (mkF m 15 #[.val (.int p0), .val (.ref a1'), .val (.int ((p2 + (1 : Int32)) + (1 : Int32))), .val (.int ((p0.toUInt32 >>> ((7 : Int32) &&& 31).toUInt32).toInt32))] [(.int ((p0.toUInt32 >>> ((7 : Int32) &&& 31).toUInt32).toInt32)), (.int (p2 + (1 : Int32))), (.ref a1')])) _
    refine XS.sipush X2.here hx rfl (hb hby d1_15) ?_
    show Steps p.tables e below (T2.setTop (mkF m 18 #[.val (.int p0), .val (.ref a1'), .val (.int ((p2 + (1 : Int32)) + (1 : Int32))), .val (.int ((p0.toUInt32 >>> ((7 : Int32) &&& 31).toUInt32).toInt32))] [(.int (128 : Int32)), (.int ((p0.toUInt32 >>> ((7 : Int32) &&& 31).toUInt32).toInt32)), (.int (p2 + (1 : Int32))), (.ref a1')])) _
    refine XS.ior X2.here hx rfl (hb hby d1_18) rfl ?_
    show Steps p.tables e below (T2.setTop (mkF m 19 #[.val (.int p0), .val (.ref a1'), .val (.int ((p2 + (1 : Int32)) + (1 : Int32))), .val (.int ((p0.toUInt32 >>> ((7 : Int32) &&& 31).toUInt32).toInt32))] [(.int (((p0.toUInt32 >>> ((7 : Int32) &&& 31).toUInt32).toInt32) ||| (128 : Int32))), (.int (p2 + (1 : Int32))), (.ref a1')])) _
    refine XS.i2b X2.here hx rfl (hb hby d1_19) rfl ?_
    exact kt
  obtain ⟨T4, h4, Lq4, X4, N4, e4, W4, Z4, Aq4, st4⟩ := own_stB X2 hx hZ e2 Aq2 (j := (p2 + (1 : Int32))) (own_ix1 p2 hp4).1 (k := p2.toNatClampNeg + 1) (own_ix1 p2 hp4).2 (by simp only [List.length_set]; exact own_kl p2 hp4 hl0 1 (by decide)) N2 ga1 Z2 (g := (mkF m 20 #[.val (.int p0), .val (.ref a1'), .val (.int ((p2 + (1 : Int32)) + (1 : Int32))), .val (.int ((p0.toUInt32 >>> ((7 : Int32) &&& 31).toUInt32).toInt32))] [(.int ((((p0.toUInt32 >>> ((7 : Int32) &&& 31).toUInt32).toInt32) ||| (128 : Int32)).toInt8.toInt32)), (.int (p2 + (1 : Int32))), (.ref a1')])) rfl rfl (hb hby d1_20)
  refine own_step (T' := T4) (f' := (mkF m 21 #[.val (.int p0), .val (.ref a1'), .val (.int ((p2 + (1 : Int32)) + (1 : Int32))), .val (.int ((p0.toUInt32 >>> ((7 : Int32) &&& 31).toUInt32).toInt32))] [])) st4 ?_
  refine own_step (T' := T4) (f' := (mkF m 6 #[.val (.int p0), .val (.ref a1'), .val (.int ((p2 + (1 : Int32)) + (1 : Int32))), .val (.int ((((p0.toUInt32 >>> ((7 : Int32) &&& 31).toUInt32).toInt32).toUInt32 >>> ((7 : Int32) &&& 31).toUInt32).toInt32))] [(.int (128 : Int32)), (.int ((((p0.toUInt32 >>> ((7 : Int32) &&& 31).toUInt32).toInt32).toUInt32 >>> ((7 : Int32) &&& 31).toUInt32).toInt32))])) (fun t kt => ?_) ?_
  · show Steps p.tables e below (T4.setTop (mkF m 21 #[.val (.int p0), .val (.ref a1'), .val (.int ((p2 + (1 : Int32)) + (1 : Int32))), .val (.int ((p0.toUInt32 >>> ((7 : Int32) &&& 31).toUInt32).toInt32))] [])) _
    refine XS.iloadN X4.here hx rfl (hb hby d1_21) rfl ?_
    show Steps p.tables e below (T4.setTop (mkF m 22 #[.val (.int p0), .val (.ref a1'), .val (.int ((p2 + (1 : Int32)) + (1 : Int32))), .val (.int ((p0.toUInt32 >>> ((7 : Int32) &&& 31).toUInt32).toInt32))] [(.int ((p0.toUInt32 >>> ((7 : Int32) &&& 31).toUInt32).toInt32))])) _
    refine XS.bipush X4.here hx rfl (hb hby d1_22) ?_
    show Steps p.tables e below (T4.setTop (mkF m 24 #[.val (.int p0), .val (.ref a1'), .val (.int ((p2 + (1 : Int32)) + (1 : Int32))), .val (.int ((p0.toUInt32 >>> ((7 : Int32) &&& 31).toUInt32).toInt32))] [(.int (7 : Int32)), (.int ((p0.toUInt32 >>> ((7 : Int32) &&& 31).toUInt32).toInt32))])) _
    refine XS.iushr X4.here hx rfl (hb hby d1_24) rfl ?_
    show Steps p.tables e below (T4.setTop (mkF m 25 #[.val (.int p0), .val (.ref a1'), .val (.int ((p2 + (1 : Int32)) + (1 : Int32))), .val (.int ((p0.toUInt32 >>> ((7 : Int32) &&& 31).toUInt32).toInt32))] [(.int ((((p0.toUInt32 >>> ((7 : Int32) &&& 31).toUInt32).toInt32).toUInt32 >>> ((7 : Int32) &&& 31).toUInt32).toInt32))])) _
    refine XS.istoreN X4.here hx rfl (hb hby d1_25) rfl (l' := #[.val (.int p0), .val (.ref a1'), .val (.int ((p2 + (1 : Int32)) + (1 : Int32))), .val (.int ((((p0.toUInt32 >>> ((7 : Int32) &&& 31).toUInt32).toInt32).toUInt32 >>> ((7 : Int32) &&& 31).toUInt32).toInt32))]) rfl ?_
    show Steps p.tables e below (T4.setTop (mkF m 26 #[.val (.int p0), .val (.ref a1'), .val (.int ((p2 + (1 : Int32)) + (1 : Int32))), .val (.int ((((p0.toUInt32 >>> ((7 : Int32) &&& 31).toUInt32).toInt32).toUInt32 >>> ((7 : Int32) &&& 31).toUInt32).toInt32))] [])) _
    refine XS.goto X4.here hx rfl (pc0 := 26) (pc' := 2) rfl (hb hby d1_26) (by decide) (by decide) ?_
    show Steps p.tables e below (T4.setTop (mkF m 2 #[.val (.int p0), .val (.ref a1'), .val (.int ((p2 + (1 : Int32)) + (1 : Int32))), .val (.int ((((p0.toUInt32 >>> ((7 : Int32) &&& 31).toUInt32).toInt32).toUInt32 >>> ((7 : Int32) &&& 31).toUInt32).toInt32))] [])) _
    refine XS.iloadN X4.here hx rfl (hb hby d1_2) rfl ?_
    show Steps p.tables e below (T4.setTop (mkF m 3 #[.val (.int p0), .val (.ref a1'), .val (.int ((p2 + (1 : Int32)) + (1 : Int32))), .val (.int ((((p0.toUInt32 >>> ((7 : Int32) &&& 31).toUInt32).toInt32).toUInt32 >>> ((7 : Int32) &&& 31).toUInt32).toInt32))] [(.int ((((p0.toUInt32 >>> ((7 : Int32) &&& 31).toUInt32).toInt32).toUInt32 >>> ((7 : Int32) &&& 31).toUInt32).toInt32))])) _
    refine XS.sipush X4.here hx rfl (hb hby d1_3) ?_
    exact kt
  refine own_step (T' := T4) (f' := (mkF m 9 #[.val (.int p0), .val (.ref a1'), .val (.int ((p2 + (1 : Int32)) + (1 : Int32))), .val (.int ((((p0.toUInt32 >>> ((7 : Int32) &&& 31).toUInt32).toInt32).toUInt32 >>> ((7 : Int32) &&& 31).toUInt32).toInt32))] [])) (fun t kt => ?_) ?_
  · show Steps p.tables e below (T4.setTop (mkF m 6 #[.val (.int p0), .val (.ref a1'), .val (.int ((p2 + (1 : Int32)) + (1 : Int32))), .val (.int ((((p0.toUInt32 >>> ((7 : Int32) &&& 31).toUInt32).toInt32).toUInt32 >>> ((7 : Int32) &&& 31).toUInt32).toInt32))] [(.int (128 : Int32)), (.int ((((p0.toUInt32 >>> ((7 : Int32) &&& 31).toUInt32).toInt32).toUInt32 >>> ((7 : Int32) &&& 31).toUInt32).toInt32))])) _
    refine XS.icmpNo X4.here hx rfl (hb hby d1_6) rfl (flt hq2).1 kt
  refine own_step (T' := T4) (f' := (mkF m 20 #[.val (.int p0), .val (.ref a1'), .val (.int (((p2 + (1 : Int32)) + (1 : Int32)) + (1 : Int32))), .val (.int ((((p0.toUInt32 >>> ((7 : Int32) &&& 31).toUInt32).toInt32).toUInt32 >>> ((7 : Int32) &&& 31).toUInt32).toInt32))] [(.int ((((((p0.toUInt32 >>> ((7 : Int32) &&& 31).toUInt32).toInt32).toUInt32 >>> ((7 : Int32) &&& 31).toUInt32).toInt32) ||| (128 : Int32)).toInt8.toInt32)), (.int ((p2 + (1 : Int32)) + (1 : Int32))), (.ref a1')])) (fun t kt => ?_) ?_
  · show Steps p.tables e below (T4.setTop (mkF m 9 #[.val (.int p0), .val (.ref a1'), .val (.int ((p2 + (1 : Int32)) + (1 : Int32))), .val (.int ((((p0.toUInt32 >>> ((7 : Int32) &&& 31).toUInt32).toInt32).toUInt32 >>> ((7 : Int32) &&& 31).toUInt32).toInt32))] [])) _
    refine XS.aloadN X4.here hx rfl (hb hby d1_9) rfl rfl ?_
    show Steps p.tables e below (T4.setTop (mkF m 10 #[.val (.int p0), .val (.ref a1'), .val (.int ((p2 + (1 : Int32)) + (1 : Int32))), .val (.int ((((p0.toUInt32 >>> ((7 : Int32) &&& 31).toUInt32).toInt32).toUInt32 >>> ((7 : Int32) &&& 31).toUInt32).toInt32))] [(.ref a1')])) _
    refine XS.iloadN X4.here hx rfl (hb hby d1_10) rfl ?_
    show Steps p.tables e below (T4.setTop (mkF m 11 #[.val (.int p0), .val (.ref a1'), .val (.int ((p2 + (1 : Int32)) + (1 : Int32))), .val (.int ((((p0.toUInt32 >>> ((7 : Int32) &&& 31).toUInt32).toInt32).toUInt32 >>> ((7 : Int32) &&& 31).toUInt32).toInt32))] [(.int ((p2 + (1 : Int32)) + (1 : Int32))), (.ref a1')])) _
    refine XS.iinc X4.here hx rfl (hb hby d1_11) rfl (l' := #[.val (.int p0), .val (.ref a1'), .val (.int (((p2 + (1 : Int32)) + (1 : Int32)) + (1 : Int32))), .val (.int ((((p0.toUInt32 >>> ((7 : Int32) &&& 31).toUInt32).toInt32).toUInt32 >>> ((7 : Int32) &&& 31).toUInt32).toInt32))]) rfl ?_
    show Steps p.tables e below (T4.setTop (mkF m 14 #[.val (.int p0), .val (.ref a1'), .val (.int (((p2 + (1 : Int32)) + (1 : Int32)) + (1 : Int32))), .val (.int ((((p0.toUInt32 >>> ((7 : Int32) &&& 31).toUInt32).toInt32).toUInt32 >>> ((7 : Int32) &&& 31).toUInt32).toInt32))] [(.int ((p2 + (1 : Int32)) + (1 : Int32))), (.ref a1')])) _
    refine XS.iloadN X4.here hx rfl (hb hby d1_14) rfl ?_
    show Steps p.tables e below (T4.setTop (mkF m 15 #[.val (.int p0), .val (.ref a1'), .val (.int (((p2 + (1 : Int32)) + (1 : Int32)) + (1 : Int32))), .val (.int ((((p0.toUInt32 >>> ((7 : Int32) &&& 31).toUInt32).toInt32).toUInt32 >>> ((7 : Int32) &&& 31).toUInt32).toInt32))] [(.int ((((p0.toUInt32 >>> ((7 : Int32) &&& 31).toUInt32).toInt32).toUInt32 >>> ((7 : Int32) &&& 31).toUInt32).toInt32)), (.int ((p2 + (1 : Int32)) + (1 : Int32))), (.ref a1')])) _
    refine XS.sipush X4.here hx rfl (hb hby d1_15) ?_
    show Steps p.tables e below (T4.setTop (mkF m 18 #[.val (.int p0), .val (.ref a1'), .val (.int (((p2 + (1 : Int32)) + (1 : Int32)) + (1 : Int32))), .val (.int ((((p0.toUInt32 >>> ((7 : Int32) &&& 31).toUInt32).toInt32).toUInt32 >>> ((7 : Int32) &&& 31).toUInt32).toInt32))] [(.int (128 : Int32)), (.int ((((p0.toUInt32 >>> ((7 : Int32) &&& 31).toUInt32).toInt32).toUInt32 >>> ((7 : Int32) &&& 31).toUInt32).toInt32)), (.int ((p2 + (1 : Int32)) + (1 : Int32))), (.ref a1')])) _
    refine XS.ior X4.here hx rfl (hb hby d1_18) rfl ?_
    show Steps p.tables e below (T4.setTop (mkF m 19 #[.val (.int p0), .val (.ref a1'), .val (.int (((p2 + (1 : Int32)) + (1 : Int32)) + (1 : Int32))), .val (.int ((((p0.toUInt32 >>> ((7 : Int32) &&& 31).toUInt32).toInt32).toUInt32 >>> ((7 : Int32) &&& 31).toUInt32).toInt32))] [(.int (((((p0.toUInt32 >>> ((7 : Int32) &&& 31).toUInt32).toInt32).toUInt32 >>> ((7 : Int32) &&& 31).toUInt32).toInt32) ||| (128 : Int32))), (.int ((p2 + (1 : Int32)) + (1 : Int32))), (.ref a1')])) _
    refine XS.i2b X4.here hx rfl (hb hby d1_19) rfl ?_
    exact kt
  obtain ⟨T6, h6, Lq6, X6, N6, e6, W6, Z6, Aq6, st6⟩ := own_stB X4 hx hZ e4 Aq4 (j := ((p2 + (1 : Int32)) + (1 : Int32))) (own_ix2 p2 hp4).1 (k := p2.toNatClampNeg + 2) (own_ix2 p2 hp4).2 (by simp only [List.length_set]; exact own_kl p2 hp4 hl0 2 (by decide)) N4 ga1 Z4 (g := (mkF m 20 #[.val (.int p0), .val (.ref a1'), .val (.int (((p2 + (1 : Int32)) + (1 : Int32)) + (1 : Int32))), .val (.int ((((p0.toUInt32 >>> ((7 : Int32) &&& 31).toUInt32).toInt32).toUInt32 >>> ((7 : Int32) &&& 31).toUInt32).toInt32))] [(.int ((((((p0.toUInt32 >>> ((7 : Int32) &&& 31).toUInt32).toInt32).toUInt32 >>> ((7 : Int32) &&& 31).toUInt32).toInt32) ||| (128 : Int32)).toInt8.toInt32)), (.int ((p2 + (1 : Int32)) + (1 : Int32))), (.ref a1')])) rfl rfl (hb hby d1_20)
  refine own_step (T' := T6) (f' := (mkF m 21 #[.val (.int p0), .val (.ref a1'), .val (.int (((p2 + (1 : Int32)) + (1 : Int32)) + (1 : Int32))), .val (.int ((((p0.toUInt32 >>> ((7 : Int32) &&& 31).toUInt32).toInt32).toUInt32 >>> ((7 : Int32) &&& 31).toUInt32).toInt32))] [])) st6 ?_
  refine own_step (T' := T6) (f' := (mkF m 6 #[.val (.int p0), .val (.ref a1'), .val (.int (((p2 + (1 : Int32)) + (1 : Int32)) + (1 : Int32))), .val (.int ((((((p0.toUInt32 >>> ((7 : Int32) &&& 31).toUInt32).toInt32).toUInt32 >>> ((7 : Int32) &&& 31).toUInt32).toInt32).toUInt32 >>> ((7 : Int32) &&& 31).toUInt32).toInt32))] [(.int (128 : Int32)), (.int ((((((p0.toUInt32 >>> ((7 : Int32) &&& 31).toUInt32).toInt32).toUInt32 >>> ((7 : Int32) &&& 31).toUInt32).toInt32).toUInt32 >>> ((7 : Int32) &&& 31).toUInt32).toInt32))])) (fun t kt => ?_) ?_
  · show Steps p.tables e below (T6.setTop (mkF m 21 #[.val (.int p0), .val (.ref a1'), .val (.int (((p2 + (1 : Int32)) + (1 : Int32)) + (1 : Int32))), .val (.int ((((p0.toUInt32 >>> ((7 : Int32) &&& 31).toUInt32).toInt32).toUInt32 >>> ((7 : Int32) &&& 31).toUInt32).toInt32))] [])) _
    refine XS.iloadN X6.here hx rfl (hb hby d1_21) rfl ?_
    show Steps p.tables e below (T6.setTop (mkF m 22 #[.val (.int p0), .val (.ref a1'), .val (.int (((p2 + (1 : Int32)) + (1 : Int32)) + (1 : Int32))), .val (.int ((((p0.toUInt32 >>> ((7 : Int32) &&& 31).toUInt32).toInt32).toUInt32 >>> ((7 : Int32) &&& 31).toUInt32).toInt32))] [(.int ((((p0.toUInt32 >>> ((7 : Int32) &&& 31).toUInt32).toInt32).toUInt32 >>> ((7 : Int32) &&& 31).toUInt32).toInt32))])) _
    refine XS.bipush X6.here hx rfl (hb hby d1_22) ?_
    show Steps p.tables e below (T6.setTop (mkF m 24 #[.val (.int p0), .val (.ref a1'), .val (.int (((p2 + (1 : Int32)) + (1 : Int32)) + (1 : Int32))), .val (.int ((((p0.toUInt32 >>> ((7 : Int32) &&& 31).toUInt32).toInt32).toUInt32 >>> ((7 : Int32) &&& 31).toUInt32).toInt32))] [(.int (7 : Int32)), (.int ((((p0.toUInt32 >>> ((7 : Int32) &&& 31).toUInt32).toInt32).toUInt32 >>> ((7 : Int32) &&& 31).toUInt32).toInt32))])) _
    refine XS.iushr X6.here hx rfl (hb hby d1_24) rfl ?_
    show Steps p.tables e below (T6.setTop (mkF m 25 #[.val (.int p0), .val (.ref a1'), .val (.int (((p2 + (1 : Int32)) + (1 : Int32)) + (1 : Int32))), .val (.int ((((p0.toUInt32 >>> ((7 : Int32) &&& 31).toUInt32).toInt32).toUInt32 >>> ((7 : Int32) &&& 31).toUInt32).toInt32))] [(.int ((((((p0.toUInt32 >>> ((7 : Int32) &&& 31).toUInt32).toInt32).toUInt32 >>> ((7 : Int32) &&& 31).toUInt32).toInt32).toUInt32 >>> ((7 : Int32) &&& 31).toUInt32).toInt32))])) _
    refine XS.istoreN X6.here hx rfl (hb hby d1_25) rfl (l' := #[.val (.int p0), .val (.ref a1'), .val (.int (((p2 + (1 : Int32)) + (1 : Int32)) + (1 : Int32))), .val (.int ((((((p0.toUInt32 >>> ((7 : Int32) &&& 31).toUInt32).toInt32).toUInt32 >>> ((7 : Int32) &&& 31).toUInt32).toInt32).toUInt32 >>> ((7 : Int32) &&& 31).toUInt32).toInt32))]) rfl ?_
    show Steps p.tables e below (T6.setTop (mkF m 26 #[.val (.int p0), .val (.ref a1'), .val (.int (((p2 + (1 : Int32)) + (1 : Int32)) + (1 : Int32))), .val (.int ((((((p0.toUInt32 >>> ((7 : Int32) &&& 31).toUInt32).toInt32).toUInt32 >>> ((7 : Int32) &&& 31).toUInt32).toInt32).toUInt32 >>> ((7 : Int32) &&& 31).toUInt32).toInt32))] [])) _
    refine XS.goto X6.here hx rfl (pc0 := 26) (pc' := 2) rfl (hb hby d1_26) (by decide) (by decide) ?_
    show Steps p.tables e below (T6.setTop (mkF m 2 #[.val (.int p0), .val (.ref a1'), .val (.int (((p2 + (1 : Int32)) + (1 : Int32)) + (1 : Int32))), .val (.int ((((((p0.toUInt32 >>> ((7 : Int32) &&& 31).toUInt32).toInt32).toUInt32 >>> ((7 : Int32) &&& 31).toUInt32).toInt32).toUInt32 >>> ((7 : Int32) &&& 31).toUInt32).toInt32))] [])) _
    refine XS.iloadN X6.here hx rfl (hb hby d1_2) rfl ?_
    show Steps p.tables e below (T6.setTop (mkF m 3 #[.val (.int p0), .val (.ref a1'), .val (.int (((p2 + (1 : Int32)) + (1 : Int32)) + (1 : Int32))), .val (.int ((((((p0.toUInt32 >>> ((7 : Int32) &&& 31).toUInt32).toInt32).toUInt32 >>> ((7 : Int32) &&& 31).toUInt32).toInt32).toUInt32 >>> ((7 : Int32) &&& 31).toUInt32).toInt32))] [(.int ((((((p0.toUInt32 >>> ((7 : Int32) &&& 31).toUInt32).toInt32).toUInt32 >>> ((7 : Int32) &&& 31).toUInt32).toInt32).toUInt32 >>> ((7 : Int32) &&& 31).toUInt32).toInt32))])) _
    refine XS.sipush X6.here hx rfl (hb hby d1_3) ?_
    exact kt
  refine own_step (T' := T6) (f' := (mkF m 29 #[.val (.int p0), .val (.ref a1'), .val (.int (((p2 + (1 : Int32)) + (1 : Int32)) + (1 : Int32))), .val (.int ((((((p0.toUInt32 >>> ((7 : Int32) &&& 31).toUInt32).toInt32).toUInt32 >>> ((7 : Int32) &&& 31).toUInt32).toInt32).toUInt32 >>> ((7 : Int32) &&& 31).toUInt32).toInt32))] [])) (fun t kt => ?_) ?_
  · show Steps p.tables e below (T6.setTop (mkF m 6 #[.val (.int p0), .val (.ref a1'), .val (.int (((p2 + (1 : Int32)) + (1 : Int32)) + (1 : Int32))), .val (.int ((((((p0.toUInt32 >>> ((7 : Int32) &&& 31).toUInt32).toInt32).toUInt32 >>> ((7 : Int32) &&& 31).toUInt32).toInt32).toUInt32 >>> ((7 : Int32) &&& 31).toUInt32).toInt32))] [(.int (128 : Int32)), (.int ((((((p0.toUInt32 >>> ((7 : Int32) &&& 31).toUInt32).toInt32).toUInt32 >>> ((7 : Int32) &&& 31).toUInt32).toInt32).toUInt32 >>> ((7 : Int32) &&& 31).toUInt32).toInt32))])) _
    refine XS.icmpYes X6.here hx rfl (pc0 := 6) (pc' := 29) rfl (hb hby d1_6) rfl (tlt hq3).1 (by decide) (by decide) kt
  refine own_step (T' := T6) (f' := (mkF m 36 #[.val (.int p0), .val (.ref a1'), .val (.int ((((p2 + (1 : Int32)) + (1 : Int32)) + (1 : Int32)) + (1 : Int32))), .val (.int ((((((p0.toUInt32 >>> ((7 : Int32) &&& 31).toUInt32).toInt32).toUInt32 >>> ((7 : Int32) &&& 31).toUInt32).toInt32).toUInt32 >>> ((7 : Int32) &&& 31).toUInt32).toInt32))] [(.int (((((((p0.toUInt32 >>> ((7 : Int32) &&& 31).toUInt32).toInt32).toUInt32 >>> ((7 : Int32) &&& 31).toUInt32).toInt32).toUInt32 >>> ((7 : Int32) &&& 31).toUInt32).toInt32).toInt8.toInt32)), (.int (((p2 + (1 : Int32)) + (1 : Int32)) + (1 : Int32))), (.ref a1')])) (fun t kt => ?_) ?_
  · show Steps p.tables e below (T6.setTop (mkF m 29 #[.val (.int p0), .val (.ref a1'), .val (.int (((p2 + (1 : Int32)) + (1 : Int32)) + (1 : Int32))), .val (.int ((((((p0.toUInt32 >>> ((7 : Int32) &&& 31).toUInt32).toInt32).toUInt32 >>> ((7 : Int32) &&& 31).toUInt32).toInt32).toUInt32 >>> ((7 : Int32) &&& 31).toUInt32).toInt32))] [])) _
    refine XS.aloadN X6.here hx rfl (hb hby d1_29) rfl rfl ?_
    show Steps p.tables e below (T6.setTop (mkF m 30 #[.val (.int p0), .val (.ref a1'), .val (.int (((p2 + (1 : Int32)) + (1 : Int32)) + (1 : Int32))), .val (.int ((((((p0.toUInt32 >>> ((7 : Int32) &&& 31).toUInt32).toInt32).toUInt32 >>> ((7 : Int32) &&& 31).toUInt32).toInt32).toUInt32 >>> ((7 : Int32) &&& 31).toUInt32).toInt32))] [(.ref a1')])) _
    refine XS.iloadN X6.here hx rfl (hb hby d1_30) rfl ?_
    show Steps p.tables e below (T6.setTop (mkF m 31 #[.val (.int p0), .val (.ref a1'), .val (.int (((p2 + (1 : Int32)) + (1 : Int32)) + (1 : Int32))), .val (.int ((((((p0.toUInt32 >>> ((7 : Int32) &&& 31).toUInt32).toInt32).toUInt32 >>> ((7 : Int32) &&& 31).toUInt32).toInt32).toUInt32 >>> ((7 : Int32) &&& 31).toUInt32).toInt32))] [(.int (((p2 + (1 : Int32)) + (1 : Int32)) + (1 : Int32))), (.ref a1')])) _
    refine XS.iinc X6.here hx rfl (hb hby d1_31) rfl (l' := #[.val (.int p0), .val (.ref a1'), .val (.int ((((p2 + (1 : Int32)) + (1 : Int32)) + (1 : Int32)) + (1 : Int32))), .val (.int ((((((p0.toUInt32 >>> ((7 : Int32) &&& 31).toUInt32).toInt32).toUInt32 >>> ((7 : Int32) &&& 31).toUInt32).toInt32).toUInt32 >>> ((7 : Int32) &&& 31).toUInt32).toInt32))]) rfl ?_
    show Steps p.tables e below (T6.setTop (mkF m 34 #[.val (.int p0), .val (.ref a1'), .val (.int ((((p2 + (1 : Int32)) + (1 : Int32)) + (1 : Int32)) + (1 : Int32))), .val (.int ((((((p0.toUInt32 >>> ((7 : Int32) &&& 31).toUInt32).toInt32).toUInt32 >>> ((7 : Int32) &&& 31).toUInt32).toInt32).toUInt32 >>> ((7 : Int32) &&& 31).toUInt32).toInt32))] [(.int (((p2 + (1 : Int32)) + (1 : Int32)) + (1 : Int32))), (.ref a1')])) _
    refine XS.iloadN X6.here hx rfl (hb hby d1_34) rfl ?_
    show Steps p.tables e below (T6.setTop (mkF m 35 #[.val (.int p0), .val (.ref a1'), .val (.int ((((p2 + (1 : Int32)) + (1 : Int32)) + (1 : Int32)) + (1 : Int32))), .val (.int ((((((p0.toUInt32 >>> ((7 : Int32) &&& 31).toUInt32).toInt32).toUInt32 >>> ((7 : Int32) &&& 31).toUInt32).toInt32).toUInt32 >>> ((7 : Int32) &&& 31).toUInt32).toInt32))] [(.int ((((((p0.toUInt32 >>> ((7 : Int32) &&& 31).toUInt32).toInt32).toUInt32 >>> ((7 : Int32) &&& 31).toUInt32).toInt32).toUInt32 >>> ((7 : Int32) &&& 31).toUInt32).toInt32)), (.int (((p2 + (1 : Int32)) + (1 : Int32)) + (1 : Int32))), (.ref a1')])) _
    refine XS.i2b X6.here hx rfl (hb hby d1_35) rfl ?_
    exact kt
  obtain ⟨T8, h8, Lq8, X8, N8, e8, W8, Z8, Aq8, st8⟩ := own_stB X6 hx hZ e6 Aq6 (j := (((p2 + (1 : Int32)) + (1 : Int32)) + (1 : Int32))) (own_ix3 p2 hp4).1 (k := p2.toNatClampNeg + 3) (own_ix3 p2 hp4).2 (by simp only [List.length_set]; exact own_kl p2 hp4 hl0 3 (by decide)) N6 ga1 Z6 (g := (mkF m 36 #[.val (.int p0), .val (.ref a1'), .val (.int ((((p2 + (1 : Int32)) + (1 : Int32)) + (1 : Int32)) + (1 : Int32))), .val (.int ((((((p0.toUInt32 >>> ((7 : Int32) &&& 31).toUInt32).toInt32).toUInt32 >>> ((7 : Int32) &&& 31).toUInt32).toInt32).toUInt32 >>> ((7 : Int32) &&& 31).toUInt32).toInt32))] [(.int (((((((p0.toUInt32 >>> ((7 : Int32) &&& 31).toUInt32).toInt32).toUInt32 >>> ((7 : Int32) &&& 31).toUInt32).toInt32).toUInt32 >>> ((7 : Int32) &&& 31).toUInt32).toInt32).toInt8.toInt32)), (.int (((p2 + (1 : Int32)) + (1 : Int32)) + (1 : Int32))), (.ref a1')])) rfl rfl (hb hby d1_36)
  refine own_step (T' := T8) (f' := (mkF m 37 #[.val (.int p0), .val (.ref a1'), .val (.int ((((p2 + (1 : Int32)) + (1 : Int32)) + (1 : Int32)) + (1 : Int32))), .val (.int ((((((p0.toUInt32 >>> ((7 : Int32) &&& 31).toUInt32).toInt32).toUInt32 >>> ((7 : Int32) &&& 31).toUInt32).toInt32).toUInt32 >>> ((7 : Int32) &&& 31).toUInt32).toInt32))] [])) st8 ?_
  refine own_step (T' := T8) (f' := (mkF m 38 #[.val (.int p0), .val (.ref a1'), .val (.int ((((p2 + (1 : Int32)) + (1 : Int32)) + (1 : Int32)) + (1 : Int32))), .val (.int ((((((p0.toUInt32 >>> ((7 : Int32) &&& 31).toUInt32).toInt32).toUInt32 >>> ((7 : Int32) &&& 31).toUInt32).toInt32).toUInt32 >>> ((7 : Int32) &&& 31).toUInt32).toInt32))] [(.int ((((p2 + (1 : Int32)) + (1 : Int32)) + (1 : Int32)) + (1 : Int32)))])) (fun t kt => ?_) ?_
  · show Steps p.tables e below (T8.setTop (mkF m 37 #[.val (.int p0), .val (.ref a1'), .val (.int ((((p2 + (1 : Int32)) + (1 : Int32)) + (1 : Int32)) + (1 : Int32))), .val (.int ((((((p0.toUInt32 >>> ((7 : Int32) &&& 31).toUInt32).toInt32).toUInt32 >>> ((7 : Int32) &&& 31).toUInt32).toInt32).toUInt32 >>> ((7 : Int32) &&& 31).toUInt32).toInt32))] [])) _
    refine XS.iloadN X8.here hx rfl (hb hby d1_37) rfl ?_
    exact kt
  exact own_retI X8 hx hret hlk (hb hby d1_38) (by decide) (by decide) ⟨congrArg (fun z => some (Value.int z)) hr.symm, N8, (by rw [e8]; exact Aq8), (by rw [e8]; exact Z8)⟩
set_option maxRecDepth 65536 in
set_option maxHeartbeats 4000000 in
theorem rm1n4 (l : Launch) (Z : State) (a0 : Array Value) (hw : ∀ d ∈ tables_1, d.before a0 Z = true) (ws : List Jvm.Cond) (p0 : Int32) (a1' : Addr) (p2 : Int32) (vs1 : List Value) (h0 : Heap) (n0 : Nat) (A1 : own_A Z h0 a1' .byte vs1) (ga1 : n0 ≤ a1') (hl0 : vs1.length = 10) (hp4 : p2 = 0 ∨ p2 = 1 ∨ p2 = 2 ∨ p2 = 3) (hq0 : ¬ (p0 < (128 : Int32))) (hq1 : ¬ (((p0.toUInt32 >>> ((7 : Int32) &&& 31).toUInt32).toInt32) < (128 : Int32))) (hq2 : ¬ (((((p0.toUInt32 >>> ((7 : Int32) &&& 31).toUInt32).toInt32).toUInt32 >>> ((7 : Int32) &&& 31).toUInt32).toInt32) < (128 : Int32))) (hq3 : ((((((p0.toUInt32 >>> ((7 : Int32) &&& 31).toUInt32).toInt32).toUInt32 >>> ((7 : Int32) &&& 31).toUInt32).toInt32).toUInt32 >>> ((7 : Int32) &&& 31).toUInt32).toInt32) < (128 : Int32)) (Z0 : n0 ≤ h0.size) :
    MetFree l (⟨"hotstate/sort/VarInts", "write", "(I[BI)I"⟩ : MethodName) (head1 (Jvm.Cond.code (⟨"hotstate/sort/VarInts", "write", "(I[BI)I"⟩ : MethodName) prog_81_method_3_code 4 (some .int) :: ws) ({ frames := 0, cells := 0, slots := 0, locals := 0 } : Room)) (fun a U => a = #[(.int p0), (.ref a1'), (.int p2)] ∧ Z.Warmed39 U.vm ∧ U.heap = h0) (fun _ _ _ _ _ => True) (fun _ U o U' => ∃ v L, o = .returned v ∧ (own_W Z (.int (f1n4_0 p0 p2)) a1' (((((vs1.set (p2.toNatClampNeg + 0) (.int (nar .byte ((p0 ||| (128 : Int32)).toInt8.toInt32)))).set (p2.toNatClampNeg + 1) (.int (nar .byte ((((p0.toUInt32 >>> ((7 : Int32) &&& 31).toUInt32).toInt32) ||| (128 : Int32)).toInt8.toInt32)))).set (p2.toNatClampNeg + 2) (.int (nar .byte ((((((p0.toUInt32 >>> ((7 : Int32) &&& 31).toUInt32).toInt32).toUInt32 >>> ((7 : Int32) &&& 31).toUInt32).toInt32) ||| (128 : Int32)).toInt8.toInt32)))).set (p2.toNatClampNeg + 3) (.int (nar .byte (((((((p0.toUInt32 >>> ((7 : Int32) &&& 31).toUInt32).toInt32).toUInt32 >>> ((7 : Int32) &&& 31).toUInt32).toInt32).toUInt32 >>> ((7 : Int32) &&& 31).toUInt32).toInt32).toInt8.toInt32))))) n0) v U'.heap L ∧ FrameEnd U o U' L ({ frames := 0, cells := 0, slots := 0, locals := 0 } : Room).cells ({ frames := 0, cells := 0, slots := 0, locals := 0 } : Room).slots) := by
  refine MetFree.of_bodySF (plainFor_of_name pn1) hisR ?_
  intro p e s m args below meth c s₁ Bd hml0 hP hK
  obtain ⟨rfl, hZ, hh⟩ := hP
  have hown : s.vm.findClass "hotstate/sort/VarInts" = some m.cls := findClass_of_methodNamed Bd.named
  have X0 : Stand p l e ({ frames := 0, cells := 0, slots := 0, locals := 0 } : Room) s m #[(.int p0), (.ref a1'), (.int p2)] below meth c s₁ [] 0 0 := Stand.of_body Bd
  have e0 : s₁.heap = h0 := by rw [← hh, Bd.state]; rfl
  show own_Ends p e below s 0 0 (own_W Z (.int (f1n4_0 p0 p2)) a1' (((((vs1.set (p2.toNatClampNeg + 0) (.int (nar .byte ((p0 ||| (128 : Int32)).toInt8.toInt32)))).set (p2.toNatClampNeg + 1) (.int (nar .byte ((((p0.toUInt32 >>> ((7 : Int32) &&& 31).toUInt32).toInt32) ||| (128 : Int32)).toInt8.toInt32)))).set (p2.toNatClampNeg + 2) (.int (nar .byte ((((((p0.toUInt32 >>> ((7 : Int32) &&& 31).toUInt32).toInt32).toUInt32 >>> ((7 : Int32) &&& 31).toUInt32).toInt32) ||| (128 : Int32)).toInt8.toInt32)))).set (p2.toNatClampNeg + 3) (.int (nar .byte (((((((p0.toUInt32 >>> ((7 : Int32) &&& 31).toUInt32).toInt32).toUInt32 >>> ((7 : Int32) &&& 31).toUInt32).toInt32).toUInt32 >>> ((7 : Int32) &&& 31).toUInt32).toInt32).toInt8.toInt32))))) n0) s₁ (entryFrame m #[(.int p0), (.ref a1'), (.int p2)] 4)
  refine own_step (fun t k => castTop (ef1 m p0 a1' p2) k) ?_
  exact b1n4_0 p0 a1' p2 vs1 X0 Bd.exec hZ hw Bd.bytes hml0 hown Bd.returns (BodyLoose.notSynchronized Bd) e0 (Fr.nil n0) A1 ga1 hl0 hp4 hq0 hq1 hq2 hq3 Z0 rfl
def f1n5_0 (p0 : Int32) (p2 : Int32) : Int32 :=
  (((((p2 + (1 : Int32)) + (1 : Int32)) + (1 : Int32)) + (1 : Int32)) + (1 : Int32))
set_option maxRecDepth 65536 in
set_option maxHeartbeats 4000000 in
theorem b1n5_0 {p : Program} {l : Launch} {e : Env} {s : State} {m : MethodId} {args : Array Value} {below : List Frame} {meth : Method} {c : Code} {T0 : State} {locs : List Loc} {Z : State} {a0 : Array Value} {h0 : Heap} {n0 : Nat} (p0 : Int32) (a1' : Addr) (p2 : Int32) (vs1 : List Value) {r : Int32} (X0 : Stand p l e ({ frames := 0, cells := 0, slots := 0, locals := 0 } : Room) s m args below meth c T0 locs 0 0) (hx : p.tables.exec = Jvm.exec) (hZ : Z.Warmed39 s.vm) (hw : ∀ d ∈ tables_1, d.before a0 Z = true) (hby : c.code = prog_81_method_3_code) (hml : c.maxLocals = 4) (hown : s.vm.findClass "hotstate/sort/VarInts" = some m.cls) (hret : meth.sig.returnType = some .int) (hlk : meth.locks = false) (e0 : T0.heap = h0) (N0 : Fr n0 locs) (A1 : own_A Z h0 a1' .byte vs1) (ga1 : n0 ≤ a1') (hl0 : vs1.length = 10) (hp4 : p2 = 0 ∨ p2 = 1 ∨ p2 = 2 ∨ p2 = 3) (hq0 : ¬ (p0 < (128 : Int32))) (hq1 : ¬ (((p0.toUInt32 >>> ((7 : Int32) &&& 31).toUInt32).toInt32) < (128 : Int32))) (hq2 : ¬ (((((p0.toUInt32 >>> ((7 : Int32) &&& 31).toUInt32).toInt32).toUInt32 >>> ((7 : Int32) &&& 31).toUInt32).toInt32) < (128 : Int32))) (hq3 : ¬ (((((((p0.toUInt32 >>> ((7 : Int32) &&& 31).toUInt32).toInt32).toUInt32 >>> ((7 : Int32) &&& 31).toUInt32).toInt32).toUInt32 >>> ((7 : Int32) &&& 31).toUInt32).toInt32) < (128 : Int32))) (hq4 : ((((((((p0.toUInt32 >>> ((7 : Int32) &&& 31).toUInt32).toInt32).toUInt32 >>> ((7 : Int32) &&& 31).toUInt32).toInt32).toUInt32 >>> ((7 : Int32) &&& 31).toUInt32).toInt32).toUInt32 >>> ((7 : Int32) &&& 31).toUInt32).toInt32) < (128 : Int32)) (Z0 : n0 ≤ h0.size) (hr : r = f1n5_0 p0 p2) :
    own_Ends p e below s 0 0 (own_W Z (.int r) a1' ((((((vs1.set (p2.toNatClampNeg + 0) (.int (nar .byte ((p0 ||| (128 : Int32)).toInt8.toInt32)))).set (p2.toNatClampNeg + 1) (.int (nar .byte ((((p0.toUInt32 >>> ((7 : Int32) &&& 31).toUInt32).toInt32) ||| (128 : Int32)).toInt8.toInt32)))).set (p2.toNatClampNeg + 2) (.int (nar .byte ((((((p0.toUInt32 >>> ((7 : Int32) &&& 31).toUInt32).toInt32).toUInt32 >>> ((7 : Int32) &&& 31).toUInt32).toInt32) ||| (128 : Int32)).toInt8.toInt32)))).set (p2.toNatClampNeg + 3) (.int (nar .byte ((((((((p0.toUInt32 >>> ((7 : Int32) &&& 31).toUInt32).toInt32).toUInt32 >>> ((7 : Int32) &&& 31).toUInt32).toInt32).toUInt32 >>> ((7 : Int32) &&& 31).toUInt32).toInt32) ||| (128 : Int32)).toInt8.toInt32)))).set (p2.toNatClampNeg + 4) (.int (nar .byte (((((((((p0.toUInt32 >>> ((7 : Int32) &&& 31).toUInt32).toInt32).toUInt32 >>> ((7 : Int32) &&& 31).toUInt32).toInt32).toUInt32 >>> ((7 : Int32) &&& 31).toUInt32).toInt32).toUInt32 >>> ((7 : Int32) &&& 31).toUInt32).toInt32).toInt8.toInt32))))) n0) T0 (mkF m 0 #[.val (.int p0), .val (.ref a1'), .val (.int p2), .unset] []) := by
  unfold f1n5_0 at hr
  refine own_step (T' := T0) (f' := (mkF m 6 #[.val (.int p0), .val (.ref a1'), .val (.int p2), .val (.int p0)] [(.int (128 : Int32)), (.int p0)])) (fun t kt => ?_) ?_
  · show Steps p.tables e below (T0.setTop (mkF m 0 #[.val (.int p0), .val (.ref a1'), .val (.int p2), .unset] [])) _
    refine XS.iloadN X0.here hx rfl (hb hby d1_0) rfl ?_
    show Steps p.tables e below (T0.setTop (mkF m 1 #[.val (.int p0), .val (.ref a1'), .val (.int p2), .unset] [(.int p0)])) _
    refine XS.istoreN X0.here hx rfl (hb hby d1_1) rfl (l' := #[.val (.int p0), .val (.ref a1'), .val (.int p2), .val (.int p0)]) rfl ?_
    show Steps p.tables e below (T0.setTop (mkF m 2 #[.val (.int p0), .val (.ref a1'), .val (.int p2), .val (.int p0)] [])) _
    refine XS.iloadN X0.here hx rfl (hb hby d1_2) rfl ?_
    show Steps p.tables e below (T0.setTop (mkF m 3 #[.val (.int p0), .val (.ref a1'), .val (.int p2), .val (.int p0)] [(.int p0)])) _
    refine XS.sipush X0.here hx rfl (hb hby d1_3) ?_
    exact kt
  refine own_step (T' := T0) (f' := (mkF m 9 #[.val (.int p0), .val (.ref a1'), .val (.int p2), .val (.int p0)] [])) (fun t kt => ?_) ?_
  · show Steps p.tables e below (T0.setTop (mkF m 6 #[.val (.int p0), .val (.ref a1'), .val (.int p2), .val (.int p0)] [(.int (128 : Int32)), (.int p0)])) _
    refine XS.icmpNo X0.here hx rfl (hb hby d1_6) rfl (flt hq0).1 kt
  refine own_step (T' := T0) (f' := (mkF m 20 #[.val (.int p0), .val (.ref a1'), .val (.int (p2 + (1 : Int32))), .val (.int p0)] [(.int ((p0 ||| (128 : Int32)).toInt8.toInt32)), (.int p2), (.ref a1')])) (fun t kt => ?_) ?_
  · show Steps p.tables e below (T0.setTop (mkF m 9 #[.val (.int p0), .val (.ref a1'), .val (.int p2), .val (.int p0)] [])) _
    refine XS.aloadN X0.here hx rfl (hb hby d1_9) rfl rfl ?_
    show Steps p.tables e below (T0.setTop (mkF m 10 #[.val (.int p0), .val (.ref a1'), .val (.int p2), .val (.int p0)] [(.ref a1')])) _
    refine XS.iloadN X0.here hx rfl (hb hby d1_10) rfl ?_
    show Steps p.tables e below (T0.setTop (mkF m 11 #[.val (.int p0), .val (.ref a1'), .val (.int p2), .val (.int p0)] [(.int p2), (.ref a1')])) _
    refine XS.iinc X0.here hx rfl (hb hby d1_11) rfl (l' := #[.val (.int p0), .val (.ref a1'), .val (.int (p2 + (1 : Int32))), .val (.int p0)]) rfl ?_
    show Steps p.tables e below (T0.setTop (mkF m 14 #[.val (.int p0), .val (.ref a1'), .val (.int (p2 + (1 : Int32))), .val (.int p0)] [(.int p2), (.ref a1')])) _
    refine XS.iloadN X0.here hx rfl (hb hby d1_14) rfl ?_
    show Steps p.tables e below (T0.setTop (mkF m 15 #[.val (.int p0), .val (.ref a1'), .val (.int (p2 + (1 : Int32))), .val (.int p0)] [(.int p0), (.int p2), (.ref a1')])) _
    refine XS.sipush X0.here hx rfl (hb hby d1_15) ?_
    show Steps p.tables e below (T0.setTop (mkF m 18 #[.val (.int p0), .val (.ref a1'), .val (.int (p2 + (1 : Int32))), .val (.int p0)] [(.int (128 : Int32)), (.int p0), (.int p2), (.ref a1')])) _
    refine XS.ior X0.here hx rfl (hb hby d1_18) rfl ?_
    show Steps p.tables e below (T0.setTop (mkF m 19 #[.val (.int p0), .val (.ref a1'), .val (.int (p2 + (1 : Int32))), .val (.int p0)] [(.int (p0 ||| (128 : Int32))), (.int p2), (.ref a1')])) _
    refine XS.i2b X0.here hx rfl (hb hby d1_19) rfl ?_
    exact kt
  obtain ⟨T2, h2, Lq2, X2, N2, e2, W2, Z2, Aq2, st2⟩ := own_stB X0 hx hZ e0 A1 (j := p2) (own_ix0 p2 hp4).1 (k := p2.toNatClampNeg + 0) (own_ix0 p2 hp4).2 (own_kl p2 hp4 hl0 0 (by decide)) N0 ga1 Z0 (g := (mkF m 20 #[.val (.int p0), .val (.ref a1'), .val (.int (p2 + (1 : Int32))), .val (.int p0)] [(.int ((p0 ||| (128 : Int32)).toInt8.toInt32)), (.int p2), (.ref a1')])) rfl rfl (hb hby d1_20)
  refine own_step (T' := T2) (f' := (mkF m 21 #[.val (.int p0), .val (.ref a1'), .val (.int (p2 + (1 : Int32))), .val (.int p0)] [])) st2 ?_
  refine own_step (T' := T2) (f' := (mkF m 6 #[.val (.int p0), .val (.ref a1'), .val (.int (p2 + (1 : Int32))), .val (.int ((p0.toUInt32 >>> ((7 : Int32) &&& 31).toUInt32).toInt32))] [(.int (128 : Int32)), (.int ((p0.toUInt32 >>> ((7 : Int32) &&& 31).toUInt32).toInt32))])) (fun t kt => ?_) ?_
  · show Steps p.tables e below (T2.setTop (mkF m 21 #[.val (.int p0), .val (.ref a1'), .val (.int (p2 + (1 : Int32))), .val (.int p0)] [])) _
    refine XS.iloadN X2.here hx rfl (hb hby d1_21) rfl ?_
    show Steps p.tables e below (T2.setTop (mkF m 22 #[.val (.int p0), .val (.ref a1'), .val (.int (p2 + (1 : Int32))), .val (.int p0)] [(.int p0)])) _
    refine XS.bipush X2.here hx rfl (hb hby d1_22) ?_
    show Steps p.tables e below (T2.setTop (mkF m 24 #[.val (.int p0), .val (.ref a1'), .val (.int (p2 + (1 : Int32))), .val (.int p0)] [(.int (7 : Int32)), (.int p0)])) _
    refine XS.iushr X2.here hx rfl (hb hby d1_24) rfl ?_
    show Steps p.tables e below (T2.setTop (mkF m 25 #[.val (.int p0), .val (.ref a1'), .val (.int (p2 + (1 : Int32))), .val (.int p0)] [(.int ((p0.toUInt32 >>> ((7 : Int32) &&& 31).toUInt32).toInt32))])) _
    refine XS.istoreN X2.here hx rfl (hb hby d1_25) rfl (l' := #[.val (.int p0), .val (.ref a1'), .val (.int (p2 + (1 : Int32))), .val (.int ((p0.toUInt32 >>> ((7 : Int32) &&& 31).toUInt32).toInt32))]) rfl ?_
    show Steps p.tables e below (T2.setTop (mkF m 26 #[.val (.int p0), .val (.ref a1'), .val (.int (p2 + (1 : Int32))), .val (.int ((p0.toUInt32 >>> ((7 : Int32) &&& 31).toUInt32).toInt32))] [])) _
    refine XS.goto X2.here hx rfl (pc0 := 26) (pc' := 2) rfl (hb hby d1_26) (by decide) (by decide) ?_
    show Steps p.tables e below (T2.setTop (mkF m 2 #[.val (.int p0), .val (.ref a1'), .val (.int (p2 + (1 : Int32))), .val (.int ((p0.toUInt32 >>> ((7 : Int32) &&& 31).toUInt32).toInt32))] [])) _
    refine XS.iloadN X2.here hx rfl (hb hby d1_2) rfl ?_
    show Steps p.tables e below (T2.setTop (mkF m 3 #[.val (.int p0), .val (.ref a1'), .val (.int (p2 + (1 : Int32))), .val (.int ((p0.toUInt32 >>> ((7 : Int32) &&& 31).toUInt32).toInt32))] [(.int ((p0.toUInt32 >>> ((7 : Int32) &&& 31).toUInt32).toInt32))])) _
    refine XS.sipush X2.here hx rfl (hb hby d1_3) ?_
    exact kt
  refine own_step (T' := T2) (f' := (mkF m 9 #[.val (.int p0), .val (.ref a1'), .val (.int (p2 + (1 : Int32))), .val (.int ((p0.toUInt32 >>> ((7 : Int32) &&& 31).toUInt32).toInt32))] [])) (fun t kt => ?_) ?_
  · show Steps p.tables e below (T2.setTop (mkF m 6 #[.val (.int p0), .val (.ref a1'), .val (.int (p2 + (1 : Int32))), .val (.int ((p0.toUInt32 >>> ((7 : Int32) &&& 31).toUInt32).toInt32))] [(.int (128 : Int32)), (.int ((p0.toUInt32 >>> ((7 : Int32) &&& 31).toUInt32).toInt32))])) _
    refine XS.icmpNo X2.here hx rfl (hb hby d1_6) rfl (flt hq1).1 kt
  refine own_step (T' := T2) (f' := (mkF m 20 #[.val (.int p0), .val (.ref a1'), .val (.int ((p2 + (1 : Int32)) + (1 : Int32))), .val (.int ((p0.toUInt32 >>> ((7 : Int32) &&& 31).toUInt32).toInt32))] [(.int ((((p0.toUInt32 >>> ((7 : Int32) &&& 31).toUInt32).toInt32) ||| (128 : Int32)).toInt8.toInt32)), (.int (p2 + (1 : Int32))), (.ref a1')])) (fun t kt => ?_) ?_
  · show Steps p.tables e below (T2.setTop (mkF m 9 #[.val (.int p0), .val (.ref a1'), .val (.int (p2 + (1 : Int32))), .val (.int ((p0.toUInt32 >>> ((7 : Int32) &&& 31).toUInt32).toInt32))] [])) _
    refine XS.aloadN X2.here hx rfl (hb hby d1_9) rfl rfl ?_
    show Steps p.tables e below (T2.setTop (mkF m 10 #[.val (.int p0), .val (.ref a1'), .val (.int (p2 + (1 : Int32))), .val (.int ((p0.toUInt32 >>> ((7 : Int32) &&& 31).toUInt32).toInt32))] [(.ref a1')])) _
    refine XS.iloadN X2.here hx rfl (hb hby d1_10) rfl ?_
    show Steps p.tables e below (T2.setTop (mkF m 11 #[.val (.int p0), .val (.ref a1'), .val (.int (p2 + (1 : Int32))), .val (.int ((p0.toUInt32 >>> ((7 : Int32) &&& 31).toUInt32).toInt32))] [(.int (p2 + (1 : Int32))), (.ref a1')])) _
    refine XS.iinc X2.here hx rfl (hb hby d1_11) rfl (l' := #[.val (.int p0), .val (.ref a1'), .val (.int ((p2 + (1 : Int32)) + (1 : Int32))), .val (.int ((p0.toUInt32 >>> ((7 : Int32) &&& 31).toUInt32).toInt32))]) rfl ?_
    show Steps p.tables e below (T2.setTop (mkF m 14 #[.val (.int p0), .val (.ref a1'), .val (.int ((p2 + (1 : Int32)) + (1 : Int32))), .val (.int ((p0.toUInt32 >>> ((7 : Int32) &&& 31).toUInt32).toInt32))] [(.int (p2 + (1 : Int32))), (.ref a1')])) _
    refine XS.iloadN X2.here hx rfl (hb hby d1_14) rfl ?_
    show Steps p.tables e below (T2.setTop (mkF m 15 #[.val (.int p0), .val (.ref a1'), .val (.int ((p2 + (1 : Int32)) + (1 : Int32))), .val (.int ((p0.toUInt32 >>> ((7 : Int32) &&& 31).toUInt32).toInt32))] [(.int ((p0.toUInt32 >>> ((7 : Int32) &&& 31).toUInt32).toInt32)), (.int (p2 + (1 : Int32))), (.ref a1')])) _
    refine XS.sipush X2.here hx rfl (hb hby d1_15) ?_
    show Steps p.tables e below (T2.setTop (mkF m 18 #[.val (.int p0), .val (.ref a1'), .val (.int ((p2 + (1 : Int32)) + (1 : Int32))), .val (.int ((p0.toUInt32 >>> ((7 : Int32) &&& 31).toUInt32).toInt32))] [(.int (128 : Int32)), (.int ((p0.toUInt32 >>> ((7 : Int32) &&& 31).toUInt32).toInt32)), (.int (p2 + (1 : Int32))), (.ref a1')])) _
    refine XS.ior X2.here hx rfl (hb hby d1_18) rfl ?_
    show Steps p.tables e below (T2.setTop (mkF m 19 #[.val (.int p0), .val (.ref a1'), .val (.int ((p2 + (1 : Int32)) + (1 : Int32))), .val (.int ((p0.toUInt32 >>> ((7 : Int32) &&& 31).toUInt32).toInt32))] [(.int (((p0.toUInt32 >>> ((7 : Int32) &&& 31).toUInt32).toInt32) ||| (128 : Int32))), (.int (p2 + (1 : Int32))), (.ref a1')])) _
    refine XS.i2b X2.here hx rfl (hb hby d1_19) rfl ?_
    exact kt
  obtain ⟨T4, h4, Lq4, X4, N4, e4, W4, Z4, Aq4, st4⟩ := own_stB X2 hx hZ e2 Aq2 (j := (p2 + (1 : Int32))) (own_ix1 p2 hp4).1 (k := p2.toNatClampNeg + 1) (own_ix1 p2 hp4).2 (by simp only [List.length_set]; exact own_kl p2 hp4 hl0 1 (by decide)) N2 ga1 Z2 (g := (mkF m 20 #[.val (.int p0), .val (.ref a1'), .val (.int ((p2 + (1 : Int32)) + (1 : Int32))), .val (.int ((p0.toUInt32 >>> ((7 : Int32) &&& 31).toUInt32).toInt32))] [(.int ((((p0.toUInt32 >>> ((7 : Int32) &&& 31).toUInt32).toInt32) ||| (128 : Int32)).toInt8.toInt32)), (.int (p2 + (1 : Int32))), (.ref a1')])) rfl rfl (hb hby d1_20)
  refine own_step (T' := T4) (f' := (mkF m 21 #[.val (.int p0), .val (.ref a1'), .val (.int ((p2 + (1 : Int32)) + (1 : Int32))), .val (.int ((p0.toUInt32 >>> ((7 : Int32) &&& 31).toUInt32).toInt32))] [])) st4 ?_
  refine own_step (T' := T4) (f' := (mkF m 6 #[.val (.int p0), .val (.ref a1'), .val (.int ((p2 + (1 : Int32)) + (1 : Int32))), .val (.int ((((p0.toUInt32 >>> ((7 : Int32) &&& 31).toUInt32).toInt32).toUInt32 >>> ((7 : Int32) &&& 31).toUInt32).toInt32))] [(.int (128 : Int32)), (.int ((((p0.toUInt32 >>> ((7 : Int32) &&& 31).toUInt32).toInt32).toUInt32 >>> ((7 : Int32) &&& 31).toUInt32).toInt32))])) (fun t kt => ?_) ?_
  · show Steps p.tables e below (T4.setTop (mkF m 21 #[.val (.int p0), .val (.ref a1'), .val (.int ((p2 + (1 : Int32)) + (1 : Int32))), .val (.int ((p0.toUInt32 >>> ((7 : Int32) &&& 31).toUInt32).toInt32))] [])) _
    refine XS.iloadN X4.here hx rfl (hb hby d1_21) rfl ?_
    show Steps p.tables e below (T4.setTop (mkF m 22 #[.val (.int p0), .val (.ref a1'), .val (.int ((p2 + (1 : Int32)) + (1 : Int32))), .val (.int ((p0.toUInt32 >>> ((7 : Int32) &&& 31).toUInt32).toInt32))] [(.int ((p0.toUInt32 >>> ((7 : Int32) &&& 31).toUInt32).toInt32))])) _
    refine XS.bipush X4.here hx rfl (hb hby d1_22) ?_
    show Steps p.tables e below (T4.setTop (mkF m 24 #[.val (.int p0), .val (.ref a1'), .val (.int ((p2 + (1 : Int32)) + (1 : Int32))), .val (.int ((p0.toUInt32 >>> ((7 : Int32) &&& 31).toUInt32).toInt32))] [(.int (7 : Int32)), (.int ((p0.toUInt32 >>> ((7 : Int32) &&& 31).toUInt32).toInt32))])) _
    refine XS.iushr X4.here hx rfl (hb hby d1_24) rfl ?_
    show Steps p.tables e below (T4.setTop (mkF m 25 #[.val (.int p0), .val (.ref a1'), .val (.int ((p2 + (1 : Int32)) + (1 : Int32))), .val (.int ((p0.toUInt32 >>> ((7 : Int32) &&& 31).toUInt32).toInt32))] [(.int ((((p0.toUInt32 >>> ((7 : Int32) &&& 31).toUInt32).toInt32).toUInt32 >>> ((7 : Int32) &&& 31).toUInt32).toInt32))])) _
    refine XS.istoreN X4.here hx rfl (hb hby d1_25) rfl (l' := #[.val (.int p0), .val (.ref a1'), .val (.int ((p2 + (1 : Int32)) + (1 : Int32))), .val (.int ((((p0.toUInt32 >>> ((7 : Int32) &&& 31).toUInt32).toInt32).toUInt32 >>> ((7 : Int32) &&& 31).toUInt32).toInt32))]) rfl ?_
    show Steps p.tables e below (T4.setTop (mkF m 26 #[.val (.int p0), .val (.ref a1'), .val (.int ((p2 + (1 : Int32)) + (1 : Int32))), .val (.int ((((p0.toUInt32 >>> ((7 : Int32) &&& 31).toUInt32).toInt32).toUInt32 >>> ((7 : Int32) &&& 31).toUInt32).toInt32))] [])) _
    refine XS.goto X4.here hx rfl (pc0 := 26) (pc' := 2) rfl (hb hby d1_26) (by decide) (by decide) ?_
    show Steps p.tables e below (T4.setTop (mkF m 2 #[.val (.int p0), .val (.ref a1'), .val (.int ((p2 + (1 : Int32)) + (1 : Int32))), .val (.int ((((p0.toUInt32 >>> ((7 : Int32) &&& 31).toUInt32).toInt32).toUInt32 >>> ((7 : Int32) &&& 31).toUInt32).toInt32))] [])) _
    refine XS.iloadN X4.here hx rfl (hb hby d1_2) rfl ?_
    show Steps p.tables e below (T4.setTop (mkF m 3 #[.val (.int p0), .val (.ref a1'), .val (.int ((p2 + (1 : Int32)) + (1 : Int32))), .val (.int ((((p0.toUInt32 >>> ((7 : Int32) &&& 31).toUInt32).toInt32).toUInt32 >>> ((7 : Int32) &&& 31).toUInt32).toInt32))] [(.int ((((p0.toUInt32 >>> ((7 : Int32) &&& 31).toUInt32).toInt32).toUInt32 >>> ((7 : Int32) &&& 31).toUInt32).toInt32))])) _
    refine XS.sipush X4.here hx rfl (hb hby d1_3) ?_
    exact kt
  refine own_step (T' := T4) (f' := (mkF m 9 #[.val (.int p0), .val (.ref a1'), .val (.int ((p2 + (1 : Int32)) + (1 : Int32))), .val (.int ((((p0.toUInt32 >>> ((7 : Int32) &&& 31).toUInt32).toInt32).toUInt32 >>> ((7 : Int32) &&& 31).toUInt32).toInt32))] [])) (fun t kt => ?_) ?_
  · show Steps p.tables e below (T4.setTop (mkF m 6 #[.val (.int p0), .val (.ref a1'), .val (.int ((p2 + (1 : Int32)) + (1 : Int32))), .val (.int ((((p0.toUInt32 >>> ((7 : Int32) &&& 31).toUInt32).toInt32).toUInt32 >>> ((7 : Int32) &&& 31).toUInt32).toInt32))] [(.int (128 : Int32)), (.int ((((p0.toUInt32 >>> ((7 : Int32) &&& 31).toUInt32).toInt32).toUInt32 >>> ((7 : Int32) &&& 31).toUInt32).toInt32))])) _
    refine XS.icmpNo X4.here hx rfl (hb hby d1_6) rfl (flt hq2).1 kt
  refine own_step (T' := T4) (f' := (mkF m 20 #[.val (.int p0), .val (.ref a1'), .val (.int (((p2 + (1 : Int32)) + (1 : Int32)) + (1 : Int32))), .val (.int ((((p0.toUInt32 >>> ((7 : Int32) &&& 31).toUInt32).toInt32).toUInt32 >>> ((7 : Int32) &&& 31).toUInt32).toInt32))] [(.int ((((((p0.toUInt32 >>> ((7 : Int32) &&& 31).toUInt32).toInt32).toUInt32 >>> ((7 : Int32) &&& 31).toUInt32).toInt32) ||| (128 : Int32)).toInt8.toInt32)), (.int ((p2 + (1 : Int32)) + (1 : Int32))), (.ref a1')])) (fun t kt => ?_) ?_
  · show Steps p.tables e below (T4.setTop (mkF m 9 #[.val (.int p0), .val (.ref a1'), .val (.int ((p2 + (1 : Int32)) + (1 : Int32))), .val (.int ((((p0.toUInt32 >>> ((7 : Int32) &&& 31).toUInt32).toInt32).toUInt32 >>> ((7 : Int32) &&& 31).toUInt32).toInt32))] [])) _
    refine XS.aloadN X4.here hx rfl (hb hby d1_9) rfl rfl ?_
    show Steps p.tables e below (T4.setTop (mkF m 10 #[.val (.int p0), .val (.ref a1'), .val (.int ((p2 + (1 : Int32)) + (1 : Int32))), .val (.int ((((p0.toUInt32 >>> ((7 : Int32) &&& 31).toUInt32).toInt32).toUInt32 >>> ((7 : Int32) &&& 31).toUInt32).toInt32))] [(.ref a1')])) _
    refine XS.iloadN X4.here hx rfl (hb hby d1_10) rfl ?_
    show Steps p.tables e below (T4.setTop (mkF m 11 #[.val (.int p0), .val (.ref a1'), .val (.int ((p2 + (1 : Int32)) + (1 : Int32))), .val (.int ((((p0.toUInt32 >>> ((7 : Int32) &&& 31).toUInt32).toInt32).toUInt32 >>> ((7 : Int32) &&& 31).toUInt32).toInt32))] [(.int ((p2 + (1 : Int32)) + (1 : Int32))), (.ref a1')])) _
    refine XS.iinc X4.here hx rfl (hb hby d1_11) rfl (l' := #[.val (.int p0), .val (.ref a1'), .val (.int (((p2 + (1 : Int32)) + (1 : Int32)) + (1 : Int32))), .val (.int ((((p0.toUInt32 >>> ((7 : Int32) &&& 31).toUInt32).toInt32).toUInt32 >>> ((7 : Int32) &&& 31).toUInt32).toInt32))]) rfl ?_
    show Steps p.tables e below (T4.setTop (mkF m 14 #[.val (.int p0), .val (.ref a1'), .val (.int (((p2 + (1 : Int32)) + (1 : Int32)) + (1 : Int32))), .val (.int ((((p0.toUInt32 >>> ((7 : Int32) &&& 31).toUInt32).toInt32).toUInt32 >>> ((7 : Int32) &&& 31).toUInt32).toInt32))] [(.int ((p2 + (1 : Int32)) + (1 : Int32))), (.ref a1')])) _
    refine XS.iloadN X4.here hx rfl (hb hby d1_14) rfl ?_
    show Steps p.tables e below (T4.setTop (mkF m 15 #[.val (.int p0), .val (.ref a1'), .val (.int (((p2 + (1 : Int32)) + (1 : Int32)) + (1 : Int32))), .val (.int ((((p0.toUInt32 >>> ((7 : Int32) &&& 31).toUInt32).toInt32).toUInt32 >>> ((7 : Int32) &&& 31).toUInt32).toInt32))] [(.int ((((p0.toUInt32 >>> ((7 : Int32) &&& 31).toUInt32).toInt32).toUInt32 >>> ((7 : Int32) &&& 31).toUInt32).toInt32)), (.int ((p2 + (1 : Int32)) + (1 : Int32))), (.ref a1')])) _
    refine XS.sipush X4.here hx rfl (hb hby d1_15) ?_
    show Steps p.tables e below (T4.setTop (mkF m 18 #[.val (.int p0), .val (.ref a1'), .val (.int (((p2 + (1 : Int32)) + (1 : Int32)) + (1 : Int32))), .val (.int ((((p0.toUInt32 >>> ((7 : Int32) &&& 31).toUInt32).toInt32).toUInt32 >>> ((7 : Int32) &&& 31).toUInt32).toInt32))] [(.int (128 : Int32)), (.int ((((p0.toUInt32 >>> ((7 : Int32) &&& 31).toUInt32).toInt32).toUInt32 >>> ((7 : Int32) &&& 31).toUInt32).toInt32)), (.int ((p2 + (1 : Int32)) + (1 : Int32))), (.ref a1')])) _
    refine XS.ior X4.here hx rfl (hb hby d1_18) rfl ?_
    show Steps p.tables e below (T4.setTop (mkF m 19 #[.val (.int p0), .val (.ref a1'), .val (.int (((p2 + (1 : Int32)) + (1 : Int32)) + (1 : Int32))), .val (.int ((((p0.toUInt32 >>> ((7 : Int32) &&& 31).toUInt32).toInt32).toUInt32 >>> ((7 : Int32) &&& 31).toUInt32).toInt32))] [(.int (((((p0.toUInt32 >>> ((7 : Int32) &&& 31).toUInt32).toInt32).toUInt32 >>> ((7 : Int32) &&& 31).toUInt32).toInt32) ||| (128 : Int32))), (.int ((p2 + (1 : Int32)) + (1 : Int32))), (.ref a1')])) _
    refine XS.i2b X4.here hx rfl (hb hby d1_19) rfl ?_
    exact kt
  obtain ⟨T6, h6, Lq6, X6, N6, e6, W6, Z6, Aq6, st6⟩ := own_stB X4 hx hZ e4 Aq4 (j := ((p2 + (1 : Int32)) + (1 : Int32))) (own_ix2 p2 hp4).1 (k := p2.toNatClampNeg + 2) (own_ix2 p2 hp4).2 (by simp only [List.length_set]; exact own_kl p2 hp4 hl0 2 (by decide)) N4 ga1 Z4 (g := (mkF m 20 #[.val (.int p0), .val (.ref a1'), .val (.int (((p2 + (1 : Int32)) + (1 : Int32)) + (1 : Int32))), .val (.int ((((p0.toUInt32 >>> ((7 : Int32) &&& 31).toUInt32).toInt32).toUInt32 >>> ((7 : Int32) &&& 31).toUInt32).toInt32))] [(.int ((((((p0.toUInt32 >>> ((7 : Int32) &&& 31).toUInt32).toInt32).toUInt32 >>> ((7 : Int32) &&& 31).toUInt32).toInt32) ||| (128 : Int32)).toInt8.toInt32)), (.int ((p2 + (1 : Int32)) + (1 : Int32))), (.ref a1')])) rfl rfl (hb hby d1_20)
  refine own_step (T' := T6) (f' := (mkF m 21 #[.val (.int p0), .val (.ref a1'), .val (.int (((p2 + (1 : Int32)) + (1 : Int32)) + (1 : Int32))), .val (.int ((((p0.toUInt32 >>> ((7 : Int32) &&& 31).toUInt32).toInt32).toUInt32 >>> ((7 : Int32) &&& 31).toUInt32).toInt32))] [])) st6 ?_
  refine own_step (T' := T6) (f' := (mkF m 6 #[.val (.int p0), .val (.ref a1'), .val (.int (((p2 + (1 : Int32)) + (1 : Int32)) + (1 : Int32))), .val (.int ((((((p0.toUInt32 >>> ((7 : Int32) &&& 31).toUInt32).toInt32).toUInt32 >>> ((7 : Int32) &&& 31).toUInt32).toInt32).toUInt32 >>> ((7 : Int32) &&& 31).toUInt32).toInt32))] [(.int (128 : Int32)), (.int ((((((p0.toUInt32 >>> ((7 : Int32) &&& 31).toUInt32).toInt32).toUInt32 >>> ((7 : Int32) &&& 31).toUInt32).toInt32).toUInt32 >>> ((7 : Int32) &&& 31).toUInt32).toInt32))])) (fun t kt => ?_) ?_
  · show Steps p.tables e below (T6.setTop (mkF m 21 #[.val (.int p0), .val (.ref a1'), .val (.int (((p2 + (1 : Int32)) + (1 : Int32)) + (1 : Int32))), .val (.int ((((p0.toUInt32 >>> ((7 : Int32) &&& 31).toUInt32).toInt32).toUInt32 >>> ((7 : Int32) &&& 31).toUInt32).toInt32))] [])) _
    refine XS.iloadN X6.here hx rfl (hb hby d1_21) rfl ?_
    show Steps p.tables e below (T6.setTop (mkF m 22 #[.val (.int p0), .val (.ref a1'), .val (.int (((p2 + (1 : Int32)) + (1 : Int32)) + (1 : Int32))), .val (.int ((((p0.toUInt32 >>> ((7 : Int32) &&& 31).toUInt32).toInt32).toUInt32 >>> ((7 : Int32) &&& 31).toUInt32).toInt32))] [(.int ((((p0.toUInt32 >>> ((7 : Int32) &&& 31).toUInt32).toInt32).toUInt32 >>> ((7 : Int32) &&& 31).toUInt32).toInt32))])) _
    refine XS.bipush X6.here hx rfl (hb hby d1_22) ?_
    show Steps p.tables e below (T6.setTop (mkF m 24 #[.val (.int p0), .val (.ref a1'), .val (.int (((p2 + (1 : Int32)) + (1 : Int32)) + (1 : Int32))), .val (.int ((((p0.toUInt32 >>> ((7 : Int32) &&& 31).toUInt32).toInt32).toUInt32 >>> ((7 : Int32) &&& 31).toUInt32).toInt32))] [(.int (7 : Int32)), (.int ((((p0.toUInt32 >>> ((7 : Int32) &&& 31).toUInt32).toInt32).toUInt32 >>> ((7 : Int32) &&& 31).toUInt32).toInt32))])) _
    refine XS.iushr X6.here hx rfl (hb hby d1_24) rfl ?_
    show Steps p.tables e below (T6.setTop (mkF m 25 #[.val (.int p0), .val (.ref a1'), .val (.int (((p2 + (1 : Int32)) + (1 : Int32)) + (1 : Int32))), .val (.int ((((p0.toUInt32 >>> ((7 : Int32) &&& 31).toUInt32).toInt32).toUInt32 >>> ((7 : Int32) &&& 31).toUInt32).toInt32))] [(.int ((((((p0.toUInt32 >>> ((7 : Int32) &&& 31).toUInt32).toInt32).toUInt32 >>> ((7 : Int32) &&& 31).toUInt32).toInt32).toUInt32 >>> ((7 : Int32) &&& 31).toUInt32).toInt32))])) _
    refine XS.istoreN X6.here hx rfl (hb hby d1_25) rfl (l' := #[.val (.int p0), .val (.ref a1'), .val (.int (((p2 + (1 : Int32)) + (1 : Int32)) + (1 : Int32))), .val (.int ((((((p0.toUInt32 >>> ((7 : Int32) &&& 31).toUInt32).toInt32).toUInt32 >>> ((7 : Int32) &&& 31).toUInt32).toInt32).toUInt32 >>> ((7 : Int32) &&& 31).toUInt32).toInt32))]) rfl ?_
    show Steps p.tables e below (T6.setTop (mkF m 26 #[.val (.int p0), .val (.ref a1'), .val (.int (((p2 + (1 : Int32)) + (1 : Int32)) + (1 : Int32))), .val (.int ((((((p0.toUInt32 >>> ((7 : Int32) &&& 31).toUInt32).toInt32).toUInt32 >>> ((7 : Int32) &&& 31).toUInt32).toInt32).toUInt32 >>> ((7 : Int32) &&& 31).toUInt32).toInt32))] [])) _
    refine XS.goto X6.here hx rfl (pc0 := 26) (pc' := 2) rfl (hb hby d1_26) (by decide) (by decide) ?_
    show Steps p.tables e below (T6.setTop (mkF m 2 #[.val (.int p0), .val (.ref a1'), .val (.int (((p2 + (1 : Int32)) + (1 : Int32)) + (1 : Int32))), .val (.int ((((((p0.toUInt32 >>> ((7 : Int32) &&& 31).toUInt32).toInt32).toUInt32 >>> ((7 : Int32) &&& 31).toUInt32).toInt32).toUInt32 >>> ((7 : Int32) &&& 31).toUInt32).toInt32))] [])) _
    refine XS.iloadN X6.here hx rfl (hb hby d1_2) rfl ?_
    show Steps p.tables e below (T6.setTop (mkF m 3 #[.val (.int p0), .val (.ref a1'), .val (.int (((p2 + (1 : Int32)) + (1 : Int32)) + (1 : Int32))), .val (.int ((((((p0.toUInt32 >>> ((7 : Int32) &&& 31).toUInt32).toInt32).toUInt32 >>> ((7 : Int32) &&& 31).toUInt32).toInt32).toUInt32 >>> ((7 : Int32) &&& 31).toUInt32).toInt32))] [(.int ((((((p0.toUInt32 >>> ((7 : Int32) &&& 31).toUInt32).toInt32).toUInt32 >>> ((7 : Int32) &&& 31).toUInt32).toInt32).toUInt32 >>> ((7 : Int32) &&& 31).toUInt32).toInt32))])) _
    refine XS.sipush X6.here hx rfl (hb hby d1_3) ?_
    exact kt
  refine own_step (T' := T6) (f' := (mkF m 9 #[.val (.int p0), .val (.ref a1'), .val (.int (((p2 + (1 : Int32)) + (1 : Int32)) + (1 : Int32))), .val (.int ((((((p0.toUInt32 >>> ((7 : Int32) &&& 31).toUInt32).toInt32).toUInt32 >>> ((7 : Int32) &&& 31).toUInt32).toInt32).toUInt32 >>> ((7 : Int32) &&& 31).toUInt32).toInt32))] [])) (fun t kt => ?_) ?_
  · show Steps p.tables e below (T6.setTop (mkF m 6 #[.val (.int p0), .val (.ref a1'), .val (.int (((p2 + (1 : Int32)) + (1 : Int32)) + (1 : Int32))), .val (.int ((((((p0.toUInt32 >>> ((7 : Int32) &&& 31).toUInt32).toInt32).toUInt32 >>> ((7 : Int32) &&& 31).toUInt32).toInt32).toUInt32 >>> ((7 : Int32) &&& 31).toUInt32).toInt32))] [(.int (128 : Int32)), (.int ((((((p0.toUInt32 >>> ((7 : Int32) &&& 31).toUInt32).toInt32).toUInt32 >>> ((7 : Int32) &&& 31).toUInt32).toInt32).toUInt32 >>> ((7 : Int32) &&& 31).toUInt32).toInt32))])) _
    refine XS.icmpNo X6.here hx rfl (hb hby d1_6) rfl (flt hq3).1 kt
  refine own_step (T' := T6) (f' := (mkF m 20 #[.val (.int p0), .val (.ref a1'), .val (.int ((((p2 + (1 : Int32)) + (1 : Int32)) + (1 : Int32)) + (1 : Int32))), .val (.int ((((((p0.toUInt32 >>> ((7 : Int32) &&& 31).toUInt32).toInt32).toUInt32 >>> ((7 : Int32) &&& 31).toUInt32).toInt32).toUInt32 >>> ((7 : Int32) &&& 31).toUInt32).toInt32))] [(.int ((((((((p0.toUInt32 >>> ((7 : Int32) &&& 31).toUInt32).toInt32).toUInt32 >>> ((7 : Int32) &&& 31).toUInt32).toInt32).toUInt32 >>> ((7 : Int32) &&& 31).toUInt32).toInt32) ||| (128 : Int32)).toInt8.toInt32)), (.int (((p2 + (1 : Int32)) + (1 : Int32)) + (1 : Int32))), (.ref a1')])) (fun t kt => ?_) ?_
  · show Steps p.tables e below (T6.setTop (mkF m 9 #[.val (.int p0), .val (.ref a1'), .val (.int (((p2 + (1 : Int32)) + (1 : Int32)) + (1 : Int32))), .val (.int ((((((p0.toUInt32 >>> ((7 : Int32) &&& 31).toUInt32).toInt32).toUInt32 >>> ((7 : Int32) &&& 31).toUInt32).toInt32).toUInt32 >>> ((7 : Int32) &&& 31).toUInt32).toInt32))] [])) _
    refine XS.aloadN X6.here hx rfl (hb hby d1_9) rfl rfl ?_
    show Steps p.tables e below (T6.setTop (mkF m 10 #[.val (.int p0), .val (.ref a1'), .val (.int (((p2 + (1 : Int32)) + (1 : Int32)) + (1 : Int32))), .val (.int ((((((p0.toUInt32 >>> ((7 : Int32) &&& 31).toUInt32).toInt32).toUInt32 >>> ((7 : Int32) &&& 31).toUInt32).toInt32).toUInt32 >>> ((7 : Int32) &&& 31).toUInt32).toInt32))] [(.ref a1')])) _
    refine XS.iloadN X6.here hx rfl (hb hby d1_10) rfl ?_
    show Steps p.tables e below (T6.setTop (mkF m 11 #[.val (.int p0), .val (.ref a1'), .val (.int (((p2 + (1 : Int32)) + (1 : Int32)) + (1 : Int32))), .val (.int ((((((p0.toUInt32 >>> ((7 : Int32) &&& 31).toUInt32).toInt32).toUInt32 >>> ((7 : Int32) &&& 31).toUInt32).toInt32).toUInt32 >>> ((7 : Int32) &&& 31).toUInt32).toInt32))] [(.int (((p2 + (1 : Int32)) + (1 : Int32)) + (1 : Int32))), (.ref a1')])) _
    refine XS.iinc X6.here hx rfl (hb hby d1_11) rfl (l' := #[.val (.int p0), .val (.ref a1'), .val (.int ((((p2 + (1 : Int32)) + (1 : Int32)) + (1 : Int32)) + (1 : Int32))), .val (.int ((((((p0.toUInt32 >>> ((7 : Int32) &&& 31).toUInt32).toInt32).toUInt32 >>> ((7 : Int32) &&& 31).toUInt32).toInt32).toUInt32 >>> ((7 : Int32) &&& 31).toUInt32).toInt32))]) rfl ?_
    show Steps p.tables e below (T6.setTop (mkF m 14 #[.val (.int p0), .val (.ref a1'), .val (.int ((((p2 + (1 : Int32)) + (1 : Int32)) + (1 : Int32)) + (1 : Int32))), .val (.int ((((((p0.toUInt32 >>> ((7 : Int32) &&& 31).toUInt32).toInt32).toUInt32 >>> ((7 : Int32) &&& 31).toUInt32).toInt32).toUInt32 >>> ((7 : Int32) &&& 31).toUInt32).toInt32))] [(.int (((p2 + (1 : Int32)) + (1 : Int32)) + (1 : Int32))), (.ref a1')])) _
    refine XS.iloadN X6.here hx rfl (hb hby d1_14) rfl ?_
    show Steps p.tables e below (T6.setTop (mkF m 15 #[.val (.int p0), .val (.ref a1'), .val (.int ((((p2 + (1 : Int32)) + (1 : Int32)) + (1 : Int32)) + (1 : Int32))), .val (.int ((((((p0.toUInt32 >>> ((7 : Int32) &&& 31).toUInt32).toInt32).toUInt32 >>> ((7 : Int32) &&& 31).toUInt32).toInt32).toUInt32 >>> ((7 : Int32) &&& 31).toUInt32).toInt32))] [(.int ((((((p0.toUInt32 >>> ((7 : Int32) &&& 31).toUInt32).toInt32).toUInt32 >>> ((7 : Int32) &&& 31).toUInt32).toInt32).toUInt32 >>> ((7 : Int32) &&& 31).toUInt32).toInt32)), (.int (((p2 + (1 : Int32)) + (1 : Int32)) + (1 : Int32))), (.ref a1')])) _
    refine XS.sipush X6.here hx rfl (hb hby d1_15) ?_
    show Steps p.tables e below (T6.setTop (mkF m 18 #[.val (.int p0), .val (.ref a1'), .val (.int ((((p2 + (1 : Int32)) + (1 : Int32)) + (1 : Int32)) + (1 : Int32))), .val (.int ((((((p0.toUInt32 >>> ((7 : Int32) &&& 31).toUInt32).toInt32).toUInt32 >>> ((7 : Int32) &&& 31).toUInt32).toInt32).toUInt32 >>> ((7 : Int32) &&& 31).toUInt32).toInt32))] [(.int (128 : Int32)), (.int ((((((p0.toUInt32 >>> ((7 : Int32) &&& 31).toUInt32).toInt32).toUInt32 >>> ((7 : Int32) &&& 31).toUInt32).toInt32).toUInt32 >>> ((7 : Int32) &&& 31).toUInt32).toInt32)), (.int (((p2 + (1 : Int32)) + (1 : Int32)) + (1 : Int32))), (.ref a1')])) _
    refine XS.ior X6.here hx rfl (hb hby d1_18) rfl ?_
    show Steps p.tables e below (T6.setTop (mkF m 19 #[.val (.int p0), .val (.ref a1'), .val (.int ((((p2 + (1 : Int32)) + (1 : Int32)) + (1 : Int32)) + (1 : Int32))), .val (.int ((((((p0.toUInt32 >>> ((7 : Int32) &&& 31).toUInt32).toInt32).toUInt32 >>> ((7 : Int32) &&& 31).toUInt32).toInt32).toUInt32 >>> ((7 : Int32) &&& 31).toUInt32).toInt32))] [(.int (((((((p0.toUInt32 >>> ((7 : Int32) &&& 31).toUInt32).toInt32).toUInt32 >>> ((7 : Int32) &&& 31).toUInt32).toInt32).toUInt32 >>> ((7 : Int32) &&& 31).toUInt32).toInt32) ||| (128 : Int32))), (.int (((p2 + (1 : Int32)) + (1 : Int32)) + (1 : Int32))), (.ref a1')])) _
    refine XS.i2b X6.here hx rfl (hb hby d1_19) rfl ?_
    exact kt
  obtain ⟨T8, h8, Lq8, X8, N8, e8, W8, Z8, Aq8, st8⟩ := own_stB X6 hx hZ e6 Aq6 (j := (((p2 + (1 : Int32)) + (1 : Int32)) + (1 : Int32))) (own_ix3 p2 hp4).1 (k := p2.toNatClampNeg + 3) (own_ix3 p2 hp4).2 (by simp only [List.length_set]; exact own_kl p2 hp4 hl0 3 (by decide)) N6 ga1 Z6 (g := (mkF m 20 #[.val (.int p0), .val (.ref a1'), .val (.int ((((p2 + (1 : Int32)) + (1 : Int32)) + (1 : Int32)) + (1 : Int32))), .val (.int ((((((p0.toUInt32 >>> ((7 : Int32) &&& 31).toUInt32).toInt32).toUInt32 >>> ((7 : Int32) &&& 31).toUInt32).toInt32).toUInt32 >>> ((7 : Int32) &&& 31).toUInt32).toInt32))] [(.int ((((((((p0.toUInt32 >>> ((7 : Int32) &&& 31).toUInt32).toInt32).toUInt32 >>> ((7 : Int32) &&& 31).toUInt32).toInt32).toUInt32 >>> ((7 : Int32) &&& 31).toUInt32).toInt32) ||| (128 : Int32)).toInt8.toInt32)), (.int (((p2 + (1 : Int32)) + (1 : Int32)) + (1 : Int32))), (.ref a1')])) rfl rfl (hb hby d1_20)
  refine own_step (T' := T8) (f' := (mkF m 21 #[.val (.int p0), .val (.ref a1'), .val (.int ((((p2 + (1 : Int32)) + (1 : Int32)) + (1 : Int32)) + (1 : Int32))), .val (.int ((((((p0.toUInt32 >>> ((7 : Int32) &&& 31).toUInt32).toInt32).toUInt32 >>> ((7 : Int32) &&& 31).toUInt32).toInt32).toUInt32 >>> ((7 : Int32) &&& 31).toUInt32).toInt32))] [])) st8 ?_
  refine own_step (T' := T8) (f' := (mkF m 6 #[.val (.int p0), .val (.ref a1'), .val (.int ((((p2 + (1 : Int32)) + (1 : Int32)) + (1 : Int32)) + (1 : Int32))), .val (.int ((((((((p0.toUInt32 >>> ((7 : Int32) &&& 31).toUInt32).toInt32).toUInt32 >>> ((7 : Int32) &&& 31).toUInt32).toInt32).toUInt32 >>> ((7 : Int32) &&& 31).toUInt32).toInt32).toUInt32 >>> ((7 : Int32) &&& 31).toUInt32).toInt32))] [(.int (128 : Int32)), (.int ((((((((p0.toUInt32 >>> ((7 : Int32) &&& 31).toUInt32).toInt32).toUInt32 >>> ((7 : Int32) &&& 31).toUInt32).toInt32).toUInt32 >>> ((7 : Int32) &&& 31).toUInt32).toInt32).toUInt32 >>> ((7 : Int32) &&& 31).toUInt32).toInt32))])) (fun t kt => ?_) ?_
  · show Steps p.tables e below (T8.setTop (mkF m 21 #[.val (.int p0), .val (.ref a1'), .val (.int ((((p2 + (1 : Int32)) + (1 : Int32)) + (1 : Int32)) + (1 : Int32))), .val (.int ((((((p0.toUInt32 >>> ((7 : Int32) &&& 31).toUInt32).toInt32).toUInt32 >>> ((7 : Int32) &&& 31).toUInt32).toInt32).toUInt32 >>> ((7 : Int32) &&& 31).toUInt32).toInt32))] [])) _
    refine XS.iloadN X8.here hx rfl (hb hby d1_21) rfl ?_
    show Steps p.tables e below (T8.setTop (mkF m 22 #[.val (.int p0), .val (.ref a1'), .val (.int ((((p2 + (1 : Int32)) + (1 : Int32)) + (1 : Int32)) + (1 : Int32))), .val (.int ((((((p0.toUInt32 >>> ((7 : Int32) &&& 31).toUInt32).toInt32).toUInt32 >>> ((7 : Int32) &&& 31).toUInt32).toInt32).toUInt32 >>> ((7 : Int32) &&& 31).toUInt32).toInt32))] [(.int ((((((p0.toUInt32 >>> ((7 : Int32) &&& 31).toUInt32).toInt32).toUInt32 >>> ((7 : Int32) &&& 31).toUInt32).toInt32).toUInt32 >>> ((7 : Int32) &&& 31).toUInt32).toInt32))])) _
    refine XS.bipush X8.here hx rfl (hb hby d1_22) ?_
    show Steps p.tables e below (T8.setTop (mkF m 24 #[.val (.int p0), .val (.ref a1'), .val (.int ((((p2 + (1 : Int32)) + (1 : Int32)) + (1 : Int32)) + (1 : Int32))), .val (.int ((((((p0.toUInt32 >>> ((7 : Int32) &&& 31).toUInt32).toInt32).toUInt32 >>> ((7 : Int32) &&& 31).toUInt32).toInt32).toUInt32 >>> ((7 : Int32) &&& 31).toUInt32).toInt32))] [(.int (7 : Int32)), (.int ((((((p0.toUInt32 >>> ((7 : Int32) &&& 31).toUInt32).toInt32).toUInt32 >>> ((7 : Int32) &&& 31).toUInt32).toInt32).toUInt32 >>> ((7 : Int32) &&& 31).toUInt32).toInt32))])) _
    refine XS.iushr X8.here hx rfl (hb hby d1_24) rfl ?_
    show Steps p.tables e below (T8.setTop (mkF m 25 #[.val (.int p0), .val (.ref a1'), .val (.int ((((p2 + (1 : Int32)) + (1 : Int32)) + (1 : Int32)) + (1 : Int32))), .val (.int ((((((p0.toUInt32 >>> ((7 : Int32) &&& 31).toUInt32).toInt32).toUInt32 >>> ((7 : Int32) &&& 31).toUInt32).toInt32).toUInt32 >>> ((7 : Int32) &&& 31).toUInt32).toInt32))] [(.int ((((((((p0.toUInt32 >>> ((7 : Int32) &&& 31).toUInt32).toInt32).toUInt32 >>> ((7 : Int32) &&& 31).toUInt32).toInt32).toUInt32 >>> ((7 : Int32) &&& 31).toUInt32).toInt32).toUInt32 >>> ((7 : Int32) &&& 31).toUInt32).toInt32))])) _
    refine XS.istoreN X8.here hx rfl (hb hby d1_25) rfl (l' := #[.val (.int p0), .val (.ref a1'), .val (.int ((((p2 + (1 : Int32)) + (1 : Int32)) + (1 : Int32)) + (1 : Int32))), .val (.int ((((((((p0.toUInt32 >>> ((7 : Int32) &&& 31).toUInt32).toInt32).toUInt32 >>> ((7 : Int32) &&& 31).toUInt32).toInt32).toUInt32 >>> ((7 : Int32) &&& 31).toUInt32).toInt32).toUInt32 >>> ((7 : Int32) &&& 31).toUInt32).toInt32))]) rfl ?_
    show Steps p.tables e below (T8.setTop (mkF m 26 #[.val (.int p0), .val (.ref a1'), .val (.int ((((p2 + (1 : Int32)) + (1 : Int32)) + (1 : Int32)) + (1 : Int32))), .val (.int ((((((((p0.toUInt32 >>> ((7 : Int32) &&& 31).toUInt32).toInt32).toUInt32 >>> ((7 : Int32) &&& 31).toUInt32).toInt32).toUInt32 >>> ((7 : Int32) &&& 31).toUInt32).toInt32).toUInt32 >>> ((7 : Int32) &&& 31).toUInt32).toInt32))] [])) _
    refine XS.goto X8.here hx rfl (pc0 := 26) (pc' := 2) rfl (hb hby d1_26) (by decide) (by decide) ?_
    show Steps p.tables e below (T8.setTop (mkF m 2 #[.val (.int p0), .val (.ref a1'), .val (.int ((((p2 + (1 : Int32)) + (1 : Int32)) + (1 : Int32)) + (1 : Int32))), .val (.int ((((((((p0.toUInt32 >>> ((7 : Int32) &&& 31).toUInt32).toInt32).toUInt32 >>> ((7 : Int32) &&& 31).toUInt32).toInt32).toUInt32 >>> ((7 : Int32) &&& 31).toUInt32).toInt32).toUInt32 >>> ((7 : Int32) &&& 31).toUInt32).toInt32))] [])) _
    refine XS.iloadN X8.here hx rfl (hb hby d1_2) rfl ?_
    show Steps p.tables e below (T8.setTop (mkF m 3 #[.val (.int p0), .val (.ref a1'), .val (.int ((((p2 + (1 : Int32)) + (1 : Int32)) + (1 : Int32)) + (1 : Int32))), .val (.int ((((((((p0.toUInt32 >>> ((7 : Int32) &&& 31).toUInt32).toInt32).toUInt32 >>> ((7 : Int32) &&& 31).toUInt32).toInt32).toUInt32 >>> ((7 : Int32) &&& 31).toUInt32).toInt32).toUInt32 >>> ((7 : Int32) &&& 31).toUInt32).toInt32))] [(.int ((((((((p0.toUInt32 >>> ((7 : Int32) &&& 31).toUInt32).toInt32).toUInt32 >>> ((7 : Int32) &&& 31).toUInt32).toInt32).toUInt32 >>> ((7 : Int32) &&& 31).toUInt32).toInt32).toUInt32 >>> ((7 : Int32) &&& 31).toUInt32).toInt32))])) _
    refine XS.sipush X8.here hx rfl (hb hby d1_3) ?_
    exact kt
  refine own_step (T' := T8) (f' := (mkF m 29 #[.val (.int p0), .val (.ref a1'), .val (.int ((((p2 + (1 : Int32)) + (1 : Int32)) + (1 : Int32)) + (1 : Int32))), .val (.int ((((((((p0.toUInt32 >>> ((7 : Int32) &&& 31).toUInt32).toInt32).toUInt32 >>> ((7 : Int32) &&& 31).toUInt32).toInt32).toUInt32 >>> ((7 : Int32) &&& 31).toUInt32).toInt32).toUInt32 >>> ((7 : Int32) &&& 31).toUInt32).toInt32))] [])) (fun t kt => ?_) ?_
  · show Steps p.tables e below (T8.setTop (mkF m 6 #[.val (.int p0), .val (.ref a1'), .val (.int ((((p2 + (1 : Int32)) + (1 : Int32)) + (1 : Int32)) + (1 : Int32))), .val (.int ((((((((p0.toUInt32 >>> ((7 : Int32) &&& 31).toUInt32).toInt32).toUInt32 >>> ((7 : Int32) &&& 31).toUInt32).toInt32).toUInt32 >>> ((7 : Int32) &&& 31).toUInt32).toInt32).toUInt32 >>> ((7 : Int32) &&& 31).toUInt32).toInt32))] [(.int (128 : Int32)), (.int ((((((((p0.toUInt32 >>> ((7 : Int32) &&& 31).toUInt32).toInt32).toUInt32 >>> ((7 : Int32) &&& 31).toUInt32).toInt32).toUInt32 >>> ((7 : Int32) &&& 31).toUInt32).toInt32).toUInt32 >>> ((7 : Int32) &&& 31).toUInt32).toInt32))])) _
    refine XS.icmpYes X8.here hx rfl (pc0 := 6) (pc' := 29) rfl (hb hby d1_6) rfl (tlt hq4).1 (by decide) (by decide) kt
  refine own_step (T' := T8) (f' := (mkF m 36 #[.val (.int p0), .val (.ref a1'), .val (.int (((((p2 + (1 : Int32)) + (1 : Int32)) + (1 : Int32)) + (1 : Int32)) + (1 : Int32))), .val (.int ((((((((p0.toUInt32 >>> ((7 : Int32) &&& 31).toUInt32).toInt32).toUInt32 >>> ((7 : Int32) &&& 31).toUInt32).toInt32).toUInt32 >>> ((7 : Int32) &&& 31).toUInt32).toInt32).toUInt32 >>> ((7 : Int32) &&& 31).toUInt32).toInt32))] [(.int (((((((((p0.toUInt32 >>> ((7 : Int32) &&& 31).toUInt32).toInt32).toUInt32 >>> ((7 : Int32) &&& 31).toUInt32).toInt32).toUInt32 >>> ((7 : Int32) &&& 31).toUInt32).toInt32).toUInt32 >>> ((7 : Int32) &&& 31).toUInt32).toInt32).toInt8.toInt32)), (.int ((((p2 + (1 : Int32)) + (1 : Int32)) + (1 : Int32)) + (1 : Int32))), (.ref a1')])) (fun t kt => ?_) ?_
  · show Steps p.tables e below (T8.setTop (mkF m 29 #[.val (.int p0), .val (.ref a1'), .val (.int ((((p2 + (1 : Int32)) + (1 : Int32)) + (1 : Int32)) + (1 : Int32))), .val (.int ((((((((p0.toUInt32 >>> ((7 : Int32) &&& 31).toUInt32).toInt32).toUInt32 >>> ((7 : Int32) &&& 31).toUInt32).toInt32).toUInt32 >>> ((7 : Int32) &&& 31).toUInt32).toInt32).toUInt32 >>> ((7 : Int32) &&& 31).toUInt32).toInt32))] [])) _
    refine XS.aloadN X8.here hx rfl (hb hby d1_29) rfl rfl ?_
    show Steps p.tables e below (T8.setTop (mkF m 30 #[.val (.int p0), .val (.ref a1'), .val (.int ((((p2 + (1 : Int32)) + (1 : Int32)) + (1 : Int32)) + (1 : Int32))), .val (.int ((((((((p0.toUInt32 >>> ((7 : Int32) &&& 31).toUInt32).toInt32).toUInt32 >>> ((7 : Int32) &&& 31).toUInt32).toInt32).toUInt32 >>> ((7 : Int32) &&& 31).toUInt32).toInt32).toUInt32 >>> ((7 : Int32) &&& 31).toUInt32).toInt32))] [(.ref a1')])) _
    refine XS.iloadN X8.here hx rfl (hb hby d1_30) rfl ?_
    show Steps p.tables e below (T8.setTop (mkF m 31 #[.val (.int p0), .val (.ref a1'), .val (.int ((((p2 + (1 : Int32)) + (1 : Int32)) + (1 : Int32)) + (1 : Int32))), .val (.int ((((((((p0.toUInt32 >>> ((7 : Int32) &&& 31).toUInt32).toInt32).toUInt32 >>> ((7 : Int32) &&& 31).toUInt32).toInt32).toUInt32 >>> ((7 : Int32) &&& 31).toUInt32).toInt32).toUInt32 >>> ((7 : Int32) &&& 31).toUInt32).toInt32))] [(.int ((((p2 + (1 : Int32)) + (1 : Int32)) + (1 : Int32)) + (1 : Int32))), (.ref a1')])) _
    refine XS.iinc X8.here hx rfl (hb hby d1_31) rfl (l' := #[.val (.int p0), .val (.ref a1'), .val (.int (((((p2 + (1 : Int32)) + (1 : Int32)) + (1 : Int32)) + (1 : Int32)) + (1 : Int32))), .val (.int ((((((((p0.toUInt32 >>> ((7 : Int32) &&& 31).toUInt32).toInt32).toUInt32 >>> ((7 : Int32) &&& 31).toUInt32).toInt32).toUInt32 >>> ((7 : Int32) &&& 31).toUInt32).toInt32).toUInt32 >>> ((7 : Int32) &&& 31).toUInt32).toInt32))]) rfl ?_
    show Steps p.tables e below (T8.setTop (mkF m 34 #[.val (.int p0), .val (.ref a1'), .val (.int (((((p2 + (1 : Int32)) + (1 : Int32)) + (1 : Int32)) + (1 : Int32)) + (1 : Int32))), .val (.int ((((((((p0.toUInt32 >>> ((7 : Int32) &&& 31).toUInt32).toInt32).toUInt32 >>> ((7 : Int32) &&& 31).toUInt32).toInt32).toUInt32 >>> ((7 : Int32) &&& 31).toUInt32).toInt32).toUInt32 >>> ((7 : Int32) &&& 31).toUInt32).toInt32))] [(.int ((((p2 + (1 : Int32)) + (1 : Int32)) + (1 : Int32)) + (1 : Int32))), (.ref a1')])) _
    refine XS.iloadN X8.here hx rfl (hb hby d1_34) rfl ?_
    show Steps p.tables e below (T8.setTop (mkF m 35 #[.val (.int p0), .val (.ref a1'), .val (.int (((((p2 + (1 : Int32)) + (1 : Int32)) + (1 : Int32)) + (1 : Int32)) + (1 : Int32))), .val (.int ((((((((p0.toUInt32 >>> ((7 : Int32) &&& 31).toUInt32).toInt32).toUInt32 >>> ((7 : Int32) &&& 31).toUInt32).toInt32).toUInt32 >>> ((7 : Int32) &&& 31).toUInt32).toInt32).toUInt32 >>> ((7 : Int32) &&& 31).toUInt32).toInt32))] [(.int ((((((((p0.toUInt32 >>> ((7 : Int32) &&& 31).toUInt32).toInt32).toUInt32 >>> ((7 : Int32) &&& 31).toUInt32).toInt32).toUInt32 >>> ((7 : Int32) &&& 31).toUInt32).toInt32).toUInt32 >>> ((7 : Int32) &&& 31).toUInt32).toInt32)), (.int ((((p2 + (1 : Int32)) + (1 : Int32)) + (1 : Int32)) + (1 : Int32))), (.ref a1')])) _
    refine XS.i2b X8.here hx rfl (hb hby d1_35) rfl ?_
    exact kt
  obtain ⟨T10, h10, Lq10, X10, N10, e10, W10, Z10, Aq10, st10⟩ := own_stB X8 hx hZ e8 Aq8 (j := ((((p2 + (1 : Int32)) + (1 : Int32)) + (1 : Int32)) + (1 : Int32))) (own_ix4 p2 hp4).1 (k := p2.toNatClampNeg + 4) (own_ix4 p2 hp4).2 (by simp only [List.length_set]; exact own_kl p2 hp4 hl0 4 (by decide)) N8 ga1 Z8 (g := (mkF m 36 #[.val (.int p0), .val (.ref a1'), .val (.int (((((p2 + (1 : Int32)) + (1 : Int32)) + (1 : Int32)) + (1 : Int32)) + (1 : Int32))), .val (.int ((((((((p0.toUInt32 >>> ((7 : Int32) &&& 31).toUInt32).toInt32).toUInt32 >>> ((7 : Int32) &&& 31).toUInt32).toInt32).toUInt32 >>> ((7 : Int32) &&& 31).toUInt32).toInt32).toUInt32 >>> ((7 : Int32) &&& 31).toUInt32).toInt32))] [(.int (((((((((p0.toUInt32 >>> ((7 : Int32) &&& 31).toUInt32).toInt32).toUInt32 >>> ((7 : Int32) &&& 31).toUInt32).toInt32).toUInt32 >>> ((7 : Int32) &&& 31).toUInt32).toInt32).toUInt32 >>> ((7 : Int32) &&& 31).toUInt32).toInt32).toInt8.toInt32)), (.int ((((p2 + (1 : Int32)) + (1 : Int32)) + (1 : Int32)) + (1 : Int32))), (.ref a1')])) rfl rfl (hb hby d1_36)
  refine own_step (T' := T10) (f' := (mkF m 37 #[.val (.int p0), .val (.ref a1'), .val (.int (((((p2 + (1 : Int32)) + (1 : Int32)) + (1 : Int32)) + (1 : Int32)) + (1 : Int32))), .val (.int ((((((((p0.toUInt32 >>> ((7 : Int32) &&& 31).toUInt32).toInt32).toUInt32 >>> ((7 : Int32) &&& 31).toUInt32).toInt32).toUInt32 >>> ((7 : Int32) &&& 31).toUInt32).toInt32).toUInt32 >>> ((7 : Int32) &&& 31).toUInt32).toInt32))] [])) st10 ?_
  refine own_step (T' := T10) (f' := (mkF m 38 #[.val (.int p0), .val (.ref a1'), .val (.int (((((p2 + (1 : Int32)) + (1 : Int32)) + (1 : Int32)) + (1 : Int32)) + (1 : Int32))), .val (.int ((((((((p0.toUInt32 >>> ((7 : Int32) &&& 31).toUInt32).toInt32).toUInt32 >>> ((7 : Int32) &&& 31).toUInt32).toInt32).toUInt32 >>> ((7 : Int32) &&& 31).toUInt32).toInt32).toUInt32 >>> ((7 : Int32) &&& 31).toUInt32).toInt32))] [(.int (((((p2 + (1 : Int32)) + (1 : Int32)) + (1 : Int32)) + (1 : Int32)) + (1 : Int32)))])) (fun t kt => ?_) ?_
  · show Steps p.tables e below (T10.setTop (mkF m 37 #[.val (.int p0), .val (.ref a1'), .val (.int (((((p2 + (1 : Int32)) + (1 : Int32)) + (1 : Int32)) + (1 : Int32)) + (1 : Int32))), .val (.int ((((((((p0.toUInt32 >>> ((7 : Int32) &&& 31).toUInt32).toInt32).toUInt32 >>> ((7 : Int32) &&& 31).toUInt32).toInt32).toUInt32 >>> ((7 : Int32) &&& 31).toUInt32).toInt32).toUInt32 >>> ((7 : Int32) &&& 31).toUInt32).toInt32))] [])) _
    refine XS.iloadN X10.here hx rfl (hb hby d1_37) rfl ?_
    exact kt
  exact own_retI X10 hx hret hlk (hb hby d1_38) (by decide) (by decide) ⟨congrArg (fun z => some (Value.int z)) hr.symm, N10, (by rw [e10]; exact Aq10), (by rw [e10]; exact Z10)⟩
set_option maxRecDepth 65536 in
set_option maxHeartbeats 4000000 in
theorem rm1n5 (l : Launch) (Z : State) (a0 : Array Value) (hw : ∀ d ∈ tables_1, d.before a0 Z = true) (ws : List Jvm.Cond) (p0 : Int32) (a1' : Addr) (p2 : Int32) (vs1 : List Value) (h0 : Heap) (n0 : Nat) (A1 : own_A Z h0 a1' .byte vs1) (ga1 : n0 ≤ a1') (hl0 : vs1.length = 10) (hp4 : p2 = 0 ∨ p2 = 1 ∨ p2 = 2 ∨ p2 = 3) (hq0 : ¬ (p0 < (128 : Int32))) (hq1 : ¬ (((p0.toUInt32 >>> ((7 : Int32) &&& 31).toUInt32).toInt32) < (128 : Int32))) (hq2 : ¬ (((((p0.toUInt32 >>> ((7 : Int32) &&& 31).toUInt32).toInt32).toUInt32 >>> ((7 : Int32) &&& 31).toUInt32).toInt32) < (128 : Int32))) (hq3 : ¬ (((((((p0.toUInt32 >>> ((7 : Int32) &&& 31).toUInt32).toInt32).toUInt32 >>> ((7 : Int32) &&& 31).toUInt32).toInt32).toUInt32 >>> ((7 : Int32) &&& 31).toUInt32).toInt32) < (128 : Int32))) (hq4 : ((((((((p0.toUInt32 >>> ((7 : Int32) &&& 31).toUInt32).toInt32).toUInt32 >>> ((7 : Int32) &&& 31).toUInt32).toInt32).toUInt32 >>> ((7 : Int32) &&& 31).toUInt32).toInt32).toUInt32 >>> ((7 : Int32) &&& 31).toUInt32).toInt32) < (128 : Int32)) (Z0 : n0 ≤ h0.size) :
    MetFree l (⟨"hotstate/sort/VarInts", "write", "(I[BI)I"⟩ : MethodName) (head1 (Jvm.Cond.code (⟨"hotstate/sort/VarInts", "write", "(I[BI)I"⟩ : MethodName) prog_81_method_3_code 4 (some .int) :: ws) ({ frames := 0, cells := 0, slots := 0, locals := 0 } : Room)) (fun a U => a = #[(.int p0), (.ref a1'), (.int p2)] ∧ Z.Warmed39 U.vm ∧ U.heap = h0) (fun _ _ _ _ _ => True) (fun _ U o U' => ∃ v L, o = .returned v ∧ (own_W Z (.int (f1n5_0 p0 p2)) a1' ((((((vs1.set (p2.toNatClampNeg + 0) (.int (nar .byte ((p0 ||| (128 : Int32)).toInt8.toInt32)))).set (p2.toNatClampNeg + 1) (.int (nar .byte ((((p0.toUInt32 >>> ((7 : Int32) &&& 31).toUInt32).toInt32) ||| (128 : Int32)).toInt8.toInt32)))).set (p2.toNatClampNeg + 2) (.int (nar .byte ((((((p0.toUInt32 >>> ((7 : Int32) &&& 31).toUInt32).toInt32).toUInt32 >>> ((7 : Int32) &&& 31).toUInt32).toInt32) ||| (128 : Int32)).toInt8.toInt32)))).set (p2.toNatClampNeg + 3) (.int (nar .byte ((((((((p0.toUInt32 >>> ((7 : Int32) &&& 31).toUInt32).toInt32).toUInt32 >>> ((7 : Int32) &&& 31).toUInt32).toInt32).toUInt32 >>> ((7 : Int32) &&& 31).toUInt32).toInt32) ||| (128 : Int32)).toInt8.toInt32)))).set (p2.toNatClampNeg + 4) (.int (nar .byte (((((((((p0.toUInt32 >>> ((7 : Int32) &&& 31).toUInt32).toInt32).toUInt32 >>> ((7 : Int32) &&& 31).toUInt32).toInt32).toUInt32 >>> ((7 : Int32) &&& 31).toUInt32).toInt32).toUInt32 >>> ((7 : Int32) &&& 31).toUInt32).toInt32).toInt8.toInt32))))) n0) v U'.heap L ∧ FrameEnd U o U' L ({ frames := 0, cells := 0, slots := 0, locals := 0 } : Room).cells ({ frames := 0, cells := 0, slots := 0, locals := 0 } : Room).slots) := by
  refine MetFree.of_bodySF (plainFor_of_name pn1) hisR ?_
  intro p e s m args below meth c s₁ Bd hml0 hP hK
  obtain ⟨rfl, hZ, hh⟩ := hP
  have hown : s.vm.findClass "hotstate/sort/VarInts" = some m.cls := findClass_of_methodNamed Bd.named
  have X0 : Stand p l e ({ frames := 0, cells := 0, slots := 0, locals := 0 } : Room) s m #[(.int p0), (.ref a1'), (.int p2)] below meth c s₁ [] 0 0 := Stand.of_body Bd
  have e0 : s₁.heap = h0 := by rw [← hh, Bd.state]; rfl
  show own_Ends p e below s 0 0 (own_W Z (.int (f1n5_0 p0 p2)) a1' ((((((vs1.set (p2.toNatClampNeg + 0) (.int (nar .byte ((p0 ||| (128 : Int32)).toInt8.toInt32)))).set (p2.toNatClampNeg + 1) (.int (nar .byte ((((p0.toUInt32 >>> ((7 : Int32) &&& 31).toUInt32).toInt32) ||| (128 : Int32)).toInt8.toInt32)))).set (p2.toNatClampNeg + 2) (.int (nar .byte ((((((p0.toUInt32 >>> ((7 : Int32) &&& 31).toUInt32).toInt32).toUInt32 >>> ((7 : Int32) &&& 31).toUInt32).toInt32) ||| (128 : Int32)).toInt8.toInt32)))).set (p2.toNatClampNeg + 3) (.int (nar .byte ((((((((p0.toUInt32 >>> ((7 : Int32) &&& 31).toUInt32).toInt32).toUInt32 >>> ((7 : Int32) &&& 31).toUInt32).toInt32).toUInt32 >>> ((7 : Int32) &&& 31).toUInt32).toInt32) ||| (128 : Int32)).toInt8.toInt32)))).set (p2.toNatClampNeg + 4) (.int (nar .byte (((((((((p0.toUInt32 >>> ((7 : Int32) &&& 31).toUInt32).toInt32).toUInt32 >>> ((7 : Int32) &&& 31).toUInt32).toInt32).toUInt32 >>> ((7 : Int32) &&& 31).toUInt32).toInt32).toUInt32 >>> ((7 : Int32) &&& 31).toUInt32).toInt32).toInt8.toInt32))))) n0) s₁ (entryFrame m #[(.int p0), (.ref a1'), (.int p2)] 4)
  refine own_step (fun t k => castTop (ef1 m p0 a1' p2) k) ?_
  exact b1n5_0 p0 a1' p2 vs1 X0 Bd.exec hZ hw Bd.bytes hml0 hown Bd.returns (BodyLoose.notSynchronized Bd) e0 (Fr.nil n0) A1 ga1 hl0 hp4 hq0 hq1 hq2 hq3 hq4 Z0 rfl
theorem d2_0 : decode method_3_code 0 = .ok (.iload_n 1, 1) := by decide +kernel
theorem d2_1 : decode method_3_code 1 = .ok (.iload_n 2, 1) := by decide +kernel
theorem d2_2 : decode method_3_code 2 = .ok (.if_icmp .lt 10, 3) := by decide +kernel
theorem d2_5 : decode method_3_code 5 = .ok (.iload_n 1, 1) := by decide +kernel
theorem d2_6 : decode method_3_code 6 = .ok (.iload_n 2, 1) := by decide +kernel
theorem d2_7 : decode method_3_code 7 = .ok (.iload_n 3, 1) := by decide +kernel
theorem d2_8 : decode method_3_code 8 = .ok (.iadd, 1) := by decide +kernel
theorem d2_9 : decode method_3_code 9 = .ok (.if_icmp .lt 17, 3) := by decide +kernel
theorem d2_12 : decode method_3_code 12 = .ok (.aload_n 0, 1) := by decide +kernel
theorem d2_13 : decode method_3_code 13 = .ok (.iload_n 1, 1) := by decide +kernel
theorem d2_14 : decode method_3_code 14 = .ok (.baload, 1) := by decide +kernel
theorem d2_15 : decode method_3_code 15 = .ok (.iload 5, 2) := by decide +kernel
theorem d2_17 : decode method_3_code 17 = .ok (.if_icmp .ne 7, 3) := by decide +kernel
theorem d2_20 : decode method_3_code 20 = .ok (.iconst 1, 1) := by decide +kernel
theorem d2_21 : decode method_3_code 21 = .ok (.goto 4, 3) := by decide +kernel
theorem d2_24 : decode method_3_code 24 = .ok (.iconst 0, 1) := by decide +kernel
theorem d2_25 : decode method_3_code 25 = .ok (.ireturn, 1) := by decide +kernel
theorem d2_26 : decode method_3_code 26 = .ok (.iload_n 1, 1) := by decide +kernel
theorem d2_27 : decode method_3_code 27 = .ok (.iload_n 2, 1) := by decide +kernel
theorem d2_28 : decode method_3_code 28 = .ok (.isub, 1) := by decide +kernel
theorem d2_29 : decode method_3_code 29 = .ok (.istore 6, 2) := by decide +kernel
theorem d2_31 : decode method_3_code 31 = .ok (.iload 4, 2) := by decide +kernel
theorem d2_33 : decode method_3_code 33 = .ok (.bipush 7, 2) := by decide +kernel
theorem d2_35 : decode method_3_code 35 = .ok (.iload 6, 2) := by decide +kernel
theorem d2_37 : decode method_3_code 37 = .ok (.imul, 1) := by decide +kernel
theorem d2_38 : decode method_3_code 38 = .ok (.iushr, 1) := by decide +kernel
theorem d2_39 : decode method_3_code 39 = .ok (.bipush 127, 2) := by decide +kernel
theorem d2_41 : decode method_3_code 41 = .ok (.iand, 1) := by decide +kernel
theorem d2_42 : decode method_3_code 42 = .ok (.istore 7, 2) := by decide +kernel
theorem d2_44 : decode method_3_code 44 = .ok (.iload 6, 2) := by decide +kernel
theorem d2_46 : decode method_3_code 46 = .ok (.iload_n 3, 1) := by decide +kernel
theorem d2_47 : decode method_3_code 47 = .ok (.iconst 1, 1) := by decide +kernel
theorem d2_48 : decode method_3_code 48 = .ok (.isub, 1) := by decide +kernel
theorem d2_49 : decode method_3_code 49 = .ok (.if_icmp .ge 11, 3) := by decide +kernel
theorem d2_52 : decode method_3_code 52 = .ok (.iload 7, 2) := by decide +kernel
theorem d2_54 : decode method_3_code 54 = .ok (.sipush 128, 3) := by decide +kernel
theorem d2_57 : decode method_3_code 57 = .ok (.ior, 1) := by decide +kernel
theorem d2_58 : decode method_3_code 58 = .ok (.istore 7, 2) := by decide +kernel
theorem d2_60 : decode method_3_code 60 = .ok (.aload_n 0, 1) := by decide +kernel
theorem d2_61 : decode method_3_code 61 = .ok (.iload_n 1, 1) := by decide +kernel
theorem d2_62 : decode method_3_code 62 = .ok (.baload, 1) := by decide +kernel
theorem d2_63 : decode method_3_code 63 = .ok (.iload 7, 2) := by decide +kernel
theorem d2_65 : decode method_3_code 65 = .ok (.i2b, 1) := by decide +kernel
theorem d2_66 : decode method_3_code 66 = .ok (.if_icmp .ne 7, 3) := by decide +kernel
theorem d2_69 : decode method_3_code 69 = .ok (.iconst 1, 1) := by decide +kernel
theorem d2_70 : decode method_3_code 70 = .ok (.goto 4, 3) := by decide +kernel
theorem d2_73 : decode method_3_code 73 = .ok (.iconst 0, 1) := by decide +kernel
theorem d2_74 : decode method_3_code 74 = .ok (.ireturn, 1) := by decide +kernel
theorem pn2 : plainName "hotstate/sort/VarIntsWritePinLaw" = true := by first | (simp [plainName, overriddenIn]; done) | decide +kernel
theorem pd2 : parseMethodDescriptor "([BIIIIB)Z" = some ⟨[(.array .byte), .int, .int, .int, .int, .byte], some .boolean⟩ := by decide +kernel
theorem ef2 (m : MethodId) (a0' : Addr) (p1 : Int32) (p2 : Int32) (p3 : Int32) (p4 : Int32) (p5 : Int32) : entryFrame m #[(.ref a0'), (.int p1), (.int p2), (.int p3), (.int p4), (.int p5)] 8 = mkF m 0 #[.val (.ref a0'), .val (.int p1), .val (.int p2), .val (.int p3), .val (.int p4), .val (.int p5), .unset, .unset] [] := by first | (simp [entryFrame, mkF, argsToLocals, Value.category]; done) | rfl
def f2_0 (p1 : Int32) (p2 : Int32) (p3 : Int32) (p4 : Int32) (p5 : Int32) (y0 : Int32) : Int32 :=
  if p1 < p2 then (if y0 = p5 then ((1 : Int32)) else ((0 : Int32))) else (if p1 < (p2 + p3) then (if (p1 - p2) < (p3 - (1 : Int32)) then (if y0 = (((((p4.toUInt32 >>> (((7 : Int32) * (p1 - p2)) &&& 31).toUInt32).toInt32) &&& (127 : Int32)) ||| (128 : Int32)).toInt8.toInt32) then ((1 : Int32)) else ((0 : Int32))) else (if y0 = ((((p4.toUInt32 >>> (((7 : Int32) * (p1 - p2)) &&& 31).toUInt32).toInt32) &&& (127 : Int32)).toInt8.toInt32) then ((1 : Int32)) else ((0 : Int32)))) else (if y0 = p5 then ((1 : Int32)) else ((0 : Int32))))
set_option maxRecDepth 65536 in
set_option maxHeartbeats 4000000 in
theorem b2_0 {p : Program} {l : Launch} {e : Env} {s : State} {m : MethodId} {args : Array Value} {below : List Frame} {meth : Method} {c : Code} {T0 : State} {locs : List Loc} {Z : State} {a0 : Array Value} {h0 : Heap} {n0 : Nat} (a0' : Addr) (p1 : Int32) (p2 : Int32) (p3 : Int32) (p4 : Int32) (p5 : Int32) (y0 : Int32) (vs0 : List Value) {r : Int32} (X0 : Stand p l e ({ frames := 0, cells := 0, slots := 0, locals := 0 } : Room) s m args below meth c T0 locs 0 0) (hx : p.tables.exec = Jvm.exec) (hZ : Z.Warmed39 s.vm) (hw : ∀ d ∈ tables_1, d.before a0 Z = true) (hby : c.code = method_3_code) (hml : c.maxLocals = 8) (hown : s.vm.findClass "hotstate/sort/VarIntsWritePinLaw" = some m.cls) (hret : meth.sig.returnType = some .boolean) (hlk : meth.locks = false) (e0 : T0.heap = h0) (N0 : Fr n0 locs) (A0 : own_A Z h0 a0' .byte vs0) (hj0 : ¬ p1 < 0) (hv0 : vs0[p1.toNatClampNeg]? = some (.int y0)) (hr : r = f2_0 p1 p2 p3 p4 p5 y0) :
    own_Ends p e below s 0 0 (own_P (.int r) h0 n0) T0 (mkF m 0 #[.val (.ref a0'), .val (.int p1), .val (.int p2), .val (.int p3), .val (.int p4), .val (.int p5), .unset, .unset] []) := by
  unfold f2_0 at hr
  refine own_step (T' := T0) (f' := (mkF m 2 #[.val (.ref a0'), .val (.int p1), .val (.int p2), .val (.int p3), .val (.int p4), .val (.int p5), .unset, .unset] [(.int p2), (.int p1)])) (fun t kt => ?_) ?_
  · show Steps p.tables e below (T0.setTop (mkF m 0 #[.val (.ref a0'), .val (.int p1), .val (.int p2), .val (.int p3), .val (.int p4), .val (.int p5), .unset, .unset] [])) _
    refine XS.iloadN X0.here hx rfl (hb hby d2_0) rfl ?_
    show Steps p.tables e below (T0.setTop (mkF m 1 #[.val (.ref a0'), .val (.int p1), .val (.int p2), .val (.int p3), .val (.int p4), .val (.int p5), .unset, .unset] [(.int p1)])) _
    refine XS.iloadN X0.here hx rfl (hb hby d2_1) rfl ?_
    exact kt
  by_cases hc2_1 : p1 < p2
  · replace hr := hr.trans (if_pos hc2_1)
    refine own_step (T' := T0) (f' := (mkF m 12 #[.val (.ref a0'), .val (.int p1), .val (.int p2), .val (.int p3), .val (.int p4), .val (.int p5), .unset, .unset] [])) (fun t kt => ?_) ?_
    · show Steps p.tables e below (T0.setTop (mkF m 2 #[.val (.ref a0'), .val (.int p1), .val (.int p2), .val (.int p3), .val (.int p4), .val (.int p5), .unset, .unset] [(.int p2), (.int p1)])) _
      refine XS.icmpYes X0.here hx rfl (pc0 := 2) (pc' := 12) rfl (hb hby d2_2) rfl (tlt hc2_1).1 (by decide) (by decide) kt
    refine own_step (T' := T0) (f' := (mkF m 17 #[.val (.ref a0'), .val (.int p1), .val (.int p2), .val (.int p3), .val (.int p4), .val (.int p5), .unset, .unset] [(.int p5), (.int y0)])) (fun t kt => ?_) ?_
    · show Steps p.tables e below (T0.setTop (mkF m 12 #[.val (.ref a0'), .val (.int p1), .val (.int p2), .val (.int p3), .val (.int p4), .val (.int p5), .unset, .unset] [])) _
      refine XS.aloadN X0.here hx rfl (hb hby d2_12) rfl rfl ?_
      show Steps p.tables e below (T0.setTop (mkF m 13 #[.val (.ref a0'), .val (.int p1), .val (.int p2), .val (.int p3), .val (.int p4), .val (.int p5), .unset, .unset] [(.ref a0')])) _
      refine XS.iloadN X0.here hx rfl (hb hby d2_13) rfl ?_
      show Steps p.tables e below (T0.setTop (mkF m 14 #[.val (.ref a0'), .val (.int p1), .val (.int p2), .val (.int p3), .val (.int p4), .val (.int p5), .unset, .unset] [(.int p1), (.ref a0')])) _
      refine own_ldB X0 hx hZ e0 A0 (j := p1) hj0 (k := _) rfl (v := (.int y0)) hv0 (g := (mkF m 14 #[.val (.ref a0'), .val (.int p1), .val (.int p2), .val (.int p3), .val (.int p4), .val (.int p5), .unset, .unset] [(.int p1), (.ref a0')])) rfl rfl (hb hby d2_14) _ ?_
      show Steps p.tables e below (T0.setTop (mkF m 15 #[.val (.ref a0'), .val (.int p1), .val (.int p2), .val (.int p3), .val (.int p4), .val (.int p5), .unset, .unset] [(.int y0)])) _
      refine XS.iload X0.here hx rfl (hb hby d2_15) rfl ?_
      exact kt
    by_cases hc17_2 : y0 = p5
    · replace hr := hr.trans (if_pos hc17_2)
      refine own_step (T' := T0) (f' := (mkF m 20 #[.val (.ref a0'), .val (.int p1), .val (.int p2), .val (.int p3), .val (.int p4), .val (.int p5), .unset, .unset] [])) (fun t kt => ?_) ?_
      · show Steps p.tables e below (T0.setTop (mkF m 17 #[.val (.ref a0'), .val (.int p1), .val (.int p2), .val (.int p3), .val (.int p4), .val (.int p5), .unset, .unset] [(.int p5), (.int y0)])) _
        refine XS.icmpNo X0.here hx rfl (hb hby d2_17) rfl (teq hc17_2).2 kt
      refine own_step (T' := T0) (f' := (mkF m 25 #[.val (.ref a0'), .val (.int p1), .val (.int p2), .val (.int p3), .val (.int p4), .val (.int p5), .unset, .unset] [(.int (1 : Int32))])) (fun t kt => ?_) ?_
      · show Steps p.tables e below (T0.setTop (mkF m 20 #[.val (.ref a0'), .val (.int p1), .val (.int p2), .val (.int p3), .val (.int p4), .val (.int p5), .unset, .unset] [])) _
        refine XS.iconst X0.here hx rfl (hb hby d2_20) ?_
        show Steps p.tables e below (T0.setTop (mkF m 21 #[.val (.ref a0'), .val (.int p1), .val (.int p2), .val (.int p3), .val (.int p4), .val (.int p5), .unset, .unset] [(.int (1 : Int32))])) _
        refine XS.goto X0.here hx rfl (pc0 := 21) (pc' := 25) rfl (hb hby d2_21) (by decide) (by decide) ?_
        exact kt
      exact own_retZ X0 hx hret (by simp) hlk (hb hby d2_25) (Nat.le_refl _) (Nat.le_refl _) ⟨congrArg (fun z => some (Value.int z)) hr.symm, N0, e0⟩
    · replace hr := hr.trans (if_neg hc17_2)
      refine own_step (T' := T0) (f' := (mkF m 24 #[.val (.ref a0'), .val (.int p1), .val (.int p2), .val (.int p3), .val (.int p4), .val (.int p5), .unset, .unset] [])) (fun t kt => ?_) ?_
      · show Steps p.tables e below (T0.setTop (mkF m 17 #[.val (.ref a0'), .val (.int p1), .val (.int p2), .val (.int p3), .val (.int p4), .val (.int p5), .unset, .unset] [(.int p5), (.int y0)])) _
        refine XS.icmpYes X0.here hx rfl (pc0 := 17) (pc' := 24) rfl (hb hby d2_17) rfl (feq hc17_2).2 (by decide) (by decide) kt
      refine own_step (T' := T0) (f' := (mkF m 25 #[.val (.ref a0'), .val (.int p1), .val (.int p2), .val (.int p3), .val (.int p4), .val (.int p5), .unset, .unset] [(.int (0 : Int32))])) (fun t kt => ?_) ?_
      · show Steps p.tables e below (T0.setTop (mkF m 24 #[.val (.ref a0'), .val (.int p1), .val (.int p2), .val (.int p3), .val (.int p4), .val (.int p5), .unset, .unset] [])) _
        refine XS.iconst X0.here hx rfl (hb hby d2_24) ?_
        exact kt
      exact own_retZ X0 hx hret (by simp) hlk (hb hby d2_25) (Nat.le_refl _) (Nat.le_refl _) ⟨congrArg (fun z => some (Value.int z)) hr.symm, N0, e0⟩
  · replace hr := hr.trans (if_neg hc2_1)
    refine own_step (T' := T0) (f' := (mkF m 5 #[.val (.ref a0'), .val (.int p1), .val (.int p2), .val (.int p3), .val (.int p4), .val (.int p5), .unset, .unset] [])) (fun t kt => ?_) ?_
    · show Steps p.tables e below (T0.setTop (mkF m 2 #[.val (.ref a0'), .val (.int p1), .val (.int p2), .val (.int p3), .val (.int p4), .val (.int p5), .unset, .unset] [(.int p2), (.int p1)])) _
      refine XS.icmpNo X0.here hx rfl (hb hby d2_2) rfl (flt hc2_1).1 kt
    refine own_step (T' := T0) (f' := (mkF m 9 #[.val (.ref a0'), .val (.int p1), .val (.int p2), .val (.int p3), .val (.int p4), .val (.int p5), .unset, .unset] [(.int (p2 + p3)), (.int p1)])) (fun t kt => ?_) ?_
    · show Steps p.tables e below (T0.setTop (mkF m 5 #[.val (.ref a0'), .val (.int p1), .val (.int p2), .val (.int p3), .val (.int p4), .val (.int p5), .unset, .unset] [])) _
      refine XS.iloadN X0.here hx rfl (hb hby d2_5) rfl ?_
      show Steps p.tables e below (T0.setTop (mkF m 6 #[.val (.ref a0'), .val (.int p1), .val (.int p2), .val (.int p3), .val (.int p4), .val (.int p5), .unset, .unset] [(.int p1)])) _
      refine XS.iloadN X0.here hx rfl (hb hby d2_6) rfl ?_
      show Steps p.tables e below (T0.setTop (mkF m 7 #[.val (.ref a0'), .val (.int p1), .val (.int p2), .val (.int p3), .val (.int p4), .val (.int p5), .unset, .unset] [(.int p2), (.int p1)])) _
      refine XS.iloadN X0.here hx rfl (hb hby d2_7) rfl ?_
      show Steps p.tables e below (T0.setTop (mkF m 8 #[.val (.ref a0'), .val (.int p1), .val (.int p2), .val (.int p3), .val (.int p4), .val (.int p5), .unset, .unset] [(.int p3), (.int p2), (.int p1)])) _
      refine XS.iadd X0.here hx rfl (hb hby d2_8) rfl ?_
      exact kt
    by_cases hc9_3 : p1 < (p2 + p3)
    · replace hr := hr.trans (if_pos hc9_3)
      refine own_step (T' := T0) (f' := (mkF m 26 #[.val (.ref a0'), .val (.int p1), .val (.int p2), .val (.int p3), .val (.int p4), .val (.int p5), .unset, .unset] [])) (fun t kt => ?_) ?_
      · show Steps p.tables e below (T0.setTop (mkF m 9 #[.val (.ref a0'), .val (.int p1), .val (.int p2), .val (.int p3), .val (.int p4), .val (.int p5), .unset, .unset] [(.int (p2 + p3)), (.int p1)])) _
        refine XS.icmpYes X0.here hx rfl (pc0 := 9) (pc' := 26) rfl (hb hby d2_9) rfl (tlt hc9_3).1 (by decide) (by decide) kt
      refine own_step (T' := T0) (f' := (mkF m 49 #[.val (.ref a0'), .val (.int p1), .val (.int p2), .val (.int p3), .val (.int p4), .val (.int p5), .val (.int (p1 - p2)), .val (.int (((p4.toUInt32 >>> (((7 : Int32) * (p1 - p2)) &&& 31).toUInt32).toInt32) &&& (127 : Int32)))] [(.int (p3 - (1 : Int32))), (.int (p1 - p2))])) (fun t kt => ?_) ?_
      · show Steps p.tables e below (T0.setTop (mkF m 26 #[.val (.ref a0'), .val (.int p1), .val (.int p2), .val (.int p3), .val (.int p4), .val (.int p5), .unset, .unset] [])) _
        refine XS.iloadN X0.here hx rfl (hb hby d2_26) rfl ?_
        show Steps p.tables e below (T0.setTop (mkF m 27 #[.val (.ref a0'), .val (.int p1), .val (.int p2), .val (.int p3), .val (.int p4), .val (.int p5), .unset, .unset] [(.int p1)])) _
        refine XS.iloadN X0.here hx rfl (hb hby d2_27) rfl ?_
        show Steps p.tables e below (T0.setTop (mkF m 28 #[.val (.ref a0'), .val (.int p1), .val (.int p2), .val (.int p3), .val (.int p4), .val (.int p5), .unset, .unset] [(.int p2), (.int p1)])) _
        refine XS.isub X0.here hx rfl (hb hby d2_28) rfl ?_
        show Steps p.tables e below (T0.setTop (mkF m 29 #[.val (.ref a0'), .val (.int p1), .val (.int p2), .val (.int p3), .val (.int p4), .val (.int p5), .unset, .unset] [(.int (p1 - p2))])) _
        refine XS.istore X0.here hx rfl (hb hby d2_29) rfl (l' := #[.val (.ref a0'), .val (.int p1), .val (.int p2), .val (.int p3), .val (.int p4), .val (.int p5), .val (.int (p1 - p2)), .unset]) rfl ?_
        show Steps p.tables e below (T0.setTop (mkF m 31 #[.val (.ref a0'), .val (.int p1), .val (.int p2), .val (.int p3), .val (.int p4), .val (.int p5), .val (.int (p1 - p2)), .unset] [])) _
        refine XS.iload X0.here hx rfl (hb hby d2_31) rfl ?_
        show Steps p.tables e below (T0.setTop (mkF m 33 #[.val (.ref a0'), .val (.int p1), .val (.int p2), .val (.int p3), .val (.int p4), .val (.int p5), .val (.int (p1 - p2)), .unset] [(.int p4)])) _
        refine XS.bipush X0.here hx rfl (hb hby d2_33) ?_
        show Steps p.tables e below (T0.setTop (mkF m 35 #[.val (.ref a0'), .val (.int p1), .val (.int p2), .val (.int p3), .val (.int p4), .val (.int p5), .val (.int (p1 - p2)), .unset] [(.int (7 : Int32)), (.int p4)])) _
        refine XS.iload X0.here hx rfl (hb hby d2_35) rfl ?_
        show Steps p.tables e below (T0.setTop (mkF m 37 #[.val (.ref a0'), .val (.int p1), .val (.int p2), .val (.int p3), .val (.int p4), .val (.int p5), .val (.int (p1 - p2)), .unset] [(.int (p1 - p2)), (.int (7 : Int32)), (.int p4)])) _
        refine XS.imul X0.here hx rfl (hb hby d2_37) rfl ?_
        show Steps p.tables e below (T0.setTop (mkF m 38 #[.val (.ref a0'), .val (.int p1), .val (.int p2), .val (.int p3), .val (.int p4), .val (.int p5), .val (.int (p1 - p2)), .unset] [(.int ((7 : Int32) * (p1 - p2))), (.int p4)])) _
        refine XS.iushr X0.here hx rfl (hb hby d2_38) rfl ?_
        show Steps p.tables e below (T0.setTop (mkF m 39 #[.val (.ref a0'), .val (.int p1), .val (.int p2), .val (.int p3), .val (.int p4), .val (.int p5), .val (.int (p1 - p2)), .unset] [(.int ((p4.toUInt32 >>> (((7 : Int32) * (p1 - p2)) &&& 31).toUInt32).toInt32))])) _
        refine XS.bipush X0.here hx rfl (hb hby d2_39) ?_
        show Steps p.tables e below (T0.setTop (mkF m 41 #[.val (.ref a0'), .val (.int p1), .val (.int p2), .val (.int p3), .val (.int p4), .val (.int p5), .val (.int (p1 - p2)), .unset] [(.int (127 : Int32)), (.int ((p4.toUInt32 >>> (((7 : Int32) * (p1 - p2)) &&& 31).toUInt32).toInt32))])) _
        refine XS.iand X0.here hx rfl (hb hby d2_41) rfl ?_
        show Steps p.tables e below (T0.setTop (mkF m 42 #[.val (.ref a0'), .val (.int p1), .val (.int p2), .val (.int p3), .val (.int p4), .val (.int p5), .val (.int (p1 - p2)), .unset] [(.int (((p4.toUInt32 >>> (((7 : Int32) * (p1 - p2)) &&& 31).toUInt32).toInt32) &&& (127 : Int32)))])) _
        refine XS.istore X0.here hx rfl (hb hby d2_42) rfl (l' := #[.val (.ref a0'), .val (.int p1), .val (.int p2), .val (.int p3), .val (.int p4), .val (.int p5), .val (.int (p1 - p2)), .val (.int (((p4.toUInt32 >>> (((7 : Int32) * (p1 - p2)) &&& 31).toUInt32).toInt32) &&& (127 : Int32)))]) rfl ?_
        show Steps p.tables e below (T0.setTop (mkF m 44 #[.val (.ref a0'), .val (.int p1), .val (.int p2), .val (.int p3), .val (.int p4), .val (.int p5), .val (.int (p1 - p2)), .val (.int (((p4.toUInt32 >>> (((7 : Int32) * (p1 - p2)) &&& 31).toUInt32).toInt32) &&& (127 : Int32)))] [])) _
        refine XS.iload X0.here hx rfl (hb hby d2_44) rfl ?_
        show Steps p.tables e below (T0.setTop (mkF m 46 #[.val (.ref a0'), .val (.int p1), .val (.int p2), .val (.int p3), .val (.int p4), .val (.int p5), .val (.int (p1 - p2)), .val (.int (((p4.toUInt32 >>> (((7 : Int32) * (p1 - p2)) &&& 31).toUInt32).toInt32) &&& (127 : Int32)))] [(.int (p1 - p2))])) _
        refine XS.iloadN X0.here hx rfl (hb hby d2_46) rfl ?_
        show Steps p.tables e below (T0.setTop (mkF m 47 #[.val (.ref a0'), .val (.int p1), .val (.int p2), .val (.int p3), .val (.int p4), .val (.int p5), .val (.int (p1 - p2)), .val (.int (((p4.toUInt32 >>> (((7 : Int32) * (p1 - p2)) &&& 31).toUInt32).toInt32) &&& (127 : Int32)))] [(.int p3), (.int (p1 - p2))])) _
        refine XS.iconst X0.here hx rfl (hb hby d2_47) ?_
        show Steps p.tables e below (T0.setTop (mkF m 48 #[.val (.ref a0'), .val (.int p1), .val (.int p2), .val (.int p3), .val (.int p4), .val (.int p5), .val (.int (p1 - p2)), .val (.int (((p4.toUInt32 >>> (((7 : Int32) * (p1 - p2)) &&& 31).toUInt32).toInt32) &&& (127 : Int32)))] [(.int (1 : Int32)), (.int p3), (.int (p1 - p2))])) _
        refine XS.isub X0.here hx rfl (hb hby d2_48) rfl ?_
        exact kt
      by_cases hc49_4 : (p1 - p2) < (p3 - (1 : Int32))
      · replace hr := hr.trans (if_pos hc49_4)
        refine own_step (T' := T0) (f' := (mkF m 52 #[.val (.ref a0'), .val (.int p1), .val (.int p2), .val (.int p3), .val (.int p4), .val (.int p5), .val (.int (p1 - p2)), .val (.int (((p4.toUInt32 >>> (((7 : Int32) * (p1 - p2)) &&& 31).toUInt32).toInt32) &&& (127 : Int32)))] [])) (fun t kt => ?_) ?_
        · show Steps p.tables e below (T0.setTop (mkF m 49 #[.val (.ref a0'), .val (.int p1), .val (.int p2), .val (.int p3), .val (.int p4), .val (.int p5), .val (.int (p1 - p2)), .val (.int (((p4.toUInt32 >>> (((7 : Int32) * (p1 - p2)) &&& 31).toUInt32).toInt32) &&& (127 : Int32)))] [(.int (p3 - (1 : Int32))), (.int (p1 - p2))])) _
          refine XS.icmpNo X0.here hx rfl (hb hby d2_49) rfl (tlt hc49_4).2.1 kt
        refine own_step (T' := T0) (f' := (mkF m 66 #[.val (.ref a0'), .val (.int p1), .val (.int p2), .val (.int p3), .val (.int p4), .val (.int p5), .val (.int (p1 - p2)), .val (.int ((((p4.toUInt32 >>> (((7 : Int32) * (p1 - p2)) &&& 31).toUInt32).toInt32) &&& (127 : Int32)) ||| (128 : Int32)))] [(.int (((((p4.toUInt32 >>> (((7 : Int32) * (p1 - p2)) &&& 31).toUInt32).toInt32) &&& (127 : Int32)) ||| (128 : Int32)).toInt8.toInt32)), (.int y0)])) (fun t kt => ?_) ?_
        · show Steps p.tables e below (T0.setTop (mkF m 52 #[.val (.ref a0'), .val (.int p1), .val (.int p2), .val (.int p3), .val (.int p4), .val (.int p5), .val (.int (p1 - p2)), .val (.int (((p4.toUInt32 >>> (((7 : Int32) * (p1 - p2)) &&& 31).toUInt32).toInt32) &&& (127 : Int32)))] [])) _
          refine XS.iload X0.here hx rfl (hb hby d2_52) rfl ?_
          show Steps p.tables e below (T0.setTop (mkF m 54 #[.val (.ref a0'), .val (.int p1), .val (.int p2), .val (.int p3), .val (.int p4), .val (.int p5), .val (.int (p1 - p2)), .val (.int (((p4.toUInt32 >>> (((7 : Int32) * (p1 - p2)) &&& 31).toUInt32).toInt32) &&& (127 : Int32)))] [(.int (((p4.toUInt32 >>> (((7 : Int32) * (p1 - p2)) &&& 31).toUInt32).toInt32) &&& (127 : Int32)))])) _
          refine XS.sipush X0.here hx rfl (hb hby d2_54) ?_
          show Steps p.tables e below (T0.setTop (mkF m 57 #[.val (.ref a0'), .val (.int p1), .val (.int p2), .val (.int p3), .val (.int p4), .val (.int p5), .val (.int (p1 - p2)), .val (.int (((p4.toUInt32 >>> (((7 : Int32) * (p1 - p2)) &&& 31).toUInt32).toInt32) &&& (127 : Int32)))] [(.int (128 : Int32)), (.int (((p4.toUInt32 >>> (((7 : Int32) * (p1 - p2)) &&& 31).toUInt32).toInt32) &&& (127 : Int32)))])) _
          refine XS.ior X0.here hx rfl (hb hby d2_57) rfl ?_
          show Steps p.tables e below (T0.setTop (mkF m 58 #[.val (.ref a0'), .val (.int p1), .val (.int p2), .val (.int p3), .val (.int p4), .val (.int p5), .val (.int (p1 - p2)), .val (.int (((p4.toUInt32 >>> (((7 : Int32) * (p1 - p2)) &&& 31).toUInt32).toInt32) &&& (127 : Int32)))] [(.int ((((p4.toUInt32 >>> (((7 : Int32) * (p1 - p2)) &&& 31).toUInt32).toInt32) &&& (127 : Int32)) ||| (128 : Int32)))])) _
          refine XS.istore X0.here hx rfl (hb hby d2_58) rfl (l' := #[.val (.ref a0'), .val (.int p1), .val (.int p2), .val (.int p3), .val (.int p4), .val (.int p5), .val (.int (p1 - p2)), .val (.int ((((p4.toUInt32 >>> (((7 : Int32) * (p1 - p2)) &&& 31).toUInt32).toInt32) &&& (127 : Int32)) ||| (128 : Int32)))]) rfl ?_
          show Steps p.tables e below (T0.setTop (mkF m 60 #[.val (.ref a0'), .val (.int p1), .val (.int p2), .val (.int p3), .val (.int p4), .val (.int p5), .val (.int (p1 - p2)), .val (.int ((((p4.toUInt32 >>> (((7 : Int32) * (p1 - p2)) &&& 31).toUInt32).toInt32) &&& (127 : Int32)) ||| (128 : Int32)))] [])) _
          refine XS.aloadN X0.here hx rfl (hb hby d2_60) rfl rfl ?_
          show Steps p.tables e below (T0.setTop (mkF m 61 #[.val (.ref a0'), .val (.int p1), .val (.int p2), .val (.int p3), .val (.int p4), .val (.int p5), .val (.int (p1 - p2)), .val (.int ((((p4.toUInt32 >>> (((7 : Int32) * (p1 - p2)) &&& 31).toUInt32).toInt32) &&& (127 : Int32)) ||| (128 : Int32)))] [(.ref a0')])) _
          refine XS.iloadN X0.here hx rfl (hb hby d2_61) rfl ?_
          show Steps p.tables e below (T0.setTop (mkF m 62 #[.val (.ref a0'), .val (.int p1), .val (.int p2), .val (.int p3), .val (.int p4), .val (.int p5), .val (.int (p1 - p2)), .val (.int ((((p4.toUInt32 >>> (((7 : Int32) * (p1 - p2)) &&& 31).toUInt32).toInt32) &&& (127 : Int32)) ||| (128 : Int32)))] [(.int p1), (.ref a0')])) _
          refine own_ldB X0 hx hZ e0 A0 (j := p1) hj0 (k := _) rfl (v := (.int y0)) hv0 (g := (mkF m 62 #[.val (.ref a0'), .val (.int p1), .val (.int p2), .val (.int p3), .val (.int p4), .val (.int p5), .val (.int (p1 - p2)), .val (.int ((((p4.toUInt32 >>> (((7 : Int32) * (p1 - p2)) &&& 31).toUInt32).toInt32) &&& (127 : Int32)) ||| (128 : Int32)))] [(.int p1), (.ref a0')])) rfl rfl (hb hby d2_62) _ ?_
          show Steps p.tables e below (T0.setTop (mkF m 63 #[.val (.ref a0'), .val (.int p1), .val (.int p2), .val (.int p3), .val (.int p4), .val (.int p5), .val (.int (p1 - p2)), .val (.int ((((p4.toUInt32 >>> (((7 : Int32) * (p1 - p2)) &&& 31).toUInt32).toInt32) &&& (127 : Int32)) ||| (128 : Int32)))] [(.int y0)])) _
          refine XS.iload X0.here hx rfl (hb hby d2_63) rfl ?_
          show Steps p.tables e below (T0.setTop (mkF m 65 #[.val (.ref a0'), .val (.int p1), .val (.int p2), .val (.int p3), .val (.int p4), .val (.int p5), .val (.int (p1 - p2)), .val (.int ((((p4.toUInt32 >>> (((7 : Int32) * (p1 - p2)) &&& 31).toUInt32).toInt32) &&& (127 : Int32)) ||| (128 : Int32)))] [(.int ((((p4.toUInt32 >>> (((7 : Int32) * (p1 - p2)) &&& 31).toUInt32).toInt32) &&& (127 : Int32)) ||| (128 : Int32))), (.int y0)])) _
          refine XS.i2b X0.here hx rfl (hb hby d2_65) rfl ?_
          exact kt
        by_cases hc66_5 : y0 = (((((p4.toUInt32 >>> (((7 : Int32) * (p1 - p2)) &&& 31).toUInt32).toInt32) &&& (127 : Int32)) ||| (128 : Int32)).toInt8.toInt32)
        · replace hr := hr.trans (if_pos hc66_5)
          refine own_step (T' := T0) (f' := (mkF m 69 #[.val (.ref a0'), .val (.int p1), .val (.int p2), .val (.int p3), .val (.int p4), .val (.int p5), .val (.int (p1 - p2)), .val (.int ((((p4.toUInt32 >>> (((7 : Int32) * (p1 - p2)) &&& 31).toUInt32).toInt32) &&& (127 : Int32)) ||| (128 : Int32)))] [])) (fun t kt => ?_) ?_
          · show Steps p.tables e below (T0.setTop (mkF m 66 #[.val (.ref a0'), .val (.int p1), .val (.int p2), .val (.int p3), .val (.int p4), .val (.int p5), .val (.int (p1 - p2)), .val (.int ((((p4.toUInt32 >>> (((7 : Int32) * (p1 - p2)) &&& 31).toUInt32).toInt32) &&& (127 : Int32)) ||| (128 : Int32)))] [(.int (((((p4.toUInt32 >>> (((7 : Int32) * (p1 - p2)) &&& 31).toUInt32).toInt32) &&& (127 : Int32)) ||| (128 : Int32)).toInt8.toInt32)), (.int y0)])) _
            refine XS.icmpNo X0.here hx rfl (hb hby d2_66) rfl (teq hc66_5).2 kt
          refine own_step (T' := T0) (f' := (mkF m 74 #[.val (.ref a0'), .val (.int p1), .val (.int p2), .val (.int p3), .val (.int p4), .val (.int p5), .val (.int (p1 - p2)), .val (.int ((((p4.toUInt32 >>> (((7 : Int32) * (p1 - p2)) &&& 31).toUInt32).toInt32) &&& (127 : Int32)) ||| (128 : Int32)))] [(.int (1 : Int32))])) (fun t kt => ?_) ?_
          · show Steps p.tables e below (T0.setTop (mkF m 69 #[.val (.ref a0'), .val (.int p1), .val (.int p2), .val (.int p3), .val (.int p4), .val (.int p5), .val (.int (p1 - p2)), .val (.int ((((p4.toUInt32 >>> (((7 : Int32) * (p1 - p2)) &&& 31).toUInt32).toInt32) &&& (127 : Int32)) ||| (128 : Int32)))] [])) _
            refine XS.iconst X0.here hx rfl (hb hby d2_69) ?_
            show Steps p.tables e below (T0.setTop (mkF m 70 #[.val (.ref a0'), .val (.int p1), .val (.int p2), .val (.int p3), .val (.int p4), .val (.int p5), .val (.int (p1 - p2)), .val (.int ((((p4.toUInt32 >>> (((7 : Int32) * (p1 - p2)) &&& 31).toUInt32).toInt32) &&& (127 : Int32)) ||| (128 : Int32)))] [(.int (1 : Int32))])) _
            refine XS.goto X0.here hx rfl (pc0 := 70) (pc' := 74) rfl (hb hby d2_70) (by decide) (by decide) ?_
            exact kt
          exact own_retZ X0 hx hret (by simp) hlk (hb hby d2_74) (Nat.le_refl _) (Nat.le_refl _) ⟨congrArg (fun z => some (Value.int z)) hr.symm, N0, e0⟩
        · replace hr := hr.trans (if_neg hc66_5)
          refine own_step (T' := T0) (f' := (mkF m 73 #[.val (.ref a0'), .val (.int p1), .val (.int p2), .val (.int p3), .val (.int p4), .val (.int p5), .val (.int (p1 - p2)), .val (.int ((((p4.toUInt32 >>> (((7 : Int32) * (p1 - p2)) &&& 31).toUInt32).toInt32) &&& (127 : Int32)) ||| (128 : Int32)))] [])) (fun t kt => ?_) ?_
          · show Steps p.tables e below (T0.setTop (mkF m 66 #[.val (.ref a0'), .val (.int p1), .val (.int p2), .val (.int p3), .val (.int p4), .val (.int p5), .val (.int (p1 - p2)), .val (.int ((((p4.toUInt32 >>> (((7 : Int32) * (p1 - p2)) &&& 31).toUInt32).toInt32) &&& (127 : Int32)) ||| (128 : Int32)))] [(.int (((((p4.toUInt32 >>> (((7 : Int32) * (p1 - p2)) &&& 31).toUInt32).toInt32) &&& (127 : Int32)) ||| (128 : Int32)).toInt8.toInt32)), (.int y0)])) _
            refine XS.icmpYes X0.here hx rfl (pc0 := 66) (pc' := 73) rfl (hb hby d2_66) rfl (feq hc66_5).2 (by decide) (by decide) kt
          refine own_step (T' := T0) (f' := (mkF m 74 #[.val (.ref a0'), .val (.int p1), .val (.int p2), .val (.int p3), .val (.int p4), .val (.int p5), .val (.int (p1 - p2)), .val (.int ((((p4.toUInt32 >>> (((7 : Int32) * (p1 - p2)) &&& 31).toUInt32).toInt32) &&& (127 : Int32)) ||| (128 : Int32)))] [(.int (0 : Int32))])) (fun t kt => ?_) ?_
          · show Steps p.tables e below (T0.setTop (mkF m 73 #[.val (.ref a0'), .val (.int p1), .val (.int p2), .val (.int p3), .val (.int p4), .val (.int p5), .val (.int (p1 - p2)), .val (.int ((((p4.toUInt32 >>> (((7 : Int32) * (p1 - p2)) &&& 31).toUInt32).toInt32) &&& (127 : Int32)) ||| (128 : Int32)))] [])) _
            refine XS.iconst X0.here hx rfl (hb hby d2_73) ?_
            exact kt
          exact own_retZ X0 hx hret (by simp) hlk (hb hby d2_74) (Nat.le_refl _) (Nat.le_refl _) ⟨congrArg (fun z => some (Value.int z)) hr.symm, N0, e0⟩
      · replace hr := hr.trans (if_neg hc49_4)
        refine own_step (T' := T0) (f' := (mkF m 60 #[.val (.ref a0'), .val (.int p1), .val (.int p2), .val (.int p3), .val (.int p4), .val (.int p5), .val (.int (p1 - p2)), .val (.int (((p4.toUInt32 >>> (((7 : Int32) * (p1 - p2)) &&& 31).toUInt32).toInt32) &&& (127 : Int32)))] [])) (fun t kt => ?_) ?_
        · show Steps p.tables e below (T0.setTop (mkF m 49 #[.val (.ref a0'), .val (.int p1), .val (.int p2), .val (.int p3), .val (.int p4), .val (.int p5), .val (.int (p1 - p2)), .val (.int (((p4.toUInt32 >>> (((7 : Int32) * (p1 - p2)) &&& 31).toUInt32).toInt32) &&& (127 : Int32)))] [(.int (p3 - (1 : Int32))), (.int (p1 - p2))])) _
          refine XS.icmpYes X0.here hx rfl (pc0 := 49) (pc' := 60) rfl (hb hby d2_49) rfl (flt hc49_4).2.1 (by decide) (by decide) kt
        refine own_step (T' := T0) (f' := (mkF m 66 #[.val (.ref a0'), .val (.int p1), .val (.int p2), .val (.int p3), .val (.int p4), .val (.int p5), .val (.int (p1 - p2)), .val (.int (((p4.toUInt32 >>> (((7 : Int32) * (p1 - p2)) &&& 31).toUInt32).toInt32) &&& (127 : Int32)))] [(.int ((((p4.toUInt32 >>> (((7 : Int32) * (p1 - p2)) &&& 31).toUInt32).toInt32) &&& (127 : Int32)).toInt8.toInt32)), (.int y0)])) (fun t kt => ?_) ?_
        · show Steps p.tables e below (T0.setTop (mkF m 60 #[.val (.ref a0'), .val (.int p1), .val (.int p2), .val (.int p3), .val (.int p4), .val (.int p5), .val (.int (p1 - p2)), .val (.int (((p4.toUInt32 >>> (((7 : Int32) * (p1 - p2)) &&& 31).toUInt32).toInt32) &&& (127 : Int32)))] [])) _
          refine XS.aloadN X0.here hx rfl (hb hby d2_60) rfl rfl ?_
          show Steps p.tables e below (T0.setTop (mkF m 61 #[.val (.ref a0'), .val (.int p1), .val (.int p2), .val (.int p3), .val (.int p4), .val (.int p5), .val (.int (p1 - p2)), .val (.int (((p4.toUInt32 >>> (((7 : Int32) * (p1 - p2)) &&& 31).toUInt32).toInt32) &&& (127 : Int32)))] [(.ref a0')])) _
          refine XS.iloadN X0.here hx rfl (hb hby d2_61) rfl ?_
          show Steps p.tables e below (T0.setTop (mkF m 62 #[.val (.ref a0'), .val (.int p1), .val (.int p2), .val (.int p3), .val (.int p4), .val (.int p5), .val (.int (p1 - p2)), .val (.int (((p4.toUInt32 >>> (((7 : Int32) * (p1 - p2)) &&& 31).toUInt32).toInt32) &&& (127 : Int32)))] [(.int p1), (.ref a0')])) _
          refine own_ldB X0 hx hZ e0 A0 (j := p1) hj0 (k := _) rfl (v := (.int y0)) hv0 (g := (mkF m 62 #[.val (.ref a0'), .val (.int p1), .val (.int p2), .val (.int p3), .val (.int p4), .val (.int p5), .val (.int (p1 - p2)), .val (.int (((p4.toUInt32 >>> (((7 : Int32) * (p1 - p2)) &&& 31).toUInt32).toInt32) &&& (127 : Int32)))] [(.int p1), (.ref a0')])) rfl rfl (hb hby d2_62) _ ?_
          show Steps p.tables e below (T0.setTop (mkF m 63 #[.val (.ref a0'), .val (.int p1), .val (.int p2), .val (.int p3), .val (.int p4), .val (.int p5), .val (.int (p1 - p2)), .val (.int (((p4.toUInt32 >>> (((7 : Int32) * (p1 - p2)) &&& 31).toUInt32).toInt32) &&& (127 : Int32)))] [(.int y0)])) _
          refine XS.iload X0.here hx rfl (hb hby d2_63) rfl ?_
          show Steps p.tables e below (T0.setTop (mkF m 65 #[.val (.ref a0'), .val (.int p1), .val (.int p2), .val (.int p3), .val (.int p4), .val (.int p5), .val (.int (p1 - p2)), .val (.int (((p4.toUInt32 >>> (((7 : Int32) * (p1 - p2)) &&& 31).toUInt32).toInt32) &&& (127 : Int32)))] [(.int (((p4.toUInt32 >>> (((7 : Int32) * (p1 - p2)) &&& 31).toUInt32).toInt32) &&& (127 : Int32))), (.int y0)])) _
          refine XS.i2b X0.here hx rfl (hb hby d2_65) rfl ?_
          exact kt
        by_cases hc66_6 : y0 = ((((p4.toUInt32 >>> (((7 : Int32) * (p1 - p2)) &&& 31).toUInt32).toInt32) &&& (127 : Int32)).toInt8.toInt32)
        · replace hr := hr.trans (if_pos hc66_6)
          refine own_step (T' := T0) (f' := (mkF m 69 #[.val (.ref a0'), .val (.int p1), .val (.int p2), .val (.int p3), .val (.int p4), .val (.int p5), .val (.int (p1 - p2)), .val (.int (((p4.toUInt32 >>> (((7 : Int32) * (p1 - p2)) &&& 31).toUInt32).toInt32) &&& (127 : Int32)))] [])) (fun t kt => ?_) ?_
          · show Steps p.tables e below (T0.setTop (mkF m 66 #[.val (.ref a0'), .val (.int p1), .val (.int p2), .val (.int p3), .val (.int p4), .val (.int p5), .val (.int (p1 - p2)), .val (.int (((p4.toUInt32 >>> (((7 : Int32) * (p1 - p2)) &&& 31).toUInt32).toInt32) &&& (127 : Int32)))] [(.int ((((p4.toUInt32 >>> (((7 : Int32) * (p1 - p2)) &&& 31).toUInt32).toInt32) &&& (127 : Int32)).toInt8.toInt32)), (.int y0)])) _
            refine XS.icmpNo X0.here hx rfl (hb hby d2_66) rfl (teq hc66_6).2 kt
          refine own_step (T' := T0) (f' := (mkF m 74 #[.val (.ref a0'), .val (.int p1), .val (.int p2), .val (.int p3), .val (.int p4), .val (.int p5), .val (.int (p1 - p2)), .val (.int (((p4.toUInt32 >>> (((7 : Int32) * (p1 - p2)) &&& 31).toUInt32).toInt32) &&& (127 : Int32)))] [(.int (1 : Int32))])) (fun t kt => ?_) ?_
          · show Steps p.tables e below (T0.setTop (mkF m 69 #[.val (.ref a0'), .val (.int p1), .val (.int p2), .val (.int p3), .val (.int p4), .val (.int p5), .val (.int (p1 - p2)), .val (.int (((p4.toUInt32 >>> (((7 : Int32) * (p1 - p2)) &&& 31).toUInt32).toInt32) &&& (127 : Int32)))] [])) _
            refine XS.iconst X0.here hx rfl (hb hby d2_69) ?_
            show Steps p.tables e below (T0.setTop (mkF m 70 #[.val (.ref a0'), .val (.int p1), .val (.int p2), .val (.int p3), .val (.int p4), .val (.int p5), .val (.int (p1 - p2)), .val (.int (((p4.toUInt32 >>> (((7 : Int32) * (p1 - p2)) &&& 31).toUInt32).toInt32) &&& (127 : Int32)))] [(.int (1 : Int32))])) _
            refine XS.goto X0.here hx rfl (pc0 := 70) (pc' := 74) rfl (hb hby d2_70) (by decide) (by decide) ?_
            exact kt
          exact own_retZ X0 hx hret (by simp) hlk (hb hby d2_74) (Nat.le_refl _) (Nat.le_refl _) ⟨congrArg (fun z => some (Value.int z)) hr.symm, N0, e0⟩
        · replace hr := hr.trans (if_neg hc66_6)
          refine own_step (T' := T0) (f' := (mkF m 73 #[.val (.ref a0'), .val (.int p1), .val (.int p2), .val (.int p3), .val (.int p4), .val (.int p5), .val (.int (p1 - p2)), .val (.int (((p4.toUInt32 >>> (((7 : Int32) * (p1 - p2)) &&& 31).toUInt32).toInt32) &&& (127 : Int32)))] [])) (fun t kt => ?_) ?_
          · show Steps p.tables e below (T0.setTop (mkF m 66 #[.val (.ref a0'), .val (.int p1), .val (.int p2), .val (.int p3), .val (.int p4), .val (.int p5), .val (.int (p1 - p2)), .val (.int (((p4.toUInt32 >>> (((7 : Int32) * (p1 - p2)) &&& 31).toUInt32).toInt32) &&& (127 : Int32)))] [(.int ((((p4.toUInt32 >>> (((7 : Int32) * (p1 - p2)) &&& 31).toUInt32).toInt32) &&& (127 : Int32)).toInt8.toInt32)), (.int y0)])) _
            refine XS.icmpYes X0.here hx rfl (pc0 := 66) (pc' := 73) rfl (hb hby d2_66) rfl (feq hc66_6).2 (by decide) (by decide) kt
          refine own_step (T' := T0) (f' := (mkF m 74 #[.val (.ref a0'), .val (.int p1), .val (.int p2), .val (.int p3), .val (.int p4), .val (.int p5), .val (.int (p1 - p2)), .val (.int (((p4.toUInt32 >>> (((7 : Int32) * (p1 - p2)) &&& 31).toUInt32).toInt32) &&& (127 : Int32)))] [(.int (0 : Int32))])) (fun t kt => ?_) ?_
          · show Steps p.tables e below (T0.setTop (mkF m 73 #[.val (.ref a0'), .val (.int p1), .val (.int p2), .val (.int p3), .val (.int p4), .val (.int p5), .val (.int (p1 - p2)), .val (.int (((p4.toUInt32 >>> (((7 : Int32) * (p1 - p2)) &&& 31).toUInt32).toInt32) &&& (127 : Int32)))] [])) _
            refine XS.iconst X0.here hx rfl (hb hby d2_73) ?_
            exact kt
          exact own_retZ X0 hx hret (by simp) hlk (hb hby d2_74) (Nat.le_refl _) (Nat.le_refl _) ⟨congrArg (fun z => some (Value.int z)) hr.symm, N0, e0⟩
    · replace hr := hr.trans (if_neg hc9_3)
      refine own_step (T' := T0) (f' := (mkF m 12 #[.val (.ref a0'), .val (.int p1), .val (.int p2), .val (.int p3), .val (.int p4), .val (.int p5), .unset, .unset] [])) (fun t kt => ?_) ?_
      · show Steps p.tables e below (T0.setTop (mkF m 9 #[.val (.ref a0'), .val (.int p1), .val (.int p2), .val (.int p3), .val (.int p4), .val (.int p5), .unset, .unset] [(.int (p2 + p3)), (.int p1)])) _
        refine XS.icmpNo X0.here hx rfl (hb hby d2_9) rfl (flt hc9_3).1 kt
      refine own_step (T' := T0) (f' := (mkF m 17 #[.val (.ref a0'), .val (.int p1), .val (.int p2), .val (.int p3), .val (.int p4), .val (.int p5), .unset, .unset] [(.int p5), (.int y0)])) (fun t kt => ?_) ?_
      · show Steps p.tables e below (T0.setTop (mkF m 12 #[.val (.ref a0'), .val (.int p1), .val (.int p2), .val (.int p3), .val (.int p4), .val (.int p5), .unset, .unset] [])) _
        refine XS.aloadN X0.here hx rfl (hb hby d2_12) rfl rfl ?_
        show Steps p.tables e below (T0.setTop (mkF m 13 #[.val (.ref a0'), .val (.int p1), .val (.int p2), .val (.int p3), .val (.int p4), .val (.int p5), .unset, .unset] [(.ref a0')])) _
        refine XS.iloadN X0.here hx rfl (hb hby d2_13) rfl ?_
        show Steps p.tables e below (T0.setTop (mkF m 14 #[.val (.ref a0'), .val (.int p1), .val (.int p2), .val (.int p3), .val (.int p4), .val (.int p5), .unset, .unset] [(.int p1), (.ref a0')])) _
        refine own_ldB X0 hx hZ e0 A0 (j := p1) hj0 (k := _) rfl (v := (.int y0)) hv0 (g := (mkF m 14 #[.val (.ref a0'), .val (.int p1), .val (.int p2), .val (.int p3), .val (.int p4), .val (.int p5), .unset, .unset] [(.int p1), (.ref a0')])) rfl rfl (hb hby d2_14) _ ?_
        show Steps p.tables e below (T0.setTop (mkF m 15 #[.val (.ref a0'), .val (.int p1), .val (.int p2), .val (.int p3), .val (.int p4), .val (.int p5), .unset, .unset] [(.int y0)])) _
        refine XS.iload X0.here hx rfl (hb hby d2_15) rfl ?_
        exact kt
      by_cases hc17_7 : y0 = p5
      · replace hr := hr.trans (if_pos hc17_7)
        refine own_step (T' := T0) (f' := (mkF m 20 #[.val (.ref a0'), .val (.int p1), .val (.int p2), .val (.int p3), .val (.int p4), .val (.int p5), .unset, .unset] [])) (fun t kt => ?_) ?_
        · show Steps p.tables e below (T0.setTop (mkF m 17 #[.val (.ref a0'), .val (.int p1), .val (.int p2), .val (.int p3), .val (.int p4), .val (.int p5), .unset, .unset] [(.int p5), (.int y0)])) _
          refine XS.icmpNo X0.here hx rfl (hb hby d2_17) rfl (teq hc17_7).2 kt
        refine own_step (T' := T0) (f' := (mkF m 25 #[.val (.ref a0'), .val (.int p1), .val (.int p2), .val (.int p3), .val (.int p4), .val (.int p5), .unset, .unset] [(.int (1 : Int32))])) (fun t kt => ?_) ?_
        · show Steps p.tables e below (T0.setTop (mkF m 20 #[.val (.ref a0'), .val (.int p1), .val (.int p2), .val (.int p3), .val (.int p4), .val (.int p5), .unset, .unset] [])) _
          refine XS.iconst X0.here hx rfl (hb hby d2_20) ?_
          show Steps p.tables e below (T0.setTop (mkF m 21 #[.val (.ref a0'), .val (.int p1), .val (.int p2), .val (.int p3), .val (.int p4), .val (.int p5), .unset, .unset] [(.int (1 : Int32))])) _
          refine XS.goto X0.here hx rfl (pc0 := 21) (pc' := 25) rfl (hb hby d2_21) (by decide) (by decide) ?_
          exact kt
        exact own_retZ X0 hx hret (by simp) hlk (hb hby d2_25) (Nat.le_refl _) (Nat.le_refl _) ⟨congrArg (fun z => some (Value.int z)) hr.symm, N0, e0⟩
      · replace hr := hr.trans (if_neg hc17_7)
        refine own_step (T' := T0) (f' := (mkF m 24 #[.val (.ref a0'), .val (.int p1), .val (.int p2), .val (.int p3), .val (.int p4), .val (.int p5), .unset, .unset] [])) (fun t kt => ?_) ?_
        · show Steps p.tables e below (T0.setTop (mkF m 17 #[.val (.ref a0'), .val (.int p1), .val (.int p2), .val (.int p3), .val (.int p4), .val (.int p5), .unset, .unset] [(.int p5), (.int y0)])) _
          refine XS.icmpYes X0.here hx rfl (pc0 := 17) (pc' := 24) rfl (hb hby d2_17) rfl (feq hc17_7).2 (by decide) (by decide) kt
        refine own_step (T' := T0) (f' := (mkF m 25 #[.val (.ref a0'), .val (.int p1), .val (.int p2), .val (.int p3), .val (.int p4), .val (.int p5), .unset, .unset] [(.int (0 : Int32))])) (fun t kt => ?_) ?_
        · show Steps p.tables e below (T0.setTop (mkF m 24 #[.val (.ref a0'), .val (.int p1), .val (.int p2), .val (.int p3), .val (.int p4), .val (.int p5), .unset, .unset] [])) _
          refine XS.iconst X0.here hx rfl (hb hby d2_24) ?_
          exact kt
        exact own_retZ X0 hx hret (by simp) hlk (hb hby d2_25) (Nat.le_refl _) (Nat.le_refl _) ⟨congrArg (fun z => some (Value.int z)) hr.symm, N0, e0⟩
set_option maxRecDepth 65536 in
set_option maxHeartbeats 4000000 in
theorem rm2 (l : Launch) (Z : State) (a0 : Array Value) (hw : ∀ d ∈ tables_1, d.before a0 Z = true) (ws : List Jvm.Cond) (a0' : Addr) (p1 : Int32) (p2 : Int32) (p3 : Int32) (p4 : Int32) (p5 : Int32) (y0 : Int32) (vs0 : List Value) (h0 : Heap) (n0 : Nat) (A0 : own_A Z h0 a0' .byte vs0) (hj0 : ¬ p1 < 0) (hv0 : vs0[p1.toNatClampNeg]? = some (.int y0)) :
    MetFree l (⟨"hotstate/sort/VarIntsWritePinLaw", "cell", "([BIIIIB)Z"⟩ : MethodName) (head1 (Jvm.Cond.code (⟨"hotstate/sort/VarIntsWritePinLaw", "cell", "([BIIIIB)Z"⟩ : MethodName) method_3_code 8 (some .boolean) :: ws) ({ frames := 0, cells := 0, slots := 0, locals := 0 } : Room)) (fun a U => a = #[(.ref a0'), (.int p1), (.int p2), (.int p3), (.int p4), (.int p5)] ∧ Z.Warmed39 U.vm ∧ U.heap = h0) (fun _ _ _ _ _ => True) (fun _ U o U' => ∃ v L, o = .returned v ∧ (own_P (.int (f2_0 p1 p2 p3 p4 p5 y0)) h0 n0) v U'.heap L ∧ FrameEnd U o U' L ({ frames := 0, cells := 0, slots := 0, locals := 0 } : Room).cells ({ frames := 0, cells := 0, slots := 0, locals := 0 } : Room).slots) := by
  refine MetFree.of_bodySF (plainFor_of_name pn2) hisR ?_
  intro p e s m args below meth c s₁ Bd hml0 hP hK
  obtain ⟨rfl, hZ, hh⟩ := hP
  have hown : s.vm.findClass "hotstate/sort/VarIntsWritePinLaw" = some m.cls := findClass_of_methodNamed Bd.named
  have X0 : Stand p l e ({ frames := 0, cells := 0, slots := 0, locals := 0 } : Room) s m #[(.ref a0'), (.int p1), (.int p2), (.int p3), (.int p4), (.int p5)] below meth c s₁ [] 0 0 := Stand.of_body Bd
  have e0 : s₁.heap = h0 := by rw [← hh, Bd.state]; rfl
  show own_Ends p e below s 0 0 (own_P (.int (f2_0 p1 p2 p3 p4 p5 y0)) h0 n0) s₁ (entryFrame m #[(.ref a0'), (.int p1), (.int p2), (.int p3), (.int p4), (.int p5)] 8)
  refine own_step (fun t k => castTop (ef2 m a0' p1 p2 p3 p4 p5) k) ?_
  exact b2_0 a0' p1 p2 p3 p4 p5 y0 vs0 X0 Bd.exec hZ hw Bd.bytes hml0 hown Bd.returns (BodyLoose.notSynchronized Bd) e0 (Fr.nil n0) A0 hj0 hv0 rfl
abbrev own_u (v : Int32) : Int32 := ((v.toUInt32 >>> ((7 : Int32) &&& 31).toUInt32).toInt32)
theorem own_u7 (v : Int32) (h : 0 ≤ v.toInt) : (own_u v).toInt = v.toInt / 128 := by
  have s := c_iushr v 7 7 (by decide) (by decide)
  have u := Int32.toInt_lt v
  rw [Int.emod_eq_of_lt h (by omega)] at s
  exact s
theorem own_nn {v : Int32} (h : ¬ v < (0 : Int32)) : 0 ≤ v.toInt := by
  rw [Int32.lt_iff_toInt_lt] at h
  have z : (0 : Int32).toInt = 0 := rfl
  omega
theorem own_us (v : Int32) (h : 0 ≤ v.toInt) : (own_u v).toInt = v.toInt / 128 ∧ (own_u (own_u v)).toInt = v.toInt / 16384 ∧ (own_u (own_u (own_u v))).toInt = v.toInt / 2097152 ∧ (own_u (own_u (own_u (own_u v)))).toInt = v.toInt / 268435456 := by
  have a := own_u7 v h
  have b := own_u7 (own_u v) (by omega)
  have c := own_u7 (own_u (own_u v)) (by omega)
  have d := own_u7 (own_u (own_u (own_u v))) (by omega)
  refine ⟨a, ?_, ?_, ?_⟩ <;> omega
theorem own_ltx {a : Int32} {k : Int} (h : a.toInt < 128) : a < (128 : Int32) := by
  rw [Int32.lt_iff_toInt_lt]; exact h
theorem own_gex {a : Int32} (h : 128 ≤ a.toInt) : ¬ a < (128 : Int32) := by
  rw [Int32.lt_iff_toInt_lt]; exact Int.not_lt.mpr h
theorem own_ge1 (v : Int32) (hp : ¬ v < (0 : Int32)) (h : ¬ v < (16384 : Int32)) : ¬ (own_u v < (128 : Int32)) := own_gex (by
  rw [Int32.lt_iff_toInt_lt, show (16384 : Int32).toInt = 16384 from rfl] at h
  have q := own_us v (own_nn hp); omega)
theorem own_ge2 (v : Int32) (hp : ¬ v < (0 : Int32)) (h : ¬ v < (2097152 : Int32)) : ¬ (own_u (own_u v) < (128 : Int32)) := own_gex (by
  rw [Int32.lt_iff_toInt_lt, show (2097152 : Int32).toInt = 2097152 from rfl] at h
  have q := own_us v (own_nn hp); omega)
theorem own_ge3 (v : Int32) (hp : ¬ v < (0 : Int32)) (h : ¬ v < (268435456 : Int32)) : ¬ (own_u (own_u (own_u v)) < (128 : Int32)) := own_gex (by
  rw [Int32.lt_iff_toInt_lt, show (268435456 : Int32).toInt = 268435456 from rfl] at h
  have q := own_us v (own_nn hp); omega)
theorem own_lt1 (v : Int32) (hp : ¬ v < (0 : Int32)) (h : v < (16384 : Int32)) : own_u v < (128 : Int32) := own_ltx (k := 0) (by
  rw [Int32.lt_iff_toInt_lt, show (16384 : Int32).toInt = 16384 from rfl] at h
  have q := own_us v (own_nn hp); omega)
theorem own_lt2 (v : Int32) (hp : ¬ v < (0 : Int32)) (h : v < (2097152 : Int32)) : own_u (own_u v) < (128 : Int32) := own_ltx (k := 0) (by
  rw [Int32.lt_iff_toInt_lt, show (2097152 : Int32).toInt = 2097152 from rfl] at h
  have q := own_us v (own_nn hp); omega)
theorem own_lt3 (v : Int32) (hp : ¬ v < (0 : Int32)) (h : v < (268435456 : Int32)) : own_u (own_u (own_u v)) < (128 : Int32) := own_ltx (k := 0) (by
  rw [Int32.lt_iff_toInt_lt, show (268435456 : Int32).toInt = 268435456 from rfl] at h
  have q := own_us v (own_nn hp); omega)
theorem own_lt4 (v : Int32) (hp : ¬ v < (0 : Int32)) : own_u (own_u (own_u (own_u v))) < (128 : Int32) := own_ltx (k := 0) (by
  have u := Int32.toInt_lt v
  have q := own_us v (own_nn hp); omega)
theorem own_pos (a b : Int32) : ¬ (((a &&& (2147483647 : Int32)).toUInt32 >>> ((b &&& (31 : Int32)) &&& 31).toUInt32).toInt32) < (0 : Int32) := by
  have hm := c_mask a 2147483647 31 (by decide) (by decide)
  have h0 : 0 ≤ (a &&& (2147483647 : Int32)).toInt := by omega
  have hb := c_mask (b &&& (31 : Int32)) 31 5 (by decide) (by decide)
  generalize (a &&& (2147483647 : Int32)) = v at *
  generalize ((b &&& (31 : Int32)) &&& 31) = q at *
  have hq : q = Int32.ofNat (q.toInt.toNat) := by
    apply Int32.toInt_inj.mp
    rw [Int32.toInt_ofNat_of_lt (by omega)]; omega
  have key : ∀ k : Fin 32, (Int32.ofNat k.val).toUInt32.toNat = k.val := by decide +kernel
  have hk : q.toInt.toNat < 32 := by omega
  have hn : q.toUInt32.toNat = q.toInt.toNat := by
    rw [hq]; rw [key ⟨_, hk⟩]; rw [← hq]
  have e := Jvm.Kit.i32_iushr (x := v) (Jvm.Kit.i32_nonneg.mpr h0) hn hk
  rw [Int32.lt_iff_toInt_lt, e]
  have z : (0 : Int32).toInt = 0 := rfl
  have := Int.ediv_nonneg h0 (show (0 : Int) ≤ 2 ^ q.toInt.toNat from Int.le_of_lt (Int.pow_pos (by decide)))
  omega

theorem pn0 : plainName "hotstate/sort/VarIntsWritePinLaw" = true := by first | (simp [plainName, overriddenIn]; done) | decide +kernel
theorem ef0 (m : MethodId) (p0 : Int32) (p1 : Int32) (p2 : Int32) (p3 : Int32) : entryFrame m #[(.int p0), (.int p1), (.int p2), (.int p3)] maxLocals = mkF m 0 #[.val (.int p0), .val (.int p1), .val (.int p2), .val (.int p3), .unset, .unset, .unset, .unset, .unset, .unset, .unset] [] := by first | (simp [entryFrame, mkF, argsToLocals, Value.category, maxLocals]; done) | rfl
def f0_158 (i4 : Int32) (i5 : Int32) (i6 : Int32) (i8 : Int32) (i9 : Int32) (xo7_0 : Int32) (xo7_1 : Int32) (xo7_2 : Int32) (xo7_3 : Int32) (xo7_4 : Int32) (xo7_5 : Int32) (xo7_6 : Int32) (xo7_7 : Int32) (xo7_8 : Int32) (xo7_9 : Int32) : Int32 :=
  if i8 = (i5 + i9) then (if (f2_0 (0 : Int32) i5 i9 i4 i6 xo7_0) = (0 : Int32) then ((0 : Int32)) else (if (f2_0 (1 : Int32) i5 i9 i4 i6 xo7_1) = (0 : Int32) then ((0 : Int32)) else (if (f2_0 (2 : Int32) i5 i9 i4 i6 xo7_2) = (0 : Int32) then ((0 : Int32)) else (if (f2_0 (3 : Int32) i5 i9 i4 i6 xo7_3) = (0 : Int32) then ((0 : Int32)) else (if (f2_0 (4 : Int32) i5 i9 i4 i6 xo7_4) = (0 : Int32) then ((0 : Int32)) else (if (f2_0 (5 : Int32) i5 i9 i4 i6 xo7_5) = (0 : Int32) then ((0 : Int32)) else (if (f2_0 (6 : Int32) i5 i9 i4 i6 xo7_6) = (0 : Int32) then ((0 : Int32)) else (if (f2_0 (7 : Int32) i5 i9 i4 i6 xo7_7) = (0 : Int32) then ((0 : Int32)) else (if (f2_0 (8 : Int32) i5 i9 i4 i6 xo7_8) = (0 : Int32) then ((0 : Int32)) else (if (f2_0 (9 : Int32) i5 i9 i4 i6 xo7_9) = (0 : Int32) then ((0 : Int32)) else ((1 : Int32)))))))))))) else ((0 : Int32))
set_option maxRecDepth 65536 in
set_option maxHeartbeats 4000000 in
theorem b0_158 {p : Program} {l : Launch} {e : Env} {s : State} {m : MethodId} {args : Array Value} {below : List Frame} {meth : Method} {c : Code} {T0 : State} {locs : List Loc} {Z : State} {a0 : Array Value} {h0 : Heap} {n0 : Nat} (i0 : Int32) (i1 : Int32) (i2 : Int32) (i3 : Int32) (i4 : Int32) (i5 : Int32) (i6 : Int32) (o7 : Addr) (i8 : Int32) (i9 : Int32) (xo7_0 : Int32) (xo7_1 : Int32) (xo7_2 : Int32) (xo7_3 : Int32) (xo7_4 : Int32) (xo7_5 : Int32) (xo7_6 : Int32) (xo7_7 : Int32) (xo7_8 : Int32) (xo7_9 : Int32) {r : Int32} (X0 : Stand p l e room_1 s m args below meth c T0 locs 1 10) (hx : p.tables.exec = Jvm.exec) (hZ : Z.Warmed39 s.vm) (hw : ∀ d ∈ tables_1, d.before a0 Z = true) (hby : c.code = code) (hml : c.maxLocals = 11) (hown : s.vm.findClass "hotstate/sort/VarIntsWritePinLaw" = some m.cls) (hret : meth.sig.returnType = some .boolean) (hlk : meth.locks = false) (e0 : T0.heap = h0) (N0 : Fr n0 locs) (Ao7 : own_A Z h0 o7 .byte [(.int xo7_0), (.int xo7_1), (.int xo7_2), (.int xo7_3), (.int xo7_4), (.int xo7_5), (.int xo7_6), (.int xo7_7), (.int xo7_8), (.int xo7_9)]) (go7 : n0 ≤ o7) (Z0 : n0 ≤ h0.size) (hr : r = f0_158 i4 i5 i6 i8 i9 xo7_0 xo7_1 xo7_2 xo7_3 xo7_4 xo7_5 xo7_6 xo7_7 xo7_8 xo7_9) :
    own_Ends p e below s 16 128 (own_R (.int r) n0) T0 (mkF m 158 #[.val (.int i0), .val (.int i1), .val (.int i2), .val (.int i3), .val (.int i4), .val (.int i5), .val (.int i6), .val (.ref o7), .val (.int i8), .val (.int i9), .unset] []) := by
  unfold f0_158 at hr
  refine own_step (T' := T0) (f' := (mkF m 165 #[.val (.int i0), .val (.int i1), .val (.int i2), .val (.int i3), .val (.int i4), .val (.int i5), .val (.int i6), .val (.ref o7), .val (.int i8), .val (.int i9), .unset] [(.int (i5 + i9)), (.int i8)])) (fun t kt => ?_) ?_
  · show Steps p.tables e below (T0.setTop (mkF m 158 #[.val (.int i0), .val (.int i1), .val (.int i2), .val (.int i3), .val (.int i4), .val (.int i5), .val (.int i6), .val (.ref o7), .val (.int i8), .val (.int i9), .unset] [])) _
    refine XS.iload X0.here hx rfl (hb hby at_158) rfl ?_
    show Steps p.tables e below (T0.setTop (mkF m 160 #[.val (.int i0), .val (.int i1), .val (.int i2), .val (.int i3), .val (.int i4), .val (.int i5), .val (.int i6), .val (.ref o7), .val (.int i8), .val (.int i9), .unset] [(.int i8)])) _
    refine XS.iload X0.here hx rfl (hb hby at_160) rfl ?_
    show Steps p.tables e below (T0.setTop (mkF m 162 #[.val (.int i0), .val (.int i1), .val (.int i2), .val (.int i3), .val (.int i4), .val (.int i5), .val (.int i6), .val (.ref o7), .val (.int i8), .val (.int i9), .unset] [(.int i5), (.int i8)])) _
    refine XS.iload X0.here hx rfl (hb hby at_162) rfl ?_
    show Steps p.tables e below (T0.setTop (mkF m 164 #[.val (.int i0), .val (.int i1), .val (.int i2), .val (.int i3), .val (.int i4), .val (.int i5), .val (.int i6), .val (.ref o7), .val (.int i8), .val (.int i9), .unset] [(.int i9), (.int i5), (.int i8)])) _
    refine XS.iadd X0.here hx rfl (hb hby at_164) rfl ?_
    exact kt
  by_cases hc165_15 : i8 = (i5 + i9)
  · replace hr := hr.trans (if_pos hc165_15)
    refine own_step (T' := T0) (f' := (mkF m 168 #[.val (.int i0), .val (.int i1), .val (.int i2), .val (.int i3), .val (.int i4), .val (.int i5), .val (.int i6), .val (.ref o7), .val (.int i8), .val (.int i9), .unset] [])) (fun t kt => ?_) ?_
    · show Steps p.tables e below (T0.setTop (mkF m 165 #[.val (.int i0), .val (.int i1), .val (.int i2), .val (.int i3), .val (.int i4), .val (.int i5), .val (.int i6), .val (.ref o7), .val (.int i8), .val (.int i9), .unset] [(.int (i5 + i9)), (.int i8)])) _
      refine XS.icmpNo X0.here hx rfl (hb hby at_165) rfl (teq hc165_15).2 kt
    refine own_step (T' := T0) (f' := (mkF m 177 #[.val (.int i0), .val (.int i1), .val (.int i2), .val (.int i3), .val (.int i4), .val (.int i5), .val (.int i6), .val (.ref o7), .val (.int i8), .val (.int i9), .val (.int (1 : Int32))] [(.int (1 : Int32))])) (fun t kt => ?_) ?_
    · show Steps p.tables e below (T0.setTop (mkF m 168 #[.val (.int i0), .val (.int i1), .val (.int i2), .val (.int i3), .val (.int i4), .val (.int i5), .val (.int i6), .val (.ref o7), .val (.int i8), .val (.int i9), .unset] [])) _
      refine XS.iconst X0.here hx rfl (hb hby at_168) ?_
      show Steps p.tables e below (T0.setTop (mkF m 169 #[.val (.int i0), .val (.int i1), .val (.int i2), .val (.int i3), .val (.int i4), .val (.int i5), .val (.int i6), .val (.ref o7), .val (.int i8), .val (.int i9), .unset] [(.int (1 : Int32))])) _
      refine XS.goto X0.here hx rfl (pc0 := 169) (pc' := 173) rfl (hb hby at_169) (by decide) (by decide) ?_
      show Steps p.tables e below (T0.setTop (mkF m 173 #[.val (.int i0), .val (.int i1), .val (.int i2), .val (.int i3), .val (.int i4), .val (.int i5), .val (.int i6), .val (.ref o7), .val (.int i8), .val (.int i9), .unset] [(.int (1 : Int32))])) _
      refine XS.istore X0.here hx rfl (hb hby at_173) rfl (l' := #[.val (.int i0), .val (.int i1), .val (.int i2), .val (.int i3), .val (.int i4), .val (.int i5), .val (.int i6), .val (.ref o7), .val (.int i8), .val (.int i9), .val (.int (1 : Int32))]) rfl ?_
      show Steps p.tables e below (T0.setTop (mkF m 175 #[.val (.int i0), .val (.int i1), .val (.int i2), .val (.int i3), .val (.int i4), .val (.int i5), .val (.int i6), .val (.ref o7), .val (.int i8), .val (.int i9), .val (.int (1 : Int32))] [])) _
      refine XS.iload X0.here hx rfl (hb hby at_175) rfl ?_
      exact kt
    refine own_step (T' := T0) (f' := (mkF m 180 #[.val (.int i0), .val (.int i1), .val (.int i2), .val (.int i3), .val (.int i4), .val (.int i5), .val (.int i6), .val (.ref o7), .val (.int i8), .val (.int i9), .val (.int (1 : Int32))] [])) (fun t kt => ?_) ?_
    · show Steps p.tables e below (T0.setTop (mkF m 177 #[.val (.int i0), .val (.int i1), .val (.int i2), .val (.int i3), .val (.int i4), .val (.int i5), .val (.int i6), .val (.ref o7), .val (.int i8), .val (.int i9), .val (.int (1 : Int32))] [(.int (1 : Int32))])) _
      refine XS.ifNo X0.here hx rfl (hb hby at_177) rfl ((if0 _ _).trans (feq (by decide : ¬ ((1 : Int32) = (0 : Int32)))).1) kt
    refine own_step (T' := T0) (f' := (mkF m 191 #[.val (.int i0), .val (.int i1), .val (.int i2), .val (.int i3), .val (.int i4), .val (.int i5), .val (.int i6), .val (.ref o7), .val (.int i8), .val (.int i9), .val (.int (1 : Int32))] [(.int i6), (.int i4), (.int i9), (.int i5), (.int (0 : Int32)), (.ref o7)])) (fun t kt => ?_) ?_
    · show Steps p.tables e below (T0.setTop (mkF m 180 #[.val (.int i0), .val (.int i1), .val (.int i2), .val (.int i3), .val (.int i4), .val (.int i5), .val (.int i6), .val (.ref o7), .val (.int i8), .val (.int i9), .val (.int (1 : Int32))] [])) _
      refine XS.aload X0.here hx rfl (hb hby at_180) rfl rfl ?_
      show Steps p.tables e below (T0.setTop (mkF m 182 #[.val (.int i0), .val (.int i1), .val (.int i2), .val (.int i3), .val (.int i4), .val (.int i5), .val (.int i6), .val (.ref o7), .val (.int i8), .val (.int i9), .val (.int (1 : Int32))] [(.ref o7)])) _
      refine XS.iconst X0.here hx rfl (hb hby at_182) ?_
      show Steps p.tables e below (T0.setTop (mkF m 183 #[.val (.int i0), .val (.int i1), .val (.int i2), .val (.int i3), .val (.int i4), .val (.int i5), .val (.int i6), .val (.ref o7), .val (.int i8), .val (.int i9), .val (.int (1 : Int32))] [(.int (0 : Int32)), (.ref o7)])) _
      refine XS.iload X0.here hx rfl (hb hby at_183) rfl ?_
      show Steps p.tables e below (T0.setTop (mkF m 185 #[.val (.int i0), .val (.int i1), .val (.int i2), .val (.int i3), .val (.int i4), .val (.int i5), .val (.int i6), .val (.ref o7), .val (.int i8), .val (.int i9), .val (.int (1 : Int32))] [(.int i5), (.int (0 : Int32)), (.ref o7)])) _
      refine XS.iload X0.here hx rfl (hb hby at_185) rfl ?_
      show Steps p.tables e below (T0.setTop (mkF m 187 #[.val (.int i0), .val (.int i1), .val (.int i2), .val (.int i3), .val (.int i4), .val (.int i5), .val (.int i6), .val (.ref o7), .val (.int i8), .val (.int i9), .val (.int (1 : Int32))] [(.int i9), (.int i5), (.int (0 : Int32)), (.ref o7)])) _
      refine XS.iload X0.here hx rfl (hb hby at_187) rfl ?_
      show Steps p.tables e below (T0.setTop (mkF m 189 #[.val (.int i0), .val (.int i1), .val (.int i2), .val (.int i3), .val (.int i4), .val (.int i5), .val (.int i6), .val (.ref o7), .val (.int i8), .val (.int i9), .val (.int (1 : Int32))] [(.int i4), (.int i9), (.int i5), (.int (0 : Int32)), (.ref o7)])) _
      refine XS.iload X0.here hx rfl (hb hby at_189) rfl ?_
      exact kt
    obtain ⟨_, _, ⟨T17, L17, k17, n17⟩, -, X17, ⟨Lc17, hQ17, l17, y17, z17⟩, st17⟩ := Jvm.LawKit.callS X0 hx (y := (⟨"hotstate/sort/VarIntsWritePinLaw", "cell", "([BIIIIB)Z"⟩ : MethodName)) hown (mvT hZ (hw _ (List.mem_of_getElem? (i := 6) rfl))) (mvT hZ (hw _ (List.mem_of_getElem? (i := 7) rfl))) (mvT hZ (hw _ (List.mem_of_getElem? (i := 8) rfl))) (mvT hZ (hw _ (List.mem_of_getElem? (i := 9) rfl))) (by decide) (backOf (W := 0) (rm2 l Z a0 hw [] o7 (0 : Int32) i5 i9 i4 i6 xo7_0 [(.int xo7_0), (.int xo7_1), (.int xo7_2), (.int xo7_3), (.int xo7_4), (.int xo7_5), (.int xo7_6), (.int xo7_7), (.int xo7_8), (.int xo7_9)] h0 n0 Ao7 (by decide) rfl) hZ (hw _ (List.mem_of_getElem? (i := 9) rfl)) (hw _ (List.mem_of_getElem? (i := 8) rfl)) (by decide) (by decide)) (g := (mkF m 191 #[.val (.int i0), .val (.int i1), .val (.int i2), .val (.int i3), .val (.int i4), .val (.int i5), .val (.int i6), .val (.ref o7), .val (.int i8), .val (.int i9), .val (.int (1 : Int32))] [(.int i6), (.int i4), (.int i9), (.int i5), (.int (0 : Int32)), (.ref o7)])) rfl (by rw [hml]; rfl) (argsL := [(.ref o7), (.int (0 : Int32)), (.int i5), (.int i9), (.int i4), (.int i6)]) (rest := []) (lenOf pd2 rfl) rfl (by show 2 * 0 + _ ≤ _; exact Nat.le_of_eq rfl) (hb hby at_191) (fun _ _ => ⟨rfl, e0, (by decide : 1 + 0 ≤ _), (by decide : 10 + 0 ≤ _)⟩)
    dsimp only [Pt.U, Pt.locs, Pt.cells, Pt.slots] at X17 l17 y17 z17 st17 hQ17
    subst l17 y17 z17
    obtain ⟨rfl, Nq17, e17⟩ := hQ17
    have N17 := Fr.app N0 Nq17
    refine own_step (T' := T17) (f' := (mkF m 194 #[.val (.int i0), .val (.int i1), .val (.int i2), .val (.int i3), .val (.int i4), .val (.int i5), .val (.int i6), .val (.ref o7), .val (.int i8), .val (.int i9), .val (.int (1 : Int32))] [(.int (f2_0 (0 : Int32) i5 i9 i4 i6 xo7_0))])) st17 ?_
    by_cases hc194_18 : (f2_0 (0 : Int32) i5 i9 i4 i6 xo7_0) = (0 : Int32)
    · replace hr := hr.trans (if_pos hc194_18)
      refine own_step (T' := T17) (f' := (mkF m 201 #[.val (.int i0), .val (.int i1), .val (.int i2), .val (.int i3), .val (.int i4), .val (.int i5), .val (.int i6), .val (.ref o7), .val (.int i8), .val (.int i9), .val (.int (1 : Int32))] [])) (fun t kt => ?_) ?_
      · show Steps p.tables e below (T17.setTop (mkF m 194 #[.val (.int i0), .val (.int i1), .val (.int i2), .val (.int i3), .val (.int i4), .val (.int i5), .val (.int i6), .val (.ref o7), .val (.int i8), .val (.int i9), .val (.int (1 : Int32))] [(.int (f2_0 (0 : Int32) i5 i9 i4 i6 xo7_0))])) _
        refine XS.ifYes X17.here hx rfl (pc0 := 194) (pc' := 201) rfl (hb hby at_194) rfl ((if0 _ _).trans (teq hc194_18).1) (by decide) (by decide) kt
      refine own_step (T' := T17) (f' := (mkF m 206 #[.val (.int i0), .val (.int i1), .val (.int i2), .val (.int i3), .val (.int i4), .val (.int i5), .val (.int i6), .val (.ref o7), .val (.int i8), .val (.int i9), .val (.int (0 : Int32))] [(.int (0 : Int32))])) (fun t kt => ?_) ?_
      · show Steps p.tables e below (T17.setTop (mkF m 201 #[.val (.int i0), .val (.int i1), .val (.int i2), .val (.int i3), .val (.int i4), .val (.int i5), .val (.int i6), .val (.ref o7), .val (.int i8), .val (.int i9), .val (.int (1 : Int32))] [])) _
        refine XS.iconst X17.here hx rfl (hb hby at_201) ?_
        show Steps p.tables e below (T17.setTop (mkF m 202 #[.val (.int i0), .val (.int i1), .val (.int i2), .val (.int i3), .val (.int i4), .val (.int i5), .val (.int i6), .val (.ref o7), .val (.int i8), .val (.int i9), .val (.int (1 : Int32))] [(.int (0 : Int32))])) _
        refine XS.istore X17.here hx rfl (hb hby at_202) rfl (l' := #[.val (.int i0), .val (.int i1), .val (.int i2), .val (.int i3), .val (.int i4), .val (.int i5), .val (.int i6), .val (.ref o7), .val (.int i8), .val (.int i9), .val (.int (0 : Int32))]) rfl ?_
        show Steps p.tables e below (T17.setTop (mkF m 204 #[.val (.int i0), .val (.int i1), .val (.int i2), .val (.int i3), .val (.int i4), .val (.int i5), .val (.int i6), .val (.ref o7), .val (.int i8), .val (.int i9), .val (.int (0 : Int32))] [])) _
        refine XS.iload X17.here hx rfl (hb hby at_204) rfl ?_
        exact kt
      refine own_step (T' := T17) (f' := (mkF m 230 #[.val (.int i0), .val (.int i1), .val (.int i2), .val (.int i3), .val (.int i4), .val (.int i5), .val (.int i6), .val (.ref o7), .val (.int i8), .val (.int i9), .val (.int (0 : Int32))] [])) (fun t kt => ?_) ?_
      · show Steps p.tables e below (T17.setTop (mkF m 206 #[.val (.int i0), .val (.int i1), .val (.int i2), .val (.int i3), .val (.int i4), .val (.int i5), .val (.int i6), .val (.ref o7), .val (.int i8), .val (.int i9), .val (.int (0 : Int32))] [(.int (0 : Int32))])) _
        refine XS.ifYes X17.here hx rfl (pc0 := 206) (pc' := 230) rfl (hb hby at_206) rfl ((if0 _ _).trans (teq (by decide : ((0 : Int32) = (0 : Int32)))).1) (by decide) (by decide) kt
      refine own_step (T' := T17) (f' := (mkF m 235 #[.val (.int i0), .val (.int i1), .val (.int i2), .val (.int i3), .val (.int i4), .val (.int i5), .val (.int i6), .val (.ref o7), .val (.int i8), .val (.int i9), .val (.int (0 : Int32))] [(.int (0 : Int32))])) (fun t kt => ?_) ?_
      · show Steps p.tables e below (T17.setTop (mkF m 230 #[.val (.int i0), .val (.int i1), .val (.int i2), .val (.int i3), .val (.int i4), .val (.int i5), .val (.int i6), .val (.ref o7), .val (.int i8), .val (.int i9), .val (.int (0 : Int32))] [])) _
        refine XS.iconst X17.here hx rfl (hb hby at_230) ?_
        show Steps p.tables e below (T17.setTop (mkF m 231 #[.val (.int i0), .val (.int i1), .val (.int i2), .val (.int i3), .val (.int i4), .val (.int i5), .val (.int i6), .val (.ref o7), .val (.int i8), .val (.int i9), .val (.int (0 : Int32))] [(.int (0 : Int32))])) _
        refine XS.istore X17.here hx rfl (hb hby at_231) rfl (l' := #[.val (.int i0), .val (.int i1), .val (.int i2), .val (.int i3), .val (.int i4), .val (.int i5), .val (.int i6), .val (.ref o7), .val (.int i8), .val (.int i9), .val (.int (0 : Int32))]) rfl ?_
        show Steps p.tables e below (T17.setTop (mkF m 233 #[.val (.int i0), .val (.int i1), .val (.int i2), .val (.int i3), .val (.int i4), .val (.int i5), .val (.int i6), .val (.ref o7), .val (.int i8), .val (.int i9), .val (.int (0 : Int32))] [])) _
        refine XS.iload X17.here hx rfl (hb hby at_233) rfl ?_
        exact kt
      refine own_step (T' := T17) (f' := (mkF m 259 #[.val (.int i0), .val (.int i1), .val (.int i2), .val (.int i3), .val (.int i4), .val (.int i5), .val (.int i6), .val (.ref o7), .val (.int i8), .val (.int i9), .val (.int (0 : Int32))] [])) (fun t kt => ?_) ?_
      · show Steps p.tables e below (T17.setTop (mkF m 235 #[.val (.int i0), .val (.int i1), .val (.int i2), .val (.int i3), .val (.int i4), .val (.int i5), .val (.int i6), .val (.ref o7), .val (.int i8), .val (.int i9), .val (.int (0 : Int32))] [(.int (0 : Int32))])) _
        refine XS.ifYes X17.here hx rfl (pc0 := 235) (pc' := 259) rfl (hb hby at_235) rfl ((if0 _ _).trans (teq (by decide : ((0 : Int32) = (0 : Int32)))).1) (by decide) (by decide) kt
      refine own_step (T' := T17) (f' := (mkF m 264 #[.val (.int i0), .val (.int i1), .val (.int i2), .val (.int i3), .val (.int i4), .val (.int i5), .val (.int i6), .val (.ref o7), .val (.int i8), .val (.int i9), .val (.int (0 : Int32))] [(.int (0 : Int32))])) (fun t kt => ?_) ?_
      · show Steps p.tables e below (T17.setTop (mkF m 259 #[.val (.int i0), .val (.int i1), .val (.int i2), .val (.int i3), .val (.int i4), .val (.int i5), .val (.int i6), .val (.ref o7), .val (.int i8), .val (.int i9), .val (.int (0 : Int32))] [])) _
        refine XS.iconst X17.here hx rfl (hb hby at_259) ?_
        show Steps p.tables e below (T17.setTop (mkF m 260 #[.val (.int i0), .val (.int i1), .val (.int i2), .val (.int i3), .val (.int i4), .val (.int i5), .val (.int i6), .val (.ref o7), .val (.int i8), .val (.int i9), .val (.int (0 : Int32))] [(.int (0 : Int32))])) _
        refine XS.istore X17.here hx rfl (hb hby at_260) rfl (l' := #[.val (.int i0), .val (.int i1), .val (.int i2), .val (.int i3), .val (.int i4), .val (.int i5), .val (.int i6), .val (.ref o7), .val (.int i8), .val (.int i9), .val (.int (0 : Int32))]) rfl ?_
        show Steps p.tables e below (T17.setTop (mkF m 262 #[.val (.int i0), .val (.int i1), .val (.int i2), .val (.int i3), .val (.int i4), .val (.int i5), .val (.int i6), .val (.ref o7), .val (.int i8), .val (.int i9), .val (.int (0 : Int32))] [])) _
        refine XS.iload X17.here hx rfl (hb hby at_262) rfl ?_
        exact kt
      refine own_step (T' := T17) (f' := (mkF m 288 #[.val (.int i0), .val (.int i1), .val (.int i2), .val (.int i3), .val (.int i4), .val (.int i5), .val (.int i6), .val (.ref o7), .val (.int i8), .val (.int i9), .val (.int (0 : Int32))] [])) (fun t kt => ?_) ?_
      · show Steps p.tables e below (T17.setTop (mkF m 264 #[.val (.int i0), .val (.int i1), .val (.int i2), .val (.int i3), .val (.int i4), .val (.int i5), .val (.int i6), .val (.ref o7), .val (.int i8), .val (.int i9), .val (.int (0 : Int32))] [(.int (0 : Int32))])) _
        refine XS.ifYes X17.here hx rfl (pc0 := 264) (pc' := 288) rfl (hb hby at_264) rfl ((if0 _ _).trans (teq (by decide : ((0 : Int32) = (0 : Int32)))).1) (by decide) (by decide) kt
      refine own_step (T' := T17) (f' := (mkF m 293 #[.val (.int i0), .val (.int i1), .val (.int i2), .val (.int i3), .val (.int i4), .val (.int i5), .val (.int i6), .val (.ref o7), .val (.int i8), .val (.int i9), .val (.int (0 : Int32))] [(.int (0 : Int32))])) (fun t kt => ?_) ?_
      · show Steps p.tables e below (T17.setTop (mkF m 288 #[.val (.int i0), .val (.int i1), .val (.int i2), .val (.int i3), .val (.int i4), .val (.int i5), .val (.int i6), .val (.ref o7), .val (.int i8), .val (.int i9), .val (.int (0 : Int32))] [])) _
        refine XS.iconst X17.here hx rfl (hb hby at_288) ?_
        show Steps p.tables e below (T17.setTop (mkF m 289 #[.val (.int i0), .val (.int i1), .val (.int i2), .val (.int i3), .val (.int i4), .val (.int i5), .val (.int i6), .val (.ref o7), .val (.int i8), .val (.int i9), .val (.int (0 : Int32))] [(.int (0 : Int32))])) _
        refine XS.istore X17.here hx rfl (hb hby at_289) rfl (l' := #[.val (.int i0), .val (.int i1), .val (.int i2), .val (.int i3), .val (.int i4), .val (.int i5), .val (.int i6), .val (.ref o7), .val (.int i8), .val (.int i9), .val (.int (0 : Int32))]) rfl ?_
        show Steps p.tables e below (T17.setTop (mkF m 291 #[.val (.int i0), .val (.int i1), .val (.int i2), .val (.int i3), .val (.int i4), .val (.int i5), .val (.int i6), .val (.ref o7), .val (.int i8), .val (.int i9), .val (.int (0 : Int32))] [])) _
        refine XS.iload X17.here hx rfl (hb hby at_291) rfl ?_
        exact kt
      refine own_step (T' := T17) (f' := (mkF m 317 #[.val (.int i0), .val (.int i1), .val (.int i2), .val (.int i3), .val (.int i4), .val (.int i5), .val (.int i6), .val (.ref o7), .val (.int i8), .val (.int i9), .val (.int (0 : Int32))] [])) (fun t kt => ?_) ?_
      · show Steps p.tables e below (T17.setTop (mkF m 293 #[.val (.int i0), .val (.int i1), .val (.int i2), .val (.int i3), .val (.int i4), .val (.int i5), .val (.int i6), .val (.ref o7), .val (.int i8), .val (.int i9), .val (.int (0 : Int32))] [(.int (0 : Int32))])) _
        refine XS.ifYes X17.here hx rfl (pc0 := 293) (pc' := 317) rfl (hb hby at_293) rfl ((if0 _ _).trans (teq (by decide : ((0 : Int32) = (0 : Int32)))).1) (by decide) (by decide) kt
      refine own_step (T' := T17) (f' := (mkF m 322 #[.val (.int i0), .val (.int i1), .val (.int i2), .val (.int i3), .val (.int i4), .val (.int i5), .val (.int i6), .val (.ref o7), .val (.int i8), .val (.int i9), .val (.int (0 : Int32))] [(.int (0 : Int32))])) (fun t kt => ?_) ?_
      · show Steps p.tables e below (T17.setTop (mkF m 317 #[.val (.int i0), .val (.int i1), .val (.int i2), .val (.int i3), .val (.int i4), .val (.int i5), .val (.int i6), .val (.ref o7), .val (.int i8), .val (.int i9), .val (.int (0 : Int32))] [])) _
        refine XS.iconst X17.here hx rfl (hb hby at_317) ?_
        show Steps p.tables e below (T17.setTop (mkF m 318 #[.val (.int i0), .val (.int i1), .val (.int i2), .val (.int i3), .val (.int i4), .val (.int i5), .val (.int i6), .val (.ref o7), .val (.int i8), .val (.int i9), .val (.int (0 : Int32))] [(.int (0 : Int32))])) _
        refine XS.istore X17.here hx rfl (hb hby at_318) rfl (l' := #[.val (.int i0), .val (.int i1), .val (.int i2), .val (.int i3), .val (.int i4), .val (.int i5), .val (.int i6), .val (.ref o7), .val (.int i8), .val (.int i9), .val (.int (0 : Int32))]) rfl ?_
        show Steps p.tables e below (T17.setTop (mkF m 320 #[.val (.int i0), .val (.int i1), .val (.int i2), .val (.int i3), .val (.int i4), .val (.int i5), .val (.int i6), .val (.ref o7), .val (.int i8), .val (.int i9), .val (.int (0 : Int32))] [])) _
        refine XS.iload X17.here hx rfl (hb hby at_320) rfl ?_
        exact kt
      refine own_step (T' := T17) (f' := (mkF m 346 #[.val (.int i0), .val (.int i1), .val (.int i2), .val (.int i3), .val (.int i4), .val (.int i5), .val (.int i6), .val (.ref o7), .val (.int i8), .val (.int i9), .val (.int (0 : Int32))] [])) (fun t kt => ?_) ?_
      · show Steps p.tables e below (T17.setTop (mkF m 322 #[.val (.int i0), .val (.int i1), .val (.int i2), .val (.int i3), .val (.int i4), .val (.int i5), .val (.int i6), .val (.ref o7), .val (.int i8), .val (.int i9), .val (.int (0 : Int32))] [(.int (0 : Int32))])) _
        refine XS.ifYes X17.here hx rfl (pc0 := 322) (pc' := 346) rfl (hb hby at_322) rfl ((if0 _ _).trans (teq (by decide : ((0 : Int32) = (0 : Int32)))).1) (by decide) (by decide) kt
      refine own_step (T' := T17) (f' := (mkF m 351 #[.val (.int i0), .val (.int i1), .val (.int i2), .val (.int i3), .val (.int i4), .val (.int i5), .val (.int i6), .val (.ref o7), .val (.int i8), .val (.int i9), .val (.int (0 : Int32))] [(.int (0 : Int32))])) (fun t kt => ?_) ?_
      · show Steps p.tables e below (T17.setTop (mkF m 346 #[.val (.int i0), .val (.int i1), .val (.int i2), .val (.int i3), .val (.int i4), .val (.int i5), .val (.int i6), .val (.ref o7), .val (.int i8), .val (.int i9), .val (.int (0 : Int32))] [])) _
        refine XS.iconst X17.here hx rfl (hb hby at_346) ?_
        show Steps p.tables e below (T17.setTop (mkF m 347 #[.val (.int i0), .val (.int i1), .val (.int i2), .val (.int i3), .val (.int i4), .val (.int i5), .val (.int i6), .val (.ref o7), .val (.int i8), .val (.int i9), .val (.int (0 : Int32))] [(.int (0 : Int32))])) _
        refine XS.istore X17.here hx rfl (hb hby at_347) rfl (l' := #[.val (.int i0), .val (.int i1), .val (.int i2), .val (.int i3), .val (.int i4), .val (.int i5), .val (.int i6), .val (.ref o7), .val (.int i8), .val (.int i9), .val (.int (0 : Int32))]) rfl ?_
        show Steps p.tables e below (T17.setTop (mkF m 349 #[.val (.int i0), .val (.int i1), .val (.int i2), .val (.int i3), .val (.int i4), .val (.int i5), .val (.int i6), .val (.ref o7), .val (.int i8), .val (.int i9), .val (.int (0 : Int32))] [])) _
        refine XS.iload X17.here hx rfl (hb hby at_349) rfl ?_
        exact kt
      refine own_step (T' := T17) (f' := (mkF m 376 #[.val (.int i0), .val (.int i1), .val (.int i2), .val (.int i3), .val (.int i4), .val (.int i5), .val (.int i6), .val (.ref o7), .val (.int i8), .val (.int i9), .val (.int (0 : Int32))] [])) (fun t kt => ?_) ?_
      · show Steps p.tables e below (T17.setTop (mkF m 351 #[.val (.int i0), .val (.int i1), .val (.int i2), .val (.int i3), .val (.int i4), .val (.int i5), .val (.int i6), .val (.ref o7), .val (.int i8), .val (.int i9), .val (.int (0 : Int32))] [(.int (0 : Int32))])) _
        refine XS.ifYes X17.here hx rfl (pc0 := 351) (pc' := 376) rfl (hb hby at_351) rfl ((if0 _ _).trans (teq (by decide : ((0 : Int32) = (0 : Int32)))).1) (by decide) (by decide) kt
      refine own_step (T' := T17) (f' := (mkF m 381 #[.val (.int i0), .val (.int i1), .val (.int i2), .val (.int i3), .val (.int i4), .val (.int i5), .val (.int i6), .val (.ref o7), .val (.int i8), .val (.int i9), .val (.int (0 : Int32))] [(.int (0 : Int32))])) (fun t kt => ?_) ?_
      · show Steps p.tables e below (T17.setTop (mkF m 376 #[.val (.int i0), .val (.int i1), .val (.int i2), .val (.int i3), .val (.int i4), .val (.int i5), .val (.int i6), .val (.ref o7), .val (.int i8), .val (.int i9), .val (.int (0 : Int32))] [])) _
        refine XS.iconst X17.here hx rfl (hb hby at_376) ?_
        show Steps p.tables e below (T17.setTop (mkF m 377 #[.val (.int i0), .val (.int i1), .val (.int i2), .val (.int i3), .val (.int i4), .val (.int i5), .val (.int i6), .val (.ref o7), .val (.int i8), .val (.int i9), .val (.int (0 : Int32))] [(.int (0 : Int32))])) _
        refine XS.istore X17.here hx rfl (hb hby at_377) rfl (l' := #[.val (.int i0), .val (.int i1), .val (.int i2), .val (.int i3), .val (.int i4), .val (.int i5), .val (.int i6), .val (.ref o7), .val (.int i8), .val (.int i9), .val (.int (0 : Int32))]) rfl ?_
        show Steps p.tables e below (T17.setTop (mkF m 379 #[.val (.int i0), .val (.int i1), .val (.int i2), .val (.int i3), .val (.int i4), .val (.int i5), .val (.int i6), .val (.ref o7), .val (.int i8), .val (.int i9), .val (.int (0 : Int32))] [])) _
        refine XS.iload X17.here hx rfl (hb hby at_379) rfl ?_
        exact kt
      refine own_step (T' := T17) (f' := (mkF m 406 #[.val (.int i0), .val (.int i1), .val (.int i2), .val (.int i3), .val (.int i4), .val (.int i5), .val (.int i6), .val (.ref o7), .val (.int i8), .val (.int i9), .val (.int (0 : Int32))] [])) (fun t kt => ?_) ?_
      · show Steps p.tables e below (T17.setTop (mkF m 381 #[.val (.int i0), .val (.int i1), .val (.int i2), .val (.int i3), .val (.int i4), .val (.int i5), .val (.int i6), .val (.ref o7), .val (.int i8), .val (.int i9), .val (.int (0 : Int32))] [(.int (0 : Int32))])) _
        refine XS.ifYes X17.here hx rfl (pc0 := 381) (pc' := 406) rfl (hb hby at_381) rfl ((if0 _ _).trans (teq (by decide : ((0 : Int32) = (0 : Int32)))).1) (by decide) (by decide) kt
      refine own_step (T' := T17) (f' := (mkF m 411 #[.val (.int i0), .val (.int i1), .val (.int i2), .val (.int i3), .val (.int i4), .val (.int i5), .val (.int i6), .val (.ref o7), .val (.int i8), .val (.int i9), .val (.int (0 : Int32))] [(.int (0 : Int32))])) (fun t kt => ?_) ?_
      · show Steps p.tables e below (T17.setTop (mkF m 406 #[.val (.int i0), .val (.int i1), .val (.int i2), .val (.int i3), .val (.int i4), .val (.int i5), .val (.int i6), .val (.ref o7), .val (.int i8), .val (.int i9), .val (.int (0 : Int32))] [])) _
        refine XS.iconst X17.here hx rfl (hb hby at_406) ?_
        show Steps p.tables e below (T17.setTop (mkF m 407 #[.val (.int i0), .val (.int i1), .val (.int i2), .val (.int i3), .val (.int i4), .val (.int i5), .val (.int i6), .val (.ref o7), .val (.int i8), .val (.int i9), .val (.int (0 : Int32))] [(.int (0 : Int32))])) _
        refine XS.istore X17.here hx rfl (hb hby at_407) rfl (l' := #[.val (.int i0), .val (.int i1), .val (.int i2), .val (.int i3), .val (.int i4), .val (.int i5), .val (.int i6), .val (.ref o7), .val (.int i8), .val (.int i9), .val (.int (0 : Int32))]) rfl ?_
        show Steps p.tables e below (T17.setTop (mkF m 409 #[.val (.int i0), .val (.int i1), .val (.int i2), .val (.int i3), .val (.int i4), .val (.int i5), .val (.int i6), .val (.ref o7), .val (.int i8), .val (.int i9), .val (.int (0 : Int32))] [])) _
        refine XS.iload X17.here hx rfl (hb hby at_409) rfl ?_
        exact kt
      refine own_step (T' := T17) (f' := (mkF m 436 #[.val (.int i0), .val (.int i1), .val (.int i2), .val (.int i3), .val (.int i4), .val (.int i5), .val (.int i6), .val (.ref o7), .val (.int i8), .val (.int i9), .val (.int (0 : Int32))] [])) (fun t kt => ?_) ?_
      · show Steps p.tables e below (T17.setTop (mkF m 411 #[.val (.int i0), .val (.int i1), .val (.int i2), .val (.int i3), .val (.int i4), .val (.int i5), .val (.int i6), .val (.ref o7), .val (.int i8), .val (.int i9), .val (.int (0 : Int32))] [(.int (0 : Int32))])) _
        refine XS.ifYes X17.here hx rfl (pc0 := 411) (pc' := 436) rfl (hb hby at_411) rfl ((if0 _ _).trans (teq (by decide : ((0 : Int32) = (0 : Int32)))).1) (by decide) (by decide) kt
      refine own_step (T' := T17) (f' := (mkF m 441 #[.val (.int i0), .val (.int i1), .val (.int i2), .val (.int i3), .val (.int i4), .val (.int i5), .val (.int i6), .val (.ref o7), .val (.int i8), .val (.int i9), .val (.int (0 : Int32))] [(.int (0 : Int32))])) (fun t kt => ?_) ?_
      · show Steps p.tables e below (T17.setTop (mkF m 436 #[.val (.int i0), .val (.int i1), .val (.int i2), .val (.int i3), .val (.int i4), .val (.int i5), .val (.int i6), .val (.ref o7), .val (.int i8), .val (.int i9), .val (.int (0 : Int32))] [])) _
        refine XS.iconst X17.here hx rfl (hb hby at_436) ?_
        show Steps p.tables e below (T17.setTop (mkF m 437 #[.val (.int i0), .val (.int i1), .val (.int i2), .val (.int i3), .val (.int i4), .val (.int i5), .val (.int i6), .val (.ref o7), .val (.int i8), .val (.int i9), .val (.int (0 : Int32))] [(.int (0 : Int32))])) _
        refine XS.istore X17.here hx rfl (hb hby at_437) rfl (l' := #[.val (.int i0), .val (.int i1), .val (.int i2), .val (.int i3), .val (.int i4), .val (.int i5), .val (.int i6), .val (.ref o7), .val (.int i8), .val (.int i9), .val (.int (0 : Int32))]) rfl ?_
        show Steps p.tables e below (T17.setTop (mkF m 439 #[.val (.int i0), .val (.int i1), .val (.int i2), .val (.int i3), .val (.int i4), .val (.int i5), .val (.int i6), .val (.ref o7), .val (.int i8), .val (.int i9), .val (.int (0 : Int32))] [])) _
        refine XS.iload X17.here hx rfl (hb hby at_439) rfl ?_
        exact kt
      refine own_step (T' := T17) (f' := (mkF m 466 #[.val (.int i0), .val (.int i1), .val (.int i2), .val (.int i3), .val (.int i4), .val (.int i5), .val (.int i6), .val (.ref o7), .val (.int i8), .val (.int i9), .val (.int (0 : Int32))] [])) (fun t kt => ?_) ?_
      · show Steps p.tables e below (T17.setTop (mkF m 441 #[.val (.int i0), .val (.int i1), .val (.int i2), .val (.int i3), .val (.int i4), .val (.int i5), .val (.int i6), .val (.ref o7), .val (.int i8), .val (.int i9), .val (.int (0 : Int32))] [(.int (0 : Int32))])) _
        refine XS.ifYes X17.here hx rfl (pc0 := 441) (pc' := 466) rfl (hb hby at_441) rfl ((if0 _ _).trans (teq (by decide : ((0 : Int32) = (0 : Int32)))).1) (by decide) (by decide) kt
      refine own_step (T' := T17) (f' := (mkF m 471 #[.val (.int i0), .val (.int i1), .val (.int i2), .val (.int i3), .val (.int i4), .val (.int i5), .val (.int i6), .val (.ref o7), .val (.int i8), .val (.int i9), .val (.int (0 : Int32))] [(.int (0 : Int32))])) (fun t kt => ?_) ?_
      · show Steps p.tables e below (T17.setTop (mkF m 466 #[.val (.int i0), .val (.int i1), .val (.int i2), .val (.int i3), .val (.int i4), .val (.int i5), .val (.int i6), .val (.ref o7), .val (.int i8), .val (.int i9), .val (.int (0 : Int32))] [])) _
        refine XS.iconst X17.here hx rfl (hb hby at_466) ?_
        show Steps p.tables e below (T17.setTop (mkF m 467 #[.val (.int i0), .val (.int i1), .val (.int i2), .val (.int i3), .val (.int i4), .val (.int i5), .val (.int i6), .val (.ref o7), .val (.int i8), .val (.int i9), .val (.int (0 : Int32))] [(.int (0 : Int32))])) _
        refine XS.istore X17.here hx rfl (hb hby at_467) rfl (l' := #[.val (.int i0), .val (.int i1), .val (.int i2), .val (.int i3), .val (.int i4), .val (.int i5), .val (.int i6), .val (.ref o7), .val (.int i8), .val (.int i9), .val (.int (0 : Int32))]) rfl ?_
        show Steps p.tables e below (T17.setTop (mkF m 469 #[.val (.int i0), .val (.int i1), .val (.int i2), .val (.int i3), .val (.int i4), .val (.int i5), .val (.int i6), .val (.ref o7), .val (.int i8), .val (.int i9), .val (.int (0 : Int32))] [])) _
        refine XS.iload X17.here hx rfl (hb hby at_469) rfl ?_
        exact kt
      exact own_retZ X17 hx hret (by simp) hlk (hb hby at_471) (by decide) (by decide) ⟨congrArg (fun z => some (Value.int z)) hr.symm, N17⟩
    · replace hr := hr.trans (if_neg hc194_18)
      refine own_step (T' := T17) (f' := (mkF m 197 #[.val (.int i0), .val (.int i1), .val (.int i2), .val (.int i3), .val (.int i4), .val (.int i5), .val (.int i6), .val (.ref o7), .val (.int i8), .val (.int i9), .val (.int (1 : Int32))] [])) (fun t kt => ?_) ?_
      · show Steps p.tables e below (T17.setTop (mkF m 194 #[.val (.int i0), .val (.int i1), .val (.int i2), .val (.int i3), .val (.int i4), .val (.int i5), .val (.int i6), .val (.ref o7), .val (.int i8), .val (.int i9), .val (.int (1 : Int32))] [(.int (f2_0 (0 : Int32) i5 i9 i4 i6 xo7_0))])) _
        refine XS.ifNo X17.here hx rfl (hb hby at_194) rfl ((if0 _ _).trans (feq hc194_18).1) kt
      refine own_step (T' := T17) (f' := (mkF m 206 #[.val (.int i0), .val (.int i1), .val (.int i2), .val (.int i3), .val (.int i4), .val (.int i5), .val (.int i6), .val (.ref o7), .val (.int i8), .val (.int i9), .val (.int (1 : Int32))] [(.int (1 : Int32))])) (fun t kt => ?_) ?_
      · show Steps p.tables e below (T17.setTop (mkF m 197 #[.val (.int i0), .val (.int i1), .val (.int i2), .val (.int i3), .val (.int i4), .val (.int i5), .val (.int i6), .val (.ref o7), .val (.int i8), .val (.int i9), .val (.int (1 : Int32))] [])) _
        refine XS.iconst X17.here hx rfl (hb hby at_197) ?_
        show Steps p.tables e below (T17.setTop (mkF m 198 #[.val (.int i0), .val (.int i1), .val (.int i2), .val (.int i3), .val (.int i4), .val (.int i5), .val (.int i6), .val (.ref o7), .val (.int i8), .val (.int i9), .val (.int (1 : Int32))] [(.int (1 : Int32))])) _
        refine XS.goto X17.here hx rfl (pc0 := 198) (pc' := 202) rfl (hb hby at_198) (by decide) (by decide) ?_
        show Steps p.tables e below (T17.setTop (mkF m 202 #[.val (.int i0), .val (.int i1), .val (.int i2), .val (.int i3), .val (.int i4), .val (.int i5), .val (.int i6), .val (.ref o7), .val (.int i8), .val (.int i9), .val (.int (1 : Int32))] [(.int (1 : Int32))])) _
        refine XS.istore X17.here hx rfl (hb hby at_202) rfl (l' := #[.val (.int i0), .val (.int i1), .val (.int i2), .val (.int i3), .val (.int i4), .val (.int i5), .val (.int i6), .val (.ref o7), .val (.int i8), .val (.int i9), .val (.int (1 : Int32))]) rfl ?_
        show Steps p.tables e below (T17.setTop (mkF m 204 #[.val (.int i0), .val (.int i1), .val (.int i2), .val (.int i3), .val (.int i4), .val (.int i5), .val (.int i6), .val (.ref o7), .val (.int i8), .val (.int i9), .val (.int (1 : Int32))] [])) _
        refine XS.iload X17.here hx rfl (hb hby at_204) rfl ?_
        exact kt
      refine own_step (T' := T17) (f' := (mkF m 209 #[.val (.int i0), .val (.int i1), .val (.int i2), .val (.int i3), .val (.int i4), .val (.int i5), .val (.int i6), .val (.ref o7), .val (.int i8), .val (.int i9), .val (.int (1 : Int32))] [])) (fun t kt => ?_) ?_
      · show Steps p.tables e below (T17.setTop (mkF m 206 #[.val (.int i0), .val (.int i1), .val (.int i2), .val (.int i3), .val (.int i4), .val (.int i5), .val (.int i6), .val (.ref o7), .val (.int i8), .val (.int i9), .val (.int (1 : Int32))] [(.int (1 : Int32))])) _
        refine XS.ifNo X17.here hx rfl (hb hby at_206) rfl ((if0 _ _).trans (feq (by decide : ¬ ((1 : Int32) = (0 : Int32)))).1) kt
      refine own_step (T' := T17) (f' := (mkF m 220 #[.val (.int i0), .val (.int i1), .val (.int i2), .val (.int i3), .val (.int i4), .val (.int i5), .val (.int i6), .val (.ref o7), .val (.int i8), .val (.int i9), .val (.int (1 : Int32))] [(.int i6), (.int i4), (.int i9), (.int i5), (.int (1 : Int32)), (.ref o7)])) (fun t kt => ?_) ?_
      · show Steps p.tables e below (T17.setTop (mkF m 209 #[.val (.int i0), .val (.int i1), .val (.int i2), .val (.int i3), .val (.int i4), .val (.int i5), .val (.int i6), .val (.ref o7), .val (.int i8), .val (.int i9), .val (.int (1 : Int32))] [])) _
        refine XS.aload X17.here hx rfl (hb hby at_209) rfl rfl ?_
        show Steps p.tables e below (T17.setTop (mkF m 211 #[.val (.int i0), .val (.int i1), .val (.int i2), .val (.int i3), .val (.int i4), .val (.int i5), .val (.int i6), .val (.ref o7), .val (.int i8), .val (.int i9), .val (.int (1 : Int32))] [(.ref o7)])) _
        refine XS.iconst X17.here hx rfl (hb hby at_211) ?_
        show Steps p.tables e below (T17.setTop (mkF m 212 #[.val (.int i0), .val (.int i1), .val (.int i2), .val (.int i3), .val (.int i4), .val (.int i5), .val (.int i6), .val (.ref o7), .val (.int i8), .val (.int i9), .val (.int (1 : Int32))] [(.int (1 : Int32)), (.ref o7)])) _
        refine XS.iload X17.here hx rfl (hb hby at_212) rfl ?_
        show Steps p.tables e below (T17.setTop (mkF m 214 #[.val (.int i0), .val (.int i1), .val (.int i2), .val (.int i3), .val (.int i4), .val (.int i5), .val (.int i6), .val (.ref o7), .val (.int i8), .val (.int i9), .val (.int (1 : Int32))] [(.int i5), (.int (1 : Int32)), (.ref o7)])) _
        refine XS.iload X17.here hx rfl (hb hby at_214) rfl ?_
        show Steps p.tables e below (T17.setTop (mkF m 216 #[.val (.int i0), .val (.int i1), .val (.int i2), .val (.int i3), .val (.int i4), .val (.int i5), .val (.int i6), .val (.ref o7), .val (.int i8), .val (.int i9), .val (.int (1 : Int32))] [(.int i9), (.int i5), (.int (1 : Int32)), (.ref o7)])) _
        refine XS.iload X17.here hx rfl (hb hby at_216) rfl ?_
        show Steps p.tables e below (T17.setTop (mkF m 218 #[.val (.int i0), .val (.int i1), .val (.int i2), .val (.int i3), .val (.int i4), .val (.int i5), .val (.int i6), .val (.ref o7), .val (.int i8), .val (.int i9), .val (.int (1 : Int32))] [(.int i4), (.int i9), (.int i5), (.int (1 : Int32)), (.ref o7)])) _
        refine XS.iload X17.here hx rfl (hb hby at_218) rfl ?_
        exact kt
      obtain ⟨_, _, ⟨T29, L29, k29, n29⟩, -, X29, ⟨Lc29, hQ29, l29, y29, z29⟩, st29⟩ := Jvm.LawKit.callS X17 hx (y := (⟨"hotstate/sort/VarIntsWritePinLaw", "cell", "([BIIIIB)Z"⟩ : MethodName)) hown (mvT hZ (hw _ (List.mem_of_getElem? (i := 6) rfl))) (mvT hZ (hw _ (List.mem_of_getElem? (i := 7) rfl))) (mvT hZ (hw _ (List.mem_of_getElem? (i := 8) rfl))) (mvT hZ (hw _ (List.mem_of_getElem? (i := 9) rfl))) (by decide) (backOf (W := 0) (rm2 l Z a0 hw [] o7 (1 : Int32) i5 i9 i4 i6 xo7_1 [(.int xo7_0), (.int xo7_1), (.int xo7_2), (.int xo7_3), (.int xo7_4), (.int xo7_5), (.int xo7_6), (.int xo7_7), (.int xo7_8), (.int xo7_9)] h0 n0 Ao7 (by decide) rfl) hZ (hw _ (List.mem_of_getElem? (i := 9) rfl)) (hw _ (List.mem_of_getElem? (i := 8) rfl)) (by decide) (by decide)) (g := (mkF m 220 #[.val (.int i0), .val (.int i1), .val (.int i2), .val (.int i3), .val (.int i4), .val (.int i5), .val (.int i6), .val (.ref o7), .val (.int i8), .val (.int i9), .val (.int (1 : Int32))] [(.int i6), (.int i4), (.int i9), (.int i5), (.int (1 : Int32)), (.ref o7)])) rfl (by rw [hml]; rfl) (argsL := [(.ref o7), (.int (1 : Int32)), (.int i5), (.int i9), (.int i4), (.int i6)]) (rest := []) (lenOf pd2 rfl) rfl (by show 2 * 0 + _ ≤ _; exact Nat.le_of_eq rfl) (hb hby at_220) (fun _ _ => ⟨rfl, e17, (by decide : 1 + 0 ≤ _), (by decide : 10 + 0 ≤ _)⟩)
      dsimp only [Pt.U, Pt.locs, Pt.cells, Pt.slots] at X29 l29 y29 z29 st29 hQ29
      subst l29 y29 z29
      obtain ⟨rfl, Nq29, e29⟩ := hQ29
      have N29 := Fr.app N17 Nq29
      refine own_step (T' := T29) (f' := (mkF m 223 #[.val (.int i0), .val (.int i1), .val (.int i2), .val (.int i3), .val (.int i4), .val (.int i5), .val (.int i6), .val (.ref o7), .val (.int i8), .val (.int i9), .val (.int (1 : Int32))] [(.int (f2_0 (1 : Int32) i5 i9 i4 i6 xo7_1))])) st29 ?_
      by_cases hc223_30 : (f2_0 (1 : Int32) i5 i9 i4 i6 xo7_1) = (0 : Int32)
      · replace hr := hr.trans (if_pos hc223_30)
        refine own_step (T' := T29) (f' := (mkF m 230 #[.val (.int i0), .val (.int i1), .val (.int i2), .val (.int i3), .val (.int i4), .val (.int i5), .val (.int i6), .val (.ref o7), .val (.int i8), .val (.int i9), .val (.int (1 : Int32))] [])) (fun t kt => ?_) ?_
        · show Steps p.tables e below (T29.setTop (mkF m 223 #[.val (.int i0), .val (.int i1), .val (.int i2), .val (.int i3), .val (.int i4), .val (.int i5), .val (.int i6), .val (.ref o7), .val (.int i8), .val (.int i9), .val (.int (1 : Int32))] [(.int (f2_0 (1 : Int32) i5 i9 i4 i6 xo7_1))])) _
          refine XS.ifYes X29.here hx rfl (pc0 := 223) (pc' := 230) rfl (hb hby at_223) rfl ((if0 _ _).trans (teq hc223_30).1) (by decide) (by decide) kt
        refine own_step (T' := T29) (f' := (mkF m 235 #[.val (.int i0), .val (.int i1), .val (.int i2), .val (.int i3), .val (.int i4), .val (.int i5), .val (.int i6), .val (.ref o7), .val (.int i8), .val (.int i9), .val (.int (0 : Int32))] [(.int (0 : Int32))])) (fun t kt => ?_) ?_
        · show Steps p.tables e below (T29.setTop (mkF m 230 #[.val (.int i0), .val (.int i1), .val (.int i2), .val (.int i3), .val (.int i4), .val (.int i5), .val (.int i6), .val (.ref o7), .val (.int i8), .val (.int i9), .val (.int (1 : Int32))] [])) _
          refine XS.iconst X29.here hx rfl (hb hby at_230) ?_
          show Steps p.tables e below (T29.setTop (mkF m 231 #[.val (.int i0), .val (.int i1), .val (.int i2), .val (.int i3), .val (.int i4), .val (.int i5), .val (.int i6), .val (.ref o7), .val (.int i8), .val (.int i9), .val (.int (1 : Int32))] [(.int (0 : Int32))])) _
          refine XS.istore X29.here hx rfl (hb hby at_231) rfl (l' := #[.val (.int i0), .val (.int i1), .val (.int i2), .val (.int i3), .val (.int i4), .val (.int i5), .val (.int i6), .val (.ref o7), .val (.int i8), .val (.int i9), .val (.int (0 : Int32))]) rfl ?_
          show Steps p.tables e below (T29.setTop (mkF m 233 #[.val (.int i0), .val (.int i1), .val (.int i2), .val (.int i3), .val (.int i4), .val (.int i5), .val (.int i6), .val (.ref o7), .val (.int i8), .val (.int i9), .val (.int (0 : Int32))] [])) _
          refine XS.iload X29.here hx rfl (hb hby at_233) rfl ?_
          exact kt
        refine own_step (T' := T29) (f' := (mkF m 259 #[.val (.int i0), .val (.int i1), .val (.int i2), .val (.int i3), .val (.int i4), .val (.int i5), .val (.int i6), .val (.ref o7), .val (.int i8), .val (.int i9), .val (.int (0 : Int32))] [])) (fun t kt => ?_) ?_
        · show Steps p.tables e below (T29.setTop (mkF m 235 #[.val (.int i0), .val (.int i1), .val (.int i2), .val (.int i3), .val (.int i4), .val (.int i5), .val (.int i6), .val (.ref o7), .val (.int i8), .val (.int i9), .val (.int (0 : Int32))] [(.int (0 : Int32))])) _
          refine XS.ifYes X29.here hx rfl (pc0 := 235) (pc' := 259) rfl (hb hby at_235) rfl ((if0 _ _).trans (teq (by decide : ((0 : Int32) = (0 : Int32)))).1) (by decide) (by decide) kt
        refine own_step (T' := T29) (f' := (mkF m 264 #[.val (.int i0), .val (.int i1), .val (.int i2), .val (.int i3), .val (.int i4), .val (.int i5), .val (.int i6), .val (.ref o7), .val (.int i8), .val (.int i9), .val (.int (0 : Int32))] [(.int (0 : Int32))])) (fun t kt => ?_) ?_
        · show Steps p.tables e below (T29.setTop (mkF m 259 #[.val (.int i0), .val (.int i1), .val (.int i2), .val (.int i3), .val (.int i4), .val (.int i5), .val (.int i6), .val (.ref o7), .val (.int i8), .val (.int i9), .val (.int (0 : Int32))] [])) _
          refine XS.iconst X29.here hx rfl (hb hby at_259) ?_
          show Steps p.tables e below (T29.setTop (mkF m 260 #[.val (.int i0), .val (.int i1), .val (.int i2), .val (.int i3), .val (.int i4), .val (.int i5), .val (.int i6), .val (.ref o7), .val (.int i8), .val (.int i9), .val (.int (0 : Int32))] [(.int (0 : Int32))])) _
          refine XS.istore X29.here hx rfl (hb hby at_260) rfl (l' := #[.val (.int i0), .val (.int i1), .val (.int i2), .val (.int i3), .val (.int i4), .val (.int i5), .val (.int i6), .val (.ref o7), .val (.int i8), .val (.int i9), .val (.int (0 : Int32))]) rfl ?_
          show Steps p.tables e below (T29.setTop (mkF m 262 #[.val (.int i0), .val (.int i1), .val (.int i2), .val (.int i3), .val (.int i4), .val (.int i5), .val (.int i6), .val (.ref o7), .val (.int i8), .val (.int i9), .val (.int (0 : Int32))] [])) _
          refine XS.iload X29.here hx rfl (hb hby at_262) rfl ?_
          exact kt
        refine own_step (T' := T29) (f' := (mkF m 288 #[.val (.int i0), .val (.int i1), .val (.int i2), .val (.int i3), .val (.int i4), .val (.int i5), .val (.int i6), .val (.ref o7), .val (.int i8), .val (.int i9), .val (.int (0 : Int32))] [])) (fun t kt => ?_) ?_
        · show Steps p.tables e below (T29.setTop (mkF m 264 #[.val (.int i0), .val (.int i1), .val (.int i2), .val (.int i3), .val (.int i4), .val (.int i5), .val (.int i6), .val (.ref o7), .val (.int i8), .val (.int i9), .val (.int (0 : Int32))] [(.int (0 : Int32))])) _
          refine XS.ifYes X29.here hx rfl (pc0 := 264) (pc' := 288) rfl (hb hby at_264) rfl ((if0 _ _).trans (teq (by decide : ((0 : Int32) = (0 : Int32)))).1) (by decide) (by decide) kt
        refine own_step (T' := T29) (f' := (mkF m 293 #[.val (.int i0), .val (.int i1), .val (.int i2), .val (.int i3), .val (.int i4), .val (.int i5), .val (.int i6), .val (.ref o7), .val (.int i8), .val (.int i9), .val (.int (0 : Int32))] [(.int (0 : Int32))])) (fun t kt => ?_) ?_
        · show Steps p.tables e below (T29.setTop (mkF m 288 #[.val (.int i0), .val (.int i1), .val (.int i2), .val (.int i3), .val (.int i4), .val (.int i5), .val (.int i6), .val (.ref o7), .val (.int i8), .val (.int i9), .val (.int (0 : Int32))] [])) _
          refine XS.iconst X29.here hx rfl (hb hby at_288) ?_
          show Steps p.tables e below (T29.setTop (mkF m 289 #[.val (.int i0), .val (.int i1), .val (.int i2), .val (.int i3), .val (.int i4), .val (.int i5), .val (.int i6), .val (.ref o7), .val (.int i8), .val (.int i9), .val (.int (0 : Int32))] [(.int (0 : Int32))])) _
          refine XS.istore X29.here hx rfl (hb hby at_289) rfl (l' := #[.val (.int i0), .val (.int i1), .val (.int i2), .val (.int i3), .val (.int i4), .val (.int i5), .val (.int i6), .val (.ref o7), .val (.int i8), .val (.int i9), .val (.int (0 : Int32))]) rfl ?_
          show Steps p.tables e below (T29.setTop (mkF m 291 #[.val (.int i0), .val (.int i1), .val (.int i2), .val (.int i3), .val (.int i4), .val (.int i5), .val (.int i6), .val (.ref o7), .val (.int i8), .val (.int i9), .val (.int (0 : Int32))] [])) _
          refine XS.iload X29.here hx rfl (hb hby at_291) rfl ?_
          exact kt
        refine own_step (T' := T29) (f' := (mkF m 317 #[.val (.int i0), .val (.int i1), .val (.int i2), .val (.int i3), .val (.int i4), .val (.int i5), .val (.int i6), .val (.ref o7), .val (.int i8), .val (.int i9), .val (.int (0 : Int32))] [])) (fun t kt => ?_) ?_
        · show Steps p.tables e below (T29.setTop (mkF m 293 #[.val (.int i0), .val (.int i1), .val (.int i2), .val (.int i3), .val (.int i4), .val (.int i5), .val (.int i6), .val (.ref o7), .val (.int i8), .val (.int i9), .val (.int (0 : Int32))] [(.int (0 : Int32))])) _
          refine XS.ifYes X29.here hx rfl (pc0 := 293) (pc' := 317) rfl (hb hby at_293) rfl ((if0 _ _).trans (teq (by decide : ((0 : Int32) = (0 : Int32)))).1) (by decide) (by decide) kt
        refine own_step (T' := T29) (f' := (mkF m 322 #[.val (.int i0), .val (.int i1), .val (.int i2), .val (.int i3), .val (.int i4), .val (.int i5), .val (.int i6), .val (.ref o7), .val (.int i8), .val (.int i9), .val (.int (0 : Int32))] [(.int (0 : Int32))])) (fun t kt => ?_) ?_
        · show Steps p.tables e below (T29.setTop (mkF m 317 #[.val (.int i0), .val (.int i1), .val (.int i2), .val (.int i3), .val (.int i4), .val (.int i5), .val (.int i6), .val (.ref o7), .val (.int i8), .val (.int i9), .val (.int (0 : Int32))] [])) _
          refine XS.iconst X29.here hx rfl (hb hby at_317) ?_
          show Steps p.tables e below (T29.setTop (mkF m 318 #[.val (.int i0), .val (.int i1), .val (.int i2), .val (.int i3), .val (.int i4), .val (.int i5), .val (.int i6), .val (.ref o7), .val (.int i8), .val (.int i9), .val (.int (0 : Int32))] [(.int (0 : Int32))])) _
          refine XS.istore X29.here hx rfl (hb hby at_318) rfl (l' := #[.val (.int i0), .val (.int i1), .val (.int i2), .val (.int i3), .val (.int i4), .val (.int i5), .val (.int i6), .val (.ref o7), .val (.int i8), .val (.int i9), .val (.int (0 : Int32))]) rfl ?_
          show Steps p.tables e below (T29.setTop (mkF m 320 #[.val (.int i0), .val (.int i1), .val (.int i2), .val (.int i3), .val (.int i4), .val (.int i5), .val (.int i6), .val (.ref o7), .val (.int i8), .val (.int i9), .val (.int (0 : Int32))] [])) _
          refine XS.iload X29.here hx rfl (hb hby at_320) rfl ?_
          exact kt
        refine own_step (T' := T29) (f' := (mkF m 346 #[.val (.int i0), .val (.int i1), .val (.int i2), .val (.int i3), .val (.int i4), .val (.int i5), .val (.int i6), .val (.ref o7), .val (.int i8), .val (.int i9), .val (.int (0 : Int32))] [])) (fun t kt => ?_) ?_
        · show Steps p.tables e below (T29.setTop (mkF m 322 #[.val (.int i0), .val (.int i1), .val (.int i2), .val (.int i3), .val (.int i4), .val (.int i5), .val (.int i6), .val (.ref o7), .val (.int i8), .val (.int i9), .val (.int (0 : Int32))] [(.int (0 : Int32))])) _
          refine XS.ifYes X29.here hx rfl (pc0 := 322) (pc' := 346) rfl (hb hby at_322) rfl ((if0 _ _).trans (teq (by decide : ((0 : Int32) = (0 : Int32)))).1) (by decide) (by decide) kt
        refine own_step (T' := T29) (f' := (mkF m 351 #[.val (.int i0), .val (.int i1), .val (.int i2), .val (.int i3), .val (.int i4), .val (.int i5), .val (.int i6), .val (.ref o7), .val (.int i8), .val (.int i9), .val (.int (0 : Int32))] [(.int (0 : Int32))])) (fun t kt => ?_) ?_
        · show Steps p.tables e below (T29.setTop (mkF m 346 #[.val (.int i0), .val (.int i1), .val (.int i2), .val (.int i3), .val (.int i4), .val (.int i5), .val (.int i6), .val (.ref o7), .val (.int i8), .val (.int i9), .val (.int (0 : Int32))] [])) _
          refine XS.iconst X29.here hx rfl (hb hby at_346) ?_
          show Steps p.tables e below (T29.setTop (mkF m 347 #[.val (.int i0), .val (.int i1), .val (.int i2), .val (.int i3), .val (.int i4), .val (.int i5), .val (.int i6), .val (.ref o7), .val (.int i8), .val (.int i9), .val (.int (0 : Int32))] [(.int (0 : Int32))])) _
          refine XS.istore X29.here hx rfl (hb hby at_347) rfl (l' := #[.val (.int i0), .val (.int i1), .val (.int i2), .val (.int i3), .val (.int i4), .val (.int i5), .val (.int i6), .val (.ref o7), .val (.int i8), .val (.int i9), .val (.int (0 : Int32))]) rfl ?_
          show Steps p.tables e below (T29.setTop (mkF m 349 #[.val (.int i0), .val (.int i1), .val (.int i2), .val (.int i3), .val (.int i4), .val (.int i5), .val (.int i6), .val (.ref o7), .val (.int i8), .val (.int i9), .val (.int (0 : Int32))] [])) _
          refine XS.iload X29.here hx rfl (hb hby at_349) rfl ?_
          exact kt
        refine own_step (T' := T29) (f' := (mkF m 376 #[.val (.int i0), .val (.int i1), .val (.int i2), .val (.int i3), .val (.int i4), .val (.int i5), .val (.int i6), .val (.ref o7), .val (.int i8), .val (.int i9), .val (.int (0 : Int32))] [])) (fun t kt => ?_) ?_
        · show Steps p.tables e below (T29.setTop (mkF m 351 #[.val (.int i0), .val (.int i1), .val (.int i2), .val (.int i3), .val (.int i4), .val (.int i5), .val (.int i6), .val (.ref o7), .val (.int i8), .val (.int i9), .val (.int (0 : Int32))] [(.int (0 : Int32))])) _
          refine XS.ifYes X29.here hx rfl (pc0 := 351) (pc' := 376) rfl (hb hby at_351) rfl ((if0 _ _).trans (teq (by decide : ((0 : Int32) = (0 : Int32)))).1) (by decide) (by decide) kt
        refine own_step (T' := T29) (f' := (mkF m 381 #[.val (.int i0), .val (.int i1), .val (.int i2), .val (.int i3), .val (.int i4), .val (.int i5), .val (.int i6), .val (.ref o7), .val (.int i8), .val (.int i9), .val (.int (0 : Int32))] [(.int (0 : Int32))])) (fun t kt => ?_) ?_
        · show Steps p.tables e below (T29.setTop (mkF m 376 #[.val (.int i0), .val (.int i1), .val (.int i2), .val (.int i3), .val (.int i4), .val (.int i5), .val (.int i6), .val (.ref o7), .val (.int i8), .val (.int i9), .val (.int (0 : Int32))] [])) _
          refine XS.iconst X29.here hx rfl (hb hby at_376) ?_
          show Steps p.tables e below (T29.setTop (mkF m 377 #[.val (.int i0), .val (.int i1), .val (.int i2), .val (.int i3), .val (.int i4), .val (.int i5), .val (.int i6), .val (.ref o7), .val (.int i8), .val (.int i9), .val (.int (0 : Int32))] [(.int (0 : Int32))])) _
          refine XS.istore X29.here hx rfl (hb hby at_377) rfl (l' := #[.val (.int i0), .val (.int i1), .val (.int i2), .val (.int i3), .val (.int i4), .val (.int i5), .val (.int i6), .val (.ref o7), .val (.int i8), .val (.int i9), .val (.int (0 : Int32))]) rfl ?_
          show Steps p.tables e below (T29.setTop (mkF m 379 #[.val (.int i0), .val (.int i1), .val (.int i2), .val (.int i3), .val (.int i4), .val (.int i5), .val (.int i6), .val (.ref o7), .val (.int i8), .val (.int i9), .val (.int (0 : Int32))] [])) _
          refine XS.iload X29.here hx rfl (hb hby at_379) rfl ?_
          exact kt
        refine own_step (T' := T29) (f' := (mkF m 406 #[.val (.int i0), .val (.int i1), .val (.int i2), .val (.int i3), .val (.int i4), .val (.int i5), .val (.int i6), .val (.ref o7), .val (.int i8), .val (.int i9), .val (.int (0 : Int32))] [])) (fun t kt => ?_) ?_
        · show Steps p.tables e below (T29.setTop (mkF m 381 #[.val (.int i0), .val (.int i1), .val (.int i2), .val (.int i3), .val (.int i4), .val (.int i5), .val (.int i6), .val (.ref o7), .val (.int i8), .val (.int i9), .val (.int (0 : Int32))] [(.int (0 : Int32))])) _
          refine XS.ifYes X29.here hx rfl (pc0 := 381) (pc' := 406) rfl (hb hby at_381) rfl ((if0 _ _).trans (teq (by decide : ((0 : Int32) = (0 : Int32)))).1) (by decide) (by decide) kt
        refine own_step (T' := T29) (f' := (mkF m 411 #[.val (.int i0), .val (.int i1), .val (.int i2), .val (.int i3), .val (.int i4), .val (.int i5), .val (.int i6), .val (.ref o7), .val (.int i8), .val (.int i9), .val (.int (0 : Int32))] [(.int (0 : Int32))])) (fun t kt => ?_) ?_
        · show Steps p.tables e below (T29.setTop (mkF m 406 #[.val (.int i0), .val (.int i1), .val (.int i2), .val (.int i3), .val (.int i4), .val (.int i5), .val (.int i6), .val (.ref o7), .val (.int i8), .val (.int i9), .val (.int (0 : Int32))] [])) _
          refine XS.iconst X29.here hx rfl (hb hby at_406) ?_
          show Steps p.tables e below (T29.setTop (mkF m 407 #[.val (.int i0), .val (.int i1), .val (.int i2), .val (.int i3), .val (.int i4), .val (.int i5), .val (.int i6), .val (.ref o7), .val (.int i8), .val (.int i9), .val (.int (0 : Int32))] [(.int (0 : Int32))])) _
          refine XS.istore X29.here hx rfl (hb hby at_407) rfl (l' := #[.val (.int i0), .val (.int i1), .val (.int i2), .val (.int i3), .val (.int i4), .val (.int i5), .val (.int i6), .val (.ref o7), .val (.int i8), .val (.int i9), .val (.int (0 : Int32))]) rfl ?_
          show Steps p.tables e below (T29.setTop (mkF m 409 #[.val (.int i0), .val (.int i1), .val (.int i2), .val (.int i3), .val (.int i4), .val (.int i5), .val (.int i6), .val (.ref o7), .val (.int i8), .val (.int i9), .val (.int (0 : Int32))] [])) _
          refine XS.iload X29.here hx rfl (hb hby at_409) rfl ?_
          exact kt
        refine own_step (T' := T29) (f' := (mkF m 436 #[.val (.int i0), .val (.int i1), .val (.int i2), .val (.int i3), .val (.int i4), .val (.int i5), .val (.int i6), .val (.ref o7), .val (.int i8), .val (.int i9), .val (.int (0 : Int32))] [])) (fun t kt => ?_) ?_
        · show Steps p.tables e below (T29.setTop (mkF m 411 #[.val (.int i0), .val (.int i1), .val (.int i2), .val (.int i3), .val (.int i4), .val (.int i5), .val (.int i6), .val (.ref o7), .val (.int i8), .val (.int i9), .val (.int (0 : Int32))] [(.int (0 : Int32))])) _
          refine XS.ifYes X29.here hx rfl (pc0 := 411) (pc' := 436) rfl (hb hby at_411) rfl ((if0 _ _).trans (teq (by decide : ((0 : Int32) = (0 : Int32)))).1) (by decide) (by decide) kt
        refine own_step (T' := T29) (f' := (mkF m 441 #[.val (.int i0), .val (.int i1), .val (.int i2), .val (.int i3), .val (.int i4), .val (.int i5), .val (.int i6), .val (.ref o7), .val (.int i8), .val (.int i9), .val (.int (0 : Int32))] [(.int (0 : Int32))])) (fun t kt => ?_) ?_
        · show Steps p.tables e below (T29.setTop (mkF m 436 #[.val (.int i0), .val (.int i1), .val (.int i2), .val (.int i3), .val (.int i4), .val (.int i5), .val (.int i6), .val (.ref o7), .val (.int i8), .val (.int i9), .val (.int (0 : Int32))] [])) _
          refine XS.iconst X29.here hx rfl (hb hby at_436) ?_
          show Steps p.tables e below (T29.setTop (mkF m 437 #[.val (.int i0), .val (.int i1), .val (.int i2), .val (.int i3), .val (.int i4), .val (.int i5), .val (.int i6), .val (.ref o7), .val (.int i8), .val (.int i9), .val (.int (0 : Int32))] [(.int (0 : Int32))])) _
          refine XS.istore X29.here hx rfl (hb hby at_437) rfl (l' := #[.val (.int i0), .val (.int i1), .val (.int i2), .val (.int i3), .val (.int i4), .val (.int i5), .val (.int i6), .val (.ref o7), .val (.int i8), .val (.int i9), .val (.int (0 : Int32))]) rfl ?_
          show Steps p.tables e below (T29.setTop (mkF m 439 #[.val (.int i0), .val (.int i1), .val (.int i2), .val (.int i3), .val (.int i4), .val (.int i5), .val (.int i6), .val (.ref o7), .val (.int i8), .val (.int i9), .val (.int (0 : Int32))] [])) _
          refine XS.iload X29.here hx rfl (hb hby at_439) rfl ?_
          exact kt
        refine own_step (T' := T29) (f' := (mkF m 466 #[.val (.int i0), .val (.int i1), .val (.int i2), .val (.int i3), .val (.int i4), .val (.int i5), .val (.int i6), .val (.ref o7), .val (.int i8), .val (.int i9), .val (.int (0 : Int32))] [])) (fun t kt => ?_) ?_
        · show Steps p.tables e below (T29.setTop (mkF m 441 #[.val (.int i0), .val (.int i1), .val (.int i2), .val (.int i3), .val (.int i4), .val (.int i5), .val (.int i6), .val (.ref o7), .val (.int i8), .val (.int i9), .val (.int (0 : Int32))] [(.int (0 : Int32))])) _
          refine XS.ifYes X29.here hx rfl (pc0 := 441) (pc' := 466) rfl (hb hby at_441) rfl ((if0 _ _).trans (teq (by decide : ((0 : Int32) = (0 : Int32)))).1) (by decide) (by decide) kt
        refine own_step (T' := T29) (f' := (mkF m 471 #[.val (.int i0), .val (.int i1), .val (.int i2), .val (.int i3), .val (.int i4), .val (.int i5), .val (.int i6), .val (.ref o7), .val (.int i8), .val (.int i9), .val (.int (0 : Int32))] [(.int (0 : Int32))])) (fun t kt => ?_) ?_
        · show Steps p.tables e below (T29.setTop (mkF m 466 #[.val (.int i0), .val (.int i1), .val (.int i2), .val (.int i3), .val (.int i4), .val (.int i5), .val (.int i6), .val (.ref o7), .val (.int i8), .val (.int i9), .val (.int (0 : Int32))] [])) _
          refine XS.iconst X29.here hx rfl (hb hby at_466) ?_
          show Steps p.tables e below (T29.setTop (mkF m 467 #[.val (.int i0), .val (.int i1), .val (.int i2), .val (.int i3), .val (.int i4), .val (.int i5), .val (.int i6), .val (.ref o7), .val (.int i8), .val (.int i9), .val (.int (0 : Int32))] [(.int (0 : Int32))])) _
          refine XS.istore X29.here hx rfl (hb hby at_467) rfl (l' := #[.val (.int i0), .val (.int i1), .val (.int i2), .val (.int i3), .val (.int i4), .val (.int i5), .val (.int i6), .val (.ref o7), .val (.int i8), .val (.int i9), .val (.int (0 : Int32))]) rfl ?_
          show Steps p.tables e below (T29.setTop (mkF m 469 #[.val (.int i0), .val (.int i1), .val (.int i2), .val (.int i3), .val (.int i4), .val (.int i5), .val (.int i6), .val (.ref o7), .val (.int i8), .val (.int i9), .val (.int (0 : Int32))] [])) _
          refine XS.iload X29.here hx rfl (hb hby at_469) rfl ?_
          exact kt
        exact own_retZ X29 hx hret (by simp) hlk (hb hby at_471) (by decide) (by decide) ⟨congrArg (fun z => some (Value.int z)) hr.symm, N29⟩
      · replace hr := hr.trans (if_neg hc223_30)
        refine own_step (T' := T29) (f' := (mkF m 226 #[.val (.int i0), .val (.int i1), .val (.int i2), .val (.int i3), .val (.int i4), .val (.int i5), .val (.int i6), .val (.ref o7), .val (.int i8), .val (.int i9), .val (.int (1 : Int32))] [])) (fun t kt => ?_) ?_
        · show Steps p.tables e below (T29.setTop (mkF m 223 #[.val (.int i0), .val (.int i1), .val (.int i2), .val (.int i3), .val (.int i4), .val (.int i5), .val (.int i6), .val (.ref o7), .val (.int i8), .val (.int i9), .val (.int (1 : Int32))] [(.int (f2_0 (1 : Int32) i5 i9 i4 i6 xo7_1))])) _
          refine XS.ifNo X29.here hx rfl (hb hby at_223) rfl ((if0 _ _).trans (feq hc223_30).1) kt
        refine own_step (T' := T29) (f' := (mkF m 235 #[.val (.int i0), .val (.int i1), .val (.int i2), .val (.int i3), .val (.int i4), .val (.int i5), .val (.int i6), .val (.ref o7), .val (.int i8), .val (.int i9), .val (.int (1 : Int32))] [(.int (1 : Int32))])) (fun t kt => ?_) ?_
        · show Steps p.tables e below (T29.setTop (mkF m 226 #[.val (.int i0), .val (.int i1), .val (.int i2), .val (.int i3), .val (.int i4), .val (.int i5), .val (.int i6), .val (.ref o7), .val (.int i8), .val (.int i9), .val (.int (1 : Int32))] [])) _
          refine XS.iconst X29.here hx rfl (hb hby at_226) ?_
          show Steps p.tables e below (T29.setTop (mkF m 227 #[.val (.int i0), .val (.int i1), .val (.int i2), .val (.int i3), .val (.int i4), .val (.int i5), .val (.int i6), .val (.ref o7), .val (.int i8), .val (.int i9), .val (.int (1 : Int32))] [(.int (1 : Int32))])) _
          refine XS.goto X29.here hx rfl (pc0 := 227) (pc' := 231) rfl (hb hby at_227) (by decide) (by decide) ?_
          show Steps p.tables e below (T29.setTop (mkF m 231 #[.val (.int i0), .val (.int i1), .val (.int i2), .val (.int i3), .val (.int i4), .val (.int i5), .val (.int i6), .val (.ref o7), .val (.int i8), .val (.int i9), .val (.int (1 : Int32))] [(.int (1 : Int32))])) _
          refine XS.istore X29.here hx rfl (hb hby at_231) rfl (l' := #[.val (.int i0), .val (.int i1), .val (.int i2), .val (.int i3), .val (.int i4), .val (.int i5), .val (.int i6), .val (.ref o7), .val (.int i8), .val (.int i9), .val (.int (1 : Int32))]) rfl ?_
          show Steps p.tables e below (T29.setTop (mkF m 233 #[.val (.int i0), .val (.int i1), .val (.int i2), .val (.int i3), .val (.int i4), .val (.int i5), .val (.int i6), .val (.ref o7), .val (.int i8), .val (.int i9), .val (.int (1 : Int32))] [])) _
          refine XS.iload X29.here hx rfl (hb hby at_233) rfl ?_
          exact kt
        refine own_step (T' := T29) (f' := (mkF m 238 #[.val (.int i0), .val (.int i1), .val (.int i2), .val (.int i3), .val (.int i4), .val (.int i5), .val (.int i6), .val (.ref o7), .val (.int i8), .val (.int i9), .val (.int (1 : Int32))] [])) (fun t kt => ?_) ?_
        · show Steps p.tables e below (T29.setTop (mkF m 235 #[.val (.int i0), .val (.int i1), .val (.int i2), .val (.int i3), .val (.int i4), .val (.int i5), .val (.int i6), .val (.ref o7), .val (.int i8), .val (.int i9), .val (.int (1 : Int32))] [(.int (1 : Int32))])) _
          refine XS.ifNo X29.here hx rfl (hb hby at_235) rfl ((if0 _ _).trans (feq (by decide : ¬ ((1 : Int32) = (0 : Int32)))).1) kt
        refine own_step (T' := T29) (f' := (mkF m 249 #[.val (.int i0), .val (.int i1), .val (.int i2), .val (.int i3), .val (.int i4), .val (.int i5), .val (.int i6), .val (.ref o7), .val (.int i8), .val (.int i9), .val (.int (1 : Int32))] [(.int i6), (.int i4), (.int i9), (.int i5), (.int (2 : Int32)), (.ref o7)])) (fun t kt => ?_) ?_
        · show Steps p.tables e below (T29.setTop (mkF m 238 #[.val (.int i0), .val (.int i1), .val (.int i2), .val (.int i3), .val (.int i4), .val (.int i5), .val (.int i6), .val (.ref o7), .val (.int i8), .val (.int i9), .val (.int (1 : Int32))] [])) _
          refine XS.aload X29.here hx rfl (hb hby at_238) rfl rfl ?_
          show Steps p.tables e below (T29.setTop (mkF m 240 #[.val (.int i0), .val (.int i1), .val (.int i2), .val (.int i3), .val (.int i4), .val (.int i5), .val (.int i6), .val (.ref o7), .val (.int i8), .val (.int i9), .val (.int (1 : Int32))] [(.ref o7)])) _
          refine XS.iconst X29.here hx rfl (hb hby at_240) ?_
          show Steps p.tables e below (T29.setTop (mkF m 241 #[.val (.int i0), .val (.int i1), .val (.int i2), .val (.int i3), .val (.int i4), .val (.int i5), .val (.int i6), .val (.ref o7), .val (.int i8), .val (.int i9), .val (.int (1 : Int32))] [(.int (2 : Int32)), (.ref o7)])) _
          refine XS.iload X29.here hx rfl (hb hby at_241) rfl ?_
          show Steps p.tables e below (T29.setTop (mkF m 243 #[.val (.int i0), .val (.int i1), .val (.int i2), .val (.int i3), .val (.int i4), .val (.int i5), .val (.int i6), .val (.ref o7), .val (.int i8), .val (.int i9), .val (.int (1 : Int32))] [(.int i5), (.int (2 : Int32)), (.ref o7)])) _
          refine XS.iload X29.here hx rfl (hb hby at_243) rfl ?_
          show Steps p.tables e below (T29.setTop (mkF m 245 #[.val (.int i0), .val (.int i1), .val (.int i2), .val (.int i3), .val (.int i4), .val (.int i5), .val (.int i6), .val (.ref o7), .val (.int i8), .val (.int i9), .val (.int (1 : Int32))] [(.int i9), (.int i5), (.int (2 : Int32)), (.ref o7)])) _
          refine XS.iload X29.here hx rfl (hb hby at_245) rfl ?_
          show Steps p.tables e below (T29.setTop (mkF m 247 #[.val (.int i0), .val (.int i1), .val (.int i2), .val (.int i3), .val (.int i4), .val (.int i5), .val (.int i6), .val (.ref o7), .val (.int i8), .val (.int i9), .val (.int (1 : Int32))] [(.int i4), (.int i9), (.int i5), (.int (2 : Int32)), (.ref o7)])) _
          refine XS.iload X29.here hx rfl (hb hby at_247) rfl ?_
          exact kt
        obtain ⟨_, _, ⟨T40, L40, k40, n40⟩, -, X40, ⟨Lc40, hQ40, l40, y40, z40⟩, st40⟩ := Jvm.LawKit.callS X29 hx (y := (⟨"hotstate/sort/VarIntsWritePinLaw", "cell", "([BIIIIB)Z"⟩ : MethodName)) hown (mvT hZ (hw _ (List.mem_of_getElem? (i := 6) rfl))) (mvT hZ (hw _ (List.mem_of_getElem? (i := 7) rfl))) (mvT hZ (hw _ (List.mem_of_getElem? (i := 8) rfl))) (mvT hZ (hw _ (List.mem_of_getElem? (i := 9) rfl))) (by decide) (backOf (W := 0) (rm2 l Z a0 hw [] o7 (2 : Int32) i5 i9 i4 i6 xo7_2 [(.int xo7_0), (.int xo7_1), (.int xo7_2), (.int xo7_3), (.int xo7_4), (.int xo7_5), (.int xo7_6), (.int xo7_7), (.int xo7_8), (.int xo7_9)] h0 n0 Ao7 (by decide) rfl) hZ (hw _ (List.mem_of_getElem? (i := 9) rfl)) (hw _ (List.mem_of_getElem? (i := 8) rfl)) (by decide) (by decide)) (g := (mkF m 249 #[.val (.int i0), .val (.int i1), .val (.int i2), .val (.int i3), .val (.int i4), .val (.int i5), .val (.int i6), .val (.ref o7), .val (.int i8), .val (.int i9), .val (.int (1 : Int32))] [(.int i6), (.int i4), (.int i9), (.int i5), (.int (2 : Int32)), (.ref o7)])) rfl (by rw [hml]; rfl) (argsL := [(.ref o7), (.int (2 : Int32)), (.int i5), (.int i9), (.int i4), (.int i6)]) (rest := []) (lenOf pd2 rfl) rfl (by show 2 * 0 + _ ≤ _; exact Nat.le_of_eq rfl) (hb hby at_249) (fun _ _ => ⟨rfl, e29, (by decide : 1 + 0 ≤ _), (by decide : 10 + 0 ≤ _)⟩)
        dsimp only [Pt.U, Pt.locs, Pt.cells, Pt.slots] at X40 l40 y40 z40 st40 hQ40
        subst l40 y40 z40
        obtain ⟨rfl, Nq40, e40⟩ := hQ40
        have N40 := Fr.app N29 Nq40
        refine own_step (T' := T40) (f' := (mkF m 252 #[.val (.int i0), .val (.int i1), .val (.int i2), .val (.int i3), .val (.int i4), .val (.int i5), .val (.int i6), .val (.ref o7), .val (.int i8), .val (.int i9), .val (.int (1 : Int32))] [(.int (f2_0 (2 : Int32) i5 i9 i4 i6 xo7_2))])) st40 ?_
        by_cases hc252_41 : (f2_0 (2 : Int32) i5 i9 i4 i6 xo7_2) = (0 : Int32)
        · replace hr := hr.trans (if_pos hc252_41)
          refine own_step (T' := T40) (f' := (mkF m 259 #[.val (.int i0), .val (.int i1), .val (.int i2), .val (.int i3), .val (.int i4), .val (.int i5), .val (.int i6), .val (.ref o7), .val (.int i8), .val (.int i9), .val (.int (1 : Int32))] [])) (fun t kt => ?_) ?_
          · show Steps p.tables e below (T40.setTop (mkF m 252 #[.val (.int i0), .val (.int i1), .val (.int i2), .val (.int i3), .val (.int i4), .val (.int i5), .val (.int i6), .val (.ref o7), .val (.int i8), .val (.int i9), .val (.int (1 : Int32))] [(.int (f2_0 (2 : Int32) i5 i9 i4 i6 xo7_2))])) _
            refine XS.ifYes X40.here hx rfl (pc0 := 252) (pc' := 259) rfl (hb hby at_252) rfl ((if0 _ _).trans (teq hc252_41).1) (by decide) (by decide) kt
          refine own_step (T' := T40) (f' := (mkF m 264 #[.val (.int i0), .val (.int i1), .val (.int i2), .val (.int i3), .val (.int i4), .val (.int i5), .val (.int i6), .val (.ref o7), .val (.int i8), .val (.int i9), .val (.int (0 : Int32))] [(.int (0 : Int32))])) (fun t kt => ?_) ?_
          · show Steps p.tables e below (T40.setTop (mkF m 259 #[.val (.int i0), .val (.int i1), .val (.int i2), .val (.int i3), .val (.int i4), .val (.int i5), .val (.int i6), .val (.ref o7), .val (.int i8), .val (.int i9), .val (.int (1 : Int32))] [])) _
            refine XS.iconst X40.here hx rfl (hb hby at_259) ?_
            show Steps p.tables e below (T40.setTop (mkF m 260 #[.val (.int i0), .val (.int i1), .val (.int i2), .val (.int i3), .val (.int i4), .val (.int i5), .val (.int i6), .val (.ref o7), .val (.int i8), .val (.int i9), .val (.int (1 : Int32))] [(.int (0 : Int32))])) _
            refine XS.istore X40.here hx rfl (hb hby at_260) rfl (l' := #[.val (.int i0), .val (.int i1), .val (.int i2), .val (.int i3), .val (.int i4), .val (.int i5), .val (.int i6), .val (.ref o7), .val (.int i8), .val (.int i9), .val (.int (0 : Int32))]) rfl ?_
            show Steps p.tables e below (T40.setTop (mkF m 262 #[.val (.int i0), .val (.int i1), .val (.int i2), .val (.int i3), .val (.int i4), .val (.int i5), .val (.int i6), .val (.ref o7), .val (.int i8), .val (.int i9), .val (.int (0 : Int32))] [])) _
            refine XS.iload X40.here hx rfl (hb hby at_262) rfl ?_
            exact kt
          refine own_step (T' := T40) (f' := (mkF m 288 #[.val (.int i0), .val (.int i1), .val (.int i2), .val (.int i3), .val (.int i4), .val (.int i5), .val (.int i6), .val (.ref o7), .val (.int i8), .val (.int i9), .val (.int (0 : Int32))] [])) (fun t kt => ?_) ?_
          · show Steps p.tables e below (T40.setTop (mkF m 264 #[.val (.int i0), .val (.int i1), .val (.int i2), .val (.int i3), .val (.int i4), .val (.int i5), .val (.int i6), .val (.ref o7), .val (.int i8), .val (.int i9), .val (.int (0 : Int32))] [(.int (0 : Int32))])) _
            refine XS.ifYes X40.here hx rfl (pc0 := 264) (pc' := 288) rfl (hb hby at_264) rfl ((if0 _ _).trans (teq (by decide : ((0 : Int32) = (0 : Int32)))).1) (by decide) (by decide) kt
          refine own_step (T' := T40) (f' := (mkF m 293 #[.val (.int i0), .val (.int i1), .val (.int i2), .val (.int i3), .val (.int i4), .val (.int i5), .val (.int i6), .val (.ref o7), .val (.int i8), .val (.int i9), .val (.int (0 : Int32))] [(.int (0 : Int32))])) (fun t kt => ?_) ?_
          · show Steps p.tables e below (T40.setTop (mkF m 288 #[.val (.int i0), .val (.int i1), .val (.int i2), .val (.int i3), .val (.int i4), .val (.int i5), .val (.int i6), .val (.ref o7), .val (.int i8), .val (.int i9), .val (.int (0 : Int32))] [])) _
            refine XS.iconst X40.here hx rfl (hb hby at_288) ?_
            show Steps p.tables e below (T40.setTop (mkF m 289 #[.val (.int i0), .val (.int i1), .val (.int i2), .val (.int i3), .val (.int i4), .val (.int i5), .val (.int i6), .val (.ref o7), .val (.int i8), .val (.int i9), .val (.int (0 : Int32))] [(.int (0 : Int32))])) _
            refine XS.istore X40.here hx rfl (hb hby at_289) rfl (l' := #[.val (.int i0), .val (.int i1), .val (.int i2), .val (.int i3), .val (.int i4), .val (.int i5), .val (.int i6), .val (.ref o7), .val (.int i8), .val (.int i9), .val (.int (0 : Int32))]) rfl ?_
            show Steps p.tables e below (T40.setTop (mkF m 291 #[.val (.int i0), .val (.int i1), .val (.int i2), .val (.int i3), .val (.int i4), .val (.int i5), .val (.int i6), .val (.ref o7), .val (.int i8), .val (.int i9), .val (.int (0 : Int32))] [])) _
            refine XS.iload X40.here hx rfl (hb hby at_291) rfl ?_
            exact kt
          refine own_step (T' := T40) (f' := (mkF m 317 #[.val (.int i0), .val (.int i1), .val (.int i2), .val (.int i3), .val (.int i4), .val (.int i5), .val (.int i6), .val (.ref o7), .val (.int i8), .val (.int i9), .val (.int (0 : Int32))] [])) (fun t kt => ?_) ?_
          · show Steps p.tables e below (T40.setTop (mkF m 293 #[.val (.int i0), .val (.int i1), .val (.int i2), .val (.int i3), .val (.int i4), .val (.int i5), .val (.int i6), .val (.ref o7), .val (.int i8), .val (.int i9), .val (.int (0 : Int32))] [(.int (0 : Int32))])) _
            refine XS.ifYes X40.here hx rfl (pc0 := 293) (pc' := 317) rfl (hb hby at_293) rfl ((if0 _ _).trans (teq (by decide : ((0 : Int32) = (0 : Int32)))).1) (by decide) (by decide) kt
          refine own_step (T' := T40) (f' := (mkF m 322 #[.val (.int i0), .val (.int i1), .val (.int i2), .val (.int i3), .val (.int i4), .val (.int i5), .val (.int i6), .val (.ref o7), .val (.int i8), .val (.int i9), .val (.int (0 : Int32))] [(.int (0 : Int32))])) (fun t kt => ?_) ?_
          · show Steps p.tables e below (T40.setTop (mkF m 317 #[.val (.int i0), .val (.int i1), .val (.int i2), .val (.int i3), .val (.int i4), .val (.int i5), .val (.int i6), .val (.ref o7), .val (.int i8), .val (.int i9), .val (.int (0 : Int32))] [])) _
            refine XS.iconst X40.here hx rfl (hb hby at_317) ?_
            show Steps p.tables e below (T40.setTop (mkF m 318 #[.val (.int i0), .val (.int i1), .val (.int i2), .val (.int i3), .val (.int i4), .val (.int i5), .val (.int i6), .val (.ref o7), .val (.int i8), .val (.int i9), .val (.int (0 : Int32))] [(.int (0 : Int32))])) _
            refine XS.istore X40.here hx rfl (hb hby at_318) rfl (l' := #[.val (.int i0), .val (.int i1), .val (.int i2), .val (.int i3), .val (.int i4), .val (.int i5), .val (.int i6), .val (.ref o7), .val (.int i8), .val (.int i9), .val (.int (0 : Int32))]) rfl ?_
            show Steps p.tables e below (T40.setTop (mkF m 320 #[.val (.int i0), .val (.int i1), .val (.int i2), .val (.int i3), .val (.int i4), .val (.int i5), .val (.int i6), .val (.ref o7), .val (.int i8), .val (.int i9), .val (.int (0 : Int32))] [])) _
            refine XS.iload X40.here hx rfl (hb hby at_320) rfl ?_
            exact kt
          refine own_step (T' := T40) (f' := (mkF m 346 #[.val (.int i0), .val (.int i1), .val (.int i2), .val (.int i3), .val (.int i4), .val (.int i5), .val (.int i6), .val (.ref o7), .val (.int i8), .val (.int i9), .val (.int (0 : Int32))] [])) (fun t kt => ?_) ?_
          · show Steps p.tables e below (T40.setTop (mkF m 322 #[.val (.int i0), .val (.int i1), .val (.int i2), .val (.int i3), .val (.int i4), .val (.int i5), .val (.int i6), .val (.ref o7), .val (.int i8), .val (.int i9), .val (.int (0 : Int32))] [(.int (0 : Int32))])) _
            refine XS.ifYes X40.here hx rfl (pc0 := 322) (pc' := 346) rfl (hb hby at_322) rfl ((if0 _ _).trans (teq (by decide : ((0 : Int32) = (0 : Int32)))).1) (by decide) (by decide) kt
          refine own_step (T' := T40) (f' := (mkF m 351 #[.val (.int i0), .val (.int i1), .val (.int i2), .val (.int i3), .val (.int i4), .val (.int i5), .val (.int i6), .val (.ref o7), .val (.int i8), .val (.int i9), .val (.int (0 : Int32))] [(.int (0 : Int32))])) (fun t kt => ?_) ?_
          · show Steps p.tables e below (T40.setTop (mkF m 346 #[.val (.int i0), .val (.int i1), .val (.int i2), .val (.int i3), .val (.int i4), .val (.int i5), .val (.int i6), .val (.ref o7), .val (.int i8), .val (.int i9), .val (.int (0 : Int32))] [])) _
            refine XS.iconst X40.here hx rfl (hb hby at_346) ?_
            show Steps p.tables e below (T40.setTop (mkF m 347 #[.val (.int i0), .val (.int i1), .val (.int i2), .val (.int i3), .val (.int i4), .val (.int i5), .val (.int i6), .val (.ref o7), .val (.int i8), .val (.int i9), .val (.int (0 : Int32))] [(.int (0 : Int32))])) _
            refine XS.istore X40.here hx rfl (hb hby at_347) rfl (l' := #[.val (.int i0), .val (.int i1), .val (.int i2), .val (.int i3), .val (.int i4), .val (.int i5), .val (.int i6), .val (.ref o7), .val (.int i8), .val (.int i9), .val (.int (0 : Int32))]) rfl ?_
            show Steps p.tables e below (T40.setTop (mkF m 349 #[.val (.int i0), .val (.int i1), .val (.int i2), .val (.int i3), .val (.int i4), .val (.int i5), .val (.int i6), .val (.ref o7), .val (.int i8), .val (.int i9), .val (.int (0 : Int32))] [])) _
            refine XS.iload X40.here hx rfl (hb hby at_349) rfl ?_
            exact kt
          refine own_step (T' := T40) (f' := (mkF m 376 #[.val (.int i0), .val (.int i1), .val (.int i2), .val (.int i3), .val (.int i4), .val (.int i5), .val (.int i6), .val (.ref o7), .val (.int i8), .val (.int i9), .val (.int (0 : Int32))] [])) (fun t kt => ?_) ?_
          · show Steps p.tables e below (T40.setTop (mkF m 351 #[.val (.int i0), .val (.int i1), .val (.int i2), .val (.int i3), .val (.int i4), .val (.int i5), .val (.int i6), .val (.ref o7), .val (.int i8), .val (.int i9), .val (.int (0 : Int32))] [(.int (0 : Int32))])) _
            refine XS.ifYes X40.here hx rfl (pc0 := 351) (pc' := 376) rfl (hb hby at_351) rfl ((if0 _ _).trans (teq (by decide : ((0 : Int32) = (0 : Int32)))).1) (by decide) (by decide) kt
          refine own_step (T' := T40) (f' := (mkF m 381 #[.val (.int i0), .val (.int i1), .val (.int i2), .val (.int i3), .val (.int i4), .val (.int i5), .val (.int i6), .val (.ref o7), .val (.int i8), .val (.int i9), .val (.int (0 : Int32))] [(.int (0 : Int32))])) (fun t kt => ?_) ?_
          · show Steps p.tables e below (T40.setTop (mkF m 376 #[.val (.int i0), .val (.int i1), .val (.int i2), .val (.int i3), .val (.int i4), .val (.int i5), .val (.int i6), .val (.ref o7), .val (.int i8), .val (.int i9), .val (.int (0 : Int32))] [])) _
            refine XS.iconst X40.here hx rfl (hb hby at_376) ?_
            show Steps p.tables e below (T40.setTop (mkF m 377 #[.val (.int i0), .val (.int i1), .val (.int i2), .val (.int i3), .val (.int i4), .val (.int i5), .val (.int i6), .val (.ref o7), .val (.int i8), .val (.int i9), .val (.int (0 : Int32))] [(.int (0 : Int32))])) _
            refine XS.istore X40.here hx rfl (hb hby at_377) rfl (l' := #[.val (.int i0), .val (.int i1), .val (.int i2), .val (.int i3), .val (.int i4), .val (.int i5), .val (.int i6), .val (.ref o7), .val (.int i8), .val (.int i9), .val (.int (0 : Int32))]) rfl ?_
            show Steps p.tables e below (T40.setTop (mkF m 379 #[.val (.int i0), .val (.int i1), .val (.int i2), .val (.int i3), .val (.int i4), .val (.int i5), .val (.int i6), .val (.ref o7), .val (.int i8), .val (.int i9), .val (.int (0 : Int32))] [])) _
            refine XS.iload X40.here hx rfl (hb hby at_379) rfl ?_
            exact kt
          refine own_step (T' := T40) (f' := (mkF m 406 #[.val (.int i0), .val (.int i1), .val (.int i2), .val (.int i3), .val (.int i4), .val (.int i5), .val (.int i6), .val (.ref o7), .val (.int i8), .val (.int i9), .val (.int (0 : Int32))] [])) (fun t kt => ?_) ?_
          · show Steps p.tables e below (T40.setTop (mkF m 381 #[.val (.int i0), .val (.int i1), .val (.int i2), .val (.int i3), .val (.int i4), .val (.int i5), .val (.int i6), .val (.ref o7), .val (.int i8), .val (.int i9), .val (.int (0 : Int32))] [(.int (0 : Int32))])) _
            refine XS.ifYes X40.here hx rfl (pc0 := 381) (pc' := 406) rfl (hb hby at_381) rfl ((if0 _ _).trans (teq (by decide : ((0 : Int32) = (0 : Int32)))).1) (by decide) (by decide) kt
          refine own_step (T' := T40) (f' := (mkF m 411 #[.val (.int i0), .val (.int i1), .val (.int i2), .val (.int i3), .val (.int i4), .val (.int i5), .val (.int i6), .val (.ref o7), .val (.int i8), .val (.int i9), .val (.int (0 : Int32))] [(.int (0 : Int32))])) (fun t kt => ?_) ?_
          · show Steps p.tables e below (T40.setTop (mkF m 406 #[.val (.int i0), .val (.int i1), .val (.int i2), .val (.int i3), .val (.int i4), .val (.int i5), .val (.int i6), .val (.ref o7), .val (.int i8), .val (.int i9), .val (.int (0 : Int32))] [])) _
            refine XS.iconst X40.here hx rfl (hb hby at_406) ?_
            show Steps p.tables e below (T40.setTop (mkF m 407 #[.val (.int i0), .val (.int i1), .val (.int i2), .val (.int i3), .val (.int i4), .val (.int i5), .val (.int i6), .val (.ref o7), .val (.int i8), .val (.int i9), .val (.int (0 : Int32))] [(.int (0 : Int32))])) _
            refine XS.istore X40.here hx rfl (hb hby at_407) rfl (l' := #[.val (.int i0), .val (.int i1), .val (.int i2), .val (.int i3), .val (.int i4), .val (.int i5), .val (.int i6), .val (.ref o7), .val (.int i8), .val (.int i9), .val (.int (0 : Int32))]) rfl ?_
            show Steps p.tables e below (T40.setTop (mkF m 409 #[.val (.int i0), .val (.int i1), .val (.int i2), .val (.int i3), .val (.int i4), .val (.int i5), .val (.int i6), .val (.ref o7), .val (.int i8), .val (.int i9), .val (.int (0 : Int32))] [])) _
            refine XS.iload X40.here hx rfl (hb hby at_409) rfl ?_
            exact kt
          refine own_step (T' := T40) (f' := (mkF m 436 #[.val (.int i0), .val (.int i1), .val (.int i2), .val (.int i3), .val (.int i4), .val (.int i5), .val (.int i6), .val (.ref o7), .val (.int i8), .val (.int i9), .val (.int (0 : Int32))] [])) (fun t kt => ?_) ?_
          · show Steps p.tables e below (T40.setTop (mkF m 411 #[.val (.int i0), .val (.int i1), .val (.int i2), .val (.int i3), .val (.int i4), .val (.int i5), .val (.int i6), .val (.ref o7), .val (.int i8), .val (.int i9), .val (.int (0 : Int32))] [(.int (0 : Int32))])) _
            refine XS.ifYes X40.here hx rfl (pc0 := 411) (pc' := 436) rfl (hb hby at_411) rfl ((if0 _ _).trans (teq (by decide : ((0 : Int32) = (0 : Int32)))).1) (by decide) (by decide) kt
          refine own_step (T' := T40) (f' := (mkF m 441 #[.val (.int i0), .val (.int i1), .val (.int i2), .val (.int i3), .val (.int i4), .val (.int i5), .val (.int i6), .val (.ref o7), .val (.int i8), .val (.int i9), .val (.int (0 : Int32))] [(.int (0 : Int32))])) (fun t kt => ?_) ?_
          · show Steps p.tables e below (T40.setTop (mkF m 436 #[.val (.int i0), .val (.int i1), .val (.int i2), .val (.int i3), .val (.int i4), .val (.int i5), .val (.int i6), .val (.ref o7), .val (.int i8), .val (.int i9), .val (.int (0 : Int32))] [])) _
            refine XS.iconst X40.here hx rfl (hb hby at_436) ?_
            show Steps p.tables e below (T40.setTop (mkF m 437 #[.val (.int i0), .val (.int i1), .val (.int i2), .val (.int i3), .val (.int i4), .val (.int i5), .val (.int i6), .val (.ref o7), .val (.int i8), .val (.int i9), .val (.int (0 : Int32))] [(.int (0 : Int32))])) _
            refine XS.istore X40.here hx rfl (hb hby at_437) rfl (l' := #[.val (.int i0), .val (.int i1), .val (.int i2), .val (.int i3), .val (.int i4), .val (.int i5), .val (.int i6), .val (.ref o7), .val (.int i8), .val (.int i9), .val (.int (0 : Int32))]) rfl ?_
            show Steps p.tables e below (T40.setTop (mkF m 439 #[.val (.int i0), .val (.int i1), .val (.int i2), .val (.int i3), .val (.int i4), .val (.int i5), .val (.int i6), .val (.ref o7), .val (.int i8), .val (.int i9), .val (.int (0 : Int32))] [])) _
            refine XS.iload X40.here hx rfl (hb hby at_439) rfl ?_
            exact kt
          refine own_step (T' := T40) (f' := (mkF m 466 #[.val (.int i0), .val (.int i1), .val (.int i2), .val (.int i3), .val (.int i4), .val (.int i5), .val (.int i6), .val (.ref o7), .val (.int i8), .val (.int i9), .val (.int (0 : Int32))] [])) (fun t kt => ?_) ?_
          · show Steps p.tables e below (T40.setTop (mkF m 441 #[.val (.int i0), .val (.int i1), .val (.int i2), .val (.int i3), .val (.int i4), .val (.int i5), .val (.int i6), .val (.ref o7), .val (.int i8), .val (.int i9), .val (.int (0 : Int32))] [(.int (0 : Int32))])) _
            refine XS.ifYes X40.here hx rfl (pc0 := 441) (pc' := 466) rfl (hb hby at_441) rfl ((if0 _ _).trans (teq (by decide : ((0 : Int32) = (0 : Int32)))).1) (by decide) (by decide) kt
          refine own_step (T' := T40) (f' := (mkF m 471 #[.val (.int i0), .val (.int i1), .val (.int i2), .val (.int i3), .val (.int i4), .val (.int i5), .val (.int i6), .val (.ref o7), .val (.int i8), .val (.int i9), .val (.int (0 : Int32))] [(.int (0 : Int32))])) (fun t kt => ?_) ?_
          · show Steps p.tables e below (T40.setTop (mkF m 466 #[.val (.int i0), .val (.int i1), .val (.int i2), .val (.int i3), .val (.int i4), .val (.int i5), .val (.int i6), .val (.ref o7), .val (.int i8), .val (.int i9), .val (.int (0 : Int32))] [])) _
            refine XS.iconst X40.here hx rfl (hb hby at_466) ?_
            show Steps p.tables e below (T40.setTop (mkF m 467 #[.val (.int i0), .val (.int i1), .val (.int i2), .val (.int i3), .val (.int i4), .val (.int i5), .val (.int i6), .val (.ref o7), .val (.int i8), .val (.int i9), .val (.int (0 : Int32))] [(.int (0 : Int32))])) _
            refine XS.istore X40.here hx rfl (hb hby at_467) rfl (l' := #[.val (.int i0), .val (.int i1), .val (.int i2), .val (.int i3), .val (.int i4), .val (.int i5), .val (.int i6), .val (.ref o7), .val (.int i8), .val (.int i9), .val (.int (0 : Int32))]) rfl ?_
            show Steps p.tables e below (T40.setTop (mkF m 469 #[.val (.int i0), .val (.int i1), .val (.int i2), .val (.int i3), .val (.int i4), .val (.int i5), .val (.int i6), .val (.ref o7), .val (.int i8), .val (.int i9), .val (.int (0 : Int32))] [])) _
            refine XS.iload X40.here hx rfl (hb hby at_469) rfl ?_
            exact kt
          exact own_retZ X40 hx hret (by simp) hlk (hb hby at_471) (by decide) (by decide) ⟨congrArg (fun z => some (Value.int z)) hr.symm, N40⟩
        · replace hr := hr.trans (if_neg hc252_41)
          refine own_step (T' := T40) (f' := (mkF m 255 #[.val (.int i0), .val (.int i1), .val (.int i2), .val (.int i3), .val (.int i4), .val (.int i5), .val (.int i6), .val (.ref o7), .val (.int i8), .val (.int i9), .val (.int (1 : Int32))] [])) (fun t kt => ?_) ?_
          · show Steps p.tables e below (T40.setTop (mkF m 252 #[.val (.int i0), .val (.int i1), .val (.int i2), .val (.int i3), .val (.int i4), .val (.int i5), .val (.int i6), .val (.ref o7), .val (.int i8), .val (.int i9), .val (.int (1 : Int32))] [(.int (f2_0 (2 : Int32) i5 i9 i4 i6 xo7_2))])) _
            refine XS.ifNo X40.here hx rfl (hb hby at_252) rfl ((if0 _ _).trans (feq hc252_41).1) kt
          refine own_step (T' := T40) (f' := (mkF m 264 #[.val (.int i0), .val (.int i1), .val (.int i2), .val (.int i3), .val (.int i4), .val (.int i5), .val (.int i6), .val (.ref o7), .val (.int i8), .val (.int i9), .val (.int (1 : Int32))] [(.int (1 : Int32))])) (fun t kt => ?_) ?_
          · show Steps p.tables e below (T40.setTop (mkF m 255 #[.val (.int i0), .val (.int i1), .val (.int i2), .val (.int i3), .val (.int i4), .val (.int i5), .val (.int i6), .val (.ref o7), .val (.int i8), .val (.int i9), .val (.int (1 : Int32))] [])) _
            refine XS.iconst X40.here hx rfl (hb hby at_255) ?_
            show Steps p.tables e below (T40.setTop (mkF m 256 #[.val (.int i0), .val (.int i1), .val (.int i2), .val (.int i3), .val (.int i4), .val (.int i5), .val (.int i6), .val (.ref o7), .val (.int i8), .val (.int i9), .val (.int (1 : Int32))] [(.int (1 : Int32))])) _
            refine XS.goto X40.here hx rfl (pc0 := 256) (pc' := 260) rfl (hb hby at_256) (by decide) (by decide) ?_
            show Steps p.tables e below (T40.setTop (mkF m 260 #[.val (.int i0), .val (.int i1), .val (.int i2), .val (.int i3), .val (.int i4), .val (.int i5), .val (.int i6), .val (.ref o7), .val (.int i8), .val (.int i9), .val (.int (1 : Int32))] [(.int (1 : Int32))])) _
            refine XS.istore X40.here hx rfl (hb hby at_260) rfl (l' := #[.val (.int i0), .val (.int i1), .val (.int i2), .val (.int i3), .val (.int i4), .val (.int i5), .val (.int i6), .val (.ref o7), .val (.int i8), .val (.int i9), .val (.int (1 : Int32))]) rfl ?_
            show Steps p.tables e below (T40.setTop (mkF m 262 #[.val (.int i0), .val (.int i1), .val (.int i2), .val (.int i3), .val (.int i4), .val (.int i5), .val (.int i6), .val (.ref o7), .val (.int i8), .val (.int i9), .val (.int (1 : Int32))] [])) _
            refine XS.iload X40.here hx rfl (hb hby at_262) rfl ?_
            exact kt
          refine own_step (T' := T40) (f' := (mkF m 267 #[.val (.int i0), .val (.int i1), .val (.int i2), .val (.int i3), .val (.int i4), .val (.int i5), .val (.int i6), .val (.ref o7), .val (.int i8), .val (.int i9), .val (.int (1 : Int32))] [])) (fun t kt => ?_) ?_
          · show Steps p.tables e below (T40.setTop (mkF m 264 #[.val (.int i0), .val (.int i1), .val (.int i2), .val (.int i3), .val (.int i4), .val (.int i5), .val (.int i6), .val (.ref o7), .val (.int i8), .val (.int i9), .val (.int (1 : Int32))] [(.int (1 : Int32))])) _
            refine XS.ifNo X40.here hx rfl (hb hby at_264) rfl ((if0 _ _).trans (feq (by decide : ¬ ((1 : Int32) = (0 : Int32)))).1) kt
          refine own_step (T' := T40) (f' := (mkF m 278 #[.val (.int i0), .val (.int i1), .val (.int i2), .val (.int i3), .val (.int i4), .val (.int i5), .val (.int i6), .val (.ref o7), .val (.int i8), .val (.int i9), .val (.int (1 : Int32))] [(.int i6), (.int i4), (.int i9), (.int i5), (.int (3 : Int32)), (.ref o7)])) (fun t kt => ?_) ?_
          · show Steps p.tables e below (T40.setTop (mkF m 267 #[.val (.int i0), .val (.int i1), .val (.int i2), .val (.int i3), .val (.int i4), .val (.int i5), .val (.int i6), .val (.ref o7), .val (.int i8), .val (.int i9), .val (.int (1 : Int32))] [])) _
            refine XS.aload X40.here hx rfl (hb hby at_267) rfl rfl ?_
            show Steps p.tables e below (T40.setTop (mkF m 269 #[.val (.int i0), .val (.int i1), .val (.int i2), .val (.int i3), .val (.int i4), .val (.int i5), .val (.int i6), .val (.ref o7), .val (.int i8), .val (.int i9), .val (.int (1 : Int32))] [(.ref o7)])) _
            refine XS.iconst X40.here hx rfl (hb hby at_269) ?_
            show Steps p.tables e below (T40.setTop (mkF m 270 #[.val (.int i0), .val (.int i1), .val (.int i2), .val (.int i3), .val (.int i4), .val (.int i5), .val (.int i6), .val (.ref o7), .val (.int i8), .val (.int i9), .val (.int (1 : Int32))] [(.int (3 : Int32)), (.ref o7)])) _
            refine XS.iload X40.here hx rfl (hb hby at_270) rfl ?_
            show Steps p.tables e below (T40.setTop (mkF m 272 #[.val (.int i0), .val (.int i1), .val (.int i2), .val (.int i3), .val (.int i4), .val (.int i5), .val (.int i6), .val (.ref o7), .val (.int i8), .val (.int i9), .val (.int (1 : Int32))] [(.int i5), (.int (3 : Int32)), (.ref o7)])) _
            refine XS.iload X40.here hx rfl (hb hby at_272) rfl ?_
            show Steps p.tables e below (T40.setTop (mkF m 274 #[.val (.int i0), .val (.int i1), .val (.int i2), .val (.int i3), .val (.int i4), .val (.int i5), .val (.int i6), .val (.ref o7), .val (.int i8), .val (.int i9), .val (.int (1 : Int32))] [(.int i9), (.int i5), (.int (3 : Int32)), (.ref o7)])) _
            refine XS.iload X40.here hx rfl (hb hby at_274) rfl ?_
            show Steps p.tables e below (T40.setTop (mkF m 276 #[.val (.int i0), .val (.int i1), .val (.int i2), .val (.int i3), .val (.int i4), .val (.int i5), .val (.int i6), .val (.ref o7), .val (.int i8), .val (.int i9), .val (.int (1 : Int32))] [(.int i4), (.int i9), (.int i5), (.int (3 : Int32)), (.ref o7)])) _
            refine XS.iload X40.here hx rfl (hb hby at_276) rfl ?_
            exact kt
          obtain ⟨_, _, ⟨T50, L50, k50, n50⟩, -, X50, ⟨Lc50, hQ50, l50, y50, z50⟩, st50⟩ := Jvm.LawKit.callS X40 hx (y := (⟨"hotstate/sort/VarIntsWritePinLaw", "cell", "([BIIIIB)Z"⟩ : MethodName)) hown (mvT hZ (hw _ (List.mem_of_getElem? (i := 6) rfl))) (mvT hZ (hw _ (List.mem_of_getElem? (i := 7) rfl))) (mvT hZ (hw _ (List.mem_of_getElem? (i := 8) rfl))) (mvT hZ (hw _ (List.mem_of_getElem? (i := 9) rfl))) (by decide) (backOf (W := 0) (rm2 l Z a0 hw [] o7 (3 : Int32) i5 i9 i4 i6 xo7_3 [(.int xo7_0), (.int xo7_1), (.int xo7_2), (.int xo7_3), (.int xo7_4), (.int xo7_5), (.int xo7_6), (.int xo7_7), (.int xo7_8), (.int xo7_9)] h0 n0 Ao7 (by decide) rfl) hZ (hw _ (List.mem_of_getElem? (i := 9) rfl)) (hw _ (List.mem_of_getElem? (i := 8) rfl)) (by decide) (by decide)) (g := (mkF m 278 #[.val (.int i0), .val (.int i1), .val (.int i2), .val (.int i3), .val (.int i4), .val (.int i5), .val (.int i6), .val (.ref o7), .val (.int i8), .val (.int i9), .val (.int (1 : Int32))] [(.int i6), (.int i4), (.int i9), (.int i5), (.int (3 : Int32)), (.ref o7)])) rfl (by rw [hml]; rfl) (argsL := [(.ref o7), (.int (3 : Int32)), (.int i5), (.int i9), (.int i4), (.int i6)]) (rest := []) (lenOf pd2 rfl) rfl (by show 2 * 0 + _ ≤ _; exact Nat.le_of_eq rfl) (hb hby at_278) (fun _ _ => ⟨rfl, e40, (by decide : 1 + 0 ≤ _), (by decide : 10 + 0 ≤ _)⟩)
          dsimp only [Pt.U, Pt.locs, Pt.cells, Pt.slots] at X50 l50 y50 z50 st50 hQ50
          subst l50 y50 z50
          obtain ⟨rfl, Nq50, e50⟩ := hQ50
          have N50 := Fr.app N40 Nq50
          refine own_step (T' := T50) (f' := (mkF m 281 #[.val (.int i0), .val (.int i1), .val (.int i2), .val (.int i3), .val (.int i4), .val (.int i5), .val (.int i6), .val (.ref o7), .val (.int i8), .val (.int i9), .val (.int (1 : Int32))] [(.int (f2_0 (3 : Int32) i5 i9 i4 i6 xo7_3))])) st50 ?_
          by_cases hc281_51 : (f2_0 (3 : Int32) i5 i9 i4 i6 xo7_3) = (0 : Int32)
          · replace hr := hr.trans (if_pos hc281_51)
            refine own_step (T' := T50) (f' := (mkF m 288 #[.val (.int i0), .val (.int i1), .val (.int i2), .val (.int i3), .val (.int i4), .val (.int i5), .val (.int i6), .val (.ref o7), .val (.int i8), .val (.int i9), .val (.int (1 : Int32))] [])) (fun t kt => ?_) ?_
            · show Steps p.tables e below (T50.setTop (mkF m 281 #[.val (.int i0), .val (.int i1), .val (.int i2), .val (.int i3), .val (.int i4), .val (.int i5), .val (.int i6), .val (.ref o7), .val (.int i8), .val (.int i9), .val (.int (1 : Int32))] [(.int (f2_0 (3 : Int32) i5 i9 i4 i6 xo7_3))])) _
              refine XS.ifYes X50.here hx rfl (pc0 := 281) (pc' := 288) rfl (hb hby at_281) rfl ((if0 _ _).trans (teq hc281_51).1) (by decide) (by decide) kt
            refine own_step (T' := T50) (f' := (mkF m 293 #[.val (.int i0), .val (.int i1), .val (.int i2), .val (.int i3), .val (.int i4), .val (.int i5), .val (.int i6), .val (.ref o7), .val (.int i8), .val (.int i9), .val (.int (0 : Int32))] [(.int (0 : Int32))])) (fun t kt => ?_) ?_
            · show Steps p.tables e below (T50.setTop (mkF m 288 #[.val (.int i0), .val (.int i1), .val (.int i2), .val (.int i3), .val (.int i4), .val (.int i5), .val (.int i6), .val (.ref o7), .val (.int i8), .val (.int i9), .val (.int (1 : Int32))] [])) _
              refine XS.iconst X50.here hx rfl (hb hby at_288) ?_
              show Steps p.tables e below (T50.setTop (mkF m 289 #[.val (.int i0), .val (.int i1), .val (.int i2), .val (.int i3), .val (.int i4), .val (.int i5), .val (.int i6), .val (.ref o7), .val (.int i8), .val (.int i9), .val (.int (1 : Int32))] [(.int (0 : Int32))])) _
              refine XS.istore X50.here hx rfl (hb hby at_289) rfl (l' := #[.val (.int i0), .val (.int i1), .val (.int i2), .val (.int i3), .val (.int i4), .val (.int i5), .val (.int i6), .val (.ref o7), .val (.int i8), .val (.int i9), .val (.int (0 : Int32))]) rfl ?_
              show Steps p.tables e below (T50.setTop (mkF m 291 #[.val (.int i0), .val (.int i1), .val (.int i2), .val (.int i3), .val (.int i4), .val (.int i5), .val (.int i6), .val (.ref o7), .val (.int i8), .val (.int i9), .val (.int (0 : Int32))] [])) _
              refine XS.iload X50.here hx rfl (hb hby at_291) rfl ?_
              exact kt
            refine own_step (T' := T50) (f' := (mkF m 317 #[.val (.int i0), .val (.int i1), .val (.int i2), .val (.int i3), .val (.int i4), .val (.int i5), .val (.int i6), .val (.ref o7), .val (.int i8), .val (.int i9), .val (.int (0 : Int32))] [])) (fun t kt => ?_) ?_
            · show Steps p.tables e below (T50.setTop (mkF m 293 #[.val (.int i0), .val (.int i1), .val (.int i2), .val (.int i3), .val (.int i4), .val (.int i5), .val (.int i6), .val (.ref o7), .val (.int i8), .val (.int i9), .val (.int (0 : Int32))] [(.int (0 : Int32))])) _
              refine XS.ifYes X50.here hx rfl (pc0 := 293) (pc' := 317) rfl (hb hby at_293) rfl ((if0 _ _).trans (teq (by decide : ((0 : Int32) = (0 : Int32)))).1) (by decide) (by decide) kt
            refine own_step (T' := T50) (f' := (mkF m 322 #[.val (.int i0), .val (.int i1), .val (.int i2), .val (.int i3), .val (.int i4), .val (.int i5), .val (.int i6), .val (.ref o7), .val (.int i8), .val (.int i9), .val (.int (0 : Int32))] [(.int (0 : Int32))])) (fun t kt => ?_) ?_
            · show Steps p.tables e below (T50.setTop (mkF m 317 #[.val (.int i0), .val (.int i1), .val (.int i2), .val (.int i3), .val (.int i4), .val (.int i5), .val (.int i6), .val (.ref o7), .val (.int i8), .val (.int i9), .val (.int (0 : Int32))] [])) _
              refine XS.iconst X50.here hx rfl (hb hby at_317) ?_
              show Steps p.tables e below (T50.setTop (mkF m 318 #[.val (.int i0), .val (.int i1), .val (.int i2), .val (.int i3), .val (.int i4), .val (.int i5), .val (.int i6), .val (.ref o7), .val (.int i8), .val (.int i9), .val (.int (0 : Int32))] [(.int (0 : Int32))])) _
              refine XS.istore X50.here hx rfl (hb hby at_318) rfl (l' := #[.val (.int i0), .val (.int i1), .val (.int i2), .val (.int i3), .val (.int i4), .val (.int i5), .val (.int i6), .val (.ref o7), .val (.int i8), .val (.int i9), .val (.int (0 : Int32))]) rfl ?_
              show Steps p.tables e below (T50.setTop (mkF m 320 #[.val (.int i0), .val (.int i1), .val (.int i2), .val (.int i3), .val (.int i4), .val (.int i5), .val (.int i6), .val (.ref o7), .val (.int i8), .val (.int i9), .val (.int (0 : Int32))] [])) _
              refine XS.iload X50.here hx rfl (hb hby at_320) rfl ?_
              exact kt
            refine own_step (T' := T50) (f' := (mkF m 346 #[.val (.int i0), .val (.int i1), .val (.int i2), .val (.int i3), .val (.int i4), .val (.int i5), .val (.int i6), .val (.ref o7), .val (.int i8), .val (.int i9), .val (.int (0 : Int32))] [])) (fun t kt => ?_) ?_
            · show Steps p.tables e below (T50.setTop (mkF m 322 #[.val (.int i0), .val (.int i1), .val (.int i2), .val (.int i3), .val (.int i4), .val (.int i5), .val (.int i6), .val (.ref o7), .val (.int i8), .val (.int i9), .val (.int (0 : Int32))] [(.int (0 : Int32))])) _
              refine XS.ifYes X50.here hx rfl (pc0 := 322) (pc' := 346) rfl (hb hby at_322) rfl ((if0 _ _).trans (teq (by decide : ((0 : Int32) = (0 : Int32)))).1) (by decide) (by decide) kt
            refine own_step (T' := T50) (f' := (mkF m 351 #[.val (.int i0), .val (.int i1), .val (.int i2), .val (.int i3), .val (.int i4), .val (.int i5), .val (.int i6), .val (.ref o7), .val (.int i8), .val (.int i9), .val (.int (0 : Int32))] [(.int (0 : Int32))])) (fun t kt => ?_) ?_
            · show Steps p.tables e below (T50.setTop (mkF m 346 #[.val (.int i0), .val (.int i1), .val (.int i2), .val (.int i3), .val (.int i4), .val (.int i5), .val (.int i6), .val (.ref o7), .val (.int i8), .val (.int i9), .val (.int (0 : Int32))] [])) _
              refine XS.iconst X50.here hx rfl (hb hby at_346) ?_
              show Steps p.tables e below (T50.setTop (mkF m 347 #[.val (.int i0), .val (.int i1), .val (.int i2), .val (.int i3), .val (.int i4), .val (.int i5), .val (.int i6), .val (.ref o7), .val (.int i8), .val (.int i9), .val (.int (0 : Int32))] [(.int (0 : Int32))])) _
              refine XS.istore X50.here hx rfl (hb hby at_347) rfl (l' := #[.val (.int i0), .val (.int i1), .val (.int i2), .val (.int i3), .val (.int i4), .val (.int i5), .val (.int i6), .val (.ref o7), .val (.int i8), .val (.int i9), .val (.int (0 : Int32))]) rfl ?_
              show Steps p.tables e below (T50.setTop (mkF m 349 #[.val (.int i0), .val (.int i1), .val (.int i2), .val (.int i3), .val (.int i4), .val (.int i5), .val (.int i6), .val (.ref o7), .val (.int i8), .val (.int i9), .val (.int (0 : Int32))] [])) _
              refine XS.iload X50.here hx rfl (hb hby at_349) rfl ?_
              exact kt
            refine own_step (T' := T50) (f' := (mkF m 376 #[.val (.int i0), .val (.int i1), .val (.int i2), .val (.int i3), .val (.int i4), .val (.int i5), .val (.int i6), .val (.ref o7), .val (.int i8), .val (.int i9), .val (.int (0 : Int32))] [])) (fun t kt => ?_) ?_
            · show Steps p.tables e below (T50.setTop (mkF m 351 #[.val (.int i0), .val (.int i1), .val (.int i2), .val (.int i3), .val (.int i4), .val (.int i5), .val (.int i6), .val (.ref o7), .val (.int i8), .val (.int i9), .val (.int (0 : Int32))] [(.int (0 : Int32))])) _
              refine XS.ifYes X50.here hx rfl (pc0 := 351) (pc' := 376) rfl (hb hby at_351) rfl ((if0 _ _).trans (teq (by decide : ((0 : Int32) = (0 : Int32)))).1) (by decide) (by decide) kt
            refine own_step (T' := T50) (f' := (mkF m 381 #[.val (.int i0), .val (.int i1), .val (.int i2), .val (.int i3), .val (.int i4), .val (.int i5), .val (.int i6), .val (.ref o7), .val (.int i8), .val (.int i9), .val (.int (0 : Int32))] [(.int (0 : Int32))])) (fun t kt => ?_) ?_
            · show Steps p.tables e below (T50.setTop (mkF m 376 #[.val (.int i0), .val (.int i1), .val (.int i2), .val (.int i3), .val (.int i4), .val (.int i5), .val (.int i6), .val (.ref o7), .val (.int i8), .val (.int i9), .val (.int (0 : Int32))] [])) _
              refine XS.iconst X50.here hx rfl (hb hby at_376) ?_
              show Steps p.tables e below (T50.setTop (mkF m 377 #[.val (.int i0), .val (.int i1), .val (.int i2), .val (.int i3), .val (.int i4), .val (.int i5), .val (.int i6), .val (.ref o7), .val (.int i8), .val (.int i9), .val (.int (0 : Int32))] [(.int (0 : Int32))])) _
              refine XS.istore X50.here hx rfl (hb hby at_377) rfl (l' := #[.val (.int i0), .val (.int i1), .val (.int i2), .val (.int i3), .val (.int i4), .val (.int i5), .val (.int i6), .val (.ref o7), .val (.int i8), .val (.int i9), .val (.int (0 : Int32))]) rfl ?_
              show Steps p.tables e below (T50.setTop (mkF m 379 #[.val (.int i0), .val (.int i1), .val (.int i2), .val (.int i3), .val (.int i4), .val (.int i5), .val (.int i6), .val (.ref o7), .val (.int i8), .val (.int i9), .val (.int (0 : Int32))] [])) _
              refine XS.iload X50.here hx rfl (hb hby at_379) rfl ?_
              exact kt
            refine own_step (T' := T50) (f' := (mkF m 406 #[.val (.int i0), .val (.int i1), .val (.int i2), .val (.int i3), .val (.int i4), .val (.int i5), .val (.int i6), .val (.ref o7), .val (.int i8), .val (.int i9), .val (.int (0 : Int32))] [])) (fun t kt => ?_) ?_
            · show Steps p.tables e below (T50.setTop (mkF m 381 #[.val (.int i0), .val (.int i1), .val (.int i2), .val (.int i3), .val (.int i4), .val (.int i5), .val (.int i6), .val (.ref o7), .val (.int i8), .val (.int i9), .val (.int (0 : Int32))] [(.int (0 : Int32))])) _
              refine XS.ifYes X50.here hx rfl (pc0 := 381) (pc' := 406) rfl (hb hby at_381) rfl ((if0 _ _).trans (teq (by decide : ((0 : Int32) = (0 : Int32)))).1) (by decide) (by decide) kt
            refine own_step (T' := T50) (f' := (mkF m 411 #[.val (.int i0), .val (.int i1), .val (.int i2), .val (.int i3), .val (.int i4), .val (.int i5), .val (.int i6), .val (.ref o7), .val (.int i8), .val (.int i9), .val (.int (0 : Int32))] [(.int (0 : Int32))])) (fun t kt => ?_) ?_
            · show Steps p.tables e below (T50.setTop (mkF m 406 #[.val (.int i0), .val (.int i1), .val (.int i2), .val (.int i3), .val (.int i4), .val (.int i5), .val (.int i6), .val (.ref o7), .val (.int i8), .val (.int i9), .val (.int (0 : Int32))] [])) _
              refine XS.iconst X50.here hx rfl (hb hby at_406) ?_
              show Steps p.tables e below (T50.setTop (mkF m 407 #[.val (.int i0), .val (.int i1), .val (.int i2), .val (.int i3), .val (.int i4), .val (.int i5), .val (.int i6), .val (.ref o7), .val (.int i8), .val (.int i9), .val (.int (0 : Int32))] [(.int (0 : Int32))])) _
              refine XS.istore X50.here hx rfl (hb hby at_407) rfl (l' := #[.val (.int i0), .val (.int i1), .val (.int i2), .val (.int i3), .val (.int i4), .val (.int i5), .val (.int i6), .val (.ref o7), .val (.int i8), .val (.int i9), .val (.int (0 : Int32))]) rfl ?_
              show Steps p.tables e below (T50.setTop (mkF m 409 #[.val (.int i0), .val (.int i1), .val (.int i2), .val (.int i3), .val (.int i4), .val (.int i5), .val (.int i6), .val (.ref o7), .val (.int i8), .val (.int i9), .val (.int (0 : Int32))] [])) _
              refine XS.iload X50.here hx rfl (hb hby at_409) rfl ?_
              exact kt
            refine own_step (T' := T50) (f' := (mkF m 436 #[.val (.int i0), .val (.int i1), .val (.int i2), .val (.int i3), .val (.int i4), .val (.int i5), .val (.int i6), .val (.ref o7), .val (.int i8), .val (.int i9), .val (.int (0 : Int32))] [])) (fun t kt => ?_) ?_
            · show Steps p.tables e below (T50.setTop (mkF m 411 #[.val (.int i0), .val (.int i1), .val (.int i2), .val (.int i3), .val (.int i4), .val (.int i5), .val (.int i6), .val (.ref o7), .val (.int i8), .val (.int i9), .val (.int (0 : Int32))] [(.int (0 : Int32))])) _
              refine XS.ifYes X50.here hx rfl (pc0 := 411) (pc' := 436) rfl (hb hby at_411) rfl ((if0 _ _).trans (teq (by decide : ((0 : Int32) = (0 : Int32)))).1) (by decide) (by decide) kt
            refine own_step (T' := T50) (f' := (mkF m 441 #[.val (.int i0), .val (.int i1), .val (.int i2), .val (.int i3), .val (.int i4), .val (.int i5), .val (.int i6), .val (.ref o7), .val (.int i8), .val (.int i9), .val (.int (0 : Int32))] [(.int (0 : Int32))])) (fun t kt => ?_) ?_
            · show Steps p.tables e below (T50.setTop (mkF m 436 #[.val (.int i0), .val (.int i1), .val (.int i2), .val (.int i3), .val (.int i4), .val (.int i5), .val (.int i6), .val (.ref o7), .val (.int i8), .val (.int i9), .val (.int (0 : Int32))] [])) _
              refine XS.iconst X50.here hx rfl (hb hby at_436) ?_
              show Steps p.tables e below (T50.setTop (mkF m 437 #[.val (.int i0), .val (.int i1), .val (.int i2), .val (.int i3), .val (.int i4), .val (.int i5), .val (.int i6), .val (.ref o7), .val (.int i8), .val (.int i9), .val (.int (0 : Int32))] [(.int (0 : Int32))])) _
              refine XS.istore X50.here hx rfl (hb hby at_437) rfl (l' := #[.val (.int i0), .val (.int i1), .val (.int i2), .val (.int i3), .val (.int i4), .val (.int i5), .val (.int i6), .val (.ref o7), .val (.int i8), .val (.int i9), .val (.int (0 : Int32))]) rfl ?_
              show Steps p.tables e below (T50.setTop (mkF m 439 #[.val (.int i0), .val (.int i1), .val (.int i2), .val (.int i3), .val (.int i4), .val (.int i5), .val (.int i6), .val (.ref o7), .val (.int i8), .val (.int i9), .val (.int (0 : Int32))] [])) _
              refine XS.iload X50.here hx rfl (hb hby at_439) rfl ?_
              exact kt
            refine own_step (T' := T50) (f' := (mkF m 466 #[.val (.int i0), .val (.int i1), .val (.int i2), .val (.int i3), .val (.int i4), .val (.int i5), .val (.int i6), .val (.ref o7), .val (.int i8), .val (.int i9), .val (.int (0 : Int32))] [])) (fun t kt => ?_) ?_
            · show Steps p.tables e below (T50.setTop (mkF m 441 #[.val (.int i0), .val (.int i1), .val (.int i2), .val (.int i3), .val (.int i4), .val (.int i5), .val (.int i6), .val (.ref o7), .val (.int i8), .val (.int i9), .val (.int (0 : Int32))] [(.int (0 : Int32))])) _
              refine XS.ifYes X50.here hx rfl (pc0 := 441) (pc' := 466) rfl (hb hby at_441) rfl ((if0 _ _).trans (teq (by decide : ((0 : Int32) = (0 : Int32)))).1) (by decide) (by decide) kt
            refine own_step (T' := T50) (f' := (mkF m 471 #[.val (.int i0), .val (.int i1), .val (.int i2), .val (.int i3), .val (.int i4), .val (.int i5), .val (.int i6), .val (.ref o7), .val (.int i8), .val (.int i9), .val (.int (0 : Int32))] [(.int (0 : Int32))])) (fun t kt => ?_) ?_
            · show Steps p.tables e below (T50.setTop (mkF m 466 #[.val (.int i0), .val (.int i1), .val (.int i2), .val (.int i3), .val (.int i4), .val (.int i5), .val (.int i6), .val (.ref o7), .val (.int i8), .val (.int i9), .val (.int (0 : Int32))] [])) _
              refine XS.iconst X50.here hx rfl (hb hby at_466) ?_
              show Steps p.tables e below (T50.setTop (mkF m 467 #[.val (.int i0), .val (.int i1), .val (.int i2), .val (.int i3), .val (.int i4), .val (.int i5), .val (.int i6), .val (.ref o7), .val (.int i8), .val (.int i9), .val (.int (0 : Int32))] [(.int (0 : Int32))])) _
              refine XS.istore X50.here hx rfl (hb hby at_467) rfl (l' := #[.val (.int i0), .val (.int i1), .val (.int i2), .val (.int i3), .val (.int i4), .val (.int i5), .val (.int i6), .val (.ref o7), .val (.int i8), .val (.int i9), .val (.int (0 : Int32))]) rfl ?_
              show Steps p.tables e below (T50.setTop (mkF m 469 #[.val (.int i0), .val (.int i1), .val (.int i2), .val (.int i3), .val (.int i4), .val (.int i5), .val (.int i6), .val (.ref o7), .val (.int i8), .val (.int i9), .val (.int (0 : Int32))] [])) _
              refine XS.iload X50.here hx rfl (hb hby at_469) rfl ?_
              exact kt
            exact own_retZ X50 hx hret (by simp) hlk (hb hby at_471) (by decide) (by decide) ⟨congrArg (fun z => some (Value.int z)) hr.symm, N50⟩
          · replace hr := hr.trans (if_neg hc281_51)
            refine own_step (T' := T50) (f' := (mkF m 284 #[.val (.int i0), .val (.int i1), .val (.int i2), .val (.int i3), .val (.int i4), .val (.int i5), .val (.int i6), .val (.ref o7), .val (.int i8), .val (.int i9), .val (.int (1 : Int32))] [])) (fun t kt => ?_) ?_
            · show Steps p.tables e below (T50.setTop (mkF m 281 #[.val (.int i0), .val (.int i1), .val (.int i2), .val (.int i3), .val (.int i4), .val (.int i5), .val (.int i6), .val (.ref o7), .val (.int i8), .val (.int i9), .val (.int (1 : Int32))] [(.int (f2_0 (3 : Int32) i5 i9 i4 i6 xo7_3))])) _
              refine XS.ifNo X50.here hx rfl (hb hby at_281) rfl ((if0 _ _).trans (feq hc281_51).1) kt
            refine own_step (T' := T50) (f' := (mkF m 293 #[.val (.int i0), .val (.int i1), .val (.int i2), .val (.int i3), .val (.int i4), .val (.int i5), .val (.int i6), .val (.ref o7), .val (.int i8), .val (.int i9), .val (.int (1 : Int32))] [(.int (1 : Int32))])) (fun t kt => ?_) ?_
            · show Steps p.tables e below (T50.setTop (mkF m 284 #[.val (.int i0), .val (.int i1), .val (.int i2), .val (.int i3), .val (.int i4), .val (.int i5), .val (.int i6), .val (.ref o7), .val (.int i8), .val (.int i9), .val (.int (1 : Int32))] [])) _
              refine XS.iconst X50.here hx rfl (hb hby at_284) ?_
              show Steps p.tables e below (T50.setTop (mkF m 285 #[.val (.int i0), .val (.int i1), .val (.int i2), .val (.int i3), .val (.int i4), .val (.int i5), .val (.int i6), .val (.ref o7), .val (.int i8), .val (.int i9), .val (.int (1 : Int32))] [(.int (1 : Int32))])) _
              refine XS.goto X50.here hx rfl (pc0 := 285) (pc' := 289) rfl (hb hby at_285) (by decide) (by decide) ?_
              show Steps p.tables e below (T50.setTop (mkF m 289 #[.val (.int i0), .val (.int i1), .val (.int i2), .val (.int i3), .val (.int i4), .val (.int i5), .val (.int i6), .val (.ref o7), .val (.int i8), .val (.int i9), .val (.int (1 : Int32))] [(.int (1 : Int32))])) _
              refine XS.istore X50.here hx rfl (hb hby at_289) rfl (l' := #[.val (.int i0), .val (.int i1), .val (.int i2), .val (.int i3), .val (.int i4), .val (.int i5), .val (.int i6), .val (.ref o7), .val (.int i8), .val (.int i9), .val (.int (1 : Int32))]) rfl ?_
              show Steps p.tables e below (T50.setTop (mkF m 291 #[.val (.int i0), .val (.int i1), .val (.int i2), .val (.int i3), .val (.int i4), .val (.int i5), .val (.int i6), .val (.ref o7), .val (.int i8), .val (.int i9), .val (.int (1 : Int32))] [])) _
              refine XS.iload X50.here hx rfl (hb hby at_291) rfl ?_
              exact kt
            refine own_step (T' := T50) (f' := (mkF m 296 #[.val (.int i0), .val (.int i1), .val (.int i2), .val (.int i3), .val (.int i4), .val (.int i5), .val (.int i6), .val (.ref o7), .val (.int i8), .val (.int i9), .val (.int (1 : Int32))] [])) (fun t kt => ?_) ?_
            · show Steps p.tables e below (T50.setTop (mkF m 293 #[.val (.int i0), .val (.int i1), .val (.int i2), .val (.int i3), .val (.int i4), .val (.int i5), .val (.int i6), .val (.ref o7), .val (.int i8), .val (.int i9), .val (.int (1 : Int32))] [(.int (1 : Int32))])) _
              refine XS.ifNo X50.here hx rfl (hb hby at_293) rfl ((if0 _ _).trans (feq (by decide : ¬ ((1 : Int32) = (0 : Int32)))).1) kt
            refine own_step (T' := T50) (f' := (mkF m 307 #[.val (.int i0), .val (.int i1), .val (.int i2), .val (.int i3), .val (.int i4), .val (.int i5), .val (.int i6), .val (.ref o7), .val (.int i8), .val (.int i9), .val (.int (1 : Int32))] [(.int i6), (.int i4), (.int i9), (.int i5), (.int (4 : Int32)), (.ref o7)])) (fun t kt => ?_) ?_
            · show Steps p.tables e below (T50.setTop (mkF m 296 #[.val (.int i0), .val (.int i1), .val (.int i2), .val (.int i3), .val (.int i4), .val (.int i5), .val (.int i6), .val (.ref o7), .val (.int i8), .val (.int i9), .val (.int (1 : Int32))] [])) _
              refine XS.aload X50.here hx rfl (hb hby at_296) rfl rfl ?_
              show Steps p.tables e below (T50.setTop (mkF m 298 #[.val (.int i0), .val (.int i1), .val (.int i2), .val (.int i3), .val (.int i4), .val (.int i5), .val (.int i6), .val (.ref o7), .val (.int i8), .val (.int i9), .val (.int (1 : Int32))] [(.ref o7)])) _
              refine XS.iconst X50.here hx rfl (hb hby at_298) ?_
              show Steps p.tables e below (T50.setTop (mkF m 299 #[.val (.int i0), .val (.int i1), .val (.int i2), .val (.int i3), .val (.int i4), .val (.int i5), .val (.int i6), .val (.ref o7), .val (.int i8), .val (.int i9), .val (.int (1 : Int32))] [(.int (4 : Int32)), (.ref o7)])) _
              refine XS.iload X50.here hx rfl (hb hby at_299) rfl ?_
              show Steps p.tables e below (T50.setTop (mkF m 301 #[.val (.int i0), .val (.int i1), .val (.int i2), .val (.int i3), .val (.int i4), .val (.int i5), .val (.int i6), .val (.ref o7), .val (.int i8), .val (.int i9), .val (.int (1 : Int32))] [(.int i5), (.int (4 : Int32)), (.ref o7)])) _
              refine XS.iload X50.here hx rfl (hb hby at_301) rfl ?_
              show Steps p.tables e below (T50.setTop (mkF m 303 #[.val (.int i0), .val (.int i1), .val (.int i2), .val (.int i3), .val (.int i4), .val (.int i5), .val (.int i6), .val (.ref o7), .val (.int i8), .val (.int i9), .val (.int (1 : Int32))] [(.int i9), (.int i5), (.int (4 : Int32)), (.ref o7)])) _
              refine XS.iload X50.here hx rfl (hb hby at_303) rfl ?_
              show Steps p.tables e below (T50.setTop (mkF m 305 #[.val (.int i0), .val (.int i1), .val (.int i2), .val (.int i3), .val (.int i4), .val (.int i5), .val (.int i6), .val (.ref o7), .val (.int i8), .val (.int i9), .val (.int (1 : Int32))] [(.int i4), (.int i9), (.int i5), (.int (4 : Int32)), (.ref o7)])) _
              refine XS.iload X50.here hx rfl (hb hby at_305) rfl ?_
              exact kt
            obtain ⟨_, _, ⟨T59, L59, k59, n59⟩, -, X59, ⟨Lc59, hQ59, l59, y59, z59⟩, st59⟩ := Jvm.LawKit.callS X50 hx (y := (⟨"hotstate/sort/VarIntsWritePinLaw", "cell", "([BIIIIB)Z"⟩ : MethodName)) hown (mvT hZ (hw _ (List.mem_of_getElem? (i := 6) rfl))) (mvT hZ (hw _ (List.mem_of_getElem? (i := 7) rfl))) (mvT hZ (hw _ (List.mem_of_getElem? (i := 8) rfl))) (mvT hZ (hw _ (List.mem_of_getElem? (i := 9) rfl))) (by decide) (backOf (W := 0) (rm2 l Z a0 hw [] o7 (4 : Int32) i5 i9 i4 i6 xo7_4 [(.int xo7_0), (.int xo7_1), (.int xo7_2), (.int xo7_3), (.int xo7_4), (.int xo7_5), (.int xo7_6), (.int xo7_7), (.int xo7_8), (.int xo7_9)] h0 n0 Ao7 (by decide) rfl) hZ (hw _ (List.mem_of_getElem? (i := 9) rfl)) (hw _ (List.mem_of_getElem? (i := 8) rfl)) (by decide) (by decide)) (g := (mkF m 307 #[.val (.int i0), .val (.int i1), .val (.int i2), .val (.int i3), .val (.int i4), .val (.int i5), .val (.int i6), .val (.ref o7), .val (.int i8), .val (.int i9), .val (.int (1 : Int32))] [(.int i6), (.int i4), (.int i9), (.int i5), (.int (4 : Int32)), (.ref o7)])) rfl (by rw [hml]; rfl) (argsL := [(.ref o7), (.int (4 : Int32)), (.int i5), (.int i9), (.int i4), (.int i6)]) (rest := []) (lenOf pd2 rfl) rfl (by show 2 * 0 + _ ≤ _; exact Nat.le_of_eq rfl) (hb hby at_307) (fun _ _ => ⟨rfl, e50, (by decide : 1 + 0 ≤ _), (by decide : 10 + 0 ≤ _)⟩)
            dsimp only [Pt.U, Pt.locs, Pt.cells, Pt.slots] at X59 l59 y59 z59 st59 hQ59
            subst l59 y59 z59
            obtain ⟨rfl, Nq59, e59⟩ := hQ59
            have N59 := Fr.app N50 Nq59
            refine own_step (T' := T59) (f' := (mkF m 310 #[.val (.int i0), .val (.int i1), .val (.int i2), .val (.int i3), .val (.int i4), .val (.int i5), .val (.int i6), .val (.ref o7), .val (.int i8), .val (.int i9), .val (.int (1 : Int32))] [(.int (f2_0 (4 : Int32) i5 i9 i4 i6 xo7_4))])) st59 ?_
            by_cases hc310_60 : (f2_0 (4 : Int32) i5 i9 i4 i6 xo7_4) = (0 : Int32)
            · replace hr := hr.trans (if_pos hc310_60)
              refine own_step (T' := T59) (f' := (mkF m 317 #[.val (.int i0), .val (.int i1), .val (.int i2), .val (.int i3), .val (.int i4), .val (.int i5), .val (.int i6), .val (.ref o7), .val (.int i8), .val (.int i9), .val (.int (1 : Int32))] [])) (fun t kt => ?_) ?_
              · show Steps p.tables e below (T59.setTop (mkF m 310 #[.val (.int i0), .val (.int i1), .val (.int i2), .val (.int i3), .val (.int i4), .val (.int i5), .val (.int i6), .val (.ref o7), .val (.int i8), .val (.int i9), .val (.int (1 : Int32))] [(.int (f2_0 (4 : Int32) i5 i9 i4 i6 xo7_4))])) _
                refine XS.ifYes X59.here hx rfl (pc0 := 310) (pc' := 317) rfl (hb hby at_310) rfl ((if0 _ _).trans (teq hc310_60).1) (by decide) (by decide) kt
              refine own_step (T' := T59) (f' := (mkF m 322 #[.val (.int i0), .val (.int i1), .val (.int i2), .val (.int i3), .val (.int i4), .val (.int i5), .val (.int i6), .val (.ref o7), .val (.int i8), .val (.int i9), .val (.int (0 : Int32))] [(.int (0 : Int32))])) (fun t kt => ?_) ?_
              · show Steps p.tables e below (T59.setTop (mkF m 317 #[.val (.int i0), .val (.int i1), .val (.int i2), .val (.int i3), .val (.int i4), .val (.int i5), .val (.int i6), .val (.ref o7), .val (.int i8), .val (.int i9), .val (.int (1 : Int32))] [])) _
                refine XS.iconst X59.here hx rfl (hb hby at_317) ?_
                show Steps p.tables e below (T59.setTop (mkF m 318 #[.val (.int i0), .val (.int i1), .val (.int i2), .val (.int i3), .val (.int i4), .val (.int i5), .val (.int i6), .val (.ref o7), .val (.int i8), .val (.int i9), .val (.int (1 : Int32))] [(.int (0 : Int32))])) _
                refine XS.istore X59.here hx rfl (hb hby at_318) rfl (l' := #[.val (.int i0), .val (.int i1), .val (.int i2), .val (.int i3), .val (.int i4), .val (.int i5), .val (.int i6), .val (.ref o7), .val (.int i8), .val (.int i9), .val (.int (0 : Int32))]) rfl ?_
                show Steps p.tables e below (T59.setTop (mkF m 320 #[.val (.int i0), .val (.int i1), .val (.int i2), .val (.int i3), .val (.int i4), .val (.int i5), .val (.int i6), .val (.ref o7), .val (.int i8), .val (.int i9), .val (.int (0 : Int32))] [])) _
                refine XS.iload X59.here hx rfl (hb hby at_320) rfl ?_
                exact kt
              refine own_step (T' := T59) (f' := (mkF m 346 #[.val (.int i0), .val (.int i1), .val (.int i2), .val (.int i3), .val (.int i4), .val (.int i5), .val (.int i6), .val (.ref o7), .val (.int i8), .val (.int i9), .val (.int (0 : Int32))] [])) (fun t kt => ?_) ?_
              · show Steps p.tables e below (T59.setTop (mkF m 322 #[.val (.int i0), .val (.int i1), .val (.int i2), .val (.int i3), .val (.int i4), .val (.int i5), .val (.int i6), .val (.ref o7), .val (.int i8), .val (.int i9), .val (.int (0 : Int32))] [(.int (0 : Int32))])) _
                refine XS.ifYes X59.here hx rfl (pc0 := 322) (pc' := 346) rfl (hb hby at_322) rfl ((if0 _ _).trans (teq (by decide : ((0 : Int32) = (0 : Int32)))).1) (by decide) (by decide) kt
              refine own_step (T' := T59) (f' := (mkF m 351 #[.val (.int i0), .val (.int i1), .val (.int i2), .val (.int i3), .val (.int i4), .val (.int i5), .val (.int i6), .val (.ref o7), .val (.int i8), .val (.int i9), .val (.int (0 : Int32))] [(.int (0 : Int32))])) (fun t kt => ?_) ?_
              · show Steps p.tables e below (T59.setTop (mkF m 346 #[.val (.int i0), .val (.int i1), .val (.int i2), .val (.int i3), .val (.int i4), .val (.int i5), .val (.int i6), .val (.ref o7), .val (.int i8), .val (.int i9), .val (.int (0 : Int32))] [])) _
                refine XS.iconst X59.here hx rfl (hb hby at_346) ?_
                show Steps p.tables e below (T59.setTop (mkF m 347 #[.val (.int i0), .val (.int i1), .val (.int i2), .val (.int i3), .val (.int i4), .val (.int i5), .val (.int i6), .val (.ref o7), .val (.int i8), .val (.int i9), .val (.int (0 : Int32))] [(.int (0 : Int32))])) _
                refine XS.istore X59.here hx rfl (hb hby at_347) rfl (l' := #[.val (.int i0), .val (.int i1), .val (.int i2), .val (.int i3), .val (.int i4), .val (.int i5), .val (.int i6), .val (.ref o7), .val (.int i8), .val (.int i9), .val (.int (0 : Int32))]) rfl ?_
                show Steps p.tables e below (T59.setTop (mkF m 349 #[.val (.int i0), .val (.int i1), .val (.int i2), .val (.int i3), .val (.int i4), .val (.int i5), .val (.int i6), .val (.ref o7), .val (.int i8), .val (.int i9), .val (.int (0 : Int32))] [])) _
                refine XS.iload X59.here hx rfl (hb hby at_349) rfl ?_
                exact kt
              refine own_step (T' := T59) (f' := (mkF m 376 #[.val (.int i0), .val (.int i1), .val (.int i2), .val (.int i3), .val (.int i4), .val (.int i5), .val (.int i6), .val (.ref o7), .val (.int i8), .val (.int i9), .val (.int (0 : Int32))] [])) (fun t kt => ?_) ?_
              · show Steps p.tables e below (T59.setTop (mkF m 351 #[.val (.int i0), .val (.int i1), .val (.int i2), .val (.int i3), .val (.int i4), .val (.int i5), .val (.int i6), .val (.ref o7), .val (.int i8), .val (.int i9), .val (.int (0 : Int32))] [(.int (0 : Int32))])) _
                refine XS.ifYes X59.here hx rfl (pc0 := 351) (pc' := 376) rfl (hb hby at_351) rfl ((if0 _ _).trans (teq (by decide : ((0 : Int32) = (0 : Int32)))).1) (by decide) (by decide) kt
              refine own_step (T' := T59) (f' := (mkF m 381 #[.val (.int i0), .val (.int i1), .val (.int i2), .val (.int i3), .val (.int i4), .val (.int i5), .val (.int i6), .val (.ref o7), .val (.int i8), .val (.int i9), .val (.int (0 : Int32))] [(.int (0 : Int32))])) (fun t kt => ?_) ?_
              · show Steps p.tables e below (T59.setTop (mkF m 376 #[.val (.int i0), .val (.int i1), .val (.int i2), .val (.int i3), .val (.int i4), .val (.int i5), .val (.int i6), .val (.ref o7), .val (.int i8), .val (.int i9), .val (.int (0 : Int32))] [])) _
                refine XS.iconst X59.here hx rfl (hb hby at_376) ?_
                show Steps p.tables e below (T59.setTop (mkF m 377 #[.val (.int i0), .val (.int i1), .val (.int i2), .val (.int i3), .val (.int i4), .val (.int i5), .val (.int i6), .val (.ref o7), .val (.int i8), .val (.int i9), .val (.int (0 : Int32))] [(.int (0 : Int32))])) _
                refine XS.istore X59.here hx rfl (hb hby at_377) rfl (l' := #[.val (.int i0), .val (.int i1), .val (.int i2), .val (.int i3), .val (.int i4), .val (.int i5), .val (.int i6), .val (.ref o7), .val (.int i8), .val (.int i9), .val (.int (0 : Int32))]) rfl ?_
                show Steps p.tables e below (T59.setTop (mkF m 379 #[.val (.int i0), .val (.int i1), .val (.int i2), .val (.int i3), .val (.int i4), .val (.int i5), .val (.int i6), .val (.ref o7), .val (.int i8), .val (.int i9), .val (.int (0 : Int32))] [])) _
                refine XS.iload X59.here hx rfl (hb hby at_379) rfl ?_
                exact kt
              refine own_step (T' := T59) (f' := (mkF m 406 #[.val (.int i0), .val (.int i1), .val (.int i2), .val (.int i3), .val (.int i4), .val (.int i5), .val (.int i6), .val (.ref o7), .val (.int i8), .val (.int i9), .val (.int (0 : Int32))] [])) (fun t kt => ?_) ?_
              · show Steps p.tables e below (T59.setTop (mkF m 381 #[.val (.int i0), .val (.int i1), .val (.int i2), .val (.int i3), .val (.int i4), .val (.int i5), .val (.int i6), .val (.ref o7), .val (.int i8), .val (.int i9), .val (.int (0 : Int32))] [(.int (0 : Int32))])) _
                refine XS.ifYes X59.here hx rfl (pc0 := 381) (pc' := 406) rfl (hb hby at_381) rfl ((if0 _ _).trans (teq (by decide : ((0 : Int32) = (0 : Int32)))).1) (by decide) (by decide) kt
              refine own_step (T' := T59) (f' := (mkF m 411 #[.val (.int i0), .val (.int i1), .val (.int i2), .val (.int i3), .val (.int i4), .val (.int i5), .val (.int i6), .val (.ref o7), .val (.int i8), .val (.int i9), .val (.int (0 : Int32))] [(.int (0 : Int32))])) (fun t kt => ?_) ?_
              · show Steps p.tables e below (T59.setTop (mkF m 406 #[.val (.int i0), .val (.int i1), .val (.int i2), .val (.int i3), .val (.int i4), .val (.int i5), .val (.int i6), .val (.ref o7), .val (.int i8), .val (.int i9), .val (.int (0 : Int32))] [])) _
                refine XS.iconst X59.here hx rfl (hb hby at_406) ?_
                show Steps p.tables e below (T59.setTop (mkF m 407 #[.val (.int i0), .val (.int i1), .val (.int i2), .val (.int i3), .val (.int i4), .val (.int i5), .val (.int i6), .val (.ref o7), .val (.int i8), .val (.int i9), .val (.int (0 : Int32))] [(.int (0 : Int32))])) _
                refine XS.istore X59.here hx rfl (hb hby at_407) rfl (l' := #[.val (.int i0), .val (.int i1), .val (.int i2), .val (.int i3), .val (.int i4), .val (.int i5), .val (.int i6), .val (.ref o7), .val (.int i8), .val (.int i9), .val (.int (0 : Int32))]) rfl ?_
                show Steps p.tables e below (T59.setTop (mkF m 409 #[.val (.int i0), .val (.int i1), .val (.int i2), .val (.int i3), .val (.int i4), .val (.int i5), .val (.int i6), .val (.ref o7), .val (.int i8), .val (.int i9), .val (.int (0 : Int32))] [])) _
                refine XS.iload X59.here hx rfl (hb hby at_409) rfl ?_
                exact kt
              refine own_step (T' := T59) (f' := (mkF m 436 #[.val (.int i0), .val (.int i1), .val (.int i2), .val (.int i3), .val (.int i4), .val (.int i5), .val (.int i6), .val (.ref o7), .val (.int i8), .val (.int i9), .val (.int (0 : Int32))] [])) (fun t kt => ?_) ?_
              · show Steps p.tables e below (T59.setTop (mkF m 411 #[.val (.int i0), .val (.int i1), .val (.int i2), .val (.int i3), .val (.int i4), .val (.int i5), .val (.int i6), .val (.ref o7), .val (.int i8), .val (.int i9), .val (.int (0 : Int32))] [(.int (0 : Int32))])) _
                refine XS.ifYes X59.here hx rfl (pc0 := 411) (pc' := 436) rfl (hb hby at_411) rfl ((if0 _ _).trans (teq (by decide : ((0 : Int32) = (0 : Int32)))).1) (by decide) (by decide) kt
              refine own_step (T' := T59) (f' := (mkF m 441 #[.val (.int i0), .val (.int i1), .val (.int i2), .val (.int i3), .val (.int i4), .val (.int i5), .val (.int i6), .val (.ref o7), .val (.int i8), .val (.int i9), .val (.int (0 : Int32))] [(.int (0 : Int32))])) (fun t kt => ?_) ?_
              · show Steps p.tables e below (T59.setTop (mkF m 436 #[.val (.int i0), .val (.int i1), .val (.int i2), .val (.int i3), .val (.int i4), .val (.int i5), .val (.int i6), .val (.ref o7), .val (.int i8), .val (.int i9), .val (.int (0 : Int32))] [])) _
                refine XS.iconst X59.here hx rfl (hb hby at_436) ?_
                show Steps p.tables e below (T59.setTop (mkF m 437 #[.val (.int i0), .val (.int i1), .val (.int i2), .val (.int i3), .val (.int i4), .val (.int i5), .val (.int i6), .val (.ref o7), .val (.int i8), .val (.int i9), .val (.int (0 : Int32))] [(.int (0 : Int32))])) _
                refine XS.istore X59.here hx rfl (hb hby at_437) rfl (l' := #[.val (.int i0), .val (.int i1), .val (.int i2), .val (.int i3), .val (.int i4), .val (.int i5), .val (.int i6), .val (.ref o7), .val (.int i8), .val (.int i9), .val (.int (0 : Int32))]) rfl ?_
                show Steps p.tables e below (T59.setTop (mkF m 439 #[.val (.int i0), .val (.int i1), .val (.int i2), .val (.int i3), .val (.int i4), .val (.int i5), .val (.int i6), .val (.ref o7), .val (.int i8), .val (.int i9), .val (.int (0 : Int32))] [])) _
                refine XS.iload X59.here hx rfl (hb hby at_439) rfl ?_
                exact kt
              refine own_step (T' := T59) (f' := (mkF m 466 #[.val (.int i0), .val (.int i1), .val (.int i2), .val (.int i3), .val (.int i4), .val (.int i5), .val (.int i6), .val (.ref o7), .val (.int i8), .val (.int i9), .val (.int (0 : Int32))] [])) (fun t kt => ?_) ?_
              · show Steps p.tables e below (T59.setTop (mkF m 441 #[.val (.int i0), .val (.int i1), .val (.int i2), .val (.int i3), .val (.int i4), .val (.int i5), .val (.int i6), .val (.ref o7), .val (.int i8), .val (.int i9), .val (.int (0 : Int32))] [(.int (0 : Int32))])) _
                refine XS.ifYes X59.here hx rfl (pc0 := 441) (pc' := 466) rfl (hb hby at_441) rfl ((if0 _ _).trans (teq (by decide : ((0 : Int32) = (0 : Int32)))).1) (by decide) (by decide) kt
              refine own_step (T' := T59) (f' := (mkF m 471 #[.val (.int i0), .val (.int i1), .val (.int i2), .val (.int i3), .val (.int i4), .val (.int i5), .val (.int i6), .val (.ref o7), .val (.int i8), .val (.int i9), .val (.int (0 : Int32))] [(.int (0 : Int32))])) (fun t kt => ?_) ?_
              · show Steps p.tables e below (T59.setTop (mkF m 466 #[.val (.int i0), .val (.int i1), .val (.int i2), .val (.int i3), .val (.int i4), .val (.int i5), .val (.int i6), .val (.ref o7), .val (.int i8), .val (.int i9), .val (.int (0 : Int32))] [])) _
                refine XS.iconst X59.here hx rfl (hb hby at_466) ?_
                show Steps p.tables e below (T59.setTop (mkF m 467 #[.val (.int i0), .val (.int i1), .val (.int i2), .val (.int i3), .val (.int i4), .val (.int i5), .val (.int i6), .val (.ref o7), .val (.int i8), .val (.int i9), .val (.int (0 : Int32))] [(.int (0 : Int32))])) _
                refine XS.istore X59.here hx rfl (hb hby at_467) rfl (l' := #[.val (.int i0), .val (.int i1), .val (.int i2), .val (.int i3), .val (.int i4), .val (.int i5), .val (.int i6), .val (.ref o7), .val (.int i8), .val (.int i9), .val (.int (0 : Int32))]) rfl ?_
                show Steps p.tables e below (T59.setTop (mkF m 469 #[.val (.int i0), .val (.int i1), .val (.int i2), .val (.int i3), .val (.int i4), .val (.int i5), .val (.int i6), .val (.ref o7), .val (.int i8), .val (.int i9), .val (.int (0 : Int32))] [])) _
                refine XS.iload X59.here hx rfl (hb hby at_469) rfl ?_
                exact kt
              exact own_retZ X59 hx hret (by simp) hlk (hb hby at_471) (by decide) (by decide) ⟨congrArg (fun z => some (Value.int z)) hr.symm, N59⟩
            · replace hr := hr.trans (if_neg hc310_60)
              refine own_step (T' := T59) (f' := (mkF m 313 #[.val (.int i0), .val (.int i1), .val (.int i2), .val (.int i3), .val (.int i4), .val (.int i5), .val (.int i6), .val (.ref o7), .val (.int i8), .val (.int i9), .val (.int (1 : Int32))] [])) (fun t kt => ?_) ?_
              · show Steps p.tables e below (T59.setTop (mkF m 310 #[.val (.int i0), .val (.int i1), .val (.int i2), .val (.int i3), .val (.int i4), .val (.int i5), .val (.int i6), .val (.ref o7), .val (.int i8), .val (.int i9), .val (.int (1 : Int32))] [(.int (f2_0 (4 : Int32) i5 i9 i4 i6 xo7_4))])) _
                refine XS.ifNo X59.here hx rfl (hb hby at_310) rfl ((if0 _ _).trans (feq hc310_60).1) kt
              refine own_step (T' := T59) (f' := (mkF m 322 #[.val (.int i0), .val (.int i1), .val (.int i2), .val (.int i3), .val (.int i4), .val (.int i5), .val (.int i6), .val (.ref o7), .val (.int i8), .val (.int i9), .val (.int (1 : Int32))] [(.int (1 : Int32))])) (fun t kt => ?_) ?_
              · show Steps p.tables e below (T59.setTop (mkF m 313 #[.val (.int i0), .val (.int i1), .val (.int i2), .val (.int i3), .val (.int i4), .val (.int i5), .val (.int i6), .val (.ref o7), .val (.int i8), .val (.int i9), .val (.int (1 : Int32))] [])) _
                refine XS.iconst X59.here hx rfl (hb hby at_313) ?_
                show Steps p.tables e below (T59.setTop (mkF m 314 #[.val (.int i0), .val (.int i1), .val (.int i2), .val (.int i3), .val (.int i4), .val (.int i5), .val (.int i6), .val (.ref o7), .val (.int i8), .val (.int i9), .val (.int (1 : Int32))] [(.int (1 : Int32))])) _
                refine XS.goto X59.here hx rfl (pc0 := 314) (pc' := 318) rfl (hb hby at_314) (by decide) (by decide) ?_
                show Steps p.tables e below (T59.setTop (mkF m 318 #[.val (.int i0), .val (.int i1), .val (.int i2), .val (.int i3), .val (.int i4), .val (.int i5), .val (.int i6), .val (.ref o7), .val (.int i8), .val (.int i9), .val (.int (1 : Int32))] [(.int (1 : Int32))])) _
                refine XS.istore X59.here hx rfl (hb hby at_318) rfl (l' := #[.val (.int i0), .val (.int i1), .val (.int i2), .val (.int i3), .val (.int i4), .val (.int i5), .val (.int i6), .val (.ref o7), .val (.int i8), .val (.int i9), .val (.int (1 : Int32))]) rfl ?_
                show Steps p.tables e below (T59.setTop (mkF m 320 #[.val (.int i0), .val (.int i1), .val (.int i2), .val (.int i3), .val (.int i4), .val (.int i5), .val (.int i6), .val (.ref o7), .val (.int i8), .val (.int i9), .val (.int (1 : Int32))] [])) _
                refine XS.iload X59.here hx rfl (hb hby at_320) rfl ?_
                exact kt
              refine own_step (T' := T59) (f' := (mkF m 325 #[.val (.int i0), .val (.int i1), .val (.int i2), .val (.int i3), .val (.int i4), .val (.int i5), .val (.int i6), .val (.ref o7), .val (.int i8), .val (.int i9), .val (.int (1 : Int32))] [])) (fun t kt => ?_) ?_
              · show Steps p.tables e below (T59.setTop (mkF m 322 #[.val (.int i0), .val (.int i1), .val (.int i2), .val (.int i3), .val (.int i4), .val (.int i5), .val (.int i6), .val (.ref o7), .val (.int i8), .val (.int i9), .val (.int (1 : Int32))] [(.int (1 : Int32))])) _
                refine XS.ifNo X59.here hx rfl (hb hby at_322) rfl ((if0 _ _).trans (feq (by decide : ¬ ((1 : Int32) = (0 : Int32)))).1) kt
              refine own_step (T' := T59) (f' := (mkF m 336 #[.val (.int i0), .val (.int i1), .val (.int i2), .val (.int i3), .val (.int i4), .val (.int i5), .val (.int i6), .val (.ref o7), .val (.int i8), .val (.int i9), .val (.int (1 : Int32))] [(.int i6), (.int i4), (.int i9), (.int i5), (.int (5 : Int32)), (.ref o7)])) (fun t kt => ?_) ?_
              · show Steps p.tables e below (T59.setTop (mkF m 325 #[.val (.int i0), .val (.int i1), .val (.int i2), .val (.int i3), .val (.int i4), .val (.int i5), .val (.int i6), .val (.ref o7), .val (.int i8), .val (.int i9), .val (.int (1 : Int32))] [])) _
                refine XS.aload X59.here hx rfl (hb hby at_325) rfl rfl ?_
                show Steps p.tables e below (T59.setTop (mkF m 327 #[.val (.int i0), .val (.int i1), .val (.int i2), .val (.int i3), .val (.int i4), .val (.int i5), .val (.int i6), .val (.ref o7), .val (.int i8), .val (.int i9), .val (.int (1 : Int32))] [(.ref o7)])) _
                refine XS.iconst X59.here hx rfl (hb hby at_327) ?_
                show Steps p.tables e below (T59.setTop (mkF m 328 #[.val (.int i0), .val (.int i1), .val (.int i2), .val (.int i3), .val (.int i4), .val (.int i5), .val (.int i6), .val (.ref o7), .val (.int i8), .val (.int i9), .val (.int (1 : Int32))] [(.int (5 : Int32)), (.ref o7)])) _
                refine XS.iload X59.here hx rfl (hb hby at_328) rfl ?_
                show Steps p.tables e below (T59.setTop (mkF m 330 #[.val (.int i0), .val (.int i1), .val (.int i2), .val (.int i3), .val (.int i4), .val (.int i5), .val (.int i6), .val (.ref o7), .val (.int i8), .val (.int i9), .val (.int (1 : Int32))] [(.int i5), (.int (5 : Int32)), (.ref o7)])) _
                refine XS.iload X59.here hx rfl (hb hby at_330) rfl ?_
                show Steps p.tables e below (T59.setTop (mkF m 332 #[.val (.int i0), .val (.int i1), .val (.int i2), .val (.int i3), .val (.int i4), .val (.int i5), .val (.int i6), .val (.ref o7), .val (.int i8), .val (.int i9), .val (.int (1 : Int32))] [(.int i9), (.int i5), (.int (5 : Int32)), (.ref o7)])) _
                refine XS.iload X59.here hx rfl (hb hby at_332) rfl ?_
                show Steps p.tables e below (T59.setTop (mkF m 334 #[.val (.int i0), .val (.int i1), .val (.int i2), .val (.int i3), .val (.int i4), .val (.int i5), .val (.int i6), .val (.ref o7), .val (.int i8), .val (.int i9), .val (.int (1 : Int32))] [(.int i4), (.int i9), (.int i5), (.int (5 : Int32)), (.ref o7)])) _
                refine XS.iload X59.here hx rfl (hb hby at_334) rfl ?_
                exact kt
              obtain ⟨_, _, ⟨T67, L67, k67, n67⟩, -, X67, ⟨Lc67, hQ67, l67, y67, z67⟩, st67⟩ := Jvm.LawKit.callS X59 hx (y := (⟨"hotstate/sort/VarIntsWritePinLaw", "cell", "([BIIIIB)Z"⟩ : MethodName)) hown (mvT hZ (hw _ (List.mem_of_getElem? (i := 6) rfl))) (mvT hZ (hw _ (List.mem_of_getElem? (i := 7) rfl))) (mvT hZ (hw _ (List.mem_of_getElem? (i := 8) rfl))) (mvT hZ (hw _ (List.mem_of_getElem? (i := 9) rfl))) (by decide) (backOf (W := 0) (rm2 l Z a0 hw [] o7 (5 : Int32) i5 i9 i4 i6 xo7_5 [(.int xo7_0), (.int xo7_1), (.int xo7_2), (.int xo7_3), (.int xo7_4), (.int xo7_5), (.int xo7_6), (.int xo7_7), (.int xo7_8), (.int xo7_9)] h0 n0 Ao7 (by decide) rfl) hZ (hw _ (List.mem_of_getElem? (i := 9) rfl)) (hw _ (List.mem_of_getElem? (i := 8) rfl)) (by decide) (by decide)) (g := (mkF m 336 #[.val (.int i0), .val (.int i1), .val (.int i2), .val (.int i3), .val (.int i4), .val (.int i5), .val (.int i6), .val (.ref o7), .val (.int i8), .val (.int i9), .val (.int (1 : Int32))] [(.int i6), (.int i4), (.int i9), (.int i5), (.int (5 : Int32)), (.ref o7)])) rfl (by rw [hml]; rfl) (argsL := [(.ref o7), (.int (5 : Int32)), (.int i5), (.int i9), (.int i4), (.int i6)]) (rest := []) (lenOf pd2 rfl) rfl (by show 2 * 0 + _ ≤ _; exact Nat.le_of_eq rfl) (hb hby at_336) (fun _ _ => ⟨rfl, e59, (by decide : 1 + 0 ≤ _), (by decide : 10 + 0 ≤ _)⟩)
              dsimp only [Pt.U, Pt.locs, Pt.cells, Pt.slots] at X67 l67 y67 z67 st67 hQ67
              subst l67 y67 z67
              obtain ⟨rfl, Nq67, e67⟩ := hQ67
              have N67 := Fr.app N59 Nq67
              refine own_step (T' := T67) (f' := (mkF m 339 #[.val (.int i0), .val (.int i1), .val (.int i2), .val (.int i3), .val (.int i4), .val (.int i5), .val (.int i6), .val (.ref o7), .val (.int i8), .val (.int i9), .val (.int (1 : Int32))] [(.int (f2_0 (5 : Int32) i5 i9 i4 i6 xo7_5))])) st67 ?_
              by_cases hc339_68 : (f2_0 (5 : Int32) i5 i9 i4 i6 xo7_5) = (0 : Int32)
              · replace hr := hr.trans (if_pos hc339_68)
                refine own_step (T' := T67) (f' := (mkF m 346 #[.val (.int i0), .val (.int i1), .val (.int i2), .val (.int i3), .val (.int i4), .val (.int i5), .val (.int i6), .val (.ref o7), .val (.int i8), .val (.int i9), .val (.int (1 : Int32))] [])) (fun t kt => ?_) ?_
                · show Steps p.tables e below (T67.setTop (mkF m 339 #[.val (.int i0), .val (.int i1), .val (.int i2), .val (.int i3), .val (.int i4), .val (.int i5), .val (.int i6), .val (.ref o7), .val (.int i8), .val (.int i9), .val (.int (1 : Int32))] [(.int (f2_0 (5 : Int32) i5 i9 i4 i6 xo7_5))])) _
                  refine XS.ifYes X67.here hx rfl (pc0 := 339) (pc' := 346) rfl (hb hby at_339) rfl ((if0 _ _).trans (teq hc339_68).1) (by decide) (by decide) kt
                refine own_step (T' := T67) (f' := (mkF m 351 #[.val (.int i0), .val (.int i1), .val (.int i2), .val (.int i3), .val (.int i4), .val (.int i5), .val (.int i6), .val (.ref o7), .val (.int i8), .val (.int i9), .val (.int (0 : Int32))] [(.int (0 : Int32))])) (fun t kt => ?_) ?_
                · show Steps p.tables e below (T67.setTop (mkF m 346 #[.val (.int i0), .val (.int i1), .val (.int i2), .val (.int i3), .val (.int i4), .val (.int i5), .val (.int i6), .val (.ref o7), .val (.int i8), .val (.int i9), .val (.int (1 : Int32))] [])) _
                  refine XS.iconst X67.here hx rfl (hb hby at_346) ?_
                  show Steps p.tables e below (T67.setTop (mkF m 347 #[.val (.int i0), .val (.int i1), .val (.int i2), .val (.int i3), .val (.int i4), .val (.int i5), .val (.int i6), .val (.ref o7), .val (.int i8), .val (.int i9), .val (.int (1 : Int32))] [(.int (0 : Int32))])) _
                  refine XS.istore X67.here hx rfl (hb hby at_347) rfl (l' := #[.val (.int i0), .val (.int i1), .val (.int i2), .val (.int i3), .val (.int i4), .val (.int i5), .val (.int i6), .val (.ref o7), .val (.int i8), .val (.int i9), .val (.int (0 : Int32))]) rfl ?_
                  show Steps p.tables e below (T67.setTop (mkF m 349 #[.val (.int i0), .val (.int i1), .val (.int i2), .val (.int i3), .val (.int i4), .val (.int i5), .val (.int i6), .val (.ref o7), .val (.int i8), .val (.int i9), .val (.int (0 : Int32))] [])) _
                  refine XS.iload X67.here hx rfl (hb hby at_349) rfl ?_
                  exact kt
                refine own_step (T' := T67) (f' := (mkF m 376 #[.val (.int i0), .val (.int i1), .val (.int i2), .val (.int i3), .val (.int i4), .val (.int i5), .val (.int i6), .val (.ref o7), .val (.int i8), .val (.int i9), .val (.int (0 : Int32))] [])) (fun t kt => ?_) ?_
                · show Steps p.tables e below (T67.setTop (mkF m 351 #[.val (.int i0), .val (.int i1), .val (.int i2), .val (.int i3), .val (.int i4), .val (.int i5), .val (.int i6), .val (.ref o7), .val (.int i8), .val (.int i9), .val (.int (0 : Int32))] [(.int (0 : Int32))])) _
                  refine XS.ifYes X67.here hx rfl (pc0 := 351) (pc' := 376) rfl (hb hby at_351) rfl ((if0 _ _).trans (teq (by decide : ((0 : Int32) = (0 : Int32)))).1) (by decide) (by decide) kt
                refine own_step (T' := T67) (f' := (mkF m 381 #[.val (.int i0), .val (.int i1), .val (.int i2), .val (.int i3), .val (.int i4), .val (.int i5), .val (.int i6), .val (.ref o7), .val (.int i8), .val (.int i9), .val (.int (0 : Int32))] [(.int (0 : Int32))])) (fun t kt => ?_) ?_
                · show Steps p.tables e below (T67.setTop (mkF m 376 #[.val (.int i0), .val (.int i1), .val (.int i2), .val (.int i3), .val (.int i4), .val (.int i5), .val (.int i6), .val (.ref o7), .val (.int i8), .val (.int i9), .val (.int (0 : Int32))] [])) _
                  refine XS.iconst X67.here hx rfl (hb hby at_376) ?_
                  show Steps p.tables e below (T67.setTop (mkF m 377 #[.val (.int i0), .val (.int i1), .val (.int i2), .val (.int i3), .val (.int i4), .val (.int i5), .val (.int i6), .val (.ref o7), .val (.int i8), .val (.int i9), .val (.int (0 : Int32))] [(.int (0 : Int32))])) _
                  refine XS.istore X67.here hx rfl (hb hby at_377) rfl (l' := #[.val (.int i0), .val (.int i1), .val (.int i2), .val (.int i3), .val (.int i4), .val (.int i5), .val (.int i6), .val (.ref o7), .val (.int i8), .val (.int i9), .val (.int (0 : Int32))]) rfl ?_
                  show Steps p.tables e below (T67.setTop (mkF m 379 #[.val (.int i0), .val (.int i1), .val (.int i2), .val (.int i3), .val (.int i4), .val (.int i5), .val (.int i6), .val (.ref o7), .val (.int i8), .val (.int i9), .val (.int (0 : Int32))] [])) _
                  refine XS.iload X67.here hx rfl (hb hby at_379) rfl ?_
                  exact kt
                refine own_step (T' := T67) (f' := (mkF m 406 #[.val (.int i0), .val (.int i1), .val (.int i2), .val (.int i3), .val (.int i4), .val (.int i5), .val (.int i6), .val (.ref o7), .val (.int i8), .val (.int i9), .val (.int (0 : Int32))] [])) (fun t kt => ?_) ?_
                · show Steps p.tables e below (T67.setTop (mkF m 381 #[.val (.int i0), .val (.int i1), .val (.int i2), .val (.int i3), .val (.int i4), .val (.int i5), .val (.int i6), .val (.ref o7), .val (.int i8), .val (.int i9), .val (.int (0 : Int32))] [(.int (0 : Int32))])) _
                  refine XS.ifYes X67.here hx rfl (pc0 := 381) (pc' := 406) rfl (hb hby at_381) rfl ((if0 _ _).trans (teq (by decide : ((0 : Int32) = (0 : Int32)))).1) (by decide) (by decide) kt
                refine own_step (T' := T67) (f' := (mkF m 411 #[.val (.int i0), .val (.int i1), .val (.int i2), .val (.int i3), .val (.int i4), .val (.int i5), .val (.int i6), .val (.ref o7), .val (.int i8), .val (.int i9), .val (.int (0 : Int32))] [(.int (0 : Int32))])) (fun t kt => ?_) ?_
                · show Steps p.tables e below (T67.setTop (mkF m 406 #[.val (.int i0), .val (.int i1), .val (.int i2), .val (.int i3), .val (.int i4), .val (.int i5), .val (.int i6), .val (.ref o7), .val (.int i8), .val (.int i9), .val (.int (0 : Int32))] [])) _
                  refine XS.iconst X67.here hx rfl (hb hby at_406) ?_
                  show Steps p.tables e below (T67.setTop (mkF m 407 #[.val (.int i0), .val (.int i1), .val (.int i2), .val (.int i3), .val (.int i4), .val (.int i5), .val (.int i6), .val (.ref o7), .val (.int i8), .val (.int i9), .val (.int (0 : Int32))] [(.int (0 : Int32))])) _
                  refine XS.istore X67.here hx rfl (hb hby at_407) rfl (l' := #[.val (.int i0), .val (.int i1), .val (.int i2), .val (.int i3), .val (.int i4), .val (.int i5), .val (.int i6), .val (.ref o7), .val (.int i8), .val (.int i9), .val (.int (0 : Int32))]) rfl ?_
                  show Steps p.tables e below (T67.setTop (mkF m 409 #[.val (.int i0), .val (.int i1), .val (.int i2), .val (.int i3), .val (.int i4), .val (.int i5), .val (.int i6), .val (.ref o7), .val (.int i8), .val (.int i9), .val (.int (0 : Int32))] [])) _
                  refine XS.iload X67.here hx rfl (hb hby at_409) rfl ?_
                  exact kt
                refine own_step (T' := T67) (f' := (mkF m 436 #[.val (.int i0), .val (.int i1), .val (.int i2), .val (.int i3), .val (.int i4), .val (.int i5), .val (.int i6), .val (.ref o7), .val (.int i8), .val (.int i9), .val (.int (0 : Int32))] [])) (fun t kt => ?_) ?_
                · show Steps p.tables e below (T67.setTop (mkF m 411 #[.val (.int i0), .val (.int i1), .val (.int i2), .val (.int i3), .val (.int i4), .val (.int i5), .val (.int i6), .val (.ref o7), .val (.int i8), .val (.int i9), .val (.int (0 : Int32))] [(.int (0 : Int32))])) _
                  refine XS.ifYes X67.here hx rfl (pc0 := 411) (pc' := 436) rfl (hb hby at_411) rfl ((if0 _ _).trans (teq (by decide : ((0 : Int32) = (0 : Int32)))).1) (by decide) (by decide) kt
                refine own_step (T' := T67) (f' := (mkF m 441 #[.val (.int i0), .val (.int i1), .val (.int i2), .val (.int i3), .val (.int i4), .val (.int i5), .val (.int i6), .val (.ref o7), .val (.int i8), .val (.int i9), .val (.int (0 : Int32))] [(.int (0 : Int32))])) (fun t kt => ?_) ?_
                · show Steps p.tables e below (T67.setTop (mkF m 436 #[.val (.int i0), .val (.int i1), .val (.int i2), .val (.int i3), .val (.int i4), .val (.int i5), .val (.int i6), .val (.ref o7), .val (.int i8), .val (.int i9), .val (.int (0 : Int32))] [])) _
                  refine XS.iconst X67.here hx rfl (hb hby at_436) ?_
                  show Steps p.tables e below (T67.setTop (mkF m 437 #[.val (.int i0), .val (.int i1), .val (.int i2), .val (.int i3), .val (.int i4), .val (.int i5), .val (.int i6), .val (.ref o7), .val (.int i8), .val (.int i9), .val (.int (0 : Int32))] [(.int (0 : Int32))])) _
                  refine XS.istore X67.here hx rfl (hb hby at_437) rfl (l' := #[.val (.int i0), .val (.int i1), .val (.int i2), .val (.int i3), .val (.int i4), .val (.int i5), .val (.int i6), .val (.ref o7), .val (.int i8), .val (.int i9), .val (.int (0 : Int32))]) rfl ?_
                  show Steps p.tables e below (T67.setTop (mkF m 439 #[.val (.int i0), .val (.int i1), .val (.int i2), .val (.int i3), .val (.int i4), .val (.int i5), .val (.int i6), .val (.ref o7), .val (.int i8), .val (.int i9), .val (.int (0 : Int32))] [])) _
                  refine XS.iload X67.here hx rfl (hb hby at_439) rfl ?_
                  exact kt
                refine own_step (T' := T67) (f' := (mkF m 466 #[.val (.int i0), .val (.int i1), .val (.int i2), .val (.int i3), .val (.int i4), .val (.int i5), .val (.int i6), .val (.ref o7), .val (.int i8), .val (.int i9), .val (.int (0 : Int32))] [])) (fun t kt => ?_) ?_
                · show Steps p.tables e below (T67.setTop (mkF m 441 #[.val (.int i0), .val (.int i1), .val (.int i2), .val (.int i3), .val (.int i4), .val (.int i5), .val (.int i6), .val (.ref o7), .val (.int i8), .val (.int i9), .val (.int (0 : Int32))] [(.int (0 : Int32))])) _
                  refine XS.ifYes X67.here hx rfl (pc0 := 441) (pc' := 466) rfl (hb hby at_441) rfl ((if0 _ _).trans (teq (by decide : ((0 : Int32) = (0 : Int32)))).1) (by decide) (by decide) kt
                refine own_step (T' := T67) (f' := (mkF m 471 #[.val (.int i0), .val (.int i1), .val (.int i2), .val (.int i3), .val (.int i4), .val (.int i5), .val (.int i6), .val (.ref o7), .val (.int i8), .val (.int i9), .val (.int (0 : Int32))] [(.int (0 : Int32))])) (fun t kt => ?_) ?_
                · show Steps p.tables e below (T67.setTop (mkF m 466 #[.val (.int i0), .val (.int i1), .val (.int i2), .val (.int i3), .val (.int i4), .val (.int i5), .val (.int i6), .val (.ref o7), .val (.int i8), .val (.int i9), .val (.int (0 : Int32))] [])) _
                  refine XS.iconst X67.here hx rfl (hb hby at_466) ?_
                  show Steps p.tables e below (T67.setTop (mkF m 467 #[.val (.int i0), .val (.int i1), .val (.int i2), .val (.int i3), .val (.int i4), .val (.int i5), .val (.int i6), .val (.ref o7), .val (.int i8), .val (.int i9), .val (.int (0 : Int32))] [(.int (0 : Int32))])) _
                  refine XS.istore X67.here hx rfl (hb hby at_467) rfl (l' := #[.val (.int i0), .val (.int i1), .val (.int i2), .val (.int i3), .val (.int i4), .val (.int i5), .val (.int i6), .val (.ref o7), .val (.int i8), .val (.int i9), .val (.int (0 : Int32))]) rfl ?_
                  show Steps p.tables e below (T67.setTop (mkF m 469 #[.val (.int i0), .val (.int i1), .val (.int i2), .val (.int i3), .val (.int i4), .val (.int i5), .val (.int i6), .val (.ref o7), .val (.int i8), .val (.int i9), .val (.int (0 : Int32))] [])) _
                  refine XS.iload X67.here hx rfl (hb hby at_469) rfl ?_
                  exact kt
                exact own_retZ X67 hx hret (by simp) hlk (hb hby at_471) (by decide) (by decide) ⟨congrArg (fun z => some (Value.int z)) hr.symm, N67⟩
              · replace hr := hr.trans (if_neg hc339_68)
                refine own_step (T' := T67) (f' := (mkF m 342 #[.val (.int i0), .val (.int i1), .val (.int i2), .val (.int i3), .val (.int i4), .val (.int i5), .val (.int i6), .val (.ref o7), .val (.int i8), .val (.int i9), .val (.int (1 : Int32))] [])) (fun t kt => ?_) ?_
                · show Steps p.tables e below (T67.setTop (mkF m 339 #[.val (.int i0), .val (.int i1), .val (.int i2), .val (.int i3), .val (.int i4), .val (.int i5), .val (.int i6), .val (.ref o7), .val (.int i8), .val (.int i9), .val (.int (1 : Int32))] [(.int (f2_0 (5 : Int32) i5 i9 i4 i6 xo7_5))])) _
                  refine XS.ifNo X67.here hx rfl (hb hby at_339) rfl ((if0 _ _).trans (feq hc339_68).1) kt
                refine own_step (T' := T67) (f' := (mkF m 351 #[.val (.int i0), .val (.int i1), .val (.int i2), .val (.int i3), .val (.int i4), .val (.int i5), .val (.int i6), .val (.ref o7), .val (.int i8), .val (.int i9), .val (.int (1 : Int32))] [(.int (1 : Int32))])) (fun t kt => ?_) ?_
                · show Steps p.tables e below (T67.setTop (mkF m 342 #[.val (.int i0), .val (.int i1), .val (.int i2), .val (.int i3), .val (.int i4), .val (.int i5), .val (.int i6), .val (.ref o7), .val (.int i8), .val (.int i9), .val (.int (1 : Int32))] [])) _
                  refine XS.iconst X67.here hx rfl (hb hby at_342) ?_
                  show Steps p.tables e below (T67.setTop (mkF m 343 #[.val (.int i0), .val (.int i1), .val (.int i2), .val (.int i3), .val (.int i4), .val (.int i5), .val (.int i6), .val (.ref o7), .val (.int i8), .val (.int i9), .val (.int (1 : Int32))] [(.int (1 : Int32))])) _
                  refine XS.goto X67.here hx rfl (pc0 := 343) (pc' := 347) rfl (hb hby at_343) (by decide) (by decide) ?_
                  show Steps p.tables e below (T67.setTop (mkF m 347 #[.val (.int i0), .val (.int i1), .val (.int i2), .val (.int i3), .val (.int i4), .val (.int i5), .val (.int i6), .val (.ref o7), .val (.int i8), .val (.int i9), .val (.int (1 : Int32))] [(.int (1 : Int32))])) _
                  refine XS.istore X67.here hx rfl (hb hby at_347) rfl (l' := #[.val (.int i0), .val (.int i1), .val (.int i2), .val (.int i3), .val (.int i4), .val (.int i5), .val (.int i6), .val (.ref o7), .val (.int i8), .val (.int i9), .val (.int (1 : Int32))]) rfl ?_
                  show Steps p.tables e below (T67.setTop (mkF m 349 #[.val (.int i0), .val (.int i1), .val (.int i2), .val (.int i3), .val (.int i4), .val (.int i5), .val (.int i6), .val (.ref o7), .val (.int i8), .val (.int i9), .val (.int (1 : Int32))] [])) _
                  refine XS.iload X67.here hx rfl (hb hby at_349) rfl ?_
                  exact kt
                refine own_step (T' := T67) (f' := (mkF m 354 #[.val (.int i0), .val (.int i1), .val (.int i2), .val (.int i3), .val (.int i4), .val (.int i5), .val (.int i6), .val (.ref o7), .val (.int i8), .val (.int i9), .val (.int (1 : Int32))] [])) (fun t kt => ?_) ?_
                · show Steps p.tables e below (T67.setTop (mkF m 351 #[.val (.int i0), .val (.int i1), .val (.int i2), .val (.int i3), .val (.int i4), .val (.int i5), .val (.int i6), .val (.ref o7), .val (.int i8), .val (.int i9), .val (.int (1 : Int32))] [(.int (1 : Int32))])) _
                  refine XS.ifNo X67.here hx rfl (hb hby at_351) rfl ((if0 _ _).trans (feq (by decide : ¬ ((1 : Int32) = (0 : Int32)))).1) kt
                refine own_step (T' := T67) (f' := (mkF m 366 #[.val (.int i0), .val (.int i1), .val (.int i2), .val (.int i3), .val (.int i4), .val (.int i5), .val (.int i6), .val (.ref o7), .val (.int i8), .val (.int i9), .val (.int (1 : Int32))] [(.int i6), (.int i4), (.int i9), (.int i5), (.int (6 : Int32)), (.ref o7)])) (fun t kt => ?_) ?_
                · show Steps p.tables e below (T67.setTop (mkF m 354 #[.val (.int i0), .val (.int i1), .val (.int i2), .val (.int i3), .val (.int i4), .val (.int i5), .val (.int i6), .val (.ref o7), .val (.int i8), .val (.int i9), .val (.int (1 : Int32))] [])) _
                  refine XS.aload X67.here hx rfl (hb hby at_354) rfl rfl ?_
                  show Steps p.tables e below (T67.setTop (mkF m 356 #[.val (.int i0), .val (.int i1), .val (.int i2), .val (.int i3), .val (.int i4), .val (.int i5), .val (.int i6), .val (.ref o7), .val (.int i8), .val (.int i9), .val (.int (1 : Int32))] [(.ref o7)])) _
                  refine XS.bipush X67.here hx rfl (hb hby at_356) ?_
                  show Steps p.tables e below (T67.setTop (mkF m 358 #[.val (.int i0), .val (.int i1), .val (.int i2), .val (.int i3), .val (.int i4), .val (.int i5), .val (.int i6), .val (.ref o7), .val (.int i8), .val (.int i9), .val (.int (1 : Int32))] [(.int (6 : Int32)), (.ref o7)])) _
                  refine XS.iload X67.here hx rfl (hb hby at_358) rfl ?_
                  show Steps p.tables e below (T67.setTop (mkF m 360 #[.val (.int i0), .val (.int i1), .val (.int i2), .val (.int i3), .val (.int i4), .val (.int i5), .val (.int i6), .val (.ref o7), .val (.int i8), .val (.int i9), .val (.int (1 : Int32))] [(.int i5), (.int (6 : Int32)), (.ref o7)])) _
                  refine XS.iload X67.here hx rfl (hb hby at_360) rfl ?_
                  show Steps p.tables e below (T67.setTop (mkF m 362 #[.val (.int i0), .val (.int i1), .val (.int i2), .val (.int i3), .val (.int i4), .val (.int i5), .val (.int i6), .val (.ref o7), .val (.int i8), .val (.int i9), .val (.int (1 : Int32))] [(.int i9), (.int i5), (.int (6 : Int32)), (.ref o7)])) _
                  refine XS.iload X67.here hx rfl (hb hby at_362) rfl ?_
                  show Steps p.tables e below (T67.setTop (mkF m 364 #[.val (.int i0), .val (.int i1), .val (.int i2), .val (.int i3), .val (.int i4), .val (.int i5), .val (.int i6), .val (.ref o7), .val (.int i8), .val (.int i9), .val (.int (1 : Int32))] [(.int i4), (.int i9), (.int i5), (.int (6 : Int32)), (.ref o7)])) _
                  refine XS.iload X67.here hx rfl (hb hby at_364) rfl ?_
                  exact kt
                obtain ⟨_, _, ⟨T74, L74, k74, n74⟩, -, X74, ⟨Lc74, hQ74, l74, y74, z74⟩, st74⟩ := Jvm.LawKit.callS X67 hx (y := (⟨"hotstate/sort/VarIntsWritePinLaw", "cell", "([BIIIIB)Z"⟩ : MethodName)) hown (mvT hZ (hw _ (List.mem_of_getElem? (i := 6) rfl))) (mvT hZ (hw _ (List.mem_of_getElem? (i := 7) rfl))) (mvT hZ (hw _ (List.mem_of_getElem? (i := 8) rfl))) (mvT hZ (hw _ (List.mem_of_getElem? (i := 9) rfl))) (by decide) (backOf (W := 0) (rm2 l Z a0 hw [] o7 (6 : Int32) i5 i9 i4 i6 xo7_6 [(.int xo7_0), (.int xo7_1), (.int xo7_2), (.int xo7_3), (.int xo7_4), (.int xo7_5), (.int xo7_6), (.int xo7_7), (.int xo7_8), (.int xo7_9)] h0 n0 Ao7 (by decide) rfl) hZ (hw _ (List.mem_of_getElem? (i := 9) rfl)) (hw _ (List.mem_of_getElem? (i := 8) rfl)) (by decide) (by decide)) (g := (mkF m 366 #[.val (.int i0), .val (.int i1), .val (.int i2), .val (.int i3), .val (.int i4), .val (.int i5), .val (.int i6), .val (.ref o7), .val (.int i8), .val (.int i9), .val (.int (1 : Int32))] [(.int i6), (.int i4), (.int i9), (.int i5), (.int (6 : Int32)), (.ref o7)])) rfl (by rw [hml]; rfl) (argsL := [(.ref o7), (.int (6 : Int32)), (.int i5), (.int i9), (.int i4), (.int i6)]) (rest := []) (lenOf pd2 rfl) rfl (by show 2 * 0 + _ ≤ _; exact Nat.le_of_eq rfl) (hb hby at_366) (fun _ _ => ⟨rfl, e67, (by decide : 1 + 0 ≤ _), (by decide : 10 + 0 ≤ _)⟩)
                dsimp only [Pt.U, Pt.locs, Pt.cells, Pt.slots] at X74 l74 y74 z74 st74 hQ74
                subst l74 y74 z74
                obtain ⟨rfl, Nq74, e74⟩ := hQ74
                have N74 := Fr.app N67 Nq74
                refine own_step (T' := T74) (f' := (mkF m 369 #[.val (.int i0), .val (.int i1), .val (.int i2), .val (.int i3), .val (.int i4), .val (.int i5), .val (.int i6), .val (.ref o7), .val (.int i8), .val (.int i9), .val (.int (1 : Int32))] [(.int (f2_0 (6 : Int32) i5 i9 i4 i6 xo7_6))])) st74 ?_
                by_cases hc369_75 : (f2_0 (6 : Int32) i5 i9 i4 i6 xo7_6) = (0 : Int32)
                · replace hr := hr.trans (if_pos hc369_75)
                  refine own_step (T' := T74) (f' := (mkF m 376 #[.val (.int i0), .val (.int i1), .val (.int i2), .val (.int i3), .val (.int i4), .val (.int i5), .val (.int i6), .val (.ref o7), .val (.int i8), .val (.int i9), .val (.int (1 : Int32))] [])) (fun t kt => ?_) ?_
                  · show Steps p.tables e below (T74.setTop (mkF m 369 #[.val (.int i0), .val (.int i1), .val (.int i2), .val (.int i3), .val (.int i4), .val (.int i5), .val (.int i6), .val (.ref o7), .val (.int i8), .val (.int i9), .val (.int (1 : Int32))] [(.int (f2_0 (6 : Int32) i5 i9 i4 i6 xo7_6))])) _
                    refine XS.ifYes X74.here hx rfl (pc0 := 369) (pc' := 376) rfl (hb hby at_369) rfl ((if0 _ _).trans (teq hc369_75).1) (by decide) (by decide) kt
                  refine own_step (T' := T74) (f' := (mkF m 381 #[.val (.int i0), .val (.int i1), .val (.int i2), .val (.int i3), .val (.int i4), .val (.int i5), .val (.int i6), .val (.ref o7), .val (.int i8), .val (.int i9), .val (.int (0 : Int32))] [(.int (0 : Int32))])) (fun t kt => ?_) ?_
                  · show Steps p.tables e below (T74.setTop (mkF m 376 #[.val (.int i0), .val (.int i1), .val (.int i2), .val (.int i3), .val (.int i4), .val (.int i5), .val (.int i6), .val (.ref o7), .val (.int i8), .val (.int i9), .val (.int (1 : Int32))] [])) _
                    refine XS.iconst X74.here hx rfl (hb hby at_376) ?_
                    show Steps p.tables e below (T74.setTop (mkF m 377 #[.val (.int i0), .val (.int i1), .val (.int i2), .val (.int i3), .val (.int i4), .val (.int i5), .val (.int i6), .val (.ref o7), .val (.int i8), .val (.int i9), .val (.int (1 : Int32))] [(.int (0 : Int32))])) _
                    refine XS.istore X74.here hx rfl (hb hby at_377) rfl (l' := #[.val (.int i0), .val (.int i1), .val (.int i2), .val (.int i3), .val (.int i4), .val (.int i5), .val (.int i6), .val (.ref o7), .val (.int i8), .val (.int i9), .val (.int (0 : Int32))]) rfl ?_
                    show Steps p.tables e below (T74.setTop (mkF m 379 #[.val (.int i0), .val (.int i1), .val (.int i2), .val (.int i3), .val (.int i4), .val (.int i5), .val (.int i6), .val (.ref o7), .val (.int i8), .val (.int i9), .val (.int (0 : Int32))] [])) _
                    refine XS.iload X74.here hx rfl (hb hby at_379) rfl ?_
                    exact kt
                  refine own_step (T' := T74) (f' := (mkF m 406 #[.val (.int i0), .val (.int i1), .val (.int i2), .val (.int i3), .val (.int i4), .val (.int i5), .val (.int i6), .val (.ref o7), .val (.int i8), .val (.int i9), .val (.int (0 : Int32))] [])) (fun t kt => ?_) ?_
                  · show Steps p.tables e below (T74.setTop (mkF m 381 #[.val (.int i0), .val (.int i1), .val (.int i2), .val (.int i3), .val (.int i4), .val (.int i5), .val (.int i6), .val (.ref o7), .val (.int i8), .val (.int i9), .val (.int (0 : Int32))] [(.int (0 : Int32))])) _
                    refine XS.ifYes X74.here hx rfl (pc0 := 381) (pc' := 406) rfl (hb hby at_381) rfl ((if0 _ _).trans (teq (by decide : ((0 : Int32) = (0 : Int32)))).1) (by decide) (by decide) kt
                  refine own_step (T' := T74) (f' := (mkF m 411 #[.val (.int i0), .val (.int i1), .val (.int i2), .val (.int i3), .val (.int i4), .val (.int i5), .val (.int i6), .val (.ref o7), .val (.int i8), .val (.int i9), .val (.int (0 : Int32))] [(.int (0 : Int32))])) (fun t kt => ?_) ?_
                  · show Steps p.tables e below (T74.setTop (mkF m 406 #[.val (.int i0), .val (.int i1), .val (.int i2), .val (.int i3), .val (.int i4), .val (.int i5), .val (.int i6), .val (.ref o7), .val (.int i8), .val (.int i9), .val (.int (0 : Int32))] [])) _
                    refine XS.iconst X74.here hx rfl (hb hby at_406) ?_
                    show Steps p.tables e below (T74.setTop (mkF m 407 #[.val (.int i0), .val (.int i1), .val (.int i2), .val (.int i3), .val (.int i4), .val (.int i5), .val (.int i6), .val (.ref o7), .val (.int i8), .val (.int i9), .val (.int (0 : Int32))] [(.int (0 : Int32))])) _
                    refine XS.istore X74.here hx rfl (hb hby at_407) rfl (l' := #[.val (.int i0), .val (.int i1), .val (.int i2), .val (.int i3), .val (.int i4), .val (.int i5), .val (.int i6), .val (.ref o7), .val (.int i8), .val (.int i9), .val (.int (0 : Int32))]) rfl ?_
                    show Steps p.tables e below (T74.setTop (mkF m 409 #[.val (.int i0), .val (.int i1), .val (.int i2), .val (.int i3), .val (.int i4), .val (.int i5), .val (.int i6), .val (.ref o7), .val (.int i8), .val (.int i9), .val (.int (0 : Int32))] [])) _
                    refine XS.iload X74.here hx rfl (hb hby at_409) rfl ?_
                    exact kt
                  refine own_step (T' := T74) (f' := (mkF m 436 #[.val (.int i0), .val (.int i1), .val (.int i2), .val (.int i3), .val (.int i4), .val (.int i5), .val (.int i6), .val (.ref o7), .val (.int i8), .val (.int i9), .val (.int (0 : Int32))] [])) (fun t kt => ?_) ?_
                  · show Steps p.tables e below (T74.setTop (mkF m 411 #[.val (.int i0), .val (.int i1), .val (.int i2), .val (.int i3), .val (.int i4), .val (.int i5), .val (.int i6), .val (.ref o7), .val (.int i8), .val (.int i9), .val (.int (0 : Int32))] [(.int (0 : Int32))])) _
                    refine XS.ifYes X74.here hx rfl (pc0 := 411) (pc' := 436) rfl (hb hby at_411) rfl ((if0 _ _).trans (teq (by decide : ((0 : Int32) = (0 : Int32)))).1) (by decide) (by decide) kt
                  refine own_step (T' := T74) (f' := (mkF m 441 #[.val (.int i0), .val (.int i1), .val (.int i2), .val (.int i3), .val (.int i4), .val (.int i5), .val (.int i6), .val (.ref o7), .val (.int i8), .val (.int i9), .val (.int (0 : Int32))] [(.int (0 : Int32))])) (fun t kt => ?_) ?_
                  · show Steps p.tables e below (T74.setTop (mkF m 436 #[.val (.int i0), .val (.int i1), .val (.int i2), .val (.int i3), .val (.int i4), .val (.int i5), .val (.int i6), .val (.ref o7), .val (.int i8), .val (.int i9), .val (.int (0 : Int32))] [])) _
                    refine XS.iconst X74.here hx rfl (hb hby at_436) ?_
                    show Steps p.tables e below (T74.setTop (mkF m 437 #[.val (.int i0), .val (.int i1), .val (.int i2), .val (.int i3), .val (.int i4), .val (.int i5), .val (.int i6), .val (.ref o7), .val (.int i8), .val (.int i9), .val (.int (0 : Int32))] [(.int (0 : Int32))])) _
                    refine XS.istore X74.here hx rfl (hb hby at_437) rfl (l' := #[.val (.int i0), .val (.int i1), .val (.int i2), .val (.int i3), .val (.int i4), .val (.int i5), .val (.int i6), .val (.ref o7), .val (.int i8), .val (.int i9), .val (.int (0 : Int32))]) rfl ?_
                    show Steps p.tables e below (T74.setTop (mkF m 439 #[.val (.int i0), .val (.int i1), .val (.int i2), .val (.int i3), .val (.int i4), .val (.int i5), .val (.int i6), .val (.ref o7), .val (.int i8), .val (.int i9), .val (.int (0 : Int32))] [])) _
                    refine XS.iload X74.here hx rfl (hb hby at_439) rfl ?_
                    exact kt
                  refine own_step (T' := T74) (f' := (mkF m 466 #[.val (.int i0), .val (.int i1), .val (.int i2), .val (.int i3), .val (.int i4), .val (.int i5), .val (.int i6), .val (.ref o7), .val (.int i8), .val (.int i9), .val (.int (0 : Int32))] [])) (fun t kt => ?_) ?_
                  · show Steps p.tables e below (T74.setTop (mkF m 441 #[.val (.int i0), .val (.int i1), .val (.int i2), .val (.int i3), .val (.int i4), .val (.int i5), .val (.int i6), .val (.ref o7), .val (.int i8), .val (.int i9), .val (.int (0 : Int32))] [(.int (0 : Int32))])) _
                    refine XS.ifYes X74.here hx rfl (pc0 := 441) (pc' := 466) rfl (hb hby at_441) rfl ((if0 _ _).trans (teq (by decide : ((0 : Int32) = (0 : Int32)))).1) (by decide) (by decide) kt
                  refine own_step (T' := T74) (f' := (mkF m 471 #[.val (.int i0), .val (.int i1), .val (.int i2), .val (.int i3), .val (.int i4), .val (.int i5), .val (.int i6), .val (.ref o7), .val (.int i8), .val (.int i9), .val (.int (0 : Int32))] [(.int (0 : Int32))])) (fun t kt => ?_) ?_
                  · show Steps p.tables e below (T74.setTop (mkF m 466 #[.val (.int i0), .val (.int i1), .val (.int i2), .val (.int i3), .val (.int i4), .val (.int i5), .val (.int i6), .val (.ref o7), .val (.int i8), .val (.int i9), .val (.int (0 : Int32))] [])) _
                    refine XS.iconst X74.here hx rfl (hb hby at_466) ?_
                    show Steps p.tables e below (T74.setTop (mkF m 467 #[.val (.int i0), .val (.int i1), .val (.int i2), .val (.int i3), .val (.int i4), .val (.int i5), .val (.int i6), .val (.ref o7), .val (.int i8), .val (.int i9), .val (.int (0 : Int32))] [(.int (0 : Int32))])) _
                    refine XS.istore X74.here hx rfl (hb hby at_467) rfl (l' := #[.val (.int i0), .val (.int i1), .val (.int i2), .val (.int i3), .val (.int i4), .val (.int i5), .val (.int i6), .val (.ref o7), .val (.int i8), .val (.int i9), .val (.int (0 : Int32))]) rfl ?_
                    show Steps p.tables e below (T74.setTop (mkF m 469 #[.val (.int i0), .val (.int i1), .val (.int i2), .val (.int i3), .val (.int i4), .val (.int i5), .val (.int i6), .val (.ref o7), .val (.int i8), .val (.int i9), .val (.int (0 : Int32))] [])) _
                    refine XS.iload X74.here hx rfl (hb hby at_469) rfl ?_
                    exact kt
                  exact own_retZ X74 hx hret (by simp) hlk (hb hby at_471) (by decide) (by decide) ⟨congrArg (fun z => some (Value.int z)) hr.symm, N74⟩
                · replace hr := hr.trans (if_neg hc369_75)
                  refine own_step (T' := T74) (f' := (mkF m 372 #[.val (.int i0), .val (.int i1), .val (.int i2), .val (.int i3), .val (.int i4), .val (.int i5), .val (.int i6), .val (.ref o7), .val (.int i8), .val (.int i9), .val (.int (1 : Int32))] [])) (fun t kt => ?_) ?_
                  · show Steps p.tables e below (T74.setTop (mkF m 369 #[.val (.int i0), .val (.int i1), .val (.int i2), .val (.int i3), .val (.int i4), .val (.int i5), .val (.int i6), .val (.ref o7), .val (.int i8), .val (.int i9), .val (.int (1 : Int32))] [(.int (f2_0 (6 : Int32) i5 i9 i4 i6 xo7_6))])) _
                    refine XS.ifNo X74.here hx rfl (hb hby at_369) rfl ((if0 _ _).trans (feq hc369_75).1) kt
                  refine own_step (T' := T74) (f' := (mkF m 381 #[.val (.int i0), .val (.int i1), .val (.int i2), .val (.int i3), .val (.int i4), .val (.int i5), .val (.int i6), .val (.ref o7), .val (.int i8), .val (.int i9), .val (.int (1 : Int32))] [(.int (1 : Int32))])) (fun t kt => ?_) ?_
                  · show Steps p.tables e below (T74.setTop (mkF m 372 #[.val (.int i0), .val (.int i1), .val (.int i2), .val (.int i3), .val (.int i4), .val (.int i5), .val (.int i6), .val (.ref o7), .val (.int i8), .val (.int i9), .val (.int (1 : Int32))] [])) _
                    refine XS.iconst X74.here hx rfl (hb hby at_372) ?_
                    show Steps p.tables e below (T74.setTop (mkF m 373 #[.val (.int i0), .val (.int i1), .val (.int i2), .val (.int i3), .val (.int i4), .val (.int i5), .val (.int i6), .val (.ref o7), .val (.int i8), .val (.int i9), .val (.int (1 : Int32))] [(.int (1 : Int32))])) _
                    refine XS.goto X74.here hx rfl (pc0 := 373) (pc' := 377) rfl (hb hby at_373) (by decide) (by decide) ?_
                    show Steps p.tables e below (T74.setTop (mkF m 377 #[.val (.int i0), .val (.int i1), .val (.int i2), .val (.int i3), .val (.int i4), .val (.int i5), .val (.int i6), .val (.ref o7), .val (.int i8), .val (.int i9), .val (.int (1 : Int32))] [(.int (1 : Int32))])) _
                    refine XS.istore X74.here hx rfl (hb hby at_377) rfl (l' := #[.val (.int i0), .val (.int i1), .val (.int i2), .val (.int i3), .val (.int i4), .val (.int i5), .val (.int i6), .val (.ref o7), .val (.int i8), .val (.int i9), .val (.int (1 : Int32))]) rfl ?_
                    show Steps p.tables e below (T74.setTop (mkF m 379 #[.val (.int i0), .val (.int i1), .val (.int i2), .val (.int i3), .val (.int i4), .val (.int i5), .val (.int i6), .val (.ref o7), .val (.int i8), .val (.int i9), .val (.int (1 : Int32))] [])) _
                    refine XS.iload X74.here hx rfl (hb hby at_379) rfl ?_
                    exact kt
                  refine own_step (T' := T74) (f' := (mkF m 384 #[.val (.int i0), .val (.int i1), .val (.int i2), .val (.int i3), .val (.int i4), .val (.int i5), .val (.int i6), .val (.ref o7), .val (.int i8), .val (.int i9), .val (.int (1 : Int32))] [])) (fun t kt => ?_) ?_
                  · show Steps p.tables e below (T74.setTop (mkF m 381 #[.val (.int i0), .val (.int i1), .val (.int i2), .val (.int i3), .val (.int i4), .val (.int i5), .val (.int i6), .val (.ref o7), .val (.int i8), .val (.int i9), .val (.int (1 : Int32))] [(.int (1 : Int32))])) _
                    refine XS.ifNo X74.here hx rfl (hb hby at_381) rfl ((if0 _ _).trans (feq (by decide : ¬ ((1 : Int32) = (0 : Int32)))).1) kt
                  refine own_step (T' := T74) (f' := (mkF m 396 #[.val (.int i0), .val (.int i1), .val (.int i2), .val (.int i3), .val (.int i4), .val (.int i5), .val (.int i6), .val (.ref o7), .val (.int i8), .val (.int i9), .val (.int (1 : Int32))] [(.int i6), (.int i4), (.int i9), (.int i5), (.int (7 : Int32)), (.ref o7)])) (fun t kt => ?_) ?_
                  · show Steps p.tables e below (T74.setTop (mkF m 384 #[.val (.int i0), .val (.int i1), .val (.int i2), .val (.int i3), .val (.int i4), .val (.int i5), .val (.int i6), .val (.ref o7), .val (.int i8), .val (.int i9), .val (.int (1 : Int32))] [])) _
                    refine XS.aload X74.here hx rfl (hb hby at_384) rfl rfl ?_
                    show Steps p.tables e below (T74.setTop (mkF m 386 #[.val (.int i0), .val (.int i1), .val (.int i2), .val (.int i3), .val (.int i4), .val (.int i5), .val (.int i6), .val (.ref o7), .val (.int i8), .val (.int i9), .val (.int (1 : Int32))] [(.ref o7)])) _
                    refine XS.bipush X74.here hx rfl (hb hby at_386) ?_
                    show Steps p.tables e below (T74.setTop (mkF m 388 #[.val (.int i0), .val (.int i1), .val (.int i2), .val (.int i3), .val (.int i4), .val (.int i5), .val (.int i6), .val (.ref o7), .val (.int i8), .val (.int i9), .val (.int (1 : Int32))] [(.int (7 : Int32)), (.ref o7)])) _
                    refine XS.iload X74.here hx rfl (hb hby at_388) rfl ?_
                    show Steps p.tables e below (T74.setTop (mkF m 390 #[.val (.int i0), .val (.int i1), .val (.int i2), .val (.int i3), .val (.int i4), .val (.int i5), .val (.int i6), .val (.ref o7), .val (.int i8), .val (.int i9), .val (.int (1 : Int32))] [(.int i5), (.int (7 : Int32)), (.ref o7)])) _
                    refine XS.iload X74.here hx rfl (hb hby at_390) rfl ?_
                    show Steps p.tables e below (T74.setTop (mkF m 392 #[.val (.int i0), .val (.int i1), .val (.int i2), .val (.int i3), .val (.int i4), .val (.int i5), .val (.int i6), .val (.ref o7), .val (.int i8), .val (.int i9), .val (.int (1 : Int32))] [(.int i9), (.int i5), (.int (7 : Int32)), (.ref o7)])) _
                    refine XS.iload X74.here hx rfl (hb hby at_392) rfl ?_
                    show Steps p.tables e below (T74.setTop (mkF m 394 #[.val (.int i0), .val (.int i1), .val (.int i2), .val (.int i3), .val (.int i4), .val (.int i5), .val (.int i6), .val (.ref o7), .val (.int i8), .val (.int i9), .val (.int (1 : Int32))] [(.int i4), (.int i9), (.int i5), (.int (7 : Int32)), (.ref o7)])) _
                    refine XS.iload X74.here hx rfl (hb hby at_394) rfl ?_
                    exact kt
                  obtain ⟨_, _, ⟨T80, L80, k80, n80⟩, -, X80, ⟨Lc80, hQ80, l80, y80, z80⟩, st80⟩ := Jvm.LawKit.callS X74 hx (y := (⟨"hotstate/sort/VarIntsWritePinLaw", "cell", "([BIIIIB)Z"⟩ : MethodName)) hown (mvT hZ (hw _ (List.mem_of_getElem? (i := 6) rfl))) (mvT hZ (hw _ (List.mem_of_getElem? (i := 7) rfl))) (mvT hZ (hw _ (List.mem_of_getElem? (i := 8) rfl))) (mvT hZ (hw _ (List.mem_of_getElem? (i := 9) rfl))) (by decide) (backOf (W := 0) (rm2 l Z a0 hw [] o7 (7 : Int32) i5 i9 i4 i6 xo7_7 [(.int xo7_0), (.int xo7_1), (.int xo7_2), (.int xo7_3), (.int xo7_4), (.int xo7_5), (.int xo7_6), (.int xo7_7), (.int xo7_8), (.int xo7_9)] h0 n0 Ao7 (by decide) rfl) hZ (hw _ (List.mem_of_getElem? (i := 9) rfl)) (hw _ (List.mem_of_getElem? (i := 8) rfl)) (by decide) (by decide)) (g := (mkF m 396 #[.val (.int i0), .val (.int i1), .val (.int i2), .val (.int i3), .val (.int i4), .val (.int i5), .val (.int i6), .val (.ref o7), .val (.int i8), .val (.int i9), .val (.int (1 : Int32))] [(.int i6), (.int i4), (.int i9), (.int i5), (.int (7 : Int32)), (.ref o7)])) rfl (by rw [hml]; rfl) (argsL := [(.ref o7), (.int (7 : Int32)), (.int i5), (.int i9), (.int i4), (.int i6)]) (rest := []) (lenOf pd2 rfl) rfl (by show 2 * 0 + _ ≤ _; exact Nat.le_of_eq rfl) (hb hby at_396) (fun _ _ => ⟨rfl, e74, (by decide : 1 + 0 ≤ _), (by decide : 10 + 0 ≤ _)⟩)
                  dsimp only [Pt.U, Pt.locs, Pt.cells, Pt.slots] at X80 l80 y80 z80 st80 hQ80
                  subst l80 y80 z80
                  obtain ⟨rfl, Nq80, e80⟩ := hQ80
                  have N80 := Fr.app N74 Nq80
                  refine own_step (T' := T80) (f' := (mkF m 399 #[.val (.int i0), .val (.int i1), .val (.int i2), .val (.int i3), .val (.int i4), .val (.int i5), .val (.int i6), .val (.ref o7), .val (.int i8), .val (.int i9), .val (.int (1 : Int32))] [(.int (f2_0 (7 : Int32) i5 i9 i4 i6 xo7_7))])) st80 ?_
                  by_cases hc399_81 : (f2_0 (7 : Int32) i5 i9 i4 i6 xo7_7) = (0 : Int32)
                  · replace hr := hr.trans (if_pos hc399_81)
                    refine own_step (T' := T80) (f' := (mkF m 406 #[.val (.int i0), .val (.int i1), .val (.int i2), .val (.int i3), .val (.int i4), .val (.int i5), .val (.int i6), .val (.ref o7), .val (.int i8), .val (.int i9), .val (.int (1 : Int32))] [])) (fun t kt => ?_) ?_
                    · show Steps p.tables e below (T80.setTop (mkF m 399 #[.val (.int i0), .val (.int i1), .val (.int i2), .val (.int i3), .val (.int i4), .val (.int i5), .val (.int i6), .val (.ref o7), .val (.int i8), .val (.int i9), .val (.int (1 : Int32))] [(.int (f2_0 (7 : Int32) i5 i9 i4 i6 xo7_7))])) _
                      refine XS.ifYes X80.here hx rfl (pc0 := 399) (pc' := 406) rfl (hb hby at_399) rfl ((if0 _ _).trans (teq hc399_81).1) (by decide) (by decide) kt
                    refine own_step (T' := T80) (f' := (mkF m 411 #[.val (.int i0), .val (.int i1), .val (.int i2), .val (.int i3), .val (.int i4), .val (.int i5), .val (.int i6), .val (.ref o7), .val (.int i8), .val (.int i9), .val (.int (0 : Int32))] [(.int (0 : Int32))])) (fun t kt => ?_) ?_
                    · show Steps p.tables e below (T80.setTop (mkF m 406 #[.val (.int i0), .val (.int i1), .val (.int i2), .val (.int i3), .val (.int i4), .val (.int i5), .val (.int i6), .val (.ref o7), .val (.int i8), .val (.int i9), .val (.int (1 : Int32))] [])) _
                      refine XS.iconst X80.here hx rfl (hb hby at_406) ?_
                      show Steps p.tables e below (T80.setTop (mkF m 407 #[.val (.int i0), .val (.int i1), .val (.int i2), .val (.int i3), .val (.int i4), .val (.int i5), .val (.int i6), .val (.ref o7), .val (.int i8), .val (.int i9), .val (.int (1 : Int32))] [(.int (0 : Int32))])) _
                      refine XS.istore X80.here hx rfl (hb hby at_407) rfl (l' := #[.val (.int i0), .val (.int i1), .val (.int i2), .val (.int i3), .val (.int i4), .val (.int i5), .val (.int i6), .val (.ref o7), .val (.int i8), .val (.int i9), .val (.int (0 : Int32))]) rfl ?_
                      show Steps p.tables e below (T80.setTop (mkF m 409 #[.val (.int i0), .val (.int i1), .val (.int i2), .val (.int i3), .val (.int i4), .val (.int i5), .val (.int i6), .val (.ref o7), .val (.int i8), .val (.int i9), .val (.int (0 : Int32))] [])) _
                      refine XS.iload X80.here hx rfl (hb hby at_409) rfl ?_
                      exact kt
                    refine own_step (T' := T80) (f' := (mkF m 436 #[.val (.int i0), .val (.int i1), .val (.int i2), .val (.int i3), .val (.int i4), .val (.int i5), .val (.int i6), .val (.ref o7), .val (.int i8), .val (.int i9), .val (.int (0 : Int32))] [])) (fun t kt => ?_) ?_
                    · show Steps p.tables e below (T80.setTop (mkF m 411 #[.val (.int i0), .val (.int i1), .val (.int i2), .val (.int i3), .val (.int i4), .val (.int i5), .val (.int i6), .val (.ref o7), .val (.int i8), .val (.int i9), .val (.int (0 : Int32))] [(.int (0 : Int32))])) _
                      refine XS.ifYes X80.here hx rfl (pc0 := 411) (pc' := 436) rfl (hb hby at_411) rfl ((if0 _ _).trans (teq (by decide : ((0 : Int32) = (0 : Int32)))).1) (by decide) (by decide) kt
                    refine own_step (T' := T80) (f' := (mkF m 441 #[.val (.int i0), .val (.int i1), .val (.int i2), .val (.int i3), .val (.int i4), .val (.int i5), .val (.int i6), .val (.ref o7), .val (.int i8), .val (.int i9), .val (.int (0 : Int32))] [(.int (0 : Int32))])) (fun t kt => ?_) ?_
                    · show Steps p.tables e below (T80.setTop (mkF m 436 #[.val (.int i0), .val (.int i1), .val (.int i2), .val (.int i3), .val (.int i4), .val (.int i5), .val (.int i6), .val (.ref o7), .val (.int i8), .val (.int i9), .val (.int (0 : Int32))] [])) _
                      refine XS.iconst X80.here hx rfl (hb hby at_436) ?_
                      show Steps p.tables e below (T80.setTop (mkF m 437 #[.val (.int i0), .val (.int i1), .val (.int i2), .val (.int i3), .val (.int i4), .val (.int i5), .val (.int i6), .val (.ref o7), .val (.int i8), .val (.int i9), .val (.int (0 : Int32))] [(.int (0 : Int32))])) _
                      refine XS.istore X80.here hx rfl (hb hby at_437) rfl (l' := #[.val (.int i0), .val (.int i1), .val (.int i2), .val (.int i3), .val (.int i4), .val (.int i5), .val (.int i6), .val (.ref o7), .val (.int i8), .val (.int i9), .val (.int (0 : Int32))]) rfl ?_
                      show Steps p.tables e below (T80.setTop (mkF m 439 #[.val (.int i0), .val (.int i1), .val (.int i2), .val (.int i3), .val (.int i4), .val (.int i5), .val (.int i6), .val (.ref o7), .val (.int i8), .val (.int i9), .val (.int (0 : Int32))] [])) _
                      refine XS.iload X80.here hx rfl (hb hby at_439) rfl ?_
                      exact kt
                    refine own_step (T' := T80) (f' := (mkF m 466 #[.val (.int i0), .val (.int i1), .val (.int i2), .val (.int i3), .val (.int i4), .val (.int i5), .val (.int i6), .val (.ref o7), .val (.int i8), .val (.int i9), .val (.int (0 : Int32))] [])) (fun t kt => ?_) ?_
                    · show Steps p.tables e below (T80.setTop (mkF m 441 #[.val (.int i0), .val (.int i1), .val (.int i2), .val (.int i3), .val (.int i4), .val (.int i5), .val (.int i6), .val (.ref o7), .val (.int i8), .val (.int i9), .val (.int (0 : Int32))] [(.int (0 : Int32))])) _
                      refine XS.ifYes X80.here hx rfl (pc0 := 441) (pc' := 466) rfl (hb hby at_441) rfl ((if0 _ _).trans (teq (by decide : ((0 : Int32) = (0 : Int32)))).1) (by decide) (by decide) kt
                    refine own_step (T' := T80) (f' := (mkF m 471 #[.val (.int i0), .val (.int i1), .val (.int i2), .val (.int i3), .val (.int i4), .val (.int i5), .val (.int i6), .val (.ref o7), .val (.int i8), .val (.int i9), .val (.int (0 : Int32))] [(.int (0 : Int32))])) (fun t kt => ?_) ?_
                    · show Steps p.tables e below (T80.setTop (mkF m 466 #[.val (.int i0), .val (.int i1), .val (.int i2), .val (.int i3), .val (.int i4), .val (.int i5), .val (.int i6), .val (.ref o7), .val (.int i8), .val (.int i9), .val (.int (0 : Int32))] [])) _
                      refine XS.iconst X80.here hx rfl (hb hby at_466) ?_
                      show Steps p.tables e below (T80.setTop (mkF m 467 #[.val (.int i0), .val (.int i1), .val (.int i2), .val (.int i3), .val (.int i4), .val (.int i5), .val (.int i6), .val (.ref o7), .val (.int i8), .val (.int i9), .val (.int (0 : Int32))] [(.int (0 : Int32))])) _
                      refine XS.istore X80.here hx rfl (hb hby at_467) rfl (l' := #[.val (.int i0), .val (.int i1), .val (.int i2), .val (.int i3), .val (.int i4), .val (.int i5), .val (.int i6), .val (.ref o7), .val (.int i8), .val (.int i9), .val (.int (0 : Int32))]) rfl ?_
                      show Steps p.tables e below (T80.setTop (mkF m 469 #[.val (.int i0), .val (.int i1), .val (.int i2), .val (.int i3), .val (.int i4), .val (.int i5), .val (.int i6), .val (.ref o7), .val (.int i8), .val (.int i9), .val (.int (0 : Int32))] [])) _
                      refine XS.iload X80.here hx rfl (hb hby at_469) rfl ?_
                      exact kt
                    exact own_retZ X80 hx hret (by simp) hlk (hb hby at_471) (by decide) (by decide) ⟨congrArg (fun z => some (Value.int z)) hr.symm, N80⟩
                  · replace hr := hr.trans (if_neg hc399_81)
                    refine own_step (T' := T80) (f' := (mkF m 402 #[.val (.int i0), .val (.int i1), .val (.int i2), .val (.int i3), .val (.int i4), .val (.int i5), .val (.int i6), .val (.ref o7), .val (.int i8), .val (.int i9), .val (.int (1 : Int32))] [])) (fun t kt => ?_) ?_
                    · show Steps p.tables e below (T80.setTop (mkF m 399 #[.val (.int i0), .val (.int i1), .val (.int i2), .val (.int i3), .val (.int i4), .val (.int i5), .val (.int i6), .val (.ref o7), .val (.int i8), .val (.int i9), .val (.int (1 : Int32))] [(.int (f2_0 (7 : Int32) i5 i9 i4 i6 xo7_7))])) _
                      refine XS.ifNo X80.here hx rfl (hb hby at_399) rfl ((if0 _ _).trans (feq hc399_81).1) kt
                    refine own_step (T' := T80) (f' := (mkF m 411 #[.val (.int i0), .val (.int i1), .val (.int i2), .val (.int i3), .val (.int i4), .val (.int i5), .val (.int i6), .val (.ref o7), .val (.int i8), .val (.int i9), .val (.int (1 : Int32))] [(.int (1 : Int32))])) (fun t kt => ?_) ?_
                    · show Steps p.tables e below (T80.setTop (mkF m 402 #[.val (.int i0), .val (.int i1), .val (.int i2), .val (.int i3), .val (.int i4), .val (.int i5), .val (.int i6), .val (.ref o7), .val (.int i8), .val (.int i9), .val (.int (1 : Int32))] [])) _
                      refine XS.iconst X80.here hx rfl (hb hby at_402) ?_
                      show Steps p.tables e below (T80.setTop (mkF m 403 #[.val (.int i0), .val (.int i1), .val (.int i2), .val (.int i3), .val (.int i4), .val (.int i5), .val (.int i6), .val (.ref o7), .val (.int i8), .val (.int i9), .val (.int (1 : Int32))] [(.int (1 : Int32))])) _
                      refine XS.goto X80.here hx rfl (pc0 := 403) (pc' := 407) rfl (hb hby at_403) (by decide) (by decide) ?_
                      show Steps p.tables e below (T80.setTop (mkF m 407 #[.val (.int i0), .val (.int i1), .val (.int i2), .val (.int i3), .val (.int i4), .val (.int i5), .val (.int i6), .val (.ref o7), .val (.int i8), .val (.int i9), .val (.int (1 : Int32))] [(.int (1 : Int32))])) _
                      refine XS.istore X80.here hx rfl (hb hby at_407) rfl (l' := #[.val (.int i0), .val (.int i1), .val (.int i2), .val (.int i3), .val (.int i4), .val (.int i5), .val (.int i6), .val (.ref o7), .val (.int i8), .val (.int i9), .val (.int (1 : Int32))]) rfl ?_
                      show Steps p.tables e below (T80.setTop (mkF m 409 #[.val (.int i0), .val (.int i1), .val (.int i2), .val (.int i3), .val (.int i4), .val (.int i5), .val (.int i6), .val (.ref o7), .val (.int i8), .val (.int i9), .val (.int (1 : Int32))] [])) _
                      refine XS.iload X80.here hx rfl (hb hby at_409) rfl ?_
                      exact kt
                    refine own_step (T' := T80) (f' := (mkF m 414 #[.val (.int i0), .val (.int i1), .val (.int i2), .val (.int i3), .val (.int i4), .val (.int i5), .val (.int i6), .val (.ref o7), .val (.int i8), .val (.int i9), .val (.int (1 : Int32))] [])) (fun t kt => ?_) ?_
                    · show Steps p.tables e below (T80.setTop (mkF m 411 #[.val (.int i0), .val (.int i1), .val (.int i2), .val (.int i3), .val (.int i4), .val (.int i5), .val (.int i6), .val (.ref o7), .val (.int i8), .val (.int i9), .val (.int (1 : Int32))] [(.int (1 : Int32))])) _
                      refine XS.ifNo X80.here hx rfl (hb hby at_411) rfl ((if0 _ _).trans (feq (by decide : ¬ ((1 : Int32) = (0 : Int32)))).1) kt
                    refine own_step (T' := T80) (f' := (mkF m 426 #[.val (.int i0), .val (.int i1), .val (.int i2), .val (.int i3), .val (.int i4), .val (.int i5), .val (.int i6), .val (.ref o7), .val (.int i8), .val (.int i9), .val (.int (1 : Int32))] [(.int i6), (.int i4), (.int i9), (.int i5), (.int (8 : Int32)), (.ref o7)])) (fun t kt => ?_) ?_
                    · show Steps p.tables e below (T80.setTop (mkF m 414 #[.val (.int i0), .val (.int i1), .val (.int i2), .val (.int i3), .val (.int i4), .val (.int i5), .val (.int i6), .val (.ref o7), .val (.int i8), .val (.int i9), .val (.int (1 : Int32))] [])) _
                      refine XS.aload X80.here hx rfl (hb hby at_414) rfl rfl ?_
                      show Steps p.tables e below (T80.setTop (mkF m 416 #[.val (.int i0), .val (.int i1), .val (.int i2), .val (.int i3), .val (.int i4), .val (.int i5), .val (.int i6), .val (.ref o7), .val (.int i8), .val (.int i9), .val (.int (1 : Int32))] [(.ref o7)])) _
                      refine XS.bipush X80.here hx rfl (hb hby at_416) ?_
                      show Steps p.tables e below (T80.setTop (mkF m 418 #[.val (.int i0), .val (.int i1), .val (.int i2), .val (.int i3), .val (.int i4), .val (.int i5), .val (.int i6), .val (.ref o7), .val (.int i8), .val (.int i9), .val (.int (1 : Int32))] [(.int (8 : Int32)), (.ref o7)])) _
                      refine XS.iload X80.here hx rfl (hb hby at_418) rfl ?_
                      show Steps p.tables e below (T80.setTop (mkF m 420 #[.val (.int i0), .val (.int i1), .val (.int i2), .val (.int i3), .val (.int i4), .val (.int i5), .val (.int i6), .val (.ref o7), .val (.int i8), .val (.int i9), .val (.int (1 : Int32))] [(.int i5), (.int (8 : Int32)), (.ref o7)])) _
                      refine XS.iload X80.here hx rfl (hb hby at_420) rfl ?_
                      show Steps p.tables e below (T80.setTop (mkF m 422 #[.val (.int i0), .val (.int i1), .val (.int i2), .val (.int i3), .val (.int i4), .val (.int i5), .val (.int i6), .val (.ref o7), .val (.int i8), .val (.int i9), .val (.int (1 : Int32))] [(.int i9), (.int i5), (.int (8 : Int32)), (.ref o7)])) _
                      refine XS.iload X80.here hx rfl (hb hby at_422) rfl ?_
                      show Steps p.tables e below (T80.setTop (mkF m 424 #[.val (.int i0), .val (.int i1), .val (.int i2), .val (.int i3), .val (.int i4), .val (.int i5), .val (.int i6), .val (.ref o7), .val (.int i8), .val (.int i9), .val (.int (1 : Int32))] [(.int i4), (.int i9), (.int i5), (.int (8 : Int32)), (.ref o7)])) _
                      refine XS.iload X80.here hx rfl (hb hby at_424) rfl ?_
                      exact kt
                    obtain ⟨_, _, ⟨T85, L85, k85, n85⟩, -, X85, ⟨Lc85, hQ85, l85, y85, z85⟩, st85⟩ := Jvm.LawKit.callS X80 hx (y := (⟨"hotstate/sort/VarIntsWritePinLaw", "cell", "([BIIIIB)Z"⟩ : MethodName)) hown (mvT hZ (hw _ (List.mem_of_getElem? (i := 6) rfl))) (mvT hZ (hw _ (List.mem_of_getElem? (i := 7) rfl))) (mvT hZ (hw _ (List.mem_of_getElem? (i := 8) rfl))) (mvT hZ (hw _ (List.mem_of_getElem? (i := 9) rfl))) (by decide) (backOf (W := 0) (rm2 l Z a0 hw [] o7 (8 : Int32) i5 i9 i4 i6 xo7_8 [(.int xo7_0), (.int xo7_1), (.int xo7_2), (.int xo7_3), (.int xo7_4), (.int xo7_5), (.int xo7_6), (.int xo7_7), (.int xo7_8), (.int xo7_9)] h0 n0 Ao7 (by decide) rfl) hZ (hw _ (List.mem_of_getElem? (i := 9) rfl)) (hw _ (List.mem_of_getElem? (i := 8) rfl)) (by decide) (by decide)) (g := (mkF m 426 #[.val (.int i0), .val (.int i1), .val (.int i2), .val (.int i3), .val (.int i4), .val (.int i5), .val (.int i6), .val (.ref o7), .val (.int i8), .val (.int i9), .val (.int (1 : Int32))] [(.int i6), (.int i4), (.int i9), (.int i5), (.int (8 : Int32)), (.ref o7)])) rfl (by rw [hml]; rfl) (argsL := [(.ref o7), (.int (8 : Int32)), (.int i5), (.int i9), (.int i4), (.int i6)]) (rest := []) (lenOf pd2 rfl) rfl (by show 2 * 0 + _ ≤ _; exact Nat.le_of_eq rfl) (hb hby at_426) (fun _ _ => ⟨rfl, e80, (by decide : 1 + 0 ≤ _), (by decide : 10 + 0 ≤ _)⟩)
                    dsimp only [Pt.U, Pt.locs, Pt.cells, Pt.slots] at X85 l85 y85 z85 st85 hQ85
                    subst l85 y85 z85
                    obtain ⟨rfl, Nq85, e85⟩ := hQ85
                    have N85 := Fr.app N80 Nq85
                    refine own_step (T' := T85) (f' := (mkF m 429 #[.val (.int i0), .val (.int i1), .val (.int i2), .val (.int i3), .val (.int i4), .val (.int i5), .val (.int i6), .val (.ref o7), .val (.int i8), .val (.int i9), .val (.int (1 : Int32))] [(.int (f2_0 (8 : Int32) i5 i9 i4 i6 xo7_8))])) st85 ?_
                    by_cases hc429_86 : (f2_0 (8 : Int32) i5 i9 i4 i6 xo7_8) = (0 : Int32)
                    · replace hr := hr.trans (if_pos hc429_86)
                      refine own_step (T' := T85) (f' := (mkF m 436 #[.val (.int i0), .val (.int i1), .val (.int i2), .val (.int i3), .val (.int i4), .val (.int i5), .val (.int i6), .val (.ref o7), .val (.int i8), .val (.int i9), .val (.int (1 : Int32))] [])) (fun t kt => ?_) ?_
                      · show Steps p.tables e below (T85.setTop (mkF m 429 #[.val (.int i0), .val (.int i1), .val (.int i2), .val (.int i3), .val (.int i4), .val (.int i5), .val (.int i6), .val (.ref o7), .val (.int i8), .val (.int i9), .val (.int (1 : Int32))] [(.int (f2_0 (8 : Int32) i5 i9 i4 i6 xo7_8))])) _
                        refine XS.ifYes X85.here hx rfl (pc0 := 429) (pc' := 436) rfl (hb hby at_429) rfl ((if0 _ _).trans (teq hc429_86).1) (by decide) (by decide) kt
                      refine own_step (T' := T85) (f' := (mkF m 441 #[.val (.int i0), .val (.int i1), .val (.int i2), .val (.int i3), .val (.int i4), .val (.int i5), .val (.int i6), .val (.ref o7), .val (.int i8), .val (.int i9), .val (.int (0 : Int32))] [(.int (0 : Int32))])) (fun t kt => ?_) ?_
                      · show Steps p.tables e below (T85.setTop (mkF m 436 #[.val (.int i0), .val (.int i1), .val (.int i2), .val (.int i3), .val (.int i4), .val (.int i5), .val (.int i6), .val (.ref o7), .val (.int i8), .val (.int i9), .val (.int (1 : Int32))] [])) _
                        refine XS.iconst X85.here hx rfl (hb hby at_436) ?_
                        show Steps p.tables e below (T85.setTop (mkF m 437 #[.val (.int i0), .val (.int i1), .val (.int i2), .val (.int i3), .val (.int i4), .val (.int i5), .val (.int i6), .val (.ref o7), .val (.int i8), .val (.int i9), .val (.int (1 : Int32))] [(.int (0 : Int32))])) _
                        refine XS.istore X85.here hx rfl (hb hby at_437) rfl (l' := #[.val (.int i0), .val (.int i1), .val (.int i2), .val (.int i3), .val (.int i4), .val (.int i5), .val (.int i6), .val (.ref o7), .val (.int i8), .val (.int i9), .val (.int (0 : Int32))]) rfl ?_
                        show Steps p.tables e below (T85.setTop (mkF m 439 #[.val (.int i0), .val (.int i1), .val (.int i2), .val (.int i3), .val (.int i4), .val (.int i5), .val (.int i6), .val (.ref o7), .val (.int i8), .val (.int i9), .val (.int (0 : Int32))] [])) _
                        refine XS.iload X85.here hx rfl (hb hby at_439) rfl ?_
                        exact kt
                      refine own_step (T' := T85) (f' := (mkF m 466 #[.val (.int i0), .val (.int i1), .val (.int i2), .val (.int i3), .val (.int i4), .val (.int i5), .val (.int i6), .val (.ref o7), .val (.int i8), .val (.int i9), .val (.int (0 : Int32))] [])) (fun t kt => ?_) ?_
                      · show Steps p.tables e below (T85.setTop (mkF m 441 #[.val (.int i0), .val (.int i1), .val (.int i2), .val (.int i3), .val (.int i4), .val (.int i5), .val (.int i6), .val (.ref o7), .val (.int i8), .val (.int i9), .val (.int (0 : Int32))] [(.int (0 : Int32))])) _
                        refine XS.ifYes X85.here hx rfl (pc0 := 441) (pc' := 466) rfl (hb hby at_441) rfl ((if0 _ _).trans (teq (by decide : ((0 : Int32) = (0 : Int32)))).1) (by decide) (by decide) kt
                      refine own_step (T' := T85) (f' := (mkF m 471 #[.val (.int i0), .val (.int i1), .val (.int i2), .val (.int i3), .val (.int i4), .val (.int i5), .val (.int i6), .val (.ref o7), .val (.int i8), .val (.int i9), .val (.int (0 : Int32))] [(.int (0 : Int32))])) (fun t kt => ?_) ?_
                      · show Steps p.tables e below (T85.setTop (mkF m 466 #[.val (.int i0), .val (.int i1), .val (.int i2), .val (.int i3), .val (.int i4), .val (.int i5), .val (.int i6), .val (.ref o7), .val (.int i8), .val (.int i9), .val (.int (0 : Int32))] [])) _
                        refine XS.iconst X85.here hx rfl (hb hby at_466) ?_
                        show Steps p.tables e below (T85.setTop (mkF m 467 #[.val (.int i0), .val (.int i1), .val (.int i2), .val (.int i3), .val (.int i4), .val (.int i5), .val (.int i6), .val (.ref o7), .val (.int i8), .val (.int i9), .val (.int (0 : Int32))] [(.int (0 : Int32))])) _
                        refine XS.istore X85.here hx rfl (hb hby at_467) rfl (l' := #[.val (.int i0), .val (.int i1), .val (.int i2), .val (.int i3), .val (.int i4), .val (.int i5), .val (.int i6), .val (.ref o7), .val (.int i8), .val (.int i9), .val (.int (0 : Int32))]) rfl ?_
                        show Steps p.tables e below (T85.setTop (mkF m 469 #[.val (.int i0), .val (.int i1), .val (.int i2), .val (.int i3), .val (.int i4), .val (.int i5), .val (.int i6), .val (.ref o7), .val (.int i8), .val (.int i9), .val (.int (0 : Int32))] [])) _
                        refine XS.iload X85.here hx rfl (hb hby at_469) rfl ?_
                        exact kt
                      exact own_retZ X85 hx hret (by simp) hlk (hb hby at_471) (by decide) (by decide) ⟨congrArg (fun z => some (Value.int z)) hr.symm, N85⟩
                    · replace hr := hr.trans (if_neg hc429_86)
                      refine own_step (T' := T85) (f' := (mkF m 432 #[.val (.int i0), .val (.int i1), .val (.int i2), .val (.int i3), .val (.int i4), .val (.int i5), .val (.int i6), .val (.ref o7), .val (.int i8), .val (.int i9), .val (.int (1 : Int32))] [])) (fun t kt => ?_) ?_
                      · show Steps p.tables e below (T85.setTop (mkF m 429 #[.val (.int i0), .val (.int i1), .val (.int i2), .val (.int i3), .val (.int i4), .val (.int i5), .val (.int i6), .val (.ref o7), .val (.int i8), .val (.int i9), .val (.int (1 : Int32))] [(.int (f2_0 (8 : Int32) i5 i9 i4 i6 xo7_8))])) _
                        refine XS.ifNo X85.here hx rfl (hb hby at_429) rfl ((if0 _ _).trans (feq hc429_86).1) kt
                      refine own_step (T' := T85) (f' := (mkF m 441 #[.val (.int i0), .val (.int i1), .val (.int i2), .val (.int i3), .val (.int i4), .val (.int i5), .val (.int i6), .val (.ref o7), .val (.int i8), .val (.int i9), .val (.int (1 : Int32))] [(.int (1 : Int32))])) (fun t kt => ?_) ?_
                      · show Steps p.tables e below (T85.setTop (mkF m 432 #[.val (.int i0), .val (.int i1), .val (.int i2), .val (.int i3), .val (.int i4), .val (.int i5), .val (.int i6), .val (.ref o7), .val (.int i8), .val (.int i9), .val (.int (1 : Int32))] [])) _
                        refine XS.iconst X85.here hx rfl (hb hby at_432) ?_
                        show Steps p.tables e below (T85.setTop (mkF m 433 #[.val (.int i0), .val (.int i1), .val (.int i2), .val (.int i3), .val (.int i4), .val (.int i5), .val (.int i6), .val (.ref o7), .val (.int i8), .val (.int i9), .val (.int (1 : Int32))] [(.int (1 : Int32))])) _
                        refine XS.goto X85.here hx rfl (pc0 := 433) (pc' := 437) rfl (hb hby at_433) (by decide) (by decide) ?_
                        show Steps p.tables e below (T85.setTop (mkF m 437 #[.val (.int i0), .val (.int i1), .val (.int i2), .val (.int i3), .val (.int i4), .val (.int i5), .val (.int i6), .val (.ref o7), .val (.int i8), .val (.int i9), .val (.int (1 : Int32))] [(.int (1 : Int32))])) _
                        refine XS.istore X85.here hx rfl (hb hby at_437) rfl (l' := #[.val (.int i0), .val (.int i1), .val (.int i2), .val (.int i3), .val (.int i4), .val (.int i5), .val (.int i6), .val (.ref o7), .val (.int i8), .val (.int i9), .val (.int (1 : Int32))]) rfl ?_
                        show Steps p.tables e below (T85.setTop (mkF m 439 #[.val (.int i0), .val (.int i1), .val (.int i2), .val (.int i3), .val (.int i4), .val (.int i5), .val (.int i6), .val (.ref o7), .val (.int i8), .val (.int i9), .val (.int (1 : Int32))] [])) _
                        refine XS.iload X85.here hx rfl (hb hby at_439) rfl ?_
                        exact kt
                      refine own_step (T' := T85) (f' := (mkF m 444 #[.val (.int i0), .val (.int i1), .val (.int i2), .val (.int i3), .val (.int i4), .val (.int i5), .val (.int i6), .val (.ref o7), .val (.int i8), .val (.int i9), .val (.int (1 : Int32))] [])) (fun t kt => ?_) ?_
                      · show Steps p.tables e below (T85.setTop (mkF m 441 #[.val (.int i0), .val (.int i1), .val (.int i2), .val (.int i3), .val (.int i4), .val (.int i5), .val (.int i6), .val (.ref o7), .val (.int i8), .val (.int i9), .val (.int (1 : Int32))] [(.int (1 : Int32))])) _
                        refine XS.ifNo X85.here hx rfl (hb hby at_441) rfl ((if0 _ _).trans (feq (by decide : ¬ ((1 : Int32) = (0 : Int32)))).1) kt
                      refine own_step (T' := T85) (f' := (mkF m 456 #[.val (.int i0), .val (.int i1), .val (.int i2), .val (.int i3), .val (.int i4), .val (.int i5), .val (.int i6), .val (.ref o7), .val (.int i8), .val (.int i9), .val (.int (1 : Int32))] [(.int i6), (.int i4), (.int i9), (.int i5), (.int (9 : Int32)), (.ref o7)])) (fun t kt => ?_) ?_
                      · show Steps p.tables e below (T85.setTop (mkF m 444 #[.val (.int i0), .val (.int i1), .val (.int i2), .val (.int i3), .val (.int i4), .val (.int i5), .val (.int i6), .val (.ref o7), .val (.int i8), .val (.int i9), .val (.int (1 : Int32))] [])) _
                        refine XS.aload X85.here hx rfl (hb hby at_444) rfl rfl ?_
                        show Steps p.tables e below (T85.setTop (mkF m 446 #[.val (.int i0), .val (.int i1), .val (.int i2), .val (.int i3), .val (.int i4), .val (.int i5), .val (.int i6), .val (.ref o7), .val (.int i8), .val (.int i9), .val (.int (1 : Int32))] [(.ref o7)])) _
                        refine XS.bipush X85.here hx rfl (hb hby at_446) ?_
                        show Steps p.tables e below (T85.setTop (mkF m 448 #[.val (.int i0), .val (.int i1), .val (.int i2), .val (.int i3), .val (.int i4), .val (.int i5), .val (.int i6), .val (.ref o7), .val (.int i8), .val (.int i9), .val (.int (1 : Int32))] [(.int (9 : Int32)), (.ref o7)])) _
                        refine XS.iload X85.here hx rfl (hb hby at_448) rfl ?_
                        show Steps p.tables e below (T85.setTop (mkF m 450 #[.val (.int i0), .val (.int i1), .val (.int i2), .val (.int i3), .val (.int i4), .val (.int i5), .val (.int i6), .val (.ref o7), .val (.int i8), .val (.int i9), .val (.int (1 : Int32))] [(.int i5), (.int (9 : Int32)), (.ref o7)])) _
                        refine XS.iload X85.here hx rfl (hb hby at_450) rfl ?_
                        show Steps p.tables e below (T85.setTop (mkF m 452 #[.val (.int i0), .val (.int i1), .val (.int i2), .val (.int i3), .val (.int i4), .val (.int i5), .val (.int i6), .val (.ref o7), .val (.int i8), .val (.int i9), .val (.int (1 : Int32))] [(.int i9), (.int i5), (.int (9 : Int32)), (.ref o7)])) _
                        refine XS.iload X85.here hx rfl (hb hby at_452) rfl ?_
                        show Steps p.tables e below (T85.setTop (mkF m 454 #[.val (.int i0), .val (.int i1), .val (.int i2), .val (.int i3), .val (.int i4), .val (.int i5), .val (.int i6), .val (.ref o7), .val (.int i8), .val (.int i9), .val (.int (1 : Int32))] [(.int i4), (.int i9), (.int i5), (.int (9 : Int32)), (.ref o7)])) _
                        refine XS.iload X85.here hx rfl (hb hby at_454) rfl ?_
                        exact kt
                      obtain ⟨_, _, ⟨T89, L89, k89, n89⟩, -, X89, ⟨Lc89, hQ89, l89, y89, z89⟩, st89⟩ := Jvm.LawKit.callS X85 hx (y := (⟨"hotstate/sort/VarIntsWritePinLaw", "cell", "([BIIIIB)Z"⟩ : MethodName)) hown (mvT hZ (hw _ (List.mem_of_getElem? (i := 6) rfl))) (mvT hZ (hw _ (List.mem_of_getElem? (i := 7) rfl))) (mvT hZ (hw _ (List.mem_of_getElem? (i := 8) rfl))) (mvT hZ (hw _ (List.mem_of_getElem? (i := 9) rfl))) (by decide) (backOf (W := 0) (rm2 l Z a0 hw [] o7 (9 : Int32) i5 i9 i4 i6 xo7_9 [(.int xo7_0), (.int xo7_1), (.int xo7_2), (.int xo7_3), (.int xo7_4), (.int xo7_5), (.int xo7_6), (.int xo7_7), (.int xo7_8), (.int xo7_9)] h0 n0 Ao7 (by decide) rfl) hZ (hw _ (List.mem_of_getElem? (i := 9) rfl)) (hw _ (List.mem_of_getElem? (i := 8) rfl)) (by decide) (by decide)) (g := (mkF m 456 #[.val (.int i0), .val (.int i1), .val (.int i2), .val (.int i3), .val (.int i4), .val (.int i5), .val (.int i6), .val (.ref o7), .val (.int i8), .val (.int i9), .val (.int (1 : Int32))] [(.int i6), (.int i4), (.int i9), (.int i5), (.int (9 : Int32)), (.ref o7)])) rfl (by rw [hml]; rfl) (argsL := [(.ref o7), (.int (9 : Int32)), (.int i5), (.int i9), (.int i4), (.int i6)]) (rest := []) (lenOf pd2 rfl) rfl (by show 2 * 0 + _ ≤ _; exact Nat.le_of_eq rfl) (hb hby at_456) (fun _ _ => ⟨rfl, e85, (by decide : 1 + 0 ≤ _), (by decide : 10 + 0 ≤ _)⟩)
                      dsimp only [Pt.U, Pt.locs, Pt.cells, Pt.slots] at X89 l89 y89 z89 st89 hQ89
                      subst l89 y89 z89
                      obtain ⟨rfl, Nq89, e89⟩ := hQ89
                      have N89 := Fr.app N85 Nq89
                      refine own_step (T' := T89) (f' := (mkF m 459 #[.val (.int i0), .val (.int i1), .val (.int i2), .val (.int i3), .val (.int i4), .val (.int i5), .val (.int i6), .val (.ref o7), .val (.int i8), .val (.int i9), .val (.int (1 : Int32))] [(.int (f2_0 (9 : Int32) i5 i9 i4 i6 xo7_9))])) st89 ?_
                      by_cases hc459_90 : (f2_0 (9 : Int32) i5 i9 i4 i6 xo7_9) = (0 : Int32)
                      · replace hr := hr.trans (if_pos hc459_90)
                        refine own_step (T' := T89) (f' := (mkF m 466 #[.val (.int i0), .val (.int i1), .val (.int i2), .val (.int i3), .val (.int i4), .val (.int i5), .val (.int i6), .val (.ref o7), .val (.int i8), .val (.int i9), .val (.int (1 : Int32))] [])) (fun t kt => ?_) ?_
                        · show Steps p.tables e below (T89.setTop (mkF m 459 #[.val (.int i0), .val (.int i1), .val (.int i2), .val (.int i3), .val (.int i4), .val (.int i5), .val (.int i6), .val (.ref o7), .val (.int i8), .val (.int i9), .val (.int (1 : Int32))] [(.int (f2_0 (9 : Int32) i5 i9 i4 i6 xo7_9))])) _
                          refine XS.ifYes X89.here hx rfl (pc0 := 459) (pc' := 466) rfl (hb hby at_459) rfl ((if0 _ _).trans (teq hc459_90).1) (by decide) (by decide) kt
                        refine own_step (T' := T89) (f' := (mkF m 471 #[.val (.int i0), .val (.int i1), .val (.int i2), .val (.int i3), .val (.int i4), .val (.int i5), .val (.int i6), .val (.ref o7), .val (.int i8), .val (.int i9), .val (.int (0 : Int32))] [(.int (0 : Int32))])) (fun t kt => ?_) ?_
                        · show Steps p.tables e below (T89.setTop (mkF m 466 #[.val (.int i0), .val (.int i1), .val (.int i2), .val (.int i3), .val (.int i4), .val (.int i5), .val (.int i6), .val (.ref o7), .val (.int i8), .val (.int i9), .val (.int (1 : Int32))] [])) _
                          refine XS.iconst X89.here hx rfl (hb hby at_466) ?_
                          show Steps p.tables e below (T89.setTop (mkF m 467 #[.val (.int i0), .val (.int i1), .val (.int i2), .val (.int i3), .val (.int i4), .val (.int i5), .val (.int i6), .val (.ref o7), .val (.int i8), .val (.int i9), .val (.int (1 : Int32))] [(.int (0 : Int32))])) _
                          refine XS.istore X89.here hx rfl (hb hby at_467) rfl (l' := #[.val (.int i0), .val (.int i1), .val (.int i2), .val (.int i3), .val (.int i4), .val (.int i5), .val (.int i6), .val (.ref o7), .val (.int i8), .val (.int i9), .val (.int (0 : Int32))]) rfl ?_
                          show Steps p.tables e below (T89.setTop (mkF m 469 #[.val (.int i0), .val (.int i1), .val (.int i2), .val (.int i3), .val (.int i4), .val (.int i5), .val (.int i6), .val (.ref o7), .val (.int i8), .val (.int i9), .val (.int (0 : Int32))] [])) _
                          refine XS.iload X89.here hx rfl (hb hby at_469) rfl ?_
                          exact kt
                        exact own_retZ X89 hx hret (by simp) hlk (hb hby at_471) (by decide) (by decide) ⟨congrArg (fun z => some (Value.int z)) hr.symm, N89⟩
                      · replace hr := hr.trans (if_neg hc459_90)
                        refine own_step (T' := T89) (f' := (mkF m 462 #[.val (.int i0), .val (.int i1), .val (.int i2), .val (.int i3), .val (.int i4), .val (.int i5), .val (.int i6), .val (.ref o7), .val (.int i8), .val (.int i9), .val (.int (1 : Int32))] [])) (fun t kt => ?_) ?_
                        · show Steps p.tables e below (T89.setTop (mkF m 459 #[.val (.int i0), .val (.int i1), .val (.int i2), .val (.int i3), .val (.int i4), .val (.int i5), .val (.int i6), .val (.ref o7), .val (.int i8), .val (.int i9), .val (.int (1 : Int32))] [(.int (f2_0 (9 : Int32) i5 i9 i4 i6 xo7_9))])) _
                          refine XS.ifNo X89.here hx rfl (hb hby at_459) rfl ((if0 _ _).trans (feq hc459_90).1) kt
                        refine own_step (T' := T89) (f' := (mkF m 471 #[.val (.int i0), .val (.int i1), .val (.int i2), .val (.int i3), .val (.int i4), .val (.int i5), .val (.int i6), .val (.ref o7), .val (.int i8), .val (.int i9), .val (.int (1 : Int32))] [(.int (1 : Int32))])) (fun t kt => ?_) ?_
                        · show Steps p.tables e below (T89.setTop (mkF m 462 #[.val (.int i0), .val (.int i1), .val (.int i2), .val (.int i3), .val (.int i4), .val (.int i5), .val (.int i6), .val (.ref o7), .val (.int i8), .val (.int i9), .val (.int (1 : Int32))] [])) _
                          refine XS.iconst X89.here hx rfl (hb hby at_462) ?_
                          show Steps p.tables e below (T89.setTop (mkF m 463 #[.val (.int i0), .val (.int i1), .val (.int i2), .val (.int i3), .val (.int i4), .val (.int i5), .val (.int i6), .val (.ref o7), .val (.int i8), .val (.int i9), .val (.int (1 : Int32))] [(.int (1 : Int32))])) _
                          refine XS.goto X89.here hx rfl (pc0 := 463) (pc' := 467) rfl (hb hby at_463) (by decide) (by decide) ?_
                          show Steps p.tables e below (T89.setTop (mkF m 467 #[.val (.int i0), .val (.int i1), .val (.int i2), .val (.int i3), .val (.int i4), .val (.int i5), .val (.int i6), .val (.ref o7), .val (.int i8), .val (.int i9), .val (.int (1 : Int32))] [(.int (1 : Int32))])) _
                          refine XS.istore X89.here hx rfl (hb hby at_467) rfl (l' := #[.val (.int i0), .val (.int i1), .val (.int i2), .val (.int i3), .val (.int i4), .val (.int i5), .val (.int i6), .val (.ref o7), .val (.int i8), .val (.int i9), .val (.int (1 : Int32))]) rfl ?_
                          show Steps p.tables e below (T89.setTop (mkF m 469 #[.val (.int i0), .val (.int i1), .val (.int i2), .val (.int i3), .val (.int i4), .val (.int i5), .val (.int i6), .val (.ref o7), .val (.int i8), .val (.int i9), .val (.int (1 : Int32))] [])) _
                          refine XS.iload X89.here hx rfl (hb hby at_469) rfl ?_
                          exact kt
                        exact own_retZ X89 hx hret (by simp) hlk (hb hby at_471) (by decide) (by decide) ⟨congrArg (fun z => some (Value.int z)) hr.symm, N89⟩
  · replace hr := hr.trans (if_neg hc165_15)
    refine own_step (T' := T0) (f' := (mkF m 172 #[.val (.int i0), .val (.int i1), .val (.int i2), .val (.int i3), .val (.int i4), .val (.int i5), .val (.int i6), .val (.ref o7), .val (.int i8), .val (.int i9), .unset] [])) (fun t kt => ?_) ?_
    · show Steps p.tables e below (T0.setTop (mkF m 165 #[.val (.int i0), .val (.int i1), .val (.int i2), .val (.int i3), .val (.int i4), .val (.int i5), .val (.int i6), .val (.ref o7), .val (.int i8), .val (.int i9), .unset] [(.int (i5 + i9)), (.int i8)])) _
      refine XS.icmpYes X0.here hx rfl (pc0 := 165) (pc' := 172) rfl (hb hby at_165) rfl (feq hc165_15).2 (by decide) (by decide) kt
    refine own_step (T' := T0) (f' := (mkF m 177 #[.val (.int i0), .val (.int i1), .val (.int i2), .val (.int i3), .val (.int i4), .val (.int i5), .val (.int i6), .val (.ref o7), .val (.int i8), .val (.int i9), .val (.int (0 : Int32))] [(.int (0 : Int32))])) (fun t kt => ?_) ?_
    · show Steps p.tables e below (T0.setTop (mkF m 172 #[.val (.int i0), .val (.int i1), .val (.int i2), .val (.int i3), .val (.int i4), .val (.int i5), .val (.int i6), .val (.ref o7), .val (.int i8), .val (.int i9), .unset] [])) _
      refine XS.iconst X0.here hx rfl (hb hby at_172) ?_
      show Steps p.tables e below (T0.setTop (mkF m 173 #[.val (.int i0), .val (.int i1), .val (.int i2), .val (.int i3), .val (.int i4), .val (.int i5), .val (.int i6), .val (.ref o7), .val (.int i8), .val (.int i9), .unset] [(.int (0 : Int32))])) _
      refine XS.istore X0.here hx rfl (hb hby at_173) rfl (l' := #[.val (.int i0), .val (.int i1), .val (.int i2), .val (.int i3), .val (.int i4), .val (.int i5), .val (.int i6), .val (.ref o7), .val (.int i8), .val (.int i9), .val (.int (0 : Int32))]) rfl ?_
      show Steps p.tables e below (T0.setTop (mkF m 175 #[.val (.int i0), .val (.int i1), .val (.int i2), .val (.int i3), .val (.int i4), .val (.int i5), .val (.int i6), .val (.ref o7), .val (.int i8), .val (.int i9), .val (.int (0 : Int32))] [])) _
      refine XS.iload X0.here hx rfl (hb hby at_175) rfl ?_
      exact kt
    refine own_step (T' := T0) (f' := (mkF m 201 #[.val (.int i0), .val (.int i1), .val (.int i2), .val (.int i3), .val (.int i4), .val (.int i5), .val (.int i6), .val (.ref o7), .val (.int i8), .val (.int i9), .val (.int (0 : Int32))] [])) (fun t kt => ?_) ?_
    · show Steps p.tables e below (T0.setTop (mkF m 177 #[.val (.int i0), .val (.int i1), .val (.int i2), .val (.int i3), .val (.int i4), .val (.int i5), .val (.int i6), .val (.ref o7), .val (.int i8), .val (.int i9), .val (.int (0 : Int32))] [(.int (0 : Int32))])) _
      refine XS.ifYes X0.here hx rfl (pc0 := 177) (pc' := 201) rfl (hb hby at_177) rfl ((if0 _ _).trans (teq (by decide : ((0 : Int32) = (0 : Int32)))).1) (by decide) (by decide) kt
    refine own_step (T' := T0) (f' := (mkF m 206 #[.val (.int i0), .val (.int i1), .val (.int i2), .val (.int i3), .val (.int i4), .val (.int i5), .val (.int i6), .val (.ref o7), .val (.int i8), .val (.int i9), .val (.int (0 : Int32))] [(.int (0 : Int32))])) (fun t kt => ?_) ?_
    · show Steps p.tables e below (T0.setTop (mkF m 201 #[.val (.int i0), .val (.int i1), .val (.int i2), .val (.int i3), .val (.int i4), .val (.int i5), .val (.int i6), .val (.ref o7), .val (.int i8), .val (.int i9), .val (.int (0 : Int32))] [])) _
      refine XS.iconst X0.here hx rfl (hb hby at_201) ?_
      show Steps p.tables e below (T0.setTop (mkF m 202 #[.val (.int i0), .val (.int i1), .val (.int i2), .val (.int i3), .val (.int i4), .val (.int i5), .val (.int i6), .val (.ref o7), .val (.int i8), .val (.int i9), .val (.int (0 : Int32))] [(.int (0 : Int32))])) _
      refine XS.istore X0.here hx rfl (hb hby at_202) rfl (l' := #[.val (.int i0), .val (.int i1), .val (.int i2), .val (.int i3), .val (.int i4), .val (.int i5), .val (.int i6), .val (.ref o7), .val (.int i8), .val (.int i9), .val (.int (0 : Int32))]) rfl ?_
      show Steps p.tables e below (T0.setTop (mkF m 204 #[.val (.int i0), .val (.int i1), .val (.int i2), .val (.int i3), .val (.int i4), .val (.int i5), .val (.int i6), .val (.ref o7), .val (.int i8), .val (.int i9), .val (.int (0 : Int32))] [])) _
      refine XS.iload X0.here hx rfl (hb hby at_204) rfl ?_
      exact kt
    refine own_step (T' := T0) (f' := (mkF m 230 #[.val (.int i0), .val (.int i1), .val (.int i2), .val (.int i3), .val (.int i4), .val (.int i5), .val (.int i6), .val (.ref o7), .val (.int i8), .val (.int i9), .val (.int (0 : Int32))] [])) (fun t kt => ?_) ?_
    · show Steps p.tables e below (T0.setTop (mkF m 206 #[.val (.int i0), .val (.int i1), .val (.int i2), .val (.int i3), .val (.int i4), .val (.int i5), .val (.int i6), .val (.ref o7), .val (.int i8), .val (.int i9), .val (.int (0 : Int32))] [(.int (0 : Int32))])) _
      refine XS.ifYes X0.here hx rfl (pc0 := 206) (pc' := 230) rfl (hb hby at_206) rfl ((if0 _ _).trans (teq (by decide : ((0 : Int32) = (0 : Int32)))).1) (by decide) (by decide) kt
    refine own_step (T' := T0) (f' := (mkF m 235 #[.val (.int i0), .val (.int i1), .val (.int i2), .val (.int i3), .val (.int i4), .val (.int i5), .val (.int i6), .val (.ref o7), .val (.int i8), .val (.int i9), .val (.int (0 : Int32))] [(.int (0 : Int32))])) (fun t kt => ?_) ?_
    · show Steps p.tables e below (T0.setTop (mkF m 230 #[.val (.int i0), .val (.int i1), .val (.int i2), .val (.int i3), .val (.int i4), .val (.int i5), .val (.int i6), .val (.ref o7), .val (.int i8), .val (.int i9), .val (.int (0 : Int32))] [])) _
      refine XS.iconst X0.here hx rfl (hb hby at_230) ?_
      show Steps p.tables e below (T0.setTop (mkF m 231 #[.val (.int i0), .val (.int i1), .val (.int i2), .val (.int i3), .val (.int i4), .val (.int i5), .val (.int i6), .val (.ref o7), .val (.int i8), .val (.int i9), .val (.int (0 : Int32))] [(.int (0 : Int32))])) _
      refine XS.istore X0.here hx rfl (hb hby at_231) rfl (l' := #[.val (.int i0), .val (.int i1), .val (.int i2), .val (.int i3), .val (.int i4), .val (.int i5), .val (.int i6), .val (.ref o7), .val (.int i8), .val (.int i9), .val (.int (0 : Int32))]) rfl ?_
      show Steps p.tables e below (T0.setTop (mkF m 233 #[.val (.int i0), .val (.int i1), .val (.int i2), .val (.int i3), .val (.int i4), .val (.int i5), .val (.int i6), .val (.ref o7), .val (.int i8), .val (.int i9), .val (.int (0 : Int32))] [])) _
      refine XS.iload X0.here hx rfl (hb hby at_233) rfl ?_
      exact kt
    refine own_step (T' := T0) (f' := (mkF m 259 #[.val (.int i0), .val (.int i1), .val (.int i2), .val (.int i3), .val (.int i4), .val (.int i5), .val (.int i6), .val (.ref o7), .val (.int i8), .val (.int i9), .val (.int (0 : Int32))] [])) (fun t kt => ?_) ?_
    · show Steps p.tables e below (T0.setTop (mkF m 235 #[.val (.int i0), .val (.int i1), .val (.int i2), .val (.int i3), .val (.int i4), .val (.int i5), .val (.int i6), .val (.ref o7), .val (.int i8), .val (.int i9), .val (.int (0 : Int32))] [(.int (0 : Int32))])) _
      refine XS.ifYes X0.here hx rfl (pc0 := 235) (pc' := 259) rfl (hb hby at_235) rfl ((if0 _ _).trans (teq (by decide : ((0 : Int32) = (0 : Int32)))).1) (by decide) (by decide) kt
    refine own_step (T' := T0) (f' := (mkF m 264 #[.val (.int i0), .val (.int i1), .val (.int i2), .val (.int i3), .val (.int i4), .val (.int i5), .val (.int i6), .val (.ref o7), .val (.int i8), .val (.int i9), .val (.int (0 : Int32))] [(.int (0 : Int32))])) (fun t kt => ?_) ?_
    · show Steps p.tables e below (T0.setTop (mkF m 259 #[.val (.int i0), .val (.int i1), .val (.int i2), .val (.int i3), .val (.int i4), .val (.int i5), .val (.int i6), .val (.ref o7), .val (.int i8), .val (.int i9), .val (.int (0 : Int32))] [])) _
      refine XS.iconst X0.here hx rfl (hb hby at_259) ?_
      show Steps p.tables e below (T0.setTop (mkF m 260 #[.val (.int i0), .val (.int i1), .val (.int i2), .val (.int i3), .val (.int i4), .val (.int i5), .val (.int i6), .val (.ref o7), .val (.int i8), .val (.int i9), .val (.int (0 : Int32))] [(.int (0 : Int32))])) _
      refine XS.istore X0.here hx rfl (hb hby at_260) rfl (l' := #[.val (.int i0), .val (.int i1), .val (.int i2), .val (.int i3), .val (.int i4), .val (.int i5), .val (.int i6), .val (.ref o7), .val (.int i8), .val (.int i9), .val (.int (0 : Int32))]) rfl ?_
      show Steps p.tables e below (T0.setTop (mkF m 262 #[.val (.int i0), .val (.int i1), .val (.int i2), .val (.int i3), .val (.int i4), .val (.int i5), .val (.int i6), .val (.ref o7), .val (.int i8), .val (.int i9), .val (.int (0 : Int32))] [])) _
      refine XS.iload X0.here hx rfl (hb hby at_262) rfl ?_
      exact kt
    refine own_step (T' := T0) (f' := (mkF m 288 #[.val (.int i0), .val (.int i1), .val (.int i2), .val (.int i3), .val (.int i4), .val (.int i5), .val (.int i6), .val (.ref o7), .val (.int i8), .val (.int i9), .val (.int (0 : Int32))] [])) (fun t kt => ?_) ?_
    · show Steps p.tables e below (T0.setTop (mkF m 264 #[.val (.int i0), .val (.int i1), .val (.int i2), .val (.int i3), .val (.int i4), .val (.int i5), .val (.int i6), .val (.ref o7), .val (.int i8), .val (.int i9), .val (.int (0 : Int32))] [(.int (0 : Int32))])) _
      refine XS.ifYes X0.here hx rfl (pc0 := 264) (pc' := 288) rfl (hb hby at_264) rfl ((if0 _ _).trans (teq (by decide : ((0 : Int32) = (0 : Int32)))).1) (by decide) (by decide) kt
    refine own_step (T' := T0) (f' := (mkF m 293 #[.val (.int i0), .val (.int i1), .val (.int i2), .val (.int i3), .val (.int i4), .val (.int i5), .val (.int i6), .val (.ref o7), .val (.int i8), .val (.int i9), .val (.int (0 : Int32))] [(.int (0 : Int32))])) (fun t kt => ?_) ?_
    · show Steps p.tables e below (T0.setTop (mkF m 288 #[.val (.int i0), .val (.int i1), .val (.int i2), .val (.int i3), .val (.int i4), .val (.int i5), .val (.int i6), .val (.ref o7), .val (.int i8), .val (.int i9), .val (.int (0 : Int32))] [])) _
      refine XS.iconst X0.here hx rfl (hb hby at_288) ?_
      show Steps p.tables e below (T0.setTop (mkF m 289 #[.val (.int i0), .val (.int i1), .val (.int i2), .val (.int i3), .val (.int i4), .val (.int i5), .val (.int i6), .val (.ref o7), .val (.int i8), .val (.int i9), .val (.int (0 : Int32))] [(.int (0 : Int32))])) _
      refine XS.istore X0.here hx rfl (hb hby at_289) rfl (l' := #[.val (.int i0), .val (.int i1), .val (.int i2), .val (.int i3), .val (.int i4), .val (.int i5), .val (.int i6), .val (.ref o7), .val (.int i8), .val (.int i9), .val (.int (0 : Int32))]) rfl ?_
      show Steps p.tables e below (T0.setTop (mkF m 291 #[.val (.int i0), .val (.int i1), .val (.int i2), .val (.int i3), .val (.int i4), .val (.int i5), .val (.int i6), .val (.ref o7), .val (.int i8), .val (.int i9), .val (.int (0 : Int32))] [])) _
      refine XS.iload X0.here hx rfl (hb hby at_291) rfl ?_
      exact kt
    refine own_step (T' := T0) (f' := (mkF m 317 #[.val (.int i0), .val (.int i1), .val (.int i2), .val (.int i3), .val (.int i4), .val (.int i5), .val (.int i6), .val (.ref o7), .val (.int i8), .val (.int i9), .val (.int (0 : Int32))] [])) (fun t kt => ?_) ?_
    · show Steps p.tables e below (T0.setTop (mkF m 293 #[.val (.int i0), .val (.int i1), .val (.int i2), .val (.int i3), .val (.int i4), .val (.int i5), .val (.int i6), .val (.ref o7), .val (.int i8), .val (.int i9), .val (.int (0 : Int32))] [(.int (0 : Int32))])) _
      refine XS.ifYes X0.here hx rfl (pc0 := 293) (pc' := 317) rfl (hb hby at_293) rfl ((if0 _ _).trans (teq (by decide : ((0 : Int32) = (0 : Int32)))).1) (by decide) (by decide) kt
    refine own_step (T' := T0) (f' := (mkF m 322 #[.val (.int i0), .val (.int i1), .val (.int i2), .val (.int i3), .val (.int i4), .val (.int i5), .val (.int i6), .val (.ref o7), .val (.int i8), .val (.int i9), .val (.int (0 : Int32))] [(.int (0 : Int32))])) (fun t kt => ?_) ?_
    · show Steps p.tables e below (T0.setTop (mkF m 317 #[.val (.int i0), .val (.int i1), .val (.int i2), .val (.int i3), .val (.int i4), .val (.int i5), .val (.int i6), .val (.ref o7), .val (.int i8), .val (.int i9), .val (.int (0 : Int32))] [])) _
      refine XS.iconst X0.here hx rfl (hb hby at_317) ?_
      show Steps p.tables e below (T0.setTop (mkF m 318 #[.val (.int i0), .val (.int i1), .val (.int i2), .val (.int i3), .val (.int i4), .val (.int i5), .val (.int i6), .val (.ref o7), .val (.int i8), .val (.int i9), .val (.int (0 : Int32))] [(.int (0 : Int32))])) _
      refine XS.istore X0.here hx rfl (hb hby at_318) rfl (l' := #[.val (.int i0), .val (.int i1), .val (.int i2), .val (.int i3), .val (.int i4), .val (.int i5), .val (.int i6), .val (.ref o7), .val (.int i8), .val (.int i9), .val (.int (0 : Int32))]) rfl ?_
      show Steps p.tables e below (T0.setTop (mkF m 320 #[.val (.int i0), .val (.int i1), .val (.int i2), .val (.int i3), .val (.int i4), .val (.int i5), .val (.int i6), .val (.ref o7), .val (.int i8), .val (.int i9), .val (.int (0 : Int32))] [])) _
      refine XS.iload X0.here hx rfl (hb hby at_320) rfl ?_
      exact kt
    refine own_step (T' := T0) (f' := (mkF m 346 #[.val (.int i0), .val (.int i1), .val (.int i2), .val (.int i3), .val (.int i4), .val (.int i5), .val (.int i6), .val (.ref o7), .val (.int i8), .val (.int i9), .val (.int (0 : Int32))] [])) (fun t kt => ?_) ?_
    · show Steps p.tables e below (T0.setTop (mkF m 322 #[.val (.int i0), .val (.int i1), .val (.int i2), .val (.int i3), .val (.int i4), .val (.int i5), .val (.int i6), .val (.ref o7), .val (.int i8), .val (.int i9), .val (.int (0 : Int32))] [(.int (0 : Int32))])) _
      refine XS.ifYes X0.here hx rfl (pc0 := 322) (pc' := 346) rfl (hb hby at_322) rfl ((if0 _ _).trans (teq (by decide : ((0 : Int32) = (0 : Int32)))).1) (by decide) (by decide) kt
    refine own_step (T' := T0) (f' := (mkF m 351 #[.val (.int i0), .val (.int i1), .val (.int i2), .val (.int i3), .val (.int i4), .val (.int i5), .val (.int i6), .val (.ref o7), .val (.int i8), .val (.int i9), .val (.int (0 : Int32))] [(.int (0 : Int32))])) (fun t kt => ?_) ?_
    · show Steps p.tables e below (T0.setTop (mkF m 346 #[.val (.int i0), .val (.int i1), .val (.int i2), .val (.int i3), .val (.int i4), .val (.int i5), .val (.int i6), .val (.ref o7), .val (.int i8), .val (.int i9), .val (.int (0 : Int32))] [])) _
      refine XS.iconst X0.here hx rfl (hb hby at_346) ?_
      show Steps p.tables e below (T0.setTop (mkF m 347 #[.val (.int i0), .val (.int i1), .val (.int i2), .val (.int i3), .val (.int i4), .val (.int i5), .val (.int i6), .val (.ref o7), .val (.int i8), .val (.int i9), .val (.int (0 : Int32))] [(.int (0 : Int32))])) _
      refine XS.istore X0.here hx rfl (hb hby at_347) rfl (l' := #[.val (.int i0), .val (.int i1), .val (.int i2), .val (.int i3), .val (.int i4), .val (.int i5), .val (.int i6), .val (.ref o7), .val (.int i8), .val (.int i9), .val (.int (0 : Int32))]) rfl ?_
      show Steps p.tables e below (T0.setTop (mkF m 349 #[.val (.int i0), .val (.int i1), .val (.int i2), .val (.int i3), .val (.int i4), .val (.int i5), .val (.int i6), .val (.ref o7), .val (.int i8), .val (.int i9), .val (.int (0 : Int32))] [])) _
      refine XS.iload X0.here hx rfl (hb hby at_349) rfl ?_
      exact kt
    refine own_step (T' := T0) (f' := (mkF m 376 #[.val (.int i0), .val (.int i1), .val (.int i2), .val (.int i3), .val (.int i4), .val (.int i5), .val (.int i6), .val (.ref o7), .val (.int i8), .val (.int i9), .val (.int (0 : Int32))] [])) (fun t kt => ?_) ?_
    · show Steps p.tables e below (T0.setTop (mkF m 351 #[.val (.int i0), .val (.int i1), .val (.int i2), .val (.int i3), .val (.int i4), .val (.int i5), .val (.int i6), .val (.ref o7), .val (.int i8), .val (.int i9), .val (.int (0 : Int32))] [(.int (0 : Int32))])) _
      refine XS.ifYes X0.here hx rfl (pc0 := 351) (pc' := 376) rfl (hb hby at_351) rfl ((if0 _ _).trans (teq (by decide : ((0 : Int32) = (0 : Int32)))).1) (by decide) (by decide) kt
    refine own_step (T' := T0) (f' := (mkF m 381 #[.val (.int i0), .val (.int i1), .val (.int i2), .val (.int i3), .val (.int i4), .val (.int i5), .val (.int i6), .val (.ref o7), .val (.int i8), .val (.int i9), .val (.int (0 : Int32))] [(.int (0 : Int32))])) (fun t kt => ?_) ?_
    · show Steps p.tables e below (T0.setTop (mkF m 376 #[.val (.int i0), .val (.int i1), .val (.int i2), .val (.int i3), .val (.int i4), .val (.int i5), .val (.int i6), .val (.ref o7), .val (.int i8), .val (.int i9), .val (.int (0 : Int32))] [])) _
      refine XS.iconst X0.here hx rfl (hb hby at_376) ?_
      show Steps p.tables e below (T0.setTop (mkF m 377 #[.val (.int i0), .val (.int i1), .val (.int i2), .val (.int i3), .val (.int i4), .val (.int i5), .val (.int i6), .val (.ref o7), .val (.int i8), .val (.int i9), .val (.int (0 : Int32))] [(.int (0 : Int32))])) _
      refine XS.istore X0.here hx rfl (hb hby at_377) rfl (l' := #[.val (.int i0), .val (.int i1), .val (.int i2), .val (.int i3), .val (.int i4), .val (.int i5), .val (.int i6), .val (.ref o7), .val (.int i8), .val (.int i9), .val (.int (0 : Int32))]) rfl ?_
      show Steps p.tables e below (T0.setTop (mkF m 379 #[.val (.int i0), .val (.int i1), .val (.int i2), .val (.int i3), .val (.int i4), .val (.int i5), .val (.int i6), .val (.ref o7), .val (.int i8), .val (.int i9), .val (.int (0 : Int32))] [])) _
      refine XS.iload X0.here hx rfl (hb hby at_379) rfl ?_
      exact kt
    refine own_step (T' := T0) (f' := (mkF m 406 #[.val (.int i0), .val (.int i1), .val (.int i2), .val (.int i3), .val (.int i4), .val (.int i5), .val (.int i6), .val (.ref o7), .val (.int i8), .val (.int i9), .val (.int (0 : Int32))] [])) (fun t kt => ?_) ?_
    · show Steps p.tables e below (T0.setTop (mkF m 381 #[.val (.int i0), .val (.int i1), .val (.int i2), .val (.int i3), .val (.int i4), .val (.int i5), .val (.int i6), .val (.ref o7), .val (.int i8), .val (.int i9), .val (.int (0 : Int32))] [(.int (0 : Int32))])) _
      refine XS.ifYes X0.here hx rfl (pc0 := 381) (pc' := 406) rfl (hb hby at_381) rfl ((if0 _ _).trans (teq (by decide : ((0 : Int32) = (0 : Int32)))).1) (by decide) (by decide) kt
    refine own_step (T' := T0) (f' := (mkF m 411 #[.val (.int i0), .val (.int i1), .val (.int i2), .val (.int i3), .val (.int i4), .val (.int i5), .val (.int i6), .val (.ref o7), .val (.int i8), .val (.int i9), .val (.int (0 : Int32))] [(.int (0 : Int32))])) (fun t kt => ?_) ?_
    · show Steps p.tables e below (T0.setTop (mkF m 406 #[.val (.int i0), .val (.int i1), .val (.int i2), .val (.int i3), .val (.int i4), .val (.int i5), .val (.int i6), .val (.ref o7), .val (.int i8), .val (.int i9), .val (.int (0 : Int32))] [])) _
      refine XS.iconst X0.here hx rfl (hb hby at_406) ?_
      show Steps p.tables e below (T0.setTop (mkF m 407 #[.val (.int i0), .val (.int i1), .val (.int i2), .val (.int i3), .val (.int i4), .val (.int i5), .val (.int i6), .val (.ref o7), .val (.int i8), .val (.int i9), .val (.int (0 : Int32))] [(.int (0 : Int32))])) _
      refine XS.istore X0.here hx rfl (hb hby at_407) rfl (l' := #[.val (.int i0), .val (.int i1), .val (.int i2), .val (.int i3), .val (.int i4), .val (.int i5), .val (.int i6), .val (.ref o7), .val (.int i8), .val (.int i9), .val (.int (0 : Int32))]) rfl ?_
      show Steps p.tables e below (T0.setTop (mkF m 409 #[.val (.int i0), .val (.int i1), .val (.int i2), .val (.int i3), .val (.int i4), .val (.int i5), .val (.int i6), .val (.ref o7), .val (.int i8), .val (.int i9), .val (.int (0 : Int32))] [])) _
      refine XS.iload X0.here hx rfl (hb hby at_409) rfl ?_
      exact kt
    refine own_step (T' := T0) (f' := (mkF m 436 #[.val (.int i0), .val (.int i1), .val (.int i2), .val (.int i3), .val (.int i4), .val (.int i5), .val (.int i6), .val (.ref o7), .val (.int i8), .val (.int i9), .val (.int (0 : Int32))] [])) (fun t kt => ?_) ?_
    · show Steps p.tables e below (T0.setTop (mkF m 411 #[.val (.int i0), .val (.int i1), .val (.int i2), .val (.int i3), .val (.int i4), .val (.int i5), .val (.int i6), .val (.ref o7), .val (.int i8), .val (.int i9), .val (.int (0 : Int32))] [(.int (0 : Int32))])) _
      refine XS.ifYes X0.here hx rfl (pc0 := 411) (pc' := 436) rfl (hb hby at_411) rfl ((if0 _ _).trans (teq (by decide : ((0 : Int32) = (0 : Int32)))).1) (by decide) (by decide) kt
    refine own_step (T' := T0) (f' := (mkF m 441 #[.val (.int i0), .val (.int i1), .val (.int i2), .val (.int i3), .val (.int i4), .val (.int i5), .val (.int i6), .val (.ref o7), .val (.int i8), .val (.int i9), .val (.int (0 : Int32))] [(.int (0 : Int32))])) (fun t kt => ?_) ?_
    · show Steps p.tables e below (T0.setTop (mkF m 436 #[.val (.int i0), .val (.int i1), .val (.int i2), .val (.int i3), .val (.int i4), .val (.int i5), .val (.int i6), .val (.ref o7), .val (.int i8), .val (.int i9), .val (.int (0 : Int32))] [])) _
      refine XS.iconst X0.here hx rfl (hb hby at_436) ?_
      show Steps p.tables e below (T0.setTop (mkF m 437 #[.val (.int i0), .val (.int i1), .val (.int i2), .val (.int i3), .val (.int i4), .val (.int i5), .val (.int i6), .val (.ref o7), .val (.int i8), .val (.int i9), .val (.int (0 : Int32))] [(.int (0 : Int32))])) _
      refine XS.istore X0.here hx rfl (hb hby at_437) rfl (l' := #[.val (.int i0), .val (.int i1), .val (.int i2), .val (.int i3), .val (.int i4), .val (.int i5), .val (.int i6), .val (.ref o7), .val (.int i8), .val (.int i9), .val (.int (0 : Int32))]) rfl ?_
      show Steps p.tables e below (T0.setTop (mkF m 439 #[.val (.int i0), .val (.int i1), .val (.int i2), .val (.int i3), .val (.int i4), .val (.int i5), .val (.int i6), .val (.ref o7), .val (.int i8), .val (.int i9), .val (.int (0 : Int32))] [])) _
      refine XS.iload X0.here hx rfl (hb hby at_439) rfl ?_
      exact kt
    refine own_step (T' := T0) (f' := (mkF m 466 #[.val (.int i0), .val (.int i1), .val (.int i2), .val (.int i3), .val (.int i4), .val (.int i5), .val (.int i6), .val (.ref o7), .val (.int i8), .val (.int i9), .val (.int (0 : Int32))] [])) (fun t kt => ?_) ?_
    · show Steps p.tables e below (T0.setTop (mkF m 441 #[.val (.int i0), .val (.int i1), .val (.int i2), .val (.int i3), .val (.int i4), .val (.int i5), .val (.int i6), .val (.ref o7), .val (.int i8), .val (.int i9), .val (.int (0 : Int32))] [(.int (0 : Int32))])) _
      refine XS.ifYes X0.here hx rfl (pc0 := 441) (pc' := 466) rfl (hb hby at_441) rfl ((if0 _ _).trans (teq (by decide : ((0 : Int32) = (0 : Int32)))).1) (by decide) (by decide) kt
    refine own_step (T' := T0) (f' := (mkF m 471 #[.val (.int i0), .val (.int i1), .val (.int i2), .val (.int i3), .val (.int i4), .val (.int i5), .val (.int i6), .val (.ref o7), .val (.int i8), .val (.int i9), .val (.int (0 : Int32))] [(.int (0 : Int32))])) (fun t kt => ?_) ?_
    · show Steps p.tables e below (T0.setTop (mkF m 466 #[.val (.int i0), .val (.int i1), .val (.int i2), .val (.int i3), .val (.int i4), .val (.int i5), .val (.int i6), .val (.ref o7), .val (.int i8), .val (.int i9), .val (.int (0 : Int32))] [])) _
      refine XS.iconst X0.here hx rfl (hb hby at_466) ?_
      show Steps p.tables e below (T0.setTop (mkF m 467 #[.val (.int i0), .val (.int i1), .val (.int i2), .val (.int i3), .val (.int i4), .val (.int i5), .val (.int i6), .val (.ref o7), .val (.int i8), .val (.int i9), .val (.int (0 : Int32))] [(.int (0 : Int32))])) _
      refine XS.istore X0.here hx rfl (hb hby at_467) rfl (l' := #[.val (.int i0), .val (.int i1), .val (.int i2), .val (.int i3), .val (.int i4), .val (.int i5), .val (.int i6), .val (.ref o7), .val (.int i8), .val (.int i9), .val (.int (0 : Int32))]) rfl ?_
      show Steps p.tables e below (T0.setTop (mkF m 469 #[.val (.int i0), .val (.int i1), .val (.int i2), .val (.int i3), .val (.int i4), .val (.int i5), .val (.int i6), .val (.ref o7), .val (.int i8), .val (.int i9), .val (.int (0 : Int32))] [])) _
      refine XS.iload X0.here hx rfl (hb hby at_469) rfl ?_
      exact kt
    exact own_retZ X0 hx hret (by simp) hlk (hb hby at_471) (by decide) (by decide) ⟨congrArg (fun z => some (Value.int z)) hr.symm, N0⟩
def f0_20 (i4 : Int32) (i5 : Int32) (i6 : Int32) : Int32 :=
  if i5 = (0 : Int32) then (if i4 < (128 : Int32) then (f0_158 i4 (0 : Int32) i6 (f1n1_0 i4 (0 : Int32)) (1 : Int32) (nar .byte (i4.toInt8.toInt32)) (nar .byte i6) (nar .byte i6) (nar .byte i6) (nar .byte i6) (nar .byte i6) (nar .byte i6) (nar .byte i6) (nar .byte i6) (nar .byte i6)) else (if i4 < (16384 : Int32) then (f0_158 i4 (0 : Int32) i6 (f1n2_0 i4 (0 : Int32)) (2 : Int32) (nar .byte ((i4 ||| (128 : Int32)).toInt8.toInt32)) (nar .byte (((i4.toUInt32 >>> ((7 : Int32) &&& 31).toUInt32).toInt32).toInt8.toInt32)) (nar .byte i6) (nar .byte i6) (nar .byte i6) (nar .byte i6) (nar .byte i6) (nar .byte i6) (nar .byte i6) (nar .byte i6)) else (if i4 < (2097152 : Int32) then (f0_158 i4 (0 : Int32) i6 (f1n3_0 i4 (0 : Int32)) (3 : Int32) (nar .byte ((i4 ||| (128 : Int32)).toInt8.toInt32)) (nar .byte ((((i4.toUInt32 >>> ((7 : Int32) &&& 31).toUInt32).toInt32) ||| (128 : Int32)).toInt8.toInt32)) (nar .byte (((((i4.toUInt32 >>> ((7 : Int32) &&& 31).toUInt32).toInt32).toUInt32 >>> ((7 : Int32) &&& 31).toUInt32).toInt32).toInt8.toInt32)) (nar .byte i6) (nar .byte i6) (nar .byte i6) (nar .byte i6) (nar .byte i6) (nar .byte i6) (nar .byte i6)) else (if i4 < (268435456 : Int32) then (f0_158 i4 (0 : Int32) i6 (f1n4_0 i4 (0 : Int32)) (4 : Int32) (nar .byte ((i4 ||| (128 : Int32)).toInt8.toInt32)) (nar .byte ((((i4.toUInt32 >>> ((7 : Int32) &&& 31).toUInt32).toInt32) ||| (128 : Int32)).toInt8.toInt32)) (nar .byte ((((((i4.toUInt32 >>> ((7 : Int32) &&& 31).toUInt32).toInt32).toUInt32 >>> ((7 : Int32) &&& 31).toUInt32).toInt32) ||| (128 : Int32)).toInt8.toInt32)) (nar .byte (((((((i4.toUInt32 >>> ((7 : Int32) &&& 31).toUInt32).toInt32).toUInt32 >>> ((7 : Int32) &&& 31).toUInt32).toInt32).toUInt32 >>> ((7 : Int32) &&& 31).toUInt32).toInt32).toInt8.toInt32)) (nar .byte i6) (nar .byte i6) (nar .byte i6) (nar .byte i6) (nar .byte i6) (nar .byte i6)) else (f0_158 i4 (0 : Int32) i6 (f1n5_0 i4 (0 : Int32)) (5 : Int32) (nar .byte ((i4 ||| (128 : Int32)).toInt8.toInt32)) (nar .byte ((((i4.toUInt32 >>> ((7 : Int32) &&& 31).toUInt32).toInt32) ||| (128 : Int32)).toInt8.toInt32)) (nar .byte ((((((i4.toUInt32 >>> ((7 : Int32) &&& 31).toUInt32).toInt32).toUInt32 >>> ((7 : Int32) &&& 31).toUInt32).toInt32) ||| (128 : Int32)).toInt8.toInt32)) (nar .byte ((((((((i4.toUInt32 >>> ((7 : Int32) &&& 31).toUInt32).toInt32).toUInt32 >>> ((7 : Int32) &&& 31).toUInt32).toInt32).toUInt32 >>> ((7 : Int32) &&& 31).toUInt32).toInt32) ||| (128 : Int32)).toInt8.toInt32)) (nar .byte (((((((((i4.toUInt32 >>> ((7 : Int32) &&& 31).toUInt32).toInt32).toUInt32 >>> ((7 : Int32) &&& 31).toUInt32).toInt32).toUInt32 >>> ((7 : Int32) &&& 31).toUInt32).toInt32).toUInt32 >>> ((7 : Int32) &&& 31).toUInt32).toInt32).toInt8.toInt32)) (nar .byte i6) (nar .byte i6) (nar .byte i6) (nar .byte i6) (nar .byte i6)))))) else if i5 = (1 : Int32) then (if i4 < (128 : Int32) then (f0_158 i4 (1 : Int32) i6 (f1n1_0 i4 (1 : Int32)) (1 : Int32) (nar .byte i6) (nar .byte (i4.toInt8.toInt32)) (nar .byte i6) (nar .byte i6) (nar .byte i6) (nar .byte i6) (nar .byte i6) (nar .byte i6) (nar .byte i6) (nar .byte i6)) else (if i4 < (16384 : Int32) then (f0_158 i4 (1 : Int32) i6 (f1n2_0 i4 (1 : Int32)) (2 : Int32) (nar .byte i6) (nar .byte ((i4 ||| (128 : Int32)).toInt8.toInt32)) (nar .byte (((i4.toUInt32 >>> ((7 : Int32) &&& 31).toUInt32).toInt32).toInt8.toInt32)) (nar .byte i6) (nar .byte i6) (nar .byte i6) (nar .byte i6) (nar .byte i6) (nar .byte i6) (nar .byte i6)) else (if i4 < (2097152 : Int32) then (f0_158 i4 (1 : Int32) i6 (f1n3_0 i4 (1 : Int32)) (3 : Int32) (nar .byte i6) (nar .byte ((i4 ||| (128 : Int32)).toInt8.toInt32)) (nar .byte ((((i4.toUInt32 >>> ((7 : Int32) &&& 31).toUInt32).toInt32) ||| (128 : Int32)).toInt8.toInt32)) (nar .byte (((((i4.toUInt32 >>> ((7 : Int32) &&& 31).toUInt32).toInt32).toUInt32 >>> ((7 : Int32) &&& 31).toUInt32).toInt32).toInt8.toInt32)) (nar .byte i6) (nar .byte i6) (nar .byte i6) (nar .byte i6) (nar .byte i6) (nar .byte i6)) else (if i4 < (268435456 : Int32) then (f0_158 i4 (1 : Int32) i6 (f1n4_0 i4 (1 : Int32)) (4 : Int32) (nar .byte i6) (nar .byte ((i4 ||| (128 : Int32)).toInt8.toInt32)) (nar .byte ((((i4.toUInt32 >>> ((7 : Int32) &&& 31).toUInt32).toInt32) ||| (128 : Int32)).toInt8.toInt32)) (nar .byte ((((((i4.toUInt32 >>> ((7 : Int32) &&& 31).toUInt32).toInt32).toUInt32 >>> ((7 : Int32) &&& 31).toUInt32).toInt32) ||| (128 : Int32)).toInt8.toInt32)) (nar .byte (((((((i4.toUInt32 >>> ((7 : Int32) &&& 31).toUInt32).toInt32).toUInt32 >>> ((7 : Int32) &&& 31).toUInt32).toInt32).toUInt32 >>> ((7 : Int32) &&& 31).toUInt32).toInt32).toInt8.toInt32)) (nar .byte i6) (nar .byte i6) (nar .byte i6) (nar .byte i6) (nar .byte i6)) else (f0_158 i4 (1 : Int32) i6 (f1n5_0 i4 (1 : Int32)) (5 : Int32) (nar .byte i6) (nar .byte ((i4 ||| (128 : Int32)).toInt8.toInt32)) (nar .byte ((((i4.toUInt32 >>> ((7 : Int32) &&& 31).toUInt32).toInt32) ||| (128 : Int32)).toInt8.toInt32)) (nar .byte ((((((i4.toUInt32 >>> ((7 : Int32) &&& 31).toUInt32).toInt32).toUInt32 >>> ((7 : Int32) &&& 31).toUInt32).toInt32) ||| (128 : Int32)).toInt8.toInt32)) (nar .byte ((((((((i4.toUInt32 >>> ((7 : Int32) &&& 31).toUInt32).toInt32).toUInt32 >>> ((7 : Int32) &&& 31).toUInt32).toInt32).toUInt32 >>> ((7 : Int32) &&& 31).toUInt32).toInt32) ||| (128 : Int32)).toInt8.toInt32)) (nar .byte (((((((((i4.toUInt32 >>> ((7 : Int32) &&& 31).toUInt32).toInt32).toUInt32 >>> ((7 : Int32) &&& 31).toUInt32).toInt32).toUInt32 >>> ((7 : Int32) &&& 31).toUInt32).toInt32).toUInt32 >>> ((7 : Int32) &&& 31).toUInt32).toInt32).toInt8.toInt32)) (nar .byte i6) (nar .byte i6) (nar .byte i6) (nar .byte i6)))))) else if i5 = (2 : Int32) then (if i4 < (128 : Int32) then (f0_158 i4 (2 : Int32) i6 (f1n1_0 i4 (2 : Int32)) (1 : Int32) (nar .byte i6) (nar .byte i6) (nar .byte (i4.toInt8.toInt32)) (nar .byte i6) (nar .byte i6) (nar .byte i6) (nar .byte i6) (nar .byte i6) (nar .byte i6) (nar .byte i6)) else (if i4 < (16384 : Int32) then (f0_158 i4 (2 : Int32) i6 (f1n2_0 i4 (2 : Int32)) (2 : Int32) (nar .byte i6) (nar .byte i6) (nar .byte ((i4 ||| (128 : Int32)).toInt8.toInt32)) (nar .byte (((i4.toUInt32 >>> ((7 : Int32) &&& 31).toUInt32).toInt32).toInt8.toInt32)) (nar .byte i6) (nar .byte i6) (nar .byte i6) (nar .byte i6) (nar .byte i6) (nar .byte i6)) else (if i4 < (2097152 : Int32) then (f0_158 i4 (2 : Int32) i6 (f1n3_0 i4 (2 : Int32)) (3 : Int32) (nar .byte i6) (nar .byte i6) (nar .byte ((i4 ||| (128 : Int32)).toInt8.toInt32)) (nar .byte ((((i4.toUInt32 >>> ((7 : Int32) &&& 31).toUInt32).toInt32) ||| (128 : Int32)).toInt8.toInt32)) (nar .byte (((((i4.toUInt32 >>> ((7 : Int32) &&& 31).toUInt32).toInt32).toUInt32 >>> ((7 : Int32) &&& 31).toUInt32).toInt32).toInt8.toInt32)) (nar .byte i6) (nar .byte i6) (nar .byte i6) (nar .byte i6) (nar .byte i6)) else (if i4 < (268435456 : Int32) then (f0_158 i4 (2 : Int32) i6 (f1n4_0 i4 (2 : Int32)) (4 : Int32) (nar .byte i6) (nar .byte i6) (nar .byte ((i4 ||| (128 : Int32)).toInt8.toInt32)) (nar .byte ((((i4.toUInt32 >>> ((7 : Int32) &&& 31).toUInt32).toInt32) ||| (128 : Int32)).toInt8.toInt32)) (nar .byte ((((((i4.toUInt32 >>> ((7 : Int32) &&& 31).toUInt32).toInt32).toUInt32 >>> ((7 : Int32) &&& 31).toUInt32).toInt32) ||| (128 : Int32)).toInt8.toInt32)) (nar .byte (((((((i4.toUInt32 >>> ((7 : Int32) &&& 31).toUInt32).toInt32).toUInt32 >>> ((7 : Int32) &&& 31).toUInt32).toInt32).toUInt32 >>> ((7 : Int32) &&& 31).toUInt32).toInt32).toInt8.toInt32)) (nar .byte i6) (nar .byte i6) (nar .byte i6) (nar .byte i6)) else (f0_158 i4 (2 : Int32) i6 (f1n5_0 i4 (2 : Int32)) (5 : Int32) (nar .byte i6) (nar .byte i6) (nar .byte ((i4 ||| (128 : Int32)).toInt8.toInt32)) (nar .byte ((((i4.toUInt32 >>> ((7 : Int32) &&& 31).toUInt32).toInt32) ||| (128 : Int32)).toInt8.toInt32)) (nar .byte ((((((i4.toUInt32 >>> ((7 : Int32) &&& 31).toUInt32).toInt32).toUInt32 >>> ((7 : Int32) &&& 31).toUInt32).toInt32) ||| (128 : Int32)).toInt8.toInt32)) (nar .byte ((((((((i4.toUInt32 >>> ((7 : Int32) &&& 31).toUInt32).toInt32).toUInt32 >>> ((7 : Int32) &&& 31).toUInt32).toInt32).toUInt32 >>> ((7 : Int32) &&& 31).toUInt32).toInt32) ||| (128 : Int32)).toInt8.toInt32)) (nar .byte (((((((((i4.toUInt32 >>> ((7 : Int32) &&& 31).toUInt32).toInt32).toUInt32 >>> ((7 : Int32) &&& 31).toUInt32).toInt32).toUInt32 >>> ((7 : Int32) &&& 31).toUInt32).toInt32).toUInt32 >>> ((7 : Int32) &&& 31).toUInt32).toInt32).toInt8.toInt32)) (nar .byte i6) (nar .byte i6) (nar .byte i6)))))) else if i5 = (3 : Int32) then (if i4 < (128 : Int32) then (f0_158 i4 (3 : Int32) i6 (f1n1_0 i4 (3 : Int32)) (1 : Int32) (nar .byte i6) (nar .byte i6) (nar .byte i6) (nar .byte (i4.toInt8.toInt32)) (nar .byte i6) (nar .byte i6) (nar .byte i6) (nar .byte i6) (nar .byte i6) (nar .byte i6)) else (if i4 < (16384 : Int32) then (f0_158 i4 (3 : Int32) i6 (f1n2_0 i4 (3 : Int32)) (2 : Int32) (nar .byte i6) (nar .byte i6) (nar .byte i6) (nar .byte ((i4 ||| (128 : Int32)).toInt8.toInt32)) (nar .byte (((i4.toUInt32 >>> ((7 : Int32) &&& 31).toUInt32).toInt32).toInt8.toInt32)) (nar .byte i6) (nar .byte i6) (nar .byte i6) (nar .byte i6) (nar .byte i6)) else (if i4 < (2097152 : Int32) then (f0_158 i4 (3 : Int32) i6 (f1n3_0 i4 (3 : Int32)) (3 : Int32) (nar .byte i6) (nar .byte i6) (nar .byte i6) (nar .byte ((i4 ||| (128 : Int32)).toInt8.toInt32)) (nar .byte ((((i4.toUInt32 >>> ((7 : Int32) &&& 31).toUInt32).toInt32) ||| (128 : Int32)).toInt8.toInt32)) (nar .byte (((((i4.toUInt32 >>> ((7 : Int32) &&& 31).toUInt32).toInt32).toUInt32 >>> ((7 : Int32) &&& 31).toUInt32).toInt32).toInt8.toInt32)) (nar .byte i6) (nar .byte i6) (nar .byte i6) (nar .byte i6)) else (if i4 < (268435456 : Int32) then (f0_158 i4 (3 : Int32) i6 (f1n4_0 i4 (3 : Int32)) (4 : Int32) (nar .byte i6) (nar .byte i6) (nar .byte i6) (nar .byte ((i4 ||| (128 : Int32)).toInt8.toInt32)) (nar .byte ((((i4.toUInt32 >>> ((7 : Int32) &&& 31).toUInt32).toInt32) ||| (128 : Int32)).toInt8.toInt32)) (nar .byte ((((((i4.toUInt32 >>> ((7 : Int32) &&& 31).toUInt32).toInt32).toUInt32 >>> ((7 : Int32) &&& 31).toUInt32).toInt32) ||| (128 : Int32)).toInt8.toInt32)) (nar .byte (((((((i4.toUInt32 >>> ((7 : Int32) &&& 31).toUInt32).toInt32).toUInt32 >>> ((7 : Int32) &&& 31).toUInt32).toInt32).toUInt32 >>> ((7 : Int32) &&& 31).toUInt32).toInt32).toInt8.toInt32)) (nar .byte i6) (nar .byte i6) (nar .byte i6)) else (f0_158 i4 (3 : Int32) i6 (f1n5_0 i4 (3 : Int32)) (5 : Int32) (nar .byte i6) (nar .byte i6) (nar .byte i6) (nar .byte ((i4 ||| (128 : Int32)).toInt8.toInt32)) (nar .byte ((((i4.toUInt32 >>> ((7 : Int32) &&& 31).toUInt32).toInt32) ||| (128 : Int32)).toInt8.toInt32)) (nar .byte ((((((i4.toUInt32 >>> ((7 : Int32) &&& 31).toUInt32).toInt32).toUInt32 >>> ((7 : Int32) &&& 31).toUInt32).toInt32) ||| (128 : Int32)).toInt8.toInt32)) (nar .byte ((((((((i4.toUInt32 >>> ((7 : Int32) &&& 31).toUInt32).toInt32).toUInt32 >>> ((7 : Int32) &&& 31).toUInt32).toInt32).toUInt32 >>> ((7 : Int32) &&& 31).toUInt32).toInt32) ||| (128 : Int32)).toInt8.toInt32)) (nar .byte (((((((((i4.toUInt32 >>> ((7 : Int32) &&& 31).toUInt32).toInt32).toUInt32 >>> ((7 : Int32) &&& 31).toUInt32).toInt32).toUInt32 >>> ((7 : Int32) &&& 31).toUInt32).toInt32).toUInt32 >>> ((7 : Int32) &&& 31).toUInt32).toInt32).toInt8.toInt32)) (nar .byte i6) (nar .byte i6)))))) else 0
set_option maxRecDepth 65536 in
set_option maxHeartbeats 4000000 in
theorem b0_20 {p : Program} {l : Launch} {e : Env} {s : State} {m : MethodId} {args : Array Value} {below : List Frame} {meth : Method} {c : Code} {T0 : State} {locs : List Loc} {Z : State} {a0 : Array Value} {h0 : Heap} {n0 : Nat} (i0 : Int32) (i1 : Int32) (i2 : Int32) (i3 : Int32) (i4 : Int32) (i5 : Int32) (i6 : Int32) {r : Int32} (X0 : Stand p l e room_1 s m args below meth c T0 locs 0 0) (hx : p.tables.exec = Jvm.exec) (hZ : Z.Warmed39 s.vm) (hw : ∀ d ∈ tables_1, d.before a0 Z = true) (hby : c.code = code) (hml : c.maxLocals = 11) (hown : s.vm.findClass "hotstate/sort/VarIntsWritePinLaw" = some m.cls) (hret : meth.sig.returnType = some .boolean) (hlk : meth.locks = false) (e0 : T0.heap = h0) (N0 : Fr n0 locs) (Z0 : n0 ≤ h0.size) (hat : i5 = (0 : Int32) ∨ i5 = (1 : Int32) ∨ i5 = (2 : Int32) ∨ i5 = (3 : Int32)) (hpos : ¬ i4 < (0 : Int32)) (hr : r = f0_20 i4 i5 i6) :
    own_Ends p e below s 16 128 (own_R (.int r) n0) T0 (mkF m 20 #[.val (.int i0), .val (.int i1), .val (.int i2), .val (.int i3), .val (.int i4), .val (.int i5), .val (.int i6), .unset, .unset, .unset, .unset] []) := by
  unfold f0_20 at hr
  refine own_step (T' := T0) (f' := (mkF m 22 #[.val (.int i0), .val (.int i1), .val (.int i2), .val (.int i3), .val (.int i4), .val (.int i5), .val (.int i6), .unset, .unset, .unset, .unset] [(.int (10 : Int32))])) (fun t kt => ?_) ?_
  · show Steps p.tables e below (T0.setTop (mkF m 20 #[.val (.int i0), .val (.int i1), .val (.int i2), .val (.int i3), .val (.int i4), .val (.int i5), .val (.int i6), .unset, .unset, .unset, .unset] [])) _
    refine XS.bipush X0.here hx rfl (hb hby at_20) ?_
    exact kt
  obtain ⟨T1, h1, b1, X1, e1, Ex1, gb1, g1, Z1, Aq1, st1⟩ := own_new X0 hx hZ (aty := .byte) (hw _ (List.mem_of_getElem? (i := 1) rfl)) e0 (g := (mkF m 22 #[.val (.int i0), .val (.int i1), .val (.int i2), .val (.int i3), .val (.int i4), .val (.int i5), .val (.int i6), .unset, .unset, .unset, .unset] [(.int (10 : Int32))])) rfl (hb hby at_22) rfl (by decide) (k := 10) (by decide) (by decide) (by decide) (by decide) Z0
  have Ab1_1 : own_A Z h1 b1 .byte [(.int (0 : Int32)), (.int (0 : Int32)), (.int (0 : Int32)), (.int (0 : Int32)), (.int (0 : Int32)), (.int (0 : Int32)), (.int (0 : Int32)), (.int (0 : Int32)), (.int (0 : Int32)), (.int (0 : Int32))] := Aq1
  refine own_step (T' := T1) (f' := (mkF m 24 #[.val (.int i0), .val (.int i1), .val (.int i2), .val (.int i3), .val (.int i4), .val (.int i5), .val (.int i6), .unset, .unset, .unset, .unset] [(.ref b1)])) st1 ?_
  refine own_step (T' := T1) (f' := (mkF m 31 #[.val (.int i0), .val (.int i1), .val (.int i2), .val (.int i3), .val (.int i4), .val (.int i5), .val (.int i6), .val (.ref b1), .unset, .unset, .unset] [(.int i6), (.int (0 : Int32)), (.ref b1)])) (fun t kt => ?_) ?_
  · show Steps p.tables e below (T1.setTop (mkF m 24 #[.val (.int i0), .val (.int i1), .val (.int i2), .val (.int i3), .val (.int i4), .val (.int i5), .val (.int i6), .unset, .unset, .unset, .unset] [(.ref b1)])) _
    refine XS.astore X1.here hx rfl (hb hby at_24) rfl rfl (l' := #[.val (.int i0), .val (.int i1), .val (.int i2), .val (.int i3), .val (.int i4), .val (.int i5), .val (.int i6), .val (.ref b1), .unset, .unset, .unset]) rfl ?_
    show Steps p.tables e below (T1.setTop (mkF m 26 #[.val (.int i0), .val (.int i1), .val (.int i2), .val (.int i3), .val (.int i4), .val (.int i5), .val (.int i6), .val (.ref b1), .unset, .unset, .unset] [])) _
    refine XS.aload X1.here hx rfl (hb hby at_26) rfl rfl ?_
    show Steps p.tables e below (T1.setTop (mkF m 28 #[.val (.int i0), .val (.int i1), .val (.int i2), .val (.int i3), .val (.int i4), .val (.int i5), .val (.int i6), .val (.ref b1), .unset, .unset, .unset] [(.ref b1)])) _
    refine XS.iconst X1.here hx rfl (hb hby at_28) ?_
    show Steps p.tables e below (T1.setTop (mkF m 29 #[.val (.int i0), .val (.int i1), .val (.int i2), .val (.int i3), .val (.int i4), .val (.int i5), .val (.int i6), .val (.ref b1), .unset, .unset, .unset] [(.int (0 : Int32)), (.ref b1)])) _
    refine XS.iload X1.here hx rfl (hb hby at_29) rfl ?_
    exact kt
  obtain ⟨T2, h2, Lq2, X2, N2, e2, W2, Z2, Aq2, st2⟩ := own_stB X1 hx hZ e1 Ab1_1 (j := (0 : Int32)) (by decide) (k := 0) (by decide) (Nat.le_of_ble_eq_true rfl) N0 g1 Z1 (g := (mkF m 31 #[.val (.int i0), .val (.int i1), .val (.int i2), .val (.int i3), .val (.int i4), .val (.int i5), .val (.int i6), .val (.ref b1), .unset, .unset, .unset] [(.int i6), (.int (0 : Int32)), (.ref b1)])) rfl rfl (hb hby at_31)
  have Ab1_2 : own_A Z h2 b1 .byte [(.int (nar .byte i6)), (.int (0 : Int32)), (.int (0 : Int32)), (.int (0 : Int32)), (.int (0 : Int32)), (.int (0 : Int32)), (.int (0 : Int32)), (.int (0 : Int32)), (.int (0 : Int32)), (.int (0 : Int32))] := Aq2
  refine own_step (T' := T2) (f' := (mkF m 32 #[.val (.int i0), .val (.int i1), .val (.int i2), .val (.int i3), .val (.int i4), .val (.int i5), .val (.int i6), .val (.ref b1), .unset, .unset, .unset] [])) st2 ?_
  refine own_step (T' := T2) (f' := (mkF m 37 #[.val (.int i0), .val (.int i1), .val (.int i2), .val (.int i3), .val (.int i4), .val (.int i5), .val (.int i6), .val (.ref b1), .unset, .unset, .unset] [(.int i6), (.int (1 : Int32)), (.ref b1)])) (fun t kt => ?_) ?_
  · show Steps p.tables e below (T2.setTop (mkF m 32 #[.val (.int i0), .val (.int i1), .val (.int i2), .val (.int i3), .val (.int i4), .val (.int i5), .val (.int i6), .val (.ref b1), .unset, .unset, .unset] [])) _
    refine XS.aload X2.here hx rfl (hb hby at_32) rfl rfl ?_
    show Steps p.tables e below (T2.setTop (mkF m 34 #[.val (.int i0), .val (.int i1), .val (.int i2), .val (.int i3), .val (.int i4), .val (.int i5), .val (.int i6), .val (.ref b1), .unset, .unset, .unset] [(.ref b1)])) _
    refine XS.iconst X2.here hx rfl (hb hby at_34) ?_
    show Steps p.tables e below (T2.setTop (mkF m 35 #[.val (.int i0), .val (.int i1), .val (.int i2), .val (.int i3), .val (.int i4), .val (.int i5), .val (.int i6), .val (.ref b1), .unset, .unset, .unset] [(.int (1 : Int32)), (.ref b1)])) _
    refine XS.iload X2.here hx rfl (hb hby at_35) rfl ?_
    exact kt
  obtain ⟨T3, h3, Lq3, X3, N3, e3, W3, Z3, Aq3, st3⟩ := own_stB X2 hx hZ e2 Ab1_2 (j := (1 : Int32)) (by decide) (k := 1) (by decide) (Nat.le_of_ble_eq_true rfl) N2 g1 Z2 (g := (mkF m 37 #[.val (.int i0), .val (.int i1), .val (.int i2), .val (.int i3), .val (.int i4), .val (.int i5), .val (.int i6), .val (.ref b1), .unset, .unset, .unset] [(.int i6), (.int (1 : Int32)), (.ref b1)])) rfl rfl (hb hby at_37)
  have Ab1_3 : own_A Z h3 b1 .byte [(.int (nar .byte i6)), (.int (nar .byte i6)), (.int (0 : Int32)), (.int (0 : Int32)), (.int (0 : Int32)), (.int (0 : Int32)), (.int (0 : Int32)), (.int (0 : Int32)), (.int (0 : Int32)), (.int (0 : Int32))] := Aq3
  refine own_step (T' := T3) (f' := (mkF m 38 #[.val (.int i0), .val (.int i1), .val (.int i2), .val (.int i3), .val (.int i4), .val (.int i5), .val (.int i6), .val (.ref b1), .unset, .unset, .unset] [])) st3 ?_
  refine own_step (T' := T3) (f' := (mkF m 43 #[.val (.int i0), .val (.int i1), .val (.int i2), .val (.int i3), .val (.int i4), .val (.int i5), .val (.int i6), .val (.ref b1), .unset, .unset, .unset] [(.int i6), (.int (2 : Int32)), (.ref b1)])) (fun t kt => ?_) ?_
  · show Steps p.tables e below (T3.setTop (mkF m 38 #[.val (.int i0), .val (.int i1), .val (.int i2), .val (.int i3), .val (.int i4), .val (.int i5), .val (.int i6), .val (.ref b1), .unset, .unset, .unset] [])) _
    refine XS.aload X3.here hx rfl (hb hby at_38) rfl rfl ?_
    show Steps p.tables e below (T3.setTop (mkF m 40 #[.val (.int i0), .val (.int i1), .val (.int i2), .val (.int i3), .val (.int i4), .val (.int i5), .val (.int i6), .val (.ref b1), .unset, .unset, .unset] [(.ref b1)])) _
    refine XS.iconst X3.here hx rfl (hb hby at_40) ?_
    show Steps p.tables e below (T3.setTop (mkF m 41 #[.val (.int i0), .val (.int i1), .val (.int i2), .val (.int i3), .val (.int i4), .val (.int i5), .val (.int i6), .val (.ref b1), .unset, .unset, .unset] [(.int (2 : Int32)), (.ref b1)])) _
    refine XS.iload X3.here hx rfl (hb hby at_41) rfl ?_
    exact kt
  obtain ⟨T4, h4, Lq4, X4, N4, e4, W4, Z4, Aq4, st4⟩ := own_stB X3 hx hZ e3 Ab1_3 (j := (2 : Int32)) (by decide) (k := 2) (by decide) (Nat.le_of_ble_eq_true rfl) N3 g1 Z3 (g := (mkF m 43 #[.val (.int i0), .val (.int i1), .val (.int i2), .val (.int i3), .val (.int i4), .val (.int i5), .val (.int i6), .val (.ref b1), .unset, .unset, .unset] [(.int i6), (.int (2 : Int32)), (.ref b1)])) rfl rfl (hb hby at_43)
  have Ab1_4 : own_A Z h4 b1 .byte [(.int (nar .byte i6)), (.int (nar .byte i6)), (.int (nar .byte i6)), (.int (0 : Int32)), (.int (0 : Int32)), (.int (0 : Int32)), (.int (0 : Int32)), (.int (0 : Int32)), (.int (0 : Int32)), (.int (0 : Int32))] := Aq4
  refine own_step (T' := T4) (f' := (mkF m 44 #[.val (.int i0), .val (.int i1), .val (.int i2), .val (.int i3), .val (.int i4), .val (.int i5), .val (.int i6), .val (.ref b1), .unset, .unset, .unset] [])) st4 ?_
  refine own_step (T' := T4) (f' := (mkF m 49 #[.val (.int i0), .val (.int i1), .val (.int i2), .val (.int i3), .val (.int i4), .val (.int i5), .val (.int i6), .val (.ref b1), .unset, .unset, .unset] [(.int i6), (.int (3 : Int32)), (.ref b1)])) (fun t kt => ?_) ?_
  · show Steps p.tables e below (T4.setTop (mkF m 44 #[.val (.int i0), .val (.int i1), .val (.int i2), .val (.int i3), .val (.int i4), .val (.int i5), .val (.int i6), .val (.ref b1), .unset, .unset, .unset] [])) _
    refine XS.aload X4.here hx rfl (hb hby at_44) rfl rfl ?_
    show Steps p.tables e below (T4.setTop (mkF m 46 #[.val (.int i0), .val (.int i1), .val (.int i2), .val (.int i3), .val (.int i4), .val (.int i5), .val (.int i6), .val (.ref b1), .unset, .unset, .unset] [(.ref b1)])) _
    refine XS.iconst X4.here hx rfl (hb hby at_46) ?_
    show Steps p.tables e below (T4.setTop (mkF m 47 #[.val (.int i0), .val (.int i1), .val (.int i2), .val (.int i3), .val (.int i4), .val (.int i5), .val (.int i6), .val (.ref b1), .unset, .unset, .unset] [(.int (3 : Int32)), (.ref b1)])) _
    refine XS.iload X4.here hx rfl (hb hby at_47) rfl ?_
    exact kt
  obtain ⟨T5, h5, Lq5, X5, N5, e5, W5, Z5, Aq5, st5⟩ := own_stB X4 hx hZ e4 Ab1_4 (j := (3 : Int32)) (by decide) (k := 3) (by decide) (Nat.le_of_ble_eq_true rfl) N4 g1 Z4 (g := (mkF m 49 #[.val (.int i0), .val (.int i1), .val (.int i2), .val (.int i3), .val (.int i4), .val (.int i5), .val (.int i6), .val (.ref b1), .unset, .unset, .unset] [(.int i6), (.int (3 : Int32)), (.ref b1)])) rfl rfl (hb hby at_49)
  have Ab1_5 : own_A Z h5 b1 .byte [(.int (nar .byte i6)), (.int (nar .byte i6)), (.int (nar .byte i6)), (.int (nar .byte i6)), (.int (0 : Int32)), (.int (0 : Int32)), (.int (0 : Int32)), (.int (0 : Int32)), (.int (0 : Int32)), (.int (0 : Int32))] := Aq5
  refine own_step (T' := T5) (f' := (mkF m 50 #[.val (.int i0), .val (.int i1), .val (.int i2), .val (.int i3), .val (.int i4), .val (.int i5), .val (.int i6), .val (.ref b1), .unset, .unset, .unset] [])) st5 ?_
  refine own_step (T' := T5) (f' := (mkF m 55 #[.val (.int i0), .val (.int i1), .val (.int i2), .val (.int i3), .val (.int i4), .val (.int i5), .val (.int i6), .val (.ref b1), .unset, .unset, .unset] [(.int i6), (.int (4 : Int32)), (.ref b1)])) (fun t kt => ?_) ?_
  · show Steps p.tables e below (T5.setTop (mkF m 50 #[.val (.int i0), .val (.int i1), .val (.int i2), .val (.int i3), .val (.int i4), .val (.int i5), .val (.int i6), .val (.ref b1), .unset, .unset, .unset] [])) _
    refine XS.aload X5.here hx rfl (hb hby at_50) rfl rfl ?_
    show Steps p.tables e below (T5.setTop (mkF m 52 #[.val (.int i0), .val (.int i1), .val (.int i2), .val (.int i3), .val (.int i4), .val (.int i5), .val (.int i6), .val (.ref b1), .unset, .unset, .unset] [(.ref b1)])) _
    refine XS.iconst X5.here hx rfl (hb hby at_52) ?_
    show Steps p.tables e below (T5.setTop (mkF m 53 #[.val (.int i0), .val (.int i1), .val (.int i2), .val (.int i3), .val (.int i4), .val (.int i5), .val (.int i6), .val (.ref b1), .unset, .unset, .unset] [(.int (4 : Int32)), (.ref b1)])) _
    refine XS.iload X5.here hx rfl (hb hby at_53) rfl ?_
    exact kt
  obtain ⟨T6, h6, Lq6, X6, N6, e6, W6, Z6, Aq6, st6⟩ := own_stB X5 hx hZ e5 Ab1_5 (j := (4 : Int32)) (by decide) (k := 4) (by decide) (Nat.le_of_ble_eq_true rfl) N5 g1 Z5 (g := (mkF m 55 #[.val (.int i0), .val (.int i1), .val (.int i2), .val (.int i3), .val (.int i4), .val (.int i5), .val (.int i6), .val (.ref b1), .unset, .unset, .unset] [(.int i6), (.int (4 : Int32)), (.ref b1)])) rfl rfl (hb hby at_55)
  have Ab1_6 : own_A Z h6 b1 .byte [(.int (nar .byte i6)), (.int (nar .byte i6)), (.int (nar .byte i6)), (.int (nar .byte i6)), (.int (nar .byte i6)), (.int (0 : Int32)), (.int (0 : Int32)), (.int (0 : Int32)), (.int (0 : Int32)), (.int (0 : Int32))] := Aq6
  refine own_step (T' := T6) (f' := (mkF m 56 #[.val (.int i0), .val (.int i1), .val (.int i2), .val (.int i3), .val (.int i4), .val (.int i5), .val (.int i6), .val (.ref b1), .unset, .unset, .unset] [])) st6 ?_
  refine own_step (T' := T6) (f' := (mkF m 61 #[.val (.int i0), .val (.int i1), .val (.int i2), .val (.int i3), .val (.int i4), .val (.int i5), .val (.int i6), .val (.ref b1), .unset, .unset, .unset] [(.int i6), (.int (5 : Int32)), (.ref b1)])) (fun t kt => ?_) ?_
  · show Steps p.tables e below (T6.setTop (mkF m 56 #[.val (.int i0), .val (.int i1), .val (.int i2), .val (.int i3), .val (.int i4), .val (.int i5), .val (.int i6), .val (.ref b1), .unset, .unset, .unset] [])) _
    refine XS.aload X6.here hx rfl (hb hby at_56) rfl rfl ?_
    show Steps p.tables e below (T6.setTop (mkF m 58 #[.val (.int i0), .val (.int i1), .val (.int i2), .val (.int i3), .val (.int i4), .val (.int i5), .val (.int i6), .val (.ref b1), .unset, .unset, .unset] [(.ref b1)])) _
    refine XS.iconst X6.here hx rfl (hb hby at_58) ?_
    show Steps p.tables e below (T6.setTop (mkF m 59 #[.val (.int i0), .val (.int i1), .val (.int i2), .val (.int i3), .val (.int i4), .val (.int i5), .val (.int i6), .val (.ref b1), .unset, .unset, .unset] [(.int (5 : Int32)), (.ref b1)])) _
    refine XS.iload X6.here hx rfl (hb hby at_59) rfl ?_
    exact kt
  obtain ⟨T7, h7, Lq7, X7, N7, e7, W7, Z7, Aq7, st7⟩ := own_stB X6 hx hZ e6 Ab1_6 (j := (5 : Int32)) (by decide) (k := 5) (by decide) (Nat.le_of_ble_eq_true rfl) N6 g1 Z6 (g := (mkF m 61 #[.val (.int i0), .val (.int i1), .val (.int i2), .val (.int i3), .val (.int i4), .val (.int i5), .val (.int i6), .val (.ref b1), .unset, .unset, .unset] [(.int i6), (.int (5 : Int32)), (.ref b1)])) rfl rfl (hb hby at_61)
  have Ab1_7 : own_A Z h7 b1 .byte [(.int (nar .byte i6)), (.int (nar .byte i6)), (.int (nar .byte i6)), (.int (nar .byte i6)), (.int (nar .byte i6)), (.int (nar .byte i6)), (.int (0 : Int32)), (.int (0 : Int32)), (.int (0 : Int32)), (.int (0 : Int32))] := Aq7
  refine own_step (T' := T7) (f' := (mkF m 62 #[.val (.int i0), .val (.int i1), .val (.int i2), .val (.int i3), .val (.int i4), .val (.int i5), .val (.int i6), .val (.ref b1), .unset, .unset, .unset] [])) st7 ?_
  refine own_step (T' := T7) (f' := (mkF m 68 #[.val (.int i0), .val (.int i1), .val (.int i2), .val (.int i3), .val (.int i4), .val (.int i5), .val (.int i6), .val (.ref b1), .unset, .unset, .unset] [(.int i6), (.int (6 : Int32)), (.ref b1)])) (fun t kt => ?_) ?_
  · show Steps p.tables e below (T7.setTop (mkF m 62 #[.val (.int i0), .val (.int i1), .val (.int i2), .val (.int i3), .val (.int i4), .val (.int i5), .val (.int i6), .val (.ref b1), .unset, .unset, .unset] [])) _
    refine XS.aload X7.here hx rfl (hb hby at_62) rfl rfl ?_
    show Steps p.tables e below (T7.setTop (mkF m 64 #[.val (.int i0), .val (.int i1), .val (.int i2), .val (.int i3), .val (.int i4), .val (.int i5), .val (.int i6), .val (.ref b1), .unset, .unset, .unset] [(.ref b1)])) _
    refine XS.bipush X7.here hx rfl (hb hby at_64) ?_
    show Steps p.tables e below (T7.setTop (mkF m 66 #[.val (.int i0), .val (.int i1), .val (.int i2), .val (.int i3), .val (.int i4), .val (.int i5), .val (.int i6), .val (.ref b1), .unset, .unset, .unset] [(.int (6 : Int32)), (.ref b1)])) _
    refine XS.iload X7.here hx rfl (hb hby at_66) rfl ?_
    exact kt
  obtain ⟨T8, h8, Lq8, X8, N8, e8, W8, Z8, Aq8, st8⟩ := own_stB X7 hx hZ e7 Ab1_7 (j := (6 : Int32)) (by decide) (k := 6) (by decide) (Nat.le_of_ble_eq_true rfl) N7 g1 Z7 (g := (mkF m 68 #[.val (.int i0), .val (.int i1), .val (.int i2), .val (.int i3), .val (.int i4), .val (.int i5), .val (.int i6), .val (.ref b1), .unset, .unset, .unset] [(.int i6), (.int (6 : Int32)), (.ref b1)])) rfl rfl (hb hby at_68)
  have Ab1_8 : own_A Z h8 b1 .byte [(.int (nar .byte i6)), (.int (nar .byte i6)), (.int (nar .byte i6)), (.int (nar .byte i6)), (.int (nar .byte i6)), (.int (nar .byte i6)), (.int (nar .byte i6)), (.int (0 : Int32)), (.int (0 : Int32)), (.int (0 : Int32))] := Aq8
  refine own_step (T' := T8) (f' := (mkF m 69 #[.val (.int i0), .val (.int i1), .val (.int i2), .val (.int i3), .val (.int i4), .val (.int i5), .val (.int i6), .val (.ref b1), .unset, .unset, .unset] [])) st8 ?_
  refine own_step (T' := T8) (f' := (mkF m 75 #[.val (.int i0), .val (.int i1), .val (.int i2), .val (.int i3), .val (.int i4), .val (.int i5), .val (.int i6), .val (.ref b1), .unset, .unset, .unset] [(.int i6), (.int (7 : Int32)), (.ref b1)])) (fun t kt => ?_) ?_
  · show Steps p.tables e below (T8.setTop (mkF m 69 #[.val (.int i0), .val (.int i1), .val (.int i2), .val (.int i3), .val (.int i4), .val (.int i5), .val (.int i6), .val (.ref b1), .unset, .unset, .unset] [])) _
    refine XS.aload X8.here hx rfl (hb hby at_69) rfl rfl ?_
    show Steps p.tables e below (T8.setTop (mkF m 71 #[.val (.int i0), .val (.int i1), .val (.int i2), .val (.int i3), .val (.int i4), .val (.int i5), .val (.int i6), .val (.ref b1), .unset, .unset, .unset] [(.ref b1)])) _
    refine XS.bipush X8.here hx rfl (hb hby at_71) ?_
    show Steps p.tables e below (T8.setTop (mkF m 73 #[.val (.int i0), .val (.int i1), .val (.int i2), .val (.int i3), .val (.int i4), .val (.int i5), .val (.int i6), .val (.ref b1), .unset, .unset, .unset] [(.int (7 : Int32)), (.ref b1)])) _
    refine XS.iload X8.here hx rfl (hb hby at_73) rfl ?_
    exact kt
  obtain ⟨T9, h9, Lq9, X9, N9, e9, W9, Z9, Aq9, st9⟩ := own_stB X8 hx hZ e8 Ab1_8 (j := (7 : Int32)) (by decide) (k := 7) (by decide) (Nat.le_of_ble_eq_true rfl) N8 g1 Z8 (g := (mkF m 75 #[.val (.int i0), .val (.int i1), .val (.int i2), .val (.int i3), .val (.int i4), .val (.int i5), .val (.int i6), .val (.ref b1), .unset, .unset, .unset] [(.int i6), (.int (7 : Int32)), (.ref b1)])) rfl rfl (hb hby at_75)
  have Ab1_9 : own_A Z h9 b1 .byte [(.int (nar .byte i6)), (.int (nar .byte i6)), (.int (nar .byte i6)), (.int (nar .byte i6)), (.int (nar .byte i6)), (.int (nar .byte i6)), (.int (nar .byte i6)), (.int (nar .byte i6)), (.int (0 : Int32)), (.int (0 : Int32))] := Aq9
  refine own_step (T' := T9) (f' := (mkF m 76 #[.val (.int i0), .val (.int i1), .val (.int i2), .val (.int i3), .val (.int i4), .val (.int i5), .val (.int i6), .val (.ref b1), .unset, .unset, .unset] [])) st9 ?_
  refine own_step (T' := T9) (f' := (mkF m 82 #[.val (.int i0), .val (.int i1), .val (.int i2), .val (.int i3), .val (.int i4), .val (.int i5), .val (.int i6), .val (.ref b1), .unset, .unset, .unset] [(.int i6), (.int (8 : Int32)), (.ref b1)])) (fun t kt => ?_) ?_
  · show Steps p.tables e below (T9.setTop (mkF m 76 #[.val (.int i0), .val (.int i1), .val (.int i2), .val (.int i3), .val (.int i4), .val (.int i5), .val (.int i6), .val (.ref b1), .unset, .unset, .unset] [])) _
    refine XS.aload X9.here hx rfl (hb hby at_76) rfl rfl ?_
    show Steps p.tables e below (T9.setTop (mkF m 78 #[.val (.int i0), .val (.int i1), .val (.int i2), .val (.int i3), .val (.int i4), .val (.int i5), .val (.int i6), .val (.ref b1), .unset, .unset, .unset] [(.ref b1)])) _
    refine XS.bipush X9.here hx rfl (hb hby at_78) ?_
    show Steps p.tables e below (T9.setTop (mkF m 80 #[.val (.int i0), .val (.int i1), .val (.int i2), .val (.int i3), .val (.int i4), .val (.int i5), .val (.int i6), .val (.ref b1), .unset, .unset, .unset] [(.int (8 : Int32)), (.ref b1)])) _
    refine XS.iload X9.here hx rfl (hb hby at_80) rfl ?_
    exact kt
  obtain ⟨T10, h10, Lq10, X10, N10, e10, W10, Z10, Aq10, st10⟩ := own_stB X9 hx hZ e9 Ab1_9 (j := (8 : Int32)) (by decide) (k := 8) (by decide) (Nat.le_of_ble_eq_true rfl) N9 g1 Z9 (g := (mkF m 82 #[.val (.int i0), .val (.int i1), .val (.int i2), .val (.int i3), .val (.int i4), .val (.int i5), .val (.int i6), .val (.ref b1), .unset, .unset, .unset] [(.int i6), (.int (8 : Int32)), (.ref b1)])) rfl rfl (hb hby at_82)
  have Ab1_10 : own_A Z h10 b1 .byte [(.int (nar .byte i6)), (.int (nar .byte i6)), (.int (nar .byte i6)), (.int (nar .byte i6)), (.int (nar .byte i6)), (.int (nar .byte i6)), (.int (nar .byte i6)), (.int (nar .byte i6)), (.int (nar .byte i6)), (.int (0 : Int32))] := Aq10
  refine own_step (T' := T10) (f' := (mkF m 83 #[.val (.int i0), .val (.int i1), .val (.int i2), .val (.int i3), .val (.int i4), .val (.int i5), .val (.int i6), .val (.ref b1), .unset, .unset, .unset] [])) st10 ?_
  refine own_step (T' := T10) (f' := (mkF m 89 #[.val (.int i0), .val (.int i1), .val (.int i2), .val (.int i3), .val (.int i4), .val (.int i5), .val (.int i6), .val (.ref b1), .unset, .unset, .unset] [(.int i6), (.int (9 : Int32)), (.ref b1)])) (fun t kt => ?_) ?_
  · show Steps p.tables e below (T10.setTop (mkF m 83 #[.val (.int i0), .val (.int i1), .val (.int i2), .val (.int i3), .val (.int i4), .val (.int i5), .val (.int i6), .val (.ref b1), .unset, .unset, .unset] [])) _
    refine XS.aload X10.here hx rfl (hb hby at_83) rfl rfl ?_
    show Steps p.tables e below (T10.setTop (mkF m 85 #[.val (.int i0), .val (.int i1), .val (.int i2), .val (.int i3), .val (.int i4), .val (.int i5), .val (.int i6), .val (.ref b1), .unset, .unset, .unset] [(.ref b1)])) _
    refine XS.bipush X10.here hx rfl (hb hby at_85) ?_
    show Steps p.tables e below (T10.setTop (mkF m 87 #[.val (.int i0), .val (.int i1), .val (.int i2), .val (.int i3), .val (.int i4), .val (.int i5), .val (.int i6), .val (.ref b1), .unset, .unset, .unset] [(.int (9 : Int32)), (.ref b1)])) _
    refine XS.iload X10.here hx rfl (hb hby at_87) rfl ?_
    exact kt
  obtain ⟨T11, h11, Lq11, X11, N11, e11, W11, Z11, Aq11, st11⟩ := own_stB X10 hx hZ e10 Ab1_10 (j := (9 : Int32)) (by decide) (k := 9) (by decide) (Nat.le_of_ble_eq_true rfl) N10 g1 Z10 (g := (mkF m 89 #[.val (.int i0), .val (.int i1), .val (.int i2), .val (.int i3), .val (.int i4), .val (.int i5), .val (.int i6), .val (.ref b1), .unset, .unset, .unset] [(.int i6), (.int (9 : Int32)), (.ref b1)])) rfl rfl (hb hby at_89)
  have Ab1_11 : own_A Z h11 b1 .byte [(.int (nar .byte i6)), (.int (nar .byte i6)), (.int (nar .byte i6)), (.int (nar .byte i6)), (.int (nar .byte i6)), (.int (nar .byte i6)), (.int (nar .byte i6)), (.int (nar .byte i6)), (.int (nar .byte i6)), (.int (nar .byte i6))] := Aq11
  refine own_step (T' := T11) (f' := (mkF m 90 #[.val (.int i0), .val (.int i1), .val (.int i2), .val (.int i3), .val (.int i4), .val (.int i5), .val (.int i6), .val (.ref b1), .unset, .unset, .unset] [])) st11 ?_
  rcases hat with rfl | rfl | rfl | rfl
  · replace hr := hr.trans (if_pos rfl)
    by_cases hm90_12 : i4 < (128 : Int32)
    · replace hr := hr.trans (if_pos hm90_12)
      refine own_step (T' := T11) (f' := (mkF m 96 #[.val (.int i0), .val (.int i1), .val (.int i2), .val (.int i3), .val (.int i4), .val (.int (0 : Int32)), .val (.int i6), .val (.ref b1), .unset, .unset, .unset] [(.int (0 : Int32)), (.ref b1), (.int i4)])) (fun t kt => ?_) ?_
      · show Steps p.tables e below (T11.setTop (mkF m 90 #[.val (.int i0), .val (.int i1), .val (.int i2), .val (.int i3), .val (.int i4), .val (.int (0 : Int32)), .val (.int i6), .val (.ref b1), .unset, .unset, .unset] [])) _
        refine XS.iload X11.here hx rfl (hb hby at_90) rfl ?_
        show Steps p.tables e below (T11.setTop (mkF m 92 #[.val (.int i0), .val (.int i1), .val (.int i2), .val (.int i3), .val (.int i4), .val (.int (0 : Int32)), .val (.int i6), .val (.ref b1), .unset, .unset, .unset] [(.int i4)])) _
        refine XS.aload X11.here hx rfl (hb hby at_92) rfl rfl ?_
        show Steps p.tables e below (T11.setTop (mkF m 94 #[.val (.int i0), .val (.int i1), .val (.int i2), .val (.int i3), .val (.int i4), .val (.int (0 : Int32)), .val (.int i6), .val (.ref b1), .unset, .unset, .unset] [(.ref b1), (.int i4)])) _
        refine XS.iload X11.here hx rfl (hb hby at_94) rfl ?_
        exact kt
      obtain ⟨_, _, ⟨T13, L13, k13, n13⟩, -, X13, ⟨Lc13, hQ13, l13, y13, z13⟩, st13⟩ := Jvm.LawKit.callS X11 hx (y := (⟨"hotstate/sort/VarInts", "write", "(I[BI)I"⟩ : MethodName)) hown (mvT hZ (hw _ (List.mem_of_getElem? (i := 2) rfl))) (mvT hZ (hw _ (List.mem_of_getElem? (i := 3) rfl))) (mvT hZ (hw _ (List.mem_of_getElem? (i := 4) rfl))) (mvT hZ (hw _ (List.mem_of_getElem? (i := 5) rfl))) (by decide) (backOf (W := 0) (rm1n1 l Z a0 hw [] i4 b1 (0 : Int32) [(.int (nar .byte i6)), (.int (nar .byte i6)), (.int (nar .byte i6)), (.int (nar .byte i6)), (.int (nar .byte i6)), (.int (nar .byte i6)), (.int (nar .byte i6)), (.int (nar .byte i6)), (.int (nar .byte i6)), (.int (nar .byte i6))] h11 n0 Ab1_11 g1 rfl (by decide) hm90_12 Z11) hZ (hw _ (List.mem_of_getElem? (i := 5) rfl)) (hw _ (List.mem_of_getElem? (i := 4) rfl)) (by decide) (by decide)) (g := (mkF m 96 #[.val (.int i0), .val (.int i1), .val (.int i2), .val (.int i3), .val (.int i4), .val (.int (0 : Int32)), .val (.int i6), .val (.ref b1), .unset, .unset, .unset] [(.int (0 : Int32)), (.ref b1), (.int i4)])) rfl (by rw [hml]; rfl) (argsL := [(.int i4), (.ref b1), (.int (0 : Int32))]) (rest := []) (lenOf pd1 rfl) rfl (by show 2 * 0 + _ ≤ _; exact Nat.le_of_eq rfl) (hb hby at_96) (fun _ _ => ⟨rfl, e11, (by decide : 1 + 0 ≤ _), (by decide : 10 + 0 ≤ _)⟩)
      dsimp only [Pt.U, Pt.locs, Pt.cells, Pt.slots] at X13 l13 y13 z13 st13 hQ13
      subst l13 y13 z13
      obtain ⟨rfl, Nq13, Aw13, Z13⟩ := hQ13
      have N13 := Fr.app N11 Nq13
      have Ab1_13 : own_A Z T13.heap b1 .byte [(.int (nar .byte (i4.toInt8.toInt32))), (.int (nar .byte i6)), (.int (nar .byte i6)), (.int (nar .byte i6)), (.int (nar .byte i6)), (.int (nar .byte i6)), (.int (nar .byte i6)), (.int (nar .byte i6)), (.int (nar .byte i6)), (.int (nar .byte i6))] := Aw13
      refine own_step (T' := T13) (f' := (mkF m 99 #[.val (.int i0), .val (.int i1), .val (.int i2), .val (.int i3), .val (.int i4), .val (.int (0 : Int32)), .val (.int i6), .val (.ref b1), .unset, .unset, .unset] [(.int (f1n1_0 i4 (0 : Int32)))])) st13 ?_
      refine own_step (T' := T13) (f' := (mkF m 106 #[.val (.int i0), .val (.int i1), .val (.int i2), .val (.int i3), .val (.int i4), .val (.int (0 : Int32)), .val (.int i6), .val (.ref b1), .val (.int (f1n1_0 i4 (0 : Int32))), .unset, .unset] [(.int (128 : Int32)), (.int i4)])) (fun t kt => ?_) ?_
      · show Steps p.tables e below (T13.setTop (mkF m 99 #[.val (.int i0), .val (.int i1), .val (.int i2), .val (.int i3), .val (.int i4), .val (.int (0 : Int32)), .val (.int i6), .val (.ref b1), .unset, .unset, .unset] [(.int (f1n1_0 i4 (0 : Int32)))])) _
        refine XS.istore X13.here hx rfl (hb hby at_99) rfl (l' := #[.val (.int i0), .val (.int i1), .val (.int i2), .val (.int i3), .val (.int i4), .val (.int (0 : Int32)), .val (.int i6), .val (.ref b1), .val (.int (f1n1_0 i4 (0 : Int32))), .unset, .unset]) rfl ?_
        show Steps p.tables e below (T13.setTop (mkF m 101 #[.val (.int i0), .val (.int i1), .val (.int i2), .val (.int i3), .val (.int i4), .val (.int (0 : Int32)), .val (.int i6), .val (.ref b1), .val (.int (f1n1_0 i4 (0 : Int32))), .unset, .unset] [])) _
        refine XS.iload X13.here hx rfl (hb hby at_101) rfl ?_
        show Steps p.tables e below (T13.setTop (mkF m 103 #[.val (.int i0), .val (.int i1), .val (.int i2), .val (.int i3), .val (.int i4), .val (.int (0 : Int32)), .val (.int i6), .val (.ref b1), .val (.int (f1n1_0 i4 (0 : Int32))), .unset, .unset] [(.int i4)])) _
        refine XS.sipush X13.here hx rfl (hb hby at_103) ?_
        exact kt
      refine own_step (T' := T13) (f' := (mkF m 109 #[.val (.int i0), .val (.int i1), .val (.int i2), .val (.int i3), .val (.int i4), .val (.int (0 : Int32)), .val (.int i6), .val (.ref b1), .val (.int (f1n1_0 i4 (0 : Int32))), .unset, .unset] [])) (fun t kt => ?_) ?_
      · show Steps p.tables e below (T13.setTop (mkF m 106 #[.val (.int i0), .val (.int i1), .val (.int i2), .val (.int i3), .val (.int i4), .val (.int (0 : Int32)), .val (.int i6), .val (.ref b1), .val (.int (f1n1_0 i4 (0 : Int32))), .unset, .unset] [(.int (128 : Int32)), (.int i4)])) _
        refine XS.icmpNo X13.here hx rfl (hb hby at_106) rfl (tlt hm90_12).2.1 kt
      refine own_step (T' := T13) (f' := (mkF m 158 #[.val (.int i0), .val (.int i1), .val (.int i2), .val (.int i3), .val (.int i4), .val (.int (0 : Int32)), .val (.int i6), .val (.ref b1), .val (.int (f1n1_0 i4 (0 : Int32))), .val (.int (1 : Int32)), .unset] [])) (fun t kt => ?_) ?_
      · show Steps p.tables e below (T13.setTop (mkF m 109 #[.val (.int i0), .val (.int i1), .val (.int i2), .val (.int i3), .val (.int i4), .val (.int (0 : Int32)), .val (.int i6), .val (.ref b1), .val (.int (f1n1_0 i4 (0 : Int32))), .unset, .unset] [])) _
        refine XS.iconst X13.here hx rfl (hb hby at_109) ?_
        show Steps p.tables e below (T13.setTop (mkF m 110 #[.val (.int i0), .val (.int i1), .val (.int i2), .val (.int i3), .val (.int i4), .val (.int (0 : Int32)), .val (.int i6), .val (.ref b1), .val (.int (f1n1_0 i4 (0 : Int32))), .unset, .unset] [(.int (1 : Int32))])) _
        refine XS.istore X13.here hx rfl (hb hby at_110) rfl (l' := #[.val (.int i0), .val (.int i1), .val (.int i2), .val (.int i3), .val (.int i4), .val (.int (0 : Int32)), .val (.int i6), .val (.ref b1), .val (.int (f1n1_0 i4 (0 : Int32))), .val (.int (1 : Int32)), .unset]) rfl ?_
        show Steps p.tables e below (T13.setTop (mkF m 112 #[.val (.int i0), .val (.int i1), .val (.int i2), .val (.int i3), .val (.int i4), .val (.int (0 : Int32)), .val (.int i6), .val (.ref b1), .val (.int (f1n1_0 i4 (0 : Int32))), .val (.int (1 : Int32)), .unset] [])) _
        refine XS.goto X13.here hx rfl (pc0 := 112) (pc' := 158) rfl (hb hby at_112) (by decide) (by decide) ?_
        exact kt
      exact b0_158 i0 i1 i2 i3 i4 (0 : Int32) i6 b1 (f1n1_0 i4 (0 : Int32)) (1 : Int32) (nar .byte (i4.toInt8.toInt32)) (nar .byte i6) (nar .byte i6) (nar .byte i6) (nar .byte i6) (nar .byte i6) (nar .byte i6) (nar .byte i6) (nar .byte i6) (nar .byte i6) X13 hx hZ hw hby hml hown hret hlk rfl N13 Ab1_13 g1 Z13 hr
    · replace hr := hr.trans (if_neg hm90_12)
      by_cases hm90_101 : i4 < (16384 : Int32)
      · replace hr := hr.trans (if_pos hm90_101)
        refine own_step (T' := T11) (f' := (mkF m 96 #[.val (.int i0), .val (.int i1), .val (.int i2), .val (.int i3), .val (.int i4), .val (.int (0 : Int32)), .val (.int i6), .val (.ref b1), .unset, .unset, .unset] [(.int (0 : Int32)), (.ref b1), (.int i4)])) (fun t kt => ?_) ?_
        · show Steps p.tables e below (T11.setTop (mkF m 90 #[.val (.int i0), .val (.int i1), .val (.int i2), .val (.int i3), .val (.int i4), .val (.int (0 : Int32)), .val (.int i6), .val (.ref b1), .unset, .unset, .unset] [])) _
          refine XS.iload X11.here hx rfl (hb hby at_90) rfl ?_
          show Steps p.tables e below (T11.setTop (mkF m 92 #[.val (.int i0), .val (.int i1), .val (.int i2), .val (.int i3), .val (.int i4), .val (.int (0 : Int32)), .val (.int i6), .val (.ref b1), .unset, .unset, .unset] [(.int i4)])) _
          refine XS.aload X11.here hx rfl (hb hby at_92) rfl rfl ?_
          show Steps p.tables e below (T11.setTop (mkF m 94 #[.val (.int i0), .val (.int i1), .val (.int i2), .val (.int i3), .val (.int i4), .val (.int (0 : Int32)), .val (.int i6), .val (.ref b1), .unset, .unset, .unset] [(.ref b1), (.int i4)])) _
          refine XS.iload X11.here hx rfl (hb hby at_94) rfl ?_
          exact kt
        obtain ⟨_, _, ⟨T102, L102, k102, n102⟩, -, X102, ⟨Lc102, hQ102, l102, y102, z102⟩, st102⟩ := Jvm.LawKit.callS X11 hx (y := (⟨"hotstate/sort/VarInts", "write", "(I[BI)I"⟩ : MethodName)) hown (mvT hZ (hw _ (List.mem_of_getElem? (i := 2) rfl))) (mvT hZ (hw _ (List.mem_of_getElem? (i := 3) rfl))) (mvT hZ (hw _ (List.mem_of_getElem? (i := 4) rfl))) (mvT hZ (hw _ (List.mem_of_getElem? (i := 5) rfl))) (by decide) (backOf (W := 0) (rm1n2 l Z a0 hw [] i4 b1 (0 : Int32) [(.int (nar .byte i6)), (.int (nar .byte i6)), (.int (nar .byte i6)), (.int (nar .byte i6)), (.int (nar .byte i6)), (.int (nar .byte i6)), (.int (nar .byte i6)), (.int (nar .byte i6)), (.int (nar .byte i6)), (.int (nar .byte i6))] h11 n0 Ab1_11 g1 rfl (by decide) hm90_12 (own_lt1 i4 hpos hm90_101) Z11) hZ (hw _ (List.mem_of_getElem? (i := 5) rfl)) (hw _ (List.mem_of_getElem? (i := 4) rfl)) (by decide) (by decide)) (g := (mkF m 96 #[.val (.int i0), .val (.int i1), .val (.int i2), .val (.int i3), .val (.int i4), .val (.int (0 : Int32)), .val (.int i6), .val (.ref b1), .unset, .unset, .unset] [(.int (0 : Int32)), (.ref b1), (.int i4)])) rfl (by rw [hml]; rfl) (argsL := [(.int i4), (.ref b1), (.int (0 : Int32))]) (rest := []) (lenOf pd1 rfl) rfl (by show 2 * 0 + _ ≤ _; exact Nat.le_of_eq rfl) (hb hby at_96) (fun _ _ => ⟨rfl, e11, (by decide : 1 + 0 ≤ _), (by decide : 10 + 0 ≤ _)⟩)
        dsimp only [Pt.U, Pt.locs, Pt.cells, Pt.slots] at X102 l102 y102 z102 st102 hQ102
        subst l102 y102 z102
        obtain ⟨rfl, Nq102, Aw102, Z102⟩ := hQ102
        have N102 := Fr.app N11 Nq102
        have Ab1_102 : own_A Z T102.heap b1 .byte [(.int (nar .byte ((i4 ||| (128 : Int32)).toInt8.toInt32))), (.int (nar .byte (((i4.toUInt32 >>> ((7 : Int32) &&& 31).toUInt32).toInt32).toInt8.toInt32))), (.int (nar .byte i6)), (.int (nar .byte i6)), (.int (nar .byte i6)), (.int (nar .byte i6)), (.int (nar .byte i6)), (.int (nar .byte i6)), (.int (nar .byte i6)), (.int (nar .byte i6))] := Aw102
        refine own_step (T' := T102) (f' := (mkF m 99 #[.val (.int i0), .val (.int i1), .val (.int i2), .val (.int i3), .val (.int i4), .val (.int (0 : Int32)), .val (.int i6), .val (.ref b1), .unset, .unset, .unset] [(.int (f1n2_0 i4 (0 : Int32)))])) st102 ?_
        refine own_step (T' := T102) (f' := (mkF m 106 #[.val (.int i0), .val (.int i1), .val (.int i2), .val (.int i3), .val (.int i4), .val (.int (0 : Int32)), .val (.int i6), .val (.ref b1), .val (.int (f1n2_0 i4 (0 : Int32))), .unset, .unset] [(.int (128 : Int32)), (.int i4)])) (fun t kt => ?_) ?_
        · show Steps p.tables e below (T102.setTop (mkF m 99 #[.val (.int i0), .val (.int i1), .val (.int i2), .val (.int i3), .val (.int i4), .val (.int (0 : Int32)), .val (.int i6), .val (.ref b1), .unset, .unset, .unset] [(.int (f1n2_0 i4 (0 : Int32)))])) _
          refine XS.istore X102.here hx rfl (hb hby at_99) rfl (l' := #[.val (.int i0), .val (.int i1), .val (.int i2), .val (.int i3), .val (.int i4), .val (.int (0 : Int32)), .val (.int i6), .val (.ref b1), .val (.int (f1n2_0 i4 (0 : Int32))), .unset, .unset]) rfl ?_
          show Steps p.tables e below (T102.setTop (mkF m 101 #[.val (.int i0), .val (.int i1), .val (.int i2), .val (.int i3), .val (.int i4), .val (.int (0 : Int32)), .val (.int i6), .val (.ref b1), .val (.int (f1n2_0 i4 (0 : Int32))), .unset, .unset] [])) _
          refine XS.iload X102.here hx rfl (hb hby at_101) rfl ?_
          show Steps p.tables e below (T102.setTop (mkF m 103 #[.val (.int i0), .val (.int i1), .val (.int i2), .val (.int i3), .val (.int i4), .val (.int (0 : Int32)), .val (.int i6), .val (.ref b1), .val (.int (f1n2_0 i4 (0 : Int32))), .unset, .unset] [(.int i4)])) _
          refine XS.sipush X102.here hx rfl (hb hby at_103) ?_
          exact kt
        refine own_step (T' := T102) (f' := (mkF m 115 #[.val (.int i0), .val (.int i1), .val (.int i2), .val (.int i3), .val (.int i4), .val (.int (0 : Int32)), .val (.int i6), .val (.ref b1), .val (.int (f1n2_0 i4 (0 : Int32))), .unset, .unset] [])) (fun t kt => ?_) ?_
        · show Steps p.tables e below (T102.setTop (mkF m 106 #[.val (.int i0), .val (.int i1), .val (.int i2), .val (.int i3), .val (.int i4), .val (.int (0 : Int32)), .val (.int i6), .val (.ref b1), .val (.int (f1n2_0 i4 (0 : Int32))), .unset, .unset] [(.int (128 : Int32)), (.int i4)])) _
          refine XS.icmpYes X102.here hx rfl (pc0 := 106) (pc' := 115) rfl (hb hby at_106) rfl (flt hm90_12).2.1 (by decide) (by decide) kt
        refine own_step (T' := T102) (f' := (mkF m 120 #[.val (.int i0), .val (.int i1), .val (.int i2), .val (.int i3), .val (.int i4), .val (.int (0 : Int32)), .val (.int i6), .val (.ref b1), .val (.int (f1n2_0 i4 (0 : Int32))), .unset, .unset] [(.int (16384 : Int32)), (.int i4)])) (fun t kt => ?_) ?_
        · show Steps p.tables e below (T102.setTop (mkF m 115 #[.val (.int i0), .val (.int i1), .val (.int i2), .val (.int i3), .val (.int i4), .val (.int (0 : Int32)), .val (.int i6), .val (.ref b1), .val (.int (f1n2_0 i4 (0 : Int32))), .unset, .unset] [])) _
          refine XS.iload X102.here hx rfl (hb hby at_115) rfl ?_
          show Steps p.tables e below (T102.setTop (mkF m 117 #[.val (.int i0), .val (.int i1), .val (.int i2), .val (.int i3), .val (.int i4), .val (.int (0 : Int32)), .val (.int i6), .val (.ref b1), .val (.int (f1n2_0 i4 (0 : Int32))), .unset, .unset] [(.int i4)])) _
          refine XS.sipush X102.here hx rfl (hb hby at_117) ?_
          exact kt
        refine own_step (T' := T102) (f' := (mkF m 123 #[.val (.int i0), .val (.int i1), .val (.int i2), .val (.int i3), .val (.int i4), .val (.int (0 : Int32)), .val (.int i6), .val (.ref b1), .val (.int (f1n2_0 i4 (0 : Int32))), .unset, .unset] [])) (fun t kt => ?_) ?_
        · show Steps p.tables e below (T102.setTop (mkF m 120 #[.val (.int i0), .val (.int i1), .val (.int i2), .val (.int i3), .val (.int i4), .val (.int (0 : Int32)), .val (.int i6), .val (.ref b1), .val (.int (f1n2_0 i4 (0 : Int32))), .unset, .unset] [(.int (16384 : Int32)), (.int i4)])) _
          refine XS.icmpNo X102.here hx rfl (hb hby at_120) rfl (tlt hm90_101).2.1 kt
        refine own_step (T' := T102) (f' := (mkF m 158 #[.val (.int i0), .val (.int i1), .val (.int i2), .val (.int i3), .val (.int i4), .val (.int (0 : Int32)), .val (.int i6), .val (.ref b1), .val (.int (f1n2_0 i4 (0 : Int32))), .val (.int (2 : Int32)), .unset] [])) (fun t kt => ?_) ?_
        · show Steps p.tables e below (T102.setTop (mkF m 123 #[.val (.int i0), .val (.int i1), .val (.int i2), .val (.int i3), .val (.int i4), .val (.int (0 : Int32)), .val (.int i6), .val (.ref b1), .val (.int (f1n2_0 i4 (0 : Int32))), .unset, .unset] [])) _
          refine XS.iconst X102.here hx rfl (hb hby at_123) ?_
          show Steps p.tables e below (T102.setTop (mkF m 124 #[.val (.int i0), .val (.int i1), .val (.int i2), .val (.int i3), .val (.int i4), .val (.int (0 : Int32)), .val (.int i6), .val (.ref b1), .val (.int (f1n2_0 i4 (0 : Int32))), .unset, .unset] [(.int (2 : Int32))])) _
          refine XS.istore X102.here hx rfl (hb hby at_124) rfl (l' := #[.val (.int i0), .val (.int i1), .val (.int i2), .val (.int i3), .val (.int i4), .val (.int (0 : Int32)), .val (.int i6), .val (.ref b1), .val (.int (f1n2_0 i4 (0 : Int32))), .val (.int (2 : Int32)), .unset]) rfl ?_
          show Steps p.tables e below (T102.setTop (mkF m 126 #[.val (.int i0), .val (.int i1), .val (.int i2), .val (.int i3), .val (.int i4), .val (.int (0 : Int32)), .val (.int i6), .val (.ref b1), .val (.int (f1n2_0 i4 (0 : Int32))), .val (.int (2 : Int32)), .unset] [])) _
          refine XS.goto X102.here hx rfl (pc0 := 126) (pc' := 158) rfl (hb hby at_126) (by decide) (by decide) ?_
          exact kt
        exact b0_158 i0 i1 i2 i3 i4 (0 : Int32) i6 b1 (f1n2_0 i4 (0 : Int32)) (2 : Int32) (nar .byte ((i4 ||| (128 : Int32)).toInt8.toInt32)) (nar .byte (((i4.toUInt32 >>> ((7 : Int32) &&& 31).toUInt32).toInt32).toInt8.toInt32)) (nar .byte i6) (nar .byte i6) (nar .byte i6) (nar .byte i6) (nar .byte i6) (nar .byte i6) (nar .byte i6) (nar .byte i6) X102 hx hZ hw hby hml hown hret hlk rfl N102 Ab1_102 g1 Z102 hr
      · replace hr := hr.trans (if_neg hm90_101)
        by_cases hm90_105 : i4 < (2097152 : Int32)
        · replace hr := hr.trans (if_pos hm90_105)
          refine own_step (T' := T11) (f' := (mkF m 96 #[.val (.int i0), .val (.int i1), .val (.int i2), .val (.int i3), .val (.int i4), .val (.int (0 : Int32)), .val (.int i6), .val (.ref b1), .unset, .unset, .unset] [(.int (0 : Int32)), (.ref b1), (.int i4)])) (fun t kt => ?_) ?_
          · show Steps p.tables e below (T11.setTop (mkF m 90 #[.val (.int i0), .val (.int i1), .val (.int i2), .val (.int i3), .val (.int i4), .val (.int (0 : Int32)), .val (.int i6), .val (.ref b1), .unset, .unset, .unset] [])) _
            refine XS.iload X11.here hx rfl (hb hby at_90) rfl ?_
            show Steps p.tables e below (T11.setTop (mkF m 92 #[.val (.int i0), .val (.int i1), .val (.int i2), .val (.int i3), .val (.int i4), .val (.int (0 : Int32)), .val (.int i6), .val (.ref b1), .unset, .unset, .unset] [(.int i4)])) _
            refine XS.aload X11.here hx rfl (hb hby at_92) rfl rfl ?_
            show Steps p.tables e below (T11.setTop (mkF m 94 #[.val (.int i0), .val (.int i1), .val (.int i2), .val (.int i3), .val (.int i4), .val (.int (0 : Int32)), .val (.int i6), .val (.ref b1), .unset, .unset, .unset] [(.ref b1), (.int i4)])) _
            refine XS.iload X11.here hx rfl (hb hby at_94) rfl ?_
            exact kt
          obtain ⟨_, _, ⟨T106, L106, k106, n106⟩, -, X106, ⟨Lc106, hQ106, l106, y106, z106⟩, st106⟩ := Jvm.LawKit.callS X11 hx (y := (⟨"hotstate/sort/VarInts", "write", "(I[BI)I"⟩ : MethodName)) hown (mvT hZ (hw _ (List.mem_of_getElem? (i := 2) rfl))) (mvT hZ (hw _ (List.mem_of_getElem? (i := 3) rfl))) (mvT hZ (hw _ (List.mem_of_getElem? (i := 4) rfl))) (mvT hZ (hw _ (List.mem_of_getElem? (i := 5) rfl))) (by decide) (backOf (W := 0) (rm1n3 l Z a0 hw [] i4 b1 (0 : Int32) [(.int (nar .byte i6)), (.int (nar .byte i6)), (.int (nar .byte i6)), (.int (nar .byte i6)), (.int (nar .byte i6)), (.int (nar .byte i6)), (.int (nar .byte i6)), (.int (nar .byte i6)), (.int (nar .byte i6)), (.int (nar .byte i6))] h11 n0 Ab1_11 g1 rfl (by decide) hm90_12 (own_ge1 i4 hpos hm90_101) (own_lt2 i4 hpos hm90_105) Z11) hZ (hw _ (List.mem_of_getElem? (i := 5) rfl)) (hw _ (List.mem_of_getElem? (i := 4) rfl)) (by decide) (by decide)) (g := (mkF m 96 #[.val (.int i0), .val (.int i1), .val (.int i2), .val (.int i3), .val (.int i4), .val (.int (0 : Int32)), .val (.int i6), .val (.ref b1), .unset, .unset, .unset] [(.int (0 : Int32)), (.ref b1), (.int i4)])) rfl (by rw [hml]; rfl) (argsL := [(.int i4), (.ref b1), (.int (0 : Int32))]) (rest := []) (lenOf pd1 rfl) rfl (by show 2 * 0 + _ ≤ _; exact Nat.le_of_eq rfl) (hb hby at_96) (fun _ _ => ⟨rfl, e11, (by decide : 1 + 0 ≤ _), (by decide : 10 + 0 ≤ _)⟩)
          dsimp only [Pt.U, Pt.locs, Pt.cells, Pt.slots] at X106 l106 y106 z106 st106 hQ106
          subst l106 y106 z106
          obtain ⟨rfl, Nq106, Aw106, Z106⟩ := hQ106
          have N106 := Fr.app N11 Nq106
          have Ab1_106 : own_A Z T106.heap b1 .byte [(.int (nar .byte ((i4 ||| (128 : Int32)).toInt8.toInt32))), (.int (nar .byte ((((i4.toUInt32 >>> ((7 : Int32) &&& 31).toUInt32).toInt32) ||| (128 : Int32)).toInt8.toInt32))), (.int (nar .byte (((((i4.toUInt32 >>> ((7 : Int32) &&& 31).toUInt32).toInt32).toUInt32 >>> ((7 : Int32) &&& 31).toUInt32).toInt32).toInt8.toInt32))), (.int (nar .byte i6)), (.int (nar .byte i6)), (.int (nar .byte i6)), (.int (nar .byte i6)), (.int (nar .byte i6)), (.int (nar .byte i6)), (.int (nar .byte i6))] := Aw106
          refine own_step (T' := T106) (f' := (mkF m 99 #[.val (.int i0), .val (.int i1), .val (.int i2), .val (.int i3), .val (.int i4), .val (.int (0 : Int32)), .val (.int i6), .val (.ref b1), .unset, .unset, .unset] [(.int (f1n3_0 i4 (0 : Int32)))])) st106 ?_
          refine own_step (T' := T106) (f' := (mkF m 106 #[.val (.int i0), .val (.int i1), .val (.int i2), .val (.int i3), .val (.int i4), .val (.int (0 : Int32)), .val (.int i6), .val (.ref b1), .val (.int (f1n3_0 i4 (0 : Int32))), .unset, .unset] [(.int (128 : Int32)), (.int i4)])) (fun t kt => ?_) ?_
          · show Steps p.tables e below (T106.setTop (mkF m 99 #[.val (.int i0), .val (.int i1), .val (.int i2), .val (.int i3), .val (.int i4), .val (.int (0 : Int32)), .val (.int i6), .val (.ref b1), .unset, .unset, .unset] [(.int (f1n3_0 i4 (0 : Int32)))])) _
            refine XS.istore X106.here hx rfl (hb hby at_99) rfl (l' := #[.val (.int i0), .val (.int i1), .val (.int i2), .val (.int i3), .val (.int i4), .val (.int (0 : Int32)), .val (.int i6), .val (.ref b1), .val (.int (f1n3_0 i4 (0 : Int32))), .unset, .unset]) rfl ?_
            show Steps p.tables e below (T106.setTop (mkF m 101 #[.val (.int i0), .val (.int i1), .val (.int i2), .val (.int i3), .val (.int i4), .val (.int (0 : Int32)), .val (.int i6), .val (.ref b1), .val (.int (f1n3_0 i4 (0 : Int32))), .unset, .unset] [])) _
            refine XS.iload X106.here hx rfl (hb hby at_101) rfl ?_
            show Steps p.tables e below (T106.setTop (mkF m 103 #[.val (.int i0), .val (.int i1), .val (.int i2), .val (.int i3), .val (.int i4), .val (.int (0 : Int32)), .val (.int i6), .val (.ref b1), .val (.int (f1n3_0 i4 (0 : Int32))), .unset, .unset] [(.int i4)])) _
            refine XS.sipush X106.here hx rfl (hb hby at_103) ?_
            exact kt
          refine own_step (T' := T106) (f' := (mkF m 115 #[.val (.int i0), .val (.int i1), .val (.int i2), .val (.int i3), .val (.int i4), .val (.int (0 : Int32)), .val (.int i6), .val (.ref b1), .val (.int (f1n3_0 i4 (0 : Int32))), .unset, .unset] [])) (fun t kt => ?_) ?_
          · show Steps p.tables e below (T106.setTop (mkF m 106 #[.val (.int i0), .val (.int i1), .val (.int i2), .val (.int i3), .val (.int i4), .val (.int (0 : Int32)), .val (.int i6), .val (.ref b1), .val (.int (f1n3_0 i4 (0 : Int32))), .unset, .unset] [(.int (128 : Int32)), (.int i4)])) _
            refine XS.icmpYes X106.here hx rfl (pc0 := 106) (pc' := 115) rfl (hb hby at_106) rfl (flt hm90_12).2.1 (by decide) (by decide) kt
          refine own_step (T' := T106) (f' := (mkF m 120 #[.val (.int i0), .val (.int i1), .val (.int i2), .val (.int i3), .val (.int i4), .val (.int (0 : Int32)), .val (.int i6), .val (.ref b1), .val (.int (f1n3_0 i4 (0 : Int32))), .unset, .unset] [(.int (16384 : Int32)), (.int i4)])) (fun t kt => ?_) ?_
          · show Steps p.tables e below (T106.setTop (mkF m 115 #[.val (.int i0), .val (.int i1), .val (.int i2), .val (.int i3), .val (.int i4), .val (.int (0 : Int32)), .val (.int i6), .val (.ref b1), .val (.int (f1n3_0 i4 (0 : Int32))), .unset, .unset] [])) _
            refine XS.iload X106.here hx rfl (hb hby at_115) rfl ?_
            show Steps p.tables e below (T106.setTop (mkF m 117 #[.val (.int i0), .val (.int i1), .val (.int i2), .val (.int i3), .val (.int i4), .val (.int (0 : Int32)), .val (.int i6), .val (.ref b1), .val (.int (f1n3_0 i4 (0 : Int32))), .unset, .unset] [(.int i4)])) _
            refine XS.sipush X106.here hx rfl (hb hby at_117) ?_
            exact kt
          refine own_step (T' := T106) (f' := (mkF m 129 #[.val (.int i0), .val (.int i1), .val (.int i2), .val (.int i3), .val (.int i4), .val (.int (0 : Int32)), .val (.int i6), .val (.ref b1), .val (.int (f1n3_0 i4 (0 : Int32))), .unset, .unset] [])) (fun t kt => ?_) ?_
          · show Steps p.tables e below (T106.setTop (mkF m 120 #[.val (.int i0), .val (.int i1), .val (.int i2), .val (.int i3), .val (.int i4), .val (.int (0 : Int32)), .val (.int i6), .val (.ref b1), .val (.int (f1n3_0 i4 (0 : Int32))), .unset, .unset] [(.int (16384 : Int32)), (.int i4)])) _
            refine XS.icmpYes X106.here hx rfl (pc0 := 120) (pc' := 129) rfl (hb hby at_120) rfl (flt hm90_101).2.1 (by decide) (by decide) kt
          refine own_step (T' := T106) (f' := (mkF m 133 #[.val (.int i0), .val (.int i1), .val (.int i2), .val (.int i3), .val (.int i4), .val (.int (0 : Int32)), .val (.int i6), .val (.ref b1), .val (.int (f1n3_0 i4 (0 : Int32))), .unset, .unset] [(.int (2097152 : Int32)), (.int i4)])) (fun t kt => ?_) ?_
          · show Steps p.tables e below (T106.setTop (mkF m 129 #[.val (.int i0), .val (.int i1), .val (.int i2), .val (.int i3), .val (.int i4), .val (.int (0 : Int32)), .val (.int i6), .val (.ref b1), .val (.int (f1n3_0 i4 (0 : Int32))), .unset, .unset] [])) _
            refine XS.iload X106.here hx rfl (hb hby at_129) rfl ?_
            show Steps p.tables e below (T106.setTop (mkF m 131 #[.val (.int i0), .val (.int i1), .val (.int i2), .val (.int i3), .val (.int i4), .val (.int (0 : Int32)), .val (.int i6), .val (.ref b1), .val (.int (f1n3_0 i4 (0 : Int32))), .unset, .unset] [(.int i4)])) _
            refine X106.ldcInt hx hown (mvT hZ (hw _ (List.mem_of_getElem? (i := 10) rfl))) (g := (mkF m 131 #[.val (.int i0), .val (.int i1), .val (.int i2), .val (.int i3), .val (.int i4), .val (.int (0 : Int32)), .val (.int i6), .val (.ref b1), .val (.int (f1n3_0 i4 (0 : Int32))), .unset, .unset] [(.int i4)])) rfl (hb hby at_131) _ ?_
            exact kt
          refine own_step (T' := T106) (f' := (mkF m 136 #[.val (.int i0), .val (.int i1), .val (.int i2), .val (.int i3), .val (.int i4), .val (.int (0 : Int32)), .val (.int i6), .val (.ref b1), .val (.int (f1n3_0 i4 (0 : Int32))), .unset, .unset] [])) (fun t kt => ?_) ?_
          · show Steps p.tables e below (T106.setTop (mkF m 133 #[.val (.int i0), .val (.int i1), .val (.int i2), .val (.int i3), .val (.int i4), .val (.int (0 : Int32)), .val (.int i6), .val (.ref b1), .val (.int (f1n3_0 i4 (0 : Int32))), .unset, .unset] [(.int (2097152 : Int32)), (.int i4)])) _
            refine XS.icmpNo X106.here hx rfl (hb hby at_133) rfl (tlt hm90_105).2.1 kt
          refine own_step (T' := T106) (f' := (mkF m 158 #[.val (.int i0), .val (.int i1), .val (.int i2), .val (.int i3), .val (.int i4), .val (.int (0 : Int32)), .val (.int i6), .val (.ref b1), .val (.int (f1n3_0 i4 (0 : Int32))), .val (.int (3 : Int32)), .unset] [])) (fun t kt => ?_) ?_
          · show Steps p.tables e below (T106.setTop (mkF m 136 #[.val (.int i0), .val (.int i1), .val (.int i2), .val (.int i3), .val (.int i4), .val (.int (0 : Int32)), .val (.int i6), .val (.ref b1), .val (.int (f1n3_0 i4 (0 : Int32))), .unset, .unset] [])) _
            refine XS.iconst X106.here hx rfl (hb hby at_136) ?_
            show Steps p.tables e below (T106.setTop (mkF m 137 #[.val (.int i0), .val (.int i1), .val (.int i2), .val (.int i3), .val (.int i4), .val (.int (0 : Int32)), .val (.int i6), .val (.ref b1), .val (.int (f1n3_0 i4 (0 : Int32))), .unset, .unset] [(.int (3 : Int32))])) _
            refine XS.istore X106.here hx rfl (hb hby at_137) rfl (l' := #[.val (.int i0), .val (.int i1), .val (.int i2), .val (.int i3), .val (.int i4), .val (.int (0 : Int32)), .val (.int i6), .val (.ref b1), .val (.int (f1n3_0 i4 (0 : Int32))), .val (.int (3 : Int32)), .unset]) rfl ?_
            show Steps p.tables e below (T106.setTop (mkF m 139 #[.val (.int i0), .val (.int i1), .val (.int i2), .val (.int i3), .val (.int i4), .val (.int (0 : Int32)), .val (.int i6), .val (.ref b1), .val (.int (f1n3_0 i4 (0 : Int32))), .val (.int (3 : Int32)), .unset] [])) _
            refine XS.goto X106.here hx rfl (pc0 := 139) (pc' := 158) rfl (hb hby at_139) (by decide) (by decide) ?_
            exact kt
          exact b0_158 i0 i1 i2 i3 i4 (0 : Int32) i6 b1 (f1n3_0 i4 (0 : Int32)) (3 : Int32) (nar .byte ((i4 ||| (128 : Int32)).toInt8.toInt32)) (nar .byte ((((i4.toUInt32 >>> ((7 : Int32) &&& 31).toUInt32).toInt32) ||| (128 : Int32)).toInt8.toInt32)) (nar .byte (((((i4.toUInt32 >>> ((7 : Int32) &&& 31).toUInt32).toInt32).toUInt32 >>> ((7 : Int32) &&& 31).toUInt32).toInt32).toInt8.toInt32)) (nar .byte i6) (nar .byte i6) (nar .byte i6) (nar .byte i6) (nar .byte i6) (nar .byte i6) (nar .byte i6) X106 hx hZ hw hby hml hown hret hlk rfl N106 Ab1_106 g1 Z106 hr
        · replace hr := hr.trans (if_neg hm90_105)
          by_cases hm90_110 : i4 < (268435456 : Int32)
          · replace hr := hr.trans (if_pos hm90_110)
            refine own_step (T' := T11) (f' := (mkF m 96 #[.val (.int i0), .val (.int i1), .val (.int i2), .val (.int i3), .val (.int i4), .val (.int (0 : Int32)), .val (.int i6), .val (.ref b1), .unset, .unset, .unset] [(.int (0 : Int32)), (.ref b1), (.int i4)])) (fun t kt => ?_) ?_
            · show Steps p.tables e below (T11.setTop (mkF m 90 #[.val (.int i0), .val (.int i1), .val (.int i2), .val (.int i3), .val (.int i4), .val (.int (0 : Int32)), .val (.int i6), .val (.ref b1), .unset, .unset, .unset] [])) _
              refine XS.iload X11.here hx rfl (hb hby at_90) rfl ?_
              show Steps p.tables e below (T11.setTop (mkF m 92 #[.val (.int i0), .val (.int i1), .val (.int i2), .val (.int i3), .val (.int i4), .val (.int (0 : Int32)), .val (.int i6), .val (.ref b1), .unset, .unset, .unset] [(.int i4)])) _
              refine XS.aload X11.here hx rfl (hb hby at_92) rfl rfl ?_
              show Steps p.tables e below (T11.setTop (mkF m 94 #[.val (.int i0), .val (.int i1), .val (.int i2), .val (.int i3), .val (.int i4), .val (.int (0 : Int32)), .val (.int i6), .val (.ref b1), .unset, .unset, .unset] [(.ref b1), (.int i4)])) _
              refine XS.iload X11.here hx rfl (hb hby at_94) rfl ?_
              exact kt
            obtain ⟨_, _, ⟨T111, L111, k111, n111⟩, -, X111, ⟨Lc111, hQ111, l111, y111, z111⟩, st111⟩ := Jvm.LawKit.callS X11 hx (y := (⟨"hotstate/sort/VarInts", "write", "(I[BI)I"⟩ : MethodName)) hown (mvT hZ (hw _ (List.mem_of_getElem? (i := 2) rfl))) (mvT hZ (hw _ (List.mem_of_getElem? (i := 3) rfl))) (mvT hZ (hw _ (List.mem_of_getElem? (i := 4) rfl))) (mvT hZ (hw _ (List.mem_of_getElem? (i := 5) rfl))) (by decide) (backOf (W := 0) (rm1n4 l Z a0 hw [] i4 b1 (0 : Int32) [(.int (nar .byte i6)), (.int (nar .byte i6)), (.int (nar .byte i6)), (.int (nar .byte i6)), (.int (nar .byte i6)), (.int (nar .byte i6)), (.int (nar .byte i6)), (.int (nar .byte i6)), (.int (nar .byte i6)), (.int (nar .byte i6))] h11 n0 Ab1_11 g1 rfl (by decide) hm90_12 (own_ge1 i4 hpos hm90_101) (own_ge2 i4 hpos hm90_105) (own_lt3 i4 hpos hm90_110) Z11) hZ (hw _ (List.mem_of_getElem? (i := 5) rfl)) (hw _ (List.mem_of_getElem? (i := 4) rfl)) (by decide) (by decide)) (g := (mkF m 96 #[.val (.int i0), .val (.int i1), .val (.int i2), .val (.int i3), .val (.int i4), .val (.int (0 : Int32)), .val (.int i6), .val (.ref b1), .unset, .unset, .unset] [(.int (0 : Int32)), (.ref b1), (.int i4)])) rfl (by rw [hml]; rfl) (argsL := [(.int i4), (.ref b1), (.int (0 : Int32))]) (rest := []) (lenOf pd1 rfl) rfl (by show 2 * 0 + _ ≤ _; exact Nat.le_of_eq rfl) (hb hby at_96) (fun _ _ => ⟨rfl, e11, (by decide : 1 + 0 ≤ _), (by decide : 10 + 0 ≤ _)⟩)
            dsimp only [Pt.U, Pt.locs, Pt.cells, Pt.slots] at X111 l111 y111 z111 st111 hQ111
            subst l111 y111 z111
            obtain ⟨rfl, Nq111, Aw111, Z111⟩ := hQ111
            have N111 := Fr.app N11 Nq111
            have Ab1_111 : own_A Z T111.heap b1 .byte [(.int (nar .byte ((i4 ||| (128 : Int32)).toInt8.toInt32))), (.int (nar .byte ((((i4.toUInt32 >>> ((7 : Int32) &&& 31).toUInt32).toInt32) ||| (128 : Int32)).toInt8.toInt32))), (.int (nar .byte ((((((i4.toUInt32 >>> ((7 : Int32) &&& 31).toUInt32).toInt32).toUInt32 >>> ((7 : Int32) &&& 31).toUInt32).toInt32) ||| (128 : Int32)).toInt8.toInt32))), (.int (nar .byte (((((((i4.toUInt32 >>> ((7 : Int32) &&& 31).toUInt32).toInt32).toUInt32 >>> ((7 : Int32) &&& 31).toUInt32).toInt32).toUInt32 >>> ((7 : Int32) &&& 31).toUInt32).toInt32).toInt8.toInt32))), (.int (nar .byte i6)), (.int (nar .byte i6)), (.int (nar .byte i6)), (.int (nar .byte i6)), (.int (nar .byte i6)), (.int (nar .byte i6))] := Aw111
            refine own_step (T' := T111) (f' := (mkF m 99 #[.val (.int i0), .val (.int i1), .val (.int i2), .val (.int i3), .val (.int i4), .val (.int (0 : Int32)), .val (.int i6), .val (.ref b1), .unset, .unset, .unset] [(.int (f1n4_0 i4 (0 : Int32)))])) st111 ?_
            refine own_step (T' := T111) (f' := (mkF m 106 #[.val (.int i0), .val (.int i1), .val (.int i2), .val (.int i3), .val (.int i4), .val (.int (0 : Int32)), .val (.int i6), .val (.ref b1), .val (.int (f1n4_0 i4 (0 : Int32))), .unset, .unset] [(.int (128 : Int32)), (.int i4)])) (fun t kt => ?_) ?_
            · show Steps p.tables e below (T111.setTop (mkF m 99 #[.val (.int i0), .val (.int i1), .val (.int i2), .val (.int i3), .val (.int i4), .val (.int (0 : Int32)), .val (.int i6), .val (.ref b1), .unset, .unset, .unset] [(.int (f1n4_0 i4 (0 : Int32)))])) _
              refine XS.istore X111.here hx rfl (hb hby at_99) rfl (l' := #[.val (.int i0), .val (.int i1), .val (.int i2), .val (.int i3), .val (.int i4), .val (.int (0 : Int32)), .val (.int i6), .val (.ref b1), .val (.int (f1n4_0 i4 (0 : Int32))), .unset, .unset]) rfl ?_
              show Steps p.tables e below (T111.setTop (mkF m 101 #[.val (.int i0), .val (.int i1), .val (.int i2), .val (.int i3), .val (.int i4), .val (.int (0 : Int32)), .val (.int i6), .val (.ref b1), .val (.int (f1n4_0 i4 (0 : Int32))), .unset, .unset] [])) _
              refine XS.iload X111.here hx rfl (hb hby at_101) rfl ?_
              show Steps p.tables e below (T111.setTop (mkF m 103 #[.val (.int i0), .val (.int i1), .val (.int i2), .val (.int i3), .val (.int i4), .val (.int (0 : Int32)), .val (.int i6), .val (.ref b1), .val (.int (f1n4_0 i4 (0 : Int32))), .unset, .unset] [(.int i4)])) _
              refine XS.sipush X111.here hx rfl (hb hby at_103) ?_
              exact kt
            refine own_step (T' := T111) (f' := (mkF m 115 #[.val (.int i0), .val (.int i1), .val (.int i2), .val (.int i3), .val (.int i4), .val (.int (0 : Int32)), .val (.int i6), .val (.ref b1), .val (.int (f1n4_0 i4 (0 : Int32))), .unset, .unset] [])) (fun t kt => ?_) ?_
            · show Steps p.tables e below (T111.setTop (mkF m 106 #[.val (.int i0), .val (.int i1), .val (.int i2), .val (.int i3), .val (.int i4), .val (.int (0 : Int32)), .val (.int i6), .val (.ref b1), .val (.int (f1n4_0 i4 (0 : Int32))), .unset, .unset] [(.int (128 : Int32)), (.int i4)])) _
              refine XS.icmpYes X111.here hx rfl (pc0 := 106) (pc' := 115) rfl (hb hby at_106) rfl (flt hm90_12).2.1 (by decide) (by decide) kt
            refine own_step (T' := T111) (f' := (mkF m 120 #[.val (.int i0), .val (.int i1), .val (.int i2), .val (.int i3), .val (.int i4), .val (.int (0 : Int32)), .val (.int i6), .val (.ref b1), .val (.int (f1n4_0 i4 (0 : Int32))), .unset, .unset] [(.int (16384 : Int32)), (.int i4)])) (fun t kt => ?_) ?_
            · show Steps p.tables e below (T111.setTop (mkF m 115 #[.val (.int i0), .val (.int i1), .val (.int i2), .val (.int i3), .val (.int i4), .val (.int (0 : Int32)), .val (.int i6), .val (.ref b1), .val (.int (f1n4_0 i4 (0 : Int32))), .unset, .unset] [])) _
              refine XS.iload X111.here hx rfl (hb hby at_115) rfl ?_
              show Steps p.tables e below (T111.setTop (mkF m 117 #[.val (.int i0), .val (.int i1), .val (.int i2), .val (.int i3), .val (.int i4), .val (.int (0 : Int32)), .val (.int i6), .val (.ref b1), .val (.int (f1n4_0 i4 (0 : Int32))), .unset, .unset] [(.int i4)])) _
              refine XS.sipush X111.here hx rfl (hb hby at_117) ?_
              exact kt
            refine own_step (T' := T111) (f' := (mkF m 129 #[.val (.int i0), .val (.int i1), .val (.int i2), .val (.int i3), .val (.int i4), .val (.int (0 : Int32)), .val (.int i6), .val (.ref b1), .val (.int (f1n4_0 i4 (0 : Int32))), .unset, .unset] [])) (fun t kt => ?_) ?_
            · show Steps p.tables e below (T111.setTop (mkF m 120 #[.val (.int i0), .val (.int i1), .val (.int i2), .val (.int i3), .val (.int i4), .val (.int (0 : Int32)), .val (.int i6), .val (.ref b1), .val (.int (f1n4_0 i4 (0 : Int32))), .unset, .unset] [(.int (16384 : Int32)), (.int i4)])) _
              refine XS.icmpYes X111.here hx rfl (pc0 := 120) (pc' := 129) rfl (hb hby at_120) rfl (flt hm90_101).2.1 (by decide) (by decide) kt
            refine own_step (T' := T111) (f' := (mkF m 133 #[.val (.int i0), .val (.int i1), .val (.int i2), .val (.int i3), .val (.int i4), .val (.int (0 : Int32)), .val (.int i6), .val (.ref b1), .val (.int (f1n4_0 i4 (0 : Int32))), .unset, .unset] [(.int (2097152 : Int32)), (.int i4)])) (fun t kt => ?_) ?_
            · show Steps p.tables e below (T111.setTop (mkF m 129 #[.val (.int i0), .val (.int i1), .val (.int i2), .val (.int i3), .val (.int i4), .val (.int (0 : Int32)), .val (.int i6), .val (.ref b1), .val (.int (f1n4_0 i4 (0 : Int32))), .unset, .unset] [])) _
              refine XS.iload X111.here hx rfl (hb hby at_129) rfl ?_
              show Steps p.tables e below (T111.setTop (mkF m 131 #[.val (.int i0), .val (.int i1), .val (.int i2), .val (.int i3), .val (.int i4), .val (.int (0 : Int32)), .val (.int i6), .val (.ref b1), .val (.int (f1n4_0 i4 (0 : Int32))), .unset, .unset] [(.int i4)])) _
              refine X111.ldcInt hx hown (mvT hZ (hw _ (List.mem_of_getElem? (i := 10) rfl))) (g := (mkF m 131 #[.val (.int i0), .val (.int i1), .val (.int i2), .val (.int i3), .val (.int i4), .val (.int (0 : Int32)), .val (.int i6), .val (.ref b1), .val (.int (f1n4_0 i4 (0 : Int32))), .unset, .unset] [(.int i4)])) rfl (hb hby at_131) _ ?_
              exact kt
            refine own_step (T' := T111) (f' := (mkF m 142 #[.val (.int i0), .val (.int i1), .val (.int i2), .val (.int i3), .val (.int i4), .val (.int (0 : Int32)), .val (.int i6), .val (.ref b1), .val (.int (f1n4_0 i4 (0 : Int32))), .unset, .unset] [])) (fun t kt => ?_) ?_
            · show Steps p.tables e below (T111.setTop (mkF m 133 #[.val (.int i0), .val (.int i1), .val (.int i2), .val (.int i3), .val (.int i4), .val (.int (0 : Int32)), .val (.int i6), .val (.ref b1), .val (.int (f1n4_0 i4 (0 : Int32))), .unset, .unset] [(.int (2097152 : Int32)), (.int i4)])) _
              refine XS.icmpYes X111.here hx rfl (pc0 := 133) (pc' := 142) rfl (hb hby at_133) rfl (flt hm90_105).2.1 (by decide) (by decide) kt
            refine own_step (T' := T111) (f' := (mkF m 146 #[.val (.int i0), .val (.int i1), .val (.int i2), .val (.int i3), .val (.int i4), .val (.int (0 : Int32)), .val (.int i6), .val (.ref b1), .val (.int (f1n4_0 i4 (0 : Int32))), .unset, .unset] [(.int (268435456 : Int32)), (.int i4)])) (fun t kt => ?_) ?_
            · show Steps p.tables e below (T111.setTop (mkF m 142 #[.val (.int i0), .val (.int i1), .val (.int i2), .val (.int i3), .val (.int i4), .val (.int (0 : Int32)), .val (.int i6), .val (.ref b1), .val (.int (f1n4_0 i4 (0 : Int32))), .unset, .unset] [])) _
              refine XS.iload X111.here hx rfl (hb hby at_142) rfl ?_
              show Steps p.tables e below (T111.setTop (mkF m 144 #[.val (.int i0), .val (.int i1), .val (.int i2), .val (.int i3), .val (.int i4), .val (.int (0 : Int32)), .val (.int i6), .val (.ref b1), .val (.int (f1n4_0 i4 (0 : Int32))), .unset, .unset] [(.int i4)])) _
              refine X111.ldcInt hx hown (mvT hZ (hw _ (List.mem_of_getElem? (i := 11) rfl))) (g := (mkF m 144 #[.val (.int i0), .val (.int i1), .val (.int i2), .val (.int i3), .val (.int i4), .val (.int (0 : Int32)), .val (.int i6), .val (.ref b1), .val (.int (f1n4_0 i4 (0 : Int32))), .unset, .unset] [(.int i4)])) rfl (hb hby at_144) _ ?_
              exact kt
            refine own_step (T' := T111) (f' := (mkF m 149 #[.val (.int i0), .val (.int i1), .val (.int i2), .val (.int i3), .val (.int i4), .val (.int (0 : Int32)), .val (.int i6), .val (.ref b1), .val (.int (f1n4_0 i4 (0 : Int32))), .unset, .unset] [])) (fun t kt => ?_) ?_
            · show Steps p.tables e below (T111.setTop (mkF m 146 #[.val (.int i0), .val (.int i1), .val (.int i2), .val (.int i3), .val (.int i4), .val (.int (0 : Int32)), .val (.int i6), .val (.ref b1), .val (.int (f1n4_0 i4 (0 : Int32))), .unset, .unset] [(.int (268435456 : Int32)), (.int i4)])) _
              refine XS.icmpNo X111.here hx rfl (hb hby at_146) rfl (tlt hm90_110).2.1 kt
            refine own_step (T' := T111) (f' := (mkF m 158 #[.val (.int i0), .val (.int i1), .val (.int i2), .val (.int i3), .val (.int i4), .val (.int (0 : Int32)), .val (.int i6), .val (.ref b1), .val (.int (f1n4_0 i4 (0 : Int32))), .val (.int (4 : Int32)), .unset] [])) (fun t kt => ?_) ?_
            · show Steps p.tables e below (T111.setTop (mkF m 149 #[.val (.int i0), .val (.int i1), .val (.int i2), .val (.int i3), .val (.int i4), .val (.int (0 : Int32)), .val (.int i6), .val (.ref b1), .val (.int (f1n4_0 i4 (0 : Int32))), .unset, .unset] [])) _
              refine XS.iconst X111.here hx rfl (hb hby at_149) ?_
              show Steps p.tables e below (T111.setTop (mkF m 150 #[.val (.int i0), .val (.int i1), .val (.int i2), .val (.int i3), .val (.int i4), .val (.int (0 : Int32)), .val (.int i6), .val (.ref b1), .val (.int (f1n4_0 i4 (0 : Int32))), .unset, .unset] [(.int (4 : Int32))])) _
              refine XS.istore X111.here hx rfl (hb hby at_150) rfl (l' := #[.val (.int i0), .val (.int i1), .val (.int i2), .val (.int i3), .val (.int i4), .val (.int (0 : Int32)), .val (.int i6), .val (.ref b1), .val (.int (f1n4_0 i4 (0 : Int32))), .val (.int (4 : Int32)), .unset]) rfl ?_
              show Steps p.tables e below (T111.setTop (mkF m 152 #[.val (.int i0), .val (.int i1), .val (.int i2), .val (.int i3), .val (.int i4), .val (.int (0 : Int32)), .val (.int i6), .val (.ref b1), .val (.int (f1n4_0 i4 (0 : Int32))), .val (.int (4 : Int32)), .unset] [])) _
              refine XS.goto X111.here hx rfl (pc0 := 152) (pc' := 158) rfl (hb hby at_152) (by decide) (by decide) ?_
              exact kt
            exact b0_158 i0 i1 i2 i3 i4 (0 : Int32) i6 b1 (f1n4_0 i4 (0 : Int32)) (4 : Int32) (nar .byte ((i4 ||| (128 : Int32)).toInt8.toInt32)) (nar .byte ((((i4.toUInt32 >>> ((7 : Int32) &&& 31).toUInt32).toInt32) ||| (128 : Int32)).toInt8.toInt32)) (nar .byte ((((((i4.toUInt32 >>> ((7 : Int32) &&& 31).toUInt32).toInt32).toUInt32 >>> ((7 : Int32) &&& 31).toUInt32).toInt32) ||| (128 : Int32)).toInt8.toInt32)) (nar .byte (((((((i4.toUInt32 >>> ((7 : Int32) &&& 31).toUInt32).toInt32).toUInt32 >>> ((7 : Int32) &&& 31).toUInt32).toInt32).toUInt32 >>> ((7 : Int32) &&& 31).toUInt32).toInt32).toInt8.toInt32)) (nar .byte i6) (nar .byte i6) (nar .byte i6) (nar .byte i6) (nar .byte i6) (nar .byte i6) X111 hx hZ hw hby hml hown hret hlk rfl N111 Ab1_111 g1 Z111 hr
          · replace hr := hr.trans (if_neg hm90_110)
            refine own_step (T' := T11) (f' := (mkF m 96 #[.val (.int i0), .val (.int i1), .val (.int i2), .val (.int i3), .val (.int i4), .val (.int (0 : Int32)), .val (.int i6), .val (.ref b1), .unset, .unset, .unset] [(.int (0 : Int32)), (.ref b1), (.int i4)])) (fun t kt => ?_) ?_
            · show Steps p.tables e below (T11.setTop (mkF m 90 #[.val (.int i0), .val (.int i1), .val (.int i2), .val (.int i3), .val (.int i4), .val (.int (0 : Int32)), .val (.int i6), .val (.ref b1), .unset, .unset, .unset] [])) _
              refine XS.iload X11.here hx rfl (hb hby at_90) rfl ?_
              show Steps p.tables e below (T11.setTop (mkF m 92 #[.val (.int i0), .val (.int i1), .val (.int i2), .val (.int i3), .val (.int i4), .val (.int (0 : Int32)), .val (.int i6), .val (.ref b1), .unset, .unset, .unset] [(.int i4)])) _
              refine XS.aload X11.here hx rfl (hb hby at_92) rfl rfl ?_
              show Steps p.tables e below (T11.setTop (mkF m 94 #[.val (.int i0), .val (.int i1), .val (.int i2), .val (.int i3), .val (.int i4), .val (.int (0 : Int32)), .val (.int i6), .val (.ref b1), .unset, .unset, .unset] [(.ref b1), (.int i4)])) _
              refine XS.iload X11.here hx rfl (hb hby at_94) rfl ?_
              exact kt
            obtain ⟨_, _, ⟨T116, L116, k116, n116⟩, -, X116, ⟨Lc116, hQ116, l116, y116, z116⟩, st116⟩ := Jvm.LawKit.callS X11 hx (y := (⟨"hotstate/sort/VarInts", "write", "(I[BI)I"⟩ : MethodName)) hown (mvT hZ (hw _ (List.mem_of_getElem? (i := 2) rfl))) (mvT hZ (hw _ (List.mem_of_getElem? (i := 3) rfl))) (mvT hZ (hw _ (List.mem_of_getElem? (i := 4) rfl))) (mvT hZ (hw _ (List.mem_of_getElem? (i := 5) rfl))) (by decide) (backOf (W := 0) (rm1n5 l Z a0 hw [] i4 b1 (0 : Int32) [(.int (nar .byte i6)), (.int (nar .byte i6)), (.int (nar .byte i6)), (.int (nar .byte i6)), (.int (nar .byte i6)), (.int (nar .byte i6)), (.int (nar .byte i6)), (.int (nar .byte i6)), (.int (nar .byte i6)), (.int (nar .byte i6))] h11 n0 Ab1_11 g1 rfl (by decide) hm90_12 (own_ge1 i4 hpos hm90_101) (own_ge2 i4 hpos hm90_105) (own_ge3 i4 hpos hm90_110) (own_lt4 i4 hpos) Z11) hZ (hw _ (List.mem_of_getElem? (i := 5) rfl)) (hw _ (List.mem_of_getElem? (i := 4) rfl)) (by decide) (by decide)) (g := (mkF m 96 #[.val (.int i0), .val (.int i1), .val (.int i2), .val (.int i3), .val (.int i4), .val (.int (0 : Int32)), .val (.int i6), .val (.ref b1), .unset, .unset, .unset] [(.int (0 : Int32)), (.ref b1), (.int i4)])) rfl (by rw [hml]; rfl) (argsL := [(.int i4), (.ref b1), (.int (0 : Int32))]) (rest := []) (lenOf pd1 rfl) rfl (by show 2 * 0 + _ ≤ _; exact Nat.le_of_eq rfl) (hb hby at_96) (fun _ _ => ⟨rfl, e11, (by decide : 1 + 0 ≤ _), (by decide : 10 + 0 ≤ _)⟩)
            dsimp only [Pt.U, Pt.locs, Pt.cells, Pt.slots] at X116 l116 y116 z116 st116 hQ116
            subst l116 y116 z116
            obtain ⟨rfl, Nq116, Aw116, Z116⟩ := hQ116
            have N116 := Fr.app N11 Nq116
            have Ab1_116 : own_A Z T116.heap b1 .byte [(.int (nar .byte ((i4 ||| (128 : Int32)).toInt8.toInt32))), (.int (nar .byte ((((i4.toUInt32 >>> ((7 : Int32) &&& 31).toUInt32).toInt32) ||| (128 : Int32)).toInt8.toInt32))), (.int (nar .byte ((((((i4.toUInt32 >>> ((7 : Int32) &&& 31).toUInt32).toInt32).toUInt32 >>> ((7 : Int32) &&& 31).toUInt32).toInt32) ||| (128 : Int32)).toInt8.toInt32))), (.int (nar .byte ((((((((i4.toUInt32 >>> ((7 : Int32) &&& 31).toUInt32).toInt32).toUInt32 >>> ((7 : Int32) &&& 31).toUInt32).toInt32).toUInt32 >>> ((7 : Int32) &&& 31).toUInt32).toInt32) ||| (128 : Int32)).toInt8.toInt32))), (.int (nar .byte (((((((((i4.toUInt32 >>> ((7 : Int32) &&& 31).toUInt32).toInt32).toUInt32 >>> ((7 : Int32) &&& 31).toUInt32).toInt32).toUInt32 >>> ((7 : Int32) &&& 31).toUInt32).toInt32).toUInt32 >>> ((7 : Int32) &&& 31).toUInt32).toInt32).toInt8.toInt32))), (.int (nar .byte i6)), (.int (nar .byte i6)), (.int (nar .byte i6)), (.int (nar .byte i6)), (.int (nar .byte i6))] := Aw116
            refine own_step (T' := T116) (f' := (mkF m 99 #[.val (.int i0), .val (.int i1), .val (.int i2), .val (.int i3), .val (.int i4), .val (.int (0 : Int32)), .val (.int i6), .val (.ref b1), .unset, .unset, .unset] [(.int (f1n5_0 i4 (0 : Int32)))])) st116 ?_
            refine own_step (T' := T116) (f' := (mkF m 106 #[.val (.int i0), .val (.int i1), .val (.int i2), .val (.int i3), .val (.int i4), .val (.int (0 : Int32)), .val (.int i6), .val (.ref b1), .val (.int (f1n5_0 i4 (0 : Int32))), .unset, .unset] [(.int (128 : Int32)), (.int i4)])) (fun t kt => ?_) ?_
            · show Steps p.tables e below (T116.setTop (mkF m 99 #[.val (.int i0), .val (.int i1), .val (.int i2), .val (.int i3), .val (.int i4), .val (.int (0 : Int32)), .val (.int i6), .val (.ref b1), .unset, .unset, .unset] [(.int (f1n5_0 i4 (0 : Int32)))])) _
              refine XS.istore X116.here hx rfl (hb hby at_99) rfl (l' := #[.val (.int i0), .val (.int i1), .val (.int i2), .val (.int i3), .val (.int i4), .val (.int (0 : Int32)), .val (.int i6), .val (.ref b1), .val (.int (f1n5_0 i4 (0 : Int32))), .unset, .unset]) rfl ?_
              show Steps p.tables e below (T116.setTop (mkF m 101 #[.val (.int i0), .val (.int i1), .val (.int i2), .val (.int i3), .val (.int i4), .val (.int (0 : Int32)), .val (.int i6), .val (.ref b1), .val (.int (f1n5_0 i4 (0 : Int32))), .unset, .unset] [])) _
              refine XS.iload X116.here hx rfl (hb hby at_101) rfl ?_
              show Steps p.tables e below (T116.setTop (mkF m 103 #[.val (.int i0), .val (.int i1), .val (.int i2), .val (.int i3), .val (.int i4), .val (.int (0 : Int32)), .val (.int i6), .val (.ref b1), .val (.int (f1n5_0 i4 (0 : Int32))), .unset, .unset] [(.int i4)])) _
              refine XS.sipush X116.here hx rfl (hb hby at_103) ?_
              exact kt
            refine own_step (T' := T116) (f' := (mkF m 115 #[.val (.int i0), .val (.int i1), .val (.int i2), .val (.int i3), .val (.int i4), .val (.int (0 : Int32)), .val (.int i6), .val (.ref b1), .val (.int (f1n5_0 i4 (0 : Int32))), .unset, .unset] [])) (fun t kt => ?_) ?_
            · show Steps p.tables e below (T116.setTop (mkF m 106 #[.val (.int i0), .val (.int i1), .val (.int i2), .val (.int i3), .val (.int i4), .val (.int (0 : Int32)), .val (.int i6), .val (.ref b1), .val (.int (f1n5_0 i4 (0 : Int32))), .unset, .unset] [(.int (128 : Int32)), (.int i4)])) _
              refine XS.icmpYes X116.here hx rfl (pc0 := 106) (pc' := 115) rfl (hb hby at_106) rfl (flt hm90_12).2.1 (by decide) (by decide) kt
            refine own_step (T' := T116) (f' := (mkF m 120 #[.val (.int i0), .val (.int i1), .val (.int i2), .val (.int i3), .val (.int i4), .val (.int (0 : Int32)), .val (.int i6), .val (.ref b1), .val (.int (f1n5_0 i4 (0 : Int32))), .unset, .unset] [(.int (16384 : Int32)), (.int i4)])) (fun t kt => ?_) ?_
            · show Steps p.tables e below (T116.setTop (mkF m 115 #[.val (.int i0), .val (.int i1), .val (.int i2), .val (.int i3), .val (.int i4), .val (.int (0 : Int32)), .val (.int i6), .val (.ref b1), .val (.int (f1n5_0 i4 (0 : Int32))), .unset, .unset] [])) _
              refine XS.iload X116.here hx rfl (hb hby at_115) rfl ?_
              show Steps p.tables e below (T116.setTop (mkF m 117 #[.val (.int i0), .val (.int i1), .val (.int i2), .val (.int i3), .val (.int i4), .val (.int (0 : Int32)), .val (.int i6), .val (.ref b1), .val (.int (f1n5_0 i4 (0 : Int32))), .unset, .unset] [(.int i4)])) _
              refine XS.sipush X116.here hx rfl (hb hby at_117) ?_
              exact kt
            refine own_step (T' := T116) (f' := (mkF m 129 #[.val (.int i0), .val (.int i1), .val (.int i2), .val (.int i3), .val (.int i4), .val (.int (0 : Int32)), .val (.int i6), .val (.ref b1), .val (.int (f1n5_0 i4 (0 : Int32))), .unset, .unset] [])) (fun t kt => ?_) ?_
            · show Steps p.tables e below (T116.setTop (mkF m 120 #[.val (.int i0), .val (.int i1), .val (.int i2), .val (.int i3), .val (.int i4), .val (.int (0 : Int32)), .val (.int i6), .val (.ref b1), .val (.int (f1n5_0 i4 (0 : Int32))), .unset, .unset] [(.int (16384 : Int32)), (.int i4)])) _
              refine XS.icmpYes X116.here hx rfl (pc0 := 120) (pc' := 129) rfl (hb hby at_120) rfl (flt hm90_101).2.1 (by decide) (by decide) kt
            refine own_step (T' := T116) (f' := (mkF m 133 #[.val (.int i0), .val (.int i1), .val (.int i2), .val (.int i3), .val (.int i4), .val (.int (0 : Int32)), .val (.int i6), .val (.ref b1), .val (.int (f1n5_0 i4 (0 : Int32))), .unset, .unset] [(.int (2097152 : Int32)), (.int i4)])) (fun t kt => ?_) ?_
            · show Steps p.tables e below (T116.setTop (mkF m 129 #[.val (.int i0), .val (.int i1), .val (.int i2), .val (.int i3), .val (.int i4), .val (.int (0 : Int32)), .val (.int i6), .val (.ref b1), .val (.int (f1n5_0 i4 (0 : Int32))), .unset, .unset] [])) _
              refine XS.iload X116.here hx rfl (hb hby at_129) rfl ?_
              show Steps p.tables e below (T116.setTop (mkF m 131 #[.val (.int i0), .val (.int i1), .val (.int i2), .val (.int i3), .val (.int i4), .val (.int (0 : Int32)), .val (.int i6), .val (.ref b1), .val (.int (f1n5_0 i4 (0 : Int32))), .unset, .unset] [(.int i4)])) _
              refine X116.ldcInt hx hown (mvT hZ (hw _ (List.mem_of_getElem? (i := 10) rfl))) (g := (mkF m 131 #[.val (.int i0), .val (.int i1), .val (.int i2), .val (.int i3), .val (.int i4), .val (.int (0 : Int32)), .val (.int i6), .val (.ref b1), .val (.int (f1n5_0 i4 (0 : Int32))), .unset, .unset] [(.int i4)])) rfl (hb hby at_131) _ ?_
              exact kt
            refine own_step (T' := T116) (f' := (mkF m 142 #[.val (.int i0), .val (.int i1), .val (.int i2), .val (.int i3), .val (.int i4), .val (.int (0 : Int32)), .val (.int i6), .val (.ref b1), .val (.int (f1n5_0 i4 (0 : Int32))), .unset, .unset] [])) (fun t kt => ?_) ?_
            · show Steps p.tables e below (T116.setTop (mkF m 133 #[.val (.int i0), .val (.int i1), .val (.int i2), .val (.int i3), .val (.int i4), .val (.int (0 : Int32)), .val (.int i6), .val (.ref b1), .val (.int (f1n5_0 i4 (0 : Int32))), .unset, .unset] [(.int (2097152 : Int32)), (.int i4)])) _
              refine XS.icmpYes X116.here hx rfl (pc0 := 133) (pc' := 142) rfl (hb hby at_133) rfl (flt hm90_105).2.1 (by decide) (by decide) kt
            refine own_step (T' := T116) (f' := (mkF m 146 #[.val (.int i0), .val (.int i1), .val (.int i2), .val (.int i3), .val (.int i4), .val (.int (0 : Int32)), .val (.int i6), .val (.ref b1), .val (.int (f1n5_0 i4 (0 : Int32))), .unset, .unset] [(.int (268435456 : Int32)), (.int i4)])) (fun t kt => ?_) ?_
            · show Steps p.tables e below (T116.setTop (mkF m 142 #[.val (.int i0), .val (.int i1), .val (.int i2), .val (.int i3), .val (.int i4), .val (.int (0 : Int32)), .val (.int i6), .val (.ref b1), .val (.int (f1n5_0 i4 (0 : Int32))), .unset, .unset] [])) _
              refine XS.iload X116.here hx rfl (hb hby at_142) rfl ?_
              show Steps p.tables e below (T116.setTop (mkF m 144 #[.val (.int i0), .val (.int i1), .val (.int i2), .val (.int i3), .val (.int i4), .val (.int (0 : Int32)), .val (.int i6), .val (.ref b1), .val (.int (f1n5_0 i4 (0 : Int32))), .unset, .unset] [(.int i4)])) _
              refine X116.ldcInt hx hown (mvT hZ (hw _ (List.mem_of_getElem? (i := 11) rfl))) (g := (mkF m 144 #[.val (.int i0), .val (.int i1), .val (.int i2), .val (.int i3), .val (.int i4), .val (.int (0 : Int32)), .val (.int i6), .val (.ref b1), .val (.int (f1n5_0 i4 (0 : Int32))), .unset, .unset] [(.int i4)])) rfl (hb hby at_144) _ ?_
              exact kt
            refine own_step (T' := T116) (f' := (mkF m 155 #[.val (.int i0), .val (.int i1), .val (.int i2), .val (.int i3), .val (.int i4), .val (.int (0 : Int32)), .val (.int i6), .val (.ref b1), .val (.int (f1n5_0 i4 (0 : Int32))), .unset, .unset] [])) (fun t kt => ?_) ?_
            · show Steps p.tables e below (T116.setTop (mkF m 146 #[.val (.int i0), .val (.int i1), .val (.int i2), .val (.int i3), .val (.int i4), .val (.int (0 : Int32)), .val (.int i6), .val (.ref b1), .val (.int (f1n5_0 i4 (0 : Int32))), .unset, .unset] [(.int (268435456 : Int32)), (.int i4)])) _
              refine XS.icmpYes X116.here hx rfl (pc0 := 146) (pc' := 155) rfl (hb hby at_146) rfl (flt hm90_110).2.1 (by decide) (by decide) kt
            refine own_step (T' := T116) (f' := (mkF m 158 #[.val (.int i0), .val (.int i1), .val (.int i2), .val (.int i3), .val (.int i4), .val (.int (0 : Int32)), .val (.int i6), .val (.ref b1), .val (.int (f1n5_0 i4 (0 : Int32))), .val (.int (5 : Int32)), .unset] [])) (fun t kt => ?_) ?_
            · show Steps p.tables e below (T116.setTop (mkF m 155 #[.val (.int i0), .val (.int i1), .val (.int i2), .val (.int i3), .val (.int i4), .val (.int (0 : Int32)), .val (.int i6), .val (.ref b1), .val (.int (f1n5_0 i4 (0 : Int32))), .unset, .unset] [])) _
              refine XS.iconst X116.here hx rfl (hb hby at_155) ?_
              show Steps p.tables e below (T116.setTop (mkF m 156 #[.val (.int i0), .val (.int i1), .val (.int i2), .val (.int i3), .val (.int i4), .val (.int (0 : Int32)), .val (.int i6), .val (.ref b1), .val (.int (f1n5_0 i4 (0 : Int32))), .unset, .unset] [(.int (5 : Int32))])) _
              refine XS.istore X116.here hx rfl (hb hby at_156) rfl (l' := #[.val (.int i0), .val (.int i1), .val (.int i2), .val (.int i3), .val (.int i4), .val (.int (0 : Int32)), .val (.int i6), .val (.ref b1), .val (.int (f1n5_0 i4 (0 : Int32))), .val (.int (5 : Int32)), .unset]) rfl ?_
              exact kt
            exact b0_158 i0 i1 i2 i3 i4 (0 : Int32) i6 b1 (f1n5_0 i4 (0 : Int32)) (5 : Int32) (nar .byte ((i4 ||| (128 : Int32)).toInt8.toInt32)) (nar .byte ((((i4.toUInt32 >>> ((7 : Int32) &&& 31).toUInt32).toInt32) ||| (128 : Int32)).toInt8.toInt32)) (nar .byte ((((((i4.toUInt32 >>> ((7 : Int32) &&& 31).toUInt32).toInt32).toUInt32 >>> ((7 : Int32) &&& 31).toUInt32).toInt32) ||| (128 : Int32)).toInt8.toInt32)) (nar .byte ((((((((i4.toUInt32 >>> ((7 : Int32) &&& 31).toUInt32).toInt32).toUInt32 >>> ((7 : Int32) &&& 31).toUInt32).toInt32).toUInt32 >>> ((7 : Int32) &&& 31).toUInt32).toInt32) ||| (128 : Int32)).toInt8.toInt32)) (nar .byte (((((((((i4.toUInt32 >>> ((7 : Int32) &&& 31).toUInt32).toInt32).toUInt32 >>> ((7 : Int32) &&& 31).toUInt32).toInt32).toUInt32 >>> ((7 : Int32) &&& 31).toUInt32).toInt32).toUInt32 >>> ((7 : Int32) &&& 31).toUInt32).toInt32).toInt8.toInt32)) (nar .byte i6) (nar .byte i6) (nar .byte i6) (nar .byte i6) (nar .byte i6) X116 hx hZ hw hby hml hown hret hlk rfl N116 Ab1_116 g1 Z116 hr
  · replace hr := hr.trans ((if_neg (by decide)).trans (if_pos rfl))
    by_cases hm90_121 : i4 < (128 : Int32)
    · replace hr := hr.trans (if_pos hm90_121)
      refine own_step (T' := T11) (f' := (mkF m 96 #[.val (.int i0), .val (.int i1), .val (.int i2), .val (.int i3), .val (.int i4), .val (.int (1 : Int32)), .val (.int i6), .val (.ref b1), .unset, .unset, .unset] [(.int (1 : Int32)), (.ref b1), (.int i4)])) (fun t kt => ?_) ?_
      · show Steps p.tables e below (T11.setTop (mkF m 90 #[.val (.int i0), .val (.int i1), .val (.int i2), .val (.int i3), .val (.int i4), .val (.int (1 : Int32)), .val (.int i6), .val (.ref b1), .unset, .unset, .unset] [])) _
        refine XS.iload X11.here hx rfl (hb hby at_90) rfl ?_
        show Steps p.tables e below (T11.setTop (mkF m 92 #[.val (.int i0), .val (.int i1), .val (.int i2), .val (.int i3), .val (.int i4), .val (.int (1 : Int32)), .val (.int i6), .val (.ref b1), .unset, .unset, .unset] [(.int i4)])) _
        refine XS.aload X11.here hx rfl (hb hby at_92) rfl rfl ?_
        show Steps p.tables e below (T11.setTop (mkF m 94 #[.val (.int i0), .val (.int i1), .val (.int i2), .val (.int i3), .val (.int i4), .val (.int (1 : Int32)), .val (.int i6), .val (.ref b1), .unset, .unset, .unset] [(.ref b1), (.int i4)])) _
        refine XS.iload X11.here hx rfl (hb hby at_94) rfl ?_
        exact kt
      obtain ⟨_, _, ⟨T122, L122, k122, n122⟩, -, X122, ⟨Lc122, hQ122, l122, y122, z122⟩, st122⟩ := Jvm.LawKit.callS X11 hx (y := (⟨"hotstate/sort/VarInts", "write", "(I[BI)I"⟩ : MethodName)) hown (mvT hZ (hw _ (List.mem_of_getElem? (i := 2) rfl))) (mvT hZ (hw _ (List.mem_of_getElem? (i := 3) rfl))) (mvT hZ (hw _ (List.mem_of_getElem? (i := 4) rfl))) (mvT hZ (hw _ (List.mem_of_getElem? (i := 5) rfl))) (by decide) (backOf (W := 0) (rm1n1 l Z a0 hw [] i4 b1 (1 : Int32) [(.int (nar .byte i6)), (.int (nar .byte i6)), (.int (nar .byte i6)), (.int (nar .byte i6)), (.int (nar .byte i6)), (.int (nar .byte i6)), (.int (nar .byte i6)), (.int (nar .byte i6)), (.int (nar .byte i6)), (.int (nar .byte i6))] h11 n0 Ab1_11 g1 rfl (by decide) hm90_121 Z11) hZ (hw _ (List.mem_of_getElem? (i := 5) rfl)) (hw _ (List.mem_of_getElem? (i := 4) rfl)) (by decide) (by decide)) (g := (mkF m 96 #[.val (.int i0), .val (.int i1), .val (.int i2), .val (.int i3), .val (.int i4), .val (.int (1 : Int32)), .val (.int i6), .val (.ref b1), .unset, .unset, .unset] [(.int (1 : Int32)), (.ref b1), (.int i4)])) rfl (by rw [hml]; rfl) (argsL := [(.int i4), (.ref b1), (.int (1 : Int32))]) (rest := []) (lenOf pd1 rfl) rfl (by show 2 * 0 + _ ≤ _; exact Nat.le_of_eq rfl) (hb hby at_96) (fun _ _ => ⟨rfl, e11, (by decide : 1 + 0 ≤ _), (by decide : 10 + 0 ≤ _)⟩)
      dsimp only [Pt.U, Pt.locs, Pt.cells, Pt.slots] at X122 l122 y122 z122 st122 hQ122
      subst l122 y122 z122
      obtain ⟨rfl, Nq122, Aw122, Z122⟩ := hQ122
      have N122 := Fr.app N11 Nq122
      have Ab1_122 : own_A Z T122.heap b1 .byte [(.int (nar .byte i6)), (.int (nar .byte (i4.toInt8.toInt32))), (.int (nar .byte i6)), (.int (nar .byte i6)), (.int (nar .byte i6)), (.int (nar .byte i6)), (.int (nar .byte i6)), (.int (nar .byte i6)), (.int (nar .byte i6)), (.int (nar .byte i6))] := Aw122
      refine own_step (T' := T122) (f' := (mkF m 99 #[.val (.int i0), .val (.int i1), .val (.int i2), .val (.int i3), .val (.int i4), .val (.int (1 : Int32)), .val (.int i6), .val (.ref b1), .unset, .unset, .unset] [(.int (f1n1_0 i4 (1 : Int32)))])) st122 ?_
      refine own_step (T' := T122) (f' := (mkF m 106 #[.val (.int i0), .val (.int i1), .val (.int i2), .val (.int i3), .val (.int i4), .val (.int (1 : Int32)), .val (.int i6), .val (.ref b1), .val (.int (f1n1_0 i4 (1 : Int32))), .unset, .unset] [(.int (128 : Int32)), (.int i4)])) (fun t kt => ?_) ?_
      · show Steps p.tables e below (T122.setTop (mkF m 99 #[.val (.int i0), .val (.int i1), .val (.int i2), .val (.int i3), .val (.int i4), .val (.int (1 : Int32)), .val (.int i6), .val (.ref b1), .unset, .unset, .unset] [(.int (f1n1_0 i4 (1 : Int32)))])) _
        refine XS.istore X122.here hx rfl (hb hby at_99) rfl (l' := #[.val (.int i0), .val (.int i1), .val (.int i2), .val (.int i3), .val (.int i4), .val (.int (1 : Int32)), .val (.int i6), .val (.ref b1), .val (.int (f1n1_0 i4 (1 : Int32))), .unset, .unset]) rfl ?_
        show Steps p.tables e below (T122.setTop (mkF m 101 #[.val (.int i0), .val (.int i1), .val (.int i2), .val (.int i3), .val (.int i4), .val (.int (1 : Int32)), .val (.int i6), .val (.ref b1), .val (.int (f1n1_0 i4 (1 : Int32))), .unset, .unset] [])) _
        refine XS.iload X122.here hx rfl (hb hby at_101) rfl ?_
        show Steps p.tables e below (T122.setTop (mkF m 103 #[.val (.int i0), .val (.int i1), .val (.int i2), .val (.int i3), .val (.int i4), .val (.int (1 : Int32)), .val (.int i6), .val (.ref b1), .val (.int (f1n1_0 i4 (1 : Int32))), .unset, .unset] [(.int i4)])) _
        refine XS.sipush X122.here hx rfl (hb hby at_103) ?_
        exact kt
      refine own_step (T' := T122) (f' := (mkF m 109 #[.val (.int i0), .val (.int i1), .val (.int i2), .val (.int i3), .val (.int i4), .val (.int (1 : Int32)), .val (.int i6), .val (.ref b1), .val (.int (f1n1_0 i4 (1 : Int32))), .unset, .unset] [])) (fun t kt => ?_) ?_
      · show Steps p.tables e below (T122.setTop (mkF m 106 #[.val (.int i0), .val (.int i1), .val (.int i2), .val (.int i3), .val (.int i4), .val (.int (1 : Int32)), .val (.int i6), .val (.ref b1), .val (.int (f1n1_0 i4 (1 : Int32))), .unset, .unset] [(.int (128 : Int32)), (.int i4)])) _
        refine XS.icmpNo X122.here hx rfl (hb hby at_106) rfl (tlt hm90_121).2.1 kt
      refine own_step (T' := T122) (f' := (mkF m 158 #[.val (.int i0), .val (.int i1), .val (.int i2), .val (.int i3), .val (.int i4), .val (.int (1 : Int32)), .val (.int i6), .val (.ref b1), .val (.int (f1n1_0 i4 (1 : Int32))), .val (.int (1 : Int32)), .unset] [])) (fun t kt => ?_) ?_
      · show Steps p.tables e below (T122.setTop (mkF m 109 #[.val (.int i0), .val (.int i1), .val (.int i2), .val (.int i3), .val (.int i4), .val (.int (1 : Int32)), .val (.int i6), .val (.ref b1), .val (.int (f1n1_0 i4 (1 : Int32))), .unset, .unset] [])) _
        refine XS.iconst X122.here hx rfl (hb hby at_109) ?_
        show Steps p.tables e below (T122.setTop (mkF m 110 #[.val (.int i0), .val (.int i1), .val (.int i2), .val (.int i3), .val (.int i4), .val (.int (1 : Int32)), .val (.int i6), .val (.ref b1), .val (.int (f1n1_0 i4 (1 : Int32))), .unset, .unset] [(.int (1 : Int32))])) _
        refine XS.istore X122.here hx rfl (hb hby at_110) rfl (l' := #[.val (.int i0), .val (.int i1), .val (.int i2), .val (.int i3), .val (.int i4), .val (.int (1 : Int32)), .val (.int i6), .val (.ref b1), .val (.int (f1n1_0 i4 (1 : Int32))), .val (.int (1 : Int32)), .unset]) rfl ?_
        show Steps p.tables e below (T122.setTop (mkF m 112 #[.val (.int i0), .val (.int i1), .val (.int i2), .val (.int i3), .val (.int i4), .val (.int (1 : Int32)), .val (.int i6), .val (.ref b1), .val (.int (f1n1_0 i4 (1 : Int32))), .val (.int (1 : Int32)), .unset] [])) _
        refine XS.goto X122.here hx rfl (pc0 := 112) (pc' := 158) rfl (hb hby at_112) (by decide) (by decide) ?_
        exact kt
      exact b0_158 i0 i1 i2 i3 i4 (1 : Int32) i6 b1 (f1n1_0 i4 (1 : Int32)) (1 : Int32) (nar .byte i6) (nar .byte (i4.toInt8.toInt32)) (nar .byte i6) (nar .byte i6) (nar .byte i6) (nar .byte i6) (nar .byte i6) (nar .byte i6) (nar .byte i6) (nar .byte i6) X122 hx hZ hw hby hml hown hret hlk rfl N122 Ab1_122 g1 Z122 hr
    · replace hr := hr.trans (if_neg hm90_121)
      by_cases hm90_124 : i4 < (16384 : Int32)
      · replace hr := hr.trans (if_pos hm90_124)
        refine own_step (T' := T11) (f' := (mkF m 96 #[.val (.int i0), .val (.int i1), .val (.int i2), .val (.int i3), .val (.int i4), .val (.int (1 : Int32)), .val (.int i6), .val (.ref b1), .unset, .unset, .unset] [(.int (1 : Int32)), (.ref b1), (.int i4)])) (fun t kt => ?_) ?_
        · show Steps p.tables e below (T11.setTop (mkF m 90 #[.val (.int i0), .val (.int i1), .val (.int i2), .val (.int i3), .val (.int i4), .val (.int (1 : Int32)), .val (.int i6), .val (.ref b1), .unset, .unset, .unset] [])) _
          refine XS.iload X11.here hx rfl (hb hby at_90) rfl ?_
          show Steps p.tables e below (T11.setTop (mkF m 92 #[.val (.int i0), .val (.int i1), .val (.int i2), .val (.int i3), .val (.int i4), .val (.int (1 : Int32)), .val (.int i6), .val (.ref b1), .unset, .unset, .unset] [(.int i4)])) _
          refine XS.aload X11.here hx rfl (hb hby at_92) rfl rfl ?_
          show Steps p.tables e below (T11.setTop (mkF m 94 #[.val (.int i0), .val (.int i1), .val (.int i2), .val (.int i3), .val (.int i4), .val (.int (1 : Int32)), .val (.int i6), .val (.ref b1), .unset, .unset, .unset] [(.ref b1), (.int i4)])) _
          refine XS.iload X11.here hx rfl (hb hby at_94) rfl ?_
          exact kt
        obtain ⟨_, _, ⟨T125, L125, k125, n125⟩, -, X125, ⟨Lc125, hQ125, l125, y125, z125⟩, st125⟩ := Jvm.LawKit.callS X11 hx (y := (⟨"hotstate/sort/VarInts", "write", "(I[BI)I"⟩ : MethodName)) hown (mvT hZ (hw _ (List.mem_of_getElem? (i := 2) rfl))) (mvT hZ (hw _ (List.mem_of_getElem? (i := 3) rfl))) (mvT hZ (hw _ (List.mem_of_getElem? (i := 4) rfl))) (mvT hZ (hw _ (List.mem_of_getElem? (i := 5) rfl))) (by decide) (backOf (W := 0) (rm1n2 l Z a0 hw [] i4 b1 (1 : Int32) [(.int (nar .byte i6)), (.int (nar .byte i6)), (.int (nar .byte i6)), (.int (nar .byte i6)), (.int (nar .byte i6)), (.int (nar .byte i6)), (.int (nar .byte i6)), (.int (nar .byte i6)), (.int (nar .byte i6)), (.int (nar .byte i6))] h11 n0 Ab1_11 g1 rfl (by decide) hm90_121 (own_lt1 i4 hpos hm90_124) Z11) hZ (hw _ (List.mem_of_getElem? (i := 5) rfl)) (hw _ (List.mem_of_getElem? (i := 4) rfl)) (by decide) (by decide)) (g := (mkF m 96 #[.val (.int i0), .val (.int i1), .val (.int i2), .val (.int i3), .val (.int i4), .val (.int (1 : Int32)), .val (.int i6), .val (.ref b1), .unset, .unset, .unset] [(.int (1 : Int32)), (.ref b1), (.int i4)])) rfl (by rw [hml]; rfl) (argsL := [(.int i4), (.ref b1), (.int (1 : Int32))]) (rest := []) (lenOf pd1 rfl) rfl (by show 2 * 0 + _ ≤ _; exact Nat.le_of_eq rfl) (hb hby at_96) (fun _ _ => ⟨rfl, e11, (by decide : 1 + 0 ≤ _), (by decide : 10 + 0 ≤ _)⟩)
        dsimp only [Pt.U, Pt.locs, Pt.cells, Pt.slots] at X125 l125 y125 z125 st125 hQ125
        subst l125 y125 z125
        obtain ⟨rfl, Nq125, Aw125, Z125⟩ := hQ125
        have N125 := Fr.app N11 Nq125
        have Ab1_125 : own_A Z T125.heap b1 .byte [(.int (nar .byte i6)), (.int (nar .byte ((i4 ||| (128 : Int32)).toInt8.toInt32))), (.int (nar .byte (((i4.toUInt32 >>> ((7 : Int32) &&& 31).toUInt32).toInt32).toInt8.toInt32))), (.int (nar .byte i6)), (.int (nar .byte i6)), (.int (nar .byte i6)), (.int (nar .byte i6)), (.int (nar .byte i6)), (.int (nar .byte i6)), (.int (nar .byte i6))] := Aw125
        refine own_step (T' := T125) (f' := (mkF m 99 #[.val (.int i0), .val (.int i1), .val (.int i2), .val (.int i3), .val (.int i4), .val (.int (1 : Int32)), .val (.int i6), .val (.ref b1), .unset, .unset, .unset] [(.int (f1n2_0 i4 (1 : Int32)))])) st125 ?_
        refine own_step (T' := T125) (f' := (mkF m 106 #[.val (.int i0), .val (.int i1), .val (.int i2), .val (.int i3), .val (.int i4), .val (.int (1 : Int32)), .val (.int i6), .val (.ref b1), .val (.int (f1n2_0 i4 (1 : Int32))), .unset, .unset] [(.int (128 : Int32)), (.int i4)])) (fun t kt => ?_) ?_
        · show Steps p.tables e below (T125.setTop (mkF m 99 #[.val (.int i0), .val (.int i1), .val (.int i2), .val (.int i3), .val (.int i4), .val (.int (1 : Int32)), .val (.int i6), .val (.ref b1), .unset, .unset, .unset] [(.int (f1n2_0 i4 (1 : Int32)))])) _
          refine XS.istore X125.here hx rfl (hb hby at_99) rfl (l' := #[.val (.int i0), .val (.int i1), .val (.int i2), .val (.int i3), .val (.int i4), .val (.int (1 : Int32)), .val (.int i6), .val (.ref b1), .val (.int (f1n2_0 i4 (1 : Int32))), .unset, .unset]) rfl ?_
          show Steps p.tables e below (T125.setTop (mkF m 101 #[.val (.int i0), .val (.int i1), .val (.int i2), .val (.int i3), .val (.int i4), .val (.int (1 : Int32)), .val (.int i6), .val (.ref b1), .val (.int (f1n2_0 i4 (1 : Int32))), .unset, .unset] [])) _
          refine XS.iload X125.here hx rfl (hb hby at_101) rfl ?_
          show Steps p.tables e below (T125.setTop (mkF m 103 #[.val (.int i0), .val (.int i1), .val (.int i2), .val (.int i3), .val (.int i4), .val (.int (1 : Int32)), .val (.int i6), .val (.ref b1), .val (.int (f1n2_0 i4 (1 : Int32))), .unset, .unset] [(.int i4)])) _
          refine XS.sipush X125.here hx rfl (hb hby at_103) ?_
          exact kt
        refine own_step (T' := T125) (f' := (mkF m 115 #[.val (.int i0), .val (.int i1), .val (.int i2), .val (.int i3), .val (.int i4), .val (.int (1 : Int32)), .val (.int i6), .val (.ref b1), .val (.int (f1n2_0 i4 (1 : Int32))), .unset, .unset] [])) (fun t kt => ?_) ?_
        · show Steps p.tables e below (T125.setTop (mkF m 106 #[.val (.int i0), .val (.int i1), .val (.int i2), .val (.int i3), .val (.int i4), .val (.int (1 : Int32)), .val (.int i6), .val (.ref b1), .val (.int (f1n2_0 i4 (1 : Int32))), .unset, .unset] [(.int (128 : Int32)), (.int i4)])) _
          refine XS.icmpYes X125.here hx rfl (pc0 := 106) (pc' := 115) rfl (hb hby at_106) rfl (flt hm90_121).2.1 (by decide) (by decide) kt
        refine own_step (T' := T125) (f' := (mkF m 120 #[.val (.int i0), .val (.int i1), .val (.int i2), .val (.int i3), .val (.int i4), .val (.int (1 : Int32)), .val (.int i6), .val (.ref b1), .val (.int (f1n2_0 i4 (1 : Int32))), .unset, .unset] [(.int (16384 : Int32)), (.int i4)])) (fun t kt => ?_) ?_
        · show Steps p.tables e below (T125.setTop (mkF m 115 #[.val (.int i0), .val (.int i1), .val (.int i2), .val (.int i3), .val (.int i4), .val (.int (1 : Int32)), .val (.int i6), .val (.ref b1), .val (.int (f1n2_0 i4 (1 : Int32))), .unset, .unset] [])) _
          refine XS.iload X125.here hx rfl (hb hby at_115) rfl ?_
          show Steps p.tables e below (T125.setTop (mkF m 117 #[.val (.int i0), .val (.int i1), .val (.int i2), .val (.int i3), .val (.int i4), .val (.int (1 : Int32)), .val (.int i6), .val (.ref b1), .val (.int (f1n2_0 i4 (1 : Int32))), .unset, .unset] [(.int i4)])) _
          refine XS.sipush X125.here hx rfl (hb hby at_117) ?_
          exact kt
        refine own_step (T' := T125) (f' := (mkF m 123 #[.val (.int i0), .val (.int i1), .val (.int i2), .val (.int i3), .val (.int i4), .val (.int (1 : Int32)), .val (.int i6), .val (.ref b1), .val (.int (f1n2_0 i4 (1 : Int32))), .unset, .unset] [])) (fun t kt => ?_) ?_
        · show Steps p.tables e below (T125.setTop (mkF m 120 #[.val (.int i0), .val (.int i1), .val (.int i2), .val (.int i3), .val (.int i4), .val (.int (1 : Int32)), .val (.int i6), .val (.ref b1), .val (.int (f1n2_0 i4 (1 : Int32))), .unset, .unset] [(.int (16384 : Int32)), (.int i4)])) _
          refine XS.icmpNo X125.here hx rfl (hb hby at_120) rfl (tlt hm90_124).2.1 kt
        refine own_step (T' := T125) (f' := (mkF m 158 #[.val (.int i0), .val (.int i1), .val (.int i2), .val (.int i3), .val (.int i4), .val (.int (1 : Int32)), .val (.int i6), .val (.ref b1), .val (.int (f1n2_0 i4 (1 : Int32))), .val (.int (2 : Int32)), .unset] [])) (fun t kt => ?_) ?_
        · show Steps p.tables e below (T125.setTop (mkF m 123 #[.val (.int i0), .val (.int i1), .val (.int i2), .val (.int i3), .val (.int i4), .val (.int (1 : Int32)), .val (.int i6), .val (.ref b1), .val (.int (f1n2_0 i4 (1 : Int32))), .unset, .unset] [])) _
          refine XS.iconst X125.here hx rfl (hb hby at_123) ?_
          show Steps p.tables e below (T125.setTop (mkF m 124 #[.val (.int i0), .val (.int i1), .val (.int i2), .val (.int i3), .val (.int i4), .val (.int (1 : Int32)), .val (.int i6), .val (.ref b1), .val (.int (f1n2_0 i4 (1 : Int32))), .unset, .unset] [(.int (2 : Int32))])) _
          refine XS.istore X125.here hx rfl (hb hby at_124) rfl (l' := #[.val (.int i0), .val (.int i1), .val (.int i2), .val (.int i3), .val (.int i4), .val (.int (1 : Int32)), .val (.int i6), .val (.ref b1), .val (.int (f1n2_0 i4 (1 : Int32))), .val (.int (2 : Int32)), .unset]) rfl ?_
          show Steps p.tables e below (T125.setTop (mkF m 126 #[.val (.int i0), .val (.int i1), .val (.int i2), .val (.int i3), .val (.int i4), .val (.int (1 : Int32)), .val (.int i6), .val (.ref b1), .val (.int (f1n2_0 i4 (1 : Int32))), .val (.int (2 : Int32)), .unset] [])) _
          refine XS.goto X125.here hx rfl (pc0 := 126) (pc' := 158) rfl (hb hby at_126) (by decide) (by decide) ?_
          exact kt
        exact b0_158 i0 i1 i2 i3 i4 (1 : Int32) i6 b1 (f1n2_0 i4 (1 : Int32)) (2 : Int32) (nar .byte i6) (nar .byte ((i4 ||| (128 : Int32)).toInt8.toInt32)) (nar .byte (((i4.toUInt32 >>> ((7 : Int32) &&& 31).toUInt32).toInt32).toInt8.toInt32)) (nar .byte i6) (nar .byte i6) (nar .byte i6) (nar .byte i6) (nar .byte i6) (nar .byte i6) (nar .byte i6) X125 hx hZ hw hby hml hown hret hlk rfl N125 Ab1_125 g1 Z125 hr
      · replace hr := hr.trans (if_neg hm90_124)
        by_cases hm90_128 : i4 < (2097152 : Int32)
        · replace hr := hr.trans (if_pos hm90_128)
          refine own_step (T' := T11) (f' := (mkF m 96 #[.val (.int i0), .val (.int i1), .val (.int i2), .val (.int i3), .val (.int i4), .val (.int (1 : Int32)), .val (.int i6), .val (.ref b1), .unset, .unset, .unset] [(.int (1 : Int32)), (.ref b1), (.int i4)])) (fun t kt => ?_) ?_
          · show Steps p.tables e below (T11.setTop (mkF m 90 #[.val (.int i0), .val (.int i1), .val (.int i2), .val (.int i3), .val (.int i4), .val (.int (1 : Int32)), .val (.int i6), .val (.ref b1), .unset, .unset, .unset] [])) _
            refine XS.iload X11.here hx rfl (hb hby at_90) rfl ?_
            show Steps p.tables e below (T11.setTop (mkF m 92 #[.val (.int i0), .val (.int i1), .val (.int i2), .val (.int i3), .val (.int i4), .val (.int (1 : Int32)), .val (.int i6), .val (.ref b1), .unset, .unset, .unset] [(.int i4)])) _
            refine XS.aload X11.here hx rfl (hb hby at_92) rfl rfl ?_
            show Steps p.tables e below (T11.setTop (mkF m 94 #[.val (.int i0), .val (.int i1), .val (.int i2), .val (.int i3), .val (.int i4), .val (.int (1 : Int32)), .val (.int i6), .val (.ref b1), .unset, .unset, .unset] [(.ref b1), (.int i4)])) _
            refine XS.iload X11.here hx rfl (hb hby at_94) rfl ?_
            exact kt
          obtain ⟨_, _, ⟨T129, L129, k129, n129⟩, -, X129, ⟨Lc129, hQ129, l129, y129, z129⟩, st129⟩ := Jvm.LawKit.callS X11 hx (y := (⟨"hotstate/sort/VarInts", "write", "(I[BI)I"⟩ : MethodName)) hown (mvT hZ (hw _ (List.mem_of_getElem? (i := 2) rfl))) (mvT hZ (hw _ (List.mem_of_getElem? (i := 3) rfl))) (mvT hZ (hw _ (List.mem_of_getElem? (i := 4) rfl))) (mvT hZ (hw _ (List.mem_of_getElem? (i := 5) rfl))) (by decide) (backOf (W := 0) (rm1n3 l Z a0 hw [] i4 b1 (1 : Int32) [(.int (nar .byte i6)), (.int (nar .byte i6)), (.int (nar .byte i6)), (.int (nar .byte i6)), (.int (nar .byte i6)), (.int (nar .byte i6)), (.int (nar .byte i6)), (.int (nar .byte i6)), (.int (nar .byte i6)), (.int (nar .byte i6))] h11 n0 Ab1_11 g1 rfl (by decide) hm90_121 (own_ge1 i4 hpos hm90_124) (own_lt2 i4 hpos hm90_128) Z11) hZ (hw _ (List.mem_of_getElem? (i := 5) rfl)) (hw _ (List.mem_of_getElem? (i := 4) rfl)) (by decide) (by decide)) (g := (mkF m 96 #[.val (.int i0), .val (.int i1), .val (.int i2), .val (.int i3), .val (.int i4), .val (.int (1 : Int32)), .val (.int i6), .val (.ref b1), .unset, .unset, .unset] [(.int (1 : Int32)), (.ref b1), (.int i4)])) rfl (by rw [hml]; rfl) (argsL := [(.int i4), (.ref b1), (.int (1 : Int32))]) (rest := []) (lenOf pd1 rfl) rfl (by show 2 * 0 + _ ≤ _; exact Nat.le_of_eq rfl) (hb hby at_96) (fun _ _ => ⟨rfl, e11, (by decide : 1 + 0 ≤ _), (by decide : 10 + 0 ≤ _)⟩)
          dsimp only [Pt.U, Pt.locs, Pt.cells, Pt.slots] at X129 l129 y129 z129 st129 hQ129
          subst l129 y129 z129
          obtain ⟨rfl, Nq129, Aw129, Z129⟩ := hQ129
          have N129 := Fr.app N11 Nq129
          have Ab1_129 : own_A Z T129.heap b1 .byte [(.int (nar .byte i6)), (.int (nar .byte ((i4 ||| (128 : Int32)).toInt8.toInt32))), (.int (nar .byte ((((i4.toUInt32 >>> ((7 : Int32) &&& 31).toUInt32).toInt32) ||| (128 : Int32)).toInt8.toInt32))), (.int (nar .byte (((((i4.toUInt32 >>> ((7 : Int32) &&& 31).toUInt32).toInt32).toUInt32 >>> ((7 : Int32) &&& 31).toUInt32).toInt32).toInt8.toInt32))), (.int (nar .byte i6)), (.int (nar .byte i6)), (.int (nar .byte i6)), (.int (nar .byte i6)), (.int (nar .byte i6)), (.int (nar .byte i6))] := Aw129
          refine own_step (T' := T129) (f' := (mkF m 99 #[.val (.int i0), .val (.int i1), .val (.int i2), .val (.int i3), .val (.int i4), .val (.int (1 : Int32)), .val (.int i6), .val (.ref b1), .unset, .unset, .unset] [(.int (f1n3_0 i4 (1 : Int32)))])) st129 ?_
          refine own_step (T' := T129) (f' := (mkF m 106 #[.val (.int i0), .val (.int i1), .val (.int i2), .val (.int i3), .val (.int i4), .val (.int (1 : Int32)), .val (.int i6), .val (.ref b1), .val (.int (f1n3_0 i4 (1 : Int32))), .unset, .unset] [(.int (128 : Int32)), (.int i4)])) (fun t kt => ?_) ?_
          · show Steps p.tables e below (T129.setTop (mkF m 99 #[.val (.int i0), .val (.int i1), .val (.int i2), .val (.int i3), .val (.int i4), .val (.int (1 : Int32)), .val (.int i6), .val (.ref b1), .unset, .unset, .unset] [(.int (f1n3_0 i4 (1 : Int32)))])) _
            refine XS.istore X129.here hx rfl (hb hby at_99) rfl (l' := #[.val (.int i0), .val (.int i1), .val (.int i2), .val (.int i3), .val (.int i4), .val (.int (1 : Int32)), .val (.int i6), .val (.ref b1), .val (.int (f1n3_0 i4 (1 : Int32))), .unset, .unset]) rfl ?_
            show Steps p.tables e below (T129.setTop (mkF m 101 #[.val (.int i0), .val (.int i1), .val (.int i2), .val (.int i3), .val (.int i4), .val (.int (1 : Int32)), .val (.int i6), .val (.ref b1), .val (.int (f1n3_0 i4 (1 : Int32))), .unset, .unset] [])) _
            refine XS.iload X129.here hx rfl (hb hby at_101) rfl ?_
            show Steps p.tables e below (T129.setTop (mkF m 103 #[.val (.int i0), .val (.int i1), .val (.int i2), .val (.int i3), .val (.int i4), .val (.int (1 : Int32)), .val (.int i6), .val (.ref b1), .val (.int (f1n3_0 i4 (1 : Int32))), .unset, .unset] [(.int i4)])) _
            refine XS.sipush X129.here hx rfl (hb hby at_103) ?_
            exact kt
          refine own_step (T' := T129) (f' := (mkF m 115 #[.val (.int i0), .val (.int i1), .val (.int i2), .val (.int i3), .val (.int i4), .val (.int (1 : Int32)), .val (.int i6), .val (.ref b1), .val (.int (f1n3_0 i4 (1 : Int32))), .unset, .unset] [])) (fun t kt => ?_) ?_
          · show Steps p.tables e below (T129.setTop (mkF m 106 #[.val (.int i0), .val (.int i1), .val (.int i2), .val (.int i3), .val (.int i4), .val (.int (1 : Int32)), .val (.int i6), .val (.ref b1), .val (.int (f1n3_0 i4 (1 : Int32))), .unset, .unset] [(.int (128 : Int32)), (.int i4)])) _
            refine XS.icmpYes X129.here hx rfl (pc0 := 106) (pc' := 115) rfl (hb hby at_106) rfl (flt hm90_121).2.1 (by decide) (by decide) kt
          refine own_step (T' := T129) (f' := (mkF m 120 #[.val (.int i0), .val (.int i1), .val (.int i2), .val (.int i3), .val (.int i4), .val (.int (1 : Int32)), .val (.int i6), .val (.ref b1), .val (.int (f1n3_0 i4 (1 : Int32))), .unset, .unset] [(.int (16384 : Int32)), (.int i4)])) (fun t kt => ?_) ?_
          · show Steps p.tables e below (T129.setTop (mkF m 115 #[.val (.int i0), .val (.int i1), .val (.int i2), .val (.int i3), .val (.int i4), .val (.int (1 : Int32)), .val (.int i6), .val (.ref b1), .val (.int (f1n3_0 i4 (1 : Int32))), .unset, .unset] [])) _
            refine XS.iload X129.here hx rfl (hb hby at_115) rfl ?_
            show Steps p.tables e below (T129.setTop (mkF m 117 #[.val (.int i0), .val (.int i1), .val (.int i2), .val (.int i3), .val (.int i4), .val (.int (1 : Int32)), .val (.int i6), .val (.ref b1), .val (.int (f1n3_0 i4 (1 : Int32))), .unset, .unset] [(.int i4)])) _
            refine XS.sipush X129.here hx rfl (hb hby at_117) ?_
            exact kt
          refine own_step (T' := T129) (f' := (mkF m 129 #[.val (.int i0), .val (.int i1), .val (.int i2), .val (.int i3), .val (.int i4), .val (.int (1 : Int32)), .val (.int i6), .val (.ref b1), .val (.int (f1n3_0 i4 (1 : Int32))), .unset, .unset] [])) (fun t kt => ?_) ?_
          · show Steps p.tables e below (T129.setTop (mkF m 120 #[.val (.int i0), .val (.int i1), .val (.int i2), .val (.int i3), .val (.int i4), .val (.int (1 : Int32)), .val (.int i6), .val (.ref b1), .val (.int (f1n3_0 i4 (1 : Int32))), .unset, .unset] [(.int (16384 : Int32)), (.int i4)])) _
            refine XS.icmpYes X129.here hx rfl (pc0 := 120) (pc' := 129) rfl (hb hby at_120) rfl (flt hm90_124).2.1 (by decide) (by decide) kt
          refine own_step (T' := T129) (f' := (mkF m 133 #[.val (.int i0), .val (.int i1), .val (.int i2), .val (.int i3), .val (.int i4), .val (.int (1 : Int32)), .val (.int i6), .val (.ref b1), .val (.int (f1n3_0 i4 (1 : Int32))), .unset, .unset] [(.int (2097152 : Int32)), (.int i4)])) (fun t kt => ?_) ?_
          · show Steps p.tables e below (T129.setTop (mkF m 129 #[.val (.int i0), .val (.int i1), .val (.int i2), .val (.int i3), .val (.int i4), .val (.int (1 : Int32)), .val (.int i6), .val (.ref b1), .val (.int (f1n3_0 i4 (1 : Int32))), .unset, .unset] [])) _
            refine XS.iload X129.here hx rfl (hb hby at_129) rfl ?_
            show Steps p.tables e below (T129.setTop (mkF m 131 #[.val (.int i0), .val (.int i1), .val (.int i2), .val (.int i3), .val (.int i4), .val (.int (1 : Int32)), .val (.int i6), .val (.ref b1), .val (.int (f1n3_0 i4 (1 : Int32))), .unset, .unset] [(.int i4)])) _
            refine X129.ldcInt hx hown (mvT hZ (hw _ (List.mem_of_getElem? (i := 10) rfl))) (g := (mkF m 131 #[.val (.int i0), .val (.int i1), .val (.int i2), .val (.int i3), .val (.int i4), .val (.int (1 : Int32)), .val (.int i6), .val (.ref b1), .val (.int (f1n3_0 i4 (1 : Int32))), .unset, .unset] [(.int i4)])) rfl (hb hby at_131) _ ?_
            exact kt
          refine own_step (T' := T129) (f' := (mkF m 136 #[.val (.int i0), .val (.int i1), .val (.int i2), .val (.int i3), .val (.int i4), .val (.int (1 : Int32)), .val (.int i6), .val (.ref b1), .val (.int (f1n3_0 i4 (1 : Int32))), .unset, .unset] [])) (fun t kt => ?_) ?_
          · show Steps p.tables e below (T129.setTop (mkF m 133 #[.val (.int i0), .val (.int i1), .val (.int i2), .val (.int i3), .val (.int i4), .val (.int (1 : Int32)), .val (.int i6), .val (.ref b1), .val (.int (f1n3_0 i4 (1 : Int32))), .unset, .unset] [(.int (2097152 : Int32)), (.int i4)])) _
            refine XS.icmpNo X129.here hx rfl (hb hby at_133) rfl (tlt hm90_128).2.1 kt
          refine own_step (T' := T129) (f' := (mkF m 158 #[.val (.int i0), .val (.int i1), .val (.int i2), .val (.int i3), .val (.int i4), .val (.int (1 : Int32)), .val (.int i6), .val (.ref b1), .val (.int (f1n3_0 i4 (1 : Int32))), .val (.int (3 : Int32)), .unset] [])) (fun t kt => ?_) ?_
          · show Steps p.tables e below (T129.setTop (mkF m 136 #[.val (.int i0), .val (.int i1), .val (.int i2), .val (.int i3), .val (.int i4), .val (.int (1 : Int32)), .val (.int i6), .val (.ref b1), .val (.int (f1n3_0 i4 (1 : Int32))), .unset, .unset] [])) _
            refine XS.iconst X129.here hx rfl (hb hby at_136) ?_
            show Steps p.tables e below (T129.setTop (mkF m 137 #[.val (.int i0), .val (.int i1), .val (.int i2), .val (.int i3), .val (.int i4), .val (.int (1 : Int32)), .val (.int i6), .val (.ref b1), .val (.int (f1n3_0 i4 (1 : Int32))), .unset, .unset] [(.int (3 : Int32))])) _
            refine XS.istore X129.here hx rfl (hb hby at_137) rfl (l' := #[.val (.int i0), .val (.int i1), .val (.int i2), .val (.int i3), .val (.int i4), .val (.int (1 : Int32)), .val (.int i6), .val (.ref b1), .val (.int (f1n3_0 i4 (1 : Int32))), .val (.int (3 : Int32)), .unset]) rfl ?_
            show Steps p.tables e below (T129.setTop (mkF m 139 #[.val (.int i0), .val (.int i1), .val (.int i2), .val (.int i3), .val (.int i4), .val (.int (1 : Int32)), .val (.int i6), .val (.ref b1), .val (.int (f1n3_0 i4 (1 : Int32))), .val (.int (3 : Int32)), .unset] [])) _
            refine XS.goto X129.here hx rfl (pc0 := 139) (pc' := 158) rfl (hb hby at_139) (by decide) (by decide) ?_
            exact kt
          exact b0_158 i0 i1 i2 i3 i4 (1 : Int32) i6 b1 (f1n3_0 i4 (1 : Int32)) (3 : Int32) (nar .byte i6) (nar .byte ((i4 ||| (128 : Int32)).toInt8.toInt32)) (nar .byte ((((i4.toUInt32 >>> ((7 : Int32) &&& 31).toUInt32).toInt32) ||| (128 : Int32)).toInt8.toInt32)) (nar .byte (((((i4.toUInt32 >>> ((7 : Int32) &&& 31).toUInt32).toInt32).toUInt32 >>> ((7 : Int32) &&& 31).toUInt32).toInt32).toInt8.toInt32)) (nar .byte i6) (nar .byte i6) (nar .byte i6) (nar .byte i6) (nar .byte i6) (nar .byte i6) X129 hx hZ hw hby hml hown hret hlk rfl N129 Ab1_129 g1 Z129 hr
        · replace hr := hr.trans (if_neg hm90_128)
          by_cases hm90_133 : i4 < (268435456 : Int32)
          · replace hr := hr.trans (if_pos hm90_133)
            refine own_step (T' := T11) (f' := (mkF m 96 #[.val (.int i0), .val (.int i1), .val (.int i2), .val (.int i3), .val (.int i4), .val (.int (1 : Int32)), .val (.int i6), .val (.ref b1), .unset, .unset, .unset] [(.int (1 : Int32)), (.ref b1), (.int i4)])) (fun t kt => ?_) ?_
            · show Steps p.tables e below (T11.setTop (mkF m 90 #[.val (.int i0), .val (.int i1), .val (.int i2), .val (.int i3), .val (.int i4), .val (.int (1 : Int32)), .val (.int i6), .val (.ref b1), .unset, .unset, .unset] [])) _
              refine XS.iload X11.here hx rfl (hb hby at_90) rfl ?_
              show Steps p.tables e below (T11.setTop (mkF m 92 #[.val (.int i0), .val (.int i1), .val (.int i2), .val (.int i3), .val (.int i4), .val (.int (1 : Int32)), .val (.int i6), .val (.ref b1), .unset, .unset, .unset] [(.int i4)])) _
              refine XS.aload X11.here hx rfl (hb hby at_92) rfl rfl ?_
              show Steps p.tables e below (T11.setTop (mkF m 94 #[.val (.int i0), .val (.int i1), .val (.int i2), .val (.int i3), .val (.int i4), .val (.int (1 : Int32)), .val (.int i6), .val (.ref b1), .unset, .unset, .unset] [(.ref b1), (.int i4)])) _
              refine XS.iload X11.here hx rfl (hb hby at_94) rfl ?_
              exact kt
            obtain ⟨_, _, ⟨T134, L134, k134, n134⟩, -, X134, ⟨Lc134, hQ134, l134, y134, z134⟩, st134⟩ := Jvm.LawKit.callS X11 hx (y := (⟨"hotstate/sort/VarInts", "write", "(I[BI)I"⟩ : MethodName)) hown (mvT hZ (hw _ (List.mem_of_getElem? (i := 2) rfl))) (mvT hZ (hw _ (List.mem_of_getElem? (i := 3) rfl))) (mvT hZ (hw _ (List.mem_of_getElem? (i := 4) rfl))) (mvT hZ (hw _ (List.mem_of_getElem? (i := 5) rfl))) (by decide) (backOf (W := 0) (rm1n4 l Z a0 hw [] i4 b1 (1 : Int32) [(.int (nar .byte i6)), (.int (nar .byte i6)), (.int (nar .byte i6)), (.int (nar .byte i6)), (.int (nar .byte i6)), (.int (nar .byte i6)), (.int (nar .byte i6)), (.int (nar .byte i6)), (.int (nar .byte i6)), (.int (nar .byte i6))] h11 n0 Ab1_11 g1 rfl (by decide) hm90_121 (own_ge1 i4 hpos hm90_124) (own_ge2 i4 hpos hm90_128) (own_lt3 i4 hpos hm90_133) Z11) hZ (hw _ (List.mem_of_getElem? (i := 5) rfl)) (hw _ (List.mem_of_getElem? (i := 4) rfl)) (by decide) (by decide)) (g := (mkF m 96 #[.val (.int i0), .val (.int i1), .val (.int i2), .val (.int i3), .val (.int i4), .val (.int (1 : Int32)), .val (.int i6), .val (.ref b1), .unset, .unset, .unset] [(.int (1 : Int32)), (.ref b1), (.int i4)])) rfl (by rw [hml]; rfl) (argsL := [(.int i4), (.ref b1), (.int (1 : Int32))]) (rest := []) (lenOf pd1 rfl) rfl (by show 2 * 0 + _ ≤ _; exact Nat.le_of_eq rfl) (hb hby at_96) (fun _ _ => ⟨rfl, e11, (by decide : 1 + 0 ≤ _), (by decide : 10 + 0 ≤ _)⟩)
            dsimp only [Pt.U, Pt.locs, Pt.cells, Pt.slots] at X134 l134 y134 z134 st134 hQ134
            subst l134 y134 z134
            obtain ⟨rfl, Nq134, Aw134, Z134⟩ := hQ134
            have N134 := Fr.app N11 Nq134
            have Ab1_134 : own_A Z T134.heap b1 .byte [(.int (nar .byte i6)), (.int (nar .byte ((i4 ||| (128 : Int32)).toInt8.toInt32))), (.int (nar .byte ((((i4.toUInt32 >>> ((7 : Int32) &&& 31).toUInt32).toInt32) ||| (128 : Int32)).toInt8.toInt32))), (.int (nar .byte ((((((i4.toUInt32 >>> ((7 : Int32) &&& 31).toUInt32).toInt32).toUInt32 >>> ((7 : Int32) &&& 31).toUInt32).toInt32) ||| (128 : Int32)).toInt8.toInt32))), (.int (nar .byte (((((((i4.toUInt32 >>> ((7 : Int32) &&& 31).toUInt32).toInt32).toUInt32 >>> ((7 : Int32) &&& 31).toUInt32).toInt32).toUInt32 >>> ((7 : Int32) &&& 31).toUInt32).toInt32).toInt8.toInt32))), (.int (nar .byte i6)), (.int (nar .byte i6)), (.int (nar .byte i6)), (.int (nar .byte i6)), (.int (nar .byte i6))] := Aw134
            refine own_step (T' := T134) (f' := (mkF m 99 #[.val (.int i0), .val (.int i1), .val (.int i2), .val (.int i3), .val (.int i4), .val (.int (1 : Int32)), .val (.int i6), .val (.ref b1), .unset, .unset, .unset] [(.int (f1n4_0 i4 (1 : Int32)))])) st134 ?_
            refine own_step (T' := T134) (f' := (mkF m 106 #[.val (.int i0), .val (.int i1), .val (.int i2), .val (.int i3), .val (.int i4), .val (.int (1 : Int32)), .val (.int i6), .val (.ref b1), .val (.int (f1n4_0 i4 (1 : Int32))), .unset, .unset] [(.int (128 : Int32)), (.int i4)])) (fun t kt => ?_) ?_
            · show Steps p.tables e below (T134.setTop (mkF m 99 #[.val (.int i0), .val (.int i1), .val (.int i2), .val (.int i3), .val (.int i4), .val (.int (1 : Int32)), .val (.int i6), .val (.ref b1), .unset, .unset, .unset] [(.int (f1n4_0 i4 (1 : Int32)))])) _
              refine XS.istore X134.here hx rfl (hb hby at_99) rfl (l' := #[.val (.int i0), .val (.int i1), .val (.int i2), .val (.int i3), .val (.int i4), .val (.int (1 : Int32)), .val (.int i6), .val (.ref b1), .val (.int (f1n4_0 i4 (1 : Int32))), .unset, .unset]) rfl ?_
              show Steps p.tables e below (T134.setTop (mkF m 101 #[.val (.int i0), .val (.int i1), .val (.int i2), .val (.int i3), .val (.int i4), .val (.int (1 : Int32)), .val (.int i6), .val (.ref b1), .val (.int (f1n4_0 i4 (1 : Int32))), .unset, .unset] [])) _
              refine XS.iload X134.here hx rfl (hb hby at_101) rfl ?_
              show Steps p.tables e below (T134.setTop (mkF m 103 #[.val (.int i0), .val (.int i1), .val (.int i2), .val (.int i3), .val (.int i4), .val (.int (1 : Int32)), .val (.int i6), .val (.ref b1), .val (.int (f1n4_0 i4 (1 : Int32))), .unset, .unset] [(.int i4)])) _
              refine XS.sipush X134.here hx rfl (hb hby at_103) ?_
              exact kt
            refine own_step (T' := T134) (f' := (mkF m 115 #[.val (.int i0), .val (.int i1), .val (.int i2), .val (.int i3), .val (.int i4), .val (.int (1 : Int32)), .val (.int i6), .val (.ref b1), .val (.int (f1n4_0 i4 (1 : Int32))), .unset, .unset] [])) (fun t kt => ?_) ?_
            · show Steps p.tables e below (T134.setTop (mkF m 106 #[.val (.int i0), .val (.int i1), .val (.int i2), .val (.int i3), .val (.int i4), .val (.int (1 : Int32)), .val (.int i6), .val (.ref b1), .val (.int (f1n4_0 i4 (1 : Int32))), .unset, .unset] [(.int (128 : Int32)), (.int i4)])) _
              refine XS.icmpYes X134.here hx rfl (pc0 := 106) (pc' := 115) rfl (hb hby at_106) rfl (flt hm90_121).2.1 (by decide) (by decide) kt
            refine own_step (T' := T134) (f' := (mkF m 120 #[.val (.int i0), .val (.int i1), .val (.int i2), .val (.int i3), .val (.int i4), .val (.int (1 : Int32)), .val (.int i6), .val (.ref b1), .val (.int (f1n4_0 i4 (1 : Int32))), .unset, .unset] [(.int (16384 : Int32)), (.int i4)])) (fun t kt => ?_) ?_
            · show Steps p.tables e below (T134.setTop (mkF m 115 #[.val (.int i0), .val (.int i1), .val (.int i2), .val (.int i3), .val (.int i4), .val (.int (1 : Int32)), .val (.int i6), .val (.ref b1), .val (.int (f1n4_0 i4 (1 : Int32))), .unset, .unset] [])) _
              refine XS.iload X134.here hx rfl (hb hby at_115) rfl ?_
              show Steps p.tables e below (T134.setTop (mkF m 117 #[.val (.int i0), .val (.int i1), .val (.int i2), .val (.int i3), .val (.int i4), .val (.int (1 : Int32)), .val (.int i6), .val (.ref b1), .val (.int (f1n4_0 i4 (1 : Int32))), .unset, .unset] [(.int i4)])) _
              refine XS.sipush X134.here hx rfl (hb hby at_117) ?_
              exact kt
            refine own_step (T' := T134) (f' := (mkF m 129 #[.val (.int i0), .val (.int i1), .val (.int i2), .val (.int i3), .val (.int i4), .val (.int (1 : Int32)), .val (.int i6), .val (.ref b1), .val (.int (f1n4_0 i4 (1 : Int32))), .unset, .unset] [])) (fun t kt => ?_) ?_
            · show Steps p.tables e below (T134.setTop (mkF m 120 #[.val (.int i0), .val (.int i1), .val (.int i2), .val (.int i3), .val (.int i4), .val (.int (1 : Int32)), .val (.int i6), .val (.ref b1), .val (.int (f1n4_0 i4 (1 : Int32))), .unset, .unset] [(.int (16384 : Int32)), (.int i4)])) _
              refine XS.icmpYes X134.here hx rfl (pc0 := 120) (pc' := 129) rfl (hb hby at_120) rfl (flt hm90_124).2.1 (by decide) (by decide) kt
            refine own_step (T' := T134) (f' := (mkF m 133 #[.val (.int i0), .val (.int i1), .val (.int i2), .val (.int i3), .val (.int i4), .val (.int (1 : Int32)), .val (.int i6), .val (.ref b1), .val (.int (f1n4_0 i4 (1 : Int32))), .unset, .unset] [(.int (2097152 : Int32)), (.int i4)])) (fun t kt => ?_) ?_
            · show Steps p.tables e below (T134.setTop (mkF m 129 #[.val (.int i0), .val (.int i1), .val (.int i2), .val (.int i3), .val (.int i4), .val (.int (1 : Int32)), .val (.int i6), .val (.ref b1), .val (.int (f1n4_0 i4 (1 : Int32))), .unset, .unset] [])) _
              refine XS.iload X134.here hx rfl (hb hby at_129) rfl ?_
              show Steps p.tables e below (T134.setTop (mkF m 131 #[.val (.int i0), .val (.int i1), .val (.int i2), .val (.int i3), .val (.int i4), .val (.int (1 : Int32)), .val (.int i6), .val (.ref b1), .val (.int (f1n4_0 i4 (1 : Int32))), .unset, .unset] [(.int i4)])) _
              refine X134.ldcInt hx hown (mvT hZ (hw _ (List.mem_of_getElem? (i := 10) rfl))) (g := (mkF m 131 #[.val (.int i0), .val (.int i1), .val (.int i2), .val (.int i3), .val (.int i4), .val (.int (1 : Int32)), .val (.int i6), .val (.ref b1), .val (.int (f1n4_0 i4 (1 : Int32))), .unset, .unset] [(.int i4)])) rfl (hb hby at_131) _ ?_
              exact kt
            refine own_step (T' := T134) (f' := (mkF m 142 #[.val (.int i0), .val (.int i1), .val (.int i2), .val (.int i3), .val (.int i4), .val (.int (1 : Int32)), .val (.int i6), .val (.ref b1), .val (.int (f1n4_0 i4 (1 : Int32))), .unset, .unset] [])) (fun t kt => ?_) ?_
            · show Steps p.tables e below (T134.setTop (mkF m 133 #[.val (.int i0), .val (.int i1), .val (.int i2), .val (.int i3), .val (.int i4), .val (.int (1 : Int32)), .val (.int i6), .val (.ref b1), .val (.int (f1n4_0 i4 (1 : Int32))), .unset, .unset] [(.int (2097152 : Int32)), (.int i4)])) _
              refine XS.icmpYes X134.here hx rfl (pc0 := 133) (pc' := 142) rfl (hb hby at_133) rfl (flt hm90_128).2.1 (by decide) (by decide) kt
            refine own_step (T' := T134) (f' := (mkF m 146 #[.val (.int i0), .val (.int i1), .val (.int i2), .val (.int i3), .val (.int i4), .val (.int (1 : Int32)), .val (.int i6), .val (.ref b1), .val (.int (f1n4_0 i4 (1 : Int32))), .unset, .unset] [(.int (268435456 : Int32)), (.int i4)])) (fun t kt => ?_) ?_
            · show Steps p.tables e below (T134.setTop (mkF m 142 #[.val (.int i0), .val (.int i1), .val (.int i2), .val (.int i3), .val (.int i4), .val (.int (1 : Int32)), .val (.int i6), .val (.ref b1), .val (.int (f1n4_0 i4 (1 : Int32))), .unset, .unset] [])) _
              refine XS.iload X134.here hx rfl (hb hby at_142) rfl ?_
              show Steps p.tables e below (T134.setTop (mkF m 144 #[.val (.int i0), .val (.int i1), .val (.int i2), .val (.int i3), .val (.int i4), .val (.int (1 : Int32)), .val (.int i6), .val (.ref b1), .val (.int (f1n4_0 i4 (1 : Int32))), .unset, .unset] [(.int i4)])) _
              refine X134.ldcInt hx hown (mvT hZ (hw _ (List.mem_of_getElem? (i := 11) rfl))) (g := (mkF m 144 #[.val (.int i0), .val (.int i1), .val (.int i2), .val (.int i3), .val (.int i4), .val (.int (1 : Int32)), .val (.int i6), .val (.ref b1), .val (.int (f1n4_0 i4 (1 : Int32))), .unset, .unset] [(.int i4)])) rfl (hb hby at_144) _ ?_
              exact kt
            refine own_step (T' := T134) (f' := (mkF m 149 #[.val (.int i0), .val (.int i1), .val (.int i2), .val (.int i3), .val (.int i4), .val (.int (1 : Int32)), .val (.int i6), .val (.ref b1), .val (.int (f1n4_0 i4 (1 : Int32))), .unset, .unset] [])) (fun t kt => ?_) ?_
            · show Steps p.tables e below (T134.setTop (mkF m 146 #[.val (.int i0), .val (.int i1), .val (.int i2), .val (.int i3), .val (.int i4), .val (.int (1 : Int32)), .val (.int i6), .val (.ref b1), .val (.int (f1n4_0 i4 (1 : Int32))), .unset, .unset] [(.int (268435456 : Int32)), (.int i4)])) _
              refine XS.icmpNo X134.here hx rfl (hb hby at_146) rfl (tlt hm90_133).2.1 kt
            refine own_step (T' := T134) (f' := (mkF m 158 #[.val (.int i0), .val (.int i1), .val (.int i2), .val (.int i3), .val (.int i4), .val (.int (1 : Int32)), .val (.int i6), .val (.ref b1), .val (.int (f1n4_0 i4 (1 : Int32))), .val (.int (4 : Int32)), .unset] [])) (fun t kt => ?_) ?_
            · show Steps p.tables e below (T134.setTop (mkF m 149 #[.val (.int i0), .val (.int i1), .val (.int i2), .val (.int i3), .val (.int i4), .val (.int (1 : Int32)), .val (.int i6), .val (.ref b1), .val (.int (f1n4_0 i4 (1 : Int32))), .unset, .unset] [])) _
              refine XS.iconst X134.here hx rfl (hb hby at_149) ?_
              show Steps p.tables e below (T134.setTop (mkF m 150 #[.val (.int i0), .val (.int i1), .val (.int i2), .val (.int i3), .val (.int i4), .val (.int (1 : Int32)), .val (.int i6), .val (.ref b1), .val (.int (f1n4_0 i4 (1 : Int32))), .unset, .unset] [(.int (4 : Int32))])) _
              refine XS.istore X134.here hx rfl (hb hby at_150) rfl (l' := #[.val (.int i0), .val (.int i1), .val (.int i2), .val (.int i3), .val (.int i4), .val (.int (1 : Int32)), .val (.int i6), .val (.ref b1), .val (.int (f1n4_0 i4 (1 : Int32))), .val (.int (4 : Int32)), .unset]) rfl ?_
              show Steps p.tables e below (T134.setTop (mkF m 152 #[.val (.int i0), .val (.int i1), .val (.int i2), .val (.int i3), .val (.int i4), .val (.int (1 : Int32)), .val (.int i6), .val (.ref b1), .val (.int (f1n4_0 i4 (1 : Int32))), .val (.int (4 : Int32)), .unset] [])) _
              refine XS.goto X134.here hx rfl (pc0 := 152) (pc' := 158) rfl (hb hby at_152) (by decide) (by decide) ?_
              exact kt
            exact b0_158 i0 i1 i2 i3 i4 (1 : Int32) i6 b1 (f1n4_0 i4 (1 : Int32)) (4 : Int32) (nar .byte i6) (nar .byte ((i4 ||| (128 : Int32)).toInt8.toInt32)) (nar .byte ((((i4.toUInt32 >>> ((7 : Int32) &&& 31).toUInt32).toInt32) ||| (128 : Int32)).toInt8.toInt32)) (nar .byte ((((((i4.toUInt32 >>> ((7 : Int32) &&& 31).toUInt32).toInt32).toUInt32 >>> ((7 : Int32) &&& 31).toUInt32).toInt32) ||| (128 : Int32)).toInt8.toInt32)) (nar .byte (((((((i4.toUInt32 >>> ((7 : Int32) &&& 31).toUInt32).toInt32).toUInt32 >>> ((7 : Int32) &&& 31).toUInt32).toInt32).toUInt32 >>> ((7 : Int32) &&& 31).toUInt32).toInt32).toInt8.toInt32)) (nar .byte i6) (nar .byte i6) (nar .byte i6) (nar .byte i6) (nar .byte i6) X134 hx hZ hw hby hml hown hret hlk rfl N134 Ab1_134 g1 Z134 hr
          · replace hr := hr.trans (if_neg hm90_133)
            refine own_step (T' := T11) (f' := (mkF m 96 #[.val (.int i0), .val (.int i1), .val (.int i2), .val (.int i3), .val (.int i4), .val (.int (1 : Int32)), .val (.int i6), .val (.ref b1), .unset, .unset, .unset] [(.int (1 : Int32)), (.ref b1), (.int i4)])) (fun t kt => ?_) ?_
            · show Steps p.tables e below (T11.setTop (mkF m 90 #[.val (.int i0), .val (.int i1), .val (.int i2), .val (.int i3), .val (.int i4), .val (.int (1 : Int32)), .val (.int i6), .val (.ref b1), .unset, .unset, .unset] [])) _
              refine XS.iload X11.here hx rfl (hb hby at_90) rfl ?_
              show Steps p.tables e below (T11.setTop (mkF m 92 #[.val (.int i0), .val (.int i1), .val (.int i2), .val (.int i3), .val (.int i4), .val (.int (1 : Int32)), .val (.int i6), .val (.ref b1), .unset, .unset, .unset] [(.int i4)])) _
              refine XS.aload X11.here hx rfl (hb hby at_92) rfl rfl ?_
              show Steps p.tables e below (T11.setTop (mkF m 94 #[.val (.int i0), .val (.int i1), .val (.int i2), .val (.int i3), .val (.int i4), .val (.int (1 : Int32)), .val (.int i6), .val (.ref b1), .unset, .unset, .unset] [(.ref b1), (.int i4)])) _
              refine XS.iload X11.here hx rfl (hb hby at_94) rfl ?_
              exact kt
            obtain ⟨_, _, ⟨T139, L139, k139, n139⟩, -, X139, ⟨Lc139, hQ139, l139, y139, z139⟩, st139⟩ := Jvm.LawKit.callS X11 hx (y := (⟨"hotstate/sort/VarInts", "write", "(I[BI)I"⟩ : MethodName)) hown (mvT hZ (hw _ (List.mem_of_getElem? (i := 2) rfl))) (mvT hZ (hw _ (List.mem_of_getElem? (i := 3) rfl))) (mvT hZ (hw _ (List.mem_of_getElem? (i := 4) rfl))) (mvT hZ (hw _ (List.mem_of_getElem? (i := 5) rfl))) (by decide) (backOf (W := 0) (rm1n5 l Z a0 hw [] i4 b1 (1 : Int32) [(.int (nar .byte i6)), (.int (nar .byte i6)), (.int (nar .byte i6)), (.int (nar .byte i6)), (.int (nar .byte i6)), (.int (nar .byte i6)), (.int (nar .byte i6)), (.int (nar .byte i6)), (.int (nar .byte i6)), (.int (nar .byte i6))] h11 n0 Ab1_11 g1 rfl (by decide) hm90_121 (own_ge1 i4 hpos hm90_124) (own_ge2 i4 hpos hm90_128) (own_ge3 i4 hpos hm90_133) (own_lt4 i4 hpos) Z11) hZ (hw _ (List.mem_of_getElem? (i := 5) rfl)) (hw _ (List.mem_of_getElem? (i := 4) rfl)) (by decide) (by decide)) (g := (mkF m 96 #[.val (.int i0), .val (.int i1), .val (.int i2), .val (.int i3), .val (.int i4), .val (.int (1 : Int32)), .val (.int i6), .val (.ref b1), .unset, .unset, .unset] [(.int (1 : Int32)), (.ref b1), (.int i4)])) rfl (by rw [hml]; rfl) (argsL := [(.int i4), (.ref b1), (.int (1 : Int32))]) (rest := []) (lenOf pd1 rfl) rfl (by show 2 * 0 + _ ≤ _; exact Nat.le_of_eq rfl) (hb hby at_96) (fun _ _ => ⟨rfl, e11, (by decide : 1 + 0 ≤ _), (by decide : 10 + 0 ≤ _)⟩)
            dsimp only [Pt.U, Pt.locs, Pt.cells, Pt.slots] at X139 l139 y139 z139 st139 hQ139
            subst l139 y139 z139
            obtain ⟨rfl, Nq139, Aw139, Z139⟩ := hQ139
            have N139 := Fr.app N11 Nq139
            have Ab1_139 : own_A Z T139.heap b1 .byte [(.int (nar .byte i6)), (.int (nar .byte ((i4 ||| (128 : Int32)).toInt8.toInt32))), (.int (nar .byte ((((i4.toUInt32 >>> ((7 : Int32) &&& 31).toUInt32).toInt32) ||| (128 : Int32)).toInt8.toInt32))), (.int (nar .byte ((((((i4.toUInt32 >>> ((7 : Int32) &&& 31).toUInt32).toInt32).toUInt32 >>> ((7 : Int32) &&& 31).toUInt32).toInt32) ||| (128 : Int32)).toInt8.toInt32))), (.int (nar .byte ((((((((i4.toUInt32 >>> ((7 : Int32) &&& 31).toUInt32).toInt32).toUInt32 >>> ((7 : Int32) &&& 31).toUInt32).toInt32).toUInt32 >>> ((7 : Int32) &&& 31).toUInt32).toInt32) ||| (128 : Int32)).toInt8.toInt32))), (.int (nar .byte (((((((((i4.toUInt32 >>> ((7 : Int32) &&& 31).toUInt32).toInt32).toUInt32 >>> ((7 : Int32) &&& 31).toUInt32).toInt32).toUInt32 >>> ((7 : Int32) &&& 31).toUInt32).toInt32).toUInt32 >>> ((7 : Int32) &&& 31).toUInt32).toInt32).toInt8.toInt32))), (.int (nar .byte i6)), (.int (nar .byte i6)), (.int (nar .byte i6)), (.int (nar .byte i6))] := Aw139
            refine own_step (T' := T139) (f' := (mkF m 99 #[.val (.int i0), .val (.int i1), .val (.int i2), .val (.int i3), .val (.int i4), .val (.int (1 : Int32)), .val (.int i6), .val (.ref b1), .unset, .unset, .unset] [(.int (f1n5_0 i4 (1 : Int32)))])) st139 ?_
            refine own_step (T' := T139) (f' := (mkF m 106 #[.val (.int i0), .val (.int i1), .val (.int i2), .val (.int i3), .val (.int i4), .val (.int (1 : Int32)), .val (.int i6), .val (.ref b1), .val (.int (f1n5_0 i4 (1 : Int32))), .unset, .unset] [(.int (128 : Int32)), (.int i4)])) (fun t kt => ?_) ?_
            · show Steps p.tables e below (T139.setTop (mkF m 99 #[.val (.int i0), .val (.int i1), .val (.int i2), .val (.int i3), .val (.int i4), .val (.int (1 : Int32)), .val (.int i6), .val (.ref b1), .unset, .unset, .unset] [(.int (f1n5_0 i4 (1 : Int32)))])) _
              refine XS.istore X139.here hx rfl (hb hby at_99) rfl (l' := #[.val (.int i0), .val (.int i1), .val (.int i2), .val (.int i3), .val (.int i4), .val (.int (1 : Int32)), .val (.int i6), .val (.ref b1), .val (.int (f1n5_0 i4 (1 : Int32))), .unset, .unset]) rfl ?_
              show Steps p.tables e below (T139.setTop (mkF m 101 #[.val (.int i0), .val (.int i1), .val (.int i2), .val (.int i3), .val (.int i4), .val (.int (1 : Int32)), .val (.int i6), .val (.ref b1), .val (.int (f1n5_0 i4 (1 : Int32))), .unset, .unset] [])) _
              refine XS.iload X139.here hx rfl (hb hby at_101) rfl ?_
              show Steps p.tables e below (T139.setTop (mkF m 103 #[.val (.int i0), .val (.int i1), .val (.int i2), .val (.int i3), .val (.int i4), .val (.int (1 : Int32)), .val (.int i6), .val (.ref b1), .val (.int (f1n5_0 i4 (1 : Int32))), .unset, .unset] [(.int i4)])) _
              refine XS.sipush X139.here hx rfl (hb hby at_103) ?_
              exact kt
            refine own_step (T' := T139) (f' := (mkF m 115 #[.val (.int i0), .val (.int i1), .val (.int i2), .val (.int i3), .val (.int i4), .val (.int (1 : Int32)), .val (.int i6), .val (.ref b1), .val (.int (f1n5_0 i4 (1 : Int32))), .unset, .unset] [])) (fun t kt => ?_) ?_
            · show Steps p.tables e below (T139.setTop (mkF m 106 #[.val (.int i0), .val (.int i1), .val (.int i2), .val (.int i3), .val (.int i4), .val (.int (1 : Int32)), .val (.int i6), .val (.ref b1), .val (.int (f1n5_0 i4 (1 : Int32))), .unset, .unset] [(.int (128 : Int32)), (.int i4)])) _
              refine XS.icmpYes X139.here hx rfl (pc0 := 106) (pc' := 115) rfl (hb hby at_106) rfl (flt hm90_121).2.1 (by decide) (by decide) kt
            refine own_step (T' := T139) (f' := (mkF m 120 #[.val (.int i0), .val (.int i1), .val (.int i2), .val (.int i3), .val (.int i4), .val (.int (1 : Int32)), .val (.int i6), .val (.ref b1), .val (.int (f1n5_0 i4 (1 : Int32))), .unset, .unset] [(.int (16384 : Int32)), (.int i4)])) (fun t kt => ?_) ?_
            · show Steps p.tables e below (T139.setTop (mkF m 115 #[.val (.int i0), .val (.int i1), .val (.int i2), .val (.int i3), .val (.int i4), .val (.int (1 : Int32)), .val (.int i6), .val (.ref b1), .val (.int (f1n5_0 i4 (1 : Int32))), .unset, .unset] [])) _
              refine XS.iload X139.here hx rfl (hb hby at_115) rfl ?_
              show Steps p.tables e below (T139.setTop (mkF m 117 #[.val (.int i0), .val (.int i1), .val (.int i2), .val (.int i3), .val (.int i4), .val (.int (1 : Int32)), .val (.int i6), .val (.ref b1), .val (.int (f1n5_0 i4 (1 : Int32))), .unset, .unset] [(.int i4)])) _
              refine XS.sipush X139.here hx rfl (hb hby at_117) ?_
              exact kt
            refine own_step (T' := T139) (f' := (mkF m 129 #[.val (.int i0), .val (.int i1), .val (.int i2), .val (.int i3), .val (.int i4), .val (.int (1 : Int32)), .val (.int i6), .val (.ref b1), .val (.int (f1n5_0 i4 (1 : Int32))), .unset, .unset] [])) (fun t kt => ?_) ?_
            · show Steps p.tables e below (T139.setTop (mkF m 120 #[.val (.int i0), .val (.int i1), .val (.int i2), .val (.int i3), .val (.int i4), .val (.int (1 : Int32)), .val (.int i6), .val (.ref b1), .val (.int (f1n5_0 i4 (1 : Int32))), .unset, .unset] [(.int (16384 : Int32)), (.int i4)])) _
              refine XS.icmpYes X139.here hx rfl (pc0 := 120) (pc' := 129) rfl (hb hby at_120) rfl (flt hm90_124).2.1 (by decide) (by decide) kt
            refine own_step (T' := T139) (f' := (mkF m 133 #[.val (.int i0), .val (.int i1), .val (.int i2), .val (.int i3), .val (.int i4), .val (.int (1 : Int32)), .val (.int i6), .val (.ref b1), .val (.int (f1n5_0 i4 (1 : Int32))), .unset, .unset] [(.int (2097152 : Int32)), (.int i4)])) (fun t kt => ?_) ?_
            · show Steps p.tables e below (T139.setTop (mkF m 129 #[.val (.int i0), .val (.int i1), .val (.int i2), .val (.int i3), .val (.int i4), .val (.int (1 : Int32)), .val (.int i6), .val (.ref b1), .val (.int (f1n5_0 i4 (1 : Int32))), .unset, .unset] [])) _
              refine XS.iload X139.here hx rfl (hb hby at_129) rfl ?_
              show Steps p.tables e below (T139.setTop (mkF m 131 #[.val (.int i0), .val (.int i1), .val (.int i2), .val (.int i3), .val (.int i4), .val (.int (1 : Int32)), .val (.int i6), .val (.ref b1), .val (.int (f1n5_0 i4 (1 : Int32))), .unset, .unset] [(.int i4)])) _
              refine X139.ldcInt hx hown (mvT hZ (hw _ (List.mem_of_getElem? (i := 10) rfl))) (g := (mkF m 131 #[.val (.int i0), .val (.int i1), .val (.int i2), .val (.int i3), .val (.int i4), .val (.int (1 : Int32)), .val (.int i6), .val (.ref b1), .val (.int (f1n5_0 i4 (1 : Int32))), .unset, .unset] [(.int i4)])) rfl (hb hby at_131) _ ?_
              exact kt
            refine own_step (T' := T139) (f' := (mkF m 142 #[.val (.int i0), .val (.int i1), .val (.int i2), .val (.int i3), .val (.int i4), .val (.int (1 : Int32)), .val (.int i6), .val (.ref b1), .val (.int (f1n5_0 i4 (1 : Int32))), .unset, .unset] [])) (fun t kt => ?_) ?_
            · show Steps p.tables e below (T139.setTop (mkF m 133 #[.val (.int i0), .val (.int i1), .val (.int i2), .val (.int i3), .val (.int i4), .val (.int (1 : Int32)), .val (.int i6), .val (.ref b1), .val (.int (f1n5_0 i4 (1 : Int32))), .unset, .unset] [(.int (2097152 : Int32)), (.int i4)])) _
              refine XS.icmpYes X139.here hx rfl (pc0 := 133) (pc' := 142) rfl (hb hby at_133) rfl (flt hm90_128).2.1 (by decide) (by decide) kt
            refine own_step (T' := T139) (f' := (mkF m 146 #[.val (.int i0), .val (.int i1), .val (.int i2), .val (.int i3), .val (.int i4), .val (.int (1 : Int32)), .val (.int i6), .val (.ref b1), .val (.int (f1n5_0 i4 (1 : Int32))), .unset, .unset] [(.int (268435456 : Int32)), (.int i4)])) (fun t kt => ?_) ?_
            · show Steps p.tables e below (T139.setTop (mkF m 142 #[.val (.int i0), .val (.int i1), .val (.int i2), .val (.int i3), .val (.int i4), .val (.int (1 : Int32)), .val (.int i6), .val (.ref b1), .val (.int (f1n5_0 i4 (1 : Int32))), .unset, .unset] [])) _
              refine XS.iload X139.here hx rfl (hb hby at_142) rfl ?_
              show Steps p.tables e below (T139.setTop (mkF m 144 #[.val (.int i0), .val (.int i1), .val (.int i2), .val (.int i3), .val (.int i4), .val (.int (1 : Int32)), .val (.int i6), .val (.ref b1), .val (.int (f1n5_0 i4 (1 : Int32))), .unset, .unset] [(.int i4)])) _
              refine X139.ldcInt hx hown (mvT hZ (hw _ (List.mem_of_getElem? (i := 11) rfl))) (g := (mkF m 144 #[.val (.int i0), .val (.int i1), .val (.int i2), .val (.int i3), .val (.int i4), .val (.int (1 : Int32)), .val (.int i6), .val (.ref b1), .val (.int (f1n5_0 i4 (1 : Int32))), .unset, .unset] [(.int i4)])) rfl (hb hby at_144) _ ?_
              exact kt
            refine own_step (T' := T139) (f' := (mkF m 155 #[.val (.int i0), .val (.int i1), .val (.int i2), .val (.int i3), .val (.int i4), .val (.int (1 : Int32)), .val (.int i6), .val (.ref b1), .val (.int (f1n5_0 i4 (1 : Int32))), .unset, .unset] [])) (fun t kt => ?_) ?_
            · show Steps p.tables e below (T139.setTop (mkF m 146 #[.val (.int i0), .val (.int i1), .val (.int i2), .val (.int i3), .val (.int i4), .val (.int (1 : Int32)), .val (.int i6), .val (.ref b1), .val (.int (f1n5_0 i4 (1 : Int32))), .unset, .unset] [(.int (268435456 : Int32)), (.int i4)])) _
              refine XS.icmpYes X139.here hx rfl (pc0 := 146) (pc' := 155) rfl (hb hby at_146) rfl (flt hm90_133).2.1 (by decide) (by decide) kt
            refine own_step (T' := T139) (f' := (mkF m 158 #[.val (.int i0), .val (.int i1), .val (.int i2), .val (.int i3), .val (.int i4), .val (.int (1 : Int32)), .val (.int i6), .val (.ref b1), .val (.int (f1n5_0 i4 (1 : Int32))), .val (.int (5 : Int32)), .unset] [])) (fun t kt => ?_) ?_
            · show Steps p.tables e below (T139.setTop (mkF m 155 #[.val (.int i0), .val (.int i1), .val (.int i2), .val (.int i3), .val (.int i4), .val (.int (1 : Int32)), .val (.int i6), .val (.ref b1), .val (.int (f1n5_0 i4 (1 : Int32))), .unset, .unset] [])) _
              refine XS.iconst X139.here hx rfl (hb hby at_155) ?_
              show Steps p.tables e below (T139.setTop (mkF m 156 #[.val (.int i0), .val (.int i1), .val (.int i2), .val (.int i3), .val (.int i4), .val (.int (1 : Int32)), .val (.int i6), .val (.ref b1), .val (.int (f1n5_0 i4 (1 : Int32))), .unset, .unset] [(.int (5 : Int32))])) _
              refine XS.istore X139.here hx rfl (hb hby at_156) rfl (l' := #[.val (.int i0), .val (.int i1), .val (.int i2), .val (.int i3), .val (.int i4), .val (.int (1 : Int32)), .val (.int i6), .val (.ref b1), .val (.int (f1n5_0 i4 (1 : Int32))), .val (.int (5 : Int32)), .unset]) rfl ?_
              exact kt
            exact b0_158 i0 i1 i2 i3 i4 (1 : Int32) i6 b1 (f1n5_0 i4 (1 : Int32)) (5 : Int32) (nar .byte i6) (nar .byte ((i4 ||| (128 : Int32)).toInt8.toInt32)) (nar .byte ((((i4.toUInt32 >>> ((7 : Int32) &&& 31).toUInt32).toInt32) ||| (128 : Int32)).toInt8.toInt32)) (nar .byte ((((((i4.toUInt32 >>> ((7 : Int32) &&& 31).toUInt32).toInt32).toUInt32 >>> ((7 : Int32) &&& 31).toUInt32).toInt32) ||| (128 : Int32)).toInt8.toInt32)) (nar .byte ((((((((i4.toUInt32 >>> ((7 : Int32) &&& 31).toUInt32).toInt32).toUInt32 >>> ((7 : Int32) &&& 31).toUInt32).toInt32).toUInt32 >>> ((7 : Int32) &&& 31).toUInt32).toInt32) ||| (128 : Int32)).toInt8.toInt32)) (nar .byte (((((((((i4.toUInt32 >>> ((7 : Int32) &&& 31).toUInt32).toInt32).toUInt32 >>> ((7 : Int32) &&& 31).toUInt32).toInt32).toUInt32 >>> ((7 : Int32) &&& 31).toUInt32).toInt32).toUInt32 >>> ((7 : Int32) &&& 31).toUInt32).toInt32).toInt8.toInt32)) (nar .byte i6) (nar .byte i6) (nar .byte i6) (nar .byte i6) X139 hx hZ hw hby hml hown hret hlk rfl N139 Ab1_139 g1 Z139 hr
  · replace hr := hr.trans ((if_neg (by decide)).trans ((if_neg (by decide)).trans (if_pos rfl)))
    by_cases hm90_144 : i4 < (128 : Int32)
    · replace hr := hr.trans (if_pos hm90_144)
      refine own_step (T' := T11) (f' := (mkF m 96 #[.val (.int i0), .val (.int i1), .val (.int i2), .val (.int i3), .val (.int i4), .val (.int (2 : Int32)), .val (.int i6), .val (.ref b1), .unset, .unset, .unset] [(.int (2 : Int32)), (.ref b1), (.int i4)])) (fun t kt => ?_) ?_
      · show Steps p.tables e below (T11.setTop (mkF m 90 #[.val (.int i0), .val (.int i1), .val (.int i2), .val (.int i3), .val (.int i4), .val (.int (2 : Int32)), .val (.int i6), .val (.ref b1), .unset, .unset, .unset] [])) _
        refine XS.iload X11.here hx rfl (hb hby at_90) rfl ?_
        show Steps p.tables e below (T11.setTop (mkF m 92 #[.val (.int i0), .val (.int i1), .val (.int i2), .val (.int i3), .val (.int i4), .val (.int (2 : Int32)), .val (.int i6), .val (.ref b1), .unset, .unset, .unset] [(.int i4)])) _
        refine XS.aload X11.here hx rfl (hb hby at_92) rfl rfl ?_
        show Steps p.tables e below (T11.setTop (mkF m 94 #[.val (.int i0), .val (.int i1), .val (.int i2), .val (.int i3), .val (.int i4), .val (.int (2 : Int32)), .val (.int i6), .val (.ref b1), .unset, .unset, .unset] [(.ref b1), (.int i4)])) _
        refine XS.iload X11.here hx rfl (hb hby at_94) rfl ?_
        exact kt
      obtain ⟨_, _, ⟨T145, L145, k145, n145⟩, -, X145, ⟨Lc145, hQ145, l145, y145, z145⟩, st145⟩ := Jvm.LawKit.callS X11 hx (y := (⟨"hotstate/sort/VarInts", "write", "(I[BI)I"⟩ : MethodName)) hown (mvT hZ (hw _ (List.mem_of_getElem? (i := 2) rfl))) (mvT hZ (hw _ (List.mem_of_getElem? (i := 3) rfl))) (mvT hZ (hw _ (List.mem_of_getElem? (i := 4) rfl))) (mvT hZ (hw _ (List.mem_of_getElem? (i := 5) rfl))) (by decide) (backOf (W := 0) (rm1n1 l Z a0 hw [] i4 b1 (2 : Int32) [(.int (nar .byte i6)), (.int (nar .byte i6)), (.int (nar .byte i6)), (.int (nar .byte i6)), (.int (nar .byte i6)), (.int (nar .byte i6)), (.int (nar .byte i6)), (.int (nar .byte i6)), (.int (nar .byte i6)), (.int (nar .byte i6))] h11 n0 Ab1_11 g1 rfl (by decide) hm90_144 Z11) hZ (hw _ (List.mem_of_getElem? (i := 5) rfl)) (hw _ (List.mem_of_getElem? (i := 4) rfl)) (by decide) (by decide)) (g := (mkF m 96 #[.val (.int i0), .val (.int i1), .val (.int i2), .val (.int i3), .val (.int i4), .val (.int (2 : Int32)), .val (.int i6), .val (.ref b1), .unset, .unset, .unset] [(.int (2 : Int32)), (.ref b1), (.int i4)])) rfl (by rw [hml]; rfl) (argsL := [(.int i4), (.ref b1), (.int (2 : Int32))]) (rest := []) (lenOf pd1 rfl) rfl (by show 2 * 0 + _ ≤ _; exact Nat.le_of_eq rfl) (hb hby at_96) (fun _ _ => ⟨rfl, e11, (by decide : 1 + 0 ≤ _), (by decide : 10 + 0 ≤ _)⟩)
      dsimp only [Pt.U, Pt.locs, Pt.cells, Pt.slots] at X145 l145 y145 z145 st145 hQ145
      subst l145 y145 z145
      obtain ⟨rfl, Nq145, Aw145, Z145⟩ := hQ145
      have N145 := Fr.app N11 Nq145
      have Ab1_145 : own_A Z T145.heap b1 .byte [(.int (nar .byte i6)), (.int (nar .byte i6)), (.int (nar .byte (i4.toInt8.toInt32))), (.int (nar .byte i6)), (.int (nar .byte i6)), (.int (nar .byte i6)), (.int (nar .byte i6)), (.int (nar .byte i6)), (.int (nar .byte i6)), (.int (nar .byte i6))] := Aw145
      refine own_step (T' := T145) (f' := (mkF m 99 #[.val (.int i0), .val (.int i1), .val (.int i2), .val (.int i3), .val (.int i4), .val (.int (2 : Int32)), .val (.int i6), .val (.ref b1), .unset, .unset, .unset] [(.int (f1n1_0 i4 (2 : Int32)))])) st145 ?_
      refine own_step (T' := T145) (f' := (mkF m 106 #[.val (.int i0), .val (.int i1), .val (.int i2), .val (.int i3), .val (.int i4), .val (.int (2 : Int32)), .val (.int i6), .val (.ref b1), .val (.int (f1n1_0 i4 (2 : Int32))), .unset, .unset] [(.int (128 : Int32)), (.int i4)])) (fun t kt => ?_) ?_
      · show Steps p.tables e below (T145.setTop (mkF m 99 #[.val (.int i0), .val (.int i1), .val (.int i2), .val (.int i3), .val (.int i4), .val (.int (2 : Int32)), .val (.int i6), .val (.ref b1), .unset, .unset, .unset] [(.int (f1n1_0 i4 (2 : Int32)))])) _
        refine XS.istore X145.here hx rfl (hb hby at_99) rfl (l' := #[.val (.int i0), .val (.int i1), .val (.int i2), .val (.int i3), .val (.int i4), .val (.int (2 : Int32)), .val (.int i6), .val (.ref b1), .val (.int (f1n1_0 i4 (2 : Int32))), .unset, .unset]) rfl ?_
        show Steps p.tables e below (T145.setTop (mkF m 101 #[.val (.int i0), .val (.int i1), .val (.int i2), .val (.int i3), .val (.int i4), .val (.int (2 : Int32)), .val (.int i6), .val (.ref b1), .val (.int (f1n1_0 i4 (2 : Int32))), .unset, .unset] [])) _
        refine XS.iload X145.here hx rfl (hb hby at_101) rfl ?_
        show Steps p.tables e below (T145.setTop (mkF m 103 #[.val (.int i0), .val (.int i1), .val (.int i2), .val (.int i3), .val (.int i4), .val (.int (2 : Int32)), .val (.int i6), .val (.ref b1), .val (.int (f1n1_0 i4 (2 : Int32))), .unset, .unset] [(.int i4)])) _
        refine XS.sipush X145.here hx rfl (hb hby at_103) ?_
        exact kt
      refine own_step (T' := T145) (f' := (mkF m 109 #[.val (.int i0), .val (.int i1), .val (.int i2), .val (.int i3), .val (.int i4), .val (.int (2 : Int32)), .val (.int i6), .val (.ref b1), .val (.int (f1n1_0 i4 (2 : Int32))), .unset, .unset] [])) (fun t kt => ?_) ?_
      · show Steps p.tables e below (T145.setTop (mkF m 106 #[.val (.int i0), .val (.int i1), .val (.int i2), .val (.int i3), .val (.int i4), .val (.int (2 : Int32)), .val (.int i6), .val (.ref b1), .val (.int (f1n1_0 i4 (2 : Int32))), .unset, .unset] [(.int (128 : Int32)), (.int i4)])) _
        refine XS.icmpNo X145.here hx rfl (hb hby at_106) rfl (tlt hm90_144).2.1 kt
      refine own_step (T' := T145) (f' := (mkF m 158 #[.val (.int i0), .val (.int i1), .val (.int i2), .val (.int i3), .val (.int i4), .val (.int (2 : Int32)), .val (.int i6), .val (.ref b1), .val (.int (f1n1_0 i4 (2 : Int32))), .val (.int (1 : Int32)), .unset] [])) (fun t kt => ?_) ?_
      · show Steps p.tables e below (T145.setTop (mkF m 109 #[.val (.int i0), .val (.int i1), .val (.int i2), .val (.int i3), .val (.int i4), .val (.int (2 : Int32)), .val (.int i6), .val (.ref b1), .val (.int (f1n1_0 i4 (2 : Int32))), .unset, .unset] [])) _
        refine XS.iconst X145.here hx rfl (hb hby at_109) ?_
        show Steps p.tables e below (T145.setTop (mkF m 110 #[.val (.int i0), .val (.int i1), .val (.int i2), .val (.int i3), .val (.int i4), .val (.int (2 : Int32)), .val (.int i6), .val (.ref b1), .val (.int (f1n1_0 i4 (2 : Int32))), .unset, .unset] [(.int (1 : Int32))])) _
        refine XS.istore X145.here hx rfl (hb hby at_110) rfl (l' := #[.val (.int i0), .val (.int i1), .val (.int i2), .val (.int i3), .val (.int i4), .val (.int (2 : Int32)), .val (.int i6), .val (.ref b1), .val (.int (f1n1_0 i4 (2 : Int32))), .val (.int (1 : Int32)), .unset]) rfl ?_
        show Steps p.tables e below (T145.setTop (mkF m 112 #[.val (.int i0), .val (.int i1), .val (.int i2), .val (.int i3), .val (.int i4), .val (.int (2 : Int32)), .val (.int i6), .val (.ref b1), .val (.int (f1n1_0 i4 (2 : Int32))), .val (.int (1 : Int32)), .unset] [])) _
        refine XS.goto X145.here hx rfl (pc0 := 112) (pc' := 158) rfl (hb hby at_112) (by decide) (by decide) ?_
        exact kt
      exact b0_158 i0 i1 i2 i3 i4 (2 : Int32) i6 b1 (f1n1_0 i4 (2 : Int32)) (1 : Int32) (nar .byte i6) (nar .byte i6) (nar .byte (i4.toInt8.toInt32)) (nar .byte i6) (nar .byte i6) (nar .byte i6) (nar .byte i6) (nar .byte i6) (nar .byte i6) (nar .byte i6) X145 hx hZ hw hby hml hown hret hlk rfl N145 Ab1_145 g1 Z145 hr
    · replace hr := hr.trans (if_neg hm90_144)
      by_cases hm90_147 : i4 < (16384 : Int32)
      · replace hr := hr.trans (if_pos hm90_147)
        refine own_step (T' := T11) (f' := (mkF m 96 #[.val (.int i0), .val (.int i1), .val (.int i2), .val (.int i3), .val (.int i4), .val (.int (2 : Int32)), .val (.int i6), .val (.ref b1), .unset, .unset, .unset] [(.int (2 : Int32)), (.ref b1), (.int i4)])) (fun t kt => ?_) ?_
        · show Steps p.tables e below (T11.setTop (mkF m 90 #[.val (.int i0), .val (.int i1), .val (.int i2), .val (.int i3), .val (.int i4), .val (.int (2 : Int32)), .val (.int i6), .val (.ref b1), .unset, .unset, .unset] [])) _
          refine XS.iload X11.here hx rfl (hb hby at_90) rfl ?_
          show Steps p.tables e below (T11.setTop (mkF m 92 #[.val (.int i0), .val (.int i1), .val (.int i2), .val (.int i3), .val (.int i4), .val (.int (2 : Int32)), .val (.int i6), .val (.ref b1), .unset, .unset, .unset] [(.int i4)])) _
          refine XS.aload X11.here hx rfl (hb hby at_92) rfl rfl ?_
          show Steps p.tables e below (T11.setTop (mkF m 94 #[.val (.int i0), .val (.int i1), .val (.int i2), .val (.int i3), .val (.int i4), .val (.int (2 : Int32)), .val (.int i6), .val (.ref b1), .unset, .unset, .unset] [(.ref b1), (.int i4)])) _
          refine XS.iload X11.here hx rfl (hb hby at_94) rfl ?_
          exact kt
        obtain ⟨_, _, ⟨T148, L148, k148, n148⟩, -, X148, ⟨Lc148, hQ148, l148, y148, z148⟩, st148⟩ := Jvm.LawKit.callS X11 hx (y := (⟨"hotstate/sort/VarInts", "write", "(I[BI)I"⟩ : MethodName)) hown (mvT hZ (hw _ (List.mem_of_getElem? (i := 2) rfl))) (mvT hZ (hw _ (List.mem_of_getElem? (i := 3) rfl))) (mvT hZ (hw _ (List.mem_of_getElem? (i := 4) rfl))) (mvT hZ (hw _ (List.mem_of_getElem? (i := 5) rfl))) (by decide) (backOf (W := 0) (rm1n2 l Z a0 hw [] i4 b1 (2 : Int32) [(.int (nar .byte i6)), (.int (nar .byte i6)), (.int (nar .byte i6)), (.int (nar .byte i6)), (.int (nar .byte i6)), (.int (nar .byte i6)), (.int (nar .byte i6)), (.int (nar .byte i6)), (.int (nar .byte i6)), (.int (nar .byte i6))] h11 n0 Ab1_11 g1 rfl (by decide) hm90_144 (own_lt1 i4 hpos hm90_147) Z11) hZ (hw _ (List.mem_of_getElem? (i := 5) rfl)) (hw _ (List.mem_of_getElem? (i := 4) rfl)) (by decide) (by decide)) (g := (mkF m 96 #[.val (.int i0), .val (.int i1), .val (.int i2), .val (.int i3), .val (.int i4), .val (.int (2 : Int32)), .val (.int i6), .val (.ref b1), .unset, .unset, .unset] [(.int (2 : Int32)), (.ref b1), (.int i4)])) rfl (by rw [hml]; rfl) (argsL := [(.int i4), (.ref b1), (.int (2 : Int32))]) (rest := []) (lenOf pd1 rfl) rfl (by show 2 * 0 + _ ≤ _; exact Nat.le_of_eq rfl) (hb hby at_96) (fun _ _ => ⟨rfl, e11, (by decide : 1 + 0 ≤ _), (by decide : 10 + 0 ≤ _)⟩)
        dsimp only [Pt.U, Pt.locs, Pt.cells, Pt.slots] at X148 l148 y148 z148 st148 hQ148
        subst l148 y148 z148
        obtain ⟨rfl, Nq148, Aw148, Z148⟩ := hQ148
        have N148 := Fr.app N11 Nq148
        have Ab1_148 : own_A Z T148.heap b1 .byte [(.int (nar .byte i6)), (.int (nar .byte i6)), (.int (nar .byte ((i4 ||| (128 : Int32)).toInt8.toInt32))), (.int (nar .byte (((i4.toUInt32 >>> ((7 : Int32) &&& 31).toUInt32).toInt32).toInt8.toInt32))), (.int (nar .byte i6)), (.int (nar .byte i6)), (.int (nar .byte i6)), (.int (nar .byte i6)), (.int (nar .byte i6)), (.int (nar .byte i6))] := Aw148
        refine own_step (T' := T148) (f' := (mkF m 99 #[.val (.int i0), .val (.int i1), .val (.int i2), .val (.int i3), .val (.int i4), .val (.int (2 : Int32)), .val (.int i6), .val (.ref b1), .unset, .unset, .unset] [(.int (f1n2_0 i4 (2 : Int32)))])) st148 ?_
        refine own_step (T' := T148) (f' := (mkF m 106 #[.val (.int i0), .val (.int i1), .val (.int i2), .val (.int i3), .val (.int i4), .val (.int (2 : Int32)), .val (.int i6), .val (.ref b1), .val (.int (f1n2_0 i4 (2 : Int32))), .unset, .unset] [(.int (128 : Int32)), (.int i4)])) (fun t kt => ?_) ?_
        · show Steps p.tables e below (T148.setTop (mkF m 99 #[.val (.int i0), .val (.int i1), .val (.int i2), .val (.int i3), .val (.int i4), .val (.int (2 : Int32)), .val (.int i6), .val (.ref b1), .unset, .unset, .unset] [(.int (f1n2_0 i4 (2 : Int32)))])) _
          refine XS.istore X148.here hx rfl (hb hby at_99) rfl (l' := #[.val (.int i0), .val (.int i1), .val (.int i2), .val (.int i3), .val (.int i4), .val (.int (2 : Int32)), .val (.int i6), .val (.ref b1), .val (.int (f1n2_0 i4 (2 : Int32))), .unset, .unset]) rfl ?_
          show Steps p.tables e below (T148.setTop (mkF m 101 #[.val (.int i0), .val (.int i1), .val (.int i2), .val (.int i3), .val (.int i4), .val (.int (2 : Int32)), .val (.int i6), .val (.ref b1), .val (.int (f1n2_0 i4 (2 : Int32))), .unset, .unset] [])) _
          refine XS.iload X148.here hx rfl (hb hby at_101) rfl ?_
          show Steps p.tables e below (T148.setTop (mkF m 103 #[.val (.int i0), .val (.int i1), .val (.int i2), .val (.int i3), .val (.int i4), .val (.int (2 : Int32)), .val (.int i6), .val (.ref b1), .val (.int (f1n2_0 i4 (2 : Int32))), .unset, .unset] [(.int i4)])) _
          refine XS.sipush X148.here hx rfl (hb hby at_103) ?_
          exact kt
        refine own_step (T' := T148) (f' := (mkF m 115 #[.val (.int i0), .val (.int i1), .val (.int i2), .val (.int i3), .val (.int i4), .val (.int (2 : Int32)), .val (.int i6), .val (.ref b1), .val (.int (f1n2_0 i4 (2 : Int32))), .unset, .unset] [])) (fun t kt => ?_) ?_
        · show Steps p.tables e below (T148.setTop (mkF m 106 #[.val (.int i0), .val (.int i1), .val (.int i2), .val (.int i3), .val (.int i4), .val (.int (2 : Int32)), .val (.int i6), .val (.ref b1), .val (.int (f1n2_0 i4 (2 : Int32))), .unset, .unset] [(.int (128 : Int32)), (.int i4)])) _
          refine XS.icmpYes X148.here hx rfl (pc0 := 106) (pc' := 115) rfl (hb hby at_106) rfl (flt hm90_144).2.1 (by decide) (by decide) kt
        refine own_step (T' := T148) (f' := (mkF m 120 #[.val (.int i0), .val (.int i1), .val (.int i2), .val (.int i3), .val (.int i4), .val (.int (2 : Int32)), .val (.int i6), .val (.ref b1), .val (.int (f1n2_0 i4 (2 : Int32))), .unset, .unset] [(.int (16384 : Int32)), (.int i4)])) (fun t kt => ?_) ?_
        · show Steps p.tables e below (T148.setTop (mkF m 115 #[.val (.int i0), .val (.int i1), .val (.int i2), .val (.int i3), .val (.int i4), .val (.int (2 : Int32)), .val (.int i6), .val (.ref b1), .val (.int (f1n2_0 i4 (2 : Int32))), .unset, .unset] [])) _
          refine XS.iload X148.here hx rfl (hb hby at_115) rfl ?_
          show Steps p.tables e below (T148.setTop (mkF m 117 #[.val (.int i0), .val (.int i1), .val (.int i2), .val (.int i3), .val (.int i4), .val (.int (2 : Int32)), .val (.int i6), .val (.ref b1), .val (.int (f1n2_0 i4 (2 : Int32))), .unset, .unset] [(.int i4)])) _
          refine XS.sipush X148.here hx rfl (hb hby at_117) ?_
          exact kt
        refine own_step (T' := T148) (f' := (mkF m 123 #[.val (.int i0), .val (.int i1), .val (.int i2), .val (.int i3), .val (.int i4), .val (.int (2 : Int32)), .val (.int i6), .val (.ref b1), .val (.int (f1n2_0 i4 (2 : Int32))), .unset, .unset] [])) (fun t kt => ?_) ?_
        · show Steps p.tables e below (T148.setTop (mkF m 120 #[.val (.int i0), .val (.int i1), .val (.int i2), .val (.int i3), .val (.int i4), .val (.int (2 : Int32)), .val (.int i6), .val (.ref b1), .val (.int (f1n2_0 i4 (2 : Int32))), .unset, .unset] [(.int (16384 : Int32)), (.int i4)])) _
          refine XS.icmpNo X148.here hx rfl (hb hby at_120) rfl (tlt hm90_147).2.1 kt
        refine own_step (T' := T148) (f' := (mkF m 158 #[.val (.int i0), .val (.int i1), .val (.int i2), .val (.int i3), .val (.int i4), .val (.int (2 : Int32)), .val (.int i6), .val (.ref b1), .val (.int (f1n2_0 i4 (2 : Int32))), .val (.int (2 : Int32)), .unset] [])) (fun t kt => ?_) ?_
        · show Steps p.tables e below (T148.setTop (mkF m 123 #[.val (.int i0), .val (.int i1), .val (.int i2), .val (.int i3), .val (.int i4), .val (.int (2 : Int32)), .val (.int i6), .val (.ref b1), .val (.int (f1n2_0 i4 (2 : Int32))), .unset, .unset] [])) _
          refine XS.iconst X148.here hx rfl (hb hby at_123) ?_
          show Steps p.tables e below (T148.setTop (mkF m 124 #[.val (.int i0), .val (.int i1), .val (.int i2), .val (.int i3), .val (.int i4), .val (.int (2 : Int32)), .val (.int i6), .val (.ref b1), .val (.int (f1n2_0 i4 (2 : Int32))), .unset, .unset] [(.int (2 : Int32))])) _
          refine XS.istore X148.here hx rfl (hb hby at_124) rfl (l' := #[.val (.int i0), .val (.int i1), .val (.int i2), .val (.int i3), .val (.int i4), .val (.int (2 : Int32)), .val (.int i6), .val (.ref b1), .val (.int (f1n2_0 i4 (2 : Int32))), .val (.int (2 : Int32)), .unset]) rfl ?_
          show Steps p.tables e below (T148.setTop (mkF m 126 #[.val (.int i0), .val (.int i1), .val (.int i2), .val (.int i3), .val (.int i4), .val (.int (2 : Int32)), .val (.int i6), .val (.ref b1), .val (.int (f1n2_0 i4 (2 : Int32))), .val (.int (2 : Int32)), .unset] [])) _
          refine XS.goto X148.here hx rfl (pc0 := 126) (pc' := 158) rfl (hb hby at_126) (by decide) (by decide) ?_
          exact kt
        exact b0_158 i0 i1 i2 i3 i4 (2 : Int32) i6 b1 (f1n2_0 i4 (2 : Int32)) (2 : Int32) (nar .byte i6) (nar .byte i6) (nar .byte ((i4 ||| (128 : Int32)).toInt8.toInt32)) (nar .byte (((i4.toUInt32 >>> ((7 : Int32) &&& 31).toUInt32).toInt32).toInt8.toInt32)) (nar .byte i6) (nar .byte i6) (nar .byte i6) (nar .byte i6) (nar .byte i6) (nar .byte i6) X148 hx hZ hw hby hml hown hret hlk rfl N148 Ab1_148 g1 Z148 hr
      · replace hr := hr.trans (if_neg hm90_147)
        by_cases hm90_151 : i4 < (2097152 : Int32)
        · replace hr := hr.trans (if_pos hm90_151)
          refine own_step (T' := T11) (f' := (mkF m 96 #[.val (.int i0), .val (.int i1), .val (.int i2), .val (.int i3), .val (.int i4), .val (.int (2 : Int32)), .val (.int i6), .val (.ref b1), .unset, .unset, .unset] [(.int (2 : Int32)), (.ref b1), (.int i4)])) (fun t kt => ?_) ?_
          · show Steps p.tables e below (T11.setTop (mkF m 90 #[.val (.int i0), .val (.int i1), .val (.int i2), .val (.int i3), .val (.int i4), .val (.int (2 : Int32)), .val (.int i6), .val (.ref b1), .unset, .unset, .unset] [])) _
            refine XS.iload X11.here hx rfl (hb hby at_90) rfl ?_
            show Steps p.tables e below (T11.setTop (mkF m 92 #[.val (.int i0), .val (.int i1), .val (.int i2), .val (.int i3), .val (.int i4), .val (.int (2 : Int32)), .val (.int i6), .val (.ref b1), .unset, .unset, .unset] [(.int i4)])) _
            refine XS.aload X11.here hx rfl (hb hby at_92) rfl rfl ?_
            show Steps p.tables e below (T11.setTop (mkF m 94 #[.val (.int i0), .val (.int i1), .val (.int i2), .val (.int i3), .val (.int i4), .val (.int (2 : Int32)), .val (.int i6), .val (.ref b1), .unset, .unset, .unset] [(.ref b1), (.int i4)])) _
            refine XS.iload X11.here hx rfl (hb hby at_94) rfl ?_
            exact kt
          obtain ⟨_, _, ⟨T152, L152, k152, n152⟩, -, X152, ⟨Lc152, hQ152, l152, y152, z152⟩, st152⟩ := Jvm.LawKit.callS X11 hx (y := (⟨"hotstate/sort/VarInts", "write", "(I[BI)I"⟩ : MethodName)) hown (mvT hZ (hw _ (List.mem_of_getElem? (i := 2) rfl))) (mvT hZ (hw _ (List.mem_of_getElem? (i := 3) rfl))) (mvT hZ (hw _ (List.mem_of_getElem? (i := 4) rfl))) (mvT hZ (hw _ (List.mem_of_getElem? (i := 5) rfl))) (by decide) (backOf (W := 0) (rm1n3 l Z a0 hw [] i4 b1 (2 : Int32) [(.int (nar .byte i6)), (.int (nar .byte i6)), (.int (nar .byte i6)), (.int (nar .byte i6)), (.int (nar .byte i6)), (.int (nar .byte i6)), (.int (nar .byte i6)), (.int (nar .byte i6)), (.int (nar .byte i6)), (.int (nar .byte i6))] h11 n0 Ab1_11 g1 rfl (by decide) hm90_144 (own_ge1 i4 hpos hm90_147) (own_lt2 i4 hpos hm90_151) Z11) hZ (hw _ (List.mem_of_getElem? (i := 5) rfl)) (hw _ (List.mem_of_getElem? (i := 4) rfl)) (by decide) (by decide)) (g := (mkF m 96 #[.val (.int i0), .val (.int i1), .val (.int i2), .val (.int i3), .val (.int i4), .val (.int (2 : Int32)), .val (.int i6), .val (.ref b1), .unset, .unset, .unset] [(.int (2 : Int32)), (.ref b1), (.int i4)])) rfl (by rw [hml]; rfl) (argsL := [(.int i4), (.ref b1), (.int (2 : Int32))]) (rest := []) (lenOf pd1 rfl) rfl (by show 2 * 0 + _ ≤ _; exact Nat.le_of_eq rfl) (hb hby at_96) (fun _ _ => ⟨rfl, e11, (by decide : 1 + 0 ≤ _), (by decide : 10 + 0 ≤ _)⟩)
          dsimp only [Pt.U, Pt.locs, Pt.cells, Pt.slots] at X152 l152 y152 z152 st152 hQ152
          subst l152 y152 z152
          obtain ⟨rfl, Nq152, Aw152, Z152⟩ := hQ152
          have N152 := Fr.app N11 Nq152
          have Ab1_152 : own_A Z T152.heap b1 .byte [(.int (nar .byte i6)), (.int (nar .byte i6)), (.int (nar .byte ((i4 ||| (128 : Int32)).toInt8.toInt32))), (.int (nar .byte ((((i4.toUInt32 >>> ((7 : Int32) &&& 31).toUInt32).toInt32) ||| (128 : Int32)).toInt8.toInt32))), (.int (nar .byte (((((i4.toUInt32 >>> ((7 : Int32) &&& 31).toUInt32).toInt32).toUInt32 >>> ((7 : Int32) &&& 31).toUInt32).toInt32).toInt8.toInt32))), (.int (nar .byte i6)), (.int (nar .byte i6)), (.int (nar .byte i6)), (.int (nar .byte i6)), (.int (nar .byte i6))] := Aw152
          refine own_step (T' := T152) (f' := (mkF m 99 #[.val (.int i0), .val (.int i1), .val (.int i2), .val (.int i3), .val (.int i4), .val (.int (2 : Int32)), .val (.int i6), .val (.ref b1), .unset, .unset, .unset] [(.int (f1n3_0 i4 (2 : Int32)))])) st152 ?_
          refine own_step (T' := T152) (f' := (mkF m 106 #[.val (.int i0), .val (.int i1), .val (.int i2), .val (.int i3), .val (.int i4), .val (.int (2 : Int32)), .val (.int i6), .val (.ref b1), .val (.int (f1n3_0 i4 (2 : Int32))), .unset, .unset] [(.int (128 : Int32)), (.int i4)])) (fun t kt => ?_) ?_
          · show Steps p.tables e below (T152.setTop (mkF m 99 #[.val (.int i0), .val (.int i1), .val (.int i2), .val (.int i3), .val (.int i4), .val (.int (2 : Int32)), .val (.int i6), .val (.ref b1), .unset, .unset, .unset] [(.int (f1n3_0 i4 (2 : Int32)))])) _
            refine XS.istore X152.here hx rfl (hb hby at_99) rfl (l' := #[.val (.int i0), .val (.int i1), .val (.int i2), .val (.int i3), .val (.int i4), .val (.int (2 : Int32)), .val (.int i6), .val (.ref b1), .val (.int (f1n3_0 i4 (2 : Int32))), .unset, .unset]) rfl ?_
            show Steps p.tables e below (T152.setTop (mkF m 101 #[.val (.int i0), .val (.int i1), .val (.int i2), .val (.int i3), .val (.int i4), .val (.int (2 : Int32)), .val (.int i6), .val (.ref b1), .val (.int (f1n3_0 i4 (2 : Int32))), .unset, .unset] [])) _
            refine XS.iload X152.here hx rfl (hb hby at_101) rfl ?_
            show Steps p.tables e below (T152.setTop (mkF m 103 #[.val (.int i0), .val (.int i1), .val (.int i2), .val (.int i3), .val (.int i4), .val (.int (2 : Int32)), .val (.int i6), .val (.ref b1), .val (.int (f1n3_0 i4 (2 : Int32))), .unset, .unset] [(.int i4)])) _
            refine XS.sipush X152.here hx rfl (hb hby at_103) ?_
            exact kt
          refine own_step (T' := T152) (f' := (mkF m 115 #[.val (.int i0), .val (.int i1), .val (.int i2), .val (.int i3), .val (.int i4), .val (.int (2 : Int32)), .val (.int i6), .val (.ref b1), .val (.int (f1n3_0 i4 (2 : Int32))), .unset, .unset] [])) (fun t kt => ?_) ?_
          · show Steps p.tables e below (T152.setTop (mkF m 106 #[.val (.int i0), .val (.int i1), .val (.int i2), .val (.int i3), .val (.int i4), .val (.int (2 : Int32)), .val (.int i6), .val (.ref b1), .val (.int (f1n3_0 i4 (2 : Int32))), .unset, .unset] [(.int (128 : Int32)), (.int i4)])) _
            refine XS.icmpYes X152.here hx rfl (pc0 := 106) (pc' := 115) rfl (hb hby at_106) rfl (flt hm90_144).2.1 (by decide) (by decide) kt
          refine own_step (T' := T152) (f' := (mkF m 120 #[.val (.int i0), .val (.int i1), .val (.int i2), .val (.int i3), .val (.int i4), .val (.int (2 : Int32)), .val (.int i6), .val (.ref b1), .val (.int (f1n3_0 i4 (2 : Int32))), .unset, .unset] [(.int (16384 : Int32)), (.int i4)])) (fun t kt => ?_) ?_
          · show Steps p.tables e below (T152.setTop (mkF m 115 #[.val (.int i0), .val (.int i1), .val (.int i2), .val (.int i3), .val (.int i4), .val (.int (2 : Int32)), .val (.int i6), .val (.ref b1), .val (.int (f1n3_0 i4 (2 : Int32))), .unset, .unset] [])) _
            refine XS.iload X152.here hx rfl (hb hby at_115) rfl ?_
            show Steps p.tables e below (T152.setTop (mkF m 117 #[.val (.int i0), .val (.int i1), .val (.int i2), .val (.int i3), .val (.int i4), .val (.int (2 : Int32)), .val (.int i6), .val (.ref b1), .val (.int (f1n3_0 i4 (2 : Int32))), .unset, .unset] [(.int i4)])) _
            refine XS.sipush X152.here hx rfl (hb hby at_117) ?_
            exact kt
          refine own_step (T' := T152) (f' := (mkF m 129 #[.val (.int i0), .val (.int i1), .val (.int i2), .val (.int i3), .val (.int i4), .val (.int (2 : Int32)), .val (.int i6), .val (.ref b1), .val (.int (f1n3_0 i4 (2 : Int32))), .unset, .unset] [])) (fun t kt => ?_) ?_
          · show Steps p.tables e below (T152.setTop (mkF m 120 #[.val (.int i0), .val (.int i1), .val (.int i2), .val (.int i3), .val (.int i4), .val (.int (2 : Int32)), .val (.int i6), .val (.ref b1), .val (.int (f1n3_0 i4 (2 : Int32))), .unset, .unset] [(.int (16384 : Int32)), (.int i4)])) _
            refine XS.icmpYes X152.here hx rfl (pc0 := 120) (pc' := 129) rfl (hb hby at_120) rfl (flt hm90_147).2.1 (by decide) (by decide) kt
          refine own_step (T' := T152) (f' := (mkF m 133 #[.val (.int i0), .val (.int i1), .val (.int i2), .val (.int i3), .val (.int i4), .val (.int (2 : Int32)), .val (.int i6), .val (.ref b1), .val (.int (f1n3_0 i4 (2 : Int32))), .unset, .unset] [(.int (2097152 : Int32)), (.int i4)])) (fun t kt => ?_) ?_
          · show Steps p.tables e below (T152.setTop (mkF m 129 #[.val (.int i0), .val (.int i1), .val (.int i2), .val (.int i3), .val (.int i4), .val (.int (2 : Int32)), .val (.int i6), .val (.ref b1), .val (.int (f1n3_0 i4 (2 : Int32))), .unset, .unset] [])) _
            refine XS.iload X152.here hx rfl (hb hby at_129) rfl ?_
            show Steps p.tables e below (T152.setTop (mkF m 131 #[.val (.int i0), .val (.int i1), .val (.int i2), .val (.int i3), .val (.int i4), .val (.int (2 : Int32)), .val (.int i6), .val (.ref b1), .val (.int (f1n3_0 i4 (2 : Int32))), .unset, .unset] [(.int i4)])) _
            refine X152.ldcInt hx hown (mvT hZ (hw _ (List.mem_of_getElem? (i := 10) rfl))) (g := (mkF m 131 #[.val (.int i0), .val (.int i1), .val (.int i2), .val (.int i3), .val (.int i4), .val (.int (2 : Int32)), .val (.int i6), .val (.ref b1), .val (.int (f1n3_0 i4 (2 : Int32))), .unset, .unset] [(.int i4)])) rfl (hb hby at_131) _ ?_
            exact kt
          refine own_step (T' := T152) (f' := (mkF m 136 #[.val (.int i0), .val (.int i1), .val (.int i2), .val (.int i3), .val (.int i4), .val (.int (2 : Int32)), .val (.int i6), .val (.ref b1), .val (.int (f1n3_0 i4 (2 : Int32))), .unset, .unset] [])) (fun t kt => ?_) ?_
          · show Steps p.tables e below (T152.setTop (mkF m 133 #[.val (.int i0), .val (.int i1), .val (.int i2), .val (.int i3), .val (.int i4), .val (.int (2 : Int32)), .val (.int i6), .val (.ref b1), .val (.int (f1n3_0 i4 (2 : Int32))), .unset, .unset] [(.int (2097152 : Int32)), (.int i4)])) _
            refine XS.icmpNo X152.here hx rfl (hb hby at_133) rfl (tlt hm90_151).2.1 kt
          refine own_step (T' := T152) (f' := (mkF m 158 #[.val (.int i0), .val (.int i1), .val (.int i2), .val (.int i3), .val (.int i4), .val (.int (2 : Int32)), .val (.int i6), .val (.ref b1), .val (.int (f1n3_0 i4 (2 : Int32))), .val (.int (3 : Int32)), .unset] [])) (fun t kt => ?_) ?_
          · show Steps p.tables e below (T152.setTop (mkF m 136 #[.val (.int i0), .val (.int i1), .val (.int i2), .val (.int i3), .val (.int i4), .val (.int (2 : Int32)), .val (.int i6), .val (.ref b1), .val (.int (f1n3_0 i4 (2 : Int32))), .unset, .unset] [])) _
            refine XS.iconst X152.here hx rfl (hb hby at_136) ?_
            show Steps p.tables e below (T152.setTop (mkF m 137 #[.val (.int i0), .val (.int i1), .val (.int i2), .val (.int i3), .val (.int i4), .val (.int (2 : Int32)), .val (.int i6), .val (.ref b1), .val (.int (f1n3_0 i4 (2 : Int32))), .unset, .unset] [(.int (3 : Int32))])) _
            refine XS.istore X152.here hx rfl (hb hby at_137) rfl (l' := #[.val (.int i0), .val (.int i1), .val (.int i2), .val (.int i3), .val (.int i4), .val (.int (2 : Int32)), .val (.int i6), .val (.ref b1), .val (.int (f1n3_0 i4 (2 : Int32))), .val (.int (3 : Int32)), .unset]) rfl ?_
            show Steps p.tables e below (T152.setTop (mkF m 139 #[.val (.int i0), .val (.int i1), .val (.int i2), .val (.int i3), .val (.int i4), .val (.int (2 : Int32)), .val (.int i6), .val (.ref b1), .val (.int (f1n3_0 i4 (2 : Int32))), .val (.int (3 : Int32)), .unset] [])) _
            refine XS.goto X152.here hx rfl (pc0 := 139) (pc' := 158) rfl (hb hby at_139) (by decide) (by decide) ?_
            exact kt
          exact b0_158 i0 i1 i2 i3 i4 (2 : Int32) i6 b1 (f1n3_0 i4 (2 : Int32)) (3 : Int32) (nar .byte i6) (nar .byte i6) (nar .byte ((i4 ||| (128 : Int32)).toInt8.toInt32)) (nar .byte ((((i4.toUInt32 >>> ((7 : Int32) &&& 31).toUInt32).toInt32) ||| (128 : Int32)).toInt8.toInt32)) (nar .byte (((((i4.toUInt32 >>> ((7 : Int32) &&& 31).toUInt32).toInt32).toUInt32 >>> ((7 : Int32) &&& 31).toUInt32).toInt32).toInt8.toInt32)) (nar .byte i6) (nar .byte i6) (nar .byte i6) (nar .byte i6) (nar .byte i6) X152 hx hZ hw hby hml hown hret hlk rfl N152 Ab1_152 g1 Z152 hr
        · replace hr := hr.trans (if_neg hm90_151)
          by_cases hm90_156 : i4 < (268435456 : Int32)
          · replace hr := hr.trans (if_pos hm90_156)
            refine own_step (T' := T11) (f' := (mkF m 96 #[.val (.int i0), .val (.int i1), .val (.int i2), .val (.int i3), .val (.int i4), .val (.int (2 : Int32)), .val (.int i6), .val (.ref b1), .unset, .unset, .unset] [(.int (2 : Int32)), (.ref b1), (.int i4)])) (fun t kt => ?_) ?_
            · show Steps p.tables e below (T11.setTop (mkF m 90 #[.val (.int i0), .val (.int i1), .val (.int i2), .val (.int i3), .val (.int i4), .val (.int (2 : Int32)), .val (.int i6), .val (.ref b1), .unset, .unset, .unset] [])) _
              refine XS.iload X11.here hx rfl (hb hby at_90) rfl ?_
              show Steps p.tables e below (T11.setTop (mkF m 92 #[.val (.int i0), .val (.int i1), .val (.int i2), .val (.int i3), .val (.int i4), .val (.int (2 : Int32)), .val (.int i6), .val (.ref b1), .unset, .unset, .unset] [(.int i4)])) _
              refine XS.aload X11.here hx rfl (hb hby at_92) rfl rfl ?_
              show Steps p.tables e below (T11.setTop (mkF m 94 #[.val (.int i0), .val (.int i1), .val (.int i2), .val (.int i3), .val (.int i4), .val (.int (2 : Int32)), .val (.int i6), .val (.ref b1), .unset, .unset, .unset] [(.ref b1), (.int i4)])) _
              refine XS.iload X11.here hx rfl (hb hby at_94) rfl ?_
              exact kt
            obtain ⟨_, _, ⟨T157, L157, k157, n157⟩, -, X157, ⟨Lc157, hQ157, l157, y157, z157⟩, st157⟩ := Jvm.LawKit.callS X11 hx (y := (⟨"hotstate/sort/VarInts", "write", "(I[BI)I"⟩ : MethodName)) hown (mvT hZ (hw _ (List.mem_of_getElem? (i := 2) rfl))) (mvT hZ (hw _ (List.mem_of_getElem? (i := 3) rfl))) (mvT hZ (hw _ (List.mem_of_getElem? (i := 4) rfl))) (mvT hZ (hw _ (List.mem_of_getElem? (i := 5) rfl))) (by decide) (backOf (W := 0) (rm1n4 l Z a0 hw [] i4 b1 (2 : Int32) [(.int (nar .byte i6)), (.int (nar .byte i6)), (.int (nar .byte i6)), (.int (nar .byte i6)), (.int (nar .byte i6)), (.int (nar .byte i6)), (.int (nar .byte i6)), (.int (nar .byte i6)), (.int (nar .byte i6)), (.int (nar .byte i6))] h11 n0 Ab1_11 g1 rfl (by decide) hm90_144 (own_ge1 i4 hpos hm90_147) (own_ge2 i4 hpos hm90_151) (own_lt3 i4 hpos hm90_156) Z11) hZ (hw _ (List.mem_of_getElem? (i := 5) rfl)) (hw _ (List.mem_of_getElem? (i := 4) rfl)) (by decide) (by decide)) (g := (mkF m 96 #[.val (.int i0), .val (.int i1), .val (.int i2), .val (.int i3), .val (.int i4), .val (.int (2 : Int32)), .val (.int i6), .val (.ref b1), .unset, .unset, .unset] [(.int (2 : Int32)), (.ref b1), (.int i4)])) rfl (by rw [hml]; rfl) (argsL := [(.int i4), (.ref b1), (.int (2 : Int32))]) (rest := []) (lenOf pd1 rfl) rfl (by show 2 * 0 + _ ≤ _; exact Nat.le_of_eq rfl) (hb hby at_96) (fun _ _ => ⟨rfl, e11, (by decide : 1 + 0 ≤ _), (by decide : 10 + 0 ≤ _)⟩)
            dsimp only [Pt.U, Pt.locs, Pt.cells, Pt.slots] at X157 l157 y157 z157 st157 hQ157
            subst l157 y157 z157
            obtain ⟨rfl, Nq157, Aw157, Z157⟩ := hQ157
            have N157 := Fr.app N11 Nq157
            have Ab1_157 : own_A Z T157.heap b1 .byte [(.int (nar .byte i6)), (.int (nar .byte i6)), (.int (nar .byte ((i4 ||| (128 : Int32)).toInt8.toInt32))), (.int (nar .byte ((((i4.toUInt32 >>> ((7 : Int32) &&& 31).toUInt32).toInt32) ||| (128 : Int32)).toInt8.toInt32))), (.int (nar .byte ((((((i4.toUInt32 >>> ((7 : Int32) &&& 31).toUInt32).toInt32).toUInt32 >>> ((7 : Int32) &&& 31).toUInt32).toInt32) ||| (128 : Int32)).toInt8.toInt32))), (.int (nar .byte (((((((i4.toUInt32 >>> ((7 : Int32) &&& 31).toUInt32).toInt32).toUInt32 >>> ((7 : Int32) &&& 31).toUInt32).toInt32).toUInt32 >>> ((7 : Int32) &&& 31).toUInt32).toInt32).toInt8.toInt32))), (.int (nar .byte i6)), (.int (nar .byte i6)), (.int (nar .byte i6)), (.int (nar .byte i6))] := Aw157
            refine own_step (T' := T157) (f' := (mkF m 99 #[.val (.int i0), .val (.int i1), .val (.int i2), .val (.int i3), .val (.int i4), .val (.int (2 : Int32)), .val (.int i6), .val (.ref b1), .unset, .unset, .unset] [(.int (f1n4_0 i4 (2 : Int32)))])) st157 ?_
            refine own_step (T' := T157) (f' := (mkF m 106 #[.val (.int i0), .val (.int i1), .val (.int i2), .val (.int i3), .val (.int i4), .val (.int (2 : Int32)), .val (.int i6), .val (.ref b1), .val (.int (f1n4_0 i4 (2 : Int32))), .unset, .unset] [(.int (128 : Int32)), (.int i4)])) (fun t kt => ?_) ?_
            · show Steps p.tables e below (T157.setTop (mkF m 99 #[.val (.int i0), .val (.int i1), .val (.int i2), .val (.int i3), .val (.int i4), .val (.int (2 : Int32)), .val (.int i6), .val (.ref b1), .unset, .unset, .unset] [(.int (f1n4_0 i4 (2 : Int32)))])) _
              refine XS.istore X157.here hx rfl (hb hby at_99) rfl (l' := #[.val (.int i0), .val (.int i1), .val (.int i2), .val (.int i3), .val (.int i4), .val (.int (2 : Int32)), .val (.int i6), .val (.ref b1), .val (.int (f1n4_0 i4 (2 : Int32))), .unset, .unset]) rfl ?_
              show Steps p.tables e below (T157.setTop (mkF m 101 #[.val (.int i0), .val (.int i1), .val (.int i2), .val (.int i3), .val (.int i4), .val (.int (2 : Int32)), .val (.int i6), .val (.ref b1), .val (.int (f1n4_0 i4 (2 : Int32))), .unset, .unset] [])) _
              refine XS.iload X157.here hx rfl (hb hby at_101) rfl ?_
              show Steps p.tables e below (T157.setTop (mkF m 103 #[.val (.int i0), .val (.int i1), .val (.int i2), .val (.int i3), .val (.int i4), .val (.int (2 : Int32)), .val (.int i6), .val (.ref b1), .val (.int (f1n4_0 i4 (2 : Int32))), .unset, .unset] [(.int i4)])) _
              refine XS.sipush X157.here hx rfl (hb hby at_103) ?_
              exact kt
            refine own_step (T' := T157) (f' := (mkF m 115 #[.val (.int i0), .val (.int i1), .val (.int i2), .val (.int i3), .val (.int i4), .val (.int (2 : Int32)), .val (.int i6), .val (.ref b1), .val (.int (f1n4_0 i4 (2 : Int32))), .unset, .unset] [])) (fun t kt => ?_) ?_
            · show Steps p.tables e below (T157.setTop (mkF m 106 #[.val (.int i0), .val (.int i1), .val (.int i2), .val (.int i3), .val (.int i4), .val (.int (2 : Int32)), .val (.int i6), .val (.ref b1), .val (.int (f1n4_0 i4 (2 : Int32))), .unset, .unset] [(.int (128 : Int32)), (.int i4)])) _
              refine XS.icmpYes X157.here hx rfl (pc0 := 106) (pc' := 115) rfl (hb hby at_106) rfl (flt hm90_144).2.1 (by decide) (by decide) kt
            refine own_step (T' := T157) (f' := (mkF m 120 #[.val (.int i0), .val (.int i1), .val (.int i2), .val (.int i3), .val (.int i4), .val (.int (2 : Int32)), .val (.int i6), .val (.ref b1), .val (.int (f1n4_0 i4 (2 : Int32))), .unset, .unset] [(.int (16384 : Int32)), (.int i4)])) (fun t kt => ?_) ?_
            · show Steps p.tables e below (T157.setTop (mkF m 115 #[.val (.int i0), .val (.int i1), .val (.int i2), .val (.int i3), .val (.int i4), .val (.int (2 : Int32)), .val (.int i6), .val (.ref b1), .val (.int (f1n4_0 i4 (2 : Int32))), .unset, .unset] [])) _
              refine XS.iload X157.here hx rfl (hb hby at_115) rfl ?_
              show Steps p.tables e below (T157.setTop (mkF m 117 #[.val (.int i0), .val (.int i1), .val (.int i2), .val (.int i3), .val (.int i4), .val (.int (2 : Int32)), .val (.int i6), .val (.ref b1), .val (.int (f1n4_0 i4 (2 : Int32))), .unset, .unset] [(.int i4)])) _
              refine XS.sipush X157.here hx rfl (hb hby at_117) ?_
              exact kt
            refine own_step (T' := T157) (f' := (mkF m 129 #[.val (.int i0), .val (.int i1), .val (.int i2), .val (.int i3), .val (.int i4), .val (.int (2 : Int32)), .val (.int i6), .val (.ref b1), .val (.int (f1n4_0 i4 (2 : Int32))), .unset, .unset] [])) (fun t kt => ?_) ?_
            · show Steps p.tables e below (T157.setTop (mkF m 120 #[.val (.int i0), .val (.int i1), .val (.int i2), .val (.int i3), .val (.int i4), .val (.int (2 : Int32)), .val (.int i6), .val (.ref b1), .val (.int (f1n4_0 i4 (2 : Int32))), .unset, .unset] [(.int (16384 : Int32)), (.int i4)])) _
              refine XS.icmpYes X157.here hx rfl (pc0 := 120) (pc' := 129) rfl (hb hby at_120) rfl (flt hm90_147).2.1 (by decide) (by decide) kt
            refine own_step (T' := T157) (f' := (mkF m 133 #[.val (.int i0), .val (.int i1), .val (.int i2), .val (.int i3), .val (.int i4), .val (.int (2 : Int32)), .val (.int i6), .val (.ref b1), .val (.int (f1n4_0 i4 (2 : Int32))), .unset, .unset] [(.int (2097152 : Int32)), (.int i4)])) (fun t kt => ?_) ?_
            · show Steps p.tables e below (T157.setTop (mkF m 129 #[.val (.int i0), .val (.int i1), .val (.int i2), .val (.int i3), .val (.int i4), .val (.int (2 : Int32)), .val (.int i6), .val (.ref b1), .val (.int (f1n4_0 i4 (2 : Int32))), .unset, .unset] [])) _
              refine XS.iload X157.here hx rfl (hb hby at_129) rfl ?_
              show Steps p.tables e below (T157.setTop (mkF m 131 #[.val (.int i0), .val (.int i1), .val (.int i2), .val (.int i3), .val (.int i4), .val (.int (2 : Int32)), .val (.int i6), .val (.ref b1), .val (.int (f1n4_0 i4 (2 : Int32))), .unset, .unset] [(.int i4)])) _
              refine X157.ldcInt hx hown (mvT hZ (hw _ (List.mem_of_getElem? (i := 10) rfl))) (g := (mkF m 131 #[.val (.int i0), .val (.int i1), .val (.int i2), .val (.int i3), .val (.int i4), .val (.int (2 : Int32)), .val (.int i6), .val (.ref b1), .val (.int (f1n4_0 i4 (2 : Int32))), .unset, .unset] [(.int i4)])) rfl (hb hby at_131) _ ?_
              exact kt
            refine own_step (T' := T157) (f' := (mkF m 142 #[.val (.int i0), .val (.int i1), .val (.int i2), .val (.int i3), .val (.int i4), .val (.int (2 : Int32)), .val (.int i6), .val (.ref b1), .val (.int (f1n4_0 i4 (2 : Int32))), .unset, .unset] [])) (fun t kt => ?_) ?_
            · show Steps p.tables e below (T157.setTop (mkF m 133 #[.val (.int i0), .val (.int i1), .val (.int i2), .val (.int i3), .val (.int i4), .val (.int (2 : Int32)), .val (.int i6), .val (.ref b1), .val (.int (f1n4_0 i4 (2 : Int32))), .unset, .unset] [(.int (2097152 : Int32)), (.int i4)])) _
              refine XS.icmpYes X157.here hx rfl (pc0 := 133) (pc' := 142) rfl (hb hby at_133) rfl (flt hm90_151).2.1 (by decide) (by decide) kt
            refine own_step (T' := T157) (f' := (mkF m 146 #[.val (.int i0), .val (.int i1), .val (.int i2), .val (.int i3), .val (.int i4), .val (.int (2 : Int32)), .val (.int i6), .val (.ref b1), .val (.int (f1n4_0 i4 (2 : Int32))), .unset, .unset] [(.int (268435456 : Int32)), (.int i4)])) (fun t kt => ?_) ?_
            · show Steps p.tables e below (T157.setTop (mkF m 142 #[.val (.int i0), .val (.int i1), .val (.int i2), .val (.int i3), .val (.int i4), .val (.int (2 : Int32)), .val (.int i6), .val (.ref b1), .val (.int (f1n4_0 i4 (2 : Int32))), .unset, .unset] [])) _
              refine XS.iload X157.here hx rfl (hb hby at_142) rfl ?_
              show Steps p.tables e below (T157.setTop (mkF m 144 #[.val (.int i0), .val (.int i1), .val (.int i2), .val (.int i3), .val (.int i4), .val (.int (2 : Int32)), .val (.int i6), .val (.ref b1), .val (.int (f1n4_0 i4 (2 : Int32))), .unset, .unset] [(.int i4)])) _
              refine X157.ldcInt hx hown (mvT hZ (hw _ (List.mem_of_getElem? (i := 11) rfl))) (g := (mkF m 144 #[.val (.int i0), .val (.int i1), .val (.int i2), .val (.int i3), .val (.int i4), .val (.int (2 : Int32)), .val (.int i6), .val (.ref b1), .val (.int (f1n4_0 i4 (2 : Int32))), .unset, .unset] [(.int i4)])) rfl (hb hby at_144) _ ?_
              exact kt
            refine own_step (T' := T157) (f' := (mkF m 149 #[.val (.int i0), .val (.int i1), .val (.int i2), .val (.int i3), .val (.int i4), .val (.int (2 : Int32)), .val (.int i6), .val (.ref b1), .val (.int (f1n4_0 i4 (2 : Int32))), .unset, .unset] [])) (fun t kt => ?_) ?_
            · show Steps p.tables e below (T157.setTop (mkF m 146 #[.val (.int i0), .val (.int i1), .val (.int i2), .val (.int i3), .val (.int i4), .val (.int (2 : Int32)), .val (.int i6), .val (.ref b1), .val (.int (f1n4_0 i4 (2 : Int32))), .unset, .unset] [(.int (268435456 : Int32)), (.int i4)])) _
              refine XS.icmpNo X157.here hx rfl (hb hby at_146) rfl (tlt hm90_156).2.1 kt
            refine own_step (T' := T157) (f' := (mkF m 158 #[.val (.int i0), .val (.int i1), .val (.int i2), .val (.int i3), .val (.int i4), .val (.int (2 : Int32)), .val (.int i6), .val (.ref b1), .val (.int (f1n4_0 i4 (2 : Int32))), .val (.int (4 : Int32)), .unset] [])) (fun t kt => ?_) ?_
            · show Steps p.tables e below (T157.setTop (mkF m 149 #[.val (.int i0), .val (.int i1), .val (.int i2), .val (.int i3), .val (.int i4), .val (.int (2 : Int32)), .val (.int i6), .val (.ref b1), .val (.int (f1n4_0 i4 (2 : Int32))), .unset, .unset] [])) _
              refine XS.iconst X157.here hx rfl (hb hby at_149) ?_
              show Steps p.tables e below (T157.setTop (mkF m 150 #[.val (.int i0), .val (.int i1), .val (.int i2), .val (.int i3), .val (.int i4), .val (.int (2 : Int32)), .val (.int i6), .val (.ref b1), .val (.int (f1n4_0 i4 (2 : Int32))), .unset, .unset] [(.int (4 : Int32))])) _
              refine XS.istore X157.here hx rfl (hb hby at_150) rfl (l' := #[.val (.int i0), .val (.int i1), .val (.int i2), .val (.int i3), .val (.int i4), .val (.int (2 : Int32)), .val (.int i6), .val (.ref b1), .val (.int (f1n4_0 i4 (2 : Int32))), .val (.int (4 : Int32)), .unset]) rfl ?_
              show Steps p.tables e below (T157.setTop (mkF m 152 #[.val (.int i0), .val (.int i1), .val (.int i2), .val (.int i3), .val (.int i4), .val (.int (2 : Int32)), .val (.int i6), .val (.ref b1), .val (.int (f1n4_0 i4 (2 : Int32))), .val (.int (4 : Int32)), .unset] [])) _
              refine XS.goto X157.here hx rfl (pc0 := 152) (pc' := 158) rfl (hb hby at_152) (by decide) (by decide) ?_
              exact kt
            exact b0_158 i0 i1 i2 i3 i4 (2 : Int32) i6 b1 (f1n4_0 i4 (2 : Int32)) (4 : Int32) (nar .byte i6) (nar .byte i6) (nar .byte ((i4 ||| (128 : Int32)).toInt8.toInt32)) (nar .byte ((((i4.toUInt32 >>> ((7 : Int32) &&& 31).toUInt32).toInt32) ||| (128 : Int32)).toInt8.toInt32)) (nar .byte ((((((i4.toUInt32 >>> ((7 : Int32) &&& 31).toUInt32).toInt32).toUInt32 >>> ((7 : Int32) &&& 31).toUInt32).toInt32) ||| (128 : Int32)).toInt8.toInt32)) (nar .byte (((((((i4.toUInt32 >>> ((7 : Int32) &&& 31).toUInt32).toInt32).toUInt32 >>> ((7 : Int32) &&& 31).toUInt32).toInt32).toUInt32 >>> ((7 : Int32) &&& 31).toUInt32).toInt32).toInt8.toInt32)) (nar .byte i6) (nar .byte i6) (nar .byte i6) (nar .byte i6) X157 hx hZ hw hby hml hown hret hlk rfl N157 Ab1_157 g1 Z157 hr
          · replace hr := hr.trans (if_neg hm90_156)
            refine own_step (T' := T11) (f' := (mkF m 96 #[.val (.int i0), .val (.int i1), .val (.int i2), .val (.int i3), .val (.int i4), .val (.int (2 : Int32)), .val (.int i6), .val (.ref b1), .unset, .unset, .unset] [(.int (2 : Int32)), (.ref b1), (.int i4)])) (fun t kt => ?_) ?_
            · show Steps p.tables e below (T11.setTop (mkF m 90 #[.val (.int i0), .val (.int i1), .val (.int i2), .val (.int i3), .val (.int i4), .val (.int (2 : Int32)), .val (.int i6), .val (.ref b1), .unset, .unset, .unset] [])) _
              refine XS.iload X11.here hx rfl (hb hby at_90) rfl ?_
              show Steps p.tables e below (T11.setTop (mkF m 92 #[.val (.int i0), .val (.int i1), .val (.int i2), .val (.int i3), .val (.int i4), .val (.int (2 : Int32)), .val (.int i6), .val (.ref b1), .unset, .unset, .unset] [(.int i4)])) _
              refine XS.aload X11.here hx rfl (hb hby at_92) rfl rfl ?_
              show Steps p.tables e below (T11.setTop (mkF m 94 #[.val (.int i0), .val (.int i1), .val (.int i2), .val (.int i3), .val (.int i4), .val (.int (2 : Int32)), .val (.int i6), .val (.ref b1), .unset, .unset, .unset] [(.ref b1), (.int i4)])) _
              refine XS.iload X11.here hx rfl (hb hby at_94) rfl ?_
              exact kt
            obtain ⟨_, _, ⟨T162, L162, k162, n162⟩, -, X162, ⟨Lc162, hQ162, l162, y162, z162⟩, st162⟩ := Jvm.LawKit.callS X11 hx (y := (⟨"hotstate/sort/VarInts", "write", "(I[BI)I"⟩ : MethodName)) hown (mvT hZ (hw _ (List.mem_of_getElem? (i := 2) rfl))) (mvT hZ (hw _ (List.mem_of_getElem? (i := 3) rfl))) (mvT hZ (hw _ (List.mem_of_getElem? (i := 4) rfl))) (mvT hZ (hw _ (List.mem_of_getElem? (i := 5) rfl))) (by decide) (backOf (W := 0) (rm1n5 l Z a0 hw [] i4 b1 (2 : Int32) [(.int (nar .byte i6)), (.int (nar .byte i6)), (.int (nar .byte i6)), (.int (nar .byte i6)), (.int (nar .byte i6)), (.int (nar .byte i6)), (.int (nar .byte i6)), (.int (nar .byte i6)), (.int (nar .byte i6)), (.int (nar .byte i6))] h11 n0 Ab1_11 g1 rfl (by decide) hm90_144 (own_ge1 i4 hpos hm90_147) (own_ge2 i4 hpos hm90_151) (own_ge3 i4 hpos hm90_156) (own_lt4 i4 hpos) Z11) hZ (hw _ (List.mem_of_getElem? (i := 5) rfl)) (hw _ (List.mem_of_getElem? (i := 4) rfl)) (by decide) (by decide)) (g := (mkF m 96 #[.val (.int i0), .val (.int i1), .val (.int i2), .val (.int i3), .val (.int i4), .val (.int (2 : Int32)), .val (.int i6), .val (.ref b1), .unset, .unset, .unset] [(.int (2 : Int32)), (.ref b1), (.int i4)])) rfl (by rw [hml]; rfl) (argsL := [(.int i4), (.ref b1), (.int (2 : Int32))]) (rest := []) (lenOf pd1 rfl) rfl (by show 2 * 0 + _ ≤ _; exact Nat.le_of_eq rfl) (hb hby at_96) (fun _ _ => ⟨rfl, e11, (by decide : 1 + 0 ≤ _), (by decide : 10 + 0 ≤ _)⟩)
            dsimp only [Pt.U, Pt.locs, Pt.cells, Pt.slots] at X162 l162 y162 z162 st162 hQ162
            subst l162 y162 z162
            obtain ⟨rfl, Nq162, Aw162, Z162⟩ := hQ162
            have N162 := Fr.app N11 Nq162
            have Ab1_162 : own_A Z T162.heap b1 .byte [(.int (nar .byte i6)), (.int (nar .byte i6)), (.int (nar .byte ((i4 ||| (128 : Int32)).toInt8.toInt32))), (.int (nar .byte ((((i4.toUInt32 >>> ((7 : Int32) &&& 31).toUInt32).toInt32) ||| (128 : Int32)).toInt8.toInt32))), (.int (nar .byte ((((((i4.toUInt32 >>> ((7 : Int32) &&& 31).toUInt32).toInt32).toUInt32 >>> ((7 : Int32) &&& 31).toUInt32).toInt32) ||| (128 : Int32)).toInt8.toInt32))), (.int (nar .byte ((((((((i4.toUInt32 >>> ((7 : Int32) &&& 31).toUInt32).toInt32).toUInt32 >>> ((7 : Int32) &&& 31).toUInt32).toInt32).toUInt32 >>> ((7 : Int32) &&& 31).toUInt32).toInt32) ||| (128 : Int32)).toInt8.toInt32))), (.int (nar .byte (((((((((i4.toUInt32 >>> ((7 : Int32) &&& 31).toUInt32).toInt32).toUInt32 >>> ((7 : Int32) &&& 31).toUInt32).toInt32).toUInt32 >>> ((7 : Int32) &&& 31).toUInt32).toInt32).toUInt32 >>> ((7 : Int32) &&& 31).toUInt32).toInt32).toInt8.toInt32))), (.int (nar .byte i6)), (.int (nar .byte i6)), (.int (nar .byte i6))] := Aw162
            refine own_step (T' := T162) (f' := (mkF m 99 #[.val (.int i0), .val (.int i1), .val (.int i2), .val (.int i3), .val (.int i4), .val (.int (2 : Int32)), .val (.int i6), .val (.ref b1), .unset, .unset, .unset] [(.int (f1n5_0 i4 (2 : Int32)))])) st162 ?_
            refine own_step (T' := T162) (f' := (mkF m 106 #[.val (.int i0), .val (.int i1), .val (.int i2), .val (.int i3), .val (.int i4), .val (.int (2 : Int32)), .val (.int i6), .val (.ref b1), .val (.int (f1n5_0 i4 (2 : Int32))), .unset, .unset] [(.int (128 : Int32)), (.int i4)])) (fun t kt => ?_) ?_
            · show Steps p.tables e below (T162.setTop (mkF m 99 #[.val (.int i0), .val (.int i1), .val (.int i2), .val (.int i3), .val (.int i4), .val (.int (2 : Int32)), .val (.int i6), .val (.ref b1), .unset, .unset, .unset] [(.int (f1n5_0 i4 (2 : Int32)))])) _
              refine XS.istore X162.here hx rfl (hb hby at_99) rfl (l' := #[.val (.int i0), .val (.int i1), .val (.int i2), .val (.int i3), .val (.int i4), .val (.int (2 : Int32)), .val (.int i6), .val (.ref b1), .val (.int (f1n5_0 i4 (2 : Int32))), .unset, .unset]) rfl ?_
              show Steps p.tables e below (T162.setTop (mkF m 101 #[.val (.int i0), .val (.int i1), .val (.int i2), .val (.int i3), .val (.int i4), .val (.int (2 : Int32)), .val (.int i6), .val (.ref b1), .val (.int (f1n5_0 i4 (2 : Int32))), .unset, .unset] [])) _
              refine XS.iload X162.here hx rfl (hb hby at_101) rfl ?_
              show Steps p.tables e below (T162.setTop (mkF m 103 #[.val (.int i0), .val (.int i1), .val (.int i2), .val (.int i3), .val (.int i4), .val (.int (2 : Int32)), .val (.int i6), .val (.ref b1), .val (.int (f1n5_0 i4 (2 : Int32))), .unset, .unset] [(.int i4)])) _
              refine XS.sipush X162.here hx rfl (hb hby at_103) ?_
              exact kt
            refine own_step (T' := T162) (f' := (mkF m 115 #[.val (.int i0), .val (.int i1), .val (.int i2), .val (.int i3), .val (.int i4), .val (.int (2 : Int32)), .val (.int i6), .val (.ref b1), .val (.int (f1n5_0 i4 (2 : Int32))), .unset, .unset] [])) (fun t kt => ?_) ?_
            · show Steps p.tables e below (T162.setTop (mkF m 106 #[.val (.int i0), .val (.int i1), .val (.int i2), .val (.int i3), .val (.int i4), .val (.int (2 : Int32)), .val (.int i6), .val (.ref b1), .val (.int (f1n5_0 i4 (2 : Int32))), .unset, .unset] [(.int (128 : Int32)), (.int i4)])) _
              refine XS.icmpYes X162.here hx rfl (pc0 := 106) (pc' := 115) rfl (hb hby at_106) rfl (flt hm90_144).2.1 (by decide) (by decide) kt
            refine own_step (T' := T162) (f' := (mkF m 120 #[.val (.int i0), .val (.int i1), .val (.int i2), .val (.int i3), .val (.int i4), .val (.int (2 : Int32)), .val (.int i6), .val (.ref b1), .val (.int (f1n5_0 i4 (2 : Int32))), .unset, .unset] [(.int (16384 : Int32)), (.int i4)])) (fun t kt => ?_) ?_
            · show Steps p.tables e below (T162.setTop (mkF m 115 #[.val (.int i0), .val (.int i1), .val (.int i2), .val (.int i3), .val (.int i4), .val (.int (2 : Int32)), .val (.int i6), .val (.ref b1), .val (.int (f1n5_0 i4 (2 : Int32))), .unset, .unset] [])) _
              refine XS.iload X162.here hx rfl (hb hby at_115) rfl ?_
              show Steps p.tables e below (T162.setTop (mkF m 117 #[.val (.int i0), .val (.int i1), .val (.int i2), .val (.int i3), .val (.int i4), .val (.int (2 : Int32)), .val (.int i6), .val (.ref b1), .val (.int (f1n5_0 i4 (2 : Int32))), .unset, .unset] [(.int i4)])) _
              refine XS.sipush X162.here hx rfl (hb hby at_117) ?_
              exact kt
            refine own_step (T' := T162) (f' := (mkF m 129 #[.val (.int i0), .val (.int i1), .val (.int i2), .val (.int i3), .val (.int i4), .val (.int (2 : Int32)), .val (.int i6), .val (.ref b1), .val (.int (f1n5_0 i4 (2 : Int32))), .unset, .unset] [])) (fun t kt => ?_) ?_
            · show Steps p.tables e below (T162.setTop (mkF m 120 #[.val (.int i0), .val (.int i1), .val (.int i2), .val (.int i3), .val (.int i4), .val (.int (2 : Int32)), .val (.int i6), .val (.ref b1), .val (.int (f1n5_0 i4 (2 : Int32))), .unset, .unset] [(.int (16384 : Int32)), (.int i4)])) _
              refine XS.icmpYes X162.here hx rfl (pc0 := 120) (pc' := 129) rfl (hb hby at_120) rfl (flt hm90_147).2.1 (by decide) (by decide) kt
            refine own_step (T' := T162) (f' := (mkF m 133 #[.val (.int i0), .val (.int i1), .val (.int i2), .val (.int i3), .val (.int i4), .val (.int (2 : Int32)), .val (.int i6), .val (.ref b1), .val (.int (f1n5_0 i4 (2 : Int32))), .unset, .unset] [(.int (2097152 : Int32)), (.int i4)])) (fun t kt => ?_) ?_
            · show Steps p.tables e below (T162.setTop (mkF m 129 #[.val (.int i0), .val (.int i1), .val (.int i2), .val (.int i3), .val (.int i4), .val (.int (2 : Int32)), .val (.int i6), .val (.ref b1), .val (.int (f1n5_0 i4 (2 : Int32))), .unset, .unset] [])) _
              refine XS.iload X162.here hx rfl (hb hby at_129) rfl ?_
              show Steps p.tables e below (T162.setTop (mkF m 131 #[.val (.int i0), .val (.int i1), .val (.int i2), .val (.int i3), .val (.int i4), .val (.int (2 : Int32)), .val (.int i6), .val (.ref b1), .val (.int (f1n5_0 i4 (2 : Int32))), .unset, .unset] [(.int i4)])) _
              refine X162.ldcInt hx hown (mvT hZ (hw _ (List.mem_of_getElem? (i := 10) rfl))) (g := (mkF m 131 #[.val (.int i0), .val (.int i1), .val (.int i2), .val (.int i3), .val (.int i4), .val (.int (2 : Int32)), .val (.int i6), .val (.ref b1), .val (.int (f1n5_0 i4 (2 : Int32))), .unset, .unset] [(.int i4)])) rfl (hb hby at_131) _ ?_
              exact kt
            refine own_step (T' := T162) (f' := (mkF m 142 #[.val (.int i0), .val (.int i1), .val (.int i2), .val (.int i3), .val (.int i4), .val (.int (2 : Int32)), .val (.int i6), .val (.ref b1), .val (.int (f1n5_0 i4 (2 : Int32))), .unset, .unset] [])) (fun t kt => ?_) ?_
            · show Steps p.tables e below (T162.setTop (mkF m 133 #[.val (.int i0), .val (.int i1), .val (.int i2), .val (.int i3), .val (.int i4), .val (.int (2 : Int32)), .val (.int i6), .val (.ref b1), .val (.int (f1n5_0 i4 (2 : Int32))), .unset, .unset] [(.int (2097152 : Int32)), (.int i4)])) _
              refine XS.icmpYes X162.here hx rfl (pc0 := 133) (pc' := 142) rfl (hb hby at_133) rfl (flt hm90_151).2.1 (by decide) (by decide) kt
            refine own_step (T' := T162) (f' := (mkF m 146 #[.val (.int i0), .val (.int i1), .val (.int i2), .val (.int i3), .val (.int i4), .val (.int (2 : Int32)), .val (.int i6), .val (.ref b1), .val (.int (f1n5_0 i4 (2 : Int32))), .unset, .unset] [(.int (268435456 : Int32)), (.int i4)])) (fun t kt => ?_) ?_
            · show Steps p.tables e below (T162.setTop (mkF m 142 #[.val (.int i0), .val (.int i1), .val (.int i2), .val (.int i3), .val (.int i4), .val (.int (2 : Int32)), .val (.int i6), .val (.ref b1), .val (.int (f1n5_0 i4 (2 : Int32))), .unset, .unset] [])) _
              refine XS.iload X162.here hx rfl (hb hby at_142) rfl ?_
              show Steps p.tables e below (T162.setTop (mkF m 144 #[.val (.int i0), .val (.int i1), .val (.int i2), .val (.int i3), .val (.int i4), .val (.int (2 : Int32)), .val (.int i6), .val (.ref b1), .val (.int (f1n5_0 i4 (2 : Int32))), .unset, .unset] [(.int i4)])) _
              refine X162.ldcInt hx hown (mvT hZ (hw _ (List.mem_of_getElem? (i := 11) rfl))) (g := (mkF m 144 #[.val (.int i0), .val (.int i1), .val (.int i2), .val (.int i3), .val (.int i4), .val (.int (2 : Int32)), .val (.int i6), .val (.ref b1), .val (.int (f1n5_0 i4 (2 : Int32))), .unset, .unset] [(.int i4)])) rfl (hb hby at_144) _ ?_
              exact kt
            refine own_step (T' := T162) (f' := (mkF m 155 #[.val (.int i0), .val (.int i1), .val (.int i2), .val (.int i3), .val (.int i4), .val (.int (2 : Int32)), .val (.int i6), .val (.ref b1), .val (.int (f1n5_0 i4 (2 : Int32))), .unset, .unset] [])) (fun t kt => ?_) ?_
            · show Steps p.tables e below (T162.setTop (mkF m 146 #[.val (.int i0), .val (.int i1), .val (.int i2), .val (.int i3), .val (.int i4), .val (.int (2 : Int32)), .val (.int i6), .val (.ref b1), .val (.int (f1n5_0 i4 (2 : Int32))), .unset, .unset] [(.int (268435456 : Int32)), (.int i4)])) _
              refine XS.icmpYes X162.here hx rfl (pc0 := 146) (pc' := 155) rfl (hb hby at_146) rfl (flt hm90_156).2.1 (by decide) (by decide) kt
            refine own_step (T' := T162) (f' := (mkF m 158 #[.val (.int i0), .val (.int i1), .val (.int i2), .val (.int i3), .val (.int i4), .val (.int (2 : Int32)), .val (.int i6), .val (.ref b1), .val (.int (f1n5_0 i4 (2 : Int32))), .val (.int (5 : Int32)), .unset] [])) (fun t kt => ?_) ?_
            · show Steps p.tables e below (T162.setTop (mkF m 155 #[.val (.int i0), .val (.int i1), .val (.int i2), .val (.int i3), .val (.int i4), .val (.int (2 : Int32)), .val (.int i6), .val (.ref b1), .val (.int (f1n5_0 i4 (2 : Int32))), .unset, .unset] [])) _
              refine XS.iconst X162.here hx rfl (hb hby at_155) ?_
              show Steps p.tables e below (T162.setTop (mkF m 156 #[.val (.int i0), .val (.int i1), .val (.int i2), .val (.int i3), .val (.int i4), .val (.int (2 : Int32)), .val (.int i6), .val (.ref b1), .val (.int (f1n5_0 i4 (2 : Int32))), .unset, .unset] [(.int (5 : Int32))])) _
              refine XS.istore X162.here hx rfl (hb hby at_156) rfl (l' := #[.val (.int i0), .val (.int i1), .val (.int i2), .val (.int i3), .val (.int i4), .val (.int (2 : Int32)), .val (.int i6), .val (.ref b1), .val (.int (f1n5_0 i4 (2 : Int32))), .val (.int (5 : Int32)), .unset]) rfl ?_
              exact kt
            exact b0_158 i0 i1 i2 i3 i4 (2 : Int32) i6 b1 (f1n5_0 i4 (2 : Int32)) (5 : Int32) (nar .byte i6) (nar .byte i6) (nar .byte ((i4 ||| (128 : Int32)).toInt8.toInt32)) (nar .byte ((((i4.toUInt32 >>> ((7 : Int32) &&& 31).toUInt32).toInt32) ||| (128 : Int32)).toInt8.toInt32)) (nar .byte ((((((i4.toUInt32 >>> ((7 : Int32) &&& 31).toUInt32).toInt32).toUInt32 >>> ((7 : Int32) &&& 31).toUInt32).toInt32) ||| (128 : Int32)).toInt8.toInt32)) (nar .byte ((((((((i4.toUInt32 >>> ((7 : Int32) &&& 31).toUInt32).toInt32).toUInt32 >>> ((7 : Int32) &&& 31).toUInt32).toInt32).toUInt32 >>> ((7 : Int32) &&& 31).toUInt32).toInt32) ||| (128 : Int32)).toInt8.toInt32)) (nar .byte (((((((((i4.toUInt32 >>> ((7 : Int32) &&& 31).toUInt32).toInt32).toUInt32 >>> ((7 : Int32) &&& 31).toUInt32).toInt32).toUInt32 >>> ((7 : Int32) &&& 31).toUInt32).toInt32).toUInt32 >>> ((7 : Int32) &&& 31).toUInt32).toInt32).toInt8.toInt32)) (nar .byte i6) (nar .byte i6) (nar .byte i6) X162 hx hZ hw hby hml hown hret hlk rfl N162 Ab1_162 g1 Z162 hr
  · replace hr := hr.trans ((if_neg (by decide)).trans ((if_neg (by decide)).trans ((if_neg (by decide)).trans (if_pos rfl))))
    by_cases hm90_167 : i4 < (128 : Int32)
    · replace hr := hr.trans (if_pos hm90_167)
      refine own_step (T' := T11) (f' := (mkF m 96 #[.val (.int i0), .val (.int i1), .val (.int i2), .val (.int i3), .val (.int i4), .val (.int (3 : Int32)), .val (.int i6), .val (.ref b1), .unset, .unset, .unset] [(.int (3 : Int32)), (.ref b1), (.int i4)])) (fun t kt => ?_) ?_
      · show Steps p.tables e below (T11.setTop (mkF m 90 #[.val (.int i0), .val (.int i1), .val (.int i2), .val (.int i3), .val (.int i4), .val (.int (3 : Int32)), .val (.int i6), .val (.ref b1), .unset, .unset, .unset] [])) _
        refine XS.iload X11.here hx rfl (hb hby at_90) rfl ?_
        show Steps p.tables e below (T11.setTop (mkF m 92 #[.val (.int i0), .val (.int i1), .val (.int i2), .val (.int i3), .val (.int i4), .val (.int (3 : Int32)), .val (.int i6), .val (.ref b1), .unset, .unset, .unset] [(.int i4)])) _
        refine XS.aload X11.here hx rfl (hb hby at_92) rfl rfl ?_
        show Steps p.tables e below (T11.setTop (mkF m 94 #[.val (.int i0), .val (.int i1), .val (.int i2), .val (.int i3), .val (.int i4), .val (.int (3 : Int32)), .val (.int i6), .val (.ref b1), .unset, .unset, .unset] [(.ref b1), (.int i4)])) _
        refine XS.iload X11.here hx rfl (hb hby at_94) rfl ?_
        exact kt
      obtain ⟨_, _, ⟨T168, L168, k168, n168⟩, -, X168, ⟨Lc168, hQ168, l168, y168, z168⟩, st168⟩ := Jvm.LawKit.callS X11 hx (y := (⟨"hotstate/sort/VarInts", "write", "(I[BI)I"⟩ : MethodName)) hown (mvT hZ (hw _ (List.mem_of_getElem? (i := 2) rfl))) (mvT hZ (hw _ (List.mem_of_getElem? (i := 3) rfl))) (mvT hZ (hw _ (List.mem_of_getElem? (i := 4) rfl))) (mvT hZ (hw _ (List.mem_of_getElem? (i := 5) rfl))) (by decide) (backOf (W := 0) (rm1n1 l Z a0 hw [] i4 b1 (3 : Int32) [(.int (nar .byte i6)), (.int (nar .byte i6)), (.int (nar .byte i6)), (.int (nar .byte i6)), (.int (nar .byte i6)), (.int (nar .byte i6)), (.int (nar .byte i6)), (.int (nar .byte i6)), (.int (nar .byte i6)), (.int (nar .byte i6))] h11 n0 Ab1_11 g1 rfl (by decide) hm90_167 Z11) hZ (hw _ (List.mem_of_getElem? (i := 5) rfl)) (hw _ (List.mem_of_getElem? (i := 4) rfl)) (by decide) (by decide)) (g := (mkF m 96 #[.val (.int i0), .val (.int i1), .val (.int i2), .val (.int i3), .val (.int i4), .val (.int (3 : Int32)), .val (.int i6), .val (.ref b1), .unset, .unset, .unset] [(.int (3 : Int32)), (.ref b1), (.int i4)])) rfl (by rw [hml]; rfl) (argsL := [(.int i4), (.ref b1), (.int (3 : Int32))]) (rest := []) (lenOf pd1 rfl) rfl (by show 2 * 0 + _ ≤ _; exact Nat.le_of_eq rfl) (hb hby at_96) (fun _ _ => ⟨rfl, e11, (by decide : 1 + 0 ≤ _), (by decide : 10 + 0 ≤ _)⟩)
      dsimp only [Pt.U, Pt.locs, Pt.cells, Pt.slots] at X168 l168 y168 z168 st168 hQ168
      subst l168 y168 z168
      obtain ⟨rfl, Nq168, Aw168, Z168⟩ := hQ168
      have N168 := Fr.app N11 Nq168
      have Ab1_168 : own_A Z T168.heap b1 .byte [(.int (nar .byte i6)), (.int (nar .byte i6)), (.int (nar .byte i6)), (.int (nar .byte (i4.toInt8.toInt32))), (.int (nar .byte i6)), (.int (nar .byte i6)), (.int (nar .byte i6)), (.int (nar .byte i6)), (.int (nar .byte i6)), (.int (nar .byte i6))] := Aw168
      refine own_step (T' := T168) (f' := (mkF m 99 #[.val (.int i0), .val (.int i1), .val (.int i2), .val (.int i3), .val (.int i4), .val (.int (3 : Int32)), .val (.int i6), .val (.ref b1), .unset, .unset, .unset] [(.int (f1n1_0 i4 (3 : Int32)))])) st168 ?_
      refine own_step (T' := T168) (f' := (mkF m 106 #[.val (.int i0), .val (.int i1), .val (.int i2), .val (.int i3), .val (.int i4), .val (.int (3 : Int32)), .val (.int i6), .val (.ref b1), .val (.int (f1n1_0 i4 (3 : Int32))), .unset, .unset] [(.int (128 : Int32)), (.int i4)])) (fun t kt => ?_) ?_
      · show Steps p.tables e below (T168.setTop (mkF m 99 #[.val (.int i0), .val (.int i1), .val (.int i2), .val (.int i3), .val (.int i4), .val (.int (3 : Int32)), .val (.int i6), .val (.ref b1), .unset, .unset, .unset] [(.int (f1n1_0 i4 (3 : Int32)))])) _
        refine XS.istore X168.here hx rfl (hb hby at_99) rfl (l' := #[.val (.int i0), .val (.int i1), .val (.int i2), .val (.int i3), .val (.int i4), .val (.int (3 : Int32)), .val (.int i6), .val (.ref b1), .val (.int (f1n1_0 i4 (3 : Int32))), .unset, .unset]) rfl ?_
        show Steps p.tables e below (T168.setTop (mkF m 101 #[.val (.int i0), .val (.int i1), .val (.int i2), .val (.int i3), .val (.int i4), .val (.int (3 : Int32)), .val (.int i6), .val (.ref b1), .val (.int (f1n1_0 i4 (3 : Int32))), .unset, .unset] [])) _
        refine XS.iload X168.here hx rfl (hb hby at_101) rfl ?_
        show Steps p.tables e below (T168.setTop (mkF m 103 #[.val (.int i0), .val (.int i1), .val (.int i2), .val (.int i3), .val (.int i4), .val (.int (3 : Int32)), .val (.int i6), .val (.ref b1), .val (.int (f1n1_0 i4 (3 : Int32))), .unset, .unset] [(.int i4)])) _
        refine XS.sipush X168.here hx rfl (hb hby at_103) ?_
        exact kt
      refine own_step (T' := T168) (f' := (mkF m 109 #[.val (.int i0), .val (.int i1), .val (.int i2), .val (.int i3), .val (.int i4), .val (.int (3 : Int32)), .val (.int i6), .val (.ref b1), .val (.int (f1n1_0 i4 (3 : Int32))), .unset, .unset] [])) (fun t kt => ?_) ?_
      · show Steps p.tables e below (T168.setTop (mkF m 106 #[.val (.int i0), .val (.int i1), .val (.int i2), .val (.int i3), .val (.int i4), .val (.int (3 : Int32)), .val (.int i6), .val (.ref b1), .val (.int (f1n1_0 i4 (3 : Int32))), .unset, .unset] [(.int (128 : Int32)), (.int i4)])) _
        refine XS.icmpNo X168.here hx rfl (hb hby at_106) rfl (tlt hm90_167).2.1 kt
      refine own_step (T' := T168) (f' := (mkF m 158 #[.val (.int i0), .val (.int i1), .val (.int i2), .val (.int i3), .val (.int i4), .val (.int (3 : Int32)), .val (.int i6), .val (.ref b1), .val (.int (f1n1_0 i4 (3 : Int32))), .val (.int (1 : Int32)), .unset] [])) (fun t kt => ?_) ?_
      · show Steps p.tables e below (T168.setTop (mkF m 109 #[.val (.int i0), .val (.int i1), .val (.int i2), .val (.int i3), .val (.int i4), .val (.int (3 : Int32)), .val (.int i6), .val (.ref b1), .val (.int (f1n1_0 i4 (3 : Int32))), .unset, .unset] [])) _
        refine XS.iconst X168.here hx rfl (hb hby at_109) ?_
        show Steps p.tables e below (T168.setTop (mkF m 110 #[.val (.int i0), .val (.int i1), .val (.int i2), .val (.int i3), .val (.int i4), .val (.int (3 : Int32)), .val (.int i6), .val (.ref b1), .val (.int (f1n1_0 i4 (3 : Int32))), .unset, .unset] [(.int (1 : Int32))])) _
        refine XS.istore X168.here hx rfl (hb hby at_110) rfl (l' := #[.val (.int i0), .val (.int i1), .val (.int i2), .val (.int i3), .val (.int i4), .val (.int (3 : Int32)), .val (.int i6), .val (.ref b1), .val (.int (f1n1_0 i4 (3 : Int32))), .val (.int (1 : Int32)), .unset]) rfl ?_
        show Steps p.tables e below (T168.setTop (mkF m 112 #[.val (.int i0), .val (.int i1), .val (.int i2), .val (.int i3), .val (.int i4), .val (.int (3 : Int32)), .val (.int i6), .val (.ref b1), .val (.int (f1n1_0 i4 (3 : Int32))), .val (.int (1 : Int32)), .unset] [])) _
        refine XS.goto X168.here hx rfl (pc0 := 112) (pc' := 158) rfl (hb hby at_112) (by decide) (by decide) ?_
        exact kt
      exact b0_158 i0 i1 i2 i3 i4 (3 : Int32) i6 b1 (f1n1_0 i4 (3 : Int32)) (1 : Int32) (nar .byte i6) (nar .byte i6) (nar .byte i6) (nar .byte (i4.toInt8.toInt32)) (nar .byte i6) (nar .byte i6) (nar .byte i6) (nar .byte i6) (nar .byte i6) (nar .byte i6) X168 hx hZ hw hby hml hown hret hlk rfl N168 Ab1_168 g1 Z168 hr
    · replace hr := hr.trans (if_neg hm90_167)
      by_cases hm90_170 : i4 < (16384 : Int32)
      · replace hr := hr.trans (if_pos hm90_170)
        refine own_step (T' := T11) (f' := (mkF m 96 #[.val (.int i0), .val (.int i1), .val (.int i2), .val (.int i3), .val (.int i4), .val (.int (3 : Int32)), .val (.int i6), .val (.ref b1), .unset, .unset, .unset] [(.int (3 : Int32)), (.ref b1), (.int i4)])) (fun t kt => ?_) ?_
        · show Steps p.tables e below (T11.setTop (mkF m 90 #[.val (.int i0), .val (.int i1), .val (.int i2), .val (.int i3), .val (.int i4), .val (.int (3 : Int32)), .val (.int i6), .val (.ref b1), .unset, .unset, .unset] [])) _
          refine XS.iload X11.here hx rfl (hb hby at_90) rfl ?_
          show Steps p.tables e below (T11.setTop (mkF m 92 #[.val (.int i0), .val (.int i1), .val (.int i2), .val (.int i3), .val (.int i4), .val (.int (3 : Int32)), .val (.int i6), .val (.ref b1), .unset, .unset, .unset] [(.int i4)])) _
          refine XS.aload X11.here hx rfl (hb hby at_92) rfl rfl ?_
          show Steps p.tables e below (T11.setTop (mkF m 94 #[.val (.int i0), .val (.int i1), .val (.int i2), .val (.int i3), .val (.int i4), .val (.int (3 : Int32)), .val (.int i6), .val (.ref b1), .unset, .unset, .unset] [(.ref b1), (.int i4)])) _
          refine XS.iload X11.here hx rfl (hb hby at_94) rfl ?_
          exact kt
        obtain ⟨_, _, ⟨T171, L171, k171, n171⟩, -, X171, ⟨Lc171, hQ171, l171, y171, z171⟩, st171⟩ := Jvm.LawKit.callS X11 hx (y := (⟨"hotstate/sort/VarInts", "write", "(I[BI)I"⟩ : MethodName)) hown (mvT hZ (hw _ (List.mem_of_getElem? (i := 2) rfl))) (mvT hZ (hw _ (List.mem_of_getElem? (i := 3) rfl))) (mvT hZ (hw _ (List.mem_of_getElem? (i := 4) rfl))) (mvT hZ (hw _ (List.mem_of_getElem? (i := 5) rfl))) (by decide) (backOf (W := 0) (rm1n2 l Z a0 hw [] i4 b1 (3 : Int32) [(.int (nar .byte i6)), (.int (nar .byte i6)), (.int (nar .byte i6)), (.int (nar .byte i6)), (.int (nar .byte i6)), (.int (nar .byte i6)), (.int (nar .byte i6)), (.int (nar .byte i6)), (.int (nar .byte i6)), (.int (nar .byte i6))] h11 n0 Ab1_11 g1 rfl (by decide) hm90_167 (own_lt1 i4 hpos hm90_170) Z11) hZ (hw _ (List.mem_of_getElem? (i := 5) rfl)) (hw _ (List.mem_of_getElem? (i := 4) rfl)) (by decide) (by decide)) (g := (mkF m 96 #[.val (.int i0), .val (.int i1), .val (.int i2), .val (.int i3), .val (.int i4), .val (.int (3 : Int32)), .val (.int i6), .val (.ref b1), .unset, .unset, .unset] [(.int (3 : Int32)), (.ref b1), (.int i4)])) rfl (by rw [hml]; rfl) (argsL := [(.int i4), (.ref b1), (.int (3 : Int32))]) (rest := []) (lenOf pd1 rfl) rfl (by show 2 * 0 + _ ≤ _; exact Nat.le_of_eq rfl) (hb hby at_96) (fun _ _ => ⟨rfl, e11, (by decide : 1 + 0 ≤ _), (by decide : 10 + 0 ≤ _)⟩)
        dsimp only [Pt.U, Pt.locs, Pt.cells, Pt.slots] at X171 l171 y171 z171 st171 hQ171
        subst l171 y171 z171
        obtain ⟨rfl, Nq171, Aw171, Z171⟩ := hQ171
        have N171 := Fr.app N11 Nq171
        have Ab1_171 : own_A Z T171.heap b1 .byte [(.int (nar .byte i6)), (.int (nar .byte i6)), (.int (nar .byte i6)), (.int (nar .byte ((i4 ||| (128 : Int32)).toInt8.toInt32))), (.int (nar .byte (((i4.toUInt32 >>> ((7 : Int32) &&& 31).toUInt32).toInt32).toInt8.toInt32))), (.int (nar .byte i6)), (.int (nar .byte i6)), (.int (nar .byte i6)), (.int (nar .byte i6)), (.int (nar .byte i6))] := Aw171
        refine own_step (T' := T171) (f' := (mkF m 99 #[.val (.int i0), .val (.int i1), .val (.int i2), .val (.int i3), .val (.int i4), .val (.int (3 : Int32)), .val (.int i6), .val (.ref b1), .unset, .unset, .unset] [(.int (f1n2_0 i4 (3 : Int32)))])) st171 ?_
        refine own_step (T' := T171) (f' := (mkF m 106 #[.val (.int i0), .val (.int i1), .val (.int i2), .val (.int i3), .val (.int i4), .val (.int (3 : Int32)), .val (.int i6), .val (.ref b1), .val (.int (f1n2_0 i4 (3 : Int32))), .unset, .unset] [(.int (128 : Int32)), (.int i4)])) (fun t kt => ?_) ?_
        · show Steps p.tables e below (T171.setTop (mkF m 99 #[.val (.int i0), .val (.int i1), .val (.int i2), .val (.int i3), .val (.int i4), .val (.int (3 : Int32)), .val (.int i6), .val (.ref b1), .unset, .unset, .unset] [(.int (f1n2_0 i4 (3 : Int32)))])) _
          refine XS.istore X171.here hx rfl (hb hby at_99) rfl (l' := #[.val (.int i0), .val (.int i1), .val (.int i2), .val (.int i3), .val (.int i4), .val (.int (3 : Int32)), .val (.int i6), .val (.ref b1), .val (.int (f1n2_0 i4 (3 : Int32))), .unset, .unset]) rfl ?_
          show Steps p.tables e below (T171.setTop (mkF m 101 #[.val (.int i0), .val (.int i1), .val (.int i2), .val (.int i3), .val (.int i4), .val (.int (3 : Int32)), .val (.int i6), .val (.ref b1), .val (.int (f1n2_0 i4 (3 : Int32))), .unset, .unset] [])) _
          refine XS.iload X171.here hx rfl (hb hby at_101) rfl ?_
          show Steps p.tables e below (T171.setTop (mkF m 103 #[.val (.int i0), .val (.int i1), .val (.int i2), .val (.int i3), .val (.int i4), .val (.int (3 : Int32)), .val (.int i6), .val (.ref b1), .val (.int (f1n2_0 i4 (3 : Int32))), .unset, .unset] [(.int i4)])) _
          refine XS.sipush X171.here hx rfl (hb hby at_103) ?_
          exact kt
        refine own_step (T' := T171) (f' := (mkF m 115 #[.val (.int i0), .val (.int i1), .val (.int i2), .val (.int i3), .val (.int i4), .val (.int (3 : Int32)), .val (.int i6), .val (.ref b1), .val (.int (f1n2_0 i4 (3 : Int32))), .unset, .unset] [])) (fun t kt => ?_) ?_
        · show Steps p.tables e below (T171.setTop (mkF m 106 #[.val (.int i0), .val (.int i1), .val (.int i2), .val (.int i3), .val (.int i4), .val (.int (3 : Int32)), .val (.int i6), .val (.ref b1), .val (.int (f1n2_0 i4 (3 : Int32))), .unset, .unset] [(.int (128 : Int32)), (.int i4)])) _
          refine XS.icmpYes X171.here hx rfl (pc0 := 106) (pc' := 115) rfl (hb hby at_106) rfl (flt hm90_167).2.1 (by decide) (by decide) kt
        refine own_step (T' := T171) (f' := (mkF m 120 #[.val (.int i0), .val (.int i1), .val (.int i2), .val (.int i3), .val (.int i4), .val (.int (3 : Int32)), .val (.int i6), .val (.ref b1), .val (.int (f1n2_0 i4 (3 : Int32))), .unset, .unset] [(.int (16384 : Int32)), (.int i4)])) (fun t kt => ?_) ?_
        · show Steps p.tables e below (T171.setTop (mkF m 115 #[.val (.int i0), .val (.int i1), .val (.int i2), .val (.int i3), .val (.int i4), .val (.int (3 : Int32)), .val (.int i6), .val (.ref b1), .val (.int (f1n2_0 i4 (3 : Int32))), .unset, .unset] [])) _
          refine XS.iload X171.here hx rfl (hb hby at_115) rfl ?_
          show Steps p.tables e below (T171.setTop (mkF m 117 #[.val (.int i0), .val (.int i1), .val (.int i2), .val (.int i3), .val (.int i4), .val (.int (3 : Int32)), .val (.int i6), .val (.ref b1), .val (.int (f1n2_0 i4 (3 : Int32))), .unset, .unset] [(.int i4)])) _
          refine XS.sipush X171.here hx rfl (hb hby at_117) ?_
          exact kt
        refine own_step (T' := T171) (f' := (mkF m 123 #[.val (.int i0), .val (.int i1), .val (.int i2), .val (.int i3), .val (.int i4), .val (.int (3 : Int32)), .val (.int i6), .val (.ref b1), .val (.int (f1n2_0 i4 (3 : Int32))), .unset, .unset] [])) (fun t kt => ?_) ?_
        · show Steps p.tables e below (T171.setTop (mkF m 120 #[.val (.int i0), .val (.int i1), .val (.int i2), .val (.int i3), .val (.int i4), .val (.int (3 : Int32)), .val (.int i6), .val (.ref b1), .val (.int (f1n2_0 i4 (3 : Int32))), .unset, .unset] [(.int (16384 : Int32)), (.int i4)])) _
          refine XS.icmpNo X171.here hx rfl (hb hby at_120) rfl (tlt hm90_170).2.1 kt
        refine own_step (T' := T171) (f' := (mkF m 158 #[.val (.int i0), .val (.int i1), .val (.int i2), .val (.int i3), .val (.int i4), .val (.int (3 : Int32)), .val (.int i6), .val (.ref b1), .val (.int (f1n2_0 i4 (3 : Int32))), .val (.int (2 : Int32)), .unset] [])) (fun t kt => ?_) ?_
        · show Steps p.tables e below (T171.setTop (mkF m 123 #[.val (.int i0), .val (.int i1), .val (.int i2), .val (.int i3), .val (.int i4), .val (.int (3 : Int32)), .val (.int i6), .val (.ref b1), .val (.int (f1n2_0 i4 (3 : Int32))), .unset, .unset] [])) _
          refine XS.iconst X171.here hx rfl (hb hby at_123) ?_
          show Steps p.tables e below (T171.setTop (mkF m 124 #[.val (.int i0), .val (.int i1), .val (.int i2), .val (.int i3), .val (.int i4), .val (.int (3 : Int32)), .val (.int i6), .val (.ref b1), .val (.int (f1n2_0 i4 (3 : Int32))), .unset, .unset] [(.int (2 : Int32))])) _
          refine XS.istore X171.here hx rfl (hb hby at_124) rfl (l' := #[.val (.int i0), .val (.int i1), .val (.int i2), .val (.int i3), .val (.int i4), .val (.int (3 : Int32)), .val (.int i6), .val (.ref b1), .val (.int (f1n2_0 i4 (3 : Int32))), .val (.int (2 : Int32)), .unset]) rfl ?_
          show Steps p.tables e below (T171.setTop (mkF m 126 #[.val (.int i0), .val (.int i1), .val (.int i2), .val (.int i3), .val (.int i4), .val (.int (3 : Int32)), .val (.int i6), .val (.ref b1), .val (.int (f1n2_0 i4 (3 : Int32))), .val (.int (2 : Int32)), .unset] [])) _
          refine XS.goto X171.here hx rfl (pc0 := 126) (pc' := 158) rfl (hb hby at_126) (by decide) (by decide) ?_
          exact kt
        exact b0_158 i0 i1 i2 i3 i4 (3 : Int32) i6 b1 (f1n2_0 i4 (3 : Int32)) (2 : Int32) (nar .byte i6) (nar .byte i6) (nar .byte i6) (nar .byte ((i4 ||| (128 : Int32)).toInt8.toInt32)) (nar .byte (((i4.toUInt32 >>> ((7 : Int32) &&& 31).toUInt32).toInt32).toInt8.toInt32)) (nar .byte i6) (nar .byte i6) (nar .byte i6) (nar .byte i6) (nar .byte i6) X171 hx hZ hw hby hml hown hret hlk rfl N171 Ab1_171 g1 Z171 hr
      · replace hr := hr.trans (if_neg hm90_170)
        by_cases hm90_174 : i4 < (2097152 : Int32)
        · replace hr := hr.trans (if_pos hm90_174)
          refine own_step (T' := T11) (f' := (mkF m 96 #[.val (.int i0), .val (.int i1), .val (.int i2), .val (.int i3), .val (.int i4), .val (.int (3 : Int32)), .val (.int i6), .val (.ref b1), .unset, .unset, .unset] [(.int (3 : Int32)), (.ref b1), (.int i4)])) (fun t kt => ?_) ?_
          · show Steps p.tables e below (T11.setTop (mkF m 90 #[.val (.int i0), .val (.int i1), .val (.int i2), .val (.int i3), .val (.int i4), .val (.int (3 : Int32)), .val (.int i6), .val (.ref b1), .unset, .unset, .unset] [])) _
            refine XS.iload X11.here hx rfl (hb hby at_90) rfl ?_
            show Steps p.tables e below (T11.setTop (mkF m 92 #[.val (.int i0), .val (.int i1), .val (.int i2), .val (.int i3), .val (.int i4), .val (.int (3 : Int32)), .val (.int i6), .val (.ref b1), .unset, .unset, .unset] [(.int i4)])) _
            refine XS.aload X11.here hx rfl (hb hby at_92) rfl rfl ?_
            show Steps p.tables e below (T11.setTop (mkF m 94 #[.val (.int i0), .val (.int i1), .val (.int i2), .val (.int i3), .val (.int i4), .val (.int (3 : Int32)), .val (.int i6), .val (.ref b1), .unset, .unset, .unset] [(.ref b1), (.int i4)])) _
            refine XS.iload X11.here hx rfl (hb hby at_94) rfl ?_
            exact kt
          obtain ⟨_, _, ⟨T175, L175, k175, n175⟩, -, X175, ⟨Lc175, hQ175, l175, y175, z175⟩, st175⟩ := Jvm.LawKit.callS X11 hx (y := (⟨"hotstate/sort/VarInts", "write", "(I[BI)I"⟩ : MethodName)) hown (mvT hZ (hw _ (List.mem_of_getElem? (i := 2) rfl))) (mvT hZ (hw _ (List.mem_of_getElem? (i := 3) rfl))) (mvT hZ (hw _ (List.mem_of_getElem? (i := 4) rfl))) (mvT hZ (hw _ (List.mem_of_getElem? (i := 5) rfl))) (by decide) (backOf (W := 0) (rm1n3 l Z a0 hw [] i4 b1 (3 : Int32) [(.int (nar .byte i6)), (.int (nar .byte i6)), (.int (nar .byte i6)), (.int (nar .byte i6)), (.int (nar .byte i6)), (.int (nar .byte i6)), (.int (nar .byte i6)), (.int (nar .byte i6)), (.int (nar .byte i6)), (.int (nar .byte i6))] h11 n0 Ab1_11 g1 rfl (by decide) hm90_167 (own_ge1 i4 hpos hm90_170) (own_lt2 i4 hpos hm90_174) Z11) hZ (hw _ (List.mem_of_getElem? (i := 5) rfl)) (hw _ (List.mem_of_getElem? (i := 4) rfl)) (by decide) (by decide)) (g := (mkF m 96 #[.val (.int i0), .val (.int i1), .val (.int i2), .val (.int i3), .val (.int i4), .val (.int (3 : Int32)), .val (.int i6), .val (.ref b1), .unset, .unset, .unset] [(.int (3 : Int32)), (.ref b1), (.int i4)])) rfl (by rw [hml]; rfl) (argsL := [(.int i4), (.ref b1), (.int (3 : Int32))]) (rest := []) (lenOf pd1 rfl) rfl (by show 2 * 0 + _ ≤ _; exact Nat.le_of_eq rfl) (hb hby at_96) (fun _ _ => ⟨rfl, e11, (by decide : 1 + 0 ≤ _), (by decide : 10 + 0 ≤ _)⟩)
          dsimp only [Pt.U, Pt.locs, Pt.cells, Pt.slots] at X175 l175 y175 z175 st175 hQ175
          subst l175 y175 z175
          obtain ⟨rfl, Nq175, Aw175, Z175⟩ := hQ175
          have N175 := Fr.app N11 Nq175
          have Ab1_175 : own_A Z T175.heap b1 .byte [(.int (nar .byte i6)), (.int (nar .byte i6)), (.int (nar .byte i6)), (.int (nar .byte ((i4 ||| (128 : Int32)).toInt8.toInt32))), (.int (nar .byte ((((i4.toUInt32 >>> ((7 : Int32) &&& 31).toUInt32).toInt32) ||| (128 : Int32)).toInt8.toInt32))), (.int (nar .byte (((((i4.toUInt32 >>> ((7 : Int32) &&& 31).toUInt32).toInt32).toUInt32 >>> ((7 : Int32) &&& 31).toUInt32).toInt32).toInt8.toInt32))), (.int (nar .byte i6)), (.int (nar .byte i6)), (.int (nar .byte i6)), (.int (nar .byte i6))] := Aw175
          refine own_step (T' := T175) (f' := (mkF m 99 #[.val (.int i0), .val (.int i1), .val (.int i2), .val (.int i3), .val (.int i4), .val (.int (3 : Int32)), .val (.int i6), .val (.ref b1), .unset, .unset, .unset] [(.int (f1n3_0 i4 (3 : Int32)))])) st175 ?_
          refine own_step (T' := T175) (f' := (mkF m 106 #[.val (.int i0), .val (.int i1), .val (.int i2), .val (.int i3), .val (.int i4), .val (.int (3 : Int32)), .val (.int i6), .val (.ref b1), .val (.int (f1n3_0 i4 (3 : Int32))), .unset, .unset] [(.int (128 : Int32)), (.int i4)])) (fun t kt => ?_) ?_
          · show Steps p.tables e below (T175.setTop (mkF m 99 #[.val (.int i0), .val (.int i1), .val (.int i2), .val (.int i3), .val (.int i4), .val (.int (3 : Int32)), .val (.int i6), .val (.ref b1), .unset, .unset, .unset] [(.int (f1n3_0 i4 (3 : Int32)))])) _
            refine XS.istore X175.here hx rfl (hb hby at_99) rfl (l' := #[.val (.int i0), .val (.int i1), .val (.int i2), .val (.int i3), .val (.int i4), .val (.int (3 : Int32)), .val (.int i6), .val (.ref b1), .val (.int (f1n3_0 i4 (3 : Int32))), .unset, .unset]) rfl ?_
            show Steps p.tables e below (T175.setTop (mkF m 101 #[.val (.int i0), .val (.int i1), .val (.int i2), .val (.int i3), .val (.int i4), .val (.int (3 : Int32)), .val (.int i6), .val (.ref b1), .val (.int (f1n3_0 i4 (3 : Int32))), .unset, .unset] [])) _
            refine XS.iload X175.here hx rfl (hb hby at_101) rfl ?_
            show Steps p.tables e below (T175.setTop (mkF m 103 #[.val (.int i0), .val (.int i1), .val (.int i2), .val (.int i3), .val (.int i4), .val (.int (3 : Int32)), .val (.int i6), .val (.ref b1), .val (.int (f1n3_0 i4 (3 : Int32))), .unset, .unset] [(.int i4)])) _
            refine XS.sipush X175.here hx rfl (hb hby at_103) ?_
            exact kt
          refine own_step (T' := T175) (f' := (mkF m 115 #[.val (.int i0), .val (.int i1), .val (.int i2), .val (.int i3), .val (.int i4), .val (.int (3 : Int32)), .val (.int i6), .val (.ref b1), .val (.int (f1n3_0 i4 (3 : Int32))), .unset, .unset] [])) (fun t kt => ?_) ?_
          · show Steps p.tables e below (T175.setTop (mkF m 106 #[.val (.int i0), .val (.int i1), .val (.int i2), .val (.int i3), .val (.int i4), .val (.int (3 : Int32)), .val (.int i6), .val (.ref b1), .val (.int (f1n3_0 i4 (3 : Int32))), .unset, .unset] [(.int (128 : Int32)), (.int i4)])) _
            refine XS.icmpYes X175.here hx rfl (pc0 := 106) (pc' := 115) rfl (hb hby at_106) rfl (flt hm90_167).2.1 (by decide) (by decide) kt
          refine own_step (T' := T175) (f' := (mkF m 120 #[.val (.int i0), .val (.int i1), .val (.int i2), .val (.int i3), .val (.int i4), .val (.int (3 : Int32)), .val (.int i6), .val (.ref b1), .val (.int (f1n3_0 i4 (3 : Int32))), .unset, .unset] [(.int (16384 : Int32)), (.int i4)])) (fun t kt => ?_) ?_
          · show Steps p.tables e below (T175.setTop (mkF m 115 #[.val (.int i0), .val (.int i1), .val (.int i2), .val (.int i3), .val (.int i4), .val (.int (3 : Int32)), .val (.int i6), .val (.ref b1), .val (.int (f1n3_0 i4 (3 : Int32))), .unset, .unset] [])) _
            refine XS.iload X175.here hx rfl (hb hby at_115) rfl ?_
            show Steps p.tables e below (T175.setTop (mkF m 117 #[.val (.int i0), .val (.int i1), .val (.int i2), .val (.int i3), .val (.int i4), .val (.int (3 : Int32)), .val (.int i6), .val (.ref b1), .val (.int (f1n3_0 i4 (3 : Int32))), .unset, .unset] [(.int i4)])) _
            refine XS.sipush X175.here hx rfl (hb hby at_117) ?_
            exact kt
          refine own_step (T' := T175) (f' := (mkF m 129 #[.val (.int i0), .val (.int i1), .val (.int i2), .val (.int i3), .val (.int i4), .val (.int (3 : Int32)), .val (.int i6), .val (.ref b1), .val (.int (f1n3_0 i4 (3 : Int32))), .unset, .unset] [])) (fun t kt => ?_) ?_
          · show Steps p.tables e below (T175.setTop (mkF m 120 #[.val (.int i0), .val (.int i1), .val (.int i2), .val (.int i3), .val (.int i4), .val (.int (3 : Int32)), .val (.int i6), .val (.ref b1), .val (.int (f1n3_0 i4 (3 : Int32))), .unset, .unset] [(.int (16384 : Int32)), (.int i4)])) _
            refine XS.icmpYes X175.here hx rfl (pc0 := 120) (pc' := 129) rfl (hb hby at_120) rfl (flt hm90_170).2.1 (by decide) (by decide) kt
          refine own_step (T' := T175) (f' := (mkF m 133 #[.val (.int i0), .val (.int i1), .val (.int i2), .val (.int i3), .val (.int i4), .val (.int (3 : Int32)), .val (.int i6), .val (.ref b1), .val (.int (f1n3_0 i4 (3 : Int32))), .unset, .unset] [(.int (2097152 : Int32)), (.int i4)])) (fun t kt => ?_) ?_
          · show Steps p.tables e below (T175.setTop (mkF m 129 #[.val (.int i0), .val (.int i1), .val (.int i2), .val (.int i3), .val (.int i4), .val (.int (3 : Int32)), .val (.int i6), .val (.ref b1), .val (.int (f1n3_0 i4 (3 : Int32))), .unset, .unset] [])) _
            refine XS.iload X175.here hx rfl (hb hby at_129) rfl ?_
            show Steps p.tables e below (T175.setTop (mkF m 131 #[.val (.int i0), .val (.int i1), .val (.int i2), .val (.int i3), .val (.int i4), .val (.int (3 : Int32)), .val (.int i6), .val (.ref b1), .val (.int (f1n3_0 i4 (3 : Int32))), .unset, .unset] [(.int i4)])) _
            refine X175.ldcInt hx hown (mvT hZ (hw _ (List.mem_of_getElem? (i := 10) rfl))) (g := (mkF m 131 #[.val (.int i0), .val (.int i1), .val (.int i2), .val (.int i3), .val (.int i4), .val (.int (3 : Int32)), .val (.int i6), .val (.ref b1), .val (.int (f1n3_0 i4 (3 : Int32))), .unset, .unset] [(.int i4)])) rfl (hb hby at_131) _ ?_
            exact kt
          refine own_step (T' := T175) (f' := (mkF m 136 #[.val (.int i0), .val (.int i1), .val (.int i2), .val (.int i3), .val (.int i4), .val (.int (3 : Int32)), .val (.int i6), .val (.ref b1), .val (.int (f1n3_0 i4 (3 : Int32))), .unset, .unset] [])) (fun t kt => ?_) ?_
          · show Steps p.tables e below (T175.setTop (mkF m 133 #[.val (.int i0), .val (.int i1), .val (.int i2), .val (.int i3), .val (.int i4), .val (.int (3 : Int32)), .val (.int i6), .val (.ref b1), .val (.int (f1n3_0 i4 (3 : Int32))), .unset, .unset] [(.int (2097152 : Int32)), (.int i4)])) _
            refine XS.icmpNo X175.here hx rfl (hb hby at_133) rfl (tlt hm90_174).2.1 kt
          refine own_step (T' := T175) (f' := (mkF m 158 #[.val (.int i0), .val (.int i1), .val (.int i2), .val (.int i3), .val (.int i4), .val (.int (3 : Int32)), .val (.int i6), .val (.ref b1), .val (.int (f1n3_0 i4 (3 : Int32))), .val (.int (3 : Int32)), .unset] [])) (fun t kt => ?_) ?_
          · show Steps p.tables e below (T175.setTop (mkF m 136 #[.val (.int i0), .val (.int i1), .val (.int i2), .val (.int i3), .val (.int i4), .val (.int (3 : Int32)), .val (.int i6), .val (.ref b1), .val (.int (f1n3_0 i4 (3 : Int32))), .unset, .unset] [])) _
            refine XS.iconst X175.here hx rfl (hb hby at_136) ?_
            show Steps p.tables e below (T175.setTop (mkF m 137 #[.val (.int i0), .val (.int i1), .val (.int i2), .val (.int i3), .val (.int i4), .val (.int (3 : Int32)), .val (.int i6), .val (.ref b1), .val (.int (f1n3_0 i4 (3 : Int32))), .unset, .unset] [(.int (3 : Int32))])) _
            refine XS.istore X175.here hx rfl (hb hby at_137) rfl (l' := #[.val (.int i0), .val (.int i1), .val (.int i2), .val (.int i3), .val (.int i4), .val (.int (3 : Int32)), .val (.int i6), .val (.ref b1), .val (.int (f1n3_0 i4 (3 : Int32))), .val (.int (3 : Int32)), .unset]) rfl ?_
            show Steps p.tables e below (T175.setTop (mkF m 139 #[.val (.int i0), .val (.int i1), .val (.int i2), .val (.int i3), .val (.int i4), .val (.int (3 : Int32)), .val (.int i6), .val (.ref b1), .val (.int (f1n3_0 i4 (3 : Int32))), .val (.int (3 : Int32)), .unset] [])) _
            refine XS.goto X175.here hx rfl (pc0 := 139) (pc' := 158) rfl (hb hby at_139) (by decide) (by decide) ?_
            exact kt
          exact b0_158 i0 i1 i2 i3 i4 (3 : Int32) i6 b1 (f1n3_0 i4 (3 : Int32)) (3 : Int32) (nar .byte i6) (nar .byte i6) (nar .byte i6) (nar .byte ((i4 ||| (128 : Int32)).toInt8.toInt32)) (nar .byte ((((i4.toUInt32 >>> ((7 : Int32) &&& 31).toUInt32).toInt32) ||| (128 : Int32)).toInt8.toInt32)) (nar .byte (((((i4.toUInt32 >>> ((7 : Int32) &&& 31).toUInt32).toInt32).toUInt32 >>> ((7 : Int32) &&& 31).toUInt32).toInt32).toInt8.toInt32)) (nar .byte i6) (nar .byte i6) (nar .byte i6) (nar .byte i6) X175 hx hZ hw hby hml hown hret hlk rfl N175 Ab1_175 g1 Z175 hr
        · replace hr := hr.trans (if_neg hm90_174)
          by_cases hm90_179 : i4 < (268435456 : Int32)
          · replace hr := hr.trans (if_pos hm90_179)
            refine own_step (T' := T11) (f' := (mkF m 96 #[.val (.int i0), .val (.int i1), .val (.int i2), .val (.int i3), .val (.int i4), .val (.int (3 : Int32)), .val (.int i6), .val (.ref b1), .unset, .unset, .unset] [(.int (3 : Int32)), (.ref b1), (.int i4)])) (fun t kt => ?_) ?_
            · show Steps p.tables e below (T11.setTop (mkF m 90 #[.val (.int i0), .val (.int i1), .val (.int i2), .val (.int i3), .val (.int i4), .val (.int (3 : Int32)), .val (.int i6), .val (.ref b1), .unset, .unset, .unset] [])) _
              refine XS.iload X11.here hx rfl (hb hby at_90) rfl ?_
              show Steps p.tables e below (T11.setTop (mkF m 92 #[.val (.int i0), .val (.int i1), .val (.int i2), .val (.int i3), .val (.int i4), .val (.int (3 : Int32)), .val (.int i6), .val (.ref b1), .unset, .unset, .unset] [(.int i4)])) _
              refine XS.aload X11.here hx rfl (hb hby at_92) rfl rfl ?_
              show Steps p.tables e below (T11.setTop (mkF m 94 #[.val (.int i0), .val (.int i1), .val (.int i2), .val (.int i3), .val (.int i4), .val (.int (3 : Int32)), .val (.int i6), .val (.ref b1), .unset, .unset, .unset] [(.ref b1), (.int i4)])) _
              refine XS.iload X11.here hx rfl (hb hby at_94) rfl ?_
              exact kt
            obtain ⟨_, _, ⟨T180, L180, k180, n180⟩, -, X180, ⟨Lc180, hQ180, l180, y180, z180⟩, st180⟩ := Jvm.LawKit.callS X11 hx (y := (⟨"hotstate/sort/VarInts", "write", "(I[BI)I"⟩ : MethodName)) hown (mvT hZ (hw _ (List.mem_of_getElem? (i := 2) rfl))) (mvT hZ (hw _ (List.mem_of_getElem? (i := 3) rfl))) (mvT hZ (hw _ (List.mem_of_getElem? (i := 4) rfl))) (mvT hZ (hw _ (List.mem_of_getElem? (i := 5) rfl))) (by decide) (backOf (W := 0) (rm1n4 l Z a0 hw [] i4 b1 (3 : Int32) [(.int (nar .byte i6)), (.int (nar .byte i6)), (.int (nar .byte i6)), (.int (nar .byte i6)), (.int (nar .byte i6)), (.int (nar .byte i6)), (.int (nar .byte i6)), (.int (nar .byte i6)), (.int (nar .byte i6)), (.int (nar .byte i6))] h11 n0 Ab1_11 g1 rfl (by decide) hm90_167 (own_ge1 i4 hpos hm90_170) (own_ge2 i4 hpos hm90_174) (own_lt3 i4 hpos hm90_179) Z11) hZ (hw _ (List.mem_of_getElem? (i := 5) rfl)) (hw _ (List.mem_of_getElem? (i := 4) rfl)) (by decide) (by decide)) (g := (mkF m 96 #[.val (.int i0), .val (.int i1), .val (.int i2), .val (.int i3), .val (.int i4), .val (.int (3 : Int32)), .val (.int i6), .val (.ref b1), .unset, .unset, .unset] [(.int (3 : Int32)), (.ref b1), (.int i4)])) rfl (by rw [hml]; rfl) (argsL := [(.int i4), (.ref b1), (.int (3 : Int32))]) (rest := []) (lenOf pd1 rfl) rfl (by show 2 * 0 + _ ≤ _; exact Nat.le_of_eq rfl) (hb hby at_96) (fun _ _ => ⟨rfl, e11, (by decide : 1 + 0 ≤ _), (by decide : 10 + 0 ≤ _)⟩)
            dsimp only [Pt.U, Pt.locs, Pt.cells, Pt.slots] at X180 l180 y180 z180 st180 hQ180
            subst l180 y180 z180
            obtain ⟨rfl, Nq180, Aw180, Z180⟩ := hQ180
            have N180 := Fr.app N11 Nq180
            have Ab1_180 : own_A Z T180.heap b1 .byte [(.int (nar .byte i6)), (.int (nar .byte i6)), (.int (nar .byte i6)), (.int (nar .byte ((i4 ||| (128 : Int32)).toInt8.toInt32))), (.int (nar .byte ((((i4.toUInt32 >>> ((7 : Int32) &&& 31).toUInt32).toInt32) ||| (128 : Int32)).toInt8.toInt32))), (.int (nar .byte ((((((i4.toUInt32 >>> ((7 : Int32) &&& 31).toUInt32).toInt32).toUInt32 >>> ((7 : Int32) &&& 31).toUInt32).toInt32) ||| (128 : Int32)).toInt8.toInt32))), (.int (nar .byte (((((((i4.toUInt32 >>> ((7 : Int32) &&& 31).toUInt32).toInt32).toUInt32 >>> ((7 : Int32) &&& 31).toUInt32).toInt32).toUInt32 >>> ((7 : Int32) &&& 31).toUInt32).toInt32).toInt8.toInt32))), (.int (nar .byte i6)), (.int (nar .byte i6)), (.int (nar .byte i6))] := Aw180
            refine own_step (T' := T180) (f' := (mkF m 99 #[.val (.int i0), .val (.int i1), .val (.int i2), .val (.int i3), .val (.int i4), .val (.int (3 : Int32)), .val (.int i6), .val (.ref b1), .unset, .unset, .unset] [(.int (f1n4_0 i4 (3 : Int32)))])) st180 ?_
            refine own_step (T' := T180) (f' := (mkF m 106 #[.val (.int i0), .val (.int i1), .val (.int i2), .val (.int i3), .val (.int i4), .val (.int (3 : Int32)), .val (.int i6), .val (.ref b1), .val (.int (f1n4_0 i4 (3 : Int32))), .unset, .unset] [(.int (128 : Int32)), (.int i4)])) (fun t kt => ?_) ?_
            · show Steps p.tables e below (T180.setTop (mkF m 99 #[.val (.int i0), .val (.int i1), .val (.int i2), .val (.int i3), .val (.int i4), .val (.int (3 : Int32)), .val (.int i6), .val (.ref b1), .unset, .unset, .unset] [(.int (f1n4_0 i4 (3 : Int32)))])) _
              refine XS.istore X180.here hx rfl (hb hby at_99) rfl (l' := #[.val (.int i0), .val (.int i1), .val (.int i2), .val (.int i3), .val (.int i4), .val (.int (3 : Int32)), .val (.int i6), .val (.ref b1), .val (.int (f1n4_0 i4 (3 : Int32))), .unset, .unset]) rfl ?_
              show Steps p.tables e below (T180.setTop (mkF m 101 #[.val (.int i0), .val (.int i1), .val (.int i2), .val (.int i3), .val (.int i4), .val (.int (3 : Int32)), .val (.int i6), .val (.ref b1), .val (.int (f1n4_0 i4 (3 : Int32))), .unset, .unset] [])) _
              refine XS.iload X180.here hx rfl (hb hby at_101) rfl ?_
              show Steps p.tables e below (T180.setTop (mkF m 103 #[.val (.int i0), .val (.int i1), .val (.int i2), .val (.int i3), .val (.int i4), .val (.int (3 : Int32)), .val (.int i6), .val (.ref b1), .val (.int (f1n4_0 i4 (3 : Int32))), .unset, .unset] [(.int i4)])) _
              refine XS.sipush X180.here hx rfl (hb hby at_103) ?_
              exact kt
            refine own_step (T' := T180) (f' := (mkF m 115 #[.val (.int i0), .val (.int i1), .val (.int i2), .val (.int i3), .val (.int i4), .val (.int (3 : Int32)), .val (.int i6), .val (.ref b1), .val (.int (f1n4_0 i4 (3 : Int32))), .unset, .unset] [])) (fun t kt => ?_) ?_
            · show Steps p.tables e below (T180.setTop (mkF m 106 #[.val (.int i0), .val (.int i1), .val (.int i2), .val (.int i3), .val (.int i4), .val (.int (3 : Int32)), .val (.int i6), .val (.ref b1), .val (.int (f1n4_0 i4 (3 : Int32))), .unset, .unset] [(.int (128 : Int32)), (.int i4)])) _
              refine XS.icmpYes X180.here hx rfl (pc0 := 106) (pc' := 115) rfl (hb hby at_106) rfl (flt hm90_167).2.1 (by decide) (by decide) kt
            refine own_step (T' := T180) (f' := (mkF m 120 #[.val (.int i0), .val (.int i1), .val (.int i2), .val (.int i3), .val (.int i4), .val (.int (3 : Int32)), .val (.int i6), .val (.ref b1), .val (.int (f1n4_0 i4 (3 : Int32))), .unset, .unset] [(.int (16384 : Int32)), (.int i4)])) (fun t kt => ?_) ?_
            · show Steps p.tables e below (T180.setTop (mkF m 115 #[.val (.int i0), .val (.int i1), .val (.int i2), .val (.int i3), .val (.int i4), .val (.int (3 : Int32)), .val (.int i6), .val (.ref b1), .val (.int (f1n4_0 i4 (3 : Int32))), .unset, .unset] [])) _
              refine XS.iload X180.here hx rfl (hb hby at_115) rfl ?_
              show Steps p.tables e below (T180.setTop (mkF m 117 #[.val (.int i0), .val (.int i1), .val (.int i2), .val (.int i3), .val (.int i4), .val (.int (3 : Int32)), .val (.int i6), .val (.ref b1), .val (.int (f1n4_0 i4 (3 : Int32))), .unset, .unset] [(.int i4)])) _
              refine XS.sipush X180.here hx rfl (hb hby at_117) ?_
              exact kt
            refine own_step (T' := T180) (f' := (mkF m 129 #[.val (.int i0), .val (.int i1), .val (.int i2), .val (.int i3), .val (.int i4), .val (.int (3 : Int32)), .val (.int i6), .val (.ref b1), .val (.int (f1n4_0 i4 (3 : Int32))), .unset, .unset] [])) (fun t kt => ?_) ?_
            · show Steps p.tables e below (T180.setTop (mkF m 120 #[.val (.int i0), .val (.int i1), .val (.int i2), .val (.int i3), .val (.int i4), .val (.int (3 : Int32)), .val (.int i6), .val (.ref b1), .val (.int (f1n4_0 i4 (3 : Int32))), .unset, .unset] [(.int (16384 : Int32)), (.int i4)])) _
              refine XS.icmpYes X180.here hx rfl (pc0 := 120) (pc' := 129) rfl (hb hby at_120) rfl (flt hm90_170).2.1 (by decide) (by decide) kt
            refine own_step (T' := T180) (f' := (mkF m 133 #[.val (.int i0), .val (.int i1), .val (.int i2), .val (.int i3), .val (.int i4), .val (.int (3 : Int32)), .val (.int i6), .val (.ref b1), .val (.int (f1n4_0 i4 (3 : Int32))), .unset, .unset] [(.int (2097152 : Int32)), (.int i4)])) (fun t kt => ?_) ?_
            · show Steps p.tables e below (T180.setTop (mkF m 129 #[.val (.int i0), .val (.int i1), .val (.int i2), .val (.int i3), .val (.int i4), .val (.int (3 : Int32)), .val (.int i6), .val (.ref b1), .val (.int (f1n4_0 i4 (3 : Int32))), .unset, .unset] [])) _
              refine XS.iload X180.here hx rfl (hb hby at_129) rfl ?_
              show Steps p.tables e below (T180.setTop (mkF m 131 #[.val (.int i0), .val (.int i1), .val (.int i2), .val (.int i3), .val (.int i4), .val (.int (3 : Int32)), .val (.int i6), .val (.ref b1), .val (.int (f1n4_0 i4 (3 : Int32))), .unset, .unset] [(.int i4)])) _
              refine X180.ldcInt hx hown (mvT hZ (hw _ (List.mem_of_getElem? (i := 10) rfl))) (g := (mkF m 131 #[.val (.int i0), .val (.int i1), .val (.int i2), .val (.int i3), .val (.int i4), .val (.int (3 : Int32)), .val (.int i6), .val (.ref b1), .val (.int (f1n4_0 i4 (3 : Int32))), .unset, .unset] [(.int i4)])) rfl (hb hby at_131) _ ?_
              exact kt
            refine own_step (T' := T180) (f' := (mkF m 142 #[.val (.int i0), .val (.int i1), .val (.int i2), .val (.int i3), .val (.int i4), .val (.int (3 : Int32)), .val (.int i6), .val (.ref b1), .val (.int (f1n4_0 i4 (3 : Int32))), .unset, .unset] [])) (fun t kt => ?_) ?_
            · show Steps p.tables e below (T180.setTop (mkF m 133 #[.val (.int i0), .val (.int i1), .val (.int i2), .val (.int i3), .val (.int i4), .val (.int (3 : Int32)), .val (.int i6), .val (.ref b1), .val (.int (f1n4_0 i4 (3 : Int32))), .unset, .unset] [(.int (2097152 : Int32)), (.int i4)])) _
              refine XS.icmpYes X180.here hx rfl (pc0 := 133) (pc' := 142) rfl (hb hby at_133) rfl (flt hm90_174).2.1 (by decide) (by decide) kt
            refine own_step (T' := T180) (f' := (mkF m 146 #[.val (.int i0), .val (.int i1), .val (.int i2), .val (.int i3), .val (.int i4), .val (.int (3 : Int32)), .val (.int i6), .val (.ref b1), .val (.int (f1n4_0 i4 (3 : Int32))), .unset, .unset] [(.int (268435456 : Int32)), (.int i4)])) (fun t kt => ?_) ?_
            · show Steps p.tables e below (T180.setTop (mkF m 142 #[.val (.int i0), .val (.int i1), .val (.int i2), .val (.int i3), .val (.int i4), .val (.int (3 : Int32)), .val (.int i6), .val (.ref b1), .val (.int (f1n4_0 i4 (3 : Int32))), .unset, .unset] [])) _
              refine XS.iload X180.here hx rfl (hb hby at_142) rfl ?_
              show Steps p.tables e below (T180.setTop (mkF m 144 #[.val (.int i0), .val (.int i1), .val (.int i2), .val (.int i3), .val (.int i4), .val (.int (3 : Int32)), .val (.int i6), .val (.ref b1), .val (.int (f1n4_0 i4 (3 : Int32))), .unset, .unset] [(.int i4)])) _
              refine X180.ldcInt hx hown (mvT hZ (hw _ (List.mem_of_getElem? (i := 11) rfl))) (g := (mkF m 144 #[.val (.int i0), .val (.int i1), .val (.int i2), .val (.int i3), .val (.int i4), .val (.int (3 : Int32)), .val (.int i6), .val (.ref b1), .val (.int (f1n4_0 i4 (3 : Int32))), .unset, .unset] [(.int i4)])) rfl (hb hby at_144) _ ?_
              exact kt
            refine own_step (T' := T180) (f' := (mkF m 149 #[.val (.int i0), .val (.int i1), .val (.int i2), .val (.int i3), .val (.int i4), .val (.int (3 : Int32)), .val (.int i6), .val (.ref b1), .val (.int (f1n4_0 i4 (3 : Int32))), .unset, .unset] [])) (fun t kt => ?_) ?_
            · show Steps p.tables e below (T180.setTop (mkF m 146 #[.val (.int i0), .val (.int i1), .val (.int i2), .val (.int i3), .val (.int i4), .val (.int (3 : Int32)), .val (.int i6), .val (.ref b1), .val (.int (f1n4_0 i4 (3 : Int32))), .unset, .unset] [(.int (268435456 : Int32)), (.int i4)])) _
              refine XS.icmpNo X180.here hx rfl (hb hby at_146) rfl (tlt hm90_179).2.1 kt
            refine own_step (T' := T180) (f' := (mkF m 158 #[.val (.int i0), .val (.int i1), .val (.int i2), .val (.int i3), .val (.int i4), .val (.int (3 : Int32)), .val (.int i6), .val (.ref b1), .val (.int (f1n4_0 i4 (3 : Int32))), .val (.int (4 : Int32)), .unset] [])) (fun t kt => ?_) ?_
            · show Steps p.tables e below (T180.setTop (mkF m 149 #[.val (.int i0), .val (.int i1), .val (.int i2), .val (.int i3), .val (.int i4), .val (.int (3 : Int32)), .val (.int i6), .val (.ref b1), .val (.int (f1n4_0 i4 (3 : Int32))), .unset, .unset] [])) _
              refine XS.iconst X180.here hx rfl (hb hby at_149) ?_
              show Steps p.tables e below (T180.setTop (mkF m 150 #[.val (.int i0), .val (.int i1), .val (.int i2), .val (.int i3), .val (.int i4), .val (.int (3 : Int32)), .val (.int i6), .val (.ref b1), .val (.int (f1n4_0 i4 (3 : Int32))), .unset, .unset] [(.int (4 : Int32))])) _
              refine XS.istore X180.here hx rfl (hb hby at_150) rfl (l' := #[.val (.int i0), .val (.int i1), .val (.int i2), .val (.int i3), .val (.int i4), .val (.int (3 : Int32)), .val (.int i6), .val (.ref b1), .val (.int (f1n4_0 i4 (3 : Int32))), .val (.int (4 : Int32)), .unset]) rfl ?_
              show Steps p.tables e below (T180.setTop (mkF m 152 #[.val (.int i0), .val (.int i1), .val (.int i2), .val (.int i3), .val (.int i4), .val (.int (3 : Int32)), .val (.int i6), .val (.ref b1), .val (.int (f1n4_0 i4 (3 : Int32))), .val (.int (4 : Int32)), .unset] [])) _
              refine XS.goto X180.here hx rfl (pc0 := 152) (pc' := 158) rfl (hb hby at_152) (by decide) (by decide) ?_
              exact kt
            exact b0_158 i0 i1 i2 i3 i4 (3 : Int32) i6 b1 (f1n4_0 i4 (3 : Int32)) (4 : Int32) (nar .byte i6) (nar .byte i6) (nar .byte i6) (nar .byte ((i4 ||| (128 : Int32)).toInt8.toInt32)) (nar .byte ((((i4.toUInt32 >>> ((7 : Int32) &&& 31).toUInt32).toInt32) ||| (128 : Int32)).toInt8.toInt32)) (nar .byte ((((((i4.toUInt32 >>> ((7 : Int32) &&& 31).toUInt32).toInt32).toUInt32 >>> ((7 : Int32) &&& 31).toUInt32).toInt32) ||| (128 : Int32)).toInt8.toInt32)) (nar .byte (((((((i4.toUInt32 >>> ((7 : Int32) &&& 31).toUInt32).toInt32).toUInt32 >>> ((7 : Int32) &&& 31).toUInt32).toInt32).toUInt32 >>> ((7 : Int32) &&& 31).toUInt32).toInt32).toInt8.toInt32)) (nar .byte i6) (nar .byte i6) (nar .byte i6) X180 hx hZ hw hby hml hown hret hlk rfl N180 Ab1_180 g1 Z180 hr
          · replace hr := hr.trans (if_neg hm90_179)
            refine own_step (T' := T11) (f' := (mkF m 96 #[.val (.int i0), .val (.int i1), .val (.int i2), .val (.int i3), .val (.int i4), .val (.int (3 : Int32)), .val (.int i6), .val (.ref b1), .unset, .unset, .unset] [(.int (3 : Int32)), (.ref b1), (.int i4)])) (fun t kt => ?_) ?_
            · show Steps p.tables e below (T11.setTop (mkF m 90 #[.val (.int i0), .val (.int i1), .val (.int i2), .val (.int i3), .val (.int i4), .val (.int (3 : Int32)), .val (.int i6), .val (.ref b1), .unset, .unset, .unset] [])) _
              refine XS.iload X11.here hx rfl (hb hby at_90) rfl ?_
              show Steps p.tables e below (T11.setTop (mkF m 92 #[.val (.int i0), .val (.int i1), .val (.int i2), .val (.int i3), .val (.int i4), .val (.int (3 : Int32)), .val (.int i6), .val (.ref b1), .unset, .unset, .unset] [(.int i4)])) _
              refine XS.aload X11.here hx rfl (hb hby at_92) rfl rfl ?_
              show Steps p.tables e below (T11.setTop (mkF m 94 #[.val (.int i0), .val (.int i1), .val (.int i2), .val (.int i3), .val (.int i4), .val (.int (3 : Int32)), .val (.int i6), .val (.ref b1), .unset, .unset, .unset] [(.ref b1), (.int i4)])) _
              refine XS.iload X11.here hx rfl (hb hby at_94) rfl ?_
              exact kt
            obtain ⟨_, _, ⟨T185, L185, k185, n185⟩, -, X185, ⟨Lc185, hQ185, l185, y185, z185⟩, st185⟩ := Jvm.LawKit.callS X11 hx (y := (⟨"hotstate/sort/VarInts", "write", "(I[BI)I"⟩ : MethodName)) hown (mvT hZ (hw _ (List.mem_of_getElem? (i := 2) rfl))) (mvT hZ (hw _ (List.mem_of_getElem? (i := 3) rfl))) (mvT hZ (hw _ (List.mem_of_getElem? (i := 4) rfl))) (mvT hZ (hw _ (List.mem_of_getElem? (i := 5) rfl))) (by decide) (backOf (W := 0) (rm1n5 l Z a0 hw [] i4 b1 (3 : Int32) [(.int (nar .byte i6)), (.int (nar .byte i6)), (.int (nar .byte i6)), (.int (nar .byte i6)), (.int (nar .byte i6)), (.int (nar .byte i6)), (.int (nar .byte i6)), (.int (nar .byte i6)), (.int (nar .byte i6)), (.int (nar .byte i6))] h11 n0 Ab1_11 g1 rfl (by decide) hm90_167 (own_ge1 i4 hpos hm90_170) (own_ge2 i4 hpos hm90_174) (own_ge3 i4 hpos hm90_179) (own_lt4 i4 hpos) Z11) hZ (hw _ (List.mem_of_getElem? (i := 5) rfl)) (hw _ (List.mem_of_getElem? (i := 4) rfl)) (by decide) (by decide)) (g := (mkF m 96 #[.val (.int i0), .val (.int i1), .val (.int i2), .val (.int i3), .val (.int i4), .val (.int (3 : Int32)), .val (.int i6), .val (.ref b1), .unset, .unset, .unset] [(.int (3 : Int32)), (.ref b1), (.int i4)])) rfl (by rw [hml]; rfl) (argsL := [(.int i4), (.ref b1), (.int (3 : Int32))]) (rest := []) (lenOf pd1 rfl) rfl (by show 2 * 0 + _ ≤ _; exact Nat.le_of_eq rfl) (hb hby at_96) (fun _ _ => ⟨rfl, e11, (by decide : 1 + 0 ≤ _), (by decide : 10 + 0 ≤ _)⟩)
            dsimp only [Pt.U, Pt.locs, Pt.cells, Pt.slots] at X185 l185 y185 z185 st185 hQ185
            subst l185 y185 z185
            obtain ⟨rfl, Nq185, Aw185, Z185⟩ := hQ185
            have N185 := Fr.app N11 Nq185
            have Ab1_185 : own_A Z T185.heap b1 .byte [(.int (nar .byte i6)), (.int (nar .byte i6)), (.int (nar .byte i6)), (.int (nar .byte ((i4 ||| (128 : Int32)).toInt8.toInt32))), (.int (nar .byte ((((i4.toUInt32 >>> ((7 : Int32) &&& 31).toUInt32).toInt32) ||| (128 : Int32)).toInt8.toInt32))), (.int (nar .byte ((((((i4.toUInt32 >>> ((7 : Int32) &&& 31).toUInt32).toInt32).toUInt32 >>> ((7 : Int32) &&& 31).toUInt32).toInt32) ||| (128 : Int32)).toInt8.toInt32))), (.int (nar .byte ((((((((i4.toUInt32 >>> ((7 : Int32) &&& 31).toUInt32).toInt32).toUInt32 >>> ((7 : Int32) &&& 31).toUInt32).toInt32).toUInt32 >>> ((7 : Int32) &&& 31).toUInt32).toInt32) ||| (128 : Int32)).toInt8.toInt32))), (.int (nar .byte (((((((((i4.toUInt32 >>> ((7 : Int32) &&& 31).toUInt32).toInt32).toUInt32 >>> ((7 : Int32) &&& 31).toUInt32).toInt32).toUInt32 >>> ((7 : Int32) &&& 31).toUInt32).toInt32).toUInt32 >>> ((7 : Int32) &&& 31).toUInt32).toInt32).toInt8.toInt32))), (.int (nar .byte i6)), (.int (nar .byte i6))] := Aw185
            refine own_step (T' := T185) (f' := (mkF m 99 #[.val (.int i0), .val (.int i1), .val (.int i2), .val (.int i3), .val (.int i4), .val (.int (3 : Int32)), .val (.int i6), .val (.ref b1), .unset, .unset, .unset] [(.int (f1n5_0 i4 (3 : Int32)))])) st185 ?_
            refine own_step (T' := T185) (f' := (mkF m 106 #[.val (.int i0), .val (.int i1), .val (.int i2), .val (.int i3), .val (.int i4), .val (.int (3 : Int32)), .val (.int i6), .val (.ref b1), .val (.int (f1n5_0 i4 (3 : Int32))), .unset, .unset] [(.int (128 : Int32)), (.int i4)])) (fun t kt => ?_) ?_
            · show Steps p.tables e below (T185.setTop (mkF m 99 #[.val (.int i0), .val (.int i1), .val (.int i2), .val (.int i3), .val (.int i4), .val (.int (3 : Int32)), .val (.int i6), .val (.ref b1), .unset, .unset, .unset] [(.int (f1n5_0 i4 (3 : Int32)))])) _
              refine XS.istore X185.here hx rfl (hb hby at_99) rfl (l' := #[.val (.int i0), .val (.int i1), .val (.int i2), .val (.int i3), .val (.int i4), .val (.int (3 : Int32)), .val (.int i6), .val (.ref b1), .val (.int (f1n5_0 i4 (3 : Int32))), .unset, .unset]) rfl ?_
              show Steps p.tables e below (T185.setTop (mkF m 101 #[.val (.int i0), .val (.int i1), .val (.int i2), .val (.int i3), .val (.int i4), .val (.int (3 : Int32)), .val (.int i6), .val (.ref b1), .val (.int (f1n5_0 i4 (3 : Int32))), .unset, .unset] [])) _
              refine XS.iload X185.here hx rfl (hb hby at_101) rfl ?_
              show Steps p.tables e below (T185.setTop (mkF m 103 #[.val (.int i0), .val (.int i1), .val (.int i2), .val (.int i3), .val (.int i4), .val (.int (3 : Int32)), .val (.int i6), .val (.ref b1), .val (.int (f1n5_0 i4 (3 : Int32))), .unset, .unset] [(.int i4)])) _
              refine XS.sipush X185.here hx rfl (hb hby at_103) ?_
              exact kt
            refine own_step (T' := T185) (f' := (mkF m 115 #[.val (.int i0), .val (.int i1), .val (.int i2), .val (.int i3), .val (.int i4), .val (.int (3 : Int32)), .val (.int i6), .val (.ref b1), .val (.int (f1n5_0 i4 (3 : Int32))), .unset, .unset] [])) (fun t kt => ?_) ?_
            · show Steps p.tables e below (T185.setTop (mkF m 106 #[.val (.int i0), .val (.int i1), .val (.int i2), .val (.int i3), .val (.int i4), .val (.int (3 : Int32)), .val (.int i6), .val (.ref b1), .val (.int (f1n5_0 i4 (3 : Int32))), .unset, .unset] [(.int (128 : Int32)), (.int i4)])) _
              refine XS.icmpYes X185.here hx rfl (pc0 := 106) (pc' := 115) rfl (hb hby at_106) rfl (flt hm90_167).2.1 (by decide) (by decide) kt
            refine own_step (T' := T185) (f' := (mkF m 120 #[.val (.int i0), .val (.int i1), .val (.int i2), .val (.int i3), .val (.int i4), .val (.int (3 : Int32)), .val (.int i6), .val (.ref b1), .val (.int (f1n5_0 i4 (3 : Int32))), .unset, .unset] [(.int (16384 : Int32)), (.int i4)])) (fun t kt => ?_) ?_
            · show Steps p.tables e below (T185.setTop (mkF m 115 #[.val (.int i0), .val (.int i1), .val (.int i2), .val (.int i3), .val (.int i4), .val (.int (3 : Int32)), .val (.int i6), .val (.ref b1), .val (.int (f1n5_0 i4 (3 : Int32))), .unset, .unset] [])) _
              refine XS.iload X185.here hx rfl (hb hby at_115) rfl ?_
              show Steps p.tables e below (T185.setTop (mkF m 117 #[.val (.int i0), .val (.int i1), .val (.int i2), .val (.int i3), .val (.int i4), .val (.int (3 : Int32)), .val (.int i6), .val (.ref b1), .val (.int (f1n5_0 i4 (3 : Int32))), .unset, .unset] [(.int i4)])) _
              refine XS.sipush X185.here hx rfl (hb hby at_117) ?_
              exact kt
            refine own_step (T' := T185) (f' := (mkF m 129 #[.val (.int i0), .val (.int i1), .val (.int i2), .val (.int i3), .val (.int i4), .val (.int (3 : Int32)), .val (.int i6), .val (.ref b1), .val (.int (f1n5_0 i4 (3 : Int32))), .unset, .unset] [])) (fun t kt => ?_) ?_
            · show Steps p.tables e below (T185.setTop (mkF m 120 #[.val (.int i0), .val (.int i1), .val (.int i2), .val (.int i3), .val (.int i4), .val (.int (3 : Int32)), .val (.int i6), .val (.ref b1), .val (.int (f1n5_0 i4 (3 : Int32))), .unset, .unset] [(.int (16384 : Int32)), (.int i4)])) _
              refine XS.icmpYes X185.here hx rfl (pc0 := 120) (pc' := 129) rfl (hb hby at_120) rfl (flt hm90_170).2.1 (by decide) (by decide) kt
            refine own_step (T' := T185) (f' := (mkF m 133 #[.val (.int i0), .val (.int i1), .val (.int i2), .val (.int i3), .val (.int i4), .val (.int (3 : Int32)), .val (.int i6), .val (.ref b1), .val (.int (f1n5_0 i4 (3 : Int32))), .unset, .unset] [(.int (2097152 : Int32)), (.int i4)])) (fun t kt => ?_) ?_
            · show Steps p.tables e below (T185.setTop (mkF m 129 #[.val (.int i0), .val (.int i1), .val (.int i2), .val (.int i3), .val (.int i4), .val (.int (3 : Int32)), .val (.int i6), .val (.ref b1), .val (.int (f1n5_0 i4 (3 : Int32))), .unset, .unset] [])) _
              refine XS.iload X185.here hx rfl (hb hby at_129) rfl ?_
              show Steps p.tables e below (T185.setTop (mkF m 131 #[.val (.int i0), .val (.int i1), .val (.int i2), .val (.int i3), .val (.int i4), .val (.int (3 : Int32)), .val (.int i6), .val (.ref b1), .val (.int (f1n5_0 i4 (3 : Int32))), .unset, .unset] [(.int i4)])) _
              refine X185.ldcInt hx hown (mvT hZ (hw _ (List.mem_of_getElem? (i := 10) rfl))) (g := (mkF m 131 #[.val (.int i0), .val (.int i1), .val (.int i2), .val (.int i3), .val (.int i4), .val (.int (3 : Int32)), .val (.int i6), .val (.ref b1), .val (.int (f1n5_0 i4 (3 : Int32))), .unset, .unset] [(.int i4)])) rfl (hb hby at_131) _ ?_
              exact kt
            refine own_step (T' := T185) (f' := (mkF m 142 #[.val (.int i0), .val (.int i1), .val (.int i2), .val (.int i3), .val (.int i4), .val (.int (3 : Int32)), .val (.int i6), .val (.ref b1), .val (.int (f1n5_0 i4 (3 : Int32))), .unset, .unset] [])) (fun t kt => ?_) ?_
            · show Steps p.tables e below (T185.setTop (mkF m 133 #[.val (.int i0), .val (.int i1), .val (.int i2), .val (.int i3), .val (.int i4), .val (.int (3 : Int32)), .val (.int i6), .val (.ref b1), .val (.int (f1n5_0 i4 (3 : Int32))), .unset, .unset] [(.int (2097152 : Int32)), (.int i4)])) _
              refine XS.icmpYes X185.here hx rfl (pc0 := 133) (pc' := 142) rfl (hb hby at_133) rfl (flt hm90_174).2.1 (by decide) (by decide) kt
            refine own_step (T' := T185) (f' := (mkF m 146 #[.val (.int i0), .val (.int i1), .val (.int i2), .val (.int i3), .val (.int i4), .val (.int (3 : Int32)), .val (.int i6), .val (.ref b1), .val (.int (f1n5_0 i4 (3 : Int32))), .unset, .unset] [(.int (268435456 : Int32)), (.int i4)])) (fun t kt => ?_) ?_
            · show Steps p.tables e below (T185.setTop (mkF m 142 #[.val (.int i0), .val (.int i1), .val (.int i2), .val (.int i3), .val (.int i4), .val (.int (3 : Int32)), .val (.int i6), .val (.ref b1), .val (.int (f1n5_0 i4 (3 : Int32))), .unset, .unset] [])) _
              refine XS.iload X185.here hx rfl (hb hby at_142) rfl ?_
              show Steps p.tables e below (T185.setTop (mkF m 144 #[.val (.int i0), .val (.int i1), .val (.int i2), .val (.int i3), .val (.int i4), .val (.int (3 : Int32)), .val (.int i6), .val (.ref b1), .val (.int (f1n5_0 i4 (3 : Int32))), .unset, .unset] [(.int i4)])) _
              refine X185.ldcInt hx hown (mvT hZ (hw _ (List.mem_of_getElem? (i := 11) rfl))) (g := (mkF m 144 #[.val (.int i0), .val (.int i1), .val (.int i2), .val (.int i3), .val (.int i4), .val (.int (3 : Int32)), .val (.int i6), .val (.ref b1), .val (.int (f1n5_0 i4 (3 : Int32))), .unset, .unset] [(.int i4)])) rfl (hb hby at_144) _ ?_
              exact kt
            refine own_step (T' := T185) (f' := (mkF m 155 #[.val (.int i0), .val (.int i1), .val (.int i2), .val (.int i3), .val (.int i4), .val (.int (3 : Int32)), .val (.int i6), .val (.ref b1), .val (.int (f1n5_0 i4 (3 : Int32))), .unset, .unset] [])) (fun t kt => ?_) ?_
            · show Steps p.tables e below (T185.setTop (mkF m 146 #[.val (.int i0), .val (.int i1), .val (.int i2), .val (.int i3), .val (.int i4), .val (.int (3 : Int32)), .val (.int i6), .val (.ref b1), .val (.int (f1n5_0 i4 (3 : Int32))), .unset, .unset] [(.int (268435456 : Int32)), (.int i4)])) _
              refine XS.icmpYes X185.here hx rfl (pc0 := 146) (pc' := 155) rfl (hb hby at_146) rfl (flt hm90_179).2.1 (by decide) (by decide) kt
            refine own_step (T' := T185) (f' := (mkF m 158 #[.val (.int i0), .val (.int i1), .val (.int i2), .val (.int i3), .val (.int i4), .val (.int (3 : Int32)), .val (.int i6), .val (.ref b1), .val (.int (f1n5_0 i4 (3 : Int32))), .val (.int (5 : Int32)), .unset] [])) (fun t kt => ?_) ?_
            · show Steps p.tables e below (T185.setTop (mkF m 155 #[.val (.int i0), .val (.int i1), .val (.int i2), .val (.int i3), .val (.int i4), .val (.int (3 : Int32)), .val (.int i6), .val (.ref b1), .val (.int (f1n5_0 i4 (3 : Int32))), .unset, .unset] [])) _
              refine XS.iconst X185.here hx rfl (hb hby at_155) ?_
              show Steps p.tables e below (T185.setTop (mkF m 156 #[.val (.int i0), .val (.int i1), .val (.int i2), .val (.int i3), .val (.int i4), .val (.int (3 : Int32)), .val (.int i6), .val (.ref b1), .val (.int (f1n5_0 i4 (3 : Int32))), .unset, .unset] [(.int (5 : Int32))])) _
              refine XS.istore X185.here hx rfl (hb hby at_156) rfl (l' := #[.val (.int i0), .val (.int i1), .val (.int i2), .val (.int i3), .val (.int i4), .val (.int (3 : Int32)), .val (.int i6), .val (.ref b1), .val (.int (f1n5_0 i4 (3 : Int32))), .val (.int (5 : Int32)), .unset]) rfl ?_
              exact kt
            exact b0_158 i0 i1 i2 i3 i4 (3 : Int32) i6 b1 (f1n5_0 i4 (3 : Int32)) (5 : Int32) (nar .byte i6) (nar .byte i6) (nar .byte i6) (nar .byte ((i4 ||| (128 : Int32)).toInt8.toInt32)) (nar .byte ((((i4.toUInt32 >>> ((7 : Int32) &&& 31).toUInt32).toInt32) ||| (128 : Int32)).toInt8.toInt32)) (nar .byte ((((((i4.toUInt32 >>> ((7 : Int32) &&& 31).toUInt32).toInt32).toUInt32 >>> ((7 : Int32) &&& 31).toUInt32).toInt32) ||| (128 : Int32)).toInt8.toInt32)) (nar .byte ((((((((i4.toUInt32 >>> ((7 : Int32) &&& 31).toUInt32).toInt32).toUInt32 >>> ((7 : Int32) &&& 31).toUInt32).toInt32).toUInt32 >>> ((7 : Int32) &&& 31).toUInt32).toInt32) ||| (128 : Int32)).toInt8.toInt32)) (nar .byte (((((((((i4.toUInt32 >>> ((7 : Int32) &&& 31).toUInt32).toInt32).toUInt32 >>> ((7 : Int32) &&& 31).toUInt32).toInt32).toUInt32 >>> ((7 : Int32) &&& 31).toUInt32).toInt32).toUInt32 >>> ((7 : Int32) &&& 31).toUInt32).toInt32).toInt8.toInt32)) (nar .byte i6) (nar .byte i6) X185 hx hZ hw hby hml hown hret hlk rfl N185 Ab1_185 g1 Z185 hr
def f0_0 (p0 : Int32) (p1 : Int32) (p2 : Int32) (p3 : Int32) : Int32 :=
  f0_20 (((p0 &&& (2147483647 : Int32)).toUInt32 >>> ((p1 &&& (31 : Int32)) &&& 31).toUInt32).toInt32) (p2 &&& (3 : Int32)) (p3.toInt8.toInt32)
set_option maxRecDepth 65536 in
set_option maxHeartbeats 4000000 in
theorem b0_0 {p : Program} {l : Launch} {e : Env} {s : State} {m : MethodId} {args : Array Value} {below : List Frame} {meth : Method} {c : Code} {T0 : State} {locs : List Loc} {Z : State} {a0 : Array Value} {h0 : Heap} {n0 : Nat} (p0 : Int32) (p1 : Int32) (p2 : Int32) (p3 : Int32) {r : Int32} (X0 : Stand p l e room_1 s m args below meth c T0 locs 0 0) (hx : p.tables.exec = Jvm.exec) (hZ : Z.Warmed39 s.vm) (hw : ∀ d ∈ tables_1, d.before a0 Z = true) (hby : c.code = code) (hml : c.maxLocals = 11) (hown : s.vm.findClass "hotstate/sort/VarIntsWritePinLaw" = some m.cls) (hret : meth.sig.returnType = some .boolean) (hlk : meth.locks = false) (e0 : T0.heap = h0) (N0 : Fr n0 locs) (Z0 : n0 ≤ h0.size) (hr : r = f0_0 p0 p1 p2 p3) :
    own_Ends p e below s 16 128 (own_R (.int r) n0) T0 (mkF m 0 #[.val (.int p0), .val (.int p1), .val (.int p2), .val (.int p3), .unset, .unset, .unset, .unset, .unset, .unset, .unset] []) := by
  unfold f0_0 at hr
  refine own_step (T' := T0) (f' := (mkF m 20 #[.val (.int p0), .val (.int p1), .val (.int p2), .val (.int p3), .val (.int (((p0 &&& (2147483647 : Int32)).toUInt32 >>> ((p1 &&& (31 : Int32)) &&& 31).toUInt32).toInt32)), .val (.int (p2 &&& (3 : Int32))), .val (.int (p3.toInt8.toInt32)), .unset, .unset, .unset, .unset] [])) (fun t kt => ?_) ?_
  · show Steps p.tables e below (T0.setTop (mkF m 0 #[.val (.int p0), .val (.int p1), .val (.int p2), .val (.int p3), .unset, .unset, .unset, .unset, .unset, .unset, .unset] [])) _
    refine XS.iloadN X0.here hx rfl (hb hby at_0) rfl ?_
    show Steps p.tables e below (T0.setTop (mkF m 1 #[.val (.int p0), .val (.int p1), .val (.int p2), .val (.int p3), .unset, .unset, .unset, .unset, .unset, .unset, .unset] [(.int p0)])) _
    refine X0.ldcInt hx hown (mvT hZ (hw _ (List.mem_of_getElem? (i := 0) rfl))) (g := (mkF m 1 #[.val (.int p0), .val (.int p1), .val (.int p2), .val (.int p3), .unset, .unset, .unset, .unset, .unset, .unset, .unset] [(.int p0)])) rfl (hb hby at_1) _ ?_
    show Steps p.tables e below (T0.setTop (mkF m 3 #[.val (.int p0), .val (.int p1), .val (.int p2), .val (.int p3), .unset, .unset, .unset, .unset, .unset, .unset, .unset] [(.int (2147483647 : Int32)), (.int p0)])) _
    refine XS.iand X0.here hx rfl (hb hby at_3) rfl ?_
    show Steps p.tables e below (T0.setTop (mkF m 4 #[.val (.int p0), .val (.int p1), .val (.int p2), .val (.int p3), .unset, .unset, .unset, .unset, .unset, .unset, .unset] [(.int (p0 &&& (2147483647 : Int32)))])) _
    refine XS.iloadN X0.here hx rfl (hb hby at_4) rfl ?_
    show Steps p.tables e below (T0.setTop (mkF m 5 #[.val (.int p0), .val (.int p1), .val (.int p2), .val (.int p3), .unset, .unset, .unset, .unset, .unset, .unset, .unset] [(.int p1), (.int (p0 &&& (2147483647 : Int32)))])) _
    refine XS.bipush X0.here hx rfl (hb hby at_5) ?_
    show Steps p.tables e below (T0.setTop (mkF m 7 #[.val (.int p0), .val (.int p1), .val (.int p2), .val (.int p3), .unset, .unset, .unset, .unset, .unset, .unset, .unset] [(.int (31 : Int32)), (.int p1), (.int (p0 &&& (2147483647 : Int32)))])) _
    refine XS.iand X0.here hx rfl (hb hby at_7) rfl ?_
    show Steps p.tables e below (T0.setTop (mkF m 8 #[.val (.int p0), .val (.int p1), .val (.int p2), .val (.int p3), .unset, .unset, .unset, .unset, .unset, .unset, .unset] [(.int (p1 &&& (31 : Int32))), (.int (p0 &&& (2147483647 : Int32)))])) _
    refine XS.iushr X0.here hx rfl (hb hby at_8) rfl ?_
    show Steps p.tables e below (T0.setTop (mkF m 9 #[.val (.int p0), .val (.int p1), .val (.int p2), .val (.int p3), .unset, .unset, .unset, .unset, .unset, .unset, .unset] [(.int (((p0 &&& (2147483647 : Int32)).toUInt32 >>> ((p1 &&& (31 : Int32)) &&& 31).toUInt32).toInt32))])) _
    refine XS.istore X0.here hx rfl (hb hby at_9) rfl (l' := #[.val (.int p0), .val (.int p1), .val (.int p2), .val (.int p3), .val (.int (((p0 &&& (2147483647 : Int32)).toUInt32 >>> ((p1 &&& (31 : Int32)) &&& 31).toUInt32).toInt32)), .unset, .unset, .unset, .unset, .unset, .unset]) rfl ?_
    show Steps p.tables e below (T0.setTop (mkF m 11 #[.val (.int p0), .val (.int p1), .val (.int p2), .val (.int p3), .val (.int (((p0 &&& (2147483647 : Int32)).toUInt32 >>> ((p1 &&& (31 : Int32)) &&& 31).toUInt32).toInt32)), .unset, .unset, .unset, .unset, .unset, .unset] [])) _
    refine XS.iloadN X0.here hx rfl (hb hby at_11) rfl ?_
    show Steps p.tables e below (T0.setTop (mkF m 12 #[.val (.int p0), .val (.int p1), .val (.int p2), .val (.int p3), .val (.int (((p0 &&& (2147483647 : Int32)).toUInt32 >>> ((p1 &&& (31 : Int32)) &&& 31).toUInt32).toInt32)), .unset, .unset, .unset, .unset, .unset, .unset] [(.int p2)])) _
    refine XS.iconst X0.here hx rfl (hb hby at_12) ?_
    show Steps p.tables e below (T0.setTop (mkF m 13 #[.val (.int p0), .val (.int p1), .val (.int p2), .val (.int p3), .val (.int (((p0 &&& (2147483647 : Int32)).toUInt32 >>> ((p1 &&& (31 : Int32)) &&& 31).toUInt32).toInt32)), .unset, .unset, .unset, .unset, .unset, .unset] [(.int (3 : Int32)), (.int p2)])) _
    refine XS.iand X0.here hx rfl (hb hby at_13) rfl ?_
    show Steps p.tables e below (T0.setTop (mkF m 14 #[.val (.int p0), .val (.int p1), .val (.int p2), .val (.int p3), .val (.int (((p0 &&& (2147483647 : Int32)).toUInt32 >>> ((p1 &&& (31 : Int32)) &&& 31).toUInt32).toInt32)), .unset, .unset, .unset, .unset, .unset, .unset] [(.int (p2 &&& (3 : Int32)))])) _
    refine XS.istore X0.here hx rfl (hb hby at_14) rfl (l' := #[.val (.int p0), .val (.int p1), .val (.int p2), .val (.int p3), .val (.int (((p0 &&& (2147483647 : Int32)).toUInt32 >>> ((p1 &&& (31 : Int32)) &&& 31).toUInt32).toInt32)), .val (.int (p2 &&& (3 : Int32))), .unset, .unset, .unset, .unset, .unset]) rfl ?_
    show Steps p.tables e below (T0.setTop (mkF m 16 #[.val (.int p0), .val (.int p1), .val (.int p2), .val (.int p3), .val (.int (((p0 &&& (2147483647 : Int32)).toUInt32 >>> ((p1 &&& (31 : Int32)) &&& 31).toUInt32).toInt32)), .val (.int (p2 &&& (3 : Int32))), .unset, .unset, .unset, .unset, .unset] [])) _
    refine XS.iloadN X0.here hx rfl (hb hby at_16) rfl ?_
    show Steps p.tables e below (T0.setTop (mkF m 17 #[.val (.int p0), .val (.int p1), .val (.int p2), .val (.int p3), .val (.int (((p0 &&& (2147483647 : Int32)).toUInt32 >>> ((p1 &&& (31 : Int32)) &&& 31).toUInt32).toInt32)), .val (.int (p2 &&& (3 : Int32))), .unset, .unset, .unset, .unset, .unset] [(.int p3)])) _
    refine XS.i2b X0.here hx rfl (hb hby at_17) rfl ?_
    show Steps p.tables e below (T0.setTop (mkF m 18 #[.val (.int p0), .val (.int p1), .val (.int p2), .val (.int p3), .val (.int (((p0 &&& (2147483647 : Int32)).toUInt32 >>> ((p1 &&& (31 : Int32)) &&& 31).toUInt32).toInt32)), .val (.int (p2 &&& (3 : Int32))), .unset, .unset, .unset, .unset, .unset] [(.int (p3.toInt8.toInt32))])) _
    refine XS.istore X0.here hx rfl (hb hby at_18) rfl (l' := #[.val (.int p0), .val (.int p1), .val (.int p2), .val (.int p3), .val (.int (((p0 &&& (2147483647 : Int32)).toUInt32 >>> ((p1 &&& (31 : Int32)) &&& 31).toUInt32).toInt32)), .val (.int (p2 &&& (3 : Int32))), .val (.int (p3.toInt8.toInt32)), .unset, .unset, .unset, .unset]) rfl ?_
    exact kt
  exact b0_20 p0 p1 p2 p3 (((p0 &&& (2147483647 : Int32)).toUInt32 >>> ((p1 &&& (31 : Int32)) &&& 31).toUInt32).toInt32) (p2 &&& (3 : Int32)) (p3.toInt8.toInt32) X0 hx hZ hw hby hml hown hret hlk e0 N0 Z0 (own_at4 _) (own_pos _ _) hr
set_option maxRecDepth 65536 in
set_option maxHeartbeats 4000000 in
theorem rm0 (l : Launch) (Z : State) (a0 : Array Value) (hw : ∀ d ∈ tables_1, d.before a0 Z = true) (ws : List Jvm.Cond) (p0 : Int32) (p1 : Int32) (p2 : Int32) (p3 : Int32) (h0 : Heap) (n0 : Nat) (Z0 : n0 ≤ h0.size) :
    MetFree l x (head1 (Jvm.Cond.code x code maxLocals ret :: ws) room_1) (fun a U => a = #[(.int p0), (.int p1), (.int p2), (.int p3)] ∧ Z.Warmed39 U.vm ∧ U.heap = h0) (fun _ _ _ _ _ => True) (fun _ U o U' => ∃ v L, o = .returned v ∧ (own_R (.int (f0_0 p0 p1 p2 p3)) n0) v U'.heap L ∧ FrameEnd U o U' L 16 128) := by
  refine MetFree.of_bodySF (plainFor_of_name pn0) hisR ?_
  intro p e s m args below meth c s₁ Bd hml0 hP hK
  obtain ⟨rfl, hZ, hh⟩ := hP
  have hown : s.vm.findClass "hotstate/sort/VarIntsWritePinLaw" = some m.cls := findClass_of_methodNamed Bd.named
  have X0 : Stand p l e room_1 s m #[(.int p0), (.int p1), (.int p2), (.int p3)] below meth c s₁ [] 0 0 := Stand.of_body Bd
  have e0 : s₁.heap = h0 := by rw [← hh, Bd.state]; rfl
  show own_Ends p e below s 16 128 (own_R (.int (f0_0 p0 p1 p2 p3)) n0) s₁ (entryFrame m #[(.int p0), (.int p1), (.int p2), (.int p3)] maxLocals)
  refine own_step (fun t k => castTop (ef0 m p0 p1 p2 p3) k) ?_
  exact b0_0 p0 p1 p2 p3 X0 Bd.exec hZ hw Bd.bytes hml0 hown Bd.returns (BodyLoose.notSynchronized Bd) e0 (Fr.nil n0) Z0 rfl
theorem own_b (x y : Int32) (h : (x.toInt - y.toInt) % 256 = 0) : x.toInt8.toInt32 = y.toInt8.toInt32 := by
  apply Int32.toInt_inj.mp
  have a := c_i2b x
  have b := c_i2b y
  omega
theorem own_bb (x : Int32) : nar .byte (x.toInt8.toInt32) = x.toInt8.toInt32 := by
  show (x.toInt8.toInt32).toInt8.toInt32 = _
  apply own_b
  have a := c_i2b x
  omega
theorem own_dist (a b c : Int32) : (a ||| b) &&& c = (a &&& c) ||| (b &&& c) := by
  apply Int32.toBitVec_inj.mp
  show (a.toBitVec ||| b.toBitVec) &&& c.toBitVec = (a.toBitVec &&& c.toBitVec) ||| (b.toBitVec &&& c.toBitVec)
  rw [BitVec.and_comm, BitVec.and_or_distrib_left, BitVec.and_comm c.toBitVec, BitVec.and_comm c.toBitVec]
theorem own_or8 (w : Int32) : (w ||| (128 : Int32)).toInt8.toInt32 = ((w &&& (127 : Int32)) ||| (128 : Int32)).toInt8.toInt32 := by
  have h1 : (w ||| (128 : Int32)) &&& 255 = ((w &&& (127 : Int32)) ||| (128 : Int32)) &&& 255 := by
    have d1 : (w ||| (128 : Int32)) &&& 255 = (w &&& 255) ||| 128 := by rw [own_dist]; rfl
    have d2 : ((w &&& (127 : Int32)) ||| (128 : Int32)) &&& 255 = ((w &&& 255) &&& 127) ||| 128 := by
      rw [own_dist, Int32.and_assoc, Int32.and_assoc]; rfl
    rw [d1, d2]
    have hm := c_mask w 255 8 (by decide) (by decide)
    have hv : w &&& (255 : Int32) = Int32.ofNat (w.toInt % 256).toNat := by
      apply Int32.toInt_inj.mp
      rw [hm, Int32.toInt_ofNat_of_lt (by omega)]; omega
    have key : ∀ k : Fin 256, Int32.ofNat k.val ||| 128 = (Int32.ofNat k.val &&& 127) ||| 128 := by decide +kernel
    rw [hv]; exact key ⟨(w.toInt % 256).toNat, by omega⟩
  have m1 := c_mask (w ||| (128 : Int32)) 255 8 (by decide) (by decide)
  have m2 := c_mask ((w &&& (127 : Int32)) ||| (128 : Int32)) 255 8 (by decide) (by decide)
  rw [h1, m2] at m1
  apply own_b
  omega
theorem own_sh (v : Int32) (h : 0 ≤ v.toInt) (i : Int32) (k : Nat) (hk : ((7 : Int32) * i).toBitVec.toNat % 32 = k) (h0 : 0 < k) : ((v.toUInt32 >>> (((7 : Int32) * i) &&& 31).toUInt32).toInt32).toInt = v.toInt / (2 ^ k : Nat) := by
  have u := Int32.toInt_lt v
  have s := c_iushr v ((7 : Int32) * i) k hk h0
  rw [Int.emod_eq_of_lt h (by omega)] at s
  exact s
theorem own_s0 (v : Int32) : ((v.toUInt32 >>> (((7 : Int32) * (0 : Int32)) &&& 31).toUInt32).toInt32) = v := by
  have e : (((7 : Int32) * 0) &&& 31).toUInt32 = 0 := by decide
  rw [e, UInt32.shiftRight_zero]; rfl
theorem own_s1 (v : Int32) (h : 0 ≤ v.toInt) : ((v.toUInt32 >>> (((7 : Int32) * (1 : Int32)) &&& 31).toUInt32).toInt32) = own_u v := by
  apply Int32.toInt_inj.mp
  have s := own_sh v h 1 7 (by decide) (by decide)
  have q := own_us v h
  rw [s, q.1]; rfl
theorem own_s2 (v : Int32) (h : 0 ≤ v.toInt) : ((v.toUInt32 >>> (((7 : Int32) * (2 : Int32)) &&& 31).toUInt32).toInt32) = own_u (own_u v) := by
  apply Int32.toInt_inj.mp
  have s := own_sh v h 2 14 (by decide) (by decide)
  have q := own_us v h
  rw [s, q.2.1]; rfl
theorem own_s3 (v : Int32) (h : 0 ≤ v.toInt) : ((v.toUInt32 >>> (((7 : Int32) * (3 : Int32)) &&& 31).toUInt32).toInt32) = own_u (own_u (own_u v)) := by
  apply Int32.toInt_inj.mp
  have s := own_sh v h 3 21 (by decide) (by decide)
  have q := own_us v h
  rw [s, q.2.2.1]; rfl
theorem own_s4 (v : Int32) (h : 0 ≤ v.toInt) : ((v.toUInt32 >>> (((7 : Int32) * (4 : Int32)) &&& 31).toUInt32).toInt32) = own_u (own_u (own_u (own_u v))) := by
  apply Int32.toInt_inj.mp
  have s := own_sh v h 4 28 (by decide) (by decide)
  have q := own_us v h
  rw [s, q.2.2.2]; rfl
theorem own_m {v w : Int32} {i : Int32} (e : ((v.toUInt32 >>> (((7 : Int32) * i) &&& 31).toUInt32).toInt32) = w) : (nar .byte ((w ||| (128 : Int32)).toInt8.toInt32)) = ((((v.toUInt32 >>> (((7 : Int32) * i) &&& 31).toUInt32).toInt32) &&& (127 : Int32)) ||| (128 : Int32)).toInt8.toInt32 := by
  rw [e, own_bb, own_or8]
theorem own_t {v w : Int32} {i : Int32} (e : ((v.toUInt32 >>> (((7 : Int32) * i) &&& 31).toUInt32).toInt32) = w) (h0 : 0 ≤ w.toInt) (h1 : w < (128 : Int32)) : (nar .byte (w.toInt8.toInt32)) = (((v.toUInt32 >>> (((7 : Int32) * i) &&& 31).toUInt32).toInt32) &&& (127 : Int32)).toInt8.toInt32 := by
  rw [e, own_bb]
  have m := c_mask w 127 7 (by decide) (by decide)
  rw [Int32.lt_iff_toInt_lt, show (128 : Int32).toInt = 128 from rfl] at h1
  apply own_b
  omega
theorem own_out {j at_ n v fill e : Int32} (h : j < at_ ∨ ¬ j < at_ + n) (he : e = fill) : ¬ f2_0 j at_ n v fill e = (0 : Int32) := by
  unfold f2_0
  rw [if_pos he]
  by_cases h1 : j < at_
  · rw [if_pos h1]; decide
  · rw [if_neg h1, if_neg (h.resolve_left h1)]; decide
theorem own_midc {j at_ n v fill e i : Int32} (h1 : ¬ j < at_) (h2 : j < at_ + n) (h3 : j - at_ < n - (1 : Int32)) (hi : j - at_ = i) (he : e = ((((v.toUInt32 >>> (((7 : Int32) * i) &&& 31).toUInt32).toInt32) &&& (127 : Int32)) ||| (128 : Int32)).toInt8.toInt32) : ¬ f2_0 j at_ n v fill e = (0 : Int32) := by
  unfold f2_0
  rw [if_neg h1, if_pos h2, if_pos h3, hi, if_pos he]; decide
theorem own_topc {j at_ n v fill e i : Int32} (h1 : ¬ j < at_) (h2 : j < at_ + n) (h3 : ¬ j - at_ < n - (1 : Int32)) (hi : j - at_ = i) (he : e = (((v.toUInt32 >>> (((7 : Int32) * i) &&& 31).toUInt32).toInt32) &&& (127 : Int32)).toInt8.toInt32) : ¬ f2_0 j at_ n v fill e = (0 : Int32) := by
  unfold f2_0
  rw [if_neg h1, if_pos h2, if_neg h3, hi, if_pos he]; decide

theorem own_20 (v at_ f : Int32) (hat : at_ = 0 ∨ at_ = 1 ∨ at_ = 2 ∨ at_ = 3) (hp : ¬ v < (0 : Int32)) : f0_20 v at_ (f.toInt8.toInt32) = 1 := by
  have h0 := own_nn hp
  have hq := own_us v h0
  have hf := own_bb f
  unfold f0_20
  rcases hat with rfl | rfl | rfl | rfl
  · rw [if_pos rfl]
    by_cases h1 : v < (128 : Int32)
    · rw [if_pos h1]
      unfold f0_158 f1n1_0
      rw [if_pos (by decide), if_neg (own_topc (i := (0 : Int32)) (by decide) (by decide) (by decide) (by decide) (own_t (own_s0 v) h0 h1)), if_neg (own_out (by decide) hf), if_neg (own_out (by decide) hf), if_neg (own_out (by decide) hf), if_neg (own_out (by decide) hf), if_neg (own_out (by decide) hf), if_neg (own_out (by decide) hf), if_neg (own_out (by decide) hf), if_neg (own_out (by decide) hf), if_neg (own_out (by decide) hf)]
    · rw [if_neg h1]
      by_cases h2 : v < (16384 : Int32)
      · rw [if_pos h2]
        unfold f0_158 f1n2_0
        rw [if_pos (by decide), if_neg (own_midc (i := (0 : Int32)) (by decide) (by decide) (by decide) (by decide) (own_m (own_s0 v))), if_neg (own_topc (i := (1 : Int32)) (by decide) (by decide) (by decide) (by decide) (own_t (own_s1 v h0) (by omega) (own_lt1 v hp h2))), if_neg (own_out (by decide) hf), if_neg (own_out (by decide) hf), if_neg (own_out (by decide) hf), if_neg (own_out (by decide) hf), if_neg (own_out (by decide) hf), if_neg (own_out (by decide) hf), if_neg (own_out (by decide) hf), if_neg (own_out (by decide) hf)]
      · rw [if_neg h2]
        by_cases h3 : v < (2097152 : Int32)
        · rw [if_pos h3]
          unfold f0_158 f1n3_0
          rw [if_pos (by decide), if_neg (own_midc (i := (0 : Int32)) (by decide) (by decide) (by decide) (by decide) (own_m (own_s0 v))), if_neg (own_midc (i := (1 : Int32)) (by decide) (by decide) (by decide) (by decide) (own_m (own_s1 v h0))), if_neg (own_topc (i := (2 : Int32)) (by decide) (by decide) (by decide) (by decide) (own_t (own_s2 v h0) (by omega) (own_lt2 v hp h3))), if_neg (own_out (by decide) hf), if_neg (own_out (by decide) hf), if_neg (own_out (by decide) hf), if_neg (own_out (by decide) hf), if_neg (own_out (by decide) hf), if_neg (own_out (by decide) hf), if_neg (own_out (by decide) hf)]
        · rw [if_neg h3]
          by_cases h4 : v < (268435456 : Int32)
          · rw [if_pos h4]
            unfold f0_158 f1n4_0
            rw [if_pos (by decide), if_neg (own_midc (i := (0 : Int32)) (by decide) (by decide) (by decide) (by decide) (own_m (own_s0 v))), if_neg (own_midc (i := (1 : Int32)) (by decide) (by decide) (by decide) (by decide) (own_m (own_s1 v h0))), if_neg (own_midc (i := (2 : Int32)) (by decide) (by decide) (by decide) (by decide) (own_m (own_s2 v h0))), if_neg (own_topc (i := (3 : Int32)) (by decide) (by decide) (by decide) (by decide) (own_t (own_s3 v h0) (by omega) (own_lt3 v hp h4))), if_neg (own_out (by decide) hf), if_neg (own_out (by decide) hf), if_neg (own_out (by decide) hf), if_neg (own_out (by decide) hf), if_neg (own_out (by decide) hf), if_neg (own_out (by decide) hf)]
          · rw [if_neg h4]
            unfold f0_158 f1n5_0
            rw [if_pos (by decide), if_neg (own_midc (i := (0 : Int32)) (by decide) (by decide) (by decide) (by decide) (own_m (own_s0 v))), if_neg (own_midc (i := (1 : Int32)) (by decide) (by decide) (by decide) (by decide) (own_m (own_s1 v h0))), if_neg (own_midc (i := (2 : Int32)) (by decide) (by decide) (by decide) (by decide) (own_m (own_s2 v h0))), if_neg (own_midc (i := (3 : Int32)) (by decide) (by decide) (by decide) (by decide) (own_m (own_s3 v h0))), if_neg (own_topc (i := (4 : Int32)) (by decide) (by decide) (by decide) (by decide) (own_t (own_s4 v h0) (by omega) (own_lt4 v hp))), if_neg (own_out (by decide) hf), if_neg (own_out (by decide) hf), if_neg (own_out (by decide) hf), if_neg (own_out (by decide) hf), if_neg (own_out (by decide) hf)]
  · rw [if_neg (by decide), if_pos rfl]
    by_cases h1 : v < (128 : Int32)
    · rw [if_pos h1]
      unfold f0_158 f1n1_0
      rw [if_pos (by decide), if_neg (own_out (by decide) hf), if_neg (own_topc (i := (0 : Int32)) (by decide) (by decide) (by decide) (by decide) (own_t (own_s0 v) h0 h1)), if_neg (own_out (by decide) hf), if_neg (own_out (by decide) hf), if_neg (own_out (by decide) hf), if_neg (own_out (by decide) hf), if_neg (own_out (by decide) hf), if_neg (own_out (by decide) hf), if_neg (own_out (by decide) hf), if_neg (own_out (by decide) hf)]
    · rw [if_neg h1]
      by_cases h2 : v < (16384 : Int32)
      · rw [if_pos h2]
        unfold f0_158 f1n2_0
        rw [if_pos (by decide), if_neg (own_out (by decide) hf), if_neg (own_midc (i := (0 : Int32)) (by decide) (by decide) (by decide) (by decide) (own_m (own_s0 v))), if_neg (own_topc (i := (1 : Int32)) (by decide) (by decide) (by decide) (by decide) (own_t (own_s1 v h0) (by omega) (own_lt1 v hp h2))), if_neg (own_out (by decide) hf), if_neg (own_out (by decide) hf), if_neg (own_out (by decide) hf), if_neg (own_out (by decide) hf), if_neg (own_out (by decide) hf), if_neg (own_out (by decide) hf), if_neg (own_out (by decide) hf)]
      · rw [if_neg h2]
        by_cases h3 : v < (2097152 : Int32)
        · rw [if_pos h3]
          unfold f0_158 f1n3_0
          rw [if_pos (by decide), if_neg (own_out (by decide) hf), if_neg (own_midc (i := (0 : Int32)) (by decide) (by decide) (by decide) (by decide) (own_m (own_s0 v))), if_neg (own_midc (i := (1 : Int32)) (by decide) (by decide) (by decide) (by decide) (own_m (own_s1 v h0))), if_neg (own_topc (i := (2 : Int32)) (by decide) (by decide) (by decide) (by decide) (own_t (own_s2 v h0) (by omega) (own_lt2 v hp h3))), if_neg (own_out (by decide) hf), if_neg (own_out (by decide) hf), if_neg (own_out (by decide) hf), if_neg (own_out (by decide) hf), if_neg (own_out (by decide) hf), if_neg (own_out (by decide) hf)]
        · rw [if_neg h3]
          by_cases h4 : v < (268435456 : Int32)
          · rw [if_pos h4]
            unfold f0_158 f1n4_0
            rw [if_pos (by decide), if_neg (own_out (by decide) hf), if_neg (own_midc (i := (0 : Int32)) (by decide) (by decide) (by decide) (by decide) (own_m (own_s0 v))), if_neg (own_midc (i := (1 : Int32)) (by decide) (by decide) (by decide) (by decide) (own_m (own_s1 v h0))), if_neg (own_midc (i := (2 : Int32)) (by decide) (by decide) (by decide) (by decide) (own_m (own_s2 v h0))), if_neg (own_topc (i := (3 : Int32)) (by decide) (by decide) (by decide) (by decide) (own_t (own_s3 v h0) (by omega) (own_lt3 v hp h4))), if_neg (own_out (by decide) hf), if_neg (own_out (by decide) hf), if_neg (own_out (by decide) hf), if_neg (own_out (by decide) hf), if_neg (own_out (by decide) hf)]
          · rw [if_neg h4]
            unfold f0_158 f1n5_0
            rw [if_pos (by decide), if_neg (own_out (by decide) hf), if_neg (own_midc (i := (0 : Int32)) (by decide) (by decide) (by decide) (by decide) (own_m (own_s0 v))), if_neg (own_midc (i := (1 : Int32)) (by decide) (by decide) (by decide) (by decide) (own_m (own_s1 v h0))), if_neg (own_midc (i := (2 : Int32)) (by decide) (by decide) (by decide) (by decide) (own_m (own_s2 v h0))), if_neg (own_midc (i := (3 : Int32)) (by decide) (by decide) (by decide) (by decide) (own_m (own_s3 v h0))), if_neg (own_topc (i := (4 : Int32)) (by decide) (by decide) (by decide) (by decide) (own_t (own_s4 v h0) (by omega) (own_lt4 v hp))), if_neg (own_out (by decide) hf), if_neg (own_out (by decide) hf), if_neg (own_out (by decide) hf), if_neg (own_out (by decide) hf)]
  · rw [if_neg (by decide), if_neg (by decide), if_pos rfl]
    by_cases h1 : v < (128 : Int32)
    · rw [if_pos h1]
      unfold f0_158 f1n1_0
      rw [if_pos (by decide), if_neg (own_out (by decide) hf), if_neg (own_out (by decide) hf), if_neg (own_topc (i := (0 : Int32)) (by decide) (by decide) (by decide) (by decide) (own_t (own_s0 v) h0 h1)), if_neg (own_out (by decide) hf), if_neg (own_out (by decide) hf), if_neg (own_out (by decide) hf), if_neg (own_out (by decide) hf), if_neg (own_out (by decide) hf), if_neg (own_out (by decide) hf), if_neg (own_out (by decide) hf)]
    · rw [if_neg h1]
      by_cases h2 : v < (16384 : Int32)
      · rw [if_pos h2]
        unfold f0_158 f1n2_0
        rw [if_pos (by decide), if_neg (own_out (by decide) hf), if_neg (own_out (by decide) hf), if_neg (own_midc (i := (0 : Int32)) (by decide) (by decide) (by decide) (by decide) (own_m (own_s0 v))), if_neg (own_topc (i := (1 : Int32)) (by decide) (by decide) (by decide) (by decide) (own_t (own_s1 v h0) (by omega) (own_lt1 v hp h2))), if_neg (own_out (by decide) hf), if_neg (own_out (by decide) hf), if_neg (own_out (by decide) hf), if_neg (own_out (by decide) hf), if_neg (own_out (by decide) hf), if_neg (own_out (by decide) hf)]
      · rw [if_neg h2]
        by_cases h3 : v < (2097152 : Int32)
        · rw [if_pos h3]
          unfold f0_158 f1n3_0
          rw [if_pos (by decide), if_neg (own_out (by decide) hf), if_neg (own_out (by decide) hf), if_neg (own_midc (i := (0 : Int32)) (by decide) (by decide) (by decide) (by decide) (own_m (own_s0 v))), if_neg (own_midc (i := (1 : Int32)) (by decide) (by decide) (by decide) (by decide) (own_m (own_s1 v h0))), if_neg (own_topc (i := (2 : Int32)) (by decide) (by decide) (by decide) (by decide) (own_t (own_s2 v h0) (by omega) (own_lt2 v hp h3))), if_neg (own_out (by decide) hf), if_neg (own_out (by decide) hf), if_neg (own_out (by decide) hf), if_neg (own_out (by decide) hf), if_neg (own_out (by decide) hf)]
        · rw [if_neg h3]
          by_cases h4 : v < (268435456 : Int32)
          · rw [if_pos h4]
            unfold f0_158 f1n4_0
            rw [if_pos (by decide), if_neg (own_out (by decide) hf), if_neg (own_out (by decide) hf), if_neg (own_midc (i := (0 : Int32)) (by decide) (by decide) (by decide) (by decide) (own_m (own_s0 v))), if_neg (own_midc (i := (1 : Int32)) (by decide) (by decide) (by decide) (by decide) (own_m (own_s1 v h0))), if_neg (own_midc (i := (2 : Int32)) (by decide) (by decide) (by decide) (by decide) (own_m (own_s2 v h0))), if_neg (own_topc (i := (3 : Int32)) (by decide) (by decide) (by decide) (by decide) (own_t (own_s3 v h0) (by omega) (own_lt3 v hp h4))), if_neg (own_out (by decide) hf), if_neg (own_out (by decide) hf), if_neg (own_out (by decide) hf), if_neg (own_out (by decide) hf)]
          · rw [if_neg h4]
            unfold f0_158 f1n5_0
            rw [if_pos (by decide), if_neg (own_out (by decide) hf), if_neg (own_out (by decide) hf), if_neg (own_midc (i := (0 : Int32)) (by decide) (by decide) (by decide) (by decide) (own_m (own_s0 v))), if_neg (own_midc (i := (1 : Int32)) (by decide) (by decide) (by decide) (by decide) (own_m (own_s1 v h0))), if_neg (own_midc (i := (2 : Int32)) (by decide) (by decide) (by decide) (by decide) (own_m (own_s2 v h0))), if_neg (own_midc (i := (3 : Int32)) (by decide) (by decide) (by decide) (by decide) (own_m (own_s3 v h0))), if_neg (own_topc (i := (4 : Int32)) (by decide) (by decide) (by decide) (by decide) (own_t (own_s4 v h0) (by omega) (own_lt4 v hp))), if_neg (own_out (by decide) hf), if_neg (own_out (by decide) hf), if_neg (own_out (by decide) hf)]
  · rw [if_neg (by decide), if_neg (by decide), if_neg (by decide), if_pos rfl]
    by_cases h1 : v < (128 : Int32)
    · rw [if_pos h1]
      unfold f0_158 f1n1_0
      rw [if_pos (by decide), if_neg (own_out (by decide) hf), if_neg (own_out (by decide) hf), if_neg (own_out (by decide) hf), if_neg (own_topc (i := (0 : Int32)) (by decide) (by decide) (by decide) (by decide) (own_t (own_s0 v) h0 h1)), if_neg (own_out (by decide) hf), if_neg (own_out (by decide) hf), if_neg (own_out (by decide) hf), if_neg (own_out (by decide) hf), if_neg (own_out (by decide) hf), if_neg (own_out (by decide) hf)]
    · rw [if_neg h1]
      by_cases h2 : v < (16384 : Int32)
      · rw [if_pos h2]
        unfold f0_158 f1n2_0
        rw [if_pos (by decide), if_neg (own_out (by decide) hf), if_neg (own_out (by decide) hf), if_neg (own_out (by decide) hf), if_neg (own_midc (i := (0 : Int32)) (by decide) (by decide) (by decide) (by decide) (own_m (own_s0 v))), if_neg (own_topc (i := (1 : Int32)) (by decide) (by decide) (by decide) (by decide) (own_t (own_s1 v h0) (by omega) (own_lt1 v hp h2))), if_neg (own_out (by decide) hf), if_neg (own_out (by decide) hf), if_neg (own_out (by decide) hf), if_neg (own_out (by decide) hf), if_neg (own_out (by decide) hf)]
      · rw [if_neg h2]
        by_cases h3 : v < (2097152 : Int32)
        · rw [if_pos h3]
          unfold f0_158 f1n3_0
          rw [if_pos (by decide), if_neg (own_out (by decide) hf), if_neg (own_out (by decide) hf), if_neg (own_out (by decide) hf), if_neg (own_midc (i := (0 : Int32)) (by decide) (by decide) (by decide) (by decide) (own_m (own_s0 v))), if_neg (own_midc (i := (1 : Int32)) (by decide) (by decide) (by decide) (by decide) (own_m (own_s1 v h0))), if_neg (own_topc (i := (2 : Int32)) (by decide) (by decide) (by decide) (by decide) (own_t (own_s2 v h0) (by omega) (own_lt2 v hp h3))), if_neg (own_out (by decide) hf), if_neg (own_out (by decide) hf), if_neg (own_out (by decide) hf), if_neg (own_out (by decide) hf)]
        · rw [if_neg h3]
          by_cases h4 : v < (268435456 : Int32)
          · rw [if_pos h4]
            unfold f0_158 f1n4_0
            rw [if_pos (by decide), if_neg (own_out (by decide) hf), if_neg (own_out (by decide) hf), if_neg (own_out (by decide) hf), if_neg (own_midc (i := (0 : Int32)) (by decide) (by decide) (by decide) (by decide) (own_m (own_s0 v))), if_neg (own_midc (i := (1 : Int32)) (by decide) (by decide) (by decide) (by decide) (own_m (own_s1 v h0))), if_neg (own_midc (i := (2 : Int32)) (by decide) (by decide) (by decide) (by decide) (own_m (own_s2 v h0))), if_neg (own_topc (i := (3 : Int32)) (by decide) (by decide) (by decide) (by decide) (own_t (own_s3 v h0) (by omega) (own_lt3 v hp h4))), if_neg (own_out (by decide) hf), if_neg (own_out (by decide) hf), if_neg (own_out (by decide) hf)]
          · rw [if_neg h4]
            unfold f0_158 f1n5_0
            rw [if_pos (by decide), if_neg (own_out (by decide) hf), if_neg (own_out (by decide) hf), if_neg (own_out (by decide) hf), if_neg (own_midc (i := (0 : Int32)) (by decide) (by decide) (by decide) (by decide) (own_m (own_s0 v))), if_neg (own_midc (i := (1 : Int32)) (by decide) (by decide) (by decide) (by decide) (own_m (own_s1 v h0))), if_neg (own_midc (i := (2 : Int32)) (by decide) (by decide) (by decide) (by decide) (own_m (own_s2 v h0))), if_neg (own_midc (i := (3 : Int32)) (by decide) (by decide) (by decide) (by decide) (own_m (own_s3 v h0))), if_neg (own_topc (i := (4 : Int32)) (by decide) (by decide) (by decide) (by decide) (own_t (own_s4 v h0) (by omega) (own_lt4 v hp))), if_neg (own_out (by decide) hf), if_neg (own_out (by decide) hf)]
theorem law_true (p0 p1 p2 p3 : Int32) : f0_0 p0 p1 p2 p3 = 1 := by
  unfold f0_0
  exact own_20 _ _ _ (own_at4 _) (own_pos _ _)

set_option maxRecDepth 65536 in
set_option maxHeartbeats 4000000 in
theorem comes_1 {Post : Tables → Env → Array Value → State → Outcome → State → Prop} (hpost : ∀ tb e args s v u, (limb_1_1.after args s (.returned v) u = true ∧ limb_1_2.after args s (.returned v) u = true ∧ True) → FrameEnd s (.returned v) u (Jvm.fieldLocs frame_1_writes args s ++ Jvm.arrayLocs frame_1_arrays args s ++ Jvm.staticLocs frame_1_statics s) 16 128 → Post tb e args s (.returned v) u) :
    ArmFor flags0 classFile x code maxLocals ret World_1 tables_1 room_1 Calls_1 rest_1 Pre_1 Post := by
  intro l hfl _ _ p e ha hc hk s m args below hf hA hF happ hP
  obtain ⟨hcalls, hrest, hpre⟩ := hP
  obtain ⟨-, -, -, hnamed, -, -, -, hat⟩ := (Spec.applies_iff hf).mp happ
  obtain ⟨hg, hn⟩ := and_e (Cond.before_iff.mp (show (Jvm.Cond.and given_1 narrow_1).before args s = true from hpre))
  obtain ⟨g1, g2⟩ := and_e hg
  obtain ⟨ga0, gb0⟩ := and_e g2
  obtain ⟨ga1, gb1⟩ := and_e gb0
  obtain ⟨ga2, gb2⟩ := and_e gb1
  obtain ⟨w0, w1, w2, w3, rfl⟩ : ∃ w0 w1 w2 w3 : Value, args = #[w0, w1, w2, w3] := by
    have hs : args.size = 4 := by simpa [Cond.value, given_1] using g1
    obtain ⟨L⟩ := args
    match L, hs with
    | [w0, w1, w2, w3], _ => exact ⟨w0, w1, w2, w3, rfl⟩
  have hw := fun d (hd : d ∈ tables_1) => atoms_spec (ws := Jvm.Cond.code x code maxLocals ret :: tables_1) hat d (List.mem_cons_of_mem _ hd)
  obtain ⟨i0, ei0⟩ := is_v ga0
  obtain rfl : w0 = (.int i0) := Option.some.inj ei0
  obtain ⟨i1, ei1⟩ := is_v ga1
  obtain rfl : w1 = (.int i1) := Option.some.inj ei1
  obtain ⟨i2, ei2⟩ := is_v ga2
  obtain rfl : w2 = (.int i2) := Option.some.inj ei2
  obtain ⟨i3, ei3⟩ := is_v gb2
  obtain rfl : w3 = (.int i3) := Option.some.inj ei3
  obtain ⟨n, o, h1, h2, h3, _, L, rfl, ⟨rfl, N⟩, hq⟩ := rm0 l s _ hw tables_1 i0 i1 i2 i3 s.heap s.heap.size (Nat.le_refl _) p e ha hc hk s m _ below hf ((Spec.applies_iff_loose hf).mp happ).1 ⟨rfl, State.Warmed39.refl s, rfl⟩ trivial
  rw [law_true] at *
  refine ⟨n, _, h1, h2, h3, hpost _ _ _ _ _ _ ⟨Cond.after_iff.mpr rfl, Cond.after_iff.mpr (eq_i res_at (Term.int_eval (1)) rfl), trivial⟩ ⟨hq.1, hq.2.1, (hq.2.2.sift fun y hy => Or.inr (N y hy)).mono (by decide) (by decide)⟩⟩
theorem main_1_1 : Claimed_1_1 := comes_1 fun _ _ _ _ _ _ h hF => ⟨h.1, hF⟩
theorem main_1_2 : Claimed_1_2 := comes_1 fun _ _ _ _ _ _ h hF => ⟨h.2.1, hF⟩
end Jvm.Pilot.@@N@@
namespace Jvm.Pilot.@@N@@
open Jvm Jvm.ClassFile Sem Op Lib Jvm.Free Jvm.Stand Jvm.Pilot.@@N@@.Jvm.D
/-! MADE BY PROGRAM (witnessworld.py) out of the Statement's table words and the real class files: 9 classes; the members and pool entries that the words name. The judged class is class 1, her method 1. -/
namespace start1
open Jvm.ClassFile
def u (s : String) : CpInfo := .utf8 (stringToUtf16 s)
/-- a pool by its gaps: so many unusable entries, then the entry; so many at the end -/
def gap : Nat → List CpInfo → List CpInfo
  | 0, r => r
  | n + 1, r => .unusable :: gap n r
def poolList (es : List (Nat × CpInfo)) (last : Nat) : List CpInfo := es.foldr (fun e r => gap e.1 (e.2 :: r)) (gap last [])
def pool (es : List (Nat × CpInfo)) (last : Nat) : Array CpInfo := ⟨poolList es last⟩
def fileOf (pool : Array CpInfo) (this : Nat) (attrs : Array Attribute := #[]) (ms : Array MethodInfo := #[]) (fl : Nat := 33) (sup : Nat := 0) (ifs : Array Nat := #[]) (fds : Array FieldInfo := #[]) : ClassFile where
  minorVersion := 0
  majorVersion := 65
  constantPool := pool
  accessFlags := fl
  thisClass := this
  superClass := sup
  interfaces := ifs
  fields := fds
  methods := ms
  attributes := attrs
def plain (name : String) (sup : Option ClassId) : Class where
  name := name
  kind := .ordinary
  loader := none
  accessFlags := 33
  super := sup
  interfaces := #[]
  cf := none
  fields := #[]
  methods := #[]
  instanceTypes := #[]
  staticTypes := #[]
  resolved := #[]
  callSites := []
  init := .initialized
  statics := none
  mirror := none

def pool0 : Array CpInfo := pool [(5, u "<init>"), (0, u "()V"), (1, .class_ 10), (1, u "java/lang/Object")] 113

def k0m0 : Method := { name := "<init>", desc := "()V", sig := { parameters := [], returnType := none }, accessFlags := 1, code := none }
/-- java/lang/Object -/
def k0 : Class := { plain "java/lang/Object" none with
  accessFlags := 33
  interfaces := #[]
  cf := some (fileOf pool0 8 #[] #[{ accessFlags := 1, nameIndex := 5, descriptorIndex := 6, attributes := #[] }] 33 0 #[] #[])
  fields := #[]
  methods := #[k0m0]
  instanceTypes := #[]
  staticTypes := #[]
  resolved := Array.replicate 124 none
  statics := none }

def pool1 : Array CpInfo := pool [(2, .class_ 4), (1, u "java/lang/Object"), (0, u "<init>"), (0, u "()V"), (0, .integer 2147483647), (0, .methodref 9 10), (0, .class_ 11), (0, .nameAndType 12 13), (0, u "hotstate/sort/VarInts"), (0, u "write"), (0, u "(I[BI)I"), (0, .integer 2097152), (0, .integer 268435456), (0, .methodref 17 18), (0, .class_ 19), (0, .nameAndType 20 21), (0, u "hotstate/sort/VarIntsWritePinLaw"), (0, u "cell"), (0, u "([BIIIIB)Z"), (2, u "law"), (0, u "(IIII)Z")] 5

def k1m0 : Method := { name := "<init>", desc := "()V", sig := { parameters := [], returnType := none }, accessFlags := 1, code := none }
def k1c1 : Code := { maxStack := 6, maxLocals := 11, code := code, exceptionTable := #[], attributes := #[] }
def k1m1 : Method := { name := "law", desc := "(IIII)Z", sig := { parameters := [.int, .int, .int, .int], returnType := some .boolean }, accessFlags := 9, code := some k1c1 }
def k1c2 : Code := { maxStack := 3, maxLocals := 8, code := method_3_code, exceptionTable := #[], attributes := #[] }
def k1m2 : Method := { name := "cell", desc := "([BIIIIB)Z", sig := { parameters := [(.array .byte), .int, .int, .int, .int, .byte], returnType := some .boolean }, accessFlags := 10, code := some k1c2 }
/-- hotstate/sort/VarIntsWritePinLaw -/
def k1 : Class := { plain "hotstate/sort/VarIntsWritePinLaw" (some 0) with
  accessFlags := 49
  interfaces := #[]
  cf := some (fileOf pool1 17 #[] #[{ accessFlags := 1, nameIndex := 5, descriptorIndex := 6, attributes := #[] }, { accessFlags := 9, nameIndex := 24, descriptorIndex := 25, attributes := #[] }, { accessFlags := 10, nameIndex := 20, descriptorIndex := 21, attributes := #[] }] 49 2 #[] #[])
  fields := #[]
  methods := #[k1m0, k1m1, k1m2]
  instanceTypes := #[]
  staticTypes := #[]
  resolved := Array.replicate 31 none
  statics := none }

def pool2 : Array CpInfo := pool [(2, .class_ 4), (1, u "java/lang/Object"), (0, u "<init>"), (0, u "()V"), (0, .class_ 8), (0, u "hotstate/sort/VarInts"), (0, u "MAX_BYTES"), (0, u "I"), (2, u "MORE"), (1, u "BITS"), (6, u "write"), (0, u "(I[BI)I")] 5

def k2m0 : Method := { name := "<init>", desc := "()V", sig := { parameters := [], returnType := none }, accessFlags := 2, code := none }
def k2c1 : Code := { maxStack := 4, maxLocals := 4, code := prog_81_method_3_code, exceptionTable := #[], attributes := #[] }
def k2m1 : Method := { name := "write", desc := "(I[BI)I", sig := { parameters := [.int, (.array .byte), .int], returnType := some .int }, accessFlags := 8, code := some k2c1 }
/-- hotstate/sort/VarInts -/
def k2 : Class := { plain "hotstate/sort/VarInts" (some 0) with
  accessFlags := 48
  interfaces := #[]
  cf := some (fileOf pool2 7 #[] #[{ accessFlags := 2, nameIndex := 5, descriptorIndex := 6, attributes := #[] }, { accessFlags := 8, nameIndex := 22, descriptorIndex := 23, attributes := #[] }] 48 2 #[] #[{ accessFlags := 24, nameIndex := 9, descriptorIndex := 10, attributes := #[] }, { accessFlags := 26, nameIndex := 13, descriptorIndex := 10, attributes := #[] }, { accessFlags := 26, nameIndex := 15, descriptorIndex := 10, attributes := #[] }])
  fields := #[{ name := "MAX_BYTES", type := .int, accessFlags := 24, slot := 0, constantValue := 0 }, { name := "MORE", type := .int, accessFlags := 26, slot := 1, constantValue := 0 }, { name := "BITS", type := .int, accessFlags := 26, slot := 2, constantValue := 0 }]
  methods := #[k2m0, k2m1]
  instanceTypes := #[]
  staticTypes := #[.int, .int, .int]
  resolved := Array.replicate 29 none
  statics := none }

def pool3 : Array CpInfo := pool [(1, u "java/lang/Cloneable"), (0, .class_ 1), (0, u "java/lang/Object"), (0, .class_ 3)] 3

/-- java/lang/Cloneable -/
def k3 : Class := { plain "java/lang/Cloneable" (some 0) with
  accessFlags := 1537
  interfaces := #[]
  cf := some (fileOf pool3 2 #[] #[] 1537 4 #[] #[])
  fields := #[]
  methods := #[]
  instanceTypes := #[]
  staticTypes := #[]
  resolved := Array.replicate 8 none
  statics := none }

def pool4 : Array CpInfo := pool [(1, u "java/io/Serializable"), (0, .class_ 1), (0, u "java/lang/Object"), (0, .class_ 3)] 3

/-- java/io/Serializable -/
def k4 : Class := { plain "java/io/Serializable" (some 0) with
  accessFlags := 1537
  interfaces := #[]
  cf := some (fileOf pool4 2 #[] #[] 1537 4 #[] #[])
  fields := #[]
  methods := #[]
  instanceTypes := #[]
  staticTypes := #[]
  resolved := Array.replicate 8 none
  statics := none }

/-- the primitive byte -/
def k5 : Class := { plain "byte" none with kind := .primitive 'B', accessFlags := 0x411 }
/-- [B -/
def k6 : Class := { plain "[B" (some 0) with kind := .array 5 .byte, interfaces := #[3, 4], accessFlags := 1041 }

/-- the primitive int -/
def k7 : Class := { plain "int" none with kind := .primitive 'I', accessFlags := 0x411 }
/-- [I -/
def k8 : Class := { plain "[I" (some 0) with kind := .array 7 .int, interfaces := #[3, 4], accessFlags := 1041 }

def heap : Heap := #[]
def classes : Array Class := #[k0, k1, k2, k3, k4, k5, k6, k7, k8]
def interned : List (Array UInt16 × Addr) := []
def slotsUsed : Nat := 0
def theMethod : MethodId := ⟨1, 1⟩
def args0 : Array Value := #[.int 300, .int 2, .int 3, .int 4]
def aboutOver (below : List Frame) : State where
  vm := { classes := classes, interned := interned.toArray }
  heap := heap
  slotsUsed := slotsUsed
  threads := #[{ frames := .invoking theMethod args0 :: below }]
def below0 : List Frame := [.native { method := ⟨0, 0⟩, args := #[] }]
def about1 : State := aboutOver below0
def p0 : Program := .bare "" "" ""
def e0 : Env := launch0.env 0 0 0
theorem w_frames : about1.frames = Frame.invoking theMethod args0 :: below0 := rfl
set_option maxRecDepth 65536 in
theorem w_args : argsFit about1.vm theMethod args0 = true := by decide +kernel
set_option maxRecDepth 65536 in
theorem w_heap : heapFits about1 = true := by decide +kernel
set_option maxRecDepth 65536 in
theorem w_runnable : about1.curStatus? = some .runnable := by decide +kernel
set_option maxRecDepth 65536 in
theorem w_alone : about1.alone = true := by decide +kernel
set_option maxRecDepth 65536 in
theorem w_named : about1.methodNamed? x = some theMethod := by decide +kernel
set_option maxRecDepth 65536 in
theorem w_hears : about1.hears theMethod below0 = true := by decide +kernel
set_option maxRecDepth 65536 in
theorem w_ripe : about1.ripe theMethod args0 below0 = true := by decide +kernel
theorem w_running : about1.status = .running := rfl
set_option maxRecDepth 65536 in
theorem w_room : about1.hasRoom e0.platform room_1 = true :=
  launch0.hasRoom_least _ room_1 (by decide +kernel) (by decide +kernel) (by decide +kernel) (by decide +kernel) (by decide +kernel) (by decide +kernel)
theorem allAtoms_all (ts : List Jvm.Cond) (a : Array Jvm.Value) (st : Jvm.State) : (allAtoms ts).before a st = ts.all (fun c => c.before a st) := by
  induction ts with
  | nil => rfl
  | cons c t ih =>
    show (Jvm.Cond.and c (allAtoms t)).before a st = _
    rw [Jvm.Cond.before_and, ih, List.all_cons]
def words1 : List Jvm.Cond := Jvm.Cond.code x code maxLocals ret :: tables_1
/-- a 'code' word, met by the world's own term for the bytes: nothing is compared byte by byte -/
theorem code_word {y : MethodName} {bytes : ByteArray} {mx : Nat} {rt : Option FieldType} {a : Array Value} {s : State} {m : MethodId} {meth : Method} {c : Code} (h1 : s.methodNamed? y = some m) (h2 : s.vm.method? m = some meth) (h3 : meth.code = some c) (h4 : c.code = bytes)
    (h5 : (c.maxLocals == mx && c.exceptionTable.isEmpty && decide (c.maxStack ≤ mostOperands) && decide (meth.sig.returnType = rt) && !meth.locks && decide (parseMethodDescriptor y.desc = some meth.sig)) = true) : (Jvm.Cond.code y bytes mx rt).before a s = true := by
  simp only [Bool.and_eq_true, beq_iff_eq, Bool.not_eq_true', decide_eq_true_eq] at h5
  obtain ⟨⟨⟨⟨⟨g1, g2⟩, g3⟩, g4⟩, g5⟩, g6⟩ := h5
  simp [Cond.before, Cond.holds, Cond.value, h1, h2, h3, h4, g1, g2, g3, g4, g5, g6]
def isCode : Jvm.Cond → Bool
  | .code _ _ _ _ => true
  | _ => false
theorem all_split {L : List Jvm.Cond} {P : Jvm.Cond → Bool} (h1 : L.all (fun c => isCode c || P c) = true) (h2 : ∀ c ∈ L.filter isCode, P c = true) : L.all P = true := by
  refine List.all_eq_true.mpr fun c hc => ?_
  have h := List.all_eq_true.mp h1 c hc
  rcases Bool.eq_false_or_eq_true (isCode c) with hi | hi
  · exact h2 c (List.mem_filter.mpr ⟨hc, hi⟩)
  · simpa [hi] using h
set_option maxRecDepth 65536 in
theorem w_c0 : (Jvm.Cond.code x code maxLocals ret).before args0 about1 = true := code_word (m := ⟨1, 1⟩) (meth := k1m1) (c := k1c1) (by decide +kernel) rfl rfl rfl (by decide +kernel)
set_option maxRecDepth 65536 in
theorem w_c1 : (Jvm.Cond.code ({ cls := "hotstate/sort/VarInts", name := "write", desc := "(I[BI)I" } : Jvm.MethodName) prog_81_method_3_code (4 : Nat) (Option.some Jvm.ClassFile.FieldType.int)).before args0 about1 = true := code_word (m := ⟨2, 1⟩) (meth := k2m1) (c := k2c1) (by decide +kernel) rfl rfl rfl (by decide +kernel)
set_option maxRecDepth 65536 in
theorem w_c2 : (Jvm.Cond.code ({ cls := "hotstate/sort/VarIntsWritePinLaw", name := "cell", desc := "([BIIIIB)Z" } : Jvm.MethodName) method_3_code (8 : Nat) (Option.some Jvm.ClassFile.FieldType.boolean)).before args0 about1 = true := code_word (m := ⟨1, 2⟩) (meth := k1m2) (c := k1c2) (by decide +kernel) rfl rfl rfl (by decide +kernel)
def codes1 : List Jvm.Cond := [Jvm.Cond.code x code maxLocals ret, Jvm.Cond.code ({ cls := "hotstate/sort/VarInts", name := "write", desc := "(I[BI)I" } : Jvm.MethodName) prog_81_method_3_code (4 : Nat) (Option.some Jvm.ClassFile.FieldType.int), Jvm.Cond.code ({ cls := "hotstate/sort/VarIntsWritePinLaw", name := "cell", desc := "([BIIIIB)Z" } : Jvm.MethodName) method_3_code (8 : Nat) (Option.some Jvm.ClassFile.FieldType.boolean)]
set_option maxRecDepth 65536 in
theorem codes_eq : words1.filter isCode = codes1 := rfl
theorem w_codes : ∀ c ∈ words1.filter isCode, c.before args0 about1 = true := by
  rw [codes_eq]
  intro c hc
  simp only [codes1, List.mem_cons, List.not_mem_nil, or_false] at hc
  rcases hc with rfl | rfl | rfl
  · exact w_c0
  · exact w_c1
  · exact w_c2
set_option maxRecDepth 65536 in
theorem w_t1 : words1.all (fun c => isCode c || c.before args0 about1) = true := by decide +kernel
theorem w_tables : (allAtoms (Jvm.Cond.code x code maxLocals ret :: tables_1)).before args0 about1 = true := by
  rw [allAtoms_all]
  show words1.all (fun c => c.before args0 about1) = true
  refine all_split ?_ w_codes
  rw [w_t1]
set_option maxRecDepth 65536 in
theorem w_case : (Jvm.Cond.and given_1 narrow_1).before args0 about1 = true := by decide +kernel
theorem w_applies : (headSpec (Jvm.Cond.code x code maxLocals ret :: tables_1) room_1).applies x e0.platform about1 = true :=
  (Spec.applies_iff w_frames).mpr ⟨w_running, w_runnable, w_alone, w_named, w_hears, w_ripe, w_room, w_tables⟩
theorem atStart : AtStart classFile x code maxLocals ret World_1 tables_1 room_1 Calls_1 rest_1 Pre_1 launch0 p0 e0 about1 theMethod args0 below0 :=
  ⟨lists_1, trivial, launch0.admits_env _ _ _, launch0.least_env, fairChoices_fair.cas, fairChoices_fair.clock, w_frames, w_args, w_heap, w_applies, trivial, trivial, w_case⟩
end start1
theorem witness_1 : WitnessClaimed_1 := ⟨start1.p0, start1.e0, start1.about1, start1.theMethod, start1.args0, start1.below0, start1.atStart⟩
end Jvm.Pilot.@@N@@
