import JvmDerived
import JvmDerived.Pilot.@@N@@Statement
import JvmDerived.Pilot.@@N@@Code
set_option linter.unusedVariables false
set_option linter.unusedSimpArgs false
namespace Jvm.RoadKit
open Sem ClassFile Op Lib Jvm.Stand Jvm.Free Jvm.LawKit
section New
variable {p : Program} {l : Launch} {e : Env} {R : Room} {s : State} {m : MethodId} {args : Array Value} {below : List Frame} {meth : Method} {c : Code} {T : State} {locs : List Loc} {cells slots : Nat}
theorem retI (X : Stand p l e R s m args below meth c T locs cells slots) (hx : p.tables.exec = Jvm.exec) {pc : Nat} {Ls : Array Slot} {z : Int32} {rest : List Value} (hret : meth.sig.returnType = some .int) (hd : decode c.code pc = .ok (.ireturn, 1)) {fs : List Frame}
    (hl : ∀ (f : JFrame) (acts : List Action), f.method = m → f.locked = none → f.entered = [] → (doReturn e (T.setTop f) acts (some (.int z))).1 = T.setFrames fs) : Steps p.tables e below (T.setTop (mkF m pc Ls (.int z :: rest))) (T.setFrames fs) := by
  have hm' : T.vm.method? m = some meth := X.method'
  have hn : narrow .int (.int z) = .int z := rfl
  show Steps p.tables e below (T.setTop { method := m, pc := pc, locals := Ls, stack := _ :: rest, locked := none }) _
  jvm_step X.here [X.here.top, hx, hd, hm', hret, hn]
  first | (intro acts; rw [hl _ acts rfl rfl rfl]) | rw [hl _ _ rfl rfl rfl]
  exact Steps.refl _
end New
end Jvm.RoadKit
namespace Jvm.Pilot.@@N@@
open Jvm Jvm.ClassFile Sem Op Lib Jvm.Free Jvm.Stand Jvm.LawKit Jvm.RoadKit Bundle Jvm.Pilot.@@N@@.Jvm.D
section Own
variable {p : Program} {l : Launch} {e : Env} {R : Room} {s : State} {m : MethodId} {args : Array Value} {below : List Frame} {meth : Method} {c : Code} {T T' : State} {locs : List Loc} {cells slots : Nat}
/-- what a walk has still to come to: it ends, with an answer of which Q is true -/
def own_Ends (p : Program) (e : Env) (below : List Frame) (U : State) (C S : Nat) (Q : Option Value → Heap → List Loc → Prop) (T : State) (f : JFrame) : Prop :=
  ∃ s₂ o, Steps p.tables e below (T.setTop f) s₂ ∧ s₂.status = .running ∧ Ended s₂ below o ∧ ∃ v L, o = .returned v ∧ Q v s₂.heap L ∧ FrameEnd U o s₂ L C S
theorem own_step {U : State} {C S : Nat} {Q : Option Value → Heap → List Loc → Prop} {f f' : JFrame} (h : ∀ t, Steps p.tables e below (T'.setTop f') t → Steps p.tables e below (T.setTop f) t) (k : own_Ends p e below U C S Q T' f') : own_Ends p e below U C S Q T f := by
  obtain ⟨s₂, o, h1, h2⟩ := k
  exact ⟨s₂, o, h _ h1, h2⟩
/-- a pure answer: that value, nothing old written, the heap as it was -/
def own_P (w : Value) (h0 : Heap) (n0 : Nat) (v : Option Value) (h : Heap) (L : List Loc) : Prop := v = some w ∧ Fr n0 L ∧ h = h0
theorem own_retZ {C S : Nat} {Q : Option Value → Heap → List Loc → Prop} {pc : Nat} {Ls : Array Slot} {z : Int32} {t : FieldType} {rest : List Value} (X : Stand p l e R s m args below meth c T locs cells slots) (hx : p.tables.exec = Jvm.exec) (hret : meth.sig.returnType = some t) (ht : t = .boolean ∨ t = .byte ∨ t = .char ∨ t = .short) (hlk : meth.locks = false)
    (hd : decode c.code pc = .ok (.ireturn, 1)) (hC : cells ≤ C) (hS : slots ≤ S) (hq : Q (some (.int (nar t z))) T.heap locs) : own_Ends p e below s C S Q T (mkF m pc Ls (.int z :: rest)) := by
  obtain ⟨fs, hr, hrun, hended, hW, hsame⟩ := X.leave (v := some (.int (nar t z))) (fun h => by rw [hret] at h; cases h) hlk
  exact ⟨_, _, retN X hx hret ht hd hr, hrun, hended, _, _, rfl, hq, ⟨_, rfl⟩, hW, hsame.mono hC hS⟩
theorem own_retI {C S : Nat} {Q : Option Value → Heap → List Loc → Prop} {pc : Nat} {Ls : Array Slot} {z : Int32} {rest : List Value} (X : Stand p l e R s m args below meth c T locs cells slots) (hx : p.tables.exec = Jvm.exec) (hret : meth.sig.returnType = some .int) (hlk : meth.locks = false)
    (hd : decode c.code pc = .ok (.ireturn, 1)) (hC : cells ≤ C) (hS : slots ≤ S) (hq : Q (some (.int z)) T.heap locs) : own_Ends p e below s C S Q T (mkF m pc Ls (.int z :: rest)) := by
  obtain ⟨fs, hr, hrun, hended, hW, hsame⟩ := X.leave (v := some (.int z)) (fun h => by rw [hret] at h; cases h) hlk
  exact ⟨_, _, retI X hx hret hd hr, hrun, hended, _, _, rfl, hq, ⟨_, rfl⟩, hW, hsame.mono hC hS⟩
def own_V (h0 : Heap) (n0 : Nat) (v : Option Value) (h : Heap) (L : List Loc) : Prop := v = none ∧ Fr n0 L ∧ h = h0
theorem own_retV {C S : Nat} {Q : Option Value → Heap → List Loc → Prop} {pc : Nat} {Ls : Array Slot} (X : Stand p l e R s m args below meth c T locs cells slots) (hx : p.tables.exec = Jvm.exec) (hret : meth.sig.returnType = none) (hlk : meth.locks = false)
    (hd : decode c.code pc = .ok (.return_, 1)) (hC : cells ≤ C) (hS : slots ≤ S) (hq : Q none T.heap locs) : own_Ends p e below s C S Q T (mkF m pc Ls []) := by
  obtain ⟨fs, hr, hrun, hended, hW, hsame⟩ := X.leave (v := none) (fun _ => rfl) hlk
  exact ⟨_, _, X.returnOut hx hret hd hr, hrun, hended, _, _, rfl, hq, ⟨_, rfl⟩, hW, hsame.mono hC hS⟩
theorem own_retJ {C S : Nat} {Q : Option Value → Heap → List Loc → Prop} {pc : Nat} {Ls : Array Slot} {z : Int64} (X : Stand p l e R s m args below meth c T locs cells slots) (hx : p.tables.exec = Jvm.exec) (hret : meth.sig.returnType = some .long) (hlk : meth.locks = false)
    (hd : decode c.code pc = .ok (.lreturn, 1)) (hC : cells ≤ C) (hS : slots ≤ S) (hq : Q (some (.long z)) T.heap locs) : own_Ends p e below s C S Q T (mkF m pc Ls [.long z]) := by
  obtain ⟨fs, hr, hrun, hended, hW, hsame⟩ := X.leave (v := some (.long z)) (fun h => by rw [hret] at h; cases h) hlk
  exact ⟨_, _, X.lreturnOut hx hret hd hr, hrun, hended, _, _, rfl, hq, ⟨_, rfl⟩, hW, hsame.mono hC hS⟩
end Own
section OwnArr
variable {p : Program} {l : Launch} {e : Env} {R : Room} {s : State} {m : MethodId} {args : Array Value} {below : List Frame} {meth : Method} {c : Code} {T : State} {locs : List Loc} {cells slots : Nat} {Z : State} {a0 : Array Value} {h h' : Heap} {a b : Addr} {ty : FieldType} {vs : List Value} {n0 : Nat}
/-- an answer of which the heap isn't said: that value, nothing old written -/
def own_W (Z : State) (w : Value) (a : Addr) (vs : List Value) (n0 : Nat) (v : Option Value) (h : Heap) (L : List Loc) : Prop := v = some w ∧ Fr n0 L ∧ (∃ c : Cell, Arr Z h a c .byte ∧ c.slots.toList = vs) ∧ n0 ≤ h.size
def own_R (w : Value) (n0 : Nat) (v : Option Value) (h : Heap) (L : List Loc) : Prop := v = some w ∧ Fr n0 L
/-- the array at a holds just these -/
def own_A (Z : State) (h : Heap) (a : Addr) (ty : FieldType) (vs : List Value) : Prop := ∃ c : Cell, Arr Z h a c ty ∧ c.slots.toList = vs
theorem own_A.lt (A : own_A Z h a ty vs) : a < h.size := by obtain ⟨c, A, -⟩ := A; exact A.lt
theorem own_A.ext (A : own_A Z h a ty vs) (E : Ext h h') : own_A Z h' a ty vs := by obtain ⟨c, A, q⟩ := A; exact ⟨c, A.ext E, q⟩
theorem own_A.other {sl : Nat} {v : Value} (A : own_A Z h b ty vs) (W : Wr h h' a sl v) (q : b ≠ a) : own_A Z h' b ty vs := by obtain ⟨c, A, r⟩ := A; exact ⟨c, A.other W q, r⟩
theorem own_A.set {k : Nat} {v : Value} (A : own_A Z h a ty vs) (W : Wr h h' a k v) : own_A Z h' a ty (vs.set k v) := by
  obtain ⟨c, A, r⟩ := A
  refine ⟨c.setSlot k v, A.same W, ?_⟩
  subst r
  simp [Cell.setSlot]
theorem own_A.size {c : Cell} (r : c.slots.toList = vs) : c.slots.size = vs.length := by subst r; simp
theorem own_new {aty : ArrayType} (X : Stand p l e R s m args below meth c T locs cells slots) (hx : p.tables.exec = Jvm.exec) (hZ : Z.Warmed39 s.vm) (w : (Cond.arrayClass (newarray.typeOf aty)).before a0 Z = true) (eT : T.heap = h) {g : JFrame} (hg : g.method = m) (hd : decode c.code g.pc = .ok (.newarray aty, 2)) {n : Int32} {rest : List Value} (hs : g.stack = .int n :: rest)
    (hn : ¬ n < 0) {k : Nat} (hk : n.toNatClampNeg = k) (hb : k * 8 ≤ 536870912) (hc : cells + 1 ≤ R.cells) (hl : slots + k ≤ R.slots) (Sz : n0 ≤ h.size) :
    ∃ T' h' b, Stand p l e R s m args below meth c T' locs (cells + 1) (slots + k) ∧ T'.heap = h' ∧ Ext h h' ∧ b = h.size ∧ n0 ≤ b ∧ n0 ≤ h'.size ∧ own_A Z h' b (newarray.typeOf aty) (List.replicate k (defaultValue (newarray.typeOf aty))) ∧
      ∀ target, Steps p.tables e below (T'.setTop { g with pc := g.pc + 2, stack := .ref b :: rest }) target → Steps p.tables e below (T.setTop g) target := by
  obtain ⟨T', h', cA, X', e', E, A, st⟩ := newP X hx hZ w eT hg hd hs hn (cap := k) (Nat.le_of_eq hk) hb hc hl
  exact ⟨T', h', h.size, X', e', E, rfl, Sz, Nat.le_trans Sz E.1, ⟨_, A, by simp [newA, hk]⟩, st⟩
theorem own_stI (X : Stand p l e R s m args below meth c T locs cells slots) (hx : p.tables.exec = Jvm.exec) (hZ : Z.Warmed39 s.vm) (eT : T.heap = h) (A : own_A Z h a .int vs) {j x : Int32} (hj : ¬ j < 0) {k : Nat} (hk : j.toNatClampNeg = k) (hl : k < vs.length) (N : Fr n0 locs) (ga : n0 ≤ a) (Sz : n0 ≤ h.size) {g : JFrame} (hg : g.method = m) {rest : List Value} (hs : g.stack = .int x :: .int j :: .ref a :: rest) (hd : decode c.code g.pc = .ok (.iastore, 1)) :
    ∃ T' h' locs', Stand p l e R s m args below meth c T' locs' cells slots ∧ Fr n0 locs' ∧ T'.heap = h' ∧ Wr h h' a k (.int x) ∧ n0 ≤ h'.size ∧ own_A Z h' a .int (vs.set k (.int x)) ∧ ∀ target, Steps p.tables e below (T'.setTop { g with pc := g.pc + 1, stack := rest }) target → Steps p.tables e below (T.setTop g) target := by
  obtain ⟨cl, Ar, r⟩ := id A
  subst hk
  obtain ⟨T', h', X', e', W, st⟩ := stI X hx hZ eT Ar (j := j) (x := x) (fun q => q.elim hj fun z => absurd hl (by rw [← own_A.size r]; omega)) hg hs hd
  exact ⟨T', h', _, X', Fr.snoc X' N ga, e', W, by rw [W.size]; exact Sz, A.set W, st⟩
theorem own_stJ (X : Stand p l e R s m args below meth c T locs cells slots) (hx : p.tables.exec = Jvm.exec) (hZ : Z.Warmed39 s.vm) (eT : T.heap = h) (A : own_A Z h a .long vs) {j : Int32} {x : Int64} (hj : ¬ j < 0) {k : Nat} (hk : j.toNatClampNeg = k) (hl : k < vs.length) (N : Fr n0 locs) (ga : n0 ≤ a) (Sz : n0 ≤ h.size) {g : JFrame} (hg : g.method = m) {rest : List Value} (hs : g.stack = .long x :: .int j :: .ref a :: rest) (hd : decode c.code g.pc = .ok (.lastore, 1)) :
    ∃ T' h' locs', Stand p l e R s m args below meth c T' locs' cells slots ∧ Fr n0 locs' ∧ T'.heap = h' ∧ Wr h h' a k (.long x) ∧ n0 ≤ h'.size ∧ own_A Z h' a .long (vs.set k (.long x)) ∧ ∀ target, Steps p.tables e below (T'.setTop { g with pc := g.pc + 1, stack := rest }) target → Steps p.tables e below (T.setTop g) target := by
  obtain ⟨cl, Ar, r⟩ := id A
  subst hk
  obtain ⟨T', h', X', e', W, st⟩ := stJ X hx hZ eT Ar (j := j) (x := x) (fun q => q.elim hj fun z => absurd hl (by rw [← own_A.size r]; omega)) hg hs hd
  exact ⟨T', h', _, X', Fr.snoc X' N ga, e', W, by rw [W.size]; exact Sz, A.set W, st⟩
theorem own_stB (X : Stand p l e R s m args below meth c T locs cells slots) (hx : p.tables.exec = Jvm.exec) (hZ : Z.Warmed39 s.vm) (eT : T.heap = h) (A : own_A Z h a .byte vs) {j x : Int32} (hj : ¬ j < 0) {k : Nat} (hk : j.toNatClampNeg = k) (hl : k < vs.length) (N : Fr n0 locs) (ga : n0 ≤ a) (Sz : n0 ≤ h.size) {g : JFrame} (hg : g.method = m) {rest : List Value} (hs : g.stack = .int x :: .int j :: .ref a :: rest) (hd : decode c.code g.pc = .ok (.bastore, 1)) :
    ∃ T' h' locs', Stand p l e R s m args below meth c T' locs' cells slots ∧ Fr n0 locs' ∧ T'.heap = h' ∧ Wr h h' a k (.int (nar .byte x)) ∧ n0 ≤ h'.size ∧ own_A Z h' a .byte (vs.set k (.int (nar .byte x))) ∧ ∀ target, Steps p.tables e below (T'.setTop { g with pc := g.pc + 1, stack := rest }) target → Steps p.tables e below (T.setTop g) target := by
  obtain ⟨cl, Ar, r⟩ := id A
  subst hk
  obtain ⟨T', h', X', e', W, st⟩ := stB X hx hZ eT Ar (j := j) (x := x) (fun q => q.elim hj fun z => absurd hl (by rw [← own_A.size r]; omega)) hg hs hd
  exact ⟨T', h', _, X', Fr.snoc X' N ga, e', W, by rw [W.size]; exact Sz, A.set W, st⟩
theorem own_at {cl : Cell} (r : cl.slots.toList = vs) {k : Nat} {v : Value} (hv : vs[k]? = some v) : cl.slots[k]? = some v ∧ k < cl.slots.size := by
  subst r
  rw [Array.getElem?_toList] at hv
  exact ⟨hv, (Array.getElem?_eq_some_iff.mp hv).1⟩
theorem own_ldI (X : Stand p l e R s m args below meth c T locs cells slots) (hx : p.tables.exec = Jvm.exec) (hZ : Z.Warmed39 s.vm) (eT : T.heap = h) (A : own_A Z h a .int vs) {j : Int32} (hj : ¬ j < 0) {k : Nat} (hk : j.toNatClampNeg = k) {v : Value} (hv : vs[k]? = some v) {g : JFrame} (hg : g.method = m) {rest : List Value} (hs : g.stack = .int j :: .ref a :: rest) (hd : decode c.code g.pc = .ok (.iaload, 1)) (target : State)
    (hr : Steps p.tables e below (T.setTop { g with pc := g.pc + 1, stack := v :: rest }) target) : Steps p.tables e below (T.setTop g) target := by
  obtain ⟨cl, Ar, r⟩ := A
  obtain ⟨q1, q2⟩ := own_at r hv
  subst hk
  exact X.iaload hx (j := j) (v := v) (by rw [eT]; exact Ar.1) (State.isArrayOf_alike hZ.alike Ar.2.1) Ar.2.2 (fun z => z.elim hj fun z => by omega) q1 hg hs hd target hr
theorem own_ldJ (X : Stand p l e R s m args below meth c T locs cells slots) (hx : p.tables.exec = Jvm.exec) (hZ : Z.Warmed39 s.vm) (eT : T.heap = h) (A : own_A Z h a .long vs) {j : Int32} (hj : ¬ j < 0) {k : Nat} (hk : j.toNatClampNeg = k) {v : Value} (hv : vs[k]? = some v) {g : JFrame} (hg : g.method = m) {rest : List Value} (hs : g.stack = .int j :: .ref a :: rest) (hd : decode c.code g.pc = .ok (.laload, 1)) (target : State)
    (hr : Steps p.tables e below (T.setTop { g with pc := g.pc + 1, stack := v :: rest }) target) : Steps p.tables e below (T.setTop g) target := by
  obtain ⟨cl, Ar, r⟩ := A
  obtain ⟨q1, q2⟩ := own_at r hv
  subst hk
  exact X.laload hx (j := j) (v := v) (by rw [eT]; exact Ar.1) (State.isArrayOf_alike hZ.alike Ar.2.1) Ar.2.2 (fun z => z.elim hj fun z => by omega) q1 hg hs hd target hr
theorem own_ldB (X : Stand p l e R s m args below meth c T locs cells slots) (hx : p.tables.exec = Jvm.exec) (hZ : Z.Warmed39 s.vm) (eT : T.heap = h) (A : own_A Z h a .byte vs) {j : Int32} (hj : ¬ j < 0) {k : Nat} (hk : j.toNatClampNeg = k) {v : Value} (hv : vs[k]? = some v) {g : JFrame} (hg : g.method = m) {rest : List Value} (hs : g.stack = .int j :: .ref a :: rest) (hd : decode c.code g.pc = .ok (.baload, 1)) (target : State)
    (hr : Steps p.tables e below (T.setTop { g with pc := g.pc + 1, stack := v :: rest }) target) : Steps p.tables e below (T.setTop g) target := by
  obtain ⟨cl, Ar, r⟩ := A
  obtain ⟨q1, q2⟩ := own_at r hv
  subst hk
  exact X.baloadBytes hx (j := j) (v := v) (by rw [eT]; exact Ar.1) (State.isArrayOf_alike hZ.alike Ar.2.1) Ar.2.2 (fun z => z.elim hj fun z => by omega) q1 hg hs hd target hr
theorem own_len (X : Stand p l e R s m args below meth c T locs cells slots) (hx : p.tables.exec = Jvm.exec) (hZ : Z.Warmed39 s.vm) (eT : T.heap = h) (A : own_A Z h a ty vs) {n : Int32} (hn : vs.length.toInt32 = n) {g : JFrame} (hg : g.method = m) {rest : List Value} (hs : g.stack = .ref a :: rest) (hd : decode c.code g.pc = .ok (.arraylength, 1)) (target : State)
    (hr : Steps p.tables e below (T.setTop { g with pc := g.pc + 1, stack := .int n :: rest }) target) : Steps p.tables e below (T.setTop g) target := by
  obtain ⟨cl, Ar, r⟩ := A
  refine X.arraylength hx (by rw [eT]; exact Ar.1) (State.isArrayOf_alike hZ.alike Ar.2.1) hg hs hd target ?_
  rw [own_A.size r, hn]
  exact hr
end OwnArr
def own_S (Z : State) (h : Heap) (x : Addr) (vs : List Value) : Prop := Exa Z h x "java/lang/String" ∧ Fld Z h x "java/lang/String" "coder" "B" (.int (0 : Int32)) ∧ ∃ t, Fld Z h x "java/lang/String" "value" "[B" (.ref t) ∧ own_A Z h t .byte vs
def own_G (Z : State) (h : Heap) : Prop := ∃ (w : Int32) (fm : Value), Sta Z h "java/lang/String" "COMPACT_STRINGS" "Z" (.int w) ∧ ¬ w = (0 : Int32) ∧ Sta Z h "jdk/internal/util/Preconditions" "SIOOBE_FORMATTER" "Ljava/util/function/BiFunction;" fm ∧ fm.isRef = true
theorem own_S.ext {Z : State} {h h' : Heap} {x : Addr} {vs : List Value} (F : own_S Z h x vs) (E : Ext h h') : own_S Z h' x vs := by
  obtain ⟨a, b, t, c, d⟩ := F
  exact ⟨a.ext E, b.ext E, t, c.ext E, d.ext E⟩
theorem own_G.ext {Z : State} {h h' : Heap} (F : own_G Z h) (E : Ext h h') : own_G Z h' := by
  obtain ⟨w, fm, a, b, c, d⟩ := F
  exact ⟨w, fm, a.ext E, b, c.ext E, d⟩
theorem own_ofArv {Z : State} {h : Heap} {b : Addr} {k : ClassId} {z : Int32} {vs : List Value} {d : Value} (V : Arv Z h b k .byte z vs d) (hl : z.toNatClampNeg = vs.length) : own_A Z h b .byte vs := by
  obtain ⟨c, A, -, S, -, H, -⟩ := V
  refine ⟨c, A, ?_⟩
  apply List.ext_getElem?
  intro i
  rw [Array.getElem?_toList]
  by_cases hi : i < c.slots.size
  · have hi' : i < vs.length := by omega
    rw [H i hi, List.getElem?_eq_getElem hi', List.getD_eq_getElem?_getD, List.getElem?_eq_getElem hi']
    rfl
  · rw [Array.getElem?_eq_none (by omega), List.getElem?_eq_none (by omega)]
def own_los : List Int32 := [48, 49, 50, 51, 52, 53, 54, 55, 56, 57, 97, 98, 99, 100, 101, 102]
def own_ups : List Int32 := [48, 49, 50, 51, 52, 53, 54, 55, 56, 57, 65, 66, 67, 68, 69, 70]
def own_lov : List Value := own_los.map Value.int
def own_upv : List Value := own_ups.map Value.int
def own_lo (j : Int32) : Int32 := own_los.getD j.toNatClampNeg 0
def own_up (j : Int32) : Int32 := own_ups.getD j.toNatClampNeg 0
theorem own_nat {j : Int32} (h0 : ¬ j < (0 : Int32)) (h1 : j < (16 : Int32)) : ∃ k : Fin 16, j = Int32.ofNat k.val := by
  rw [Int32.lt_iff_toInt_lt] at h0 h1
  have z0 : (0 : Int32).toInt = 0 := rfl
  have z16 : (16 : Int32).toInt = 16 := rfl
  refine ⟨⟨j.toInt.toNat, by omega⟩, Int32.toInt_inj.mp ?_⟩
  rw [Int32.toInt_ofNat_of_lt (by show j.toInt.toNat < 2 ^ 31; omega)]
  show j.toInt = (j.toInt.toNat : Int)
  omega
theorem own_lox (j : Int32) (h0 : ¬ j < (0 : Int32)) (h1 : j < (16 : Int32)) : own_lov[j.toNatClampNeg]? = some (.int (own_lo j)) := by
  obtain ⟨k, rfl⟩ := own_nat h0 h1
  have key : ∀ k : Fin 16, (Int32.ofNat k.val).toNatClampNeg < own_los.length := by decide +kernel
  have hk := key k
  unfold own_lo own_lov
  rw [List.getElem?_map, List.getElem?_eq_getElem hk, List.getD_eq_getElem?_getD, List.getElem?_eq_getElem hk]
  rfl
theorem own_upx (j : Int32) (h0 : ¬ j < (0 : Int32)) (h1 : j < (16 : Int32)) : own_upv[j.toNatClampNeg]? = some (.int (own_up j)) := by
  obtain ⟨k, rfl⟩ := own_nat h0 h1
  have key : ∀ k : Fin 16, (Int32.ofNat k.val).toNatClampNeg < own_ups.length := by decide +kernel
  have hk := key k
  unfold own_up own_upv
  rw [List.getElem?_map, List.getElem?_eq_getElem hk, List.getD_eq_getElem?_getD, List.getElem?_eq_getElem hk]
  rfl
theorem own_15 (y : Int32) : ¬ (y &&& (15 : Int32)) < (0 : Int32) ∧ (y &&& (15 : Int32)) < (16 : Int32) := by
  have h := c_mask y 15 4 (by decide) (by decide)
  rw [Int32.lt_iff_toInt_lt, Int32.lt_iff_toInt_lt, h]
  have z0 : (0 : Int32).toInt = 0 := rfl
  have z16 : (16 : Int32).toInt = 16 := rfl
  omega

theorem d5_0 : decode jdk_41_method_11_code 0 = .ok (.iload_n 0, 1) := by decide +kernel
theorem d5_1 : decode jdk_41_method_11_code 1 = .ok (.ifCond .lt 8, 3) := by decide +kernel
theorem d5_4 : decode jdk_41_method_11_code 4 = .ok (.iload_n 0, 1) := by decide +kernel
theorem d5_5 : decode jdk_41_method_11_code 5 = .ok (.iload_n 1, 1) := by decide +kernel
theorem d5_6 : decode jdk_41_method_11_code 6 = .ok (.if_icmp .lt 10, 3) := by decide +kernel
theorem d5_9 : decode jdk_41_method_11_code 9 = .ok (.aload_n 2, 1) := by decide +kernel
theorem d5_10 : decode jdk_41_method_11_code 10 = .ok (.iload_n 0, 1) := by decide +kernel
theorem d5_11 : decode jdk_41_method_11_code 11 = .ok (.iload_n 1, 1) := by decide +kernel
theorem d5_12 : decode jdk_41_method_11_code 12 = .ok (.invokestatic 95, 3) := by decide +kernel
theorem d5_15 : decode jdk_41_method_11_code 15 = .ok (.athrow, 1) := by decide +kernel
theorem d5_16 : decode jdk_41_method_11_code 16 = .ok (.iload_n 0, 1) := by decide +kernel
theorem d5_17 : decode jdk_41_method_11_code 17 = .ok (.ireturn, 1) := by decide +kernel
theorem pn5 : plainName "jdk/internal/util/Preconditions" = true := by first | (simp [plainName, overriddenIn]; done) | decide +kernel
theorem pd5 : parseMethodDescriptor "(IILjava/util/function/BiFunction;)I" = some ⟨[.int, .int, (.object "java/util/function/BiFunction")], some .int⟩ := by decide +kernel
theorem ef5z (m : MethodId) (p0 : Int32) (p1 : Int32) : entryFrame m #[(.int p0), (.int p1), .null] 3 = mkF m 0 #[.val (.int p0), .val (.int p1), .val .null] [] := by first | (simp [entryFrame, mkF, argsToLocals, Value.category]; done) | rfl
def f5N_0 (p0 : Int32) (p1 : Int32) : Int32 :=
  p0
set_option maxRecDepth 65536 in
set_option maxHeartbeats 4000000 in
theorem b5N_0 {p : Program} {l : Launch} {e : Env} {s : State} {m : MethodId} {args : Array Value} {below : List Frame} {meth : Method} {c : Code} {T0 : State} {locs : List Loc} {Z : State} {a0 : Array Value} {h0 : Heap} {n0 : Nat} (p0 : Int32) (p1 : Int32) {r : Int32} (X0 : Stand p l e ({ frames := 0, cells := 0, slots := 0, locals := 0 } : Room) s m args below meth c T0 locs 0 0) (hx : p.tables.exec = Jvm.exec) (hZ : Z.Warmed39 s.vm) (hw : ∀ d ∈ tables_1, d.before a0 Z = true) (hby : c.code = jdk_41_method_11_code) (hml : c.maxLocals = 3) (hown : s.vm.findClass "jdk/internal/util/Preconditions" = some m.cls) (hret : meth.sig.returnType = some .int) (hlk : meth.locks = false) (e0 : T0.heap = h0) (N0 : Fr n0 locs) (hq0 : ¬ (p0 < (0 : Int32))) (hq1 : p0 < p1) (hr : r = f5N_0 p0 p1) :
    own_Ends p e below s 0 0 (own_P (.int r) h0 n0) T0 (mkF m 0 #[.val (.int p0), .val (.int p1), .val .null] []) := by
  unfold f5N_0 at hr
  refine own_step (T' := T0) (f' := (mkF m 1 #[.val (.int p0), .val (.int p1), .val .null] [(.int p0)])) (fun t kt => ?_) ?_
  · show Steps p.tables e below (T0.setTop (mkF m 0 #[.val (.int p0), .val (.int p1), .val .null] [])) _
    refine XS.iloadN X0.here hx rfl (hb hby d5_0) rfl ?_
    exact kt
  refine own_step (T' := T0) (f' := (mkF m 4 #[.val (.int p0), .val (.int p1), .val .null] [])) (fun t kt => ?_) ?_
  · show Steps p.tables e below (T0.setTop (mkF m 1 #[.val (.int p0), .val (.int p1), .val .null] [(.int p0)])) _
    refine XS.ifNo X0.here hx rfl (hb hby d5_1) rfl ((if0 _ _).trans (flt hq0).1) kt
  refine own_step (T' := T0) (f' := (mkF m 6 #[.val (.int p0), .val (.int p1), .val .null] [(.int p1), (.int p0)])) (fun t kt => ?_) ?_
  · show Steps p.tables e below (T0.setTop (mkF m 4 #[.val (.int p0), .val (.int p1), .val .null] [])) _
    refine XS.iloadN X0.here hx rfl (hb hby d5_4) rfl ?_
    show Steps p.tables e below (T0.setTop (mkF m 5 #[.val (.int p0), .val (.int p1), .val .null] [(.int p0)])) _
    refine XS.iloadN X0.here hx rfl (hb hby d5_5) rfl ?_
    exact kt
  refine own_step (T' := T0) (f' := (mkF m 16 #[.val (.int p0), .val (.int p1), .val .null] [])) (fun t kt => ?_) ?_
  · show Steps p.tables e below (T0.setTop (mkF m 6 #[.val (.int p0), .val (.int p1), .val .null] [(.int p1), (.int p0)])) _
    refine XS.icmpYes X0.here hx rfl (pc0 := 6) (pc' := 16) rfl (hb hby d5_6) rfl (tlt hq1).1 (by decide) (by decide) kt
  refine own_step (T' := T0) (f' := (mkF m 17 #[.val (.int p0), .val (.int p1), .val .null] [(.int p0)])) (fun t kt => ?_) ?_
  · show Steps p.tables e below (T0.setTop (mkF m 16 #[.val (.int p0), .val (.int p1), .val .null] [])) _
    refine XS.iloadN X0.here hx rfl (hb hby d5_16) rfl ?_
    exact kt
  exact own_retI X0 hx hret hlk (hb hby d5_17) (Nat.le_refl _) (Nat.le_refl _) ⟨congrArg (fun z => some (Value.int z)) hr.symm, N0, e0⟩
set_option maxRecDepth 65536 in
set_option maxHeartbeats 4000000 in
theorem rm5N (l : Launch) (Z : State) (a0 : Array Value) (hw : ∀ d ∈ tables_1, d.before a0 Z = true) (ws : List Jvm.Cond) (p0 : Int32) (p1 : Int32) (h0 : Heap) (n0 : Nat) (hq0 : ¬ (p0 < (0 : Int32))) (hq1 : p0 < p1) :
    MetFree l (⟨"jdk/internal/util/Preconditions", "checkIndex", "(IILjava/util/function/BiFunction;)I"⟩ : MethodName) (head1 (Jvm.Cond.code (⟨"jdk/internal/util/Preconditions", "checkIndex", "(IILjava/util/function/BiFunction;)I"⟩ : MethodName) jdk_41_method_11_code 3 (some .int) :: ws) ({ frames := 0, cells := 0, slots := 0, locals := 0 } : Room)) (fun a U => a = #[(.int p0), (.int p1), .null] ∧ Z.Warmed39 U.vm ∧ U.heap = h0) (fun _ _ _ _ _ => True) (fun _ U o U' => ∃ v L, o = .returned v ∧ (own_P (.int (f5N_0 p0 p1)) h0 n0) v U'.heap L ∧ FrameEnd U o U' L ({ frames := 0, cells := 0, slots := 0, locals := 0 } : Room).cells ({ frames := 0, cells := 0, slots := 0, locals := 0 } : Room).slots) := by
  refine MetFree.of_bodySF (plainFor_of_name pn5) hisR ?_
  intro p e s m args below meth c s₁ Bd hml0 hP hK
  obtain ⟨rfl, hZ, hh⟩ := hP
  have hown : s.vm.findClass "jdk/internal/util/Preconditions" = some m.cls := findClass_of_methodNamed Bd.named
  have X0 : Stand p l e ({ frames := 0, cells := 0, slots := 0, locals := 0 } : Room) s m #[(.int p0), (.int p1), .null] below meth c s₁ [] 0 0 := Stand.of_body Bd
  have e0 : s₁.heap = h0 := by rw [← hh, Bd.state]; rfl
  show own_Ends p e below s 0 0 (own_P (.int (f5N_0 p0 p1)) h0 n0) s₁ (entryFrame m #[(.int p0), (.int p1), .null] 3)
  refine own_step (fun t k => castTop (ef5z m p0 p1) k) ?_
  exact b5N_0 p0 p1 X0 Bd.exec hZ hw Bd.bytes hml0 hown Bd.returns (BodyLoose.notSynchronized Bd) e0 (Fr.nil n0) hq0 hq1 rfl
theorem ef5 (m : MethodId) (p0 : Int32) (p1 : Int32) (a2' : Addr) : entryFrame m #[(.int p0), (.int p1), (.ref a2')] 3 = mkF m 0 #[.val (.int p0), .val (.int p1), .val (.ref a2')] [] := by first | (simp [entryFrame, mkF, argsToLocals, Value.category]; done) | rfl
def f5R_0 (p0 : Int32) (p1 : Int32) : Int32 :=
  p0
set_option maxRecDepth 65536 in
set_option maxHeartbeats 4000000 in
theorem b5R_0 {p : Program} {l : Launch} {e : Env} {s : State} {m : MethodId} {args : Array Value} {below : List Frame} {meth : Method} {c : Code} {T0 : State} {locs : List Loc} {Z : State} {a0 : Array Value} {h0 : Heap} {n0 : Nat} (p0 : Int32) (p1 : Int32) (a2' : Addr) {r : Int32} (X0 : Stand p l e ({ frames := 0, cells := 0, slots := 0, locals := 0 } : Room) s m args below meth c T0 locs 0 0) (hx : p.tables.exec = Jvm.exec) (hZ : Z.Warmed39 s.vm) (hw : ∀ d ∈ tables_1, d.before a0 Z = true) (hby : c.code = jdk_41_method_11_code) (hml : c.maxLocals = 3) (hown : s.vm.findClass "jdk/internal/util/Preconditions" = some m.cls) (hret : meth.sig.returnType = some .int) (hlk : meth.locks = false) (e0 : T0.heap = h0) (N0 : Fr n0 locs) (hq0 : ¬ (p0 < (0 : Int32))) (hq1 : p0 < p1) (hr : r = f5R_0 p0 p1) :
    own_Ends p e below s 0 0 (own_P (.int r) h0 n0) T0 (mkF m 0 #[.val (.int p0), .val (.int p1), .val (.ref a2')] []) := by
  unfold f5R_0 at hr
  refine own_step (T' := T0) (f' := (mkF m 1 #[.val (.int p0), .val (.int p1), .val (.ref a2')] [(.int p0)])) (fun t kt => ?_) ?_
  · show Steps p.tables e below (T0.setTop (mkF m 0 #[.val (.int p0), .val (.int p1), .val (.ref a2')] [])) _
    refine XS.iloadN X0.here hx rfl (hb hby d5_0) rfl ?_
    exact kt
  refine own_step (T' := T0) (f' := (mkF m 4 #[.val (.int p0), .val (.int p1), .val (.ref a2')] [])) (fun t kt => ?_) ?_
  · show Steps p.tables e below (T0.setTop (mkF m 1 #[.val (.int p0), .val (.int p1), .val (.ref a2')] [(.int p0)])) _
    refine XS.ifNo X0.here hx rfl (hb hby d5_1) rfl ((if0 _ _).trans (flt hq0).1) kt
  refine own_step (T' := T0) (f' := (mkF m 6 #[.val (.int p0), .val (.int p1), .val (.ref a2')] [(.int p1), (.int p0)])) (fun t kt => ?_) ?_
  · show Steps p.tables e below (T0.setTop (mkF m 4 #[.val (.int p0), .val (.int p1), .val (.ref a2')] [])) _
    refine XS.iloadN X0.here hx rfl (hb hby d5_4) rfl ?_
    show Steps p.tables e below (T0.setTop (mkF m 5 #[.val (.int p0), .val (.int p1), .val (.ref a2')] [(.int p0)])) _
    refine XS.iloadN X0.here hx rfl (hb hby d5_5) rfl ?_
    exact kt
  refine own_step (T' := T0) (f' := (mkF m 16 #[.val (.int p0), .val (.int p1), .val (.ref a2')] [])) (fun t kt => ?_) ?_
  · show Steps p.tables e below (T0.setTop (mkF m 6 #[.val (.int p0), .val (.int p1), .val (.ref a2')] [(.int p1), (.int p0)])) _
    refine XS.icmpYes X0.here hx rfl (pc0 := 6) (pc' := 16) rfl (hb hby d5_6) rfl (tlt hq1).1 (by decide) (by decide) kt
  refine own_step (T' := T0) (f' := (mkF m 17 #[.val (.int p0), .val (.int p1), .val (.ref a2')] [(.int p0)])) (fun t kt => ?_) ?_
  · show Steps p.tables e below (T0.setTop (mkF m 16 #[.val (.int p0), .val (.int p1), .val (.ref a2')] [])) _
    refine XS.iloadN X0.here hx rfl (hb hby d5_16) rfl ?_
    exact kt
  exact own_retI X0 hx hret hlk (hb hby d5_17) (Nat.le_refl _) (Nat.le_refl _) ⟨congrArg (fun z => some (Value.int z)) hr.symm, N0, e0⟩
set_option maxRecDepth 65536 in
set_option maxHeartbeats 4000000 in
theorem rm5R (l : Launch) (Z : State) (a0 : Array Value) (hw : ∀ d ∈ tables_1, d.before a0 Z = true) (ws : List Jvm.Cond) (p0 : Int32) (p1 : Int32) (a2' : Addr) (h0 : Heap) (n0 : Nat) (hq0 : ¬ (p0 < (0 : Int32))) (hq1 : p0 < p1) :
    MetFree l (⟨"jdk/internal/util/Preconditions", "checkIndex", "(IILjava/util/function/BiFunction;)I"⟩ : MethodName) (head1 (Jvm.Cond.code (⟨"jdk/internal/util/Preconditions", "checkIndex", "(IILjava/util/function/BiFunction;)I"⟩ : MethodName) jdk_41_method_11_code 3 (some .int) :: ws) ({ frames := 0, cells := 0, slots := 0, locals := 0 } : Room)) (fun a U => a = #[(.int p0), (.int p1), (.ref a2')] ∧ Z.Warmed39 U.vm ∧ U.heap = h0) (fun _ _ _ _ _ => True) (fun _ U o U' => ∃ v L, o = .returned v ∧ (own_P (.int (f5R_0 p0 p1)) h0 n0) v U'.heap L ∧ FrameEnd U o U' L ({ frames := 0, cells := 0, slots := 0, locals := 0 } : Room).cells ({ frames := 0, cells := 0, slots := 0, locals := 0 } : Room).slots) := by
  refine MetFree.of_bodySF (plainFor_of_name pn5) hisR ?_
  intro p e s m args below meth c s₁ Bd hml0 hP hK
  obtain ⟨rfl, hZ, hh⟩ := hP
  have hown : s.vm.findClass "jdk/internal/util/Preconditions" = some m.cls := findClass_of_methodNamed Bd.named
  have X0 : Stand p l e ({ frames := 0, cells := 0, slots := 0, locals := 0 } : Room) s m #[(.int p0), (.int p1), (.ref a2')] below meth c s₁ [] 0 0 := Stand.of_body Bd
  have e0 : s₁.heap = h0 := by rw [← hh, Bd.state]; rfl
  show own_Ends p e below s 0 0 (own_P (.int (f5R_0 p0 p1)) h0 n0) s₁ (entryFrame m #[(.int p0), (.int p1), (.ref a2')] 3)
  refine own_step (fun t k => castTop (ef5 m p0 p1 a2') k) ?_
  exact b5R_0 p0 p1 a2' X0 Bd.exec hZ hw Bd.bytes hml0 hown Bd.returns (BodyLoose.notSynchronized Bd) e0 (Fr.nil n0) hq0 hq1 rfl
theorem d4_0 : decode jdk_42_method_155_code 0 = .ok (.iload_n 0, 1) := by decide +kernel
theorem d4_1 : decode jdk_42_method_155_code 1 = .ok (.iload_n 1, 1) := by decide +kernel
theorem d4_2 : decode jdk_42_method_155_code 2 = .ok (.getstatic 1053, 3) := by decide +kernel
theorem d4_5 : decode jdk_42_method_155_code 5 = .ok (.invokestatic 1059, 3) := by decide +kernel
theorem d4_8 : decode jdk_42_method_155_code 8 = .ok (.pop, 1) := by decide +kernel
theorem d4_9 : decode jdk_42_method_155_code 9 = .ok (.return_, 1) := by decide +kernel
theorem pn4 : plainName "java/lang/String" = true := by first | (simp [plainName, overriddenIn]; done) | decide +kernel
theorem pd4 : parseMethodDescriptor "(II)V" = some ⟨[.int, .int], none⟩ := by decide +kernel
theorem ef4 (m : MethodId) (p0 : Int32) (p1 : Int32) : entryFrame m #[(.int p0), (.int p1)] 2 = mkF m 0 #[.val (.int p0), .val (.int p1)] [] := by first | (simp [entryFrame, mkF, argsToLocals, Value.category]; done) | rfl
def f4N_0 (p0 : Int32) (p1 : Int32) : Int32 :=
  0
set_option maxRecDepth 65536 in
set_option maxHeartbeats 4000000 in
theorem b4N_0 {p : Program} {l : Launch} {e : Env} {s : State} {m : MethodId} {args : Array Value} {below : List Frame} {meth : Method} {c : Code} {T0 : State} {locs : List Loc} {Z : State} {a0 : Array Value} {h0 : Heap} {n0 : Nat} (p0 : Int32) (p1 : Int32) {r : Int32} (X0 : Stand p l e ({ frames := 1, cells := 0, slots := 0, locals := 14 } : Room) s m args below meth c T0 locs 0 0) (hx : p.tables.exec = Jvm.exec) (hZ : Z.Warmed39 s.vm) (hw : ∀ d ∈ tables_1, d.before a0 Z = true) (hby : c.code = jdk_42_method_155_code) (hml : c.maxLocals = 2) (hown : s.vm.findClass "java/lang/String" = some m.cls) (hret : meth.sig.returnType = none) (hlk : meth.locks = false) (e0 : T0.heap = h0) (N0 : Fr n0 locs) (S_SIOOBE_FORMATTER : Sta Z h0 "jdk/internal/util/Preconditions" "SIOOBE_FORMATTER" "Ljava/util/function/BiFunction;" .null) (hq0 : ¬ p0 < (0 : Int32)) (hq1 : p0 < p1) (hr : r = f4N_0 p0 p1) :
    own_Ends p e below s 0 0 (own_V h0 n0) T0 (mkF m 0 #[.val (.int p0), .val (.int p1)] []) := by
  unfold f4N_0 at hr
  refine own_step (T' := T0) (f' := (mkF m 2 #[.val (.int p0), .val (.int p1)] [(.int p1), (.int p0)])) (fun t kt => ?_) ?_
  · show Steps p.tables e below (T0.setTop (mkF m 0 #[.val (.int p0), .val (.int p1)] [])) _
    refine XS.iloadN X0.here hx rfl (hb hby d4_0) rfl ?_
    show Steps p.tables e below (T0.setTop (mkF m 1 #[.val (.int p0), .val (.int p1)] [(.int p0)])) _
    refine XS.iloadN X0.here hx rfl (hb hby d4_1) rfl ?_
    exact kt
  obtain ⟨T1, X1, e1, st1⟩ := getS2 X0 hx hZ hown (host := "") (Or.inl (hw _ (List.mem_of_getElem? (i := 29) rfl))) Via.refl e0 S_SIOOBE_FORMATTER (g := (mkF m 2 #[.val (.int p0), .val (.int p1)] [(.int p1), (.int p0)])) rfl (hb hby d4_2)
  refine own_step (T' := T1) (f' := (mkF m 5 #[.val (.int p0), .val (.int p1)] [.null, (.int p1), (.int p0)])) st1 ?_
  obtain ⟨_, _, ⟨T2, L2, k2, n2⟩, -, X2, ⟨Lc2, hQ2, l2, y2, z2⟩, st2⟩ := Jvm.LawKit.callS X1 hx (y := (⟨"jdk/internal/util/Preconditions", "checkIndex", "(IILjava/util/function/BiFunction;)I"⟩ : MethodName)) hown (mvT hZ (hw _ (List.mem_of_getElem? (i := 31) rfl))) (mvT hZ (hw _ (List.mem_of_getElem? (i := 32) rfl))) (mvT hZ (hw _ (List.mem_of_getElem? (i := 30) rfl))) (mvT hZ (hw _ (List.mem_of_getElem? (i := 33) rfl))) (by decide) (backOf (W := 0) (rm5N l Z a0 hw [] p0 p1  h0 n0 hq0 hq1) hZ (hw _ (List.mem_of_getElem? (i := 33) rfl)) (hw _ (List.mem_of_getElem? (i := 30) rfl)) (by decide) (by decide)) (g := (mkF m 5 #[.val (.int p0), .val (.int p1)] [.null, (.int p1), (.int p0)])) rfl (by rw [hml]; rfl) (argsL := [(.int p0), (.int p1), .null]) (rest := []) (lenOf pd5 rfl) rfl (by show 2 * 0 + _ ≤ _; exact Nat.le_of_eq rfl) (hb hby d4_5) (fun _ _ => ⟨rfl, e1, (by decide : 0 + 0 ≤ _), (by decide : 0 + 0 ≤ _)⟩)
  dsimp only [Pt.U, Pt.locs, Pt.cells, Pt.slots] at X2 l2 y2 z2 st2 hQ2
  subst l2 y2 z2
  obtain ⟨rfl, Nq2, e2⟩ := hQ2
  have N2 := Fr.app N0 Nq2
  refine own_step (T' := T2) (f' := (mkF m 8 #[.val (.int p0), .val (.int p1)] [(.int (f5N_0 p0 p1))])) st2 ?_
  refine own_step (T' := T2) (f' := (mkF m 9 #[.val (.int p0), .val (.int p1)] [])) (fun t kt => ?_) ?_
  · show Steps p.tables e below (T2.setTop (mkF m 8 #[.val (.int p0), .val (.int p1)] [(.int (f5N_0 p0 p1))])) _
    refine XS.pop X2.here hx rfl (hb hby d4_8) rfl rfl ?_
    exact kt
  exact own_retV X2 hx hret hlk (hb hby d4_9) (Nat.le_refl _) (Nat.le_refl _) ⟨rfl, N2, e2⟩
set_option maxRecDepth 65536 in
set_option maxHeartbeats 4000000 in
theorem rm4N (l : Launch) (Z : State) (a0 : Array Value) (hw : ∀ d ∈ tables_1, d.before a0 Z = true) (ws : List Jvm.Cond) (p0 : Int32) (p1 : Int32) (h0 : Heap) (n0 : Nat) (S_SIOOBE_FORMATTER : Sta Z h0 "jdk/internal/util/Preconditions" "SIOOBE_FORMATTER" "Ljava/util/function/BiFunction;" .null) (hq0 : ¬ p0 < (0 : Int32)) (hq1 : p0 < p1) :
    MetFree l (⟨"java/lang/String", "checkIndex", "(II)V"⟩ : MethodName) (head1 (Jvm.Cond.code (⟨"java/lang/String", "checkIndex", "(II)V"⟩ : MethodName) jdk_42_method_155_code 2 none :: ws) ({ frames := 1, cells := 0, slots := 0, locals := 14 } : Room)) (fun a U => a = #[(.int p0), (.int p1)] ∧ Z.Warmed39 U.vm ∧ U.heap = h0) (fun _ _ _ _ _ => True) (fun _ U o U' => ∃ v L, o = .returned v ∧ (own_V h0 n0) v U'.heap L ∧ FrameEnd U o U' L ({ frames := 1, cells := 0, slots := 0, locals := 14 } : Room).cells ({ frames := 1, cells := 0, slots := 0, locals := 14 } : Room).slots) := by
  refine MetFree.of_bodySF (plainFor_of_name pn4) hisR ?_
  intro p e s m args below meth c s₁ Bd hml0 hP hK
  obtain ⟨rfl, hZ, hh⟩ := hP
  have hown : s.vm.findClass "java/lang/String" = some m.cls := findClass_of_methodNamed Bd.named
  have X0 : Stand p l e ({ frames := 1, cells := 0, slots := 0, locals := 14 } : Room) s m #[(.int p0), (.int p1)] below meth c s₁ [] 0 0 := Stand.of_body Bd
  have e0 : s₁.heap = h0 := by rw [← hh, Bd.state]; rfl
  show own_Ends p e below s 0 0 (own_V h0 n0) s₁ (entryFrame m #[(.int p0), (.int p1)] 2)
  refine own_step (fun t k => castTop (ef4 m p0 p1) k) ?_
  exact b4N_0 p0 p1 X0 Bd.exec hZ hw Bd.bytes hml0 hown Bd.returns (BodyLoose.notSynchronized Bd) e0 (Fr.nil n0) S_SIOOBE_FORMATTER hq0 hq1 rfl
def f4R_0 (p0 : Int32) (p1 : Int32) : Int32 :=
  0
set_option maxRecDepth 65536 in
set_option maxHeartbeats 4000000 in
theorem b4R_0 {p : Program} {l : Launch} {e : Env} {s : State} {m : MethodId} {args : Array Value} {below : List Frame} {meth : Method} {c : Code} {T0 : State} {locs : List Loc} {Z : State} {a0 : Array Value} {h0 : Heap} {n0 : Nat} (p0 : Int32) (p1 : Int32) (g9 : Addr) {r : Int32} (X0 : Stand p l e ({ frames := 1, cells := 0, slots := 0, locals := 14 } : Room) s m args below meth c T0 locs 0 0) (hx : p.tables.exec = Jvm.exec) (hZ : Z.Warmed39 s.vm) (hw : ∀ d ∈ tables_1, d.before a0 Z = true) (hby : c.code = jdk_42_method_155_code) (hml : c.maxLocals = 2) (hown : s.vm.findClass "java/lang/String" = some m.cls) (hret : meth.sig.returnType = none) (hlk : meth.locks = false) (e0 : T0.heap = h0) (N0 : Fr n0 locs) (S_SIOOBE_FORMATTER : Sta Z h0 "jdk/internal/util/Preconditions" "SIOOBE_FORMATTER" "Ljava/util/function/BiFunction;" (.ref g9)) (hq0 : ¬ p0 < (0 : Int32)) (hq1 : p0 < p1) (hr : r = f4R_0 p0 p1) :
    own_Ends p e below s 0 0 (own_V h0 n0) T0 (mkF m 0 #[.val (.int p0), .val (.int p1)] []) := by
  unfold f4R_0 at hr
  refine own_step (T' := T0) (f' := (mkF m 2 #[.val (.int p0), .val (.int p1)] [(.int p1), (.int p0)])) (fun t kt => ?_) ?_
  · show Steps p.tables e below (T0.setTop (mkF m 0 #[.val (.int p0), .val (.int p1)] [])) _
    refine XS.iloadN X0.here hx rfl (hb hby d4_0) rfl ?_
    show Steps p.tables e below (T0.setTop (mkF m 1 #[.val (.int p0), .val (.int p1)] [(.int p0)])) _
    refine XS.iloadN X0.here hx rfl (hb hby d4_1) rfl ?_
    exact kt
  obtain ⟨T1, X1, e1, st1⟩ := getS2 X0 hx hZ hown (host := "") (Or.inl (hw _ (List.mem_of_getElem? (i := 29) rfl))) Via.refl e0 S_SIOOBE_FORMATTER (g := (mkF m 2 #[.val (.int p0), .val (.int p1)] [(.int p1), (.int p0)])) rfl (hb hby d4_2)
  refine own_step (T' := T1) (f' := (mkF m 5 #[.val (.int p0), .val (.int p1)] [(.ref g9), (.int p1), (.int p0)])) st1 ?_
  obtain ⟨_, _, ⟨T2, L2, k2, n2⟩, -, X2, ⟨Lc2, hQ2, l2, y2, z2⟩, st2⟩ := Jvm.LawKit.callS X1 hx (y := (⟨"jdk/internal/util/Preconditions", "checkIndex", "(IILjava/util/function/BiFunction;)I"⟩ : MethodName)) hown (mvT hZ (hw _ (List.mem_of_getElem? (i := 31) rfl))) (mvT hZ (hw _ (List.mem_of_getElem? (i := 32) rfl))) (mvT hZ (hw _ (List.mem_of_getElem? (i := 30) rfl))) (mvT hZ (hw _ (List.mem_of_getElem? (i := 33) rfl))) (by decide) (backOf (W := 0) (rm5R l Z a0 hw [] p0 p1 g9  h0 n0 hq0 hq1) hZ (hw _ (List.mem_of_getElem? (i := 33) rfl)) (hw _ (List.mem_of_getElem? (i := 30) rfl)) (by decide) (by decide)) (g := (mkF m 5 #[.val (.int p0), .val (.int p1)] [(.ref g9), (.int p1), (.int p0)])) rfl (by rw [hml]; rfl) (argsL := [(.int p0), (.int p1), (.ref g9)]) (rest := []) (lenOf pd5 rfl) rfl (by show 2 * 0 + _ ≤ _; exact Nat.le_of_eq rfl) (hb hby d4_5) (fun _ _ => ⟨rfl, e1, (by decide : 0 + 0 ≤ _), (by decide : 0 + 0 ≤ _)⟩)
  dsimp only [Pt.U, Pt.locs, Pt.cells, Pt.slots] at X2 l2 y2 z2 st2 hQ2
  subst l2 y2 z2
  obtain ⟨rfl, Nq2, e2⟩ := hQ2
  have N2 := Fr.app N0 Nq2
  refine own_step (T' := T2) (f' := (mkF m 8 #[.val (.int p0), .val (.int p1)] [(.int (f5R_0 p0 p1))])) st2 ?_
  refine own_step (T' := T2) (f' := (mkF m 9 #[.val (.int p0), .val (.int p1)] [])) (fun t kt => ?_) ?_
  · show Steps p.tables e below (T2.setTop (mkF m 8 #[.val (.int p0), .val (.int p1)] [(.int (f5R_0 p0 p1))])) _
    refine XS.pop X2.here hx rfl (hb hby d4_8) rfl rfl ?_
    exact kt
  exact own_retV X2 hx hret hlk (hb hby d4_9) (Nat.le_refl _) (Nat.le_refl _) ⟨rfl, N2, e2⟩
set_option maxRecDepth 65536 in
set_option maxHeartbeats 4000000 in
theorem rm4R (l : Launch) (Z : State) (a0 : Array Value) (hw : ∀ d ∈ tables_1, d.before a0 Z = true) (ws : List Jvm.Cond) (p0 : Int32) (p1 : Int32) (g9 : Addr) (h0 : Heap) (n0 : Nat) (S_SIOOBE_FORMATTER : Sta Z h0 "jdk/internal/util/Preconditions" "SIOOBE_FORMATTER" "Ljava/util/function/BiFunction;" (.ref g9)) (hq0 : ¬ p0 < (0 : Int32)) (hq1 : p0 < p1) :
    MetFree l (⟨"java/lang/String", "checkIndex", "(II)V"⟩ : MethodName) (head1 (Jvm.Cond.code (⟨"java/lang/String", "checkIndex", "(II)V"⟩ : MethodName) jdk_42_method_155_code 2 none :: ws) ({ frames := 1, cells := 0, slots := 0, locals := 14 } : Room)) (fun a U => a = #[(.int p0), (.int p1)] ∧ Z.Warmed39 U.vm ∧ U.heap = h0) (fun _ _ _ _ _ => True) (fun _ U o U' => ∃ v L, o = .returned v ∧ (own_V h0 n0) v U'.heap L ∧ FrameEnd U o U' L ({ frames := 1, cells := 0, slots := 0, locals := 14 } : Room).cells ({ frames := 1, cells := 0, slots := 0, locals := 14 } : Room).slots) := by
  refine MetFree.of_bodySF (plainFor_of_name pn4) hisR ?_
  intro p e s m args below meth c s₁ Bd hml0 hP hK
  obtain ⟨rfl, hZ, hh⟩ := hP
  have hown : s.vm.findClass "java/lang/String" = some m.cls := findClass_of_methodNamed Bd.named
  have X0 : Stand p l e ({ frames := 1, cells := 0, slots := 0, locals := 14 } : Room) s m #[(.int p0), (.int p1)] below meth c s₁ [] 0 0 := Stand.of_body Bd
  have e0 : s₁.heap = h0 := by rw [← hh, Bd.state]; rfl
  show own_Ends p e below s 0 0 (own_V h0 n0) s₁ (entryFrame m #[(.int p0), (.int p1)] 2)
  refine own_step (fun t k => castTop (ef4 m p0 p1) k) ?_
  exact b4R_0 p0 p1 g9 X0 Bd.exec hZ hw Bd.bytes hml0 hown Bd.returns (BodyLoose.notSynchronized Bd) e0 (Fr.nil n0) S_SIOOBE_FORMATTER hq0 hq1 rfl
theorem d3_0 : decode jdk_43_method_2_code 0 = .ok (.iload_n 1, 1) := by decide +kernel
theorem d3_1 : decode jdk_43_method_2_code 1 = .ok (.aload_n 0, 1) := by decide +kernel
theorem d3_2 : decode jdk_43_method_2_code 2 = .ok (.arraylength, 1) := by decide +kernel
theorem d3_3 : decode jdk_43_method_2_code 3 = .ok (.invokestatic 9, 3) := by decide +kernel
theorem d3_6 : decode jdk_43_method_2_code 6 = .ok (.aload_n 0, 1) := by decide +kernel
theorem d3_7 : decode jdk_43_method_2_code 7 = .ok (.iload_n 1, 1) := by decide +kernel
theorem d3_8 : decode jdk_43_method_2_code 8 = .ok (.baload, 1) := by decide +kernel
theorem d3_9 : decode jdk_43_method_2_code 9 = .ok (.sipush 255, 3) := by decide +kernel
theorem d3_12 : decode jdk_43_method_2_code 12 = .ok (.iand, 1) := by decide +kernel
theorem d3_13 : decode jdk_43_method_2_code 13 = .ok (.i2c, 1) := by decide +kernel
theorem d3_14 : decode jdk_43_method_2_code 14 = .ok (.ireturn, 1) := by decide +kernel
theorem pn3 : plainName "java/lang/StringLatin1" = true := by first | (simp [plainName, overriddenIn]; done) | decide +kernel
theorem pd3 : parseMethodDescriptor "([BI)C" = some ⟨[(.array .byte), .int], some .char⟩ := by decide +kernel
theorem ef3 (m : MethodId) (a0' : Addr) (p1 : Int32) : entryFrame m #[(.ref a0'), (.int p1)] 2 = mkF m 0 #[.val (.ref a0'), .val (.int p1)] [] := by first | (simp [entryFrame, mkF, argsToLocals, Value.category]; done) | rfl
def f3N_0 (p1 : Int32) (y0 : Int32) : Int32 :=
  nar .char ((y0 &&& (255 : Int32)).toUInt32.toUInt16.toUInt32.toInt32)
set_option maxRecDepth 65536 in
set_option maxHeartbeats 4000000 in
theorem b3N_0 {p : Program} {l : Launch} {e : Env} {s : State} {m : MethodId} {args : Array Value} {below : List Frame} {meth : Method} {c : Code} {T0 : State} {locs : List Loc} {Z : State} {a0 : Array Value} {h0 : Heap} {n0 : Nat} (a0' : Addr) (p1 : Int32) (y0 : Int32) (vs0 : List Value) {r : Int32} (X0 : Stand p l e ({ frames := 2, cells := 0, slots := 0, locals := 27 } : Room) s m args below meth c T0 locs 0 0) (hx : p.tables.exec = Jvm.exec) (hZ : Z.Warmed39 s.vm) (hw : ∀ d ∈ tables_1, d.before a0 Z = true) (hby : c.code = jdk_43_method_2_code) (hml : c.maxLocals = 2) (hown : s.vm.findClass "java/lang/StringLatin1" = some m.cls) (hret : meth.sig.returnType = some .char) (hlk : meth.locks = false) (e0 : T0.heap = h0) (N0 : Fr n0 locs) (A0 : own_A Z h0 a0' .byte vs0) (S_SIOOBE_FORMATTER : Sta Z h0 "jdk/internal/util/Preconditions" "SIOOBE_FORMATTER" "Ljava/util/function/BiFunction;" .null) (hl0 : vs0.length = 16) (hj0 : ¬ p1 < (0 : Int32)) (hq1 : p1 < (16 : Int32)) (hv0 : vs0[p1.toNatClampNeg]? = some (.int y0)) (hr : r = f3N_0 p1 y0) :
    own_Ends p e below s 0 0 (own_P (.int r) h0 n0) T0 (mkF m 0 #[.val (.ref a0'), .val (.int p1)] []) := by
  unfold f3N_0 at hr
  refine own_step (T' := T0) (f' := (mkF m 3 #[.val (.ref a0'), .val (.int p1)] [(.int (16 : Int32)), (.int p1)])) (fun t kt => ?_) ?_
  · show Steps p.tables e below (T0.setTop (mkF m 0 #[.val (.ref a0'), .val (.int p1)] [])) _
    refine XS.iloadN X0.here hx rfl (hb hby d3_0) rfl ?_
    show Steps p.tables e below (T0.setTop (mkF m 1 #[.val (.ref a0'), .val (.int p1)] [(.int p1)])) _
    refine XS.aloadN X0.here hx rfl (hb hby d3_1) rfl rfl ?_
    show Steps p.tables e below (T0.setTop (mkF m 2 #[.val (.ref a0'), .val (.int p1)] [(.ref a0'), (.int p1)])) _
    refine own_len X0 hx hZ e0 A0 (n := (16 : Int32)) (by rw [hl0]; rfl) (g := (mkF m 2 #[.val (.ref a0'), .val (.int p1)] [(.ref a0'), (.int p1)])) rfl rfl (hb hby d3_2) _ ?_
    exact kt
  obtain ⟨_, _, ⟨T1, L1, k1, n1⟩, -, X1, ⟨Lc1, hQ1, l1, y1, z1⟩, st1⟩ := Jvm.LawKit.callS X0 hx (y := (⟨"java/lang/String", "checkIndex", "(II)V"⟩ : MethodName)) hown (mvT hZ (hw _ (List.mem_of_getElem? (i := 26) rfl))) (mvT hZ (hw _ (List.mem_of_getElem? (i := 27) rfl))) (mvT hZ (hw _ (List.mem_of_getElem? (i := 1) rfl))) (mvT hZ (hw _ (List.mem_of_getElem? (i := 28) rfl))) (by decide) (backOf (W := 0) (rm4N l Z a0 hw [] p1 (16 : Int32)  h0 n0 S_SIOOBE_FORMATTER hj0 hq1) hZ (hw _ (List.mem_of_getElem? (i := 28) rfl)) (hw _ (List.mem_of_getElem? (i := 1) rfl)) (by decide) (by decide)) (g := (mkF m 3 #[.val (.ref a0'), .val (.int p1)] [(.int (16 : Int32)), (.int p1)])) rfl (by rw [hml]; rfl) (argsL := [(.int p1), (.int (16 : Int32))]) (rest := []) (lenOf pd4 rfl) rfl (by show 2 * 0 + _ ≤ _; exact Nat.le_of_eq rfl) (hb hby d3_3) (fun _ _ => ⟨rfl, e0, (by decide : 0 + 0 ≤ _), (by decide : 0 + 0 ≤ _)⟩)
  dsimp only [Pt.U, Pt.locs, Pt.cells, Pt.slots] at X1 l1 y1 z1 st1 hQ1
  subst l1 y1 z1
  obtain ⟨rfl, Nq1, e1⟩ := hQ1
  have N1 := Fr.app N0 Nq1
  refine own_step (T' := T1) (f' := (mkF m 6 #[.val (.ref a0'), .val (.int p1)] [])) st1 ?_
  refine own_step (T' := T1) (f' := (mkF m 14 #[.val (.ref a0'), .val (.int p1)] [(.int ((y0 &&& (255 : Int32)).toUInt32.toUInt16.toUInt32.toInt32))])) (fun t kt => ?_) ?_
  · show Steps p.tables e below (T1.setTop (mkF m 6 #[.val (.ref a0'), .val (.int p1)] [])) _
    refine XS.aloadN X1.here hx rfl (hb hby d3_6) rfl rfl ?_
    show Steps p.tables e below (T1.setTop (mkF m 7 #[.val (.ref a0'), .val (.int p1)] [(.ref a0')])) _
    refine XS.iloadN X1.here hx rfl (hb hby d3_7) rfl ?_
    show Steps p.tables e below (T1.setTop (mkF m 8 #[.val (.ref a0'), .val (.int p1)] [(.int p1), (.ref a0')])) _
    refine own_ldB X1 hx hZ e1 A0 (j := p1) hj0 (k := _) rfl (v := (.int y0)) hv0 (g := (mkF m 8 #[.val (.ref a0'), .val (.int p1)] [(.int p1), (.ref a0')])) rfl rfl (hb hby d3_8) _ ?_
    show Steps p.tables e below (T1.setTop (mkF m 9 #[.val (.ref a0'), .val (.int p1)] [(.int y0)])) _
    refine XS.sipush X1.here hx rfl (hb hby d3_9) ?_
    show Steps p.tables e below (T1.setTop (mkF m 12 #[.val (.ref a0'), .val (.int p1)] [(.int (255 : Int32)), (.int y0)])) _
    refine XS.iand X1.here hx rfl (hb hby d3_12) rfl ?_
    show Steps p.tables e below (T1.setTop (mkF m 13 #[.val (.ref a0'), .val (.int p1)] [(.int (y0 &&& (255 : Int32)))])) _
    refine XS.i2c X1.here hx rfl (hb hby d3_13) rfl ?_
    exact kt
  exact own_retZ X1 hx hret (by simp) hlk (hb hby d3_14) (Nat.le_refl _) (Nat.le_refl _) ⟨congrArg (fun z => some (Value.int z)) hr.symm, N1, e1⟩
set_option maxRecDepth 65536 in
set_option maxHeartbeats 4000000 in
theorem rm3N (l : Launch) (Z : State) (a0 : Array Value) (hw : ∀ d ∈ tables_1, d.before a0 Z = true) (ws : List Jvm.Cond) (a0' : Addr) (p1 : Int32) (y0 : Int32) (vs0 : List Value) (h0 : Heap) (n0 : Nat) (A0 : own_A Z h0 a0' .byte vs0) (S_SIOOBE_FORMATTER : Sta Z h0 "jdk/internal/util/Preconditions" "SIOOBE_FORMATTER" "Ljava/util/function/BiFunction;" .null) (hl0 : vs0.length = 16) (hj0 : ¬ p1 < (0 : Int32)) (hq1 : p1 < (16 : Int32)) (hv0 : vs0[p1.toNatClampNeg]? = some (.int y0)) :
    MetFree l (⟨"java/lang/StringLatin1", "charAt", "([BI)C"⟩ : MethodName) (head1 (Jvm.Cond.code (⟨"java/lang/StringLatin1", "charAt", "([BI)C"⟩ : MethodName) jdk_43_method_2_code 2 (some .char) :: ws) ({ frames := 2, cells := 0, slots := 0, locals := 27 } : Room)) (fun a U => a = #[(.ref a0'), (.int p1)] ∧ Z.Warmed39 U.vm ∧ U.heap = h0) (fun _ _ _ _ _ => True) (fun _ U o U' => ∃ v L, o = .returned v ∧ (own_P (.int (f3N_0 p1 y0)) h0 n0) v U'.heap L ∧ FrameEnd U o U' L ({ frames := 2, cells := 0, slots := 0, locals := 27 } : Room).cells ({ frames := 2, cells := 0, slots := 0, locals := 27 } : Room).slots) := by
  refine MetFree.of_bodySF (plainFor_of_name pn3) hisR ?_
  intro p e s m args below meth c s₁ Bd hml0 hP hK
  obtain ⟨rfl, hZ, hh⟩ := hP
  have hown : s.vm.findClass "java/lang/StringLatin1" = some m.cls := findClass_of_methodNamed Bd.named
  have X0 : Stand p l e ({ frames := 2, cells := 0, slots := 0, locals := 27 } : Room) s m #[(.ref a0'), (.int p1)] below meth c s₁ [] 0 0 := Stand.of_body Bd
  have e0 : s₁.heap = h0 := by rw [← hh, Bd.state]; rfl
  show own_Ends p e below s 0 0 (own_P (.int (f3N_0 p1 y0)) h0 n0) s₁ (entryFrame m #[(.ref a0'), (.int p1)] 2)
  refine own_step (fun t k => castTop (ef3 m a0' p1) k) ?_
  exact b3N_0 a0' p1 y0 vs0 X0 Bd.exec hZ hw Bd.bytes hml0 hown Bd.returns (BodyLoose.notSynchronized Bd) e0 (Fr.nil n0) A0 S_SIOOBE_FORMATTER hl0 hj0 hq1 hv0 rfl
def f3R_0 (p1 : Int32) (y0 : Int32) : Int32 :=
  nar .char ((y0 &&& (255 : Int32)).toUInt32.toUInt16.toUInt32.toInt32)
set_option maxRecDepth 65536 in
set_option maxHeartbeats 4000000 in
theorem b3R_0 {p : Program} {l : Launch} {e : Env} {s : State} {m : MethodId} {args : Array Value} {below : List Frame} {meth : Method} {c : Code} {T0 : State} {locs : List Loc} {Z : State} {a0 : Array Value} {h0 : Heap} {n0 : Nat} (a0' : Addr) (p1 : Int32) (y0 : Int32) (vs0 : List Value) (g9 : Addr) {r : Int32} (X0 : Stand p l e ({ frames := 2, cells := 0, slots := 0, locals := 27 } : Room) s m args below meth c T0 locs 0 0) (hx : p.tables.exec = Jvm.exec) (hZ : Z.Warmed39 s.vm) (hw : ∀ d ∈ tables_1, d.before a0 Z = true) (hby : c.code = jdk_43_method_2_code) (hml : c.maxLocals = 2) (hown : s.vm.findClass "java/lang/StringLatin1" = some m.cls) (hret : meth.sig.returnType = some .char) (hlk : meth.locks = false) (e0 : T0.heap = h0) (N0 : Fr n0 locs) (A0 : own_A Z h0 a0' .byte vs0) (S_SIOOBE_FORMATTER : Sta Z h0 "jdk/internal/util/Preconditions" "SIOOBE_FORMATTER" "Ljava/util/function/BiFunction;" (.ref g9)) (hl0 : vs0.length = 16) (hj0 : ¬ p1 < (0 : Int32)) (hq1 : p1 < (16 : Int32)) (hv0 : vs0[p1.toNatClampNeg]? = some (.int y0)) (hr : r = f3R_0 p1 y0) :
    own_Ends p e below s 0 0 (own_P (.int r) h0 n0) T0 (mkF m 0 #[.val (.ref a0'), .val (.int p1)] []) := by
  unfold f3R_0 at hr
  refine own_step (T' := T0) (f' := (mkF m 3 #[.val (.ref a0'), .val (.int p1)] [(.int (16 : Int32)), (.int p1)])) (fun t kt => ?_) ?_
  · show Steps p.tables e below (T0.setTop (mkF m 0 #[.val (.ref a0'), .val (.int p1)] [])) _
    refine XS.iloadN X0.here hx rfl (hb hby d3_0) rfl ?_
    show Steps p.tables e below (T0.setTop (mkF m 1 #[.val (.ref a0'), .val (.int p1)] [(.int p1)])) _
    refine XS.aloadN X0.here hx rfl (hb hby d3_1) rfl rfl ?_
    show Steps p.tables e below (T0.setTop (mkF m 2 #[.val (.ref a0'), .val (.int p1)] [(.ref a0'), (.int p1)])) _
    refine own_len X0 hx hZ e0 A0 (n := (16 : Int32)) (by rw [hl0]; rfl) (g := (mkF m 2 #[.val (.ref a0'), .val (.int p1)] [(.ref a0'), (.int p1)])) rfl rfl (hb hby d3_2) _ ?_
    exact kt
  obtain ⟨_, _, ⟨T1, L1, k1, n1⟩, -, X1, ⟨Lc1, hQ1, l1, y1, z1⟩, st1⟩ := Jvm.LawKit.callS X0 hx (y := (⟨"java/lang/String", "checkIndex", "(II)V"⟩ : MethodName)) hown (mvT hZ (hw _ (List.mem_of_getElem? (i := 26) rfl))) (mvT hZ (hw _ (List.mem_of_getElem? (i := 27) rfl))) (mvT hZ (hw _ (List.mem_of_getElem? (i := 1) rfl))) (mvT hZ (hw _ (List.mem_of_getElem? (i := 28) rfl))) (by decide) (backOf (W := 0) (rm4R l Z a0 hw [] p1 (16 : Int32) g9 h0 n0 S_SIOOBE_FORMATTER hj0 hq1) hZ (hw _ (List.mem_of_getElem? (i := 28) rfl)) (hw _ (List.mem_of_getElem? (i := 1) rfl)) (by decide) (by decide)) (g := (mkF m 3 #[.val (.ref a0'), .val (.int p1)] [(.int (16 : Int32)), (.int p1)])) rfl (by rw [hml]; rfl) (argsL := [(.int p1), (.int (16 : Int32))]) (rest := []) (lenOf pd4 rfl) rfl (by show 2 * 0 + _ ≤ _; exact Nat.le_of_eq rfl) (hb hby d3_3) (fun _ _ => ⟨rfl, e0, (by decide : 0 + 0 ≤ _), (by decide : 0 + 0 ≤ _)⟩)
  dsimp only [Pt.U, Pt.locs, Pt.cells, Pt.slots] at X1 l1 y1 z1 st1 hQ1
  subst l1 y1 z1
  obtain ⟨rfl, Nq1, e1⟩ := hQ1
  have N1 := Fr.app N0 Nq1
  refine own_step (T' := T1) (f' := (mkF m 6 #[.val (.ref a0'), .val (.int p1)] [])) st1 ?_
  refine own_step (T' := T1) (f' := (mkF m 14 #[.val (.ref a0'), .val (.int p1)] [(.int ((y0 &&& (255 : Int32)).toUInt32.toUInt16.toUInt32.toInt32))])) (fun t kt => ?_) ?_
  · show Steps p.tables e below (T1.setTop (mkF m 6 #[.val (.ref a0'), .val (.int p1)] [])) _
    refine XS.aloadN X1.here hx rfl (hb hby d3_6) rfl rfl ?_
    show Steps p.tables e below (T1.setTop (mkF m 7 #[.val (.ref a0'), .val (.int p1)] [(.ref a0')])) _
    refine XS.iloadN X1.here hx rfl (hb hby d3_7) rfl ?_
    show Steps p.tables e below (T1.setTop (mkF m 8 #[.val (.ref a0'), .val (.int p1)] [(.int p1), (.ref a0')])) _
    refine own_ldB X1 hx hZ e1 A0 (j := p1) hj0 (k := _) rfl (v := (.int y0)) hv0 (g := (mkF m 8 #[.val (.ref a0'), .val (.int p1)] [(.int p1), (.ref a0')])) rfl rfl (hb hby d3_8) _ ?_
    show Steps p.tables e below (T1.setTop (mkF m 9 #[.val (.ref a0'), .val (.int p1)] [(.int y0)])) _
    refine XS.sipush X1.here hx rfl (hb hby d3_9) ?_
    show Steps p.tables e below (T1.setTop (mkF m 12 #[.val (.ref a0'), .val (.int p1)] [(.int (255 : Int32)), (.int y0)])) _
    refine XS.iand X1.here hx rfl (hb hby d3_12) rfl ?_
    show Steps p.tables e below (T1.setTop (mkF m 13 #[.val (.ref a0'), .val (.int p1)] [(.int (y0 &&& (255 : Int32)))])) _
    refine XS.i2c X1.here hx rfl (hb hby d3_13) rfl ?_
    exact kt
  exact own_retZ X1 hx hret (by simp) hlk (hb hby d3_14) (Nat.le_refl _) (Nat.le_refl _) ⟨congrArg (fun z => some (Value.int z)) hr.symm, N1, e1⟩
set_option maxRecDepth 65536 in
set_option maxHeartbeats 4000000 in
theorem rm3R (l : Launch) (Z : State) (a0 : Array Value) (hw : ∀ d ∈ tables_1, d.before a0 Z = true) (ws : List Jvm.Cond) (a0' : Addr) (p1 : Int32) (y0 : Int32) (vs0 : List Value) (g9 : Addr) (h0 : Heap) (n0 : Nat) (A0 : own_A Z h0 a0' .byte vs0) (S_SIOOBE_FORMATTER : Sta Z h0 "jdk/internal/util/Preconditions" "SIOOBE_FORMATTER" "Ljava/util/function/BiFunction;" (.ref g9)) (hl0 : vs0.length = 16) (hj0 : ¬ p1 < (0 : Int32)) (hq1 : p1 < (16 : Int32)) (hv0 : vs0[p1.toNatClampNeg]? = some (.int y0)) :
    MetFree l (⟨"java/lang/StringLatin1", "charAt", "([BI)C"⟩ : MethodName) (head1 (Jvm.Cond.code (⟨"java/lang/StringLatin1", "charAt", "([BI)C"⟩ : MethodName) jdk_43_method_2_code 2 (some .char) :: ws) ({ frames := 2, cells := 0, slots := 0, locals := 27 } : Room)) (fun a U => a = #[(.ref a0'), (.int p1)] ∧ Z.Warmed39 U.vm ∧ U.heap = h0) (fun _ _ _ _ _ => True) (fun _ U o U' => ∃ v L, o = .returned v ∧ (own_P (.int (f3R_0 p1 y0)) h0 n0) v U'.heap L ∧ FrameEnd U o U' L ({ frames := 2, cells := 0, slots := 0, locals := 27 } : Room).cells ({ frames := 2, cells := 0, slots := 0, locals := 27 } : Room).slots) := by
  refine MetFree.of_bodySF (plainFor_of_name pn3) hisR ?_
  intro p e s m args below meth c s₁ Bd hml0 hP hK
  obtain ⟨rfl, hZ, hh⟩ := hP
  have hown : s.vm.findClass "java/lang/StringLatin1" = some m.cls := findClass_of_methodNamed Bd.named
  have X0 : Stand p l e ({ frames := 2, cells := 0, slots := 0, locals := 27 } : Room) s m #[(.ref a0'), (.int p1)] below meth c s₁ [] 0 0 := Stand.of_body Bd
  have e0 : s₁.heap = h0 := by rw [← hh, Bd.state]; rfl
  show own_Ends p e below s 0 0 (own_P (.int (f3R_0 p1 y0)) h0 n0) s₁ (entryFrame m #[(.ref a0'), (.int p1)] 2)
  refine own_step (fun t k => castTop (ef3 m a0' p1) k) ?_
  exact b3R_0 a0' p1 y0 vs0 g9 X0 Bd.exec hZ hw Bd.bytes hml0 hown Bd.returns (BodyLoose.notSynchronized Bd) e0 (Fr.nil n0) A0 S_SIOOBE_FORMATTER hl0 hj0 hq1 hv0 rfl
theorem rm3 (l : Launch) (Z : State) (a0 : Array Value) (hw : ∀ d ∈ tables_1, d.before a0 Z = true) (ws : List Jvm.Cond) (a0' : Addr) (p1 : Int32) (y0 : Int32) (vs0 : List Value) (fm : Value) (h0 : Heap) (n0 : Nat) (A0 : own_A Z h0 a0' .byte vs0) (Sfm : Sta Z h0 "jdk/internal/util/Preconditions" "SIOOBE_FORMATTER" "Ljava/util/function/BiFunction;" fm) (rf : fm.isRef = true) (hl0 : vs0.length = 16) (hj0 : ¬ p1 < (0 : Int32)) (hq1 : p1 < (16 : Int32)) (hv0 : vs0[p1.toNatClampNeg]? = some (.int y0)) :
    MetFree l (⟨"java/lang/StringLatin1", "charAt", "([BI)C"⟩ : MethodName) (head1 (Jvm.Cond.code (⟨"java/lang/StringLatin1", "charAt", "([BI)C"⟩ : MethodName) jdk_43_method_2_code 2 (some .char) :: ws) ({ frames := 2, cells := 0, slots := 0, locals := 27 } : Room)) (fun a U => a = #[(.ref a0'), (.int p1)] ∧ Z.Warmed39 U.vm ∧ U.heap = h0) (fun _ _ _ _ _ => True) (fun _ U o U' => ∃ v L, o = .returned v ∧ (own_P (.int (f3N_0 p1 y0)) h0 n0) v U'.heap L ∧ FrameEnd U o U' L ({ frames := 2, cells := 0, slots := 0, locals := 27 } : Room).cells ({ frames := 2, cells := 0, slots := 0, locals := 27 } : Room).slots) := by
  cases fm with
  | null => exact rm3N l Z a0 hw ws a0' p1 y0 vs0 h0 n0 A0 Sfm hl0 hj0 hq1 hv0
  | ref g9 => exact rm3R l Z a0 hw ws a0' p1 y0 vs0 g9 h0 n0 A0 Sfm hl0 hj0 hq1 hv0
  | _ => simp [Value.isRef] at rf

theorem d2_0 : decode jdk_42_method_154_code 0 = .ok (.getstatic 38, 3) := by decide +kernel
theorem d2_3 : decode jdk_42_method_154_code 3 = .ok (.ifCond .eq 14, 3) := by decide +kernel
theorem d2_6 : decode jdk_42_method_154_code 6 = .ok (.aload_n 0, 1) := by decide +kernel
theorem d2_7 : decode jdk_42_method_154_code 7 = .ok (.getfield 15, 3) := by decide +kernel
theorem d2_10 : decode jdk_42_method_154_code 10 = .ok (.ifCond .ne 7, 3) := by decide +kernel
theorem d2_13 : decode jdk_42_method_154_code 13 = .ok (.iconst 1, 1) := by decide +kernel
theorem d2_14 : decode jdk_42_method_154_code 14 = .ok (.goto 4, 3) := by decide +kernel
theorem d2_17 : decode jdk_42_method_154_code 17 = .ok (.iconst 0, 1) := by decide +kernel
theorem d2_18 : decode jdk_42_method_154_code 18 = .ok (.ireturn, 1) := by decide +kernel
theorem pn2 : plainName "java/lang/String" = true := by first | (simp [plainName, overriddenIn]; done) | decide +kernel
theorem pd2 : parseMethodDescriptor "()Z" = some ⟨[], some .boolean⟩ := by decide +kernel
theorem ef2 (m : MethodId) (a0' : Addr) : entryFrame m #[(.ref a0')] 1 = mkF m 0 #[.val (.ref a0')] [] := by first | (simp [entryFrame, mkF, argsToLocals, Value.category]; done) | rfl
def f2_0 (w : Int32) : Int32 :=
  (1 : Int32)
set_option maxRecDepth 65536 in
set_option maxHeartbeats 4000000 in
theorem b2_0 {p : Program} {l : Launch} {e : Env} {s : State} {m : MethodId} {args : Array Value} {below : List Frame} {meth : Method} {c : Code} {T0 : State} {locs : List Loc} {Z : State} {a0 : Array Value} {h0 : Heap} {n0 : Nat} (a0' : Addr) (w : Int32) {r : Int32} (X0 : Stand p l e ({ frames := 0, cells := 0, slots := 0, locals := 0 } : Room) s m args below meth c T0 locs 0 0) (hx : p.tables.exec = Jvm.exec) (hZ : Z.Warmed39 s.vm) (hw : ∀ d ∈ tables_1, d.before a0 Z = true) (hby : c.code = jdk_42_method_154_code) (hml : c.maxLocals = 1) (hown : s.vm.findClass "java/lang/String" = some m.cls) (hret : meth.sig.returnType = some .boolean) (hlk : meth.locks = false) (e0 : T0.heap = h0) (N0 : Fr n0 locs) (S_COMPACT_STRINGS : Sta Z h0 "java/lang/String" "COMPACT_STRINGS" "Z" (.int w)) (F_coder : Fld Z h0 a0' "java/lang/String" "coder" "B" (.int (0 : Int32))) (hz0 : ¬ (w = (0 : Int32))) (hr : r = f2_0 w) :
    own_Ends p e below s 0 0 (own_P (.int r) h0 n0) T0 (mkF m 0 #[.val (.ref a0')] []) := by
  unfold f2_0 at hr
  obtain ⟨T1, X1, e1, st1⟩ := getS2 X0 hx hZ hown (host := "") (Or.inl (hw _ (List.mem_of_getElem? (i := 19) rfl))) Via.refl e0 S_COMPACT_STRINGS (g := (mkF m 0 #[.val (.ref a0')] [])) rfl (hb hby d2_0)
  refine own_step (T' := T1) (f' := (mkF m 3 #[.val (.ref a0')] [(.int w)])) st1 ?_
  refine own_step (T' := T1) (f' := (mkF m 6 #[.val (.ref a0')] [])) (fun t kt => ?_) ?_
  · show Steps p.tables e below (T1.setTop (mkF m 3 #[.val (.ref a0')] [(.int w)])) _
    refine XS.ifNo X1.here hx rfl (hb hby d2_3) rfl ((if0 _ _).trans (feq hz0).1) kt
  refine own_step (T' := T1) (f' := (mkF m 7 #[.val (.ref a0')] [(.ref a0')])) (fun t kt => ?_) ?_
  · show Steps p.tables e below (T1.setTop (mkF m 6 #[.val (.ref a0')] [])) _
    refine XS.aloadN X1.here hx rfl (hb hby d2_6) rfl rfl ?_
    exact kt
  obtain ⟨T3, X3, e3, st3⟩ := getF X1 hx hZ hown (host := "") (Or.inl (hw _ (List.mem_of_getElem? (i := 20) rfl))) Via.refl e1 F_coder (g := (mkF m 7 #[.val (.ref a0')] [(.ref a0')])) rfl rfl (hb hby d2_7)
  refine own_step (T' := T3) (f' := (mkF m 10 #[.val (.ref a0')] [(.int (0 : Int32))])) st3 ?_
  refine own_step (T' := T3) (f' := (mkF m 13 #[.val (.ref a0')] [])) (fun t kt => ?_) ?_
  · show Steps p.tables e below (T3.setTop (mkF m 10 #[.val (.ref a0')] [(.int (0 : Int32))])) _
    refine XS.ifNo X3.here hx rfl (hb hby d2_10) rfl ((if0 _ _).trans (teq (by decide : ((0 : Int32) = (0 : Int32)))).2) kt
  refine own_step (T' := T3) (f' := (mkF m 18 #[.val (.ref a0')] [(.int (1 : Int32))])) (fun t kt => ?_) ?_
  · show Steps p.tables e below (T3.setTop (mkF m 13 #[.val (.ref a0')] [])) _
    refine XS.iconst X3.here hx rfl (hb hby d2_13) ?_
    show Steps p.tables e below (T3.setTop (mkF m 14 #[.val (.ref a0')] [(.int (1 : Int32))])) _
    refine XS.goto X3.here hx rfl (pc0 := 14) (pc' := 18) rfl (hb hby d2_14) (by decide) (by decide) ?_
    exact kt
  exact own_retZ X3 hx hret (by simp) hlk (hb hby d2_18) (Nat.le_refl _) (Nat.le_refl _) ⟨congrArg (fun z => some (Value.int z)) hr.symm, N0, e3⟩
set_option maxRecDepth 65536 in
set_option maxHeartbeats 4000000 in
theorem rm2 (l : Launch) (Z : State) (a0 : Array Value) (hw : ∀ d ∈ tables_1, d.before a0 Z = true) (ws : List Jvm.Cond) (a0' : Addr) (w : Int32) (h0 : Heap) (n0 : Nat) (S_COMPACT_STRINGS : Sta Z h0 "java/lang/String" "COMPACT_STRINGS" "Z" (.int w)) (F_coder : Fld Z h0 a0' "java/lang/String" "coder" "B" (.int (0 : Int32))) (hz0 : ¬ (w = (0 : Int32))) :
    MetFree l (⟨"java/lang/String", "isLatin1", "()Z"⟩ : MethodName) (head1 (Jvm.Cond.code (⟨"java/lang/String", "isLatin1", "()Z"⟩ : MethodName) jdk_42_method_154_code 1 (some .boolean) :: ws) ({ frames := 0, cells := 0, slots := 0, locals := 0 } : Room)) (fun a U => a = #[(.ref a0')] ∧ Z.Warmed39 U.vm ∧ U.heap = h0) (fun _ _ _ _ _ => True) (fun _ U o U' => ∃ v L, o = .returned v ∧ (own_P (.int (f2_0 w)) h0 n0) v U'.heap L ∧ FrameEnd U o U' L ({ frames := 0, cells := 0, slots := 0, locals := 0 } : Room).cells ({ frames := 0, cells := 0, slots := 0, locals := 0 } : Room).slots) := by
  refine MetFree.of_bodySF (plainFor_of_name pn2) hisR ?_
  intro p e s m args below meth c s₁ Bd hml0 hP hK
  obtain ⟨rfl, hZ, hh⟩ := hP
  have hown : s.vm.findClass "java/lang/String" = some m.cls := findClass_of_methodNamed Bd.named
  have X0 : Stand p l e ({ frames := 0, cells := 0, slots := 0, locals := 0 } : Room) s m #[(.ref a0')] below meth c s₁ [] 0 0 := Stand.of_body Bd
  have e0 : s₁.heap = h0 := by rw [← hh, Bd.state]; rfl
  show own_Ends p e below s 0 0 (own_P (.int (f2_0 w)) h0 n0) s₁ (entryFrame m #[(.ref a0')] 1)
  refine own_step (fun t k => castTop (ef2 m a0') k) ?_
  exact b2_0 a0' w X0 Bd.exec hZ hw Bd.bytes hml0 hown Bd.returns (BodyLoose.notSynchronized Bd) e0 (Fr.nil n0) S_COMPACT_STRINGS F_coder hz0 rfl
theorem d1_0 : decode jdk_42_method_56_code 0 = .ok (.aload_n 0, 1) := by decide +kernel
theorem d1_1 : decode jdk_42_method_56_code 1 = .ok (.invokevirtual 492, 3) := by decide +kernel
theorem d1_4 : decode jdk_42_method_56_code 4 = .ok (.ifCond .eq 12, 3) := by decide +kernel
theorem d1_7 : decode jdk_42_method_56_code 7 = .ok (.aload_n 0, 1) := by decide +kernel
theorem d1_8 : decode jdk_42_method_56_code 8 = .ok (.getfield 9, 3) := by decide +kernel
theorem d1_11 : decode jdk_42_method_56_code 11 = .ok (.iload_n 1, 1) := by decide +kernel
theorem d1_12 : decode jdk_42_method_56_code 12 = .ok (.invokestatic 495, 3) := by decide +kernel
theorem d1_15 : decode jdk_42_method_56_code 15 = .ok (.ireturn, 1) := by decide +kernel
theorem d1_16 : decode jdk_42_method_56_code 16 = .ok (.aload_n 0, 1) := by decide +kernel
theorem d1_17 : decode jdk_42_method_56_code 17 = .ok (.getfield 9, 3) := by decide +kernel
theorem d1_20 : decode jdk_42_method_56_code 20 = .ok (.iload_n 1, 1) := by decide +kernel
theorem d1_21 : decode jdk_42_method_56_code 21 = .ok (.invokestatic 498, 3) := by decide +kernel
theorem d1_24 : decode jdk_42_method_56_code 24 = .ok (.ireturn, 1) := by decide +kernel
theorem pn1 : plainName "java/lang/String" = true := by first | (simp [plainName, overriddenIn]; done) | decide +kernel
theorem pd1 : parseMethodDescriptor "(I)C" = some ⟨[.int], some .char⟩ := by decide +kernel
theorem ef1 (m : MethodId) (a0' : Addr) (p1 : Int32) : entryFrame m #[(.ref a0'), (.int p1)] 2 = mkF m 0 #[.val (.ref a0'), .val (.int p1)] [] := by first | (simp [entryFrame, mkF, argsToLocals, Value.category]; done) | rfl
def f1_0 (p1 : Int32) (y0 : Int32) (w : Int32) : Int32 :=
  nar .char (f3N_0 p1 y0)
set_option maxRecDepth 65536 in
set_option maxHeartbeats 4000000 in
theorem b1_0 {p : Program} {l : Launch} {e : Env} {s : State} {m : MethodId} {args : Array Value} {below : List Frame} {meth : Method} {c : Code} {T0 : State} {locs : List Loc} {Z : State} {a0 : Array Value} {h0 : Heap} {n0 : Nat} (a0' : Addr) (p1 : Int32) (y0 : Int32) (vs0 : List Value) (fm : Value) (w : Int32) (t9 : Addr) {r : Int32} (X0 : Stand p l e ({ frames := 3, cells := 0, slots := 0, locals := 40 } : Room) s m args below meth c T0 locs 0 0) (hx : p.tables.exec = Jvm.exec) (hZ : Z.Warmed39 s.vm) (hw : ∀ d ∈ tables_1, d.before a0 Z = true) (hby : c.code = jdk_42_method_56_code) (hml : c.maxLocals = 2) (hown : s.vm.findClass "java/lang/String" = some m.cls) (hret : meth.sig.returnType = some .char) (hlk : meth.locks = false) (e0 : T0.heap = h0) (N0 : Fr n0 locs) (S_COMPACT_STRINGS : Sta Z h0 "java/lang/String" "COMPACT_STRINGS" "Z" (.int w)) (E_0 : Exa Z h0 a0' "java/lang/String") (F_coder : Fld Z h0 a0' "java/lang/String" "coder" "B" (.int (0 : Int32))) (F_t9 : Fld Z h0 a0' "java/lang/String" "value" "[B" (.ref t9)) (A9 : own_A Z h0 t9 .byte vs0) (Sfm : Sta Z h0 "jdk/internal/util/Preconditions" "SIOOBE_FORMATTER" "Ljava/util/function/BiFunction;" fm) (rf : fm.isRef = true) (hl0 : vs0.length = 16) (hj0 : ¬ p1 < (0 : Int32)) (hq1 : p1 < (16 : Int32)) (hv0 : vs0[p1.toNatClampNeg]? = some (.int y0)) (hz0 : ¬ w = (0 : Int32)) (hr : r = f1_0 p1 y0 w) :
    own_Ends p e below s 0 0 (own_P (.int r) h0 n0) T0 (mkF m 0 #[.val (.ref a0'), .val (.int p1)] []) := by
  unfold f1_0 at hr
  refine own_step (T' := T0) (f' := (mkF m 1 #[.val (.ref a0'), .val (.int p1)] [(.ref a0')])) (fun t kt => ?_) ?_
  · show Steps p.tables e below (T0.setTop (mkF m 0 #[.val (.ref a0'), .val (.int p1)] [])) _
    refine XS.aloadN X0.here hx rfl (hb hby d1_0) rfl rfl ?_
    exact kt
  obtain ⟨cq1, kq1, qa1, qb1, qc1⟩ := isOf hZ e0 E_0
  obtain ⟨_, _, ⟨T1, L1, k1, n1⟩, -, X1, ⟨Lc1, hQ1, l1, y1, z1⟩, st1⟩ := X0.virtualBack hx (y := (⟨"java/lang/String", "isLatin1", "()Z"⟩ : MethodName)) (z := (⟨"java/lang/String", "isLatin1", "()Z"⟩ : MethodName)) hown (mvT hZ (hw _ (List.mem_of_getElem? (i := 14) rfl))) (mvT hZ (hw _ (List.mem_of_getElem? (i := 15) rfl))) (notFace_of_selects (args := #[]) (mvT hZ (hw _ (List.mem_of_getElem? (i := 17) rfl)))) (mvT hZ (hw _ (List.mem_of_getElem? (i := 17) rfl))) (mvT hZ (hw _ (List.mem_of_getElem? (i := 16) rfl))) (by decide) (backOf (W := 0) (rm2 l Z a0 hw [] a0' w h0 n0 S_COMPACT_STRINGS F_coder hz0) hZ (hw _ (List.mem_of_getElem? (i := 18) rfl)) (hw _ (List.mem_of_getElem? (i := 1) rfl)) (by decide) (by decide)) qa1 qc1 (g := (mkF m 1 #[.val (.ref a0'), .val (.int p1)] [(.ref a0')])) rfl (by rw [hml]; rfl) (Steps.refl _) (argsL := []) (rest := []) (lenOf pd2 rfl) rfl (by show 2 * 0 + _ ≤ _; exact Nat.le_of_eq rfl) (hb hby d1_1) (fun _ _ => ⟨rfl, e0, (by decide : 0 + 0 ≤ _), (by decide : 0 + 0 ≤ _)⟩)
  dsimp only [Pt.U, Pt.locs, Pt.cells, Pt.slots] at X1 l1 y1 z1 st1 hQ1
  subst l1 y1 z1
  obtain ⟨rfl, Nq1, e1⟩ := hQ1
  have N1 := Fr.app N0 Nq1
  refine own_step (T' := T1) (f' := (mkF m 4 #[.val (.ref a0'), .val (.int p1)] [(.int (1 : Int32))])) (fun t k => st1.trans k) ?_
  refine own_step (T' := T1) (f' := (mkF m 7 #[.val (.ref a0'), .val (.int p1)] [])) (fun t kt => ?_) ?_
  · show Steps p.tables e below (T1.setTop (mkF m 4 #[.val (.ref a0'), .val (.int p1)] [(.int (1 : Int32))])) _
    refine XS.ifNo X1.here hx rfl (hb hby d1_4) rfl ((if0 _ _).trans (feq (by decide : ¬ ((1 : Int32) = (0 : Int32)))).1) kt
  refine own_step (T' := T1) (f' := (mkF m 8 #[.val (.ref a0'), .val (.int p1)] [(.ref a0')])) (fun t kt => ?_) ?_
  · show Steps p.tables e below (T1.setTop (mkF m 7 #[.val (.ref a0'), .val (.int p1)] [])) _
    refine XS.aloadN X1.here hx rfl (hb hby d1_7) rfl rfl ?_
    exact kt
  obtain ⟨T3, X3, e3, st3⟩ := getF X1 hx hZ hown (host := "") (Or.inl (hw _ (List.mem_of_getElem? (i := 21) rfl))) Via.refl e1 F_t9 (g := (mkF m 8 #[.val (.ref a0'), .val (.int p1)] [(.ref a0')])) rfl rfl (hb hby d1_8)
  refine own_step (T' := T3) (f' := (mkF m 11 #[.val (.ref a0'), .val (.int p1)] [(.ref t9)])) st3 ?_
  refine own_step (T' := T3) (f' := (mkF m 12 #[.val (.ref a0'), .val (.int p1)] [(.int p1), (.ref t9)])) (fun t kt => ?_) ?_
  · show Steps p.tables e below (T3.setTop (mkF m 11 #[.val (.ref a0'), .val (.int p1)] [(.ref t9)])) _
    refine XS.iloadN X3.here hx rfl (hb hby d1_11) rfl ?_
    exact kt
  obtain ⟨_, _, ⟨T4, L4, k4, n4⟩, -, X4, ⟨Lc4, hQ4, l4, y4, z4⟩, st4⟩ := Jvm.LawKit.callS X3 hx (y := (⟨"java/lang/StringLatin1", "charAt", "([BI)C"⟩ : MethodName)) hown (mvT hZ (hw _ (List.mem_of_getElem? (i := 22) rfl))) (mvT hZ (hw _ (List.mem_of_getElem? (i := 23) rfl))) (mvT hZ (hw _ (List.mem_of_getElem? (i := 24) rfl))) (mvT hZ (hw _ (List.mem_of_getElem? (i := 25) rfl))) (by decide) (backOf (W := 0) (rm3 l Z a0 hw [] t9 p1 y0 vs0 fm h0 n0 A9 Sfm rf hl0 hj0 hq1 hv0) hZ (hw _ (List.mem_of_getElem? (i := 25) rfl)) (hw _ (List.mem_of_getElem? (i := 24) rfl)) (by decide) (by decide)) (g := (mkF m 12 #[.val (.ref a0'), .val (.int p1)] [(.int p1), (.ref t9)])) rfl (by rw [hml]; rfl) (argsL := [(.ref t9), (.int p1)]) (rest := []) (lenOf pd3 rfl) rfl (by show 2 * 0 + _ ≤ _; exact Nat.le_of_eq rfl) (hb hby d1_12) (fun _ _ => ⟨rfl, e3, (by decide : 0 + 0 ≤ _), (by decide : 0 + 0 ≤ _)⟩)
  dsimp only [Pt.U, Pt.locs, Pt.cells, Pt.slots] at X4 l4 y4 z4 st4 hQ4
  subst l4 y4 z4
  obtain ⟨rfl, Nq4, e4⟩ := hQ4
  have N4 := Fr.app N1 Nq4
  refine own_step (T' := T4) (f' := (mkF m 15 #[.val (.ref a0'), .val (.int p1)] [(.int (f3N_0 p1 y0))])) st4 ?_
  exact own_retZ X4 hx hret (by simp) hlk (hb hby d1_15) (Nat.le_refl _) (Nat.le_refl _) ⟨congrArg (fun z => some (Value.int z)) hr.symm, N4, e4⟩
set_option maxRecDepth 65536 in
set_option maxHeartbeats 4000000 in
theorem rm1 (l : Launch) (Z : State) (a0 : Array Value) (hw : ∀ d ∈ tables_1, d.before a0 Z = true) (ws : List Jvm.Cond) (a0' : Addr) (p1 : Int32) (y0 : Int32) (vs0 : List Value) (fm : Value) (w : Int32) (t9 : Addr) (h0 : Heap) (n0 : Nat) (S_COMPACT_STRINGS : Sta Z h0 "java/lang/String" "COMPACT_STRINGS" "Z" (.int w)) (E_0 : Exa Z h0 a0' "java/lang/String") (F_coder : Fld Z h0 a0' "java/lang/String" "coder" "B" (.int (0 : Int32))) (F_t9 : Fld Z h0 a0' "java/lang/String" "value" "[B" (.ref t9)) (A9 : own_A Z h0 t9 .byte vs0) (Sfm : Sta Z h0 "jdk/internal/util/Preconditions" "SIOOBE_FORMATTER" "Ljava/util/function/BiFunction;" fm) (rf : fm.isRef = true) (hl0 : vs0.length = 16) (hj0 : ¬ p1 < (0 : Int32)) (hq1 : p1 < (16 : Int32)) (hv0 : vs0[p1.toNatClampNeg]? = some (.int y0)) (hz0 : ¬ w = (0 : Int32)) :
    MetFree l (⟨"java/lang/String", "charAt", "(I)C"⟩ : MethodName) (head1 (Jvm.Cond.code (⟨"java/lang/String", "charAt", "(I)C"⟩ : MethodName) jdk_42_method_56_code 2 (some .char) :: ws) ({ frames := 3, cells := 0, slots := 0, locals := 40 } : Room)) (fun a U => a = #[(.ref a0'), (.int p1)] ∧ Z.Warmed39 U.vm ∧ U.heap = h0) (fun _ _ _ _ _ => True) (fun _ U o U' => ∃ v L, o = .returned v ∧ (own_P (.int (f1_0 p1 y0 w)) h0 n0) v U'.heap L ∧ FrameEnd U o U' L ({ frames := 3, cells := 0, slots := 0, locals := 40 } : Room).cells ({ frames := 3, cells := 0, slots := 0, locals := 40 } : Room).slots) := by
  refine MetFree.of_bodySF (plainFor_of_name pn1) hisR ?_
  intro p e s m args below meth c s₁ Bd hml0 hP hK
  obtain ⟨rfl, hZ, hh⟩ := hP
  have hown : s.vm.findClass "java/lang/String" = some m.cls := findClass_of_methodNamed Bd.named
  have X0 : Stand p l e ({ frames := 3, cells := 0, slots := 0, locals := 40 } : Room) s m #[(.ref a0'), (.int p1)] below meth c s₁ [] 0 0 := Stand.of_body Bd
  have e0 : s₁.heap = h0 := by rw [← hh, Bd.state]; rfl
  show own_Ends p e below s 0 0 (own_P (.int (f1_0 p1 y0 w)) h0 n0) s₁ (entryFrame m #[(.ref a0'), (.int p1)] 2)
  refine own_step (fun t k => castTop (ef1 m a0' p1) k) ?_
  exact b1_0 a0' p1 y0 vs0 fm w t9 X0 Bd.exec hZ hw Bd.bytes hml0 hown Bd.returns (BodyLoose.notSynchronized Bd) e0 (Fr.nil n0) S_COMPACT_STRINGS E_0 F_coder F_t9 A9 Sfm rf hl0 hj0 hq1 hv0 hz0 rfl
def f1s_0 (j y : Int32) : Int32 := nar .char (f3N_0 j y)
theorem rm1s (l : Launch) (Z : State) (a0 : Array Value) (hw : ∀ d ∈ tables_1, d.before a0 Z = true) (ws : List Jvm.Cond) (a0' : Addr) (p1 : Int32) (y0 : Int32) (vs0 : List Value) (h0 : Heap) (n0 : Nat) (hS : own_S Z h0 a0' vs0) (hG : own_G Z h0) (hl0 : vs0.length = 16) (hj0 : ¬ p1 < (0 : Int32)) (hq1 : p1 < (16 : Int32)) (hv0 : vs0[p1.toNatClampNeg]? = some (.int y0)) :
    MetFree l (⟨"java/lang/String", "charAt", "(I)C"⟩ : MethodName) (head1 (Jvm.Cond.code (⟨"java/lang/String", "charAt", "(I)C"⟩ : MethodName) jdk_42_method_56_code 2 (some .char) :: ws) ({ frames := 3, cells := 0, slots := 0, locals := 40 } : Room)) (fun a U => a = #[(.ref a0'), (.int p1)] ∧ Z.Warmed39 U.vm ∧ U.heap = h0) (fun _ _ _ _ _ => True) (fun _ U o U' => ∃ v L, o = .returned v ∧ (own_P (.int (f1s_0 p1 y0)) h0 n0) v U'.heap L ∧ FrameEnd U o U' L ({ frames := 3, cells := 0, slots := 0, locals := 40 } : Room).cells ({ frames := 3, cells := 0, slots := 0, locals := 40 } : Room).slots) := by
  obtain ⟨E, C, t, V, A⟩ := hS
  obtain ⟨w, fm, S1, hz, S2, rf⟩ := hG
  exact rm1 l Z a0 hw ws a0' p1 y0 vs0 fm w t h0 n0 S1 E C V A S2 rf hl0 hj0 hq1 hv0 hz

theorem d6_0 : decode prog_46_method_4_code 0 = .ok (.iconst (-1), 1) := by decide +kernel
theorem d6_1 : decode prog_46_method_4_code 1 = .ok (.istore_n 1, 1) := by decide +kernel
theorem d6_2 : decode prog_46_method_4_code 2 = .ok (.iload_n 0, 1) := by decide +kernel
theorem d6_3 : decode prog_46_method_4_code 3 = .ok (.bipush 48, 2) := by decide +kernel
theorem d6_5 : decode prog_46_method_4_code 5 = .ok (.if_icmp .lt 17, 3) := by decide +kernel
theorem d6_8 : decode prog_46_method_4_code 8 = .ok (.iload_n 0, 1) := by decide +kernel
theorem d6_9 : decode prog_46_method_4_code 9 = .ok (.bipush 57, 2) := by decide +kernel
theorem d6_11 : decode prog_46_method_4_code 11 = .ok (.if_icmp .gt 11, 3) := by decide +kernel
theorem d6_14 : decode prog_46_method_4_code 14 = .ok (.iload_n 0, 1) := by decide +kernel
theorem d6_15 : decode prog_46_method_4_code 15 = .ok (.bipush 48, 2) := by decide +kernel
theorem d6_17 : decode prog_46_method_4_code 17 = .ok (.isub, 1) := by decide +kernel
theorem d6_18 : decode prog_46_method_4_code 18 = .ok (.istore_n 1, 1) := by decide +kernel
theorem d6_19 : decode prog_46_method_4_code 19 = .ok (.goto 46, 3) := by decide +kernel
theorem d6_22 : decode prog_46_method_4_code 22 = .ok (.iload_n 0, 1) := by decide +kernel
theorem d6_23 : decode prog_46_method_4_code 23 = .ok (.bipush 97, 2) := by decide +kernel
theorem d6_25 : decode prog_46_method_4_code 25 = .ok (.if_icmp .lt 20, 3) := by decide +kernel
theorem d6_28 : decode prog_46_method_4_code 28 = .ok (.iload_n 0, 1) := by decide +kernel
theorem d6_29 : decode prog_46_method_4_code 29 = .ok (.bipush 102, 2) := by decide +kernel
theorem d6_31 : decode prog_46_method_4_code 31 = .ok (.if_icmp .gt 14, 3) := by decide +kernel
theorem d6_34 : decode prog_46_method_4_code 34 = .ok (.iload_n 0, 1) := by decide +kernel
theorem d6_35 : decode prog_46_method_4_code 35 = .ok (.bipush 97, 2) := by decide +kernel
theorem d6_37 : decode prog_46_method_4_code 37 = .ok (.isub, 1) := by decide +kernel
theorem d6_38 : decode prog_46_method_4_code 38 = .ok (.bipush 10, 2) := by decide +kernel
theorem d6_40 : decode prog_46_method_4_code 40 = .ok (.iadd, 1) := by decide +kernel
theorem d6_41 : decode prog_46_method_4_code 41 = .ok (.istore_n 1, 1) := by decide +kernel
theorem d6_42 : decode prog_46_method_4_code 42 = .ok (.goto 23, 3) := by decide +kernel
theorem d6_45 : decode prog_46_method_4_code 45 = .ok (.iload_n 0, 1) := by decide +kernel
theorem d6_46 : decode prog_46_method_4_code 46 = .ok (.bipush 65, 2) := by decide +kernel
theorem d6_48 : decode prog_46_method_4_code 48 = .ok (.if_icmp .lt 17, 3) := by decide +kernel
theorem d6_51 : decode prog_46_method_4_code 51 = .ok (.iload_n 0, 1) := by decide +kernel
theorem d6_52 : decode prog_46_method_4_code 52 = .ok (.bipush 70, 2) := by decide +kernel
theorem d6_54 : decode prog_46_method_4_code 54 = .ok (.if_icmp .gt 11, 3) := by decide +kernel
theorem d6_57 : decode prog_46_method_4_code 57 = .ok (.iload_n 0, 1) := by decide +kernel
theorem d6_58 : decode prog_46_method_4_code 58 = .ok (.bipush 65, 2) := by decide +kernel
theorem d6_60 : decode prog_46_method_4_code 60 = .ok (.isub, 1) := by decide +kernel
theorem d6_61 : decode prog_46_method_4_code 61 = .ok (.bipush 10, 2) := by decide +kernel
theorem d6_63 : decode prog_46_method_4_code 63 = .ok (.iadd, 1) := by decide +kernel
theorem d6_64 : decode prog_46_method_4_code 64 = .ok (.istore_n 1, 1) := by decide +kernel
theorem d6_65 : decode prog_46_method_4_code 65 = .ok (.iload_n 1, 1) := by decide +kernel
theorem d6_66 : decode prog_46_method_4_code 66 = .ok (.ireturn, 1) := by decide +kernel
theorem pn6 : plainName "com/example/prudent_validator/prudentvalidator/datatypes/Binary" = true := by first | (simp [plainName, overriddenIn]; done) | decide +kernel
theorem pd6 : parseMethodDescriptor "(C)I" = some ⟨[.char], some .int⟩ := by decide +kernel
theorem ef6 (m : MethodId) (p0 : Int32) : entryFrame m #[(.int p0)] 2 = mkF m 0 #[.val (.int p0), .unset] [] := by first | (simp [entryFrame, mkF, argsToLocals, Value.category]; done) | rfl
def f6_65 (i1 : Int32) : Int32 :=
  i1
set_option maxRecDepth 65536 in
set_option maxHeartbeats 4000000 in
theorem b6_65 {p : Program} {l : Launch} {e : Env} {s : State} {m : MethodId} {args : Array Value} {below : List Frame} {meth : Method} {c : Code} {T0 : State} {locs : List Loc} {Z : State} {a0 : Array Value} {h0 : Heap} {n0 : Nat} (i0 : Int32) (i1 : Int32) {r : Int32} (X0 : Stand p l e ({ frames := 0, cells := 0, slots := 0, locals := 0 } : Room) s m args below meth c T0 locs 0 0) (hx : p.tables.exec = Jvm.exec) (hZ : Z.Warmed39 s.vm) (hw : ∀ d ∈ tables_1, d.before a0 Z = true) (hby : c.code = prog_46_method_4_code) (hml : c.maxLocals = 2) (hown : s.vm.findClass "com/example/prudent_validator/prudentvalidator/datatypes/Binary" = some m.cls) (hret : meth.sig.returnType = some .int) (hlk : meth.locks = false) (e0 : T0.heap = h0) (N0 : Fr n0 locs) (hr : r = f6_65 i1) :
    own_Ends p e below s 0 0 (own_P (.int r) h0 n0) T0 (mkF m 65 #[.val (.int i0), .val (.int i1)] []) := by
  unfold f6_65 at hr
  refine own_step (T' := T0) (f' := (mkF m 66 #[.val (.int i0), .val (.int i1)] [(.int i1)])) (fun t kt => ?_) ?_
  · show Steps p.tables e below (T0.setTop (mkF m 65 #[.val (.int i0), .val (.int i1)] [])) _
    refine XS.iloadN X0.here hx rfl (hb hby d6_65) rfl ?_
    exact kt
  exact own_retI X0 hx hret hlk (hb hby d6_66) (Nat.le_refl _) (Nat.le_refl _) ⟨congrArg (fun z => some (Value.int z)) hr.symm, N0, e0⟩
def f6_45 (i0 : Int32) (i1 : Int32) : Int32 :=
  if i0 < (65 : Int32) then (f6_65 i1) else (if (70 : Int32) < i0 then (f6_65 i1) else (f6_65 ((i0 - (65 : Int32)) + (10 : Int32))))
set_option maxRecDepth 65536 in
set_option maxHeartbeats 4000000 in
theorem b6_45 {p : Program} {l : Launch} {e : Env} {s : State} {m : MethodId} {args : Array Value} {below : List Frame} {meth : Method} {c : Code} {T0 : State} {locs : List Loc} {Z : State} {a0 : Array Value} {h0 : Heap} {n0 : Nat} (i0 : Int32) (i1 : Int32) {r : Int32} (X0 : Stand p l e ({ frames := 0, cells := 0, slots := 0, locals := 0 } : Room) s m args below meth c T0 locs 0 0) (hx : p.tables.exec = Jvm.exec) (hZ : Z.Warmed39 s.vm) (hw : ∀ d ∈ tables_1, d.before a0 Z = true) (hby : c.code = prog_46_method_4_code) (hml : c.maxLocals = 2) (hown : s.vm.findClass "com/example/prudent_validator/prudentvalidator/datatypes/Binary" = some m.cls) (hret : meth.sig.returnType = some .int) (hlk : meth.locks = false) (e0 : T0.heap = h0) (N0 : Fr n0 locs) (hr : r = f6_45 i0 i1) :
    own_Ends p e below s 0 0 (own_P (.int r) h0 n0) T0 (mkF m 45 #[.val (.int i0), .val (.int i1)] []) := by
  unfold f6_45 at hr
  refine own_step (T' := T0) (f' := (mkF m 48 #[.val (.int i0), .val (.int i1)] [(.int (65 : Int32)), (.int i0)])) (fun t kt => ?_) ?_
  · show Steps p.tables e below (T0.setTop (mkF m 45 #[.val (.int i0), .val (.int i1)] [])) _
    refine XS.iloadN X0.here hx rfl (hb hby d6_45) rfl ?_
    show Steps p.tables e below (T0.setTop (mkF m 46 #[.val (.int i0), .val (.int i1)] [(.int i0)])) _
    refine XS.bipush X0.here hx rfl (hb hby d6_46) ?_
    exact kt
  by_cases hc48_3 : i0 < (65 : Int32)
  · replace hr := hr.trans (if_pos hc48_3)
    refine own_step (T' := T0) (f' := (mkF m 65 #[.val (.int i0), .val (.int i1)] [])) (fun t kt => ?_) ?_
    · show Steps p.tables e below (T0.setTop (mkF m 48 #[.val (.int i0), .val (.int i1)] [(.int (65 : Int32)), (.int i0)])) _
      refine XS.icmpYes X0.here hx rfl (pc0 := 48) (pc' := 65) rfl (hb hby d6_48) rfl (tlt hc48_3).1 (by decide) (by decide) kt
    exact b6_65 i0 i1 X0 hx hZ hw hby hml hown hret hlk e0 N0 hr
  · replace hr := hr.trans (if_neg hc48_3)
    refine own_step (T' := T0) (f' := (mkF m 51 #[.val (.int i0), .val (.int i1)] [])) (fun t kt => ?_) ?_
    · show Steps p.tables e below (T0.setTop (mkF m 48 #[.val (.int i0), .val (.int i1)] [(.int (65 : Int32)), (.int i0)])) _
      refine XS.icmpNo X0.here hx rfl (hb hby d6_48) rfl (flt hc48_3).1 kt
    refine own_step (T' := T0) (f' := (mkF m 54 #[.val (.int i0), .val (.int i1)] [(.int (70 : Int32)), (.int i0)])) (fun t kt => ?_) ?_
    · show Steps p.tables e below (T0.setTop (mkF m 51 #[.val (.int i0), .val (.int i1)] [])) _
      refine XS.iloadN X0.here hx rfl (hb hby d6_51) rfl ?_
      show Steps p.tables e below (T0.setTop (mkF m 52 #[.val (.int i0), .val (.int i1)] [(.int i0)])) _
      refine XS.bipush X0.here hx rfl (hb hby d6_52) ?_
      exact kt
    by_cases hc54_4 : (70 : Int32) < i0
    · replace hr := hr.trans (if_pos hc54_4)
      refine own_step (T' := T0) (f' := (mkF m 65 #[.val (.int i0), .val (.int i1)] [])) (fun t kt => ?_) ?_
      · show Steps p.tables e below (T0.setTop (mkF m 54 #[.val (.int i0), .val (.int i1)] [(.int (70 : Int32)), (.int i0)])) _
        refine XS.icmpYes X0.here hx rfl (pc0 := 54) (pc' := 65) rfl (hb hby d6_54) rfl (tlt hc54_4).2.2.1 (by decide) (by decide) kt
      exact b6_65 i0 i1 X0 hx hZ hw hby hml hown hret hlk e0 N0 hr
    · replace hr := hr.trans (if_neg hc54_4)
      refine own_step (T' := T0) (f' := (mkF m 57 #[.val (.int i0), .val (.int i1)] [])) (fun t kt => ?_) ?_
      · show Steps p.tables e below (T0.setTop (mkF m 54 #[.val (.int i0), .val (.int i1)] [(.int (70 : Int32)), (.int i0)])) _
        refine XS.icmpNo X0.here hx rfl (hb hby d6_54) rfl (flt hc54_4).2.2.1 kt
      refine own_step (T' := T0) (f' := (mkF m 65 #[.val (.int i0), .val (.int ((i0 - (65 : Int32)) + (10 : Int32)))] [])) (fun t kt => ?_) ?_
      · show Steps p.tables e below (T0.setTop (mkF m 57 #[.val (.int i0), .val (.int i1)] [])) _
        refine XS.iloadN X0.here hx rfl (hb hby d6_57) rfl ?_
        show Steps p.tables e below (T0.setTop (mkF m 58 #[.val (.int i0), .val (.int i1)] [(.int i0)])) _
        refine XS.bipush X0.here hx rfl (hb hby d6_58) ?_
        show Steps p.tables e below (T0.setTop (mkF m 60 #[.val (.int i0), .val (.int i1)] [(.int (65 : Int32)), (.int i0)])) _
        refine XS.isub X0.here hx rfl (hb hby d6_60) rfl ?_
        show Steps p.tables e below (T0.setTop (mkF m 61 #[.val (.int i0), .val (.int i1)] [(.int (i0 - (65 : Int32)))])) _
        refine XS.bipush X0.here hx rfl (hb hby d6_61) ?_
        show Steps p.tables e below (T0.setTop (mkF m 63 #[.val (.int i0), .val (.int i1)] [(.int (10 : Int32)), (.int (i0 - (65 : Int32)))])) _
        refine XS.iadd X0.here hx rfl (hb hby d6_63) rfl ?_
        show Steps p.tables e below (T0.setTop (mkF m 64 #[.val (.int i0), .val (.int i1)] [(.int ((i0 - (65 : Int32)) + (10 : Int32)))])) _
        refine XS.istoreN X0.here hx rfl (hb hby d6_64) rfl (l' := #[.val (.int i0), .val (.int ((i0 - (65 : Int32)) + (10 : Int32)))]) rfl ?_
        exact kt
      exact b6_65 i0 ((i0 - (65 : Int32)) + (10 : Int32)) X0 hx hZ hw hby hml hown hret hlk e0 N0 hr
def f6_22 (i0 : Int32) (i1 : Int32) : Int32 :=
  if i0 < (97 : Int32) then (f6_45 i0 i1) else (if (102 : Int32) < i0 then (f6_45 i0 i1) else (f6_65 ((i0 - (97 : Int32)) + (10 : Int32))))
set_option maxRecDepth 65536 in
set_option maxHeartbeats 4000000 in
theorem b6_22 {p : Program} {l : Launch} {e : Env} {s : State} {m : MethodId} {args : Array Value} {below : List Frame} {meth : Method} {c : Code} {T0 : State} {locs : List Loc} {Z : State} {a0 : Array Value} {h0 : Heap} {n0 : Nat} (i0 : Int32) (i1 : Int32) {r : Int32} (X0 : Stand p l e ({ frames := 0, cells := 0, slots := 0, locals := 0 } : Room) s m args below meth c T0 locs 0 0) (hx : p.tables.exec = Jvm.exec) (hZ : Z.Warmed39 s.vm) (hw : ∀ d ∈ tables_1, d.before a0 Z = true) (hby : c.code = prog_46_method_4_code) (hml : c.maxLocals = 2) (hown : s.vm.findClass "com/example/prudent_validator/prudentvalidator/datatypes/Binary" = some m.cls) (hret : meth.sig.returnType = some .int) (hlk : meth.locks = false) (e0 : T0.heap = h0) (N0 : Fr n0 locs) (hr : r = f6_22 i0 i1) :
    own_Ends p e below s 0 0 (own_P (.int r) h0 n0) T0 (mkF m 22 #[.val (.int i0), .val (.int i1)] []) := by
  unfold f6_22 at hr
  refine own_step (T' := T0) (f' := (mkF m 25 #[.val (.int i0), .val (.int i1)] [(.int (97 : Int32)), (.int i0)])) (fun t kt => ?_) ?_
  · show Steps p.tables e below (T0.setTop (mkF m 22 #[.val (.int i0), .val (.int i1)] [])) _
    refine XS.iloadN X0.here hx rfl (hb hby d6_22) rfl ?_
    show Steps p.tables e below (T0.setTop (mkF m 23 #[.val (.int i0), .val (.int i1)] [(.int i0)])) _
    refine XS.bipush X0.here hx rfl (hb hby d6_23) ?_
    exact kt
  by_cases hc25_2 : i0 < (97 : Int32)
  · replace hr := hr.trans (if_pos hc25_2)
    refine own_step (T' := T0) (f' := (mkF m 45 #[.val (.int i0), .val (.int i1)] [])) (fun t kt => ?_) ?_
    · show Steps p.tables e below (T0.setTop (mkF m 25 #[.val (.int i0), .val (.int i1)] [(.int (97 : Int32)), (.int i0)])) _
      refine XS.icmpYes X0.here hx rfl (pc0 := 25) (pc' := 45) rfl (hb hby d6_25) rfl (tlt hc25_2).1 (by decide) (by decide) kt
    exact b6_45 i0 i1 X0 hx hZ hw hby hml hown hret hlk e0 N0 hr
  · replace hr := hr.trans (if_neg hc25_2)
    refine own_step (T' := T0) (f' := (mkF m 28 #[.val (.int i0), .val (.int i1)] [])) (fun t kt => ?_) ?_
    · show Steps p.tables e below (T0.setTop (mkF m 25 #[.val (.int i0), .val (.int i1)] [(.int (97 : Int32)), (.int i0)])) _
      refine XS.icmpNo X0.here hx rfl (hb hby d6_25) rfl (flt hc25_2).1 kt
    refine own_step (T' := T0) (f' := (mkF m 31 #[.val (.int i0), .val (.int i1)] [(.int (102 : Int32)), (.int i0)])) (fun t kt => ?_) ?_
    · show Steps p.tables e below (T0.setTop (mkF m 28 #[.val (.int i0), .val (.int i1)] [])) _
      refine XS.iloadN X0.here hx rfl (hb hby d6_28) rfl ?_
      show Steps p.tables e below (T0.setTop (mkF m 29 #[.val (.int i0), .val (.int i1)] [(.int i0)])) _
      refine XS.bipush X0.here hx rfl (hb hby d6_29) ?_
      exact kt
    by_cases hc31_5 : (102 : Int32) < i0
    · replace hr := hr.trans (if_pos hc31_5)
      refine own_step (T' := T0) (f' := (mkF m 45 #[.val (.int i0), .val (.int i1)] [])) (fun t kt => ?_) ?_
      · show Steps p.tables e below (T0.setTop (mkF m 31 #[.val (.int i0), .val (.int i1)] [(.int (102 : Int32)), (.int i0)])) _
        refine XS.icmpYes X0.here hx rfl (pc0 := 31) (pc' := 45) rfl (hb hby d6_31) rfl (tlt hc31_5).2.2.1 (by decide) (by decide) kt
      exact b6_45 i0 i1 X0 hx hZ hw hby hml hown hret hlk e0 N0 hr
    · replace hr := hr.trans (if_neg hc31_5)
      refine own_step (T' := T0) (f' := (mkF m 34 #[.val (.int i0), .val (.int i1)] [])) (fun t kt => ?_) ?_
      · show Steps p.tables e below (T0.setTop (mkF m 31 #[.val (.int i0), .val (.int i1)] [(.int (102 : Int32)), (.int i0)])) _
        refine XS.icmpNo X0.here hx rfl (hb hby d6_31) rfl (flt hc31_5).2.2.1 kt
      refine own_step (T' := T0) (f' := (mkF m 65 #[.val (.int i0), .val (.int ((i0 - (97 : Int32)) + (10 : Int32)))] [])) (fun t kt => ?_) ?_
      · show Steps p.tables e below (T0.setTop (mkF m 34 #[.val (.int i0), .val (.int i1)] [])) _
        refine XS.iloadN X0.here hx rfl (hb hby d6_34) rfl ?_
        show Steps p.tables e below (T0.setTop (mkF m 35 #[.val (.int i0), .val (.int i1)] [(.int i0)])) _
        refine XS.bipush X0.here hx rfl (hb hby d6_35) ?_
        show Steps p.tables e below (T0.setTop (mkF m 37 #[.val (.int i0), .val (.int i1)] [(.int (97 : Int32)), (.int i0)])) _
        refine XS.isub X0.here hx rfl (hb hby d6_37) rfl ?_
        show Steps p.tables e below (T0.setTop (mkF m 38 #[.val (.int i0), .val (.int i1)] [(.int (i0 - (97 : Int32)))])) _
        refine XS.bipush X0.here hx rfl (hb hby d6_38) ?_
        show Steps p.tables e below (T0.setTop (mkF m 40 #[.val (.int i0), .val (.int i1)] [(.int (10 : Int32)), (.int (i0 - (97 : Int32)))])) _
        refine XS.iadd X0.here hx rfl (hb hby d6_40) rfl ?_
        show Steps p.tables e below (T0.setTop (mkF m 41 #[.val (.int i0), .val (.int i1)] [(.int ((i0 - (97 : Int32)) + (10 : Int32)))])) _
        refine XS.istoreN X0.here hx rfl (hb hby d6_41) rfl (l' := #[.val (.int i0), .val (.int ((i0 - (97 : Int32)) + (10 : Int32)))]) rfl ?_
        show Steps p.tables e below (T0.setTop (mkF m 42 #[.val (.int i0), .val (.int ((i0 - (97 : Int32)) + (10 : Int32)))] [])) _
        refine XS.goto X0.here hx rfl (pc0 := 42) (pc' := 65) rfl (hb hby d6_42) (by decide) (by decide) ?_
        exact kt
      exact b6_65 i0 ((i0 - (97 : Int32)) + (10 : Int32)) X0 hx hZ hw hby hml hown hret hlk e0 N0 hr
def f6_0 (p0 : Int32) : Int32 :=
  if p0 < (48 : Int32) then (f6_22 p0 (-1 : Int32)) else (if (57 : Int32) < p0 then (f6_22 p0 (-1 : Int32)) else (f6_65 (p0 - (48 : Int32))))
set_option maxRecDepth 65536 in
set_option maxHeartbeats 4000000 in
theorem b6_0 {p : Program} {l : Launch} {e : Env} {s : State} {m : MethodId} {args : Array Value} {below : List Frame} {meth : Method} {c : Code} {T0 : State} {locs : List Loc} {Z : State} {a0 : Array Value} {h0 : Heap} {n0 : Nat} (p0 : Int32) {r : Int32} (X0 : Stand p l e ({ frames := 0, cells := 0, slots := 0, locals := 0 } : Room) s m args below meth c T0 locs 0 0) (hx : p.tables.exec = Jvm.exec) (hZ : Z.Warmed39 s.vm) (hw : ∀ d ∈ tables_1, d.before a0 Z = true) (hby : c.code = prog_46_method_4_code) (hml : c.maxLocals = 2) (hown : s.vm.findClass "com/example/prudent_validator/prudentvalidator/datatypes/Binary" = some m.cls) (hret : meth.sig.returnType = some .int) (hlk : meth.locks = false) (e0 : T0.heap = h0) (N0 : Fr n0 locs) (hr : r = f6_0 p0) :
    own_Ends p e below s 0 0 (own_P (.int r) h0 n0) T0 (mkF m 0 #[.val (.int p0), .unset] []) := by
  unfold f6_0 at hr
  refine own_step (T' := T0) (f' := (mkF m 5 #[.val (.int p0), .val (.int (-1 : Int32))] [(.int (48 : Int32)), (.int p0)])) (fun t kt => ?_) ?_
  · show Steps p.tables e below (T0.setTop (mkF m 0 #[.val (.int p0), .unset] [])) _
    refine XS.iconst X0.here hx rfl (hb hby d6_0) ?_
    show Steps p.tables e below (T0.setTop (mkF m 1 #[.val (.int p0), .unset] [(.int (-1 : Int32))])) _
    refine XS.istoreN X0.here hx rfl (hb hby d6_1) rfl (l' := #[.val (.int p0), .val (.int (-1 : Int32))]) rfl ?_
    show Steps p.tables e below (T0.setTop (mkF m 2 #[.val (.int p0), .val (.int (-1 : Int32))] [])) _
    refine XS.iloadN X0.here hx rfl (hb hby d6_2) rfl ?_
    show Steps p.tables e below (T0.setTop (mkF m 3 #[.val (.int p0), .val (.int (-1 : Int32))] [(.int p0)])) _
    refine XS.bipush X0.here hx rfl (hb hby d6_3) ?_
    exact kt
  by_cases hc5_1 : p0 < (48 : Int32)
  · replace hr := hr.trans (if_pos hc5_1)
    refine own_step (T' := T0) (f' := (mkF m 22 #[.val (.int p0), .val (.int (-1 : Int32))] [])) (fun t kt => ?_) ?_
    · show Steps p.tables e below (T0.setTop (mkF m 5 #[.val (.int p0), .val (.int (-1 : Int32))] [(.int (48 : Int32)), (.int p0)])) _
      refine XS.icmpYes X0.here hx rfl (pc0 := 5) (pc' := 22) rfl (hb hby d6_5) rfl (tlt hc5_1).1 (by decide) (by decide) kt
    exact b6_22 p0 (-1 : Int32) X0 hx hZ hw hby hml hown hret hlk e0 N0 hr
  · replace hr := hr.trans (if_neg hc5_1)
    refine own_step (T' := T0) (f' := (mkF m 8 #[.val (.int p0), .val (.int (-1 : Int32))] [])) (fun t kt => ?_) ?_
    · show Steps p.tables e below (T0.setTop (mkF m 5 #[.val (.int p0), .val (.int (-1 : Int32))] [(.int (48 : Int32)), (.int p0)])) _
      refine XS.icmpNo X0.here hx rfl (hb hby d6_5) rfl (flt hc5_1).1 kt
    refine own_step (T' := T0) (f' := (mkF m 11 #[.val (.int p0), .val (.int (-1 : Int32))] [(.int (57 : Int32)), (.int p0)])) (fun t kt => ?_) ?_
    · show Steps p.tables e below (T0.setTop (mkF m 8 #[.val (.int p0), .val (.int (-1 : Int32))] [])) _
      refine XS.iloadN X0.here hx rfl (hb hby d6_8) rfl ?_
      show Steps p.tables e below (T0.setTop (mkF m 9 #[.val (.int p0), .val (.int (-1 : Int32))] [(.int p0)])) _
      refine XS.bipush X0.here hx rfl (hb hby d6_9) ?_
      exact kt
    by_cases hc11_6 : (57 : Int32) < p0
    · replace hr := hr.trans (if_pos hc11_6)
      refine own_step (T' := T0) (f' := (mkF m 22 #[.val (.int p0), .val (.int (-1 : Int32))] [])) (fun t kt => ?_) ?_
      · show Steps p.tables e below (T0.setTop (mkF m 11 #[.val (.int p0), .val (.int (-1 : Int32))] [(.int (57 : Int32)), (.int p0)])) _
        refine XS.icmpYes X0.here hx rfl (pc0 := 11) (pc' := 22) rfl (hb hby d6_11) rfl (tlt hc11_6).2.2.1 (by decide) (by decide) kt
      exact b6_22 p0 (-1 : Int32) X0 hx hZ hw hby hml hown hret hlk e0 N0 hr
    · replace hr := hr.trans (if_neg hc11_6)
      refine own_step (T' := T0) (f' := (mkF m 14 #[.val (.int p0), .val (.int (-1 : Int32))] [])) (fun t kt => ?_) ?_
      · show Steps p.tables e below (T0.setTop (mkF m 11 #[.val (.int p0), .val (.int (-1 : Int32))] [(.int (57 : Int32)), (.int p0)])) _
        refine XS.icmpNo X0.here hx rfl (hb hby d6_11) rfl (flt hc11_6).2.2.1 kt
      refine own_step (T' := T0) (f' := (mkF m 65 #[.val (.int p0), .val (.int (p0 - (48 : Int32)))] [])) (fun t kt => ?_) ?_
      · show Steps p.tables e below (T0.setTop (mkF m 14 #[.val (.int p0), .val (.int (-1 : Int32))] [])) _
        refine XS.iloadN X0.here hx rfl (hb hby d6_14) rfl ?_
        show Steps p.tables e below (T0.setTop (mkF m 15 #[.val (.int p0), .val (.int (-1 : Int32))] [(.int p0)])) _
        refine XS.bipush X0.here hx rfl (hb hby d6_15) ?_
        show Steps p.tables e below (T0.setTop (mkF m 17 #[.val (.int p0), .val (.int (-1 : Int32))] [(.int (48 : Int32)), (.int p0)])) _
        refine XS.isub X0.here hx rfl (hb hby d6_17) rfl ?_
        show Steps p.tables e below (T0.setTop (mkF m 18 #[.val (.int p0), .val (.int (-1 : Int32))] [(.int (p0 - (48 : Int32)))])) _
        refine XS.istoreN X0.here hx rfl (hb hby d6_18) rfl (l' := #[.val (.int p0), .val (.int (p0 - (48 : Int32)))]) rfl ?_
        show Steps p.tables e below (T0.setTop (mkF m 19 #[.val (.int p0), .val (.int (p0 - (48 : Int32)))] [])) _
        refine XS.goto X0.here hx rfl (pc0 := 19) (pc' := 65) rfl (hb hby d6_19) (by decide) (by decide) ?_
        exact kt
      exact b6_65 p0 (p0 - (48 : Int32)) X0 hx hZ hw hby hml hown hret hlk e0 N0 hr
set_option maxRecDepth 65536 in
set_option maxHeartbeats 4000000 in
theorem rm6 (l : Launch) (Z : State) (a0 : Array Value) (hw : ∀ d ∈ tables_1, d.before a0 Z = true) (ws : List Jvm.Cond) (p0 : Int32) (h0 : Heap) (n0 : Nat) :
    MetFree l (⟨"com/example/prudent_validator/prudentvalidator/datatypes/Binary", "hexDigit", "(C)I"⟩ : MethodName) (head1 (Jvm.Cond.code (⟨"com/example/prudent_validator/prudentvalidator/datatypes/Binary", "hexDigit", "(C)I"⟩ : MethodName) prog_46_method_4_code 2 (some .int) :: ws) ({ frames := 0, cells := 0, slots := 0, locals := 0 } : Room)) (fun a U => a = #[(.int p0)] ∧ Z.Warmed39 U.vm ∧ U.heap = h0) (fun _ _ _ _ _ => True) (fun _ U o U' => ∃ v L, o = .returned v ∧ (own_P (.int (f6_0 p0)) h0 n0) v U'.heap L ∧ FrameEnd U o U' L ({ frames := 0, cells := 0, slots := 0, locals := 0 } : Room).cells ({ frames := 0, cells := 0, slots := 0, locals := 0 } : Room).slots) := by
  refine MetFree.of_bodySF (plainFor_of_name pn6) hisR ?_
  intro p e s m args below meth c s₁ Bd hml0 hP hK
  obtain ⟨rfl, hZ, hh⟩ := hP
  have hown : s.vm.findClass "com/example/prudent_validator/prudentvalidator/datatypes/Binary" = some m.cls := findClass_of_methodNamed Bd.named
  have X0 : Stand p l e ({ frames := 0, cells := 0, slots := 0, locals := 0 } : Room) s m #[(.int p0)] below meth c s₁ [] 0 0 := Stand.of_body Bd
  have e0 : s₁.heap = h0 := by rw [← hh, Bd.state]; rfl
  show own_Ends p e below s 0 0 (own_P (.int (f6_0 p0)) h0 n0) s₁ (entryFrame m #[(.int p0)] 2)
  refine own_step (fun t k => castTop (ef6 m p0) k) ?_
  exact b6_0 p0 X0 Bd.exec hZ hw Bd.bytes hml0 hown Bd.returns (BodyLoose.notSynchronized Bd) e0 (Fr.nil n0) rfl
theorem pn0 : plainName "com/example/prudent_validator/prudentvalidator/datatypes/BinaryHexDigitPinLaw" = true := by first | (simp [plainName, overriddenIn]; done) | decide +kernel
theorem ef0 (m : MethodId) (p0 : Int32) (p1 : Int32) (p2 : Int32) : entryFrame m #[(.int p0), (.int p1), (.int p2)] maxLocals = mkF m 0 #[.val (.int p0), .val (.int p1), .val (.int p2), .unset, .unset, .unset, .unset, .unset, .unset, .unset, .unset] [] := by first | (simp [entryFrame, mkF, argsToLocals, Value.category, maxLocals]; done) | rfl
def f0_164  : Int32 :=
  (0 : Int32)
set_option maxRecDepth 65536 in
set_option maxHeartbeats 4000000 in
theorem b0_164 {p : Program} {l : Launch} {e : Env} {s : State} {m : MethodId} {args : Array Value} {below : List Frame} {meth : Method} {c : Code} {T0 : State} {locs : List Loc} {Z : State} {a0 : Array Value} {h0 : Heap} {n0 : Nat} (i0 : Int32) (i1 : Int32) (i2 : Int32) (o3 : Addr) (o4 : Addr) (i5 : Int32) (i6 : Int32) (i7 : Int32) (i8 : Int32) (i9 : Int32) (i10 : Int32) {r : Int32} (X0 : Stand p l e room_1 s m args below meth c T0 locs 4 136) (hx : p.tables.exec = Jvm.exec) (hZ : Z.Warmed39 s.vm) (hw : ∀ d ∈ tables_1, d.before a0 Z = true) (hby : c.code = code) (hml : c.maxLocals = 11) (hown : s.vm.findClass "com/example/prudent_validator/prudentvalidator/datatypes/BinaryHexDigitPinLaw" = some m.cls) (hret : meth.sig.returnType = some .boolean) (hlk : meth.locks = false) (e0 : T0.heap = h0) (N0 : Fr n0 locs) (hr : r = f0_164 ) :
    own_Ends p e below s 8 2112 (own_P (.int r) h0 n0) T0 (mkF m 164 #[.val (.int i0), .val (.int i1), .val (.int i2), .val (.ref o3), .val (.ref o4), .val (.int i5), .val (.int i6), .val (.int i7), .val (.int i8), .val (.int i9), .val (.int i10)] []) := by
  unfold f0_164 at hr
  refine own_step (T' := T0) (f' := (mkF m 165 #[.val (.int i0), .val (.int i1), .val (.int i2), .val (.ref o3), .val (.ref o4), .val (.int i5), .val (.int i6), .val (.int i7), .val (.int i8), .val (.int i9), .val (.int i10)] [(.int (0 : Int32))])) (fun t kt => ?_) ?_
  · show Steps p.tables e below (T0.setTop (mkF m 164 #[.val (.int i0), .val (.int i1), .val (.int i2), .val (.ref o3), .val (.ref o4), .val (.int i5), .val (.int i6), .val (.int i7), .val (.int i8), .val (.int i9), .val (.int i10)] [])) _
    refine XS.iconst X0.here hx rfl (hb hby at_164) ?_
    exact kt
  exact own_retZ X0 hx hret (by simp) hlk (hb hby at_165) (by decide) (by decide) ⟨congrArg (fun z => some (Value.int z)) hr.symm, N0, e0⟩
def f0_155 (i10 : Int32) (k0 : Int32) : Int32 :=
  if k0 = i10 then ((1 : Int32)) else (f0_164 )
set_option maxRecDepth 65536 in
set_option maxHeartbeats 4000000 in
theorem b0_155 {p : Program} {l : Launch} {e : Env} {s : State} {m : MethodId} {args : Array Value} {below : List Frame} {meth : Method} {c : Code} {T0 : State} {locs : List Loc} {Z : State} {a0 : Array Value} {h0 : Heap} {n0 : Nat} (i0 : Int32) (i1 : Int32) (i2 : Int32) (o3 : Addr) (o4 : Addr) (i5 : Int32) (i6 : Int32) (i7 : Int32) (i8 : Int32) (i9 : Int32) (i10 : Int32) (k0 : Int32) {r : Int32} (X0 : Stand p l e room_1 s m args below meth c T0 locs 4 136) (hx : p.tables.exec = Jvm.exec) (hZ : Z.Warmed39 s.vm) (hw : ∀ d ∈ tables_1, d.before a0 Z = true) (hby : c.code = code) (hml : c.maxLocals = 11) (hown : s.vm.findClass "com/example/prudent_validator/prudentvalidator/datatypes/BinaryHexDigitPinLaw" = some m.cls) (hret : meth.sig.returnType = some .boolean) (hlk : meth.locks = false) (e0 : T0.heap = h0) (N0 : Fr n0 locs) (hr : r = f0_155 i10 k0) :
    own_Ends p e below s 8 2112 (own_P (.int r) h0 n0) T0 (mkF m 155 #[.val (.int i0), .val (.int i1), .val (.int i2), .val (.ref o3), .val (.ref o4), .val (.int i5), .val (.int i6), .val (.int i7), .val (.int i8), .val (.int i9), .val (.int i10)] [(.int k0)]) := by
  unfold f0_155 at hr
  refine own_step (T' := T0) (f' := (mkF m 157 #[.val (.int i0), .val (.int i1), .val (.int i2), .val (.ref o3), .val (.ref o4), .val (.int i5), .val (.int i6), .val (.int i7), .val (.int i8), .val (.int i9), .val (.int i10)] [(.int i10), (.int k0)])) (fun t kt => ?_) ?_
  · show Steps p.tables e below (T0.setTop (mkF m 155 #[.val (.int i0), .val (.int i1), .val (.int i2), .val (.ref o3), .val (.ref o4), .val (.int i5), .val (.int i6), .val (.int i7), .val (.int i8), .val (.int i9), .val (.int i10)] [(.int k0)])) _
    refine XS.iload X0.here hx rfl (hb hby at_155) rfl ?_
    exact kt
  by_cases hc157_8 : k0 = i10
  · replace hr := hr.trans (if_pos hc157_8)
    refine own_step (T' := T0) (f' := (mkF m 160 #[.val (.int i0), .val (.int i1), .val (.int i2), .val (.ref o3), .val (.ref o4), .val (.int i5), .val (.int i6), .val (.int i7), .val (.int i8), .val (.int i9), .val (.int i10)] [])) (fun t kt => ?_) ?_
    · show Steps p.tables e below (T0.setTop (mkF m 157 #[.val (.int i0), .val (.int i1), .val (.int i2), .val (.ref o3), .val (.ref o4), .val (.int i5), .val (.int i6), .val (.int i7), .val (.int i8), .val (.int i9), .val (.int i10)] [(.int i10), (.int k0)])) _
      refine XS.icmpNo X0.here hx rfl (hb hby at_157) rfl (teq hc157_8).2 kt
    refine own_step (T' := T0) (f' := (mkF m 165 #[.val (.int i0), .val (.int i1), .val (.int i2), .val (.ref o3), .val (.ref o4), .val (.int i5), .val (.int i6), .val (.int i7), .val (.int i8), .val (.int i9), .val (.int i10)] [(.int (1 : Int32))])) (fun t kt => ?_) ?_
    · show Steps p.tables e below (T0.setTop (mkF m 160 #[.val (.int i0), .val (.int i1), .val (.int i2), .val (.ref o3), .val (.ref o4), .val (.int i5), .val (.int i6), .val (.int i7), .val (.int i8), .val (.int i9), .val (.int i10)] [])) _
      refine XS.iconst X0.here hx rfl (hb hby at_160) ?_
      show Steps p.tables e below (T0.setTop (mkF m 161 #[.val (.int i0), .val (.int i1), .val (.int i2), .val (.ref o3), .val (.ref o4), .val (.int i5), .val (.int i6), .val (.int i7), .val (.int i8), .val (.int i9), .val (.int i10)] [(.int (1 : Int32))])) _
      refine XS.goto X0.here hx rfl (pc0 := 161) (pc' := 165) rfl (hb hby at_161) (by decide) (by decide) ?_
      exact kt
    exact own_retZ X0 hx hret (by simp) hlk (hb hby at_165) (by decide) (by decide) ⟨congrArg (fun z => some (Value.int z)) hr.symm, N0, e0⟩
  · replace hr := hr.trans (if_neg hc157_8)
    refine own_step (T' := T0) (f' := (mkF m 164 #[.val (.int i0), .val (.int i1), .val (.int i2), .val (.ref o3), .val (.ref o4), .val (.int i5), .val (.int i6), .val (.int i7), .val (.int i8), .val (.int i9), .val (.int i10)] [])) (fun t kt => ?_) ?_
    · show Steps p.tables e below (T0.setTop (mkF m 157 #[.val (.int i0), .val (.int i1), .val (.int i2), .val (.ref o3), .val (.ref o4), .val (.int i5), .val (.int i6), .val (.int i7), .val (.int i8), .val (.int i9), .val (.int i10)] [(.int i10), (.int k0)])) _
      refine XS.icmpYes X0.here hx rfl (pc0 := 157) (pc' := 164) rfl (hb hby at_157) rfl (feq hc157_8).2 (by decide) (by decide) kt
    exact b0_164 i0 i1 i2 o3 o4 i5 i6 i7 i8 i9 i10 X0 hx hZ hw hby hml hown hret hlk e0 N0 hr
def f0_136 (i7 : Int32) (i8 : Int32) (i9 : Int32) (k0 : Int32) : Int32 :=
  if i9 = (0 : Int32) then (f0_164 ) else (if i8 = i7 then (f0_155 k0 (1 : Int32)) else (f0_155 k0 (0 : Int32)))
set_option maxRecDepth 65536 in
set_option maxHeartbeats 4000000 in
theorem b0_136 {p : Program} {l : Launch} {e : Env} {s : State} {m : MethodId} {args : Array Value} {below : List Frame} {meth : Method} {c : Code} {T0 : State} {locs : List Loc} {Z : State} {a0 : Array Value} {h0 : Heap} {n0 : Nat} (i0 : Int32) (i1 : Int32) (i2 : Int32) (o3 : Addr) (o4 : Addr) (i5 : Int32) (i6 : Int32) (i7 : Int32) (i8 : Int32) (i9 : Int32) (k0 : Int32) {r : Int32} (X0 : Stand p l e room_1 s m args below meth c T0 locs 4 136) (hx : p.tables.exec = Jvm.exec) (hZ : Z.Warmed39 s.vm) (hw : ∀ d ∈ tables_1, d.before a0 Z = true) (hby : c.code = code) (hml : c.maxLocals = 11) (hown : s.vm.findClass "com/example/prudent_validator/prudentvalidator/datatypes/BinaryHexDigitPinLaw" = some m.cls) (hret : meth.sig.returnType = some .boolean) (hlk : meth.locks = false) (e0 : T0.heap = h0) (N0 : Fr n0 locs) (hr : r = f0_136 i7 i8 i9 k0) :
    own_Ends p e below s 8 2112 (own_P (.int r) h0 n0) T0 (mkF m 136 #[.val (.int i0), .val (.int i1), .val (.int i2), .val (.ref o3), .val (.ref o4), .val (.int i5), .val (.int i6), .val (.int i7), .val (.int i8), .val (.int i9), .unset] [(.int k0)]) := by
  unfold f0_136 at hr
  refine own_step (T' := T0) (f' := (mkF m 140 #[.val (.int i0), .val (.int i1), .val (.int i2), .val (.ref o3), .val (.ref o4), .val (.int i5), .val (.int i6), .val (.int i7), .val (.int i8), .val (.int i9), .val (.int k0)] [(.int i9)])) (fun t kt => ?_) ?_
  · show Steps p.tables e below (T0.setTop (mkF m 136 #[.val (.int i0), .val (.int i1), .val (.int i2), .val (.ref o3), .val (.ref o4), .val (.int i5), .val (.int i6), .val (.int i7), .val (.int i8), .val (.int i9), .unset] [(.int k0)])) _
    refine XS.istore X0.here hx rfl (hb hby at_136) rfl (l' := #[.val (.int i0), .val (.int i1), .val (.int i2), .val (.ref o3), .val (.ref o4), .val (.int i5), .val (.int i6), .val (.int i7), .val (.int i8), .val (.int i9), .val (.int k0)]) rfl ?_
    show Steps p.tables e below (T0.setTop (mkF m 138 #[.val (.int i0), .val (.int i1), .val (.int i2), .val (.ref o3), .val (.ref o4), .val (.int i5), .val (.int i6), .val (.int i7), .val (.int i8), .val (.int i9), .val (.int k0)] [])) _
    refine XS.iload X0.here hx rfl (hb hby at_138) rfl ?_
    exact kt
  by_cases hc140_6 : i9 = (0 : Int32)
  · replace hr := hr.trans (if_pos hc140_6)
    refine own_step (T' := T0) (f' := (mkF m 164 #[.val (.int i0), .val (.int i1), .val (.int i2), .val (.ref o3), .val (.ref o4), .val (.int i5), .val (.int i6), .val (.int i7), .val (.int i8), .val (.int i9), .val (.int k0)] [])) (fun t kt => ?_) ?_
    · show Steps p.tables e below (T0.setTop (mkF m 140 #[.val (.int i0), .val (.int i1), .val (.int i2), .val (.ref o3), .val (.ref o4), .val (.int i5), .val (.int i6), .val (.int i7), .val (.int i8), .val (.int i9), .val (.int k0)] [(.int i9)])) _
      refine XS.ifYes X0.here hx rfl (pc0 := 140) (pc' := 164) rfl (hb hby at_140) rfl ((if0 _ _).trans (teq hc140_6).1) (by decide) (by decide) kt
    exact b0_164 i0 i1 i2 o3 o4 i5 i6 i7 i8 i9 k0 X0 hx hZ hw hby hml hown hret hlk e0 N0 hr
  · replace hr := hr.trans (if_neg hc140_6)
    refine own_step (T' := T0) (f' := (mkF m 143 #[.val (.int i0), .val (.int i1), .val (.int i2), .val (.ref o3), .val (.ref o4), .val (.int i5), .val (.int i6), .val (.int i7), .val (.int i8), .val (.int i9), .val (.int k0)] [])) (fun t kt => ?_) ?_
    · show Steps p.tables e below (T0.setTop (mkF m 140 #[.val (.int i0), .val (.int i1), .val (.int i2), .val (.ref o3), .val (.ref o4), .val (.int i5), .val (.int i6), .val (.int i7), .val (.int i8), .val (.int i9), .val (.int k0)] [(.int i9)])) _
      refine XS.ifNo X0.here hx rfl (hb hby at_140) rfl ((if0 _ _).trans (feq hc140_6).1) kt
    refine own_step (T' := T0) (f' := (mkF m 147 #[.val (.int i0), .val (.int i1), .val (.int i2), .val (.ref o3), .val (.ref o4), .val (.int i5), .val (.int i6), .val (.int i7), .val (.int i8), .val (.int i9), .val (.int k0)] [(.int i7), (.int i8)])) (fun t kt => ?_) ?_
    · show Steps p.tables e below (T0.setTop (mkF m 143 #[.val (.int i0), .val (.int i1), .val (.int i2), .val (.ref o3), .val (.ref o4), .val (.int i5), .val (.int i6), .val (.int i7), .val (.int i8), .val (.int i9), .val (.int k0)] [])) _
      refine XS.iload X0.here hx rfl (hb hby at_143) rfl ?_
      show Steps p.tables e below (T0.setTop (mkF m 145 #[.val (.int i0), .val (.int i1), .val (.int i2), .val (.ref o3), .val (.ref o4), .val (.int i5), .val (.int i6), .val (.int i7), .val (.int i8), .val (.int i9), .val (.int k0)] [(.int i8)])) _
      refine XS.iload X0.here hx rfl (hb hby at_145) rfl ?_
      exact kt
    by_cases hc147_7 : i8 = i7
    · replace hr := hr.trans (if_pos hc147_7)
      refine own_step (T' := T0) (f' := (mkF m 150 #[.val (.int i0), .val (.int i1), .val (.int i2), .val (.ref o3), .val (.ref o4), .val (.int i5), .val (.int i6), .val (.int i7), .val (.int i8), .val (.int i9), .val (.int k0)] [])) (fun t kt => ?_) ?_
      · show Steps p.tables e below (T0.setTop (mkF m 147 #[.val (.int i0), .val (.int i1), .val (.int i2), .val (.ref o3), .val (.ref o4), .val (.int i5), .val (.int i6), .val (.int i7), .val (.int i8), .val (.int i9), .val (.int k0)] [(.int i7), (.int i8)])) _
        refine XS.icmpNo X0.here hx rfl (hb hby at_147) rfl (teq hc147_7).2 kt
      refine own_step (T' := T0) (f' := (mkF m 155 #[.val (.int i0), .val (.int i1), .val (.int i2), .val (.ref o3), .val (.ref o4), .val (.int i5), .val (.int i6), .val (.int i7), .val (.int i8), .val (.int i9), .val (.int k0)] [(.int (1 : Int32))])) (fun t kt => ?_) ?_
      · show Steps p.tables e below (T0.setTop (mkF m 150 #[.val (.int i0), .val (.int i1), .val (.int i2), .val (.ref o3), .val (.ref o4), .val (.int i5), .val (.int i6), .val (.int i7), .val (.int i8), .val (.int i9), .val (.int k0)] [])) _
        refine XS.iconst X0.here hx rfl (hb hby at_150) ?_
        show Steps p.tables e below (T0.setTop (mkF m 151 #[.val (.int i0), .val (.int i1), .val (.int i2), .val (.ref o3), .val (.ref o4), .val (.int i5), .val (.int i6), .val (.int i7), .val (.int i8), .val (.int i9), .val (.int k0)] [(.int (1 : Int32))])) _
        refine XS.goto X0.here hx rfl (pc0 := 151) (pc' := 155) rfl (hb hby at_151) (by decide) (by decide) ?_
        exact kt
      exact b0_155 i0 i1 i2 o3 o4 i5 i6 i7 i8 i9 k0 (1 : Int32) X0 hx hZ hw hby hml hown hret hlk e0 N0 hr
    · replace hr := hr.trans (if_neg hc147_7)
      refine own_step (T' := T0) (f' := (mkF m 154 #[.val (.int i0), .val (.int i1), .val (.int i2), .val (.ref o3), .val (.ref o4), .val (.int i5), .val (.int i6), .val (.int i7), .val (.int i8), .val (.int i9), .val (.int k0)] [])) (fun t kt => ?_) ?_
      · show Steps p.tables e below (T0.setTop (mkF m 147 #[.val (.int i0), .val (.int i1), .val (.int i2), .val (.ref o3), .val (.ref o4), .val (.int i5), .val (.int i6), .val (.int i7), .val (.int i8), .val (.int i9), .val (.int k0)] [(.int i7), (.int i8)])) _
        refine XS.icmpYes X0.here hx rfl (pc0 := 147) (pc' := 154) rfl (hb hby at_147) rfl (feq hc147_7).2 (by decide) (by decide) kt
      refine own_step (T' := T0) (f' := (mkF m 155 #[.val (.int i0), .val (.int i1), .val (.int i2), .val (.ref o3), .val (.ref o4), .val (.int i5), .val (.int i6), .val (.int i7), .val (.int i8), .val (.int i9), .val (.int k0)] [(.int (0 : Int32))])) (fun t kt => ?_) ?_
      · show Steps p.tables e below (T0.setTop (mkF m 154 #[.val (.int i0), .val (.int i1), .val (.int i2), .val (.ref o3), .val (.ref o4), .val (.int i5), .val (.int i6), .val (.int i7), .val (.int i8), .val (.int i9), .val (.int k0)] [])) _
        refine XS.iconst X0.here hx rfl (hb hby at_154) ?_
        exact kt
      exact b0_155 i0 i1 i2 o3 o4 i5 i6 i7 i8 i9 k0 (0 : Int32) X0 hx hZ hw hby hml hown hret hlk e0 N0 hr
def f0_131 (i7 : Int32) (i8 : Int32) (i9 : Int32) : Int32 :=
  f0_136 i7 i8 i9 (1 : Int32)
set_option maxRecDepth 65536 in
set_option maxHeartbeats 4000000 in
theorem b0_131 {p : Program} {l : Launch} {e : Env} {s : State} {m : MethodId} {args : Array Value} {below : List Frame} {meth : Method} {c : Code} {T0 : State} {locs : List Loc} {Z : State} {a0 : Array Value} {h0 : Heap} {n0 : Nat} (i0 : Int32) (i1 : Int32) (i2 : Int32) (o3 : Addr) (o4 : Addr) (i5 : Int32) (i6 : Int32) (i7 : Int32) (i8 : Int32) (i9 : Int32) {r : Int32} (X0 : Stand p l e room_1 s m args below meth c T0 locs 4 136) (hx : p.tables.exec = Jvm.exec) (hZ : Z.Warmed39 s.vm) (hw : ∀ d ∈ tables_1, d.before a0 Z = true) (hby : c.code = code) (hml : c.maxLocals = 11) (hown : s.vm.findClass "com/example/prudent_validator/prudentvalidator/datatypes/BinaryHexDigitPinLaw" = some m.cls) (hret : meth.sig.returnType = some .boolean) (hlk : meth.locks = false) (e0 : T0.heap = h0) (N0 : Fr n0 locs) (hr : r = f0_131 i7 i8 i9) :
    own_Ends p e below s 8 2112 (own_P (.int r) h0 n0) T0 (mkF m 131 #[.val (.int i0), .val (.int i1), .val (.int i2), .val (.ref o3), .val (.ref o4), .val (.int i5), .val (.int i6), .val (.int i7), .val (.int i8), .val (.int i9), .unset] []) := by
  unfold f0_131 at hr
  refine own_step (T' := T0) (f' := (mkF m 136 #[.val (.int i0), .val (.int i1), .val (.int i2), .val (.ref o3), .val (.ref o4), .val (.int i5), .val (.int i6), .val (.int i7), .val (.int i8), .val (.int i9), .unset] [(.int (1 : Int32))])) (fun t kt => ?_) ?_
  · show Steps p.tables e below (T0.setTop (mkF m 131 #[.val (.int i0), .val (.int i1), .val (.int i2), .val (.ref o3), .val (.ref o4), .val (.int i5), .val (.int i6), .val (.int i7), .val (.int i8), .val (.int i9), .unset] [])) _
    refine XS.iconst X0.here hx rfl (hb hby at_131) ?_
    show Steps p.tables e below (T0.setTop (mkF m 132 #[.val (.int i0), .val (.int i1), .val (.int i2), .val (.ref o3), .val (.ref o4), .val (.int i5), .val (.int i6), .val (.int i7), .val (.int i8), .val (.int i9), .unset] [(.int (1 : Int32))])) _
    refine XS.goto X0.here hx rfl (pc0 := 132) (pc' := 136) rfl (hb hby at_132) (by decide) (by decide) ?_
    exact kt
  exact b0_136 i0 i1 i2 o3 o4 i5 i6 i7 i8 i9 (1 : Int32) X0 hx hZ hw hby hml hown hret hlk e0 N0 hr
def f0_135 (i7 : Int32) (i8 : Int32) (i9 : Int32) : Int32 :=
  f0_136 i7 i8 i9 (0 : Int32)
set_option maxRecDepth 65536 in
set_option maxHeartbeats 4000000 in
theorem b0_135 {p : Program} {l : Launch} {e : Env} {s : State} {m : MethodId} {args : Array Value} {below : List Frame} {meth : Method} {c : Code} {T0 : State} {locs : List Loc} {Z : State} {a0 : Array Value} {h0 : Heap} {n0 : Nat} (i0 : Int32) (i1 : Int32) (i2 : Int32) (o3 : Addr) (o4 : Addr) (i5 : Int32) (i6 : Int32) (i7 : Int32) (i8 : Int32) (i9 : Int32) {r : Int32} (X0 : Stand p l e room_1 s m args below meth c T0 locs 4 136) (hx : p.tables.exec = Jvm.exec) (hZ : Z.Warmed39 s.vm) (hw : ∀ d ∈ tables_1, d.before a0 Z = true) (hby : c.code = code) (hml : c.maxLocals = 11) (hown : s.vm.findClass "com/example/prudent_validator/prudentvalidator/datatypes/BinaryHexDigitPinLaw" = some m.cls) (hret : meth.sig.returnType = some .boolean) (hlk : meth.locks = false) (e0 : T0.heap = h0) (N0 : Fr n0 locs) (hr : r = f0_135 i7 i8 i9) :
    own_Ends p e below s 8 2112 (own_P (.int r) h0 n0) T0 (mkF m 135 #[.val (.int i0), .val (.int i1), .val (.int i2), .val (.ref o3), .val (.ref o4), .val (.int i5), .val (.int i6), .val (.int i7), .val (.int i8), .val (.int i9), .unset] []) := by
  unfold f0_135 at hr
  refine own_step (T' := T0) (f' := (mkF m 136 #[.val (.int i0), .val (.int i1), .val (.int i2), .val (.ref o3), .val (.ref o4), .val (.int i5), .val (.int i6), .val (.int i7), .val (.int i8), .val (.int i9), .unset] [(.int (0 : Int32))])) (fun t kt => ?_) ?_
  · show Steps p.tables e below (T0.setTop (mkF m 135 #[.val (.int i0), .val (.int i1), .val (.int i2), .val (.ref o3), .val (.ref o4), .val (.int i5), .val (.int i6), .val (.int i7), .val (.int i8), .val (.int i9), .unset] [])) _
    refine XS.iconst X0.here hx rfl (hb hby at_135) ?_
    exact kt
  exact b0_136 i0 i1 i2 o3 o4 i5 i6 i7 i8 i9 (0 : Int32) X0 hx hZ hw hby hml hown hret hlk e0 N0 hr
def f0_106 (i6 : Int32) (i7 : Int32) (i8 : Int32) (k0 : Int32) : Int32 :=
  if i6 = (f1s_0 i7 (own_lo i7)) then (f0_131 i7 i8 k0) else (if i6 = (f1s_0 i7 (own_up i7)) then (f0_131 i7 i8 k0) else (f0_135 i7 i8 k0))
set_option maxRecDepth 65536 in
set_option maxHeartbeats 4000000 in
theorem b0_106 {p : Program} {l : Launch} {e : Env} {s : State} {m : MethodId} {args : Array Value} {below : List Frame} {meth : Method} {c : Code} {T0 : State} {locs : List Loc} {Z : State} {a0 : Array Value} {h0 : Heap} {n0 : Nat} (i0 : Int32) (i1 : Int32) (i2 : Int32) (o3 : Addr) (o4 : Addr) (i5 : Int32) (i6 : Int32) (i7 : Int32) (i8 : Int32) (k0 : Int32) {r : Int32} (X0 : Stand p l e room_1 s m args below meth c T0 locs 4 136) (hx : p.tables.exec = Jvm.exec) (hZ : Z.Warmed39 s.vm) (hw : ∀ d ∈ tables_1, d.before a0 Z = true) (hby : c.code = code) (hml : c.maxLocals = 11) (hown : s.vm.findClass "com/example/prudent_validator/prudentvalidator/datatypes/BinaryHexDigitPinLaw" = some m.cls) (hret : meth.sig.returnType = some .boolean) (hlk : meth.locks = false) (e0 : T0.heap = h0) (N0 : Fr n0 locs) (hS3 : own_S Z h0 o3 own_lov) (hS4 : own_S Z h0 o4 own_upv) (hG : own_G Z h0) (hd7 : ¬ i7 < (0 : Int32) ∧ i7 < (16 : Int32)) (hr : r = f0_106 i6 i7 i8 k0) :
    own_Ends p e below s 8 2112 (own_P (.int r) h0 n0) T0 (mkF m 106 #[.val (.int i0), .val (.int i1), .val (.int i2), .val (.ref o3), .val (.ref o4), .val (.int i5), .val (.int i6), .val (.int i7), .val (.int i8), .unset, .unset] [(.int k0)]) := by
  unfold f0_106 at hr
  refine own_step (T' := T0) (f' := (mkF m 113 #[.val (.int i0), .val (.int i1), .val (.int i2), .val (.ref o3), .val (.ref o4), .val (.int i5), .val (.int i6), .val (.int i7), .val (.int i8), .val (.int k0), .unset] [(.int i7), (.ref o3), (.int i6)])) (fun t kt => ?_) ?_
  · show Steps p.tables e below (T0.setTop (mkF m 106 #[.val (.int i0), .val (.int i1), .val (.int i2), .val (.ref o3), .val (.ref o4), .val (.int i5), .val (.int i6), .val (.int i7), .val (.int i8), .unset, .unset] [(.int k0)])) _
    refine XS.istore X0.here hx rfl (hb hby at_106) rfl (l' := #[.val (.int i0), .val (.int i1), .val (.int i2), .val (.ref o3), .val (.ref o4), .val (.int i5), .val (.int i6), .val (.int i7), .val (.int i8), .val (.int k0), .unset]) rfl ?_
    show Steps p.tables e below (T0.setTop (mkF m 108 #[.val (.int i0), .val (.int i1), .val (.int i2), .val (.ref o3), .val (.ref o4), .val (.int i5), .val (.int i6), .val (.int i7), .val (.int i8), .val (.int k0), .unset] [])) _
    refine XS.iload X0.here hx rfl (hb hby at_108) rfl ?_
    show Steps p.tables e below (T0.setTop (mkF m 110 #[.val (.int i0), .val (.int i1), .val (.int i2), .val (.ref o3), .val (.ref o4), .val (.int i5), .val (.int i6), .val (.int i7), .val (.int i8), .val (.int k0), .unset] [(.int i6)])) _
    refine XS.aloadN X0.here hx rfl (hb hby at_110) rfl rfl ?_
    show Steps p.tables e below (T0.setTop (mkF m 111 #[.val (.int i0), .val (.int i1), .val (.int i2), .val (.ref o3), .val (.ref o4), .val (.int i5), .val (.int i6), .val (.int i7), .val (.int i8), .val (.int k0), .unset] [(.ref o3), (.int i6)])) _
    refine XS.iload X0.here hx rfl (hb hby at_111) rfl ?_
    exact kt
  obtain ⟨cq4, kq4, qa4, qb4, qc4⟩ := isOf hZ e0 hS3.1
  obtain ⟨_, _, ⟨T4, L4, k4, n4⟩, -, X4, ⟨Lc4, hQ4, l4, y4, z4⟩, st4⟩ := X0.virtualBack hx (y := (⟨"java/lang/String", "charAt", "(I)C"⟩ : MethodName)) (z := (⟨"java/lang/String", "charAt", "(I)C"⟩ : MethodName)) hown (mvT hZ (hw _ (List.mem_of_getElem? (i := 9) rfl))) (mvT hZ (hw _ (List.mem_of_getElem? (i := 10) rfl))) (notFace_of_selects (args := #[]) (mvT hZ (hw _ (List.mem_of_getElem? (i := 12) rfl)))) (mvT hZ (hw _ (List.mem_of_getElem? (i := 12) rfl))) (mvT hZ (hw _ (List.mem_of_getElem? (i := 11) rfl))) (by decide) (backOf (W := 1) (rm1s l Z a0 hw [] o3 i7 (own_lo i7) own_lov h0 n0 hS3 hG rfl hd7.1 hd7.2 (own_lox _ hd7.1 hd7.2)) hZ (hw _ (List.mem_of_getElem? (i := 13) rfl)) (hw _ (List.mem_of_getElem? (i := 1) rfl)) (by decide) (by decide)) qa4 qc4 (g := (mkF m 113 #[.val (.int i0), .val (.int i1), .val (.int i2), .val (.ref o3), .val (.ref o4), .val (.int i5), .val (.int i6), .val (.int i7), .val (.int i8), .val (.int k0), .unset] [(.int i7), (.ref o3), (.int i6)])) rfl (by rw [hml]; rfl) (Steps.refl _) (argsL := [(.int i7)]) (rest := [(.int i6)]) (lenOf pd1 rfl) rfl (by show 2 * 0 + _ ≤ _; exact Nat.le_of_eq rfl) (hb hby at_113) (fun _ _ => ⟨rfl, e0, (by decide : 4 + 0 ≤ _), (by decide : 136 + 0 ≤ _)⟩)
  dsimp only [Pt.U, Pt.locs, Pt.cells, Pt.slots] at X4 l4 y4 z4 st4 hQ4
  subst l4 y4 z4
  obtain ⟨rfl, Nq4, e4⟩ := hQ4
  have N4 := Fr.app N0 Nq4
  refine own_step (T' := T4) (f' := (mkF m 116 #[.val (.int i0), .val (.int i1), .val (.int i2), .val (.ref o3), .val (.ref o4), .val (.int i5), .val (.int i6), .val (.int i7), .val (.int i8), .val (.int k0), .unset] [(.int (f1s_0 i7 (own_lo i7))), (.int i6)])) (fun t k => st4.trans k) ?_
  by_cases hc116_5 : i6 = (f1s_0 i7 (own_lo i7))
  · replace hr := hr.trans (if_pos hc116_5)
    refine own_step (T' := T4) (f' := (mkF m 131 #[.val (.int i0), .val (.int i1), .val (.int i2), .val (.ref o3), .val (.ref o4), .val (.int i5), .val (.int i6), .val (.int i7), .val (.int i8), .val (.int k0), .unset] [])) (fun t kt => ?_) ?_
    · show Steps p.tables e below (T4.setTop (mkF m 116 #[.val (.int i0), .val (.int i1), .val (.int i2), .val (.ref o3), .val (.ref o4), .val (.int i5), .val (.int i6), .val (.int i7), .val (.int i8), .val (.int k0), .unset] [(.int (f1s_0 i7 (own_lo i7))), (.int i6)])) _
      refine XS.icmpYes X4.here hx rfl (pc0 := 116) (pc' := 131) rfl (hb hby at_116) rfl (teq hc116_5).1 (by decide) (by decide) kt
    exact b0_131 i0 i1 i2 o3 o4 i5 i6 i7 i8 k0 X4 hx hZ hw hby hml hown hret hlk e4 N4 hr
  · replace hr := hr.trans (if_neg hc116_5)
    refine own_step (T' := T4) (f' := (mkF m 119 #[.val (.int i0), .val (.int i1), .val (.int i2), .val (.ref o3), .val (.ref o4), .val (.int i5), .val (.int i6), .val (.int i7), .val (.int i8), .val (.int k0), .unset] [])) (fun t kt => ?_) ?_
    · show Steps p.tables e below (T4.setTop (mkF m 116 #[.val (.int i0), .val (.int i1), .val (.int i2), .val (.ref o3), .val (.ref o4), .val (.int i5), .val (.int i6), .val (.int i7), .val (.int i8), .val (.int k0), .unset] [(.int (f1s_0 i7 (own_lo i7))), (.int i6)])) _
      refine XS.icmpNo X4.here hx rfl (hb hby at_116) rfl (feq hc116_5).1 kt
    refine own_step (T' := T4) (f' := (mkF m 125 #[.val (.int i0), .val (.int i1), .val (.int i2), .val (.ref o3), .val (.ref o4), .val (.int i5), .val (.int i6), .val (.int i7), .val (.int i8), .val (.int k0), .unset] [(.int i7), (.ref o4), (.int i6)])) (fun t kt => ?_) ?_
    · show Steps p.tables e below (T4.setTop (mkF m 119 #[.val (.int i0), .val (.int i1), .val (.int i2), .val (.ref o3), .val (.ref o4), .val (.int i5), .val (.int i6), .val (.int i7), .val (.int i8), .val (.int k0), .unset] [])) _
      refine XS.iload X4.here hx rfl (hb hby at_119) rfl ?_
      show Steps p.tables e below (T4.setTop (mkF m 121 #[.val (.int i0), .val (.int i1), .val (.int i2), .val (.ref o3), .val (.ref o4), .val (.int i5), .val (.int i6), .val (.int i7), .val (.int i8), .val (.int k0), .unset] [(.int i6)])) _
      refine XS.aload X4.here hx rfl (hb hby at_121) rfl rfl ?_
      show Steps p.tables e below (T4.setTop (mkF m 123 #[.val (.int i0), .val (.int i1), .val (.int i2), .val (.ref o3), .val (.ref o4), .val (.int i5), .val (.int i6), .val (.int i7), .val (.int i8), .val (.int k0), .unset] [(.ref o4), (.int i6)])) _
      refine XS.iload X4.here hx rfl (hb hby at_123) rfl ?_
      exact kt
    obtain ⟨cq9, kq9, qa9, qb9, qc9⟩ := isOf hZ e4 hS4.1
    obtain ⟨_, _, ⟨T9, L9, k9, n9⟩, -, X9, ⟨Lc9, hQ9, l9, y9, z9⟩, st9⟩ := X4.virtualBack hx (y := (⟨"java/lang/String", "charAt", "(I)C"⟩ : MethodName)) (z := (⟨"java/lang/String", "charAt", "(I)C"⟩ : MethodName)) hown (mvT hZ (hw _ (List.mem_of_getElem? (i := 9) rfl))) (mvT hZ (hw _ (List.mem_of_getElem? (i := 10) rfl))) (notFace_of_selects (args := #[]) (mvT hZ (hw _ (List.mem_of_getElem? (i := 12) rfl)))) (mvT hZ (hw _ (List.mem_of_getElem? (i := 12) rfl))) (mvT hZ (hw _ (List.mem_of_getElem? (i := 11) rfl))) (by decide) (backOf (W := 1) (rm1s l Z a0 hw [] o4 i7 (own_up i7) own_upv h0 n0 hS4 hG rfl hd7.1 hd7.2 (own_upx _ hd7.1 hd7.2)) hZ (hw _ (List.mem_of_getElem? (i := 13) rfl)) (hw _ (List.mem_of_getElem? (i := 1) rfl)) (by decide) (by decide)) qa9 qc9 (g := (mkF m 125 #[.val (.int i0), .val (.int i1), .val (.int i2), .val (.ref o3), .val (.ref o4), .val (.int i5), .val (.int i6), .val (.int i7), .val (.int i8), .val (.int k0), .unset] [(.int i7), (.ref o4), (.int i6)])) rfl (by rw [hml]; rfl) (Steps.refl _) (argsL := [(.int i7)]) (rest := [(.int i6)]) (lenOf pd1 rfl) rfl (by show 2 * 0 + _ ≤ _; exact Nat.le_of_eq rfl) (hb hby at_125) (fun _ _ => ⟨rfl, e4, (by decide : 4 + 0 ≤ _), (by decide : 136 + 0 ≤ _)⟩)
    dsimp only [Pt.U, Pt.locs, Pt.cells, Pt.slots] at X9 l9 y9 z9 st9 hQ9
    subst l9 y9 z9
    obtain ⟨rfl, Nq9, e9⟩ := hQ9
    have N9 := Fr.app N4 Nq9
    refine own_step (T' := T9) (f' := (mkF m 128 #[.val (.int i0), .val (.int i1), .val (.int i2), .val (.ref o3), .val (.ref o4), .val (.int i5), .val (.int i6), .val (.int i7), .val (.int i8), .val (.int k0), .unset] [(.int (f1s_0 i7 (own_up i7))), (.int i6)])) (fun t k => st9.trans k) ?_
    by_cases hc128_10 : i6 = (f1s_0 i7 (own_up i7))
    · replace hr := hr.trans (if_pos hc128_10)
      refine own_step (T' := T9) (f' := (mkF m 131 #[.val (.int i0), .val (.int i1), .val (.int i2), .val (.ref o3), .val (.ref o4), .val (.int i5), .val (.int i6), .val (.int i7), .val (.int i8), .val (.int k0), .unset] [])) (fun t kt => ?_) ?_
      · show Steps p.tables e below (T9.setTop (mkF m 128 #[.val (.int i0), .val (.int i1), .val (.int i2), .val (.ref o3), .val (.ref o4), .val (.int i5), .val (.int i6), .val (.int i7), .val (.int i8), .val (.int k0), .unset] [(.int (f1s_0 i7 (own_up i7))), (.int i6)])) _
        refine XS.icmpNo X9.here hx rfl (hb hby at_128) rfl (teq hc128_10).2 kt
      exact b0_131 i0 i1 i2 o3 o4 i5 i6 i7 i8 k0 X9 hx hZ hw hby hml hown hret hlk e9 N9 hr
    · replace hr := hr.trans (if_neg hc128_10)
      refine own_step (T' := T9) (f' := (mkF m 135 #[.val (.int i0), .val (.int i1), .val (.int i2), .val (.ref o3), .val (.ref o4), .val (.int i5), .val (.int i6), .val (.int i7), .val (.int i8), .val (.int k0), .unset] [])) (fun t kt => ?_) ?_
      · show Steps p.tables e below (T9.setTop (mkF m 128 #[.val (.int i0), .val (.int i1), .val (.int i2), .val (.ref o3), .val (.ref o4), .val (.int i5), .val (.int i6), .val (.int i7), .val (.int i8), .val (.int k0), .unset] [(.int (f1s_0 i7 (own_up i7))), (.int i6)])) _
        refine XS.icmpYes X9.here hx rfl (pc0 := 128) (pc' := 135) rfl (hb hby at_128) rfl (feq hc128_10).2 (by decide) (by decide) kt
      exact b0_135 i0 i1 i2 o3 o4 i5 i6 i7 i8 k0 X9 hx hZ hw hby hml hown hret hlk e9 N9 hr
def f0_105 (i6 : Int32) (i7 : Int32) (i8 : Int32) : Int32 :=
  f0_106 i6 i7 i8 (0 : Int32)
set_option maxRecDepth 65536 in
set_option maxHeartbeats 4000000 in
theorem b0_105 {p : Program} {l : Launch} {e : Env} {s : State} {m : MethodId} {args : Array Value} {below : List Frame} {meth : Method} {c : Code} {T0 : State} {locs : List Loc} {Z : State} {a0 : Array Value} {h0 : Heap} {n0 : Nat} (i0 : Int32) (i1 : Int32) (i2 : Int32) (o3 : Addr) (o4 : Addr) (i5 : Int32) (i6 : Int32) (i7 : Int32) (i8 : Int32) {r : Int32} (X0 : Stand p l e room_1 s m args below meth c T0 locs 4 136) (hx : p.tables.exec = Jvm.exec) (hZ : Z.Warmed39 s.vm) (hw : ∀ d ∈ tables_1, d.before a0 Z = true) (hby : c.code = code) (hml : c.maxLocals = 11) (hown : s.vm.findClass "com/example/prudent_validator/prudentvalidator/datatypes/BinaryHexDigitPinLaw" = some m.cls) (hret : meth.sig.returnType = some .boolean) (hlk : meth.locks = false) (e0 : T0.heap = h0) (N0 : Fr n0 locs) (hS3 : own_S Z h0 o3 own_lov) (hS4 : own_S Z h0 o4 own_upv) (hG : own_G Z h0) (hd7 : ¬ i7 < (0 : Int32) ∧ i7 < (16 : Int32)) (hr : r = f0_105 i6 i7 i8) :
    own_Ends p e below s 8 2112 (own_P (.int r) h0 n0) T0 (mkF m 105 #[.val (.int i0), .val (.int i1), .val (.int i2), .val (.ref o3), .val (.ref o4), .val (.int i5), .val (.int i6), .val (.int i7), .val (.int i8), .unset, .unset] []) := by
  unfold f0_105 at hr
  refine own_step (T' := T0) (f' := (mkF m 106 #[.val (.int i0), .val (.int i1), .val (.int i2), .val (.ref o3), .val (.ref o4), .val (.int i5), .val (.int i6), .val (.int i7), .val (.int i8), .unset, .unset] [(.int (0 : Int32))])) (fun t kt => ?_) ?_
  · show Steps p.tables e below (T0.setTop (mkF m 105 #[.val (.int i0), .val (.int i1), .val (.int i2), .val (.ref o3), .val (.ref o4), .val (.int i5), .val (.int i6), .val (.int i7), .val (.int i8), .unset, .unset] [])) _
    refine XS.iconst X0.here hx rfl (hb hby at_105) ?_
    exact kt
  exact b0_106 i0 i1 i2 o3 o4 i5 i6 i7 i8 (0 : Int32) X0 hx hZ hw hby hml hown hret hlk e0 N0 hS3 hS4 hG hd7 hr
def f0_76 (i6 : Int32) (i7 : Int32) : Int32 :=
  if (f6_0 i6) = (-1 : Int32) then (f0_106 i6 i7 (f6_0 i6) (1 : Int32)) else (if (f6_0 i6) < (0 : Int32) then (f0_105 i6 i7 (f6_0 i6)) else (if (15 : Int32) < (f6_0 i6) then (f0_105 i6 i7 (f6_0 i6)) else (f0_106 i6 i7 (f6_0 i6) (1 : Int32))))
set_option maxRecDepth 65536 in
set_option maxHeartbeats 4000000 in
theorem b0_76 {p : Program} {l : Launch} {e : Env} {s : State} {m : MethodId} {args : Array Value} {below : List Frame} {meth : Method} {c : Code} {T0 : State} {locs : List Loc} {Z : State} {a0 : Array Value} {h0 : Heap} {n0 : Nat} (i0 : Int32) (i1 : Int32) (i2 : Int32) (o3 : Addr) (o4 : Addr) (i5 : Int32) (i6 : Int32) (i7 : Int32) {r : Int32} (X0 : Stand p l e room_1 s m args below meth c T0 locs 4 136) (hx : p.tables.exec = Jvm.exec) (hZ : Z.Warmed39 s.vm) (hw : ∀ d ∈ tables_1, d.before a0 Z = true) (hby : c.code = code) (hml : c.maxLocals = 11) (hown : s.vm.findClass "com/example/prudent_validator/prudentvalidator/datatypes/BinaryHexDigitPinLaw" = some m.cls) (hret : meth.sig.returnType = some .boolean) (hlk : meth.locks = false) (e0 : T0.heap = h0) (N0 : Fr n0 locs) (hS3 : own_S Z h0 o3 own_lov) (hS4 : own_S Z h0 o4 own_upv) (hG : own_G Z h0) (hd7 : ¬ i7 < (0 : Int32) ∧ i7 < (16 : Int32)) (hr : r = f0_76 i6 i7) :
    own_Ends p e below s 8 2112 (own_P (.int r) h0 n0) T0 (mkF m 76 #[.val (.int i0), .val (.int i1), .val (.int i2), .val (.ref o3), .val (.ref o4), .val (.int i5), .val (.int i6), .val (.int i7), .unset, .unset, .unset] []) := by
  unfold f0_76 at hr
  refine own_step (T' := T0) (f' := (mkF m 78 #[.val (.int i0), .val (.int i1), .val (.int i2), .val (.ref o3), .val (.ref o4), .val (.int i5), .val (.int i6), .val (.int i7), .unset, .unset, .unset] [(.int i6)])) (fun t kt => ?_) ?_
  · show Steps p.tables e below (T0.setTop (mkF m 76 #[.val (.int i0), .val (.int i1), .val (.int i2), .val (.ref o3), .val (.ref o4), .val (.int i5), .val (.int i6), .val (.int i7), .unset, .unset, .unset] [])) _
    refine XS.iload X0.here hx rfl (hb hby at_76) rfl ?_
    exact kt
  obtain ⟨_, _, ⟨T2, L2, k2, n2⟩, -, X2, ⟨Lc2, hQ2, l2, y2, z2⟩, st2⟩ := Jvm.LawKit.callS X0 hx (y := (⟨"com/example/prudent_validator/prudentvalidator/datatypes/Binary", "hexDigit", "(C)I"⟩ : MethodName)) hown (mvT hZ (hw _ (List.mem_of_getElem? (i := 34) rfl))) (mvT hZ (hw _ (List.mem_of_getElem? (i := 35) rfl))) (mvT hZ (hw _ (List.mem_of_getElem? (i := 36) rfl))) (mvT hZ (hw _ (List.mem_of_getElem? (i := 37) rfl))) (by decide) (backOf (W := 0) (rm6 l Z a0 hw [] i6  h0 n0 ) hZ (hw _ (List.mem_of_getElem? (i := 37) rfl)) (hw _ (List.mem_of_getElem? (i := 36) rfl)) (by decide) (by decide)) (g := (mkF m 78 #[.val (.int i0), .val (.int i1), .val (.int i2), .val (.ref o3), .val (.ref o4), .val (.int i5), .val (.int i6), .val (.int i7), .unset, .unset, .unset] [(.int i6)])) rfl (by rw [hml]; rfl) (argsL := [(.int i6)]) (rest := []) (lenOf pd6 rfl) rfl (by show 2 * 0 + _ ≤ _; exact Nat.le_of_eq rfl) (hb hby at_78) (fun _ _ => ⟨rfl, e0, (by decide : 4 + 0 ≤ _), (by decide : 136 + 0 ≤ _)⟩)
  dsimp only [Pt.U, Pt.locs, Pt.cells, Pt.slots] at X2 l2 y2 z2 st2 hQ2
  subst l2 y2 z2
  obtain ⟨rfl, Nq2, e2⟩ := hQ2
  have N2 := Fr.app N0 Nq2
  refine own_step (T' := T2) (f' := (mkF m 81 #[.val (.int i0), .val (.int i1), .val (.int i2), .val (.ref o3), .val (.ref o4), .val (.int i5), .val (.int i6), .val (.int i7), .unset, .unset, .unset] [(.int (f6_0 i6))])) st2 ?_
  refine own_step (T' := T2) (f' := (mkF m 86 #[.val (.int i0), .val (.int i1), .val (.int i2), .val (.ref o3), .val (.ref o4), .val (.int i5), .val (.int i6), .val (.int i7), .val (.int (f6_0 i6)), .unset, .unset] [(.int (-1 : Int32)), (.int (f6_0 i6))])) (fun t kt => ?_) ?_
  · show Steps p.tables e below (T2.setTop (mkF m 81 #[.val (.int i0), .val (.int i1), .val (.int i2), .val (.ref o3), .val (.ref o4), .val (.int i5), .val (.int i6), .val (.int i7), .unset, .unset, .unset] [(.int (f6_0 i6))])) _
    refine XS.istore X2.here hx rfl (hb hby at_81) rfl (l' := #[.val (.int i0), .val (.int i1), .val (.int i2), .val (.ref o3), .val (.ref o4), .val (.int i5), .val (.int i6), .val (.int i7), .val (.int (f6_0 i6)), .unset, .unset]) rfl ?_
    show Steps p.tables e below (T2.setTop (mkF m 83 #[.val (.int i0), .val (.int i1), .val (.int i2), .val (.ref o3), .val (.ref o4), .val (.int i5), .val (.int i6), .val (.int i7), .val (.int (f6_0 i6)), .unset, .unset] [])) _
    refine XS.iload X2.here hx rfl (hb hby at_83) rfl ?_
    show Steps p.tables e below (T2.setTop (mkF m 85 #[.val (.int i0), .val (.int i1), .val (.int i2), .val (.ref o3), .val (.ref o4), .val (.int i5), .val (.int i6), .val (.int i7), .val (.int (f6_0 i6)), .unset, .unset] [(.int (f6_0 i6))])) _
    refine XS.iconst X2.here hx rfl (hb hby at_85) ?_
    exact kt
  by_cases hc86_3 : (f6_0 i6) = (-1 : Int32)
  · replace hr := hr.trans (if_pos hc86_3)
    refine own_step (T' := T2) (f' := (mkF m 101 #[.val (.int i0), .val (.int i1), .val (.int i2), .val (.ref o3), .val (.ref o4), .val (.int i5), .val (.int i6), .val (.int i7), .val (.int (f6_0 i6)), .unset, .unset] [])) (fun t kt => ?_) ?_
    · show Steps p.tables e below (T2.setTop (mkF m 86 #[.val (.int i0), .val (.int i1), .val (.int i2), .val (.ref o3), .val (.ref o4), .val (.int i5), .val (.int i6), .val (.int i7), .val (.int (f6_0 i6)), .unset, .unset] [(.int (-1 : Int32)), (.int (f6_0 i6))])) _
      refine XS.icmpYes X2.here hx rfl (pc0 := 86) (pc' := 101) rfl (hb hby at_86) rfl (teq hc86_3).1 (by decide) (by decide) kt
    refine own_step (T' := T2) (f' := (mkF m 106 #[.val (.int i0), .val (.int i1), .val (.int i2), .val (.ref o3), .val (.ref o4), .val (.int i5), .val (.int i6), .val (.int i7), .val (.int (f6_0 i6)), .unset, .unset] [(.int (1 : Int32))])) (fun t kt => ?_) ?_
    · show Steps p.tables e below (T2.setTop (mkF m 101 #[.val (.int i0), .val (.int i1), .val (.int i2), .val (.ref o3), .val (.ref o4), .val (.int i5), .val (.int i6), .val (.int i7), .val (.int (f6_0 i6)), .unset, .unset] [])) _
      refine XS.iconst X2.here hx rfl (hb hby at_101) ?_
      show Steps p.tables e below (T2.setTop (mkF m 102 #[.val (.int i0), .val (.int i1), .val (.int i2), .val (.ref o3), .val (.ref o4), .val (.int i5), .val (.int i6), .val (.int i7), .val (.int (f6_0 i6)), .unset, .unset] [(.int (1 : Int32))])) _
      refine XS.goto X2.here hx rfl (pc0 := 102) (pc' := 106) rfl (hb hby at_102) (by decide) (by decide) ?_
      exact kt
    exact b0_106 i0 i1 i2 o3 o4 i5 i6 i7 (f6_0 i6) (1 : Int32) X2 hx hZ hw hby hml hown hret hlk e2 N2 hS3 hS4 hG hd7 hr
  · replace hr := hr.trans (if_neg hc86_3)
    refine own_step (T' := T2) (f' := (mkF m 89 #[.val (.int i0), .val (.int i1), .val (.int i2), .val (.ref o3), .val (.ref o4), .val (.int i5), .val (.int i6), .val (.int i7), .val (.int (f6_0 i6)), .unset, .unset] [])) (fun t kt => ?_) ?_
    · show Steps p.tables e below (T2.setTop (mkF m 86 #[.val (.int i0), .val (.int i1), .val (.int i2), .val (.ref o3), .val (.ref o4), .val (.int i5), .val (.int i6), .val (.int i7), .val (.int (f6_0 i6)), .unset, .unset] [(.int (-1 : Int32)), (.int (f6_0 i6))])) _
      refine XS.icmpNo X2.here hx rfl (hb hby at_86) rfl (feq hc86_3).1 kt
    refine own_step (T' := T2) (f' := (mkF m 91 #[.val (.int i0), .val (.int i1), .val (.int i2), .val (.ref o3), .val (.ref o4), .val (.int i5), .val (.int i6), .val (.int i7), .val (.int (f6_0 i6)), .unset, .unset] [(.int (f6_0 i6))])) (fun t kt => ?_) ?_
    · show Steps p.tables e below (T2.setTop (mkF m 89 #[.val (.int i0), .val (.int i1), .val (.int i2), .val (.ref o3), .val (.ref o4), .val (.int i5), .val (.int i6), .val (.int i7), .val (.int (f6_0 i6)), .unset, .unset] [])) _
      refine XS.iload X2.here hx rfl (hb hby at_89) rfl ?_
      exact kt
    by_cases hc91_11 : (f6_0 i6) < (0 : Int32)
    · replace hr := hr.trans (if_pos hc91_11)
      refine own_step (T' := T2) (f' := (mkF m 105 #[.val (.int i0), .val (.int i1), .val (.int i2), .val (.ref o3), .val (.ref o4), .val (.int i5), .val (.int i6), .val (.int i7), .val (.int (f6_0 i6)), .unset, .unset] [])) (fun t kt => ?_) ?_
      · show Steps p.tables e below (T2.setTop (mkF m 91 #[.val (.int i0), .val (.int i1), .val (.int i2), .val (.ref o3), .val (.ref o4), .val (.int i5), .val (.int i6), .val (.int i7), .val (.int (f6_0 i6)), .unset, .unset] [(.int (f6_0 i6))])) _
        refine XS.ifYes X2.here hx rfl (pc0 := 91) (pc' := 105) rfl (hb hby at_91) rfl ((if0 _ _).trans (tlt hc91_11).1) (by decide) (by decide) kt
      exact b0_105 i0 i1 i2 o3 o4 i5 i6 i7 (f6_0 i6) X2 hx hZ hw hby hml hown hret hlk e2 N2 hS3 hS4 hG hd7 hr
    · replace hr := hr.trans (if_neg hc91_11)
      refine own_step (T' := T2) (f' := (mkF m 94 #[.val (.int i0), .val (.int i1), .val (.int i2), .val (.ref o3), .val (.ref o4), .val (.int i5), .val (.int i6), .val (.int i7), .val (.int (f6_0 i6)), .unset, .unset] [])) (fun t kt => ?_) ?_
      · show Steps p.tables e below (T2.setTop (mkF m 91 #[.val (.int i0), .val (.int i1), .val (.int i2), .val (.ref o3), .val (.ref o4), .val (.int i5), .val (.int i6), .val (.int i7), .val (.int (f6_0 i6)), .unset, .unset] [(.int (f6_0 i6))])) _
        refine XS.ifNo X2.here hx rfl (hb hby at_91) rfl ((if0 _ _).trans (flt hc91_11).1) kt
      refine own_step (T' := T2) (f' := (mkF m 98 #[.val (.int i0), .val (.int i1), .val (.int i2), .val (.ref o3), .val (.ref o4), .val (.int i5), .val (.int i6), .val (.int i7), .val (.int (f6_0 i6)), .unset, .unset] [(.int (15 : Int32)), (.int (f6_0 i6))])) (fun t kt => ?_) ?_
      · show Steps p.tables e below (T2.setTop (mkF m 94 #[.val (.int i0), .val (.int i1), .val (.int i2), .val (.ref o3), .val (.ref o4), .val (.int i5), .val (.int i6), .val (.int i7), .val (.int (f6_0 i6)), .unset, .unset] [])) _
        refine XS.iload X2.here hx rfl (hb hby at_94) rfl ?_
        show Steps p.tables e below (T2.setTop (mkF m 96 #[.val (.int i0), .val (.int i1), .val (.int i2), .val (.ref o3), .val (.ref o4), .val (.int i5), .val (.int i6), .val (.int i7), .val (.int (f6_0 i6)), .unset, .unset] [(.int (f6_0 i6))])) _
        refine XS.bipush X2.here hx rfl (hb hby at_96) ?_
        exact kt
      by_cases hc98_12 : (15 : Int32) < (f6_0 i6)
      · replace hr := hr.trans (if_pos hc98_12)
        refine own_step (T' := T2) (f' := (mkF m 105 #[.val (.int i0), .val (.int i1), .val (.int i2), .val (.ref o3), .val (.ref o4), .val (.int i5), .val (.int i6), .val (.int i7), .val (.int (f6_0 i6)), .unset, .unset] [])) (fun t kt => ?_) ?_
        · show Steps p.tables e below (T2.setTop (mkF m 98 #[.val (.int i0), .val (.int i1), .val (.int i2), .val (.ref o3), .val (.ref o4), .val (.int i5), .val (.int i6), .val (.int i7), .val (.int (f6_0 i6)), .unset, .unset] [(.int (15 : Int32)), (.int (f6_0 i6))])) _
          refine XS.icmpYes X2.here hx rfl (pc0 := 98) (pc' := 105) rfl (hb hby at_98) rfl (tlt hc98_12).2.2.1 (by decide) (by decide) kt
        exact b0_105 i0 i1 i2 o3 o4 i5 i6 i7 (f6_0 i6) X2 hx hZ hw hby hml hown hret hlk e2 N2 hS3 hS4 hG hd7 hr
      · replace hr := hr.trans (if_neg hc98_12)
        refine own_step (T' := T2) (f' := (mkF m 101 #[.val (.int i0), .val (.int i1), .val (.int i2), .val (.ref o3), .val (.ref o4), .val (.int i5), .val (.int i6), .val (.int i7), .val (.int (f6_0 i6)), .unset, .unset] [])) (fun t kt => ?_) ?_
        · show Steps p.tables e below (T2.setTop (mkF m 98 #[.val (.int i0), .val (.int i1), .val (.int i2), .val (.ref o3), .val (.ref o4), .val (.int i5), .val (.int i6), .val (.int i7), .val (.int (f6_0 i6)), .unset, .unset] [(.int (15 : Int32)), (.int (f6_0 i6))])) _
          refine XS.icmpNo X2.here hx rfl (hb hby at_98) rfl (flt hc98_12).2.2.1 kt
        refine own_step (T' := T2) (f' := (mkF m 106 #[.val (.int i0), .val (.int i1), .val (.int i2), .val (.ref o3), .val (.ref o4), .val (.int i5), .val (.int i6), .val (.int i7), .val (.int (f6_0 i6)), .unset, .unset] [(.int (1 : Int32))])) (fun t kt => ?_) ?_
        · show Steps p.tables e below (T2.setTop (mkF m 101 #[.val (.int i0), .val (.int i1), .val (.int i2), .val (.ref o3), .val (.ref o4), .val (.int i5), .val (.int i6), .val (.int i7), .val (.int (f6_0 i6)), .unset, .unset] [])) _
          refine XS.iconst X2.here hx rfl (hb hby at_101) ?_
          show Steps p.tables e below (T2.setTop (mkF m 102 #[.val (.int i0), .val (.int i1), .val (.int i2), .val (.ref o3), .val (.ref o4), .val (.int i5), .val (.int i6), .val (.int i7), .val (.int (f6_0 i6)), .unset, .unset] [(.int (1 : Int32))])) _
          refine XS.goto X2.here hx rfl (pc0 := 102) (pc' := 106) rfl (hb hby at_102) (by decide) (by decide) ?_
          exact kt
        exact b0_106 i0 i1 i2 o3 o4 i5 i6 i7 (f6_0 i6) (1 : Int32) X2 hx hZ hw hby hml hown hret hlk e2 N2 hS3 hS4 hG hd7 hr
def f0_70 (i1 : Int32) (i6 : Int32) : Int32 :=
  f0_76 i6 (i1 &&& (15 : Int32))
set_option maxRecDepth 65536 in
set_option maxHeartbeats 4000000 in
theorem b0_70 {p : Program} {l : Launch} {e : Env} {s : State} {m : MethodId} {args : Array Value} {below : List Frame} {meth : Method} {c : Code} {T0 : State} {locs : List Loc} {Z : State} {a0 : Array Value} {h0 : Heap} {n0 : Nat} (i0 : Int32) (i1 : Int32) (i2 : Int32) (o3 : Addr) (o4 : Addr) (i5 : Int32) (i6 : Int32) {r : Int32} (X0 : Stand p l e room_1 s m args below meth c T0 locs 4 136) (hx : p.tables.exec = Jvm.exec) (hZ : Z.Warmed39 s.vm) (hw : ∀ d ∈ tables_1, d.before a0 Z = true) (hby : c.code = code) (hml : c.maxLocals = 11) (hown : s.vm.findClass "com/example/prudent_validator/prudentvalidator/datatypes/BinaryHexDigitPinLaw" = some m.cls) (hret : meth.sig.returnType = some .boolean) (hlk : meth.locks = false) (e0 : T0.heap = h0) (N0 : Fr n0 locs) (hS3 : own_S Z h0 o3 own_lov) (hS4 : own_S Z h0 o4 own_upv) (hG : own_G Z h0) (hr : r = f0_70 i1 i6) :
    own_Ends p e below s 8 2112 (own_P (.int r) h0 n0) T0 (mkF m 70 #[.val (.int i0), .val (.int i1), .val (.int i2), .val (.ref o3), .val (.ref o4), .val (.int i5), .val (.int i6), .unset, .unset, .unset, .unset] []) := by
  unfold f0_70 at hr
  refine own_step (T' := T0) (f' := (mkF m 76 #[.val (.int i0), .val (.int i1), .val (.int i2), .val (.ref o3), .val (.ref o4), .val (.int i5), .val (.int i6), .val (.int (i1 &&& (15 : Int32))), .unset, .unset, .unset] [])) (fun t kt => ?_) ?_
  · show Steps p.tables e below (T0.setTop (mkF m 70 #[.val (.int i0), .val (.int i1), .val (.int i2), .val (.ref o3), .val (.ref o4), .val (.int i5), .val (.int i6), .unset, .unset, .unset, .unset] [])) _
    refine XS.iloadN X0.here hx rfl (hb hby at_70) rfl ?_
    show Steps p.tables e below (T0.setTop (mkF m 71 #[.val (.int i0), .val (.int i1), .val (.int i2), .val (.ref o3), .val (.ref o4), .val (.int i5), .val (.int i6), .unset, .unset, .unset, .unset] [(.int i1)])) _
    refine XS.bipush X0.here hx rfl (hb hby at_71) ?_
    show Steps p.tables e below (T0.setTop (mkF m 73 #[.val (.int i0), .val (.int i1), .val (.int i2), .val (.ref o3), .val (.ref o4), .val (.int i5), .val (.int i6), .unset, .unset, .unset, .unset] [(.int (15 : Int32)), (.int i1)])) _
    refine XS.iand X0.here hx rfl (hb hby at_73) rfl ?_
    show Steps p.tables e below (T0.setTop (mkF m 74 #[.val (.int i0), .val (.int i1), .val (.int i2), .val (.ref o3), .val (.ref o4), .val (.int i5), .val (.int i6), .unset, .unset, .unset, .unset] [(.int (i1 &&& (15 : Int32)))])) _
    refine XS.istore X0.here hx rfl (hb hby at_74) rfl (l' := #[.val (.int i0), .val (.int i1), .val (.int i2), .val (.ref o3), .val (.ref o4), .val (.int i5), .val (.int i6), .val (.int (i1 &&& (15 : Int32))), .unset, .unset, .unset]) rfl ?_
    exact kt
  exact b0_76 i0 i1 i2 o3 o4 i5 i6 (i1 &&& (15 : Int32)) X0 hx hZ hw hby hml hown hret hlk e0 N0 hS3 hS4 hG (own_15 _) hr
def f0_7 (i0 : Int32) (i1 : Int32) (i2 : Int32) : Int32 :=
  if (i2 &&& (3 : Int32)) = (0 : Int32) then (f0_70 i1 (i0.toUInt32.toUInt16.toUInt32.toInt32)) else (if (i2 &&& (3 : Int32)) = (1 : Int32) then (f0_70 i1 (f1s_0 (i0 &&& (15 : Int32)) (own_lo (i0 &&& (15 : Int32))))) else (if (i2 &&& (3 : Int32)) = (2 : Int32) then (f0_70 i1 (f1s_0 (i0 &&& (15 : Int32)) (own_up (i0 &&& (15 : Int32))))) else (f0_70 i1 ((i0 &&& (127 : Int32)).toUInt32.toUInt16.toUInt32.toInt32))))
set_option maxRecDepth 65536 in
set_option maxHeartbeats 4000000 in
theorem b0_7 {p : Program} {l : Launch} {e : Env} {s : State} {m : MethodId} {args : Array Value} {below : List Frame} {meth : Method} {c : Code} {T0 : State} {locs : List Loc} {Z : State} {a0 : Array Value} {h0 : Heap} {n0 : Nat} (i0 : Int32) (i1 : Int32) (i2 : Int32) (o3 : Addr) (o4 : Addr) {r : Int32} (X0 : Stand p l e room_1 s m args below meth c T0 locs 4 136) (hx : p.tables.exec = Jvm.exec) (hZ : Z.Warmed39 s.vm) (hw : ∀ d ∈ tables_1, d.before a0 Z = true) (hby : c.code = code) (hml : c.maxLocals = 11) (hown : s.vm.findClass "com/example/prudent_validator/prudentvalidator/datatypes/BinaryHexDigitPinLaw" = some m.cls) (hret : meth.sig.returnType = some .boolean) (hlk : meth.locks = false) (e0 : T0.heap = h0) (N0 : Fr n0 locs) (hS3 : own_S Z h0 o3 own_lov) (hS4 : own_S Z h0 o4 own_upv) (hG : own_G Z h0) (hr : r = f0_7 i0 i1 i2) :
    own_Ends p e below s 8 2112 (own_P (.int r) h0 n0) T0 (mkF m 7 #[.val (.int i0), .val (.int i1), .val (.int i2), .val (.ref o3), .val (.ref o4), .unset, .unset, .unset, .unset, .unset, .unset] []) := by
  unfold f0_7 at hr
  refine own_step (T' := T0) (f' := (mkF m 14 #[.val (.int i0), .val (.int i1), .val (.int i2), .val (.ref o3), .val (.ref o4), .val (.int (i2 &&& (3 : Int32))), .unset, .unset, .unset, .unset, .unset] [(.int (i2 &&& (3 : Int32)))])) (fun t kt => ?_) ?_
  · show Steps p.tables e below (T0.setTop (mkF m 7 #[.val (.int i0), .val (.int i1), .val (.int i2), .val (.ref o3), .val (.ref o4), .unset, .unset, .unset, .unset, .unset, .unset] [])) _
    refine XS.iloadN X0.here hx rfl (hb hby at_7) rfl ?_
    show Steps p.tables e below (T0.setTop (mkF m 8 #[.val (.int i0), .val (.int i1), .val (.int i2), .val (.ref o3), .val (.ref o4), .unset, .unset, .unset, .unset, .unset, .unset] [(.int i2)])) _
    refine XS.iconst X0.here hx rfl (hb hby at_8) ?_
    show Steps p.tables e below (T0.setTop (mkF m 9 #[.val (.int i0), .val (.int i1), .val (.int i2), .val (.ref o3), .val (.ref o4), .unset, .unset, .unset, .unset, .unset, .unset] [(.int (3 : Int32)), (.int i2)])) _
    refine XS.iand X0.here hx rfl (hb hby at_9) rfl ?_
    show Steps p.tables e below (T0.setTop (mkF m 10 #[.val (.int i0), .val (.int i1), .val (.int i2), .val (.ref o3), .val (.ref o4), .unset, .unset, .unset, .unset, .unset, .unset] [(.int (i2 &&& (3 : Int32)))])) _
    refine XS.istore X0.here hx rfl (hb hby at_10) rfl (l' := #[.val (.int i0), .val (.int i1), .val (.int i2), .val (.ref o3), .val (.ref o4), .val (.int (i2 &&& (3 : Int32))), .unset, .unset, .unset, .unset, .unset]) rfl ?_
    show Steps p.tables e below (T0.setTop (mkF m 12 #[.val (.int i0), .val (.int i1), .val (.int i2), .val (.ref o3), .val (.ref o4), .val (.int (i2 &&& (3 : Int32))), .unset, .unset, .unset, .unset, .unset] [])) _
    refine XS.iload X0.here hx rfl (hb hby at_12) rfl ?_
    exact kt
  by_cases hc14_1 : (i2 &&& (3 : Int32)) = (0 : Int32)
  · replace hr := hr.trans (if_pos hc14_1)
    refine own_step (T' := T0) (f' := (mkF m 17 #[.val (.int i0), .val (.int i1), .val (.int i2), .val (.ref o3), .val (.ref o4), .val (.int (i2 &&& (3 : Int32))), .unset, .unset, .unset, .unset, .unset] [])) (fun t kt => ?_) ?_
    · show Steps p.tables e below (T0.setTop (mkF m 14 #[.val (.int i0), .val (.int i1), .val (.int i2), .val (.ref o3), .val (.ref o4), .val (.int (i2 &&& (3 : Int32))), .unset, .unset, .unset, .unset, .unset] [(.int (i2 &&& (3 : Int32)))])) _
      refine XS.ifNo X0.here hx rfl (hb hby at_14) rfl ((if0 _ _).trans (teq hc14_1).2) kt
    refine own_step (T' := T0) (f' := (mkF m 70 #[.val (.int i0), .val (.int i1), .val (.int i2), .val (.ref o3), .val (.ref o4), .val (.int (i2 &&& (3 : Int32))), .val (.int (i0.toUInt32.toUInt16.toUInt32.toInt32)), .unset, .unset, .unset, .unset] [])) (fun t kt => ?_) ?_
    · show Steps p.tables e below (T0.setTop (mkF m 17 #[.val (.int i0), .val (.int i1), .val (.int i2), .val (.ref o3), .val (.ref o4), .val (.int (i2 &&& (3 : Int32))), .unset, .unset, .unset, .unset, .unset] [])) _
      refine XS.iloadN X0.here hx rfl (hb hby at_17) rfl ?_
      show Steps p.tables e below (T0.setTop (mkF m 18 #[.val (.int i0), .val (.int i1), .val (.int i2), .val (.ref o3), .val (.ref o4), .val (.int (i2 &&& (3 : Int32))), .unset, .unset, .unset, .unset, .unset] [(.int i0)])) _
      refine XS.i2c X0.here hx rfl (hb hby at_18) rfl ?_
      show Steps p.tables e below (T0.setTop (mkF m 19 #[.val (.int i0), .val (.int i1), .val (.int i2), .val (.ref o3), .val (.ref o4), .val (.int (i2 &&& (3 : Int32))), .unset, .unset, .unset, .unset, .unset] [(.int (i0.toUInt32.toUInt16.toUInt32.toInt32))])) _
      refine XS.istore X0.here hx rfl (hb hby at_19) rfl (l' := #[.val (.int i0), .val (.int i1), .val (.int i2), .val (.ref o3), .val (.ref o4), .val (.int (i2 &&& (3 : Int32))), .val (.int (i0.toUInt32.toUInt16.toUInt32.toInt32)), .unset, .unset, .unset, .unset]) rfl ?_
      show Steps p.tables e below (T0.setTop (mkF m 21 #[.val (.int i0), .val (.int i1), .val (.int i2), .val (.ref o3), .val (.ref o4), .val (.int (i2 &&& (3 : Int32))), .val (.int (i0.toUInt32.toUInt16.toUInt32.toInt32)), .unset, .unset, .unset, .unset] [])) _
      refine XS.goto X0.here hx rfl (pc0 := 21) (pc' := 70) rfl (hb hby at_21) (by decide) (by decide) ?_
      exact kt
    exact b0_70 i0 i1 i2 o3 o4 (i2 &&& (3 : Int32)) (i0.toUInt32.toUInt16.toUInt32.toInt32) X0 hx hZ hw hby hml hown hret hlk e0 N0 hS3 hS4 hG hr
  · replace hr := hr.trans (if_neg hc14_1)
    refine own_step (T' := T0) (f' := (mkF m 24 #[.val (.int i0), .val (.int i1), .val (.int i2), .val (.ref o3), .val (.ref o4), .val (.int (i2 &&& (3 : Int32))), .unset, .unset, .unset, .unset, .unset] [])) (fun t kt => ?_) ?_
    · show Steps p.tables e below (T0.setTop (mkF m 14 #[.val (.int i0), .val (.int i1), .val (.int i2), .val (.ref o3), .val (.ref o4), .val (.int (i2 &&& (3 : Int32))), .unset, .unset, .unset, .unset, .unset] [(.int (i2 &&& (3 : Int32)))])) _
      refine XS.ifYes X0.here hx rfl (pc0 := 14) (pc' := 24) rfl (hb hby at_14) rfl ((if0 _ _).trans (feq hc14_1).2) (by decide) (by decide) kt
    refine own_step (T' := T0) (f' := (mkF m 27 #[.val (.int i0), .val (.int i1), .val (.int i2), .val (.ref o3), .val (.ref o4), .val (.int (i2 &&& (3 : Int32))), .unset, .unset, .unset, .unset, .unset] [(.int (1 : Int32)), (.int (i2 &&& (3 : Int32)))])) (fun t kt => ?_) ?_
    · show Steps p.tables e below (T0.setTop (mkF m 24 #[.val (.int i0), .val (.int i1), .val (.int i2), .val (.ref o3), .val (.ref o4), .val (.int (i2 &&& (3 : Int32))), .unset, .unset, .unset, .unset, .unset] [])) _
      refine XS.iload X0.here hx rfl (hb hby at_24) rfl ?_
      show Steps p.tables e below (T0.setTop (mkF m 26 #[.val (.int i0), .val (.int i1), .val (.int i2), .val (.ref o3), .val (.ref o4), .val (.int (i2 &&& (3 : Int32))), .unset, .unset, .unset, .unset, .unset] [(.int (i2 &&& (3 : Int32)))])) _
      refine XS.iconst X0.here hx rfl (hb hby at_26) ?_
      exact kt
    by_cases hc27_13 : (i2 &&& (3 : Int32)) = (1 : Int32)
    · replace hr := hr.trans (if_pos hc27_13)
      refine own_step (T' := T0) (f' := (mkF m 30 #[.val (.int i0), .val (.int i1), .val (.int i2), .val (.ref o3), .val (.ref o4), .val (.int (i2 &&& (3 : Int32))), .unset, .unset, .unset, .unset, .unset] [])) (fun t kt => ?_) ?_
      · show Steps p.tables e below (T0.setTop (mkF m 27 #[.val (.int i0), .val (.int i1), .val (.int i2), .val (.ref o3), .val (.ref o4), .val (.int (i2 &&& (3 : Int32))), .unset, .unset, .unset, .unset, .unset] [(.int (1 : Int32)), (.int (i2 &&& (3 : Int32)))])) _
        refine XS.icmpNo X0.here hx rfl (hb hby at_27) rfl (teq hc27_13).2 kt
      refine own_step (T' := T0) (f' := (mkF m 35 #[.val (.int i0), .val (.int i1), .val (.int i2), .val (.ref o3), .val (.ref o4), .val (.int (i2 &&& (3 : Int32))), .unset, .unset, .unset, .unset, .unset] [(.int (i0 &&& (15 : Int32))), (.ref o3)])) (fun t kt => ?_) ?_
      · show Steps p.tables e below (T0.setTop (mkF m 30 #[.val (.int i0), .val (.int i1), .val (.int i2), .val (.ref o3), .val (.ref o4), .val (.int (i2 &&& (3 : Int32))), .unset, .unset, .unset, .unset, .unset] [])) _
        refine XS.aloadN X0.here hx rfl (hb hby at_30) rfl rfl ?_
        show Steps p.tables e below (T0.setTop (mkF m 31 #[.val (.int i0), .val (.int i1), .val (.int i2), .val (.ref o3), .val (.ref o4), .val (.int (i2 &&& (3 : Int32))), .unset, .unset, .unset, .unset, .unset] [(.ref o3)])) _
        refine XS.iloadN X0.here hx rfl (hb hby at_31) rfl ?_
        show Steps p.tables e below (T0.setTop (mkF m 32 #[.val (.int i0), .val (.int i1), .val (.int i2), .val (.ref o3), .val (.ref o4), .val (.int (i2 &&& (3 : Int32))), .unset, .unset, .unset, .unset, .unset] [(.int i0), (.ref o3)])) _
        refine XS.bipush X0.here hx rfl (hb hby at_32) ?_
        show Steps p.tables e below (T0.setTop (mkF m 34 #[.val (.int i0), .val (.int i1), .val (.int i2), .val (.ref o3), .val (.ref o4), .val (.int (i2 &&& (3 : Int32))), .unset, .unset, .unset, .unset, .unset] [(.int (15 : Int32)), (.int i0), (.ref o3)])) _
        refine XS.iand X0.here hx rfl (hb hby at_34) rfl ?_
        exact kt
      obtain ⟨cq14, kq14, qa14, qb14, qc14⟩ := isOf hZ e0 hS3.1
      obtain ⟨_, _, ⟨T14, L14, k14, n14⟩, -, X14, ⟨Lc14, hQ14, l14, y14, z14⟩, st14⟩ := X0.virtualBack hx (y := (⟨"java/lang/String", "charAt", "(I)C"⟩ : MethodName)) (z := (⟨"java/lang/String", "charAt", "(I)C"⟩ : MethodName)) hown (mvT hZ (hw _ (List.mem_of_getElem? (i := 9) rfl))) (mvT hZ (hw _ (List.mem_of_getElem? (i := 10) rfl))) (notFace_of_selects (args := #[]) (mvT hZ (hw _ (List.mem_of_getElem? (i := 12) rfl)))) (mvT hZ (hw _ (List.mem_of_getElem? (i := 12) rfl))) (mvT hZ (hw _ (List.mem_of_getElem? (i := 11) rfl))) (by decide) (backOf (W := 0) (rm1s l Z a0 hw [] o3 (i0 &&& (15 : Int32)) (own_lo (i0 &&& (15 : Int32))) own_lov h0 n0 hS3 hG rfl (own_15 i0).1 (own_15 i0).2 (own_lox _ (own_15 i0).1 (own_15 i0).2)) hZ (hw _ (List.mem_of_getElem? (i := 13) rfl)) (hw _ (List.mem_of_getElem? (i := 1) rfl)) (by decide) (by decide)) qa14 qc14 (g := (mkF m 35 #[.val (.int i0), .val (.int i1), .val (.int i2), .val (.ref o3), .val (.ref o4), .val (.int (i2 &&& (3 : Int32))), .unset, .unset, .unset, .unset, .unset] [(.int (i0 &&& (15 : Int32))), (.ref o3)])) rfl (by rw [hml]; rfl) (Steps.refl _) (argsL := [(.int (i0 &&& (15 : Int32)))]) (rest := []) (lenOf pd1 rfl) rfl (by show 2 * 0 + _ ≤ _; exact Nat.le_of_eq rfl) (hb hby at_35) (fun _ _ => ⟨rfl, e0, (by decide : 4 + 0 ≤ _), (by decide : 136 + 0 ≤ _)⟩)
      dsimp only [Pt.U, Pt.locs, Pt.cells, Pt.slots] at X14 l14 y14 z14 st14 hQ14
      subst l14 y14 z14
      obtain ⟨rfl, Nq14, e14⟩ := hQ14
      have N14 := Fr.app N0 Nq14
      refine own_step (T' := T14) (f' := (mkF m 38 #[.val (.int i0), .val (.int i1), .val (.int i2), .val (.ref o3), .val (.ref o4), .val (.int (i2 &&& (3 : Int32))), .unset, .unset, .unset, .unset, .unset] [(.int (f1s_0 (i0 &&& (15 : Int32)) (own_lo (i0 &&& (15 : Int32)))))])) (fun t k => st14.trans k) ?_
      refine own_step (T' := T14) (f' := (mkF m 70 #[.val (.int i0), .val (.int i1), .val (.int i2), .val (.ref o3), .val (.ref o4), .val (.int (i2 &&& (3 : Int32))), .val (.int (f1s_0 (i0 &&& (15 : Int32)) (own_lo (i0 &&& (15 : Int32))))), .unset, .unset, .unset, .unset] [])) (fun t kt => ?_) ?_
      · show Steps p.tables e below (T14.setTop (mkF m 38 #[.val (.int i0), .val (.int i1), .val (.int i2), .val (.ref o3), .val (.ref o4), .val (.int (i2 &&& (3 : Int32))), .unset, .unset, .unset, .unset, .unset] [(.int (f1s_0 (i0 &&& (15 : Int32)) (own_lo (i0 &&& (15 : Int32)))))])) _
        refine XS.istore X14.here hx rfl (hb hby at_38) rfl (l' := #[.val (.int i0), .val (.int i1), .val (.int i2), .val (.ref o3), .val (.ref o4), .val (.int (i2 &&& (3 : Int32))), .val (.int (f1s_0 (i0 &&& (15 : Int32)) (own_lo (i0 &&& (15 : Int32))))), .unset, .unset, .unset, .unset]) rfl ?_
        show Steps p.tables e below (T14.setTop (mkF m 40 #[.val (.int i0), .val (.int i1), .val (.int i2), .val (.ref o3), .val (.ref o4), .val (.int (i2 &&& (3 : Int32))), .val (.int (f1s_0 (i0 &&& (15 : Int32)) (own_lo (i0 &&& (15 : Int32))))), .unset, .unset, .unset, .unset] [])) _
        refine XS.goto X14.here hx rfl (pc0 := 40) (pc' := 70) rfl (hb hby at_40) (by decide) (by decide) ?_
        exact kt
      exact b0_70 i0 i1 i2 o3 o4 (i2 &&& (3 : Int32)) (f1s_0 (i0 &&& (15 : Int32)) (own_lo (i0 &&& (15 : Int32)))) X14 hx hZ hw hby hml hown hret hlk e14 N14 hS3 hS4 hG hr
    · replace hr := hr.trans (if_neg hc27_13)
      refine own_step (T' := T0) (f' := (mkF m 43 #[.val (.int i0), .val (.int i1), .val (.int i2), .val (.ref o3), .val (.ref o4), .val (.int (i2 &&& (3 : Int32))), .unset, .unset, .unset, .unset, .unset] [])) (fun t kt => ?_) ?_
      · show Steps p.tables e below (T0.setTop (mkF m 27 #[.val (.int i0), .val (.int i1), .val (.int i2), .val (.ref o3), .val (.ref o4), .val (.int (i2 &&& (3 : Int32))), .unset, .unset, .unset, .unset, .unset] [(.int (1 : Int32)), (.int (i2 &&& (3 : Int32)))])) _
        refine XS.icmpYes X0.here hx rfl (pc0 := 27) (pc' := 43) rfl (hb hby at_27) rfl (feq hc27_13).2 (by decide) (by decide) kt
      refine own_step (T' := T0) (f' := (mkF m 46 #[.val (.int i0), .val (.int i1), .val (.int i2), .val (.ref o3), .val (.ref o4), .val (.int (i2 &&& (3 : Int32))), .unset, .unset, .unset, .unset, .unset] [(.int (2 : Int32)), (.int (i2 &&& (3 : Int32)))])) (fun t kt => ?_) ?_
      · show Steps p.tables e below (T0.setTop (mkF m 43 #[.val (.int i0), .val (.int i1), .val (.int i2), .val (.ref o3), .val (.ref o4), .val (.int (i2 &&& (3 : Int32))), .unset, .unset, .unset, .unset, .unset] [])) _
        refine XS.iload X0.here hx rfl (hb hby at_43) rfl ?_
        show Steps p.tables e below (T0.setTop (mkF m 45 #[.val (.int i0), .val (.int i1), .val (.int i2), .val (.ref o3), .val (.ref o4), .val (.int (i2 &&& (3 : Int32))), .unset, .unset, .unset, .unset, .unset] [(.int (i2 &&& (3 : Int32)))])) _
        refine XS.iconst X0.here hx rfl (hb hby at_45) ?_
        exact kt
      by_cases hc46_15 : (i2 &&& (3 : Int32)) = (2 : Int32)
      · replace hr := hr.trans (if_pos hc46_15)
        refine own_step (T' := T0) (f' := (mkF m 49 #[.val (.int i0), .val (.int i1), .val (.int i2), .val (.ref o3), .val (.ref o4), .val (.int (i2 &&& (3 : Int32))), .unset, .unset, .unset, .unset, .unset] [])) (fun t kt => ?_) ?_
        · show Steps p.tables e below (T0.setTop (mkF m 46 #[.val (.int i0), .val (.int i1), .val (.int i2), .val (.ref o3), .val (.ref o4), .val (.int (i2 &&& (3 : Int32))), .unset, .unset, .unset, .unset, .unset] [(.int (2 : Int32)), (.int (i2 &&& (3 : Int32)))])) _
          refine XS.icmpNo X0.here hx rfl (hb hby at_46) rfl (teq hc46_15).2 kt
        refine own_step (T' := T0) (f' := (mkF m 55 #[.val (.int i0), .val (.int i1), .val (.int i2), .val (.ref o3), .val (.ref o4), .val (.int (i2 &&& (3 : Int32))), .unset, .unset, .unset, .unset, .unset] [(.int (i0 &&& (15 : Int32))), (.ref o4)])) (fun t kt => ?_) ?_
        · show Steps p.tables e below (T0.setTop (mkF m 49 #[.val (.int i0), .val (.int i1), .val (.int i2), .val (.ref o3), .val (.ref o4), .val (.int (i2 &&& (3 : Int32))), .unset, .unset, .unset, .unset, .unset] [])) _
          refine XS.aload X0.here hx rfl (hb hby at_49) rfl rfl ?_
          show Steps p.tables e below (T0.setTop (mkF m 51 #[.val (.int i0), .val (.int i1), .val (.int i2), .val (.ref o3), .val (.ref o4), .val (.int (i2 &&& (3 : Int32))), .unset, .unset, .unset, .unset, .unset] [(.ref o4)])) _
          refine XS.iloadN X0.here hx rfl (hb hby at_51) rfl ?_
          show Steps p.tables e below (T0.setTop (mkF m 52 #[.val (.int i0), .val (.int i1), .val (.int i2), .val (.ref o3), .val (.ref o4), .val (.int (i2 &&& (3 : Int32))), .unset, .unset, .unset, .unset, .unset] [(.int i0), (.ref o4)])) _
          refine XS.bipush X0.here hx rfl (hb hby at_52) ?_
          show Steps p.tables e below (T0.setTop (mkF m 54 #[.val (.int i0), .val (.int i1), .val (.int i2), .val (.ref o3), .val (.ref o4), .val (.int (i2 &&& (3 : Int32))), .unset, .unset, .unset, .unset, .unset] [(.int (15 : Int32)), (.int i0), (.ref o4)])) _
          refine XS.iand X0.here hx rfl (hb hby at_54) rfl ?_
          exact kt
        obtain ⟨cq16, kq16, qa16, qb16, qc16⟩ := isOf hZ e0 hS4.1
        obtain ⟨_, _, ⟨T16, L16, k16, n16⟩, -, X16, ⟨Lc16, hQ16, l16, y16, z16⟩, st16⟩ := X0.virtualBack hx (y := (⟨"java/lang/String", "charAt", "(I)C"⟩ : MethodName)) (z := (⟨"java/lang/String", "charAt", "(I)C"⟩ : MethodName)) hown (mvT hZ (hw _ (List.mem_of_getElem? (i := 9) rfl))) (mvT hZ (hw _ (List.mem_of_getElem? (i := 10) rfl))) (notFace_of_selects (args := #[]) (mvT hZ (hw _ (List.mem_of_getElem? (i := 12) rfl)))) (mvT hZ (hw _ (List.mem_of_getElem? (i := 12) rfl))) (mvT hZ (hw _ (List.mem_of_getElem? (i := 11) rfl))) (by decide) (backOf (W := 0) (rm1s l Z a0 hw [] o4 (i0 &&& (15 : Int32)) (own_up (i0 &&& (15 : Int32))) own_upv h0 n0 hS4 hG rfl (own_15 i0).1 (own_15 i0).2 (own_upx _ (own_15 i0).1 (own_15 i0).2)) hZ (hw _ (List.mem_of_getElem? (i := 13) rfl)) (hw _ (List.mem_of_getElem? (i := 1) rfl)) (by decide) (by decide)) qa16 qc16 (g := (mkF m 55 #[.val (.int i0), .val (.int i1), .val (.int i2), .val (.ref o3), .val (.ref o4), .val (.int (i2 &&& (3 : Int32))), .unset, .unset, .unset, .unset, .unset] [(.int (i0 &&& (15 : Int32))), (.ref o4)])) rfl (by rw [hml]; rfl) (Steps.refl _) (argsL := [(.int (i0 &&& (15 : Int32)))]) (rest := []) (lenOf pd1 rfl) rfl (by show 2 * 0 + _ ≤ _; exact Nat.le_of_eq rfl) (hb hby at_55) (fun _ _ => ⟨rfl, e0, (by decide : 4 + 0 ≤ _), (by decide : 136 + 0 ≤ _)⟩)
        dsimp only [Pt.U, Pt.locs, Pt.cells, Pt.slots] at X16 l16 y16 z16 st16 hQ16
        subst l16 y16 z16
        obtain ⟨rfl, Nq16, e16⟩ := hQ16
        have N16 := Fr.app N0 Nq16
        refine own_step (T' := T16) (f' := (mkF m 58 #[.val (.int i0), .val (.int i1), .val (.int i2), .val (.ref o3), .val (.ref o4), .val (.int (i2 &&& (3 : Int32))), .unset, .unset, .unset, .unset, .unset] [(.int (f1s_0 (i0 &&& (15 : Int32)) (own_up (i0 &&& (15 : Int32)))))])) (fun t k => st16.trans k) ?_
        refine own_step (T' := T16) (f' := (mkF m 70 #[.val (.int i0), .val (.int i1), .val (.int i2), .val (.ref o3), .val (.ref o4), .val (.int (i2 &&& (3 : Int32))), .val (.int (f1s_0 (i0 &&& (15 : Int32)) (own_up (i0 &&& (15 : Int32))))), .unset, .unset, .unset, .unset] [])) (fun t kt => ?_) ?_
        · show Steps p.tables e below (T16.setTop (mkF m 58 #[.val (.int i0), .val (.int i1), .val (.int i2), .val (.ref o3), .val (.ref o4), .val (.int (i2 &&& (3 : Int32))), .unset, .unset, .unset, .unset, .unset] [(.int (f1s_0 (i0 &&& (15 : Int32)) (own_up (i0 &&& (15 : Int32)))))])) _
          refine XS.istore X16.here hx rfl (hb hby at_58) rfl (l' := #[.val (.int i0), .val (.int i1), .val (.int i2), .val (.ref o3), .val (.ref o4), .val (.int (i2 &&& (3 : Int32))), .val (.int (f1s_0 (i0 &&& (15 : Int32)) (own_up (i0 &&& (15 : Int32))))), .unset, .unset, .unset, .unset]) rfl ?_
          show Steps p.tables e below (T16.setTop (mkF m 60 #[.val (.int i0), .val (.int i1), .val (.int i2), .val (.ref o3), .val (.ref o4), .val (.int (i2 &&& (3 : Int32))), .val (.int (f1s_0 (i0 &&& (15 : Int32)) (own_up (i0 &&& (15 : Int32))))), .unset, .unset, .unset, .unset] [])) _
          refine XS.goto X16.here hx rfl (pc0 := 60) (pc' := 70) rfl (hb hby at_60) (by decide) (by decide) ?_
          exact kt
        exact b0_70 i0 i1 i2 o3 o4 (i2 &&& (3 : Int32)) (f1s_0 (i0 &&& (15 : Int32)) (own_up (i0 &&& (15 : Int32)))) X16 hx hZ hw hby hml hown hret hlk e16 N16 hS3 hS4 hG hr
      · replace hr := hr.trans (if_neg hc46_15)
        refine own_step (T' := T0) (f' := (mkF m 63 #[.val (.int i0), .val (.int i1), .val (.int i2), .val (.ref o3), .val (.ref o4), .val (.int (i2 &&& (3 : Int32))), .unset, .unset, .unset, .unset, .unset] [])) (fun t kt => ?_) ?_
        · show Steps p.tables e below (T0.setTop (mkF m 46 #[.val (.int i0), .val (.int i1), .val (.int i2), .val (.ref o3), .val (.ref o4), .val (.int (i2 &&& (3 : Int32))), .unset, .unset, .unset, .unset, .unset] [(.int (2 : Int32)), (.int (i2 &&& (3 : Int32)))])) _
          refine XS.icmpYes X0.here hx rfl (pc0 := 46) (pc' := 63) rfl (hb hby at_46) rfl (feq hc46_15).2 (by decide) (by decide) kt
        refine own_step (T' := T0) (f' := (mkF m 70 #[.val (.int i0), .val (.int i1), .val (.int i2), .val (.ref o3), .val (.ref o4), .val (.int (i2 &&& (3 : Int32))), .val (.int ((i0 &&& (127 : Int32)).toUInt32.toUInt16.toUInt32.toInt32)), .unset, .unset, .unset, .unset] [])) (fun t kt => ?_) ?_
        · show Steps p.tables e below (T0.setTop (mkF m 63 #[.val (.int i0), .val (.int i1), .val (.int i2), .val (.ref o3), .val (.ref o4), .val (.int (i2 &&& (3 : Int32))), .unset, .unset, .unset, .unset, .unset] [])) _
          refine XS.iloadN X0.here hx rfl (hb hby at_63) rfl ?_
          show Steps p.tables e below (T0.setTop (mkF m 64 #[.val (.int i0), .val (.int i1), .val (.int i2), .val (.ref o3), .val (.ref o4), .val (.int (i2 &&& (3 : Int32))), .unset, .unset, .unset, .unset, .unset] [(.int i0)])) _
          refine XS.bipush X0.here hx rfl (hb hby at_64) ?_
          show Steps p.tables e below (T0.setTop (mkF m 66 #[.val (.int i0), .val (.int i1), .val (.int i2), .val (.ref o3), .val (.ref o4), .val (.int (i2 &&& (3 : Int32))), .unset, .unset, .unset, .unset, .unset] [(.int (127 : Int32)), (.int i0)])) _
          refine XS.iand X0.here hx rfl (hb hby at_66) rfl ?_
          show Steps p.tables e below (T0.setTop (mkF m 67 #[.val (.int i0), .val (.int i1), .val (.int i2), .val (.ref o3), .val (.ref o4), .val (.int (i2 &&& (3 : Int32))), .unset, .unset, .unset, .unset, .unset] [(.int (i0 &&& (127 : Int32)))])) _
          refine XS.i2c X0.here hx rfl (hb hby at_67) rfl ?_
          show Steps p.tables e below (T0.setTop (mkF m 68 #[.val (.int i0), .val (.int i1), .val (.int i2), .val (.ref o3), .val (.ref o4), .val (.int (i2 &&& (3 : Int32))), .unset, .unset, .unset, .unset, .unset] [(.int ((i0 &&& (127 : Int32)).toUInt32.toUInt16.toUInt32.toInt32))])) _
          refine XS.istore X0.here hx rfl (hb hby at_68) rfl (l' := #[.val (.int i0), .val (.int i1), .val (.int i2), .val (.ref o3), .val (.ref o4), .val (.int (i2 &&& (3 : Int32))), .val (.int ((i0 &&& (127 : Int32)).toUInt32.toUInt16.toUInt32.toInt32)), .unset, .unset, .unset, .unset]) rfl ?_
          exact kt
        exact b0_70 i0 i1 i2 o3 o4 (i2 &&& (3 : Int32)) ((i0 &&& (127 : Int32)).toUInt32.toUInt16.toUInt32.toInt32) X0 hx hZ hw hby hml hown hret hlk e0 N0 hS3 hS4 hG hr
theorem own_hex (c : Int32) : (48 ≤ c.toInt ∧ c.toInt ≤ 57 ∧ (f6_0 c).toInt = c.toInt - 48) ∨ (97 ≤ c.toInt ∧ c.toInt ≤ 102 ∧ (f6_0 c).toInt = c.toInt - 87) ∨ (65 ≤ c.toInt ∧ c.toInt ≤ 70 ∧ (f6_0 c).toInt = c.toInt - 55) ∨ ((c.toInt < 48 ∨ (57 < c.toInt ∧ c.toInt < 65) ∨ (70 < c.toInt ∧ c.toInt < 97) ∨ 102 < c.toInt) ∧ (f6_0 c).toInt = -1) := by
  have z48 : (48 : Int32).toInt = 48 := rfl
  have z57 : (57 : Int32).toInt = 57 := rfl
  have z97 : (97 : Int32).toInt = 97 := rfl
  have z102 : (102 : Int32).toInt = 102 := rfl
  have z65 : (65 : Int32).toInt = 65 := rfl
  have z70 : (70 : Int32).toInt = 70 := rfl
  have z10 : (10 : Int32).toInt = 10 := rfl
  have zm : (-1 : Int32).toInt = -1 := rfl
  have l1 := Int32.le_toInt c
  have l2 := Int32.toInt_lt c
  have s1 := c_isub c 48
  have s1l := Int32.le_toInt (c - 48)
  have s1u := Int32.toInt_lt (c - 48)
  have s2 := c_isub c 97
  have s2l := Int32.le_toInt (c - 97)
  have s2u := Int32.toInt_lt (c - 97)
  have a2 := c_iadd (c - 97) 10
  have a2l := Int32.le_toInt (c - 97 + 10)
  have a2u := Int32.toInt_lt (c - 97 + 10)
  have s3 := c_isub c 65
  have s3l := Int32.le_toInt (c - 65)
  have s3u := Int32.toInt_lt (c - 65)
  have a3 := c_iadd (c - 65) 10
  have a3l := Int32.le_toInt (c - 65 + 10)
  have a3u := Int32.toInt_lt (c - 65 + 10)
  rw [z48] at s1; rw [z97] at s2; rw [z65] at s3; rw [z10] at a2 a3
  unfold f6_0 f6_22 f6_45 f6_65
  simp only [Int32.lt_iff_toInt_lt, z48, z57, z97, z102, z65, z70]
  by_cases h1 : c.toInt < 48
  · rw [if_pos h1, if_pos (by omega), if_pos (by omega)]; right; right; right; exact ⟨Or.inl h1, zm⟩
  · rw [if_neg h1]
    by_cases h2 : 57 < c.toInt
    · rw [if_pos h2]
      by_cases h3 : c.toInt < 97
      · rw [if_pos h3]
        by_cases h4 : c.toInt < 65
        · rw [if_pos h4]; right; right; right; exact ⟨Or.inr (Or.inl ⟨h2, h4⟩), zm⟩
        · rw [if_neg h4]
          by_cases h5 : 70 < c.toInt
          · rw [if_pos h5]; right; right; right; exact ⟨Or.inr (Or.inr (Or.inl ⟨h5, h3⟩)), zm⟩
          · rw [if_neg h5]; right; right; left; exact ⟨by omega, by omega, by omega⟩
      · rw [if_neg h3]
        by_cases h4 : 102 < c.toInt
        · rw [if_pos h4, if_neg (by omega), if_pos (by omega)]; right; right; right; exact ⟨Or.inr (Or.inr (Or.inr h4)), zm⟩
        · rw [if_neg h4]; right; left; exact ⟨by omega, by omega, by omega⟩
    · rw [if_neg h2]; left; exact ⟨by omega, by omega, by omega⟩
theorem own_tabs (d : Int32) (h0 : ¬ d < (0 : Int32)) (h1 : d < (16 : Int32)) : 0 ≤ d.toInt ∧ d.toInt < 16 ∧ (f1s_0 d (own_lo d)).toInt = (if d.toInt < 10 then 48 + d.toInt else 87 + d.toInt) ∧ (f1s_0 d (own_up d)).toInt = (if d.toInt < 10 then 48 + d.toInt else 55 + d.toInt) := by
  obtain ⟨k, rfl⟩ := own_nat h0 h1
  clear h0 h1
  revert k
  decide +kernel
theorem own_76 (c d : Int32) (h0 : ¬ d < (0 : Int32)) (h1 : d < (16 : Int32)) : f0_76 c d = 1 := by
  obtain ⟨d0, d1, hl, hu⟩ := own_tabs d h0 h1
  have hx := own_hex c
  have key : ((f6_0 c) = d ↔ (c = f1s_0 d (own_lo d) ∨ c = f1s_0 d (own_up d))) ∧ (f6_0 c = -1 ∨ (¬ f6_0 c < (0 : Int32) ∧ ¬ (15 : Int32) < f6_0 c)) := by
    have zm : (-1 : Int32).toInt = -1 := rfl
    have z0 : (0 : Int32).toInt = 0 := rfl
    have z15 : (15 : Int32).toInt = 15 := rfl
    simp only [← Int32.toInt_inj, Int32.lt_iff_toInt_lt, hl, hu, zm, z0, z15]
    generalize (f6_0 c).toInt = r at *
    generalize c.toInt = x at *
    generalize d.toInt = y at *
    refine ⟨⟨fun e => ?_, fun e => ?_⟩, ?_⟩
    · by_cases q : y < 10
      · rw [if_pos q, if_pos q]; omega
      · rw [if_neg q, if_neg q]; omega
    · by_cases q : y < 10
      · rw [if_pos q, if_pos q] at e; omega
      · rw [if_neg q, if_neg q] at e; omega
    · omega
  obtain ⟨k1, k2⟩ := key
  unfold f0_76 f0_105 f0_106 f0_131 f0_135 f0_136 f0_155 f0_164
  generalize f6_0 c = r at *
  generalize f1s_0 d (own_lo d) = L at *
  generalize f1s_0 d (own_up d) = U at *
  have n1 : ¬ (1 : Int32) = 0 := by decide
  have n2 : ¬ (0 : Int32) = 1 := by decide
  by_cases e4 : c = L
  · have e6 : r = d := k1.mpr (Or.inl e4)
    rcases k2 with e1 | ⟨e2, e3⟩
    · rw [if_pos e1, if_pos e4, if_neg n1, if_pos e6, if_pos rfl]
    · by_cases e1 : r = -1
      · rw [if_pos e1, if_pos e4, if_neg n1, if_pos e6, if_pos rfl]
      · rw [if_neg e1, if_neg e2, if_neg e3, if_pos e4, if_neg n1, if_pos e6, if_pos rfl]
  · by_cases e5 : c = U
    · have e6 : r = d := k1.mpr (Or.inr e5)
      rcases k2 with e1 | ⟨e2, e3⟩
      · rw [if_pos e1, if_neg e4, if_pos e5, if_neg n1, if_pos e6, if_pos rfl]
      · by_cases e1 : r = -1
        · rw [if_pos e1, if_neg e4, if_pos e5, if_neg n1, if_pos e6, if_pos rfl]
        · rw [if_neg e1, if_neg e2, if_neg e3, if_neg e4, if_pos e5, if_neg n1, if_pos e6, if_pos rfl]
    · have e6 : ¬ r = d := fun q => (k1.mp q).elim e4 e5
      rcases k2 with e1 | ⟨e2, e3⟩
      · rw [if_pos e1, if_neg e4, if_neg e5, if_neg n1, if_neg e6, if_pos rfl]
      · by_cases e1 : r = -1
        · rw [if_pos e1, if_neg e4, if_neg e5, if_neg n1, if_neg e6, if_pos rfl]
        · rw [if_neg e1, if_neg e2, if_neg e3, if_neg e4, if_neg e5, if_neg n1, if_neg e6, if_pos rfl]
theorem law_true (p0 p1 p2 : Int32) : f0_7 p0 p1 p2 = 1 := by
  unfold f0_7 f0_70
  simp only [own_76 _ _ (own_15 p1).1 (own_15 p1).2, ite_self]
set_option maxRecDepth 65536 in
set_option maxHeartbeats 4000000 in
theorem rm0 (l : Launch) (Z : State) (a0 : Array Value) (hw : ∀ d ∈ tables_1, d.before a0 Z = true) (ws : List Jvm.Cond) (p0 p1 p2 : Int32) (hG : own_G Z Z.heap) (hh7 : Jvm.Lit.constHeld Z x.cls 7) (hh9 : Jvm.Lit.constHeld Z x.cls 9) (hcw : Jvm.Lit.compactW.before a0 Z = true) :
    MetFree l x (head1 (Jvm.Cond.code x code maxLocals ret :: ws) room_1) (fun a U => a = #[(.int p0), (.int p1), (.int p2)] ∧ U = Z) (fun _ _ _ _ _ => True) (fun _ U o U' => ∃ v L, o = .returned v ∧ (v = some (.int (f0_7 p0 p1 p2)) ∧ Fr U.heap.size L) ∧ ReturnedEndW U o U' L 8 2112) := by
  refine MetFree.of_bodySF (plainFor_of_name pn0) hisR ?_
  intro p e s m args below meth c s₁ Bd hml0 hP hK
  obtain ⟨rfl, rfl⟩ := hP
  have hx := Bd.exec
  have hby := Bd.bytes
  have hown : s.vm.findClass x.cls = some m.cls := findClass_of_methodNamed Bd.named
  have X0 : Stand p l e room_1 (s.setVm s.vm) m #[(.int p0), (.int p1), (.int p2)] below meth c s₁ [] 0 0 := Stand.of_body Bd
  have e0 : s₁.heap = s.heap := by rw [Bd.state]; rfl
  have wS : ∀ a ∈ Bundle.stringAtoms, a.before a0 s = true := fun d hd => hw d ((by decide +kernel : ∀ d ∈ Bundle.stringAtoms, d ∈ tables_1) d hd)
  obtain ⟨o3, T1, h1, k1, b1, kk1, X1, e1, E1, S1, g1, W1, w1, A3, C3, V3, K3, -, -, I1, st1⟩ := ldcSV (s := s) (vm0 := s.vm) X0 hx (State.Warmed39.refl s) hown (hw _ (List.mem_of_getElem? (i := 0) rfl)) wS e0 ((State.WarmedH.refl s).since s.heap.size) (Nat.le_refl _) (Fr.nil _) (fun _ _ q => q) IB.start (by simp) hh7 hcw (vs := own_lov) (z := (16 : Int32)) (by decide +kernel) (by decide) (by decide +kernel) (g := (mkF m 0 #[.val (.int p0), .val (.int p1), .val (.int p2), .unset, .unset, .unset, .unset, .unset, .unset, .unset, .unset] [])) rfl (hb hby at_0) (n := 64) (by decide +kernel) (by decide) (by decide) (by decide)
  obtain ⟨o4, T2, h2, k2, b2, kk2, X2, e2, E2, S2, g2, W2, w2, A4, C4, V4, K4, -, -, I2, st2⟩ := ldcSV (s := s) (vm0 := T1.vm) X1 hx W1 w1 (hw _ (List.mem_of_getElem? (i := 8) rfl)) wS e1 S1 g1 (Fr.nil _) (fun _ _ q => q) I1 (by decide +kernel) hh9 hcw (vs := own_upv) (z := (16 : Int32)) (by decide +kernel) (by decide) (by decide +kernel) (g := (mkF m 3 #[.val (.int p0), .val (.int p1), .val (.int p2), .val (.ref o3), .unset, .unset, .unset, .unset, .unset, .unset, .unset] [])) rfl (hb hby at_3) (n := 64) (by decide +kernel) (by decide) (by decide) (by decide)
  have hS3 : own_S s h2 o3 own_lov := own_S.ext ⟨A3, C3, b1, V3, own_ofArv K3 (by decide +kernel)⟩ E2
  have hS4 : own_S s h2 o4 own_upv := ⟨A4, C4, b2, V4, own_ofArv K4 (by decide +kernel)⟩
  have hG2 : own_G s h2 := (hG.ext E1).ext E2
  obtain ⟨s₂, o, hs, hrun, hend, v, L, rfl, ⟨hv, hF, hh⟩, hfe⟩ := b0_7 p0 p1 p2 o3 o4 X2 hx W2 hw hby hml0 w2 Bd.returns (BodyLoose.notSynchronized Bd) e2 (Fr.nil s.heap.size) hS3 hS4 hG2 rfl
  obtain ⟨qa, qb, qc⟩ := S2.ended (U := s₂) hfe.2.1 (by rw [hh]; exact g2) hfe.2.2
  refine ⟨s₂, _, ?_, hrun, hend, v, L, rfl, ⟨hv, hF⟩, ⟨_, rfl⟩, qa, qb, qc⟩
  refine castTop (ef0 m p0 p1 p2) ?_
  refine st1 _ ?_
  show Steps p.tables e below (T1.setTop (mkF m 2 #[.val (.int p0), .val (.int p1), .val (.int p2), .unset, .unset, .unset, .unset, .unset, .unset, .unset, .unset] [(.ref o3)])) _
  refine XS.astoreN X1.here hx rfl (hb hby at_2) rfl rfl (l' := #[.val (.int p0), .val (.int p1), .val (.int p2), .val (.ref o3), .unset, .unset, .unset, .unset, .unset, .unset, .unset]) rfl ?_
  show Steps p.tables e below (T1.setTop (mkF m 3 #[.val (.int p0), .val (.int p1), .val (.int p2), .val (.ref o3), .unset, .unset, .unset, .unset, .unset, .unset, .unset] [])) _
  refine st2 _ ?_
  show Steps p.tables e below (T2.setTop (mkF m 5 #[.val (.int p0), .val (.int p1), .val (.int p2), .val (.ref o3), .unset, .unset, .unset, .unset, .unset, .unset, .unset] [(.ref o4)])) _
  refine XS.astore X2.here hx rfl (hb hby at_5) rfl rfl (l' := #[.val (.int p0), .val (.int p1), .val (.int p2), .val (.ref o3), .val (.ref o4), .unset, .unset, .unset, .unset, .unset, .unset]) rfl ?_
  exact hs
set_option maxRecDepth 65536 in
set_option maxHeartbeats 4000000 in
theorem comes_1 {Post : Tables → Env → Array Value → State → Outcome → State → Prop} (hpost : ∀ tb e args s v u, (limb_1_1.after args s (.returned v) u = true ∧ limb_1_2.after args s (.returned v) u = true ∧ True) → ReturnedEndW s (.returned v) u (Jvm.fieldLocs frame_1_writes args s ++ Jvm.arrayLocs frame_1_arrays args s ++ Jvm.staticLocs frame_1_statics s) 8 2112 → Post tb e args s (.returned v) u) :
    ArmFor flags0 classFile x code maxLocals ret World_1 tables_1 room_1 Calls_1 rest_1 Pre_1 Post := by
  intro l hfl _ _ p e ha hc hk s m args below hf hA hF happ hP
  obtain ⟨hcalls, hrest, hpre⟩ := hP
  obtain ⟨-, -, -, hnamed, -, -, -, hat⟩ := (Spec.applies_iff hf).mp happ
  obtain ⟨hg, hn⟩ := and_e (Cond.before_iff.mp (show (Jvm.Cond.and given_1 narrow_1).before args s = true from hpre))
  obtain ⟨g1, g2⟩ := and_e hg
  obtain ⟨ga0, gb0⟩ := and_e g2
  obtain ⟨ga1, gb1⟩ := and_e gb0
  obtain ⟨w0, w1, w2, rfl⟩ : ∃ w0 w1 w2 : Value, args = #[w0, w1, w2] := by
    have hs : args.size = 3 := by simpa [Cond.value, given_1] using g1
    obtain ⟨L⟩ := args
    match L, hs with
    | [w0, w1, w2], _ => exact ⟨w0, w1, w2, rfl⟩
  have hw := fun d (hd : d ∈ tables_1) => atoms_spec (ws := Jvm.Cond.code x code maxLocals ret :: tables_1) hat d (List.mem_cons_of_mem _ hd)
  obtain ⟨hsets, hown0⟩ := atoms_of _ (rest_1_c_eq ▸ (show rest_1_c.before _ s = true from hrest))
  have n5 := not_v (Cond.before_iff.mp (hsets _ (List.mem_of_getElem? (i := 2) rfl)))
  obtain ⟨i0, ei0⟩ := is_v ga0
  obtain rfl : w0 = (.int i0) := Option.some.inj ei0
  obtain ⟨i1, ei1⟩ := is_v ga1
  obtain rfl : w1 = (.int i1) := Option.some.inj ei1
  obtain ⟨i2, ei2⟩ := is_v gb1
  obtain rfl : w2 = (.int i2) := Option.some.inj ei2
  obtain ⟨i11, e10⟩ := is_v (Cond.before_iff.mp (hsets _ (List.mem_of_getElem? (i := 1) rfl)))
  have S12 : Sta s s.heap "java/lang/String" "COMPACT_STRINGS" "Z" (.int i11) := Sta.start e10 (Or.inl (hsets _ (List.mem_of_getElem? (i := 0) rfl)))
  obtain ⟨v13, e14, r15⟩ := isR_v (Cond.before_iff.mp (hsets _ (List.mem_of_getElem? (i := 8) rfl)))
  have S16 : Sta s s.heap "jdk/internal/util/Preconditions" "SIOOBE_FORMATTER" "Ljava/util/function/BiFunction;" v13 := Sta.start e14 (Or.inl (hsets _ (List.mem_of_getElem? (i := 7) rfl)))
  have c17 : ¬ (i11 = (0 : Int32)) := gotF (Cond.eq_ints e10 (Term.int_eval (0))) n5
  have hcw : Jvm.Lit.compactW.before #[(.int i0), (.int i1), (.int i2)] s = true := hsets _ (List.mem_of_getElem? (i := 2) rfl)
  have hh7 : Jvm.Lit.constHeld s x.cls 7 := hcalls.1 (x.cls, 7) (List.mem_of_getElem? (i := 0) rfl)
  have hh9 : Jvm.Lit.constHeld s x.cls 9 := hcalls.1 (x.cls, 9) (List.mem_of_getElem? (i := 1) rfl)
  obtain ⟨n, o, h1, h2, h3, _, L, rfl, ⟨rfl, N⟩, hq⟩ := rm0 l s _ hw tables_1 i0 i1 i2 ⟨i11, v13, S12, c17, S16, r15⟩ hh7 hh9 hcw p e ha hc hk s m _ below hf ((Spec.applies_iff_loose hf).mp happ).1 ⟨rfl, rfl⟩ trivial
  rw [law_true] at *
  refine ⟨n, _, h1, h2, h3, hpost _ _ _ _ _ _ ⟨Cond.after_iff.mpr rfl, Cond.after_iff.mpr (eq_i res_at (Term.int_eval (1)) rfl), trivial⟩ ⟨hq.1, hq.2.1, hq.2.2.1, (hq.2.2.2.sift fun y hy => Or.inr (N y hy)).mono (by decide) (by decide)⟩⟩
theorem main_1_1 : Claimed_1_1 := comes_1 fun _ _ _ _ _ _ h hF => ⟨h.1, hF⟩
theorem main_1_2 : Claimed_1_2 := comes_1 fun _ _ _ _ _ _ h hF => ⟨h.2.1, hF⟩

end Jvm.Pilot.@@N@@
namespace Jvm.Pilot.@@N@@
open Jvm Jvm.ClassFile Sem Op Lib Jvm.Free Jvm.Stand Jvm.Pilot.@@N@@.Jvm.D
/-! MADE BY PROGRAM (witnessworld.py) out of the Statement's table words and the real class files: 17 classes; the members and pool entries that the words name. The judged class is class 1, her method 1. -/
namespace start1
open Jvm.ClassFile
def u (s : String) : CpInfo := .utf8 (stringToUtf16 s)
/-- a pool by its gaps: so many unusable entries, then the entry; so many at the end -/
def gap : Nat → List CpInfo → List CpInfo
  | 0, r => r
  | n + 1, r => .unusable :: gap n r
def poolList (es : List (Nat × CpInfo)) (last : Nat) : List CpInfo := es.foldr (fun e r => gap e.1 (e.2 :: r)) (gap last [])
def pool (es : List (Nat × CpInfo)) (last : Nat) : Array CpInfo := ⟨poolList es last⟩
def fileOf (pool : Array CpInfo) (this : Nat) (attrs : Array Attribute := #[]) (ms : Array MethodInfo := #[]) (fl : Nat := 33) (sup : Nat := 0) (ifs : Array Nat := #[]) (fds : Array FieldInfo := #[]) : ClassFile where
  minorVersion := 0
  majorVersion := 65
  constantPool := pool
  accessFlags := fl
  thisClass := this
  superClass := sup
  interfaces := ifs
  fields := fds
  methods := ms
  attributes := attrs
def plain (name : String) (sup : Option ClassId) : Class where
  name := name
  kind := .ordinary
  loader := none
  accessFlags := 33
  super := sup
  interfaces := #[]
  cf := none
  fields := #[]
  methods := #[]
  instanceTypes := #[]
  staticTypes := #[]
  resolved := #[]
  callSites := []
  init := .initialized
  statics := none
  mirror := none

def pool0 : Array CpInfo := pool [(5, u "<init>"), (0, u "()V"), (1, .class_ 10), (1, u "java/lang/Object")] 113

def k0m0 : Method := { name := "<init>", desc := "()V", sig := { parameters := [], returnType := none }, accessFlags := 1, code := none }
/-- java/lang/Object -/
def k0 : Class := { plain "java/lang/Object" none with
  accessFlags := 33
  interfaces := #[]
  cf := some (fileOf pool0 8 #[] #[{ accessFlags := 1, nameIndex := 5, descriptorIndex := 6, attributes := #[] }] 33 0 #[] #[])
  fields := #[]
  methods := #[k0m0]
  instanceTypes := #[]
  staticTypes := #[]
  resolved := Array.replicate 124 none
  statics := none }

def pool1 : Array CpInfo := pool [(2, .class_ 4), (1, u "java/lang/Object"), (0, u "<init>"), (0, u "()V"), (0, .string 8), (0, u "0123456789abcdef"), (0, .string 10), (0, u "0123456789ABCDEF"), (0, .methodref 12 13), (0, .class_ 14), (0, .nameAndType 15 16), (0, u "java/lang/String"), (0, u "charAt"), (0, u "(I)C"), (0, .methodref 18 19), (0, .class_ 20), (0, .nameAndType 21 22), (0, u "com/example/prudent_validator/prudentvalidator/datatypes/Binary"), (0, u "hexDigit"), (0, u "(C)I"), (0, .class_ 24), (0, u "com/example/prudent_validator/prudentvalidator/datatypes/BinaryHexDigitPinLaw"), (2, u "law"), (0, u "(III)Z")] 3

def k1m0 : Method := { name := "<init>", desc := "()V", sig := { parameters := [], returnType := none }, accessFlags := 2, code := none }
def k1c1 : Code := { maxStack := 3, maxLocals := 11, code := code, exceptionTable := #[], attributes := #[] }
def k1m1 : Method := { name := "law", desc := "(III)Z", sig := { parameters := [.int, .int, .int], returnType := some .boolean }, accessFlags := 9, code := some k1c1 }
/-- com/example/prudent_validator/prudentvalidator/datatypes/BinaryHexDigitPinLaw -/
def k1 : Class := { plain "com/example/prudent_validator/prudentvalidator/datatypes/BinaryHexDigitPinLaw" (some 0) with
  accessFlags := 49
  interfaces := #[]
  cf := some (fileOf pool1 23 #[] #[{ accessFlags := 2, nameIndex := 5, descriptorIndex := 6, attributes := #[] }, { accessFlags := 9, nameIndex := 27, descriptorIndex := 28, attributes := #[] }] 49 2 #[] #[])
  fields := #[]
  methods := #[k1m0, k1m1]
  instanceTypes := #[]
  staticTypes := #[]
  resolved := Array.replicate 32 none
  statics := none }

def pool2 : Array CpInfo := pool [(1, .class_ 2), (0, u "java/io/Serializable"), (0, .class_ 4), (0, u "java/lang/Object")] 2

/-- java/io/Serializable -/
def k2 : Class := { plain "java/io/Serializable" (some 0) with
  accessFlags := 1537
  interfaces := #[]
  cf := some (fileOf pool2 1 #[] #[] 1537 3 #[] #[])
  fields := #[]
  methods := #[]
  instanceTypes := #[]
  staticTypes := #[]
  resolved := Array.replicate 7 none
  statics := none }

def pool3 : Array CpInfo := pool [(1, .class_ 2), (0, u "java/lang/Comparable"), (0, .class_ 4), (0, u "java/lang/Object")] 7

/-- java/lang/Comparable -/
def k3 : Class := { plain "java/lang/Comparable" (some 0) with
  accessFlags := 1537
  interfaces := #[]
  cf := some (fileOf pool3 1 #[] #[] 1537 3 #[] #[])
  fields := #[]
  methods := #[]
  instanceTypes := #[]
  staticTypes := #[]
  resolved := Array.replicate 12 none
  statics := none }

def pool4 : Array CpInfo := pool [(2, .class_ 4), (1, u "java/lang/CharSequence"), (42, .class_ 48), (0, u "java/lang/CharSequence$1CodePointIterator"), (10, .class_ 60), (0, u "java/lang/CharSequence$1CharIterator"), (5, .class_ 67), (0, u "java/lang/Object")] 63

/-- java/lang/CharSequence -/
def k4 : Class := { plain "java/lang/CharSequence" (some 0) with
  accessFlags := 1537
  interfaces := #[]
  cf := some (fileOf pool4 2 #[.nestMembers #[47, 59]] #[] 1537 66 #[] #[])
  fields := #[]
  methods := #[]
  instanceTypes := #[]
  staticTypes := #[]
  resolved := Array.replicate 131 none
  statics := none }

def pool5 : Array CpInfo := pool [(1, .class_ 2), (0, u "java/lang/constant/Constable"), (0, .class_ 4), (0, u "java/lang/Object")] 6

/-- java/lang/constant/Constable -/
def k5 : Class := { plain "java/lang/constant/Constable" (some 0) with
  accessFlags := 1537
  interfaces := #[]
  cf := some (fileOf pool5 1 #[] #[] 1537 3 #[] #[])
  fields := #[]
  methods := #[]
  instanceTypes := #[]
  staticTypes := #[]
  resolved := Array.replicate 11 none
  statics := none }

def pool6 : Array CpInfo := pool [(1, .class_ 2), (0, u "java/lang/constant/ConstantDesc"), (0, .class_ 4), (0, u "java/lang/Object")] 32

/-- java/lang/constant/ConstantDesc -/
def k6 : Class := { plain "java/lang/constant/ConstantDesc" (some 0) with
  accessFlags := 1537
  interfaces := #[]
  cf := some (fileOf pool6 1 #[] #[] 1537 3 #[] #[])
  fields := #[]
  methods := #[]
  instanceTypes := #[]
  staticTypes := #[]
  resolved := Array.replicate 37 none
  statics := none }

def pool7 : Array CpInfo := pool [(2, .class_ 4), (1, u "java/lang/Object"), (0, u "<init>"), (0, u "()V"), (2, .fieldref 10 11), (0, .class_ 12), (0, .nameAndType 13 14), (0, u "java/lang/String"), (0, u "value"), (0, u "[B"), (0, .fieldref 10 16), (0, .nameAndType 17 18), (0, u "coder"), (0, u "B"), (2, u "hash"), (0, u "I"), (2, u "hashIsZero"), (0, u "Z"), (11, .fieldref 10 39), (0, .nameAndType 40 26), (0, u "COMPACT_STRINGS"), (66, .class_ 109), (1, u "java/lang/StringLatin1"), (32, u "()Z"), (220, u "([BI)C"), (27, u "(II)V"), (35, u "(I)C"), (64, .methodref 10 493), (0, .nameAndType 494 142), (0, u "isLatin1"), (0, .methodref 107 496), (0, .nameAndType 497 363), (0, u "charAt"), (3, u "checkIndex"), (73, .class_ 576), (0, u "java/lang/CharSequence"), (22, u "CASE_INSENSITIVE_ORDER"), (0, u "Ljava/util/Comparator;"), (452, .fieldref 1054 1055), (0, .class_ 1056), (0, .nameAndType 1057 1058), (0, u "jdk/internal/util/Preconditions"), (0, u "SIOOBE_FORMATTER"), (0, u "Ljava/util/function/BiFunction;"), (0, .methodref 1054 1060), (0, .nameAndType 501 1061), (0, u "(IILjava/util/function/BiFunction;)I"), (39, u "serialPersistentFields"), (0, u "[Ljava/io/ObjectStreamField;"), (0, .class_ 1104), (0, u "java/lang/String$CaseInsensitiveComparator"), (1, .class_ 1107), (0, u "java/io/Serializable"), (0, .class_ 1109), (0, u "java/lang/Comparable"), (0, .class_ 1111), (0, u "java/lang/constant/Constable"), (0, .class_ 1113), (0, u "java/lang/constant/ConstantDesc"), (2, u "serialVersionUID"), (0, u "J"), (3, u "REPL"), (0, u "C"), (2, u "LATIN1"), (1, u "UTF16")] 323

def k7m0 : Method := { name := "<init>", desc := "()V", sig := { parameters := [], returnType := none }, accessFlags := 1, code := none }
def k7c1 : Code := { maxStack := 2, maxLocals := 2, code := jdk_42_method_56_code, exceptionTable := #[], attributes := #[] }
def k7m1 : Method := { name := "charAt", desc := "(I)C", sig := { parameters := [.int], returnType := some .char }, accessFlags := 1, code := some k7c1 }
def k7c2 : Code := { maxStack := 1, maxLocals := 1, code := jdk_42_method_154_code, exceptionTable := #[], attributes := #[] }
def k7m2 : Method := { name := "isLatin1", desc := "()Z", sig := { parameters := [], returnType := some .boolean }, accessFlags := 0, code := some k7c2 }
def k7c3 : Code := { maxStack := 3, maxLocals := 2, code := jdk_42_method_155_code, exceptionTable := #[], attributes := #[] }
def k7m3 : Method := { name := "checkIndex", desc := "(II)V", sig := { parameters := [.int, .int], returnType := none }, accessFlags := 8, code := some k7c3 }
/-- java/lang/String -/
def k7 : Class := { plain "java/lang/String" (some 0) with
  accessFlags := 49
  interfaces := #[2, 3, 4, 5, 6]
  cf := some (fileOf pool7 10 #[.nestMembers #[1103]] #[{ accessFlags := 1, nameIndex := 5, descriptorIndex := 6, attributes := #[] }, { accessFlags := 1, nameIndex := 497, descriptorIndex := 427, attributes := #[] }, { accessFlags := 0, nameIndex := 494, descriptorIndex := 142, attributes := #[] }, { accessFlags := 8, nameIndex := 501, descriptorIndex := 391, attributes := #[] }] 49 2 #[1106, 1108, 575, 1110, 1112] #[{ accessFlags := 18, nameIndex := 13, descriptorIndex := 14, attributes := #[] }, { accessFlags := 18, nameIndex := 17, descriptorIndex := 18, attributes := #[] }, { accessFlags := 2, nameIndex := 21, descriptorIndex := 22, attributes := #[] }, { accessFlags := 2, nameIndex := 25, descriptorIndex := 26, attributes := #[] }, { accessFlags := 26, nameIndex := 1116, descriptorIndex := 1117, attributes := #[] }, { accessFlags := 24, nameIndex := 40, descriptorIndex := 26, attributes := #[] }, { accessFlags := 26, nameIndex := 1101, descriptorIndex := 1102, attributes := #[] }, { accessFlags := 26, nameIndex := 1121, descriptorIndex := 1122, attributes := #[] }, { accessFlags := 25, nameIndex := 599, descriptorIndex := 600, attributes := #[] }, { accessFlags := 24, nameIndex := 1125, descriptorIndex := 18, attributes := #[] }, { accessFlags := 24, nameIndex := 1127, descriptorIndex := 18, attributes := #[] }])
  fields := #[{ name := "value", type := (.array .byte), accessFlags := 18, slot := 0, constantValue := 0 }, { name := "coder", type := .byte, accessFlags := 18, slot := 1, constantValue := 0 }, { name := "hash", type := .int, accessFlags := 2, slot := 2, constantValue := 0 }, { name := "hashIsZero", type := .boolean, accessFlags := 2, slot := 3, constantValue := 0 }, { name := "serialVersionUID", type := .long, accessFlags := 26, slot := 0, constantValue := 0 }, { name := "COMPACT_STRINGS", type := .boolean, accessFlags := 24, slot := 1, constantValue := 0 }, { name := "serialPersistentFields", type := (.array (.object "java/io/ObjectStreamField")), accessFlags := 26, slot := 2, constantValue := 0 }, { name := "REPL", type := .char, accessFlags := 26, slot := 3, constantValue := 0 }, { name := "CASE_INSENSITIVE_ORDER", type := (.object "java/util/Comparator"), accessFlags := 25, slot := 4, constantValue := 0 }, { name := "LATIN1", type := .byte, accessFlags := 24, slot := 5, constantValue := 0 }, { name := "UTF16", type := .byte, accessFlags := 24, slot := 6, constantValue := 0 }]
  methods := #[k7m0, k7m1, k7m2, k7m3]
  instanceTypes := #[(.array .byte), .byte, .int, .boolean]
  staticTypes := #[.long, .boolean, (.array (.object "java/io/ObjectStreamField")), .char, (.object "java/util/Comparator"), .byte, .byte]
  resolved := Array.replicate 1451 none
  statics := some 0 }

def pool8 : Array CpInfo := pool [(1, .class_ 2), (0, u "java/lang/String"), (1, .class_ 6), (1, u "java/lang/Object"), (0, u "<init>"), (0, u "()V"), (0, .methodref 1 10), (0, .nameAndType 11 12), (0, u "checkIndex"), (0, u "(II)V"), (1, .class_ 16), (1, u "java/lang/StringLatin1"), (36, u "([BI)C"), (67, u "$assertionsDisabled"), (0, u "Z"), (98, .class_ 223), (1, u "java/lang/StringLatin1$LinesSpliterator"), (28, u "charAt"), (137, .class_ 391), (0, u "java/lang/StringLatin1$CharsSpliterator")] 3

def k8m0 : Method := { name := "<init>", desc := "()V", sig := { parameters := [], returnType := none }, accessFlags := 0, code := none }
def k8c1 : Code := { maxStack := 2, maxLocals := 2, code := jdk_43_method_2_code, exceptionTable := #[], attributes := #[] }
def k8m1 : Method := { name := "charAt", desc := "([BI)C", sig := { parameters := [(.array .byte), .int], returnType := some .char }, accessFlags := 9, code := some k8c1 }
/-- java/lang/StringLatin1 -/
def k8 : Class := { plain "java/lang/StringLatin1" (some 0) with
  accessFlags := 48
  interfaces := #[]
  cf := some (fileOf pool8 14 #[.nestMembers #[390, 221]] #[{ accessFlags := 0, nameIndex := 7, descriptorIndex := 8, attributes := #[] }, { accessFlags := 9, nameIndex := 252, descriptorIndex := 53, attributes := #[] }] 48 4 #[] #[{ accessFlags := 4120, nameIndex := 121, descriptorIndex := 122, attributes := #[] }])
  fields := #[{ name := "$assertionsDisabled", type := .boolean, accessFlags := 4120, slot := 0, constantValue := 0 }]
  methods := #[k8m0, k8m1]
  instanceTypes := #[]
  staticTypes := #[.boolean]
  resolved := Array.replicate 395 none
  statics := none }

def pool9 : Array CpInfo := pool [(2, .class_ 4), (1, u "java/lang/Object"), (0, u "<init>"), (0, u "()V"), (17, .class_ 26), (1, u "jdk/internal/util/Preconditions"), (6, u "checkIndex"), (21, .class_ 56), (0, u "jdk/internal/util/Preconditions$4"), (57, .class_ 115), (0, u "jdk/internal/util/Preconditions$1"), (7, u "SIOOBE_FORMATTER"), (0, u "Ljava/util/function/BiFunction;"), (0, .class_ 126), (0, u "jdk/internal/util/Preconditions$2"), (3, u "AIOOBE_FORMATTER"), (0, .class_ 132), (0, u "jdk/internal/util/Preconditions$3"), (3, u "IOOBE_FORMATTER"), (41, u "(IILjava/util/function/BiFunction;)I")] 15

def k9m0 : Method := { name := "<init>", desc := "()V", sig := { parameters := [], returnType := none }, accessFlags := 1, code := none }
def k9c1 : Code := { maxStack := 3, maxLocals := 3, code := jdk_41_method_11_code, exceptionTable := #[], attributes := #[] }
def k9m1 : Method := { name := "checkIndex", desc := "(IILjava/util/function/BiFunction;)I", sig := { parameters := [.int, .int, (.object "java/util/function/BiFunction")], returnType := some .int }, accessFlags := 9, code := some k9c1 }
/-- jdk/internal/util/Preconditions -/
def k9 : Class := { plain "jdk/internal/util/Preconditions" (some 0) with
  accessFlags := 33
  interfaces := #[]
  cf := some (fileOf pool9 24 #[.nestMembers #[55, 131, 125, 114]] #[{ accessFlags := 1, nameIndex := 5, descriptorIndex := 6, attributes := #[] }, { accessFlags := 9, nameIndex := 33, descriptorIndex := 178, attributes := #[] }] 33 2 #[] #[{ accessFlags := 25, nameIndex := 123, descriptorIndex := 124, attributes := #[] }, { accessFlags := 25, nameIndex := 130, descriptorIndex := 124, attributes := #[] }, { accessFlags := 25, nameIndex := 136, descriptorIndex := 124, attributes := #[] }])
  fields := #[{ name := "SIOOBE_FORMATTER", type := (.object "java/util/function/BiFunction"), accessFlags := 25, slot := 0, constantValue := 0 }, { name := "AIOOBE_FORMATTER", type := (.object "java/util/function/BiFunction"), accessFlags := 25, slot := 1, constantValue := 0 }, { name := "IOOBE_FORMATTER", type := (.object "java/util/function/BiFunction"), accessFlags := 25, slot := 2, constantValue := 0 }]
  methods := #[k9m0, k9m1]
  instanceTypes := #[]
  staticTypes := #[(.object "java/util/function/BiFunction"), (.object "java/util/function/BiFunction"), (.object "java/util/function/BiFunction")]
  resolved := Array.replicate 194 none
  statics := some 1 }

def pool10 : Array CpInfo := pool [(2, .class_ 4), (1, u "java/lang/Object"), (3, .class_ 10), (1, u "com/example/prudent_validator/prudentvalidator/datatypes/Binary"), (0, u "kind"), (0, u "Lcom/example/prudent_validator/prudentvalidator/datatypes/Primitive;"), (2, u "octets"), (0, u "[B"), (0, .class_ 18), (0, u "com/example/prudent_validator/prudentvalidator/datatypes/Binary$HexReader"), (3, .class_ 23), (0, u "com/example/prudent_validator/prudentvalidator/datatypes/Binary$Base64Reader"), (16, u "BASE64"), (0, u "Ljava/lang/String;"), (9, u "hexDigit"), (0, u "(C)I"), (6, .class_ 60), (0, u "com/example/prudent_validator/prudentvalidator/datatypes/Binary$Octets")] 4

def k10c0 : Code := { maxStack := 2, maxLocals := 2, code := prog_46_method_4_code, exceptionTable := #[], attributes := #[] }
def k10m0 : Method := { name := "hexDigit", desc := "(C)I", sig := { parameters := [.char], returnType := some .int }, accessFlags := 8, code := some k10c0 }
/-- com/example/prudent_validator/prudentvalidator/datatypes/Binary -/
def k10 : Class := { plain "com/example/prudent_validator/prudentvalidator/datatypes/Binary" (some 0) with
  accessFlags := 32
  interfaces := #[]
  cf := some (fileOf pool10 8 #[.nestMembers #[22, 17, 59]] #[{ accessFlags := 8, nameIndex := 51, descriptorIndex := 52, attributes := #[] }] 32 2 #[] #[{ accessFlags := 26, nameIndex := 40, descriptorIndex := 41, attributes := #[] }, { accessFlags := 18, nameIndex := 11, descriptorIndex := 12, attributes := #[] }, { accessFlags := 18, nameIndex := 15, descriptorIndex := 16, attributes := #[] }])
  fields := #[{ name := "BASE64", type := (.object "java/lang/String"), accessFlags := 26, slot := 0, constantValue := 0 }, { name := "kind", type := (.object "com/example/prudent_validator/prudentvalidator/datatypes/Primitive"), accessFlags := 18, slot := 0, constantValue := 0 }, { name := "octets", type := (.array .byte), accessFlags := 18, slot := 1, constantValue := 0 }]
  methods := #[k10m0]
  instanceTypes := #[(.object "com/example/prudent_validator/prudentvalidator/datatypes/Primitive"), (.array .byte)]
  staticTypes := #[(.object "java/lang/String")]
  resolved := Array.replicate 65 none
  statics := none }

def pool11 : Array CpInfo := pool [(9, u "<init>"), (6, .class_ 18), (1, u "java/lang/Object"), (0, u "()V"), (1, .class_ 23), (1, u "jdk/internal/util/ArraysSupport"), (0, u "LOG2_ARRAY_LONG_INDEX_SCALE"), (0, u "I"), (2, u "U"), (0, u "Ljdk/internal/misc/Unsafe;"), (8, u "BIG_ENDIAN"), (0, u "Z"), (8, u "LOG2_BYTE_BIT_SIZE"), (4, u "LOG2_ARRAY_INT_INDEX_SCALE"), (54, u "JLA"), (0, u "Ljdk/internal/access/JavaLangAccess;"), (11, u "LOG2_ARRAY_BOOLEAN_INDEX_SCALE"), (9, u "LOG2_ARRAY_BYTE_INDEX_SCALE"), (5, u "LOG2_ARRAY_CHAR_INDEX_SCALE"), (5, u "LOG2_ARRAY_SHORT_INDEX_SCALE"), (18, u "LOG2_ARRAY_FLOAT_INDEX_SCALE"), (24, u "LOG2_ARRAY_DOUBLE_INDEX_SCALE"), (89, u "T_BOOLEAN"), (2, u "T_CHAR"), (1, u "T_FLOAT"), (1, u "T_DOUBLE"), (1, u "T_BYTE"), (1, u "T_SHORT"), (1, u "T_INT"), (1, u "T_LONG"), (1, u "SOFT_MAX_ARRAY_LENGTH")] 83

def k11m0 : Method := { name := "<init>", desc := "()V", sig := { parameters := [], returnType := none }, accessFlags := 2, code := none }
/-- jdk/internal/util/ArraysSupport -/
def k11 : Class := { plain "jdk/internal/util/ArraysSupport" (some 0) with
  accessFlags := 33
  interfaces := #[]
  cf := some (fileOf pool11 21 #[] #[{ accessFlags := 2, nameIndex := 9, descriptorIndex := 19, attributes := #[] }] 33 16 #[] #[{ accessFlags := 24, nameIndex := 28, descriptorIndex := 29, attributes := #[] }, { accessFlags := 26, nameIndex := 38, descriptorIndex := 39, attributes := #[] }, { accessFlags := 25, nameIndex := 121, descriptorIndex := 25, attributes := #[] }, { accessFlags := 25, nameIndex := 131, descriptorIndex := 25, attributes := #[] }, { accessFlags := 25, nameIndex := 137, descriptorIndex := 25, attributes := #[] }, { accessFlags := 25, nameIndex := 143, descriptorIndex := 25, attributes := #[] }, { accessFlags := 25, nameIndex := 53, descriptorIndex := 25, attributes := #[] }, { accessFlags := 25, nameIndex := 24, descriptorIndex := 25, attributes := #[] }, { accessFlags := 25, nameIndex := 162, descriptorIndex := 25, attributes := #[] }, { accessFlags := 25, nameIndex := 187, descriptorIndex := 25, attributes := #[] }, { accessFlags := 26, nameIndex := 48, descriptorIndex := 25, attributes := #[] }, { accessFlags := 25, nameIndex := 277, descriptorIndex := 25, attributes := #[] }, { accessFlags := 25, nameIndex := 280, descriptorIndex := 25, attributes := #[] }, { accessFlags := 25, nameIndex := 282, descriptorIndex := 25, attributes := #[] }, { accessFlags := 25, nameIndex := 284, descriptorIndex := 25, attributes := #[] }, { accessFlags := 25, nameIndex := 286, descriptorIndex := 25, attributes := #[] }, { accessFlags := 25, nameIndex := 288, descriptorIndex := 25, attributes := #[] }, { accessFlags := 25, nameIndex := 290, descriptorIndex := 25, attributes := #[] }, { accessFlags := 25, nameIndex := 292, descriptorIndex := 25, attributes := #[] }, { accessFlags := 26, nameIndex := 108, descriptorIndex := 109, attributes := #[] }, { accessFlags := 25, nameIndex := 294, descriptorIndex := 25, attributes := #[] }])
  fields := #[{ name := "U", type := (.object "jdk/internal/misc/Unsafe"), accessFlags := 24, slot := 0, constantValue := 0 }, { name := "BIG_ENDIAN", type := .boolean, accessFlags := 26, slot := 1, constantValue := 0 }, { name := "LOG2_ARRAY_BOOLEAN_INDEX_SCALE", type := .int, accessFlags := 25, slot := 2, constantValue := 0 }, { name := "LOG2_ARRAY_BYTE_INDEX_SCALE", type := .int, accessFlags := 25, slot := 3, constantValue := 0 }, { name := "LOG2_ARRAY_CHAR_INDEX_SCALE", type := .int, accessFlags := 25, slot := 4, constantValue := 0 }, { name := "LOG2_ARRAY_SHORT_INDEX_SCALE", type := .int, accessFlags := 25, slot := 5, constantValue := 0 }, { name := "LOG2_ARRAY_INT_INDEX_SCALE", type := .int, accessFlags := 25, slot := 6, constantValue := 0 }, { name := "LOG2_ARRAY_LONG_INDEX_SCALE", type := .int, accessFlags := 25, slot := 7, constantValue := 0 }, { name := "LOG2_ARRAY_FLOAT_INDEX_SCALE", type := .int, accessFlags := 25, slot := 8, constantValue := 0 }, { name := "LOG2_ARRAY_DOUBLE_INDEX_SCALE", type := .int, accessFlags := 25, slot := 9, constantValue := 0 }, { name := "LOG2_BYTE_BIT_SIZE", type := .int, accessFlags := 26, slot := 10, constantValue := 0 }, { name := "T_BOOLEAN", type := .int, accessFlags := 25, slot := 11, constantValue := 0 }, { name := "T_CHAR", type := .int, accessFlags := 25, slot := 12, constantValue := 0 }, { name := "T_FLOAT", type := .int, accessFlags := 25, slot := 13, constantValue := 0 }, { name := "T_DOUBLE", type := .int, accessFlags := 25, slot := 14, constantValue := 0 }, { name := "T_BYTE", type := .int, accessFlags := 25, slot := 15, constantValue := 0 }, { name := "T_SHORT", type := .int, accessFlags := 25, slot := 16, constantValue := 0 }, { name := "T_INT", type := .int, accessFlags := 25, slot := 17, constantValue := 0 }, { name := "T_LONG", type := .int, accessFlags := 25, slot := 18, constantValue := 0 }, { name := "JLA", type := (.object "jdk/internal/access/JavaLangAccess"), accessFlags := 26, slot := 19, constantValue := 0 }, { name := "SOFT_MAX_ARRAY_LENGTH", type := .int, accessFlags := 25, slot := 20, constantValue := 0 }]
  methods := #[k11m0]
  instanceTypes := #[]
  staticTypes := #[(.object "jdk/internal/misc/Unsafe"), .boolean, .int, .int, .int, .int, .int, .int, .int, .int, .int, .int, .int, .int, .int, .int, .int, .int, .int, (.object "jdk/internal/access/JavaLangAccess"), .int]
  resolved := Array.replicate 378 none
  statics := none }

def pool12 : Array CpInfo := pool [(1, u "java/lang/Cloneable"), (0, .class_ 1), (0, u "java/lang/Object"), (0, .class_ 3)] 3

/-- java/lang/Cloneable -/
def k12 : Class := { plain "java/lang/Cloneable" (some 0) with
  accessFlags := 1537
  interfaces := #[]
  cf := some (fileOf pool12 2 #[] #[] 1537 4 #[] #[])
  fields := #[]
  methods := #[]
  instanceTypes := #[]
  staticTypes := #[]
  resolved := Array.replicate 8 none
  statics := none }

/-- the primitive byte -/
def k13 : Class := { plain "byte" none with kind := .primitive 'B', accessFlags := 0x411 }
/-- [B -/
def k14 : Class := { plain "[B" (some 0) with kind := .array 13 .byte, interfaces := #[12, 2], accessFlags := 1041 }

/-- the primitive int -/
def k15 : Class := { plain "int" none with kind := .primitive 'I', accessFlags := 0x411 }
/-- [I -/
def k16 : Class := { plain "[I" (some 0) with kind := .array 15 .int, interfaces := #[12, 2], accessFlags := 1041 }

def heap : Heap := #[{ cls := 7, slots := #[.long 0, .int 1, .null, .int 0, .null, .int 0, .int 0], vm := .statics 7 },
  { cls := 9, slots := #[.null, .null, .null], vm := .statics 9 }]
def classes : Array Class := #[k0, k1, k2, k3, k4, k5, k6, k7, k8, k9, k10, k11, k12, k13, k14, k15, k16]
def interned : List (Array UInt16 × Addr) := []
def slotsUsed : Nat := 10
def theMethod : MethodId := ⟨1, 1⟩
def args0 : Array Value := #[.int 5, .int 6, .int 7]
def aboutOver (below : List Frame) : State where
  vm := { classes := classes, interned := interned.toArray }
  heap := heap
  slotsUsed := slotsUsed
  threads := #[{ frames := .invoking theMethod args0 :: below }]
def below0 : List Frame := [.native { method := ⟨0, 0⟩, args := #[] }]
def about1 : State := aboutOver below0
def p0 : Program := .bare "" "" ""
def e0 : Env := launch0.env 0 0 0
theorem w_frames : about1.frames = Frame.invoking theMethod args0 :: below0 := rfl
set_option maxRecDepth 65536 in
theorem w_args : argsFit about1.vm theMethod args0 = true := by decide +kernel
set_option maxRecDepth 65536 in
theorem w_heap : heapFits about1 = true := by decide +kernel
set_option maxRecDepth 65536 in
theorem w_runnable : about1.curStatus? = some .runnable := by decide +kernel
set_option maxRecDepth 65536 in
theorem w_alone : about1.alone = true := by decide +kernel
set_option maxRecDepth 65536 in
theorem w_named : about1.methodNamed? x = some theMethod := by decide +kernel
set_option maxRecDepth 65536 in
theorem w_hears : about1.hears theMethod below0 = true := by decide +kernel
set_option maxRecDepth 65536 in
theorem w_ripe : about1.ripe theMethod args0 below0 = true := by decide +kernel
theorem w_running : about1.status = .running := rfl
set_option maxRecDepth 65536 in
theorem w_room : about1.hasRoom e0.platform room_1 = true :=
  launch0.hasRoom_least _ room_1 (by decide +kernel) (by decide +kernel) (by decide +kernel) (by decide +kernel) (by decide +kernel) (by decide +kernel)
theorem allAtoms_all (ts : List Jvm.Cond) (a : Array Jvm.Value) (st : Jvm.State) : (allAtoms ts).before a st = ts.all (fun c => c.before a st) := by
  induction ts with
  | nil => rfl
  | cons c t ih =>
    show (Jvm.Cond.and c (allAtoms t)).before a st = _
    rw [Jvm.Cond.before_and, ih, List.all_cons]
def words1 : List Jvm.Cond := Jvm.Cond.code x code maxLocals ret :: tables_1
/-- a 'code' word, met by the world's own term for the bytes: nothing is compared byte by byte -/
theorem code_word {y : MethodName} {bytes : ByteArray} {mx : Nat} {rt : Option FieldType} {a : Array Value} {s : State} {m : MethodId} {meth : Method} {c : Code} (h1 : s.methodNamed? y = some m) (h2 : s.vm.method? m = some meth) (h3 : meth.code = some c) (h4 : c.code = bytes)
    (h5 : (c.maxLocals == mx && c.exceptionTable.isEmpty && decide (c.maxStack ≤ mostOperands) && decide (meth.sig.returnType = rt) && !meth.locks && decide (parseMethodDescriptor y.desc = some meth.sig)) = true) : (Jvm.Cond.code y bytes mx rt).before a s = true := by
  simp only [Bool.and_eq_true, beq_iff_eq, Bool.not_eq_true', decide_eq_true_eq] at h5
  obtain ⟨⟨⟨⟨⟨g1, g2⟩, g3⟩, g4⟩, g5⟩, g6⟩ := h5
  simp [Cond.before, Cond.holds, Cond.value, h1, h2, h3, h4, g1, g2, g3, g4, g5, g6]
def isCode : Jvm.Cond → Bool
  | .code _ _ _ _ => true
  | _ => false
theorem all_split {L : List Jvm.Cond} {P : Jvm.Cond → Bool} (h1 : L.all (fun c => isCode c || P c) = true) (h2 : ∀ c ∈ L.filter isCode, P c = true) : L.all P = true := by
  refine List.all_eq_true.mpr fun c hc => ?_
  have h := List.all_eq_true.mp h1 c hc
  rcases Bool.eq_false_or_eq_true (isCode c) with hi | hi
  · exact h2 c (List.mem_filter.mpr ⟨hc, hi⟩)
  · simpa [hi] using h
set_option maxRecDepth 65536 in
theorem w_c0 : (Jvm.Cond.code x code maxLocals ret).before args0 about1 = true := code_word (m := ⟨1, 1⟩) (meth := k1m1) (c := k1c1) (by decide +kernel) rfl rfl rfl (by decide +kernel)
set_option maxRecDepth 65536 in
theorem w_c1 : (Jvm.Cond.code ({ cls := "java/lang/String", name := "charAt", desc := "(I)C" } : Jvm.MethodName) jdk_42_method_56_code (2 : Nat) (Option.some Jvm.ClassFile.FieldType.char)).before args0 about1 = true := code_word (m := ⟨7, 1⟩) (meth := k7m1) (c := k7c1) (by decide +kernel) rfl rfl rfl (by decide +kernel)
set_option maxRecDepth 65536 in
theorem w_c2 : (Jvm.Cond.code ({ cls := "java/lang/String", name := "isLatin1", desc := "()Z" } : Jvm.MethodName) jdk_42_method_154_code (1 : Nat) (Option.some Jvm.ClassFile.FieldType.boolean)).before args0 about1 = true := code_word (m := ⟨7, 2⟩) (meth := k7m2) (c := k7c2) (by decide +kernel) rfl rfl rfl (by decide +kernel)
set_option maxRecDepth 65536 in
theorem w_c3 : (Jvm.Cond.code ({ cls := "java/lang/StringLatin1", name := "charAt", desc := "([BI)C" } : Jvm.MethodName) jdk_43_method_2_code (2 : Nat) (Option.some Jvm.ClassFile.FieldType.char)).before args0 about1 = true := code_word (m := ⟨8, 1⟩) (meth := k8m1) (c := k8c1) (by decide +kernel) rfl rfl rfl (by decide +kernel)
set_option maxRecDepth 65536 in
theorem w_c4 : (Jvm.Cond.code ({ cls := "java/lang/String", name := "checkIndex", desc := "(II)V" } : Jvm.MethodName) jdk_42_method_155_code (2 : Nat) (Option.none : Option Jvm.ClassFile.FieldType)).before args0 about1 = true := code_word (m := ⟨7, 3⟩) (meth := k7m3) (c := k7c3) (by decide +kernel) rfl rfl rfl (by decide +kernel)
set_option maxRecDepth 65536 in
theorem w_c5 : (Jvm.Cond.code ({ cls := "jdk/internal/util/Preconditions", name := "checkIndex", desc := "(IILjava/util/function/BiFunction;)I" } : Jvm.MethodName) jdk_41_method_11_code (3 : Nat) (Option.some Jvm.ClassFile.FieldType.int)).before args0 about1 = true := code_word (m := ⟨9, 1⟩) (meth := k9m1) (c := k9c1) (by decide +kernel) rfl rfl rfl (by decide +kernel)
set_option maxRecDepth 65536 in
theorem w_c6 : (Jvm.Cond.code ({ cls := "com/example/prudent_validator/prudentvalidator/datatypes/Binary", name := "hexDigit", desc := "(C)I" } : Jvm.MethodName) prog_46_method_4_code (2 : Nat) (Option.some Jvm.ClassFile.FieldType.int)).before args0 about1 = true := code_word (m := ⟨10, 0⟩) (meth := k10m0) (c := k10c0) (by decide +kernel) rfl rfl rfl (by decide +kernel)
def codes1 : List Jvm.Cond := [Jvm.Cond.code x code maxLocals ret, Jvm.Cond.code ({ cls := "java/lang/String", name := "charAt", desc := "(I)C" } : Jvm.MethodName) jdk_42_method_56_code (2 : Nat) (Option.some Jvm.ClassFile.FieldType.char), Jvm.Cond.code ({ cls := "java/lang/String", name := "isLatin1", desc := "()Z" } : Jvm.MethodName) jdk_42_method_154_code (1 : Nat) (Option.some Jvm.ClassFile.FieldType.boolean), Jvm.Cond.code ({ cls := "java/lang/StringLatin1", name := "charAt", desc := "([BI)C" } : Jvm.MethodName) jdk_43_method_2_code (2 : Nat) (Option.some Jvm.ClassFile.FieldType.char), Jvm.Cond.code ({ cls := "java/lang/String", name := "checkIndex", desc := "(II)V" } : Jvm.MethodName) jdk_42_method_155_code (2 : Nat) (Option.none : Option Jvm.ClassFile.FieldType), Jvm.Cond.code ({ cls := "jdk/internal/util/Preconditions", name := "checkIndex", desc := "(IILjava/util/function/BiFunction;)I" } : Jvm.MethodName) jdk_41_method_11_code (3 : Nat) (Option.some Jvm.ClassFile.FieldType.int), Jvm.Cond.code ({ cls := "com/example/prudent_validator/prudentvalidator/datatypes/Binary", name := "hexDigit", desc := "(C)I" } : Jvm.MethodName) prog_46_method_4_code (2 : Nat) (Option.some Jvm.ClassFile.FieldType.int)]
set_option maxRecDepth 65536 in
theorem codes_eq : words1.filter isCode = codes1 := rfl
theorem w_codes : ∀ c ∈ words1.filter isCode, c.before args0 about1 = true := by
  rw [codes_eq]
  intro c hc
  simp only [codes1, List.mem_cons, List.not_mem_nil, or_false] at hc
  rcases hc with rfl | rfl | rfl | rfl | rfl | rfl | rfl
  · exact w_c0
  · exact w_c1
  · exact w_c2
  · exact w_c3
  · exact w_c4
  · exact w_c5
  · exact w_c6
set_option maxRecDepth 65536 in
theorem w_t1 : (words1.take 24).all (fun c => isCode c || c.before args0 about1) = true := by decide +kernel
set_option maxRecDepth 65536 in
theorem w_t2 : (words1.drop 24).all (fun c => isCode c || c.before args0 about1) = true := by decide +kernel
theorem w_tables : (allAtoms (Jvm.Cond.code x code maxLocals ret :: tables_1)).before args0 about1 = true := by
  rw [allAtoms_all]
  show words1.all (fun c => c.before args0 about1) = true
  refine all_split ?_ w_codes
  rw [← List.take_append_drop 24 words1, List.all_append, w_t1, w_t2]
  rfl
set_option maxRecDepth 65536 in
theorem w_rest : rest_1_c.before args0 about1 = true := by decide +kernel
set_option maxRecDepth 65536 in
theorem w_case : (Jvm.Cond.and given_1 narrow_1).before args0 about1 = true := by decide +kernel
set_option maxRecDepth 65536 in
theorem w_consts : constsHeld consts_1 about1 := Jvm.Lit.constsHeldB_iff.mp (by decide +kernel)
theorem w_applies : (headSpec (Jvm.Cond.code x code maxLocals ret :: tables_1) room_1).applies x e0.platform about1 = true :=
  (Spec.applies_iff w_frames).mpr ⟨w_running, w_runnable, w_alone, w_named, w_hears, w_ripe, w_room, w_tables⟩
theorem atStart : AtStart classFile x code maxLocals ret World_1 tables_1 room_1 Calls_1 rest_1 Pre_1 launch0 p0 e0 about1 theMethod args0 below0 :=
  ⟨lists_1, trivial, launch0.admits_env _ _ _, launch0.least_env, fairChoices_fair.cas, fairChoices_fair.clock, w_frames, w_args, w_heap, w_applies, ⟨w_consts, trivial⟩, w_rest, w_case⟩
end start1
theorem witness_1 : WitnessClaimed_1 := ⟨start1.p0, start1.e0, start1.about1, start1.theMethod, start1.args0, start1.below0, start1.atStart⟩
end Jvm.Pilot.@@N@@
