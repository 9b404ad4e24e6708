import JvmDerived
import JvmDerived.Pilot.@@N@@Statement
import JvmDerived.Pilot.@@N@@Code
set_option linter.unusedVariables false
set_option linter.unusedSimpArgs false
namespace Jvm.RoadKit
open Sem ClassFile Op Lib Jvm.Stand Jvm.Free Jvm.LawKit
section New
variable {p : Program} {l : Launch} {e : Env} {R : Room} {s : State} {m : MethodId} {args : Array Value} {below : List Frame} {meth : Method} {c : Code} {T : State} {locs : List Loc} {cells slots : Nat}
theorem retI (X : Stand p l e R s m args below meth c T locs cells slots) (hx : p.tables.exec = Jvm.exec) {pc : Nat} {Ls : Array Slot} {z : Int32} {rest : List Value} (hret : meth.sig.returnType = some .int) (hd : decode c.code pc = .ok (.ireturn, 1)) {fs : List Frame}
    (hl : ∀ (f : JFrame) (acts : List Action), f.method = m → f.locked = none → f.entered = [] → (doReturn e (T.setTop f) acts (some (.int z))).1 = T.setFrames fs) : Steps p.tables e below (T.setTop (mkF m pc Ls (.int z :: rest))) (T.setFrames fs) := by
  have hm' : T.vm.method? m = some meth := X.method'
  have hn : narrow .int (.int z) = .int z := rfl
  show Steps p.tables e below (T.setTop { method := m, pc := pc, locals := Ls, stack := _ :: rest, locked := none }) _
  jvm_step X.here [X.here.top, hx, hd, hm', hret, hn]
  first | (intro acts; rw [hl _ acts rfl rfl rfl]) | rw [hl _ _ rfl rfl rfl]
  exact Steps.refl _
end New
end Jvm.RoadKit
namespace Jvm.Pilot.@@N@@
open Jvm Jvm.ClassFile Sem Op Lib Jvm.Free Jvm.Stand Jvm.LawKit Jvm.RoadKit Bundle Jvm.Pilot.@@N@@.Jvm.D
section Own
variable {p : Program} {l : Launch} {e : Env} {R : Room} {s : State} {m : MethodId} {args : Array Value} {below : List Frame} {meth : Method} {c : Code} {T T' : State} {locs : List Loc} {cells slots : Nat}
/-- what a walk has still to come to: it ends, with an answer of which Q is true -/
def own_Ends (p : Program) (e : Env) (below : List Frame) (U : State) (C S : Nat) (Q : Option Value → Heap → List Loc → Prop) (T : State) (f : JFrame) : Prop :=
  ∃ s₂ o, Steps p.tables e below (T.setTop f) s₂ ∧ s₂.status = .running ∧ Ended s₂ below o ∧ ∃ v L, o = .returned v ∧ Q v s₂.heap L ∧ FrameEnd U o s₂ L C S
theorem own_step {U : State} {C S : Nat} {Q : Option Value → Heap → List Loc → Prop} {f f' : JFrame} (h : ∀ t, Steps p.tables e below (T'.setTop f') t → Steps p.tables e below (T.setTop f) t) (k : own_Ends p e below U C S Q T' f') : own_Ends p e below U C S Q T f := by
  obtain ⟨s₂, o, h1, h2⟩ := k
  exact ⟨s₂, o, h _ h1, h2⟩
/-- a pure answer: that value, nothing old written, the heap as it was -/
def own_P (w : Value) (h0 : Heap) (n0 : Nat) (v : Option Value) (h : Heap) (L : List Loc) : Prop := v = some w ∧ Fr n0 L ∧ h = h0
theorem own_retZ {C S : Nat} {Q : Option Value → Heap → List Loc → Prop} {pc : Nat} {Ls : Array Slot} {z : Int32} {t : FieldType} {rest : List Value} (X : Stand p l e R s m args below meth c T locs cells slots) (hx : p.tables.exec = Jvm.exec) (hret : meth.sig.returnType = some t) (ht : t = .boolean ∨ t = .byte ∨ t = .char ∨ t = .short) (hlk : meth.locks = false)
    (hd : decode c.code pc = .ok (.ireturn, 1)) (hC : cells ≤ C) (hS : slots ≤ S) (hq : Q (some (.int (nar t z))) T.heap locs) : own_Ends p e below s C S Q T (mkF m pc Ls (.int z :: rest)) := by
  obtain ⟨fs, hr, hrun, hended, hW, hsame⟩ := X.leave (v := some (.int (nar t z))) (fun h => by rw [hret] at h; cases h) hlk
  exact ⟨_, _, retN X hx hret ht hd hr, hrun, hended, _, _, rfl, hq, ⟨_, rfl⟩, hW, hsame.mono hC hS⟩
theorem own_retI {C S : Nat} {Q : Option Value → Heap → List Loc → Prop} {pc : Nat} {Ls : Array Slot} {z : Int32} {rest : List Value} (X : Stand p l e R s m args below meth c T locs cells slots) (hx : p.tables.exec = Jvm.exec) (hret : meth.sig.returnType = some .int) (hlk : meth.locks = false)
    (hd : decode c.code pc = .ok (.ireturn, 1)) (hC : cells ≤ C) (hS : slots ≤ S) (hq : Q (some (.int z)) T.heap locs) : own_Ends p e below s C S Q T (mkF m pc Ls (.int z :: rest)) := by
  obtain ⟨fs, hr, hrun, hended, hW, hsame⟩ := X.leave (v := some (.int z)) (fun h => by rw [hret] at h; cases h) hlk
  exact ⟨_, _, retI X hx hret hd hr, hrun, hended, _, _, rfl, hq, ⟨_, rfl⟩, hW, hsame.mono hC hS⟩
def own_V (h0 : Heap) (n0 : Nat) (v : Option Value) (h : Heap) (L : List Loc) : Prop := v = none ∧ Fr n0 L ∧ h = h0
theorem own_retV {C S : Nat} {Q : Option Value → Heap → List Loc → Prop} {pc : Nat} {Ls : Array Slot} (X : Stand p l e R s m args below meth c T locs cells slots) (hx : p.tables.exec = Jvm.exec) (hret : meth.sig.returnType = none) (hlk : meth.locks = false)
    (hd : decode c.code pc = .ok (.return_, 1)) (hC : cells ≤ C) (hS : slots ≤ S) (hq : Q none T.heap locs) : own_Ends p e below s C S Q T (mkF m pc Ls []) := by
  obtain ⟨fs, hr, hrun, hended, hW, hsame⟩ := X.leave (v := none) (fun _ => rfl) hlk
  exact ⟨_, _, X.returnOut hx hret hd hr, hrun, hended, _, _, rfl, hq, ⟨_, rfl⟩, hW, hsame.mono hC hS⟩
theorem own_retJ {C S : Nat} {Q : Option Value → Heap → List Loc → Prop} {pc : Nat} {Ls : Array Slot} {z : Int64} (X : Stand p l e R s m args below meth c T locs cells slots) (hx : p.tables.exec = Jvm.exec) (hret : meth.sig.returnType = some .long) (hlk : meth.locks = false)
    (hd : decode c.code pc = .ok (.lreturn, 1)) (hC : cells ≤ C) (hS : slots ≤ S) (hq : Q (some (.long z)) T.heap locs) : own_Ends p e below s C S Q T (mkF m pc Ls [.long z]) := by
  obtain ⟨fs, hr, hrun, hended, hW, hsame⟩ := X.leave (v := some (.long z)) (fun h => by rw [hret] at h; cases h) hlk
  exact ⟨_, _, X.lreturnOut hx hret hd hr, hrun, hended, _, _, rfl, hq, ⟨_, rfl⟩, hW, hsame.mono hC hS⟩
end Own
section OwnArr
variable {p : Program} {l : Launch} {e : Env} {R : Room} {s : State} {m : MethodId} {args : Array Value} {below : List Frame} {meth : Method} {c : Code} {T : State} {locs : List Loc} {cells slots : Nat} {Z : State} {a0 : Array Value} {h h' : Heap} {a b : Addr} {ty : FieldType} {vs : List Value} {n0 : Nat}
/-- an answer of which the heap isn't said: that value, nothing old written -/
def own_W (Z : State) (w : Value) (a : Addr) (vs : List Value) (n0 : Nat) (v : Option Value) (h : Heap) (L : List Loc) : Prop := v = some w ∧ Fr n0 L ∧ (∃ c : Cell, Arr Z h a c .byte ∧ c.slots.toList = vs) ∧ n0 ≤ h.size
def own_R (w : Value) (n0 : Nat) (v : Option Value) (h : Heap) (L : List Loc) : Prop := v = some w ∧ Fr n0 L
/-- the array at a holds just these -/
def own_A (Z : State) (h : Heap) (a : Addr) (ty : FieldType) (vs : List Value) : Prop := ∃ c : Cell, Arr Z h a c ty ∧ c.slots.toList = vs
theorem own_A.lt (A : own_A Z h a ty vs) : a < h.size := by obtain ⟨c, A, -⟩ := A; exact A.lt
theorem own_A.ext (A : own_A Z h a ty vs) (E : Ext h h') : own_A Z h' a ty vs := by obtain ⟨c, A, q⟩ := A; exact ⟨c, A.ext E, q⟩
theorem own_A.other {sl : Nat} {v : Value} (A : own_A Z h b ty vs) (W : Wr h h' a sl v) (q : b ≠ a) : own_A Z h' b ty vs := by obtain ⟨c, A, r⟩ := A; exact ⟨c, A.other W q, r⟩
theorem own_A.set {k : Nat} {v : Value} (A : own_A Z h a ty vs) (W : Wr h h' a k v) : own_A Z h' a ty (vs.set k v) := by
  obtain ⟨c, A, r⟩ := A
  refine ⟨c.setSlot k v, A.same W, ?_⟩
  subst r
  simp [Cell.setSlot]
theorem own_A.size {c : Cell} (r : c.slots.toList = vs) : c.slots.size = vs.length := by subst r; simp
theorem own_new {aty : ArrayType} (X : Stand p l e R s m args below meth c T locs cells slots) (hx : p.tables.exec = Jvm.exec) (hZ : Z.Warmed39 s.vm) (w : (Cond.arrayClass (newarray.typeOf aty)).before a0 Z = true) (eT : T.heap = h) {g : JFrame} (hg : g.method = m) (hd : decode c.code g.pc = .ok (.newarray aty, 2)) {n : Int32} {rest : List Value} (hs : g.stack = .int n :: rest)
    (hn : ¬ n < 0) {k : Nat} (hk : n.toNatClampNeg = k) (hb : k * 8 ≤ 536870912) (hc : cells + 1 ≤ R.cells) (hl : slots + k ≤ R.slots) (Sz : n0 ≤ h.size) :
    ∃ T' h' b, Stand p l e R s m args below meth c T' locs (cells + 1) (slots + k) ∧ T'.heap = h' ∧ Ext h h' ∧ b = h.size ∧ n0 ≤ b ∧ n0 ≤ h'.size ∧ own_A Z h' b (newarray.typeOf aty) (List.replicate k (defaultValue (newarray.typeOf aty))) ∧
      ∀ target, Steps p.tables e below (T'.setTop { g with pc := g.pc + 2, stack := .ref b :: rest }) target → Steps p.tables e below (T.setTop g) target := by
  obtain ⟨T', h', cA, X', e', E, A, st⟩ := newP X hx hZ w eT hg hd hs hn (cap := k) (Nat.le_of_eq hk) hb hc hl
  exact ⟨T', h', h.size, X', e', E, rfl, Sz, Nat.le_trans Sz E.1, ⟨_, A, by simp [newA, hk]⟩, st⟩
theorem own_stI (X : Stand p l e R s m args below meth c T locs cells slots) (hx : p.tables.exec = Jvm.exec) (hZ : Z.Warmed39 s.vm) (eT : T.heap = h) (A : own_A Z h a .int vs) {j x : Int32} (hj : ¬ j < 0) {k : Nat} (hk : j.toNatClampNeg = k) (hl : k < vs.length) (N : Fr n0 locs) (ga : n0 ≤ a) (Sz : n0 ≤ h.size) {g : JFrame} (hg : g.method = m) {rest : List Value} (hs : g.stack = .int x :: .int j :: .ref a :: rest) (hd : decode c.code g.pc = .ok (.iastore, 1)) :
    ∃ T' h' locs', Stand p l e R s m args below meth c T' locs' cells slots ∧ Fr n0 locs' ∧ T'.heap = h' ∧ Wr h h' a k (.int x) ∧ n0 ≤ h'.size ∧ own_A Z h' a .int (vs.set k (.int x)) ∧ ∀ target, Steps p.tables e below (T'.setTop { g with pc := g.pc + 1, stack := rest }) target → Steps p.tables e below (T.setTop g) target := by
  obtain ⟨cl, Ar, r⟩ := id A
  subst hk
  obtain ⟨T', h', X', e', W, st⟩ := stI X hx hZ eT Ar (j := j) (x := x) (fun q => q.elim hj fun z => absurd hl (by rw [← own_A.size r]; omega)) hg hs hd
  exact ⟨T', h', _, X', Fr.snoc X' N ga, e', W, by rw [W.size]; exact Sz, A.set W, st⟩
theorem own_stJ (X : Stand p l e R s m args below meth c T locs cells slots) (hx : p.tables.exec = Jvm.exec) (hZ : Z.Warmed39 s.vm) (eT : T.heap = h) (A : own_A Z h a .long vs) {j : Int32} {x : Int64} (hj : ¬ j < 0) {k : Nat} (hk : j.toNatClampNeg = k) (hl : k < vs.length) (N : Fr n0 locs) (ga : n0 ≤ a) (Sz : n0 ≤ h.size) {g : JFrame} (hg : g.method = m) {rest : List Value} (hs : g.stack = .long x :: .int j :: .ref a :: rest) (hd : decode c.code g.pc = .ok (.lastore, 1)) :
    ∃ T' h' locs', Stand p l e R s m args below meth c T' locs' cells slots ∧ Fr n0 locs' ∧ T'.heap = h' ∧ Wr h h' a k (.long x) ∧ n0 ≤ h'.size ∧ own_A Z h' a .long (vs.set k (.long x)) ∧ ∀ target, Steps p.tables e below (T'.setTop { g with pc := g.pc + 1, stack := rest }) target → Steps p.tables e below (T.setTop g) target := by
  obtain ⟨cl, Ar, r⟩ := id A
  subst hk
  obtain ⟨T', h', X', e', W, st⟩ := stJ X hx hZ eT Ar (j := j) (x := x) (fun q => q.elim hj fun z => absurd hl (by rw [← own_A.size r]; omega)) hg hs hd
  exact ⟨T', h', _, X', Fr.snoc X' N ga, e', W, by rw [W.size]; exact Sz, A.set W, st⟩
theorem own_stB (X : Stand p l e R s m args below meth c T locs cells slots) (hx : p.tables.exec = Jvm.exec) (hZ : Z.Warmed39 s.vm) (eT : T.heap = h) (A : own_A Z h a .byte vs) {j x : Int32} (hj : ¬ j < 0) {k : Nat} (hk : j.toNatClampNeg = k) (hl : k < vs.length) (N : Fr n0 locs) (ga : n0 ≤ a) (Sz : n0 ≤ h.size) {g : JFrame} (hg : g.method = m) {rest : List Value} (hs : g.stack = .int x :: .int j :: .ref a :: rest) (hd : decode c.code g.pc = .ok (.bastore, 1)) :
    ∃ T' h' locs', Stand p l e R s m args below meth c T' locs' cells slots ∧ Fr n0 locs' ∧ T'.heap = h' ∧ Wr h h' a k (.int (nar .byte x)) ∧ n0 ≤ h'.size ∧ own_A Z h' a .byte (vs.set k (.int (nar .byte x))) ∧ ∀ target, Steps p.tables e below (T'.setTop { g with pc := g.pc + 1, stack := rest }) target → Steps p.tables e below (T.setTop g) target := by
  obtain ⟨cl, Ar, r⟩ := id A
  subst hk
  obtain ⟨T', h', X', e', W, st⟩ := stB X hx hZ eT Ar (j := j) (x := x) (fun q => q.elim hj fun z => absurd hl (by rw [← own_A.size r]; omega)) hg hs hd
  exact ⟨T', h', _, X', Fr.snoc X' N ga, e', W, by rw [W.size]; exact Sz, A.set W, st⟩
theorem own_at {cl : Cell} (r : cl.slots.toList = vs) {k : Nat} {v : Value} (hv : vs[k]? = some v) : cl.slots[k]? = some v ∧ k < cl.slots.size := by
  subst r
  rw [Array.getElem?_toList] at hv
  exact ⟨hv, (Array.getElem?_eq_some_iff.mp hv).1⟩
theorem own_ldI (X : Stand p l e R s m args below meth c T locs cells slots) (hx : p.tables.exec = Jvm.exec) (hZ : Z.Warmed39 s.vm) (eT : T.heap = h) (A : own_A Z h a .int vs) {j : Int32} (hj : ¬ j < 0) {k : Nat} (hk : j.toNatClampNeg = k) {v : Value} (hv : vs[k]? = some v) {g : JFrame} (hg : g.method = m) {rest : List Value} (hs : g.stack = .int j :: .ref a :: rest) (hd : decode c.code g.pc = .ok (.iaload, 1)) (target : State)
    (hr : Steps p.tables e below (T.setTop { g with pc := g.pc + 1, stack := v :: rest }) target) : Steps p.tables e below (T.setTop g) target := by
  obtain ⟨cl, Ar, r⟩ := A
  obtain ⟨q1, q2⟩ := own_at r hv
  subst hk
  exact X.iaload hx (j := j) (v := v) (by rw [eT]; exact Ar.1) (State.isArrayOf_alike hZ.alike Ar.2.1) Ar.2.2 (fun z => z.elim hj fun z => by omega) q1 hg hs hd target hr
theorem own_ldJ (X : Stand p l e R s m args below meth c T locs cells slots) (hx : p.tables.exec = Jvm.exec) (hZ : Z.Warmed39 s.vm) (eT : T.heap = h) (A : own_A Z h a .long vs) {j : Int32} (hj : ¬ j < 0) {k : Nat} (hk : j.toNatClampNeg = k) {v : Value} (hv : vs[k]? = some v) {g : JFrame} (hg : g.method = m) {rest : List Value} (hs : g.stack = .int j :: .ref a :: rest) (hd : decode c.code g.pc = .ok (.laload, 1)) (target : State)
    (hr : Steps p.tables e below (T.setTop { g with pc := g.pc + 1, stack := v :: rest }) target) : Steps p.tables e below (T.setTop g) target := by
  obtain ⟨cl, Ar, r⟩ := A
  obtain ⟨q1, q2⟩ := own_at r hv
  subst hk
  exact X.laload hx (j := j) (v := v) (by rw [eT]; exact Ar.1) (State.isArrayOf_alike hZ.alike Ar.2.1) Ar.2.2 (fun z => z.elim hj fun z => by omega) q1 hg hs hd target hr
theorem own_ldB (X : Stand p l e R s m args below meth c T locs cells slots) (hx : p.tables.exec = Jvm.exec) (hZ : Z.Warmed39 s.vm) (eT : T.heap = h) (A : own_A Z h a .byte vs) {j : Int32} (hj : ¬ j < 0) {k : Nat} (hk : j.toNatClampNeg = k) {v : Value} (hv : vs[k]? = some v) {g : JFrame} (hg : g.method = m) {rest : List Value} (hs : g.stack = .int j :: .ref a :: rest) (hd : decode c.code g.pc = .ok (.baload, 1)) (target : State)
    (hr : Steps p.tables e below (T.setTop { g with pc := g.pc + 1, stack := v :: rest }) target) : Steps p.tables e below (T.setTop g) target := by
  obtain ⟨cl, Ar, r⟩ := A
  obtain ⟨q1, q2⟩ := own_at r hv
  subst hk
  exact X.baloadBytes hx (j := j) (v := v) (by rw [eT]; exact Ar.1) (State.isArrayOf_alike hZ.alike Ar.2.1) Ar.2.2 (fun z => z.elim hj fun z => by omega) q1 hg hs hd target hr
theorem own_len (X : Stand p l e R s m args below meth c T locs cells slots) (hx : p.tables.exec = Jvm.exec) (hZ : Z.Warmed39 s.vm) (eT : T.heap = h) (A : own_A Z h a ty vs) {n : Int32} (hn : vs.length.toInt32 = n) {g : JFrame} (hg : g.method = m) {rest : List Value} (hs : g.stack = .ref a :: rest) (hd : decode c.code g.pc = .ok (.arraylength, 1)) (target : State)
    (hr : Steps p.tables e below (T.setTop { g with pc := g.pc + 1, stack := .int n :: rest }) target) : Steps p.tables e below (T.setTop g) target := by
  obtain ⟨cl, Ar, r⟩ := A
  refine X.arraylength hx (by rw [eT]; exact Ar.1) (State.isArrayOf_alike hZ.alike Ar.2.1) hg hs hd target ?_
  rw [own_A.size r, hn]
  exact hr
end OwnArr
theorem d3_0 : decode jdk_35_method_50_code 0 = .ok (.lload_n 0, 1) := by decide +kernel
theorem d3_1 : decode jdk_35_method_50_code 1 = .ok (.lload_n 0, 1) := by decide +kernel
theorem d3_2 : decode jdk_35_method_50_code 2 = .ok (.iconst 1, 1) := by decide +kernel
theorem d3_3 : decode jdk_35_method_50_code 3 = .ok (.lushr, 1) := by decide +kernel
theorem d3_4 : decode jdk_35_method_50_code 4 = .ok (.ldc2_w 314, 3) := by decide +kernel
theorem d3_7 : decode jdk_35_method_50_code 7 = .ok (.land, 1) := by decide +kernel
theorem d3_8 : decode jdk_35_method_50_code 8 = .ok (.lsub, 1) := by decide +kernel
theorem d3_9 : decode jdk_35_method_50_code 9 = .ok (.lstore_n 0, 1) := by decide +kernel
theorem d3_10 : decode jdk_35_method_50_code 10 = .ok (.lload_n 0, 1) := by decide +kernel
theorem d3_11 : decode jdk_35_method_50_code 11 = .ok (.ldc2_w 316, 3) := by decide +kernel
theorem d3_14 : decode jdk_35_method_50_code 14 = .ok (.land, 1) := by decide +kernel
theorem d3_15 : decode jdk_35_method_50_code 15 = .ok (.lload_n 0, 1) := by decide +kernel
theorem d3_16 : decode jdk_35_method_50_code 16 = .ok (.iconst 2, 1) := by decide +kernel
theorem d3_17 : decode jdk_35_method_50_code 17 = .ok (.lushr, 1) := by decide +kernel
theorem d3_18 : decode jdk_35_method_50_code 18 = .ok (.ldc2_w 316, 3) := by decide +kernel
theorem d3_21 : decode jdk_35_method_50_code 21 = .ok (.land, 1) := by decide +kernel
theorem d3_22 : decode jdk_35_method_50_code 22 = .ok (.ladd, 1) := by decide +kernel
theorem d3_23 : decode jdk_35_method_50_code 23 = .ok (.lstore_n 0, 1) := by decide +kernel
theorem d3_24 : decode jdk_35_method_50_code 24 = .ok (.lload_n 0, 1) := by decide +kernel
theorem d3_25 : decode jdk_35_method_50_code 25 = .ok (.lload_n 0, 1) := by decide +kernel
theorem d3_26 : decode jdk_35_method_50_code 26 = .ok (.iconst 4, 1) := by decide +kernel
theorem d3_27 : decode jdk_35_method_50_code 27 = .ok (.lushr, 1) := by decide +kernel
theorem d3_28 : decode jdk_35_method_50_code 28 = .ok (.ladd, 1) := by decide +kernel
theorem d3_29 : decode jdk_35_method_50_code 29 = .ok (.ldc2_w 318, 3) := by decide +kernel
theorem d3_32 : decode jdk_35_method_50_code 32 = .ok (.land, 1) := by decide +kernel
theorem d3_33 : decode jdk_35_method_50_code 33 = .ok (.lstore_n 0, 1) := by decide +kernel
theorem d3_34 : decode jdk_35_method_50_code 34 = .ok (.lload_n 0, 1) := by decide +kernel
theorem d3_35 : decode jdk_35_method_50_code 35 = .ok (.lload_n 0, 1) := by decide +kernel
theorem d3_36 : decode jdk_35_method_50_code 36 = .ok (.bipush 8, 2) := by decide +kernel
theorem d3_38 : decode jdk_35_method_50_code 38 = .ok (.lushr, 1) := by decide +kernel
theorem d3_39 : decode jdk_35_method_50_code 39 = .ok (.ladd, 1) := by decide +kernel
theorem d3_40 : decode jdk_35_method_50_code 40 = .ok (.lstore_n 0, 1) := by decide +kernel
theorem d3_41 : decode jdk_35_method_50_code 41 = .ok (.lload_n 0, 1) := by decide +kernel
theorem d3_42 : decode jdk_35_method_50_code 42 = .ok (.lload_n 0, 1) := by decide +kernel
theorem d3_43 : decode jdk_35_method_50_code 43 = .ok (.bipush 16, 2) := by decide +kernel
theorem d3_45 : decode jdk_35_method_50_code 45 = .ok (.lushr, 1) := by decide +kernel
theorem d3_46 : decode jdk_35_method_50_code 46 = .ok (.ladd, 1) := by decide +kernel
theorem d3_47 : decode jdk_35_method_50_code 47 = .ok (.lstore_n 0, 1) := by decide +kernel
theorem d3_48 : decode jdk_35_method_50_code 48 = .ok (.lload_n 0, 1) := by decide +kernel
theorem d3_49 : decode jdk_35_method_50_code 49 = .ok (.lload_n 0, 1) := by decide +kernel
theorem d3_50 : decode jdk_35_method_50_code 50 = .ok (.bipush 32, 2) := by decide +kernel
theorem d3_52 : decode jdk_35_method_50_code 52 = .ok (.lushr, 1) := by decide +kernel
theorem d3_53 : decode jdk_35_method_50_code 53 = .ok (.ladd, 1) := by decide +kernel
theorem d3_54 : decode jdk_35_method_50_code 54 = .ok (.lstore_n 0, 1) := by decide +kernel
theorem d3_55 : decode jdk_35_method_50_code 55 = .ok (.lload_n 0, 1) := by decide +kernel
theorem d3_56 : decode jdk_35_method_50_code 56 = .ok (.l2i, 1) := by decide +kernel
theorem d3_57 : decode jdk_35_method_50_code 57 = .ok (.bipush 127, 2) := by decide +kernel
theorem d3_59 : decode jdk_35_method_50_code 59 = .ok (.iand, 1) := by decide +kernel
theorem d3_60 : decode jdk_35_method_50_code 60 = .ok (.ireturn, 1) := by decide +kernel
theorem pn3 : plainName "java/lang/Long" = true := by first | (simp [plainName, overriddenIn]; done) | decide +kernel
theorem pd3 : parseMethodDescriptor "(J)I" = some ⟨[.long], some .int⟩ := by decide +kernel
theorem ef3 (m : MethodId) (q0 : Int64) : entryFrame m #[(.long q0)] 2 = mkF m 0 #[.val (.long q0), .second] [] := by first | (simp [entryFrame, mkF, argsToLocals, Value.category]; done) | rfl
def f3_55 (j0 : Int64) : Int32 :=
  ((j0.toInt32) &&& (127 : Int32))
set_option maxRecDepth 65536 in
set_option maxHeartbeats 4000000 in
theorem b3_55 {p : Program} {l : Launch} {e : Env} {s : State} {m : MethodId} {args : Array Value} {below : List Frame} {meth : Method} {c : Code} {T0 : State} {locs : List Loc} {Z : State} {a0 : Array Value} {h0 : Heap} {n0 : Nat} (j0 : Int64) {r : Int32} (X0 : Stand p l e ({ frames := 0, cells := 0, slots := 0, locals := 0 } : Room) s m args below meth c T0 locs 0 0) (hx : p.tables.exec = Jvm.exec) (hZ : Z.Warmed39 s.vm) (hw : ∀ d ∈ tables_1, d.before a0 Z = true) (hby : c.code = jdk_35_method_50_code) (hml : c.maxLocals = 2) (hown : s.vm.findClass "java/lang/Long" = some m.cls) (hret : meth.sig.returnType = some .int) (hlk : meth.locks = false) (e0 : T0.heap = h0) (N0 : Fr n0 locs) (hr : r = f3_55 j0) :
    own_Ends p e below s 0 0 (own_P (.int r) h0 n0) T0 (mkF m 55 #[.val (.long j0), .second] []) := by
  unfold f3_55 at hr
  refine own_step (T' := T0) (f' := (mkF m 60 #[.val (.long j0), .second] [(.int ((j0.toInt32) &&& (127 : Int32)))])) (fun t kt => ?_) ?_
  · show Steps p.tables e below (T0.setTop (mkF m 55 #[.val (.long j0), .second] [])) _
    refine XS.lloadN X0.here hx rfl (hb hby d3_55) rfl ?_
    show Steps p.tables e below (T0.setTop (mkF m 56 #[.val (.long j0), .second] [(.long j0)])) _
    refine XS.l2i X0.here hx rfl (hb hby d3_56) rfl ?_
    show Steps p.tables e below (T0.setTop (mkF m 57 #[.val (.long j0), .second] [(.int (j0.toInt32))])) _
    refine XS.bipush X0.here hx rfl (hb hby d3_57) ?_
    show Steps p.tables e below (T0.setTop (mkF m 59 #[.val (.long j0), .second] [(.int (127 : Int32)), (.int (j0.toInt32))])) _
    refine XS.iand X0.here hx rfl (hb hby d3_59) rfl ?_
    exact kt
  exact own_retI X0 hx hret hlk (hb hby d3_60) (Nat.le_refl _) (Nat.le_refl _) ⟨congrArg (fun z => some (Value.int z)) hr.symm, N0, e0⟩
def f3_48 (j0 : Int64) : Int32 :=
  f3_55 (j0 + ((j0.toUInt64 >>> ((32 : Int32) &&& 0x3f).toInt64.toUInt64).toInt64))
set_option maxRecDepth 65536 in
set_option maxHeartbeats 4000000 in
theorem b3_48 {p : Program} {l : Launch} {e : Env} {s : State} {m : MethodId} {args : Array Value} {below : List Frame} {meth : Method} {c : Code} {T0 : State} {locs : List Loc} {Z : State} {a0 : Array Value} {h0 : Heap} {n0 : Nat} (j0 : Int64) {r : Int32} (X0 : Stand p l e ({ frames := 0, cells := 0, slots := 0, locals := 0 } : Room) s m args below meth c T0 locs 0 0) (hx : p.tables.exec = Jvm.exec) (hZ : Z.Warmed39 s.vm) (hw : ∀ d ∈ tables_1, d.before a0 Z = true) (hby : c.code = jdk_35_method_50_code) (hml : c.maxLocals = 2) (hown : s.vm.findClass "java/lang/Long" = some m.cls) (hret : meth.sig.returnType = some .int) (hlk : meth.locks = false) (e0 : T0.heap = h0) (N0 : Fr n0 locs) (hr : r = f3_48 j0) :
    own_Ends p e below s 0 0 (own_P (.int r) h0 n0) T0 (mkF m 48 #[.val (.long j0), .second] []) := by
  unfold f3_48 at hr
  refine own_step (T' := T0) (f' := (mkF m 55 #[.val (.long (j0 + ((j0.toUInt64 >>> ((32 : Int32) &&& 0x3f).toInt64.toUInt64).toInt64))), .second] [])) (fun t kt => ?_) ?_
  · show Steps p.tables e below (T0.setTop (mkF m 48 #[.val (.long j0), .second] [])) _
    refine XS.lloadN X0.here hx rfl (hb hby d3_48) rfl ?_
    show Steps p.tables e below (T0.setTop (mkF m 49 #[.val (.long j0), .second] [(.long j0)])) _
    refine XS.lloadN X0.here hx rfl (hb hby d3_49) rfl ?_
    show Steps p.tables e below (T0.setTop (mkF m 50 #[.val (.long j0), .second] [(.long j0), (.long j0)])) _
    refine XS.bipush X0.here hx rfl (hb hby d3_50) ?_
    show Steps p.tables e below (T0.setTop (mkF m 52 #[.val (.long j0), .second] [(.int (32 : Int32)), (.long j0), (.long j0)])) _
    refine XS.lushr X0.here hx rfl (hb hby d3_52) rfl ?_
    show Steps p.tables e below (T0.setTop (mkF m 53 #[.val (.long j0), .second] [(.long ((j0.toUInt64 >>> ((32 : Int32) &&& 0x3f).toInt64.toUInt64).toInt64)), (.long j0)])) _
    refine XS.ladd X0.here hx rfl (hb hby d3_53) rfl ?_
    show Steps p.tables e below (T0.setTop (mkF m 54 #[.val (.long j0), .second] [(.long (j0 + ((j0.toUInt64 >>> ((32 : Int32) &&& 0x3f).toInt64.toUInt64).toInt64)))])) _
    refine XS.lstoreN X0.here hx rfl (hb hby d3_54) rfl (l' := #[.val (.long (j0 + ((j0.toUInt64 >>> ((32 : Int32) &&& 0x3f).toInt64.toUInt64).toInt64))), .second]) rfl ?_
    exact kt
  exact b3_55 (j0 + ((j0.toUInt64 >>> ((32 : Int32) &&& 0x3f).toInt64.toUInt64).toInt64)) X0 hx hZ hw hby hml hown hret hlk e0 N0 hr
def f3_41 (j0 : Int64) : Int32 :=
  f3_48 (j0 + ((j0.toUInt64 >>> ((16 : Int32) &&& 0x3f).toInt64.toUInt64).toInt64))
set_option maxRecDepth 65536 in
set_option maxHeartbeats 4000000 in
theorem b3_41 {p : Program} {l : Launch} {e : Env} {s : State} {m : MethodId} {args : Array Value} {below : List Frame} {meth : Method} {c : Code} {T0 : State} {locs : List Loc} {Z : State} {a0 : Array Value} {h0 : Heap} {n0 : Nat} (j0 : Int64) {r : Int32} (X0 : Stand p l e ({ frames := 0, cells := 0, slots := 0, locals := 0 } : Room) s m args below meth c T0 locs 0 0) (hx : p.tables.exec = Jvm.exec) (hZ : Z.Warmed39 s.vm) (hw : ∀ d ∈ tables_1, d.before a0 Z = true) (hby : c.code = jdk_35_method_50_code) (hml : c.maxLocals = 2) (hown : s.vm.findClass "java/lang/Long" = some m.cls) (hret : meth.sig.returnType = some .int) (hlk : meth.locks = false) (e0 : T0.heap = h0) (N0 : Fr n0 locs) (hr : r = f3_41 j0) :
    own_Ends p e below s 0 0 (own_P (.int r) h0 n0) T0 (mkF m 41 #[.val (.long j0), .second] []) := by
  unfold f3_41 at hr
  refine own_step (T' := T0) (f' := (mkF m 48 #[.val (.long (j0 + ((j0.toUInt64 >>> ((16 : Int32) &&& 0x3f).toInt64.toUInt64).toInt64))), .second] [])) (fun t kt => ?_) ?_
  · show Steps p.tables e below (T0.setTop (mkF m 41 #[.val (.long j0), .second] [])) _
    refine XS.lloadN X0.here hx rfl (hb hby d3_41) rfl ?_
    show Steps p.tables e below (T0.setTop (mkF m 42 #[.val (.long j0), .second] [(.long j0)])) _
    refine XS.lloadN X0.here hx rfl (hb hby d3_42) rfl ?_
    show Steps p.tables e below (T0.setTop (mkF m 43 #[.val (.long j0), .second] [(.long j0), (.long j0)])) _
    refine XS.bipush X0.here hx rfl (hb hby d3_43) ?_
    show Steps p.tables e below (T0.setTop (mkF m 45 #[.val (.long j0), .second] [(.int (16 : Int32)), (.long j0), (.long j0)])) _
    refine XS.lushr X0.here hx rfl (hb hby d3_45) rfl ?_
    show Steps p.tables e below (T0.setTop (mkF m 46 #[.val (.long j0), .second] [(.long ((j0.toUInt64 >>> ((16 : Int32) &&& 0x3f).toInt64.toUInt64).toInt64)), (.long j0)])) _
    refine XS.ladd X0.here hx rfl (hb hby d3_46) rfl ?_
    show Steps p.tables e below (T0.setTop (mkF m 47 #[.val (.long j0), .second] [(.long (j0 + ((j0.toUInt64 >>> ((16 : Int32) &&& 0x3f).toInt64.toUInt64).toInt64)))])) _
    refine XS.lstoreN X0.here hx rfl (hb hby d3_47) rfl (l' := #[.val (.long (j0 + ((j0.toUInt64 >>> ((16 : Int32) &&& 0x3f).toInt64.toUInt64).toInt64))), .second]) rfl ?_
    exact kt
  exact b3_48 (j0 + ((j0.toUInt64 >>> ((16 : Int32) &&& 0x3f).toInt64.toUInt64).toInt64)) X0 hx hZ hw hby hml hown hret hlk e0 N0 hr
def f3_34 (j0 : Int64) : Int32 :=
  f3_41 (j0 + ((j0.toUInt64 >>> ((8 : Int32) &&& 0x3f).toInt64.toUInt64).toInt64))
set_option maxRecDepth 65536 in
set_option maxHeartbeats 4000000 in
theorem b3_34 {p : Program} {l : Launch} {e : Env} {s : State} {m : MethodId} {args : Array Value} {below : List Frame} {meth : Method} {c : Code} {T0 : State} {locs : List Loc} {Z : State} {a0 : Array Value} {h0 : Heap} {n0 : Nat} (j0 : Int64) {r : Int32} (X0 : Stand p l e ({ frames := 0, cells := 0, slots := 0, locals := 0 } : Room) s m args below meth c T0 locs 0 0) (hx : p.tables.exec = Jvm.exec) (hZ : Z.Warmed39 s.vm) (hw : ∀ d ∈ tables_1, d.before a0 Z = true) (hby : c.code = jdk_35_method_50_code) (hml : c.maxLocals = 2) (hown : s.vm.findClass "java/lang/Long" = some m.cls) (hret : meth.sig.returnType = some .int) (hlk : meth.locks = false) (e0 : T0.heap = h0) (N0 : Fr n0 locs) (hr : r = f3_34 j0) :
    own_Ends p e below s 0 0 (own_P (.int r) h0 n0) T0 (mkF m 34 #[.val (.long j0), .second] []) := by
  unfold f3_34 at hr
  refine own_step (T' := T0) (f' := (mkF m 41 #[.val (.long (j0 + ((j0.toUInt64 >>> ((8 : Int32) &&& 0x3f).toInt64.toUInt64).toInt64))), .second] [])) (fun t kt => ?_) ?_
  · show Steps p.tables e below (T0.setTop (mkF m 34 #[.val (.long j0), .second] [])) _
    refine XS.lloadN X0.here hx rfl (hb hby d3_34) rfl ?_
    show Steps p.tables e below (T0.setTop (mkF m 35 #[.val (.long j0), .second] [(.long j0)])) _
    refine XS.lloadN X0.here hx rfl (hb hby d3_35) rfl ?_
    show Steps p.tables e below (T0.setTop (mkF m 36 #[.val (.long j0), .second] [(.long j0), (.long j0)])) _
    refine XS.bipush X0.here hx rfl (hb hby d3_36) ?_
    show Steps p.tables e below (T0.setTop (mkF m 38 #[.val (.long j0), .second] [(.int (8 : Int32)), (.long j0), (.long j0)])) _
    refine XS.lushr X0.here hx rfl (hb hby d3_38) rfl ?_
    show Steps p.tables e below (T0.setTop (mkF m 39 #[.val (.long j0), .second] [(.long ((j0.toUInt64 >>> ((8 : Int32) &&& 0x3f).toInt64.toUInt64).toInt64)), (.long j0)])) _
    refine XS.ladd X0.here hx rfl (hb hby d3_39) rfl ?_
    show Steps p.tables e below (T0.setTop (mkF m 40 #[.val (.long j0), .second] [(.long (j0 + ((j0.toUInt64 >>> ((8 : Int32) &&& 0x3f).toInt64.toUInt64).toInt64)))])) _
    refine XS.lstoreN X0.here hx rfl (hb hby d3_40) rfl (l' := #[.val (.long (j0 + ((j0.toUInt64 >>> ((8 : Int32) &&& 0x3f).toInt64.toUInt64).toInt64))), .second]) rfl ?_
    exact kt
  exact b3_41 (j0 + ((j0.toUInt64 >>> ((8 : Int32) &&& 0x3f).toInt64.toUInt64).toInt64)) X0 hx hZ hw hby hml hown hret hlk e0 N0 hr
def f3_24 (j0 : Int64) : Int32 :=
  f3_34 ((j0 + ((j0.toUInt64 >>> ((4 : Int32) &&& 0x3f).toInt64.toUInt64).toInt64)) &&& (1085102592571150095 : Int64))
set_option maxRecDepth 65536 in
set_option maxHeartbeats 4000000 in
theorem b3_24 {p : Program} {l : Launch} {e : Env} {s : State} {m : MethodId} {args : Array Value} {below : List Frame} {meth : Method} {c : Code} {T0 : State} {locs : List Loc} {Z : State} {a0 : Array Value} {h0 : Heap} {n0 : Nat} (j0 : Int64) {r : Int32} (X0 : Stand p l e ({ frames := 0, cells := 0, slots := 0, locals := 0 } : Room) s m args below meth c T0 locs 0 0) (hx : p.tables.exec = Jvm.exec) (hZ : Z.Warmed39 s.vm) (hw : ∀ d ∈ tables_1, d.before a0 Z = true) (hby : c.code = jdk_35_method_50_code) (hml : c.maxLocals = 2) (hown : s.vm.findClass "java/lang/Long" = some m.cls) (hret : meth.sig.returnType = some .int) (hlk : meth.locks = false) (e0 : T0.heap = h0) (N0 : Fr n0 locs) (hr : r = f3_24 j0) :
    own_Ends p e below s 0 0 (own_P (.int r) h0 n0) T0 (mkF m 24 #[.val (.long j0), .second] []) := by
  unfold f3_24 at hr
  refine own_step (T' := T0) (f' := (mkF m 34 #[.val (.long ((j0 + ((j0.toUInt64 >>> ((4 : Int32) &&& 0x3f).toInt64.toUInt64).toInt64)) &&& (1085102592571150095 : Int64))), .second] [])) (fun t kt => ?_) ?_
  · show Steps p.tables e below (T0.setTop (mkF m 24 #[.val (.long j0), .second] [])) _
    refine XS.lloadN X0.here hx rfl (hb hby d3_24) rfl ?_
    show Steps p.tables e below (T0.setTop (mkF m 25 #[.val (.long j0), .second] [(.long j0)])) _
    refine XS.lloadN X0.here hx rfl (hb hby d3_25) rfl ?_
    show Steps p.tables e below (T0.setTop (mkF m 26 #[.val (.long j0), .second] [(.long j0), (.long j0)])) _
    refine XS.iconst X0.here hx rfl (hb hby d3_26) ?_
    show Steps p.tables e below (T0.setTop (mkF m 27 #[.val (.long j0), .second] [(.int (4 : Int32)), (.long j0), (.long j0)])) _
    refine XS.lushr X0.here hx rfl (hb hby d3_27) rfl ?_
    show Steps p.tables e below (T0.setTop (mkF m 28 #[.val (.long j0), .second] [(.long ((j0.toUInt64 >>> ((4 : Int32) &&& 0x3f).toInt64.toUInt64).toInt64)), (.long j0)])) _
    refine XS.ladd X0.here hx rfl (hb hby d3_28) rfl ?_
    show Steps p.tables e below (T0.setTop (mkF m 29 #[.val (.long j0), .second] [(.long (j0 + ((j0.toUInt64 >>> ((4 : Int32) &&& 0x3f).toInt64.toUInt64).toInt64)))])) _
    refine X0.ldc2Long hx hown (mvT hZ (hw _ (List.mem_of_getElem? (i := 20) rfl))) (g := (mkF m 29 #[.val (.long j0), .second] [(.long (j0 + ((j0.toUInt64 >>> ((4 : Int32) &&& 0x3f).toInt64.toUInt64).toInt64)))])) rfl (hb hby d3_29) _ ?_
    show Steps p.tables e below (T0.setTop (mkF m 32 #[.val (.long j0), .second] [(.long (1085102592571150095 : Int64)), (.long (j0 + ((j0.toUInt64 >>> ((4 : Int32) &&& 0x3f).toInt64.toUInt64).toInt64)))])) _
    refine XS.land X0.here hx rfl (hb hby d3_32) rfl ?_
    show Steps p.tables e below (T0.setTop (mkF m 33 #[.val (.long j0), .second] [(.long ((j0 + ((j0.toUInt64 >>> ((4 : Int32) &&& 0x3f).toInt64.toUInt64).toInt64)) &&& (1085102592571150095 : Int64)))])) _
    refine XS.lstoreN X0.here hx rfl (hb hby d3_33) rfl (l' := #[.val (.long ((j0 + ((j0.toUInt64 >>> ((4 : Int32) &&& 0x3f).toInt64.toUInt64).toInt64)) &&& (1085102592571150095 : Int64))), .second]) rfl ?_
    exact kt
  exact b3_34 ((j0 + ((j0.toUInt64 >>> ((4 : Int32) &&& 0x3f).toInt64.toUInt64).toInt64)) &&& (1085102592571150095 : Int64)) X0 hx hZ hw hby hml hown hret hlk e0 N0 hr
def f3_10 (j0 : Int64) : Int32 :=
  f3_24 ((j0 &&& (3689348814741910323 : Int64)) + (((j0.toUInt64 >>> ((2 : Int32) &&& 0x3f).toInt64.toUInt64).toInt64) &&& (3689348814741910323 : Int64)))
set_option maxRecDepth 65536 in
set_option maxHeartbeats 4000000 in
theorem b3_10 {p : Program} {l : Launch} {e : Env} {s : State} {m : MethodId} {args : Array Value} {below : List Frame} {meth : Method} {c : Code} {T0 : State} {locs : List Loc} {Z : State} {a0 : Array Value} {h0 : Heap} {n0 : Nat} (j0 : Int64) {r : Int32} (X0 : Stand p l e ({ frames := 0, cells := 0, slots := 0, locals := 0 } : Room) s m args below meth c T0 locs 0 0) (hx : p.tables.exec = Jvm.exec) (hZ : Z.Warmed39 s.vm) (hw : ∀ d ∈ tables_1, d.before a0 Z = true) (hby : c.code = jdk_35_method_50_code) (hml : c.maxLocals = 2) (hown : s.vm.findClass "java/lang/Long" = some m.cls) (hret : meth.sig.returnType = some .int) (hlk : meth.locks = false) (e0 : T0.heap = h0) (N0 : Fr n0 locs) (hr : r = f3_10 j0) :
    own_Ends p e below s 0 0 (own_P (.int r) h0 n0) T0 (mkF m 10 #[.val (.long j0), .second] []) := by
  unfold f3_10 at hr
  refine own_step (T' := T0) (f' := (mkF m 24 #[.val (.long ((j0 &&& (3689348814741910323 : Int64)) + (((j0.toUInt64 >>> ((2 : Int32) &&& 0x3f).toInt64.toUInt64).toInt64) &&& (3689348814741910323 : Int64)))), .second] [])) (fun t kt => ?_) ?_
  · show Steps p.tables e below (T0.setTop (mkF m 10 #[.val (.long j0), .second] [])) _
    refine XS.lloadN X0.here hx rfl (hb hby d3_10) rfl ?_
    show Steps p.tables e below (T0.setTop (mkF m 11 #[.val (.long j0), .second] [(.long j0)])) _
    refine X0.ldc2Long hx hown (mvT hZ (hw _ (List.mem_of_getElem? (i := 19) rfl))) (g := (mkF m 11 #[.val (.long j0), .second] [(.long j0)])) rfl (hb hby d3_11) _ ?_
    show Steps p.tables e below (T0.setTop (mkF m 14 #[.val (.long j0), .second] [(.long (3689348814741910323 : Int64)), (.long j0)])) _
    refine XS.land X0.here hx rfl (hb hby d3_14) rfl ?_
    show Steps p.tables e below (T0.setTop (mkF m 15 #[.val (.long j0), .second] [(.long (j0 &&& (3689348814741910323 : Int64)))])) _
    refine XS.lloadN X0.here hx rfl (hb hby d3_15) rfl ?_
    show Steps p.tables e below (T0.setTop (mkF m 16 #[.val (.long j0), .second] [(.long j0), (.long (j0 &&& (3689348814741910323 : Int64)))])) _
    refine XS.iconst X0.here hx rfl (hb hby d3_16) ?_
    show Steps p.tables e below (T0.setTop (mkF m 17 #[.val (.long j0), .second] [(.int (2 : Int32)), (.long j0), (.long (j0 &&& (3689348814741910323 : Int64)))])) _
    refine XS.lushr X0.here hx rfl (hb hby d3_17) rfl ?_
    show Steps p.tables e below (T0.setTop (mkF m 18 #[.val (.long j0), .second] [(.long ((j0.toUInt64 >>> ((2 : Int32) &&& 0x3f).toInt64.toUInt64).toInt64)), (.long (j0 &&& (3689348814741910323 : Int64)))])) _
    refine X0.ldc2Long hx hown (mvT hZ (hw _ (List.mem_of_getElem? (i := 19) rfl))) (g := (mkF m 18 #[.val (.long j0), .second] [(.long ((j0.toUInt64 >>> ((2 : Int32) &&& 0x3f).toInt64.toUInt64).toInt64)), (.long (j0 &&& (3689348814741910323 : Int64)))])) rfl (hb hby d3_18) _ ?_
    show Steps p.tables e below (T0.setTop (mkF m 21 #[.val (.long j0), .second] [(.long (3689348814741910323 : Int64)), (.long ((j0.toUInt64 >>> ((2 : Int32) &&& 0x3f).toInt64.toUInt64).toInt64)), (.long (j0 &&& (3689348814741910323 : Int64)))])) _
    refine XS.land X0.here hx rfl (hb hby d3_21) rfl ?_
    show Steps p.tables e below (T0.setTop (mkF m 22 #[.val (.long j0), .second] [(.long (((j0.toUInt64 >>> ((2 : Int32) &&& 0x3f).toInt64.toUInt64).toInt64) &&& (3689348814741910323 : Int64))), (.long (j0 &&& (3689348814741910323 : Int64)))])) _
    refine XS.ladd X0.here hx rfl (hb hby d3_22) rfl ?_
    show Steps p.tables e below (T0.setTop (mkF m 23 #[.val (.long j0), .second] [(.long ((j0 &&& (3689348814741910323 : Int64)) + (((j0.toUInt64 >>> ((2 : Int32) &&& 0x3f).toInt64.toUInt64).toInt64) &&& (3689348814741910323 : Int64))))])) _
    refine XS.lstoreN X0.here hx rfl (hb hby d3_23) rfl (l' := #[.val (.long ((j0 &&& (3689348814741910323 : Int64)) + (((j0.toUInt64 >>> ((2 : Int32) &&& 0x3f).toInt64.toUInt64).toInt64) &&& (3689348814741910323 : Int64)))), .second]) rfl ?_
    exact kt
  exact b3_24 ((j0 &&& (3689348814741910323 : Int64)) + (((j0.toUInt64 >>> ((2 : Int32) &&& 0x3f).toInt64.toUInt64).toInt64) &&& (3689348814741910323 : Int64))) X0 hx hZ hw hby hml hown hret hlk e0 N0 hr
def f3_0 (q0 : Int64) : Int32 :=
  f3_10 (q0 - (((q0.toUInt64 >>> ((1 : Int32) &&& 0x3f).toInt64.toUInt64).toInt64) &&& (6148914691236517205 : Int64)))
set_option maxRecDepth 65536 in
set_option maxHeartbeats 4000000 in
theorem b3_0 {p : Program} {l : Launch} {e : Env} {s : State} {m : MethodId} {args : Array Value} {below : List Frame} {meth : Method} {c : Code} {T0 : State} {locs : List Loc} {Z : State} {a0 : Array Value} {h0 : Heap} {n0 : Nat} (q0 : Int64) {r : Int32} (X0 : Stand p l e ({ frames := 0, cells := 0, slots := 0, locals := 0 } : Room) s m args below meth c T0 locs 0 0) (hx : p.tables.exec = Jvm.exec) (hZ : Z.Warmed39 s.vm) (hw : ∀ d ∈ tables_1, d.before a0 Z = true) (hby : c.code = jdk_35_method_50_code) (hml : c.maxLocals = 2) (hown : s.vm.findClass "java/lang/Long" = some m.cls) (hret : meth.sig.returnType = some .int) (hlk : meth.locks = false) (e0 : T0.heap = h0) (N0 : Fr n0 locs) (hr : r = f3_0 q0) :
    own_Ends p e below s 0 0 (own_P (.int r) h0 n0) T0 (mkF m 0 #[.val (.long q0), .second] []) := by
  unfold f3_0 at hr
  refine own_step (T' := T0) (f' := (mkF m 10 #[.val (.long (q0 - (((q0.toUInt64 >>> ((1 : Int32) &&& 0x3f).toInt64.toUInt64).toInt64) &&& (6148914691236517205 : Int64)))), .second] [])) (fun t kt => ?_) ?_
  · show Steps p.tables e below (T0.setTop (mkF m 0 #[.val (.long q0), .second] [])) _
    refine XS.lloadN X0.here hx rfl (hb hby d3_0) rfl ?_
    show Steps p.tables e below (T0.setTop (mkF m 1 #[.val (.long q0), .second] [(.long q0)])) _
    refine XS.lloadN X0.here hx rfl (hb hby d3_1) rfl ?_
    show Steps p.tables e below (T0.setTop (mkF m 2 #[.val (.long q0), .second] [(.long q0), (.long q0)])) _
    refine XS.iconst X0.here hx rfl (hb hby d3_2) ?_
    show Steps p.tables e below (T0.setTop (mkF m 3 #[.val (.long q0), .second] [(.int (1 : Int32)), (.long q0), (.long q0)])) _
    refine XS.lushr X0.here hx rfl (hb hby d3_3) rfl ?_
    show Steps p.tables e below (T0.setTop (mkF m 4 #[.val (.long q0), .second] [(.long ((q0.toUInt64 >>> ((1 : Int32) &&& 0x3f).toInt64.toUInt64).toInt64)), (.long q0)])) _
    refine X0.ldc2Long hx hown (mvT hZ (hw _ (List.mem_of_getElem? (i := 18) rfl))) (g := (mkF m 4 #[.val (.long q0), .second] [(.long ((q0.toUInt64 >>> ((1 : Int32) &&& 0x3f).toInt64.toUInt64).toInt64)), (.long q0)])) rfl (hb hby d3_4) _ ?_
    show Steps p.tables e below (T0.setTop (mkF m 7 #[.val (.long q0), .second] [(.long (6148914691236517205 : Int64)), (.long ((q0.toUInt64 >>> ((1 : Int32) &&& 0x3f).toInt64.toUInt64).toInt64)), (.long q0)])) _
    refine XS.land X0.here hx rfl (hb hby d3_7) rfl ?_
    show Steps p.tables e below (T0.setTop (mkF m 8 #[.val (.long q0), .second] [(.long (((q0.toUInt64 >>> ((1 : Int32) &&& 0x3f).toInt64.toUInt64).toInt64) &&& (6148914691236517205 : Int64))), (.long q0)])) _
    refine XS.lsub X0.here hx rfl (hb hby d3_8) rfl ?_
    show Steps p.tables e below (T0.setTop (mkF m 9 #[.val (.long q0), .second] [(.long (q0 - (((q0.toUInt64 >>> ((1 : Int32) &&& 0x3f).toInt64.toUInt64).toInt64) &&& (6148914691236517205 : Int64))))])) _
    refine XS.lstoreN X0.here hx rfl (hb hby d3_9) rfl (l' := #[.val (.long (q0 - (((q0.toUInt64 >>> ((1 : Int32) &&& 0x3f).toInt64.toUInt64).toInt64) &&& (6148914691236517205 : Int64)))), .second]) rfl ?_
    exact kt
  exact b3_10 (q0 - (((q0.toUInt64 >>> ((1 : Int32) &&& 0x3f).toInt64.toUInt64).toInt64) &&& (6148914691236517205 : Int64))) X0 hx hZ hw hby hml hown hret hlk e0 N0 hr
set_option maxRecDepth 65536 in
set_option maxHeartbeats 4000000 in
theorem rm3 (l : Launch) (Z : State) (a0 : Array Value) (hw : ∀ d ∈ tables_1, d.before a0 Z = true) (ws : List Jvm.Cond) (q0 : Int64) (h0 : Heap) (n0 : Nat) :
    MetFree l (⟨"java/lang/Long", "bitCount", "(J)I"⟩ : MethodName) (head1 (Jvm.Cond.code (⟨"java/lang/Long", "bitCount", "(J)I"⟩ : MethodName) jdk_35_method_50_code 2 (some .int) :: ws) ({ frames := 0, cells := 0, slots := 0, locals := 0 } : Room)) (fun a U => a = #[(.long q0)] ∧ Z.Warmed39 U.vm ∧ U.heap = h0) (fun _ _ _ _ _ => True) (fun _ U o U' => ∃ v L, o = .returned v ∧ (own_P (.int (f3_0 q0)) h0 n0) v U'.heap L ∧ FrameEnd U o U' L ({ frames := 0, cells := 0, slots := 0, locals := 0 } : Room).cells ({ frames := 0, cells := 0, slots := 0, locals := 0 } : Room).slots) := by
  refine MetFree.of_bodySF (plainFor_of_name pn3) hisR ?_
  intro p e s m args below meth c s₁ Bd hml0 hP hK
  obtain ⟨rfl, hZ, hh⟩ := hP
  have hown : s.vm.findClass "java/lang/Long" = some m.cls := findClass_of_methodNamed Bd.named
  have X0 : Stand p l e ({ frames := 0, cells := 0, slots := 0, locals := 0 } : Room) s m #[(.long q0)] below meth c s₁ [] 0 0 := Stand.of_body Bd
  have e0 : s₁.heap = h0 := by rw [← hh, Bd.state]; rfl
  show own_Ends p e below s 0 0 (own_P (.int (f3_0 q0)) h0 n0) s₁ (entryFrame m #[(.long q0)] 2)
  refine own_step (fun t k => castTop (ef3 m q0) k) ?_
  exact b3_0 q0 X0 Bd.exec hZ hw Bd.bytes hml0 hown Bd.returns (BodyLoose.notSynchronized Bd) e0 (Fr.nil n0) rfl
theorem d2_0 : decode method_2_code 0 = .ok (.lload_n 0, 1) := by decide +kernel
theorem d2_1 : decode method_2_code 1 = .ok (.lstore_n 2, 1) := by decide +kernel
theorem d2_2 : decode method_2_code 2 = .ok (.lload_n 2, 1) := by decide +kernel
theorem d2_3 : decode method_2_code 3 = .ok (.lload_n 2, 1) := by decide +kernel
theorem d2_4 : decode method_2_code 4 = .ok (.iconst 1, 1) := by decide +kernel
theorem d2_5 : decode method_2_code 5 = .ok (.lushr, 1) := by decide +kernel
theorem d2_6 : decode method_2_code 6 = .ok (.ldc2_w 7, 3) := by decide +kernel
theorem d2_9 : decode method_2_code 9 = .ok (.land, 1) := by decide +kernel
theorem d2_10 : decode method_2_code 10 = .ok (.lsub, 1) := by decide +kernel
theorem d2_11 : decode method_2_code 11 = .ok (.lstore_n 2, 1) := by decide +kernel
theorem d2_12 : decode method_2_code 12 = .ok (.lload_n 2, 1) := by decide +kernel
theorem d2_13 : decode method_2_code 13 = .ok (.ldc2_w 9, 3) := by decide +kernel
theorem d2_16 : decode method_2_code 16 = .ok (.land, 1) := by decide +kernel
theorem d2_17 : decode method_2_code 17 = .ok (.lload_n 2, 1) := by decide +kernel
theorem d2_18 : decode method_2_code 18 = .ok (.iconst 2, 1) := by decide +kernel
theorem d2_19 : decode method_2_code 19 = .ok (.lushr, 1) := by decide +kernel
theorem d2_20 : decode method_2_code 20 = .ok (.ldc2_w 9, 3) := by decide +kernel
theorem d2_23 : decode method_2_code 23 = .ok (.land, 1) := by decide +kernel
theorem d2_24 : decode method_2_code 24 = .ok (.ladd, 1) := by decide +kernel
theorem d2_25 : decode method_2_code 25 = .ok (.lstore_n 2, 1) := by decide +kernel
theorem d2_26 : decode method_2_code 26 = .ok (.lload_n 2, 1) := by decide +kernel
theorem d2_27 : decode method_2_code 27 = .ok (.lload_n 2, 1) := by decide +kernel
theorem d2_28 : decode method_2_code 28 = .ok (.iconst 4, 1) := by decide +kernel
theorem d2_29 : decode method_2_code 29 = .ok (.lushr, 1) := by decide +kernel
theorem d2_30 : decode method_2_code 30 = .ok (.ladd, 1) := by decide +kernel
theorem d2_31 : decode method_2_code 31 = .ok (.ldc2_w 11, 3) := by decide +kernel
theorem d2_34 : decode method_2_code 34 = .ok (.land, 1) := by decide +kernel
theorem d2_35 : decode method_2_code 35 = .ok (.lstore_n 2, 1) := by decide +kernel
theorem d2_36 : decode method_2_code 36 = .ok (.lload_n 2, 1) := by decide +kernel
theorem d2_37 : decode method_2_code 37 = .ok (.ldc2_w 13, 3) := by decide +kernel
theorem d2_40 : decode method_2_code 40 = .ok (.lmul, 1) := by decide +kernel
theorem d2_41 : decode method_2_code 41 = .ok (.bipush 56, 2) := by decide +kernel
theorem d2_43 : decode method_2_code 43 = .ok (.lushr, 1) := by decide +kernel
theorem d2_44 : decode method_2_code 44 = .ok (.l2i, 1) := by decide +kernel
theorem d2_45 : decode method_2_code 45 = .ok (.ireturn, 1) := by decide +kernel
theorem pn2 : plainName "com/example/conceal/conceal/TransactionRemovalHoldingPinLaw" = true := by first | (simp [plainName, overriddenIn]; done) | decide +kernel
theorem pd2 : parseMethodDescriptor "(J)I" = some ⟨[.long], some .int⟩ := by decide +kernel
theorem ef2 (m : MethodId) (q0 : Int64) : entryFrame m #[(.long q0)] 4 = mkF m 0 #[.val (.long q0), .second, .unset, .unset] [] := by first | (simp [entryFrame, mkF, argsToLocals, Value.category]; done) | rfl
def f2_36 (j2 : Int64) : Int32 :=
  ((((j2 * (72340172838076673 : Int64)).toUInt64 >>> ((56 : Int32) &&& 0x3f).toInt64.toUInt64).toInt64).toInt32)
set_option maxRecDepth 65536 in
set_option maxHeartbeats 4000000 in
theorem b2_36 {p : Program} {l : Launch} {e : Env} {s : State} {m : MethodId} {args : Array Value} {below : List Frame} {meth : Method} {c : Code} {T0 : State} {locs : List Loc} {Z : State} {a0 : Array Value} {h0 : Heap} {n0 : Nat} (j0 : Int64) (j2 : Int64) {r : Int32} (X0 : Stand p l e ({ frames := 0, cells := 0, slots := 0, locals := 0 } : Room) s m args below meth c T0 locs 0 0) (hx : p.tables.exec = Jvm.exec) (hZ : Z.Warmed39 s.vm) (hw : ∀ d ∈ tables_1, d.before a0 Z = true) (hby : c.code = method_2_code) (hml : c.maxLocals = 4) (hown : s.vm.findClass "com/example/conceal/conceal/TransactionRemovalHoldingPinLaw" = some m.cls) (hret : meth.sig.returnType = some .int) (hlk : meth.locks = false) (e0 : T0.heap = h0) (N0 : Fr n0 locs) (hr : r = f2_36 j2) :
    own_Ends p e below s 0 0 (own_P (.int r) h0 n0) T0 (mkF m 36 #[.val (.long j0), .second, .val (.long j2), .second] []) := by
  unfold f2_36 at hr
  refine own_step (T' := T0) (f' := (mkF m 45 #[.val (.long j0), .second, .val (.long j2), .second] [(.int ((((j2 * (72340172838076673 : Int64)).toUInt64 >>> ((56 : Int32) &&& 0x3f).toInt64.toUInt64).toInt64).toInt32))])) (fun t kt => ?_) ?_
  · show Steps p.tables e below (T0.setTop (mkF m 36 #[.val (.long j0), .second, .val (.long j2), .second] [])) _
    refine XS.lloadN X0.here hx rfl (hb hby d2_36) rfl ?_
    show Steps p.tables e below (T0.setTop (mkF m 37 #[.val (.long j0), .second, .val (.long j2), .second] [(.long j2)])) _
    refine X0.ldc2Long hx hown (mvT hZ (hw _ (List.mem_of_getElem? (i := 13) rfl))) (g := (mkF m 37 #[.val (.long j0), .second, .val (.long j2), .second] [(.long j2)])) rfl (hb hby d2_37) _ ?_
    show Steps p.tables e below (T0.setTop (mkF m 40 #[.val (.long j0), .second, .val (.long j2), .second] [(.long (72340172838076673 : Int64)), (.long j2)])) _
    refine XS.lmul X0.here hx rfl (hb hby d2_40) rfl ?_
    show Steps p.tables e below (T0.setTop (mkF m 41 #[.val (.long j0), .second, .val (.long j2), .second] [(.long (j2 * (72340172838076673 : Int64)))])) _
    refine XS.bipush X0.here hx rfl (hb hby d2_41) ?_
    show Steps p.tables e below (T0.setTop (mkF m 43 #[.val (.long j0), .second, .val (.long j2), .second] [(.int (56 : Int32)), (.long (j2 * (72340172838076673 : Int64)))])) _
    refine XS.lushr X0.here hx rfl (hb hby d2_43) rfl ?_
    show Steps p.tables e below (T0.setTop (mkF m 44 #[.val (.long j0), .second, .val (.long j2), .second] [(.long (((j2 * (72340172838076673 : Int64)).toUInt64 >>> ((56 : Int32) &&& 0x3f).toInt64.toUInt64).toInt64))])) _
    refine XS.l2i X0.here hx rfl (hb hby d2_44) rfl ?_
    exact kt
  exact own_retI X0 hx hret hlk (hb hby d2_45) (Nat.le_refl _) (Nat.le_refl _) ⟨congrArg (fun z => some (Value.int z)) hr.symm, N0, e0⟩
def f2_26 (j2 : Int64) : Int32 :=
  f2_36 ((j2 + ((j2.toUInt64 >>> ((4 : Int32) &&& 0x3f).toInt64.toUInt64).toInt64)) &&& (1085102592571150095 : Int64))
set_option maxRecDepth 65536 in
set_option maxHeartbeats 4000000 in
theorem b2_26 {p : Program} {l : Launch} {e : Env} {s : State} {m : MethodId} {args : Array Value} {below : List Frame} {meth : Method} {c : Code} {T0 : State} {locs : List Loc} {Z : State} {a0 : Array Value} {h0 : Heap} {n0 : Nat} (j0 : Int64) (j2 : Int64) {r : Int32} (X0 : Stand p l e ({ frames := 0, cells := 0, slots := 0, locals := 0 } : Room) s m args below meth c T0 locs 0 0) (hx : p.tables.exec = Jvm.exec) (hZ : Z.Warmed39 s.vm) (hw : ∀ d ∈ tables_1, d.before a0 Z = true) (hby : c.code = method_2_code) (hml : c.maxLocals = 4) (hown : s.vm.findClass "com/example/conceal/conceal/TransactionRemovalHoldingPinLaw" = some m.cls) (hret : meth.sig.returnType = some .int) (hlk : meth.locks = false) (e0 : T0.heap = h0) (N0 : Fr n0 locs) (hr : r = f2_26 j2) :
    own_Ends p e below s 0 0 (own_P (.int r) h0 n0) T0 (mkF m 26 #[.val (.long j0), .second, .val (.long j2), .second] []) := by
  unfold f2_26 at hr
  refine own_step (T' := T0) (f' := (mkF m 36 #[.val (.long j0), .second, .val (.long ((j2 + ((j2.toUInt64 >>> ((4 : Int32) &&& 0x3f).toInt64.toUInt64).toInt64)) &&& (1085102592571150095 : Int64))), .second] [])) (fun t kt => ?_) ?_
  · show Steps p.tables e below (T0.setTop (mkF m 26 #[.val (.long j0), .second, .val (.long j2), .second] [])) _
    refine XS.lloadN X0.here hx rfl (hb hby d2_26) rfl ?_
    show Steps p.tables e below (T0.setTop (mkF m 27 #[.val (.long j0), .second, .val (.long j2), .second] [(.long j2)])) _
    refine XS.lloadN X0.here hx rfl (hb hby d2_27) rfl ?_
    show Steps p.tables e below (T0.setTop (mkF m 28 #[.val (.long j0), .second, .val (.long j2), .second] [(.long j2), (.long j2)])) _
    refine XS.iconst X0.here hx rfl (hb hby d2_28) ?_
    show Steps p.tables e below (T0.setTop (mkF m 29 #[.val (.long j0), .second, .val (.long j2), .second] [(.int (4 : Int32)), (.long j2), (.long j2)])) _
    refine XS.lushr X0.here hx rfl (hb hby d2_29) rfl ?_
    show Steps p.tables e below (T0.setTop (mkF m 30 #[.val (.long j0), .second, .val (.long j2), .second] [(.long ((j2.toUInt64 >>> ((4 : Int32) &&& 0x3f).toInt64.toUInt64).toInt64)), (.long j2)])) _
    refine XS.ladd X0.here hx rfl (hb hby d2_30) rfl ?_
    show Steps p.tables e below (T0.setTop (mkF m 31 #[.val (.long j0), .second, .val (.long j2), .second] [(.long (j2 + ((j2.toUInt64 >>> ((4 : Int32) &&& 0x3f).toInt64.toUInt64).toInt64)))])) _
    refine X0.ldc2Long hx hown (mvT hZ (hw _ (List.mem_of_getElem? (i := 12) rfl))) (g := (mkF m 31 #[.val (.long j0), .second, .val (.long j2), .second] [(.long (j2 + ((j2.toUInt64 >>> ((4 : Int32) &&& 0x3f).toInt64.toUInt64).toInt64)))])) rfl (hb hby d2_31) _ ?_
    show Steps p.tables e below (T0.setTop (mkF m 34 #[.val (.long j0), .second, .val (.long j2), .second] [(.long (1085102592571150095 : Int64)), (.long (j2 + ((j2.toUInt64 >>> ((4 : Int32) &&& 0x3f).toInt64.toUInt64).toInt64)))])) _
    refine XS.land X0.here hx rfl (hb hby d2_34) rfl ?_
    show Steps p.tables e below (T0.setTop (mkF m 35 #[.val (.long j0), .second, .val (.long j2), .second] [(.long ((j2 + ((j2.toUInt64 >>> ((4 : Int32) &&& 0x3f).toInt64.toUInt64).toInt64)) &&& (1085102592571150095 : Int64)))])) _
    refine XS.lstoreN X0.here hx rfl (hb hby d2_35) rfl (l' := #[.val (.long j0), .second, .val (.long ((j2 + ((j2.toUInt64 >>> ((4 : Int32) &&& 0x3f).toInt64.toUInt64).toInt64)) &&& (1085102592571150095 : Int64))), .second]) rfl ?_
    exact kt
  exact b2_36 j0 ((j2 + ((j2.toUInt64 >>> ((4 : Int32) &&& 0x3f).toInt64.toUInt64).toInt64)) &&& (1085102592571150095 : Int64)) X0 hx hZ hw hby hml hown hret hlk e0 N0 hr
def f2_12 (j2 : Int64) : Int32 :=
  f2_26 ((j2 &&& (3689348814741910323 : Int64)) + (((j2.toUInt64 >>> ((2 : Int32) &&& 0x3f).toInt64.toUInt64).toInt64) &&& (3689348814741910323 : Int64)))
set_option maxRecDepth 65536 in
set_option maxHeartbeats 4000000 in
theorem b2_12 {p : Program} {l : Launch} {e : Env} {s : State} {m : MethodId} {args : Array Value} {below : List Frame} {meth : Method} {c : Code} {T0 : State} {locs : List Loc} {Z : State} {a0 : Array Value} {h0 : Heap} {n0 : Nat} (j0 : Int64) (j2 : Int64) {r : Int32} (X0 : Stand p l e ({ frames := 0, cells := 0, slots := 0, locals := 0 } : Room) s m args below meth c T0 locs 0 0) (hx : p.tables.exec = Jvm.exec) (hZ : Z.Warmed39 s.vm) (hw : ∀ d ∈ tables_1, d.before a0 Z = true) (hby : c.code = method_2_code) (hml : c.maxLocals = 4) (hown : s.vm.findClass "com/example/conceal/conceal/TransactionRemovalHoldingPinLaw" = some m.cls) (hret : meth.sig.returnType = some .int) (hlk : meth.locks = false) (e0 : T0.heap = h0) (N0 : Fr n0 locs) (hr : r = f2_12 j2) :
    own_Ends p e below s 0 0 (own_P (.int r) h0 n0) T0 (mkF m 12 #[.val (.long j0), .second, .val (.long j2), .second] []) := by
  unfold f2_12 at hr
  refine own_step (T' := T0) (f' := (mkF m 26 #[.val (.long j0), .second, .val (.long ((j2 &&& (3689348814741910323 : Int64)) + (((j2.toUInt64 >>> ((2 : Int32) &&& 0x3f).toInt64.toUInt64).toInt64) &&& (3689348814741910323 : Int64)))), .second] [])) (fun t kt => ?_) ?_
  · show Steps p.tables e below (T0.setTop (mkF m 12 #[.val (.long j0), .second, .val (.long j2), .second] [])) _
    refine XS.lloadN X0.here hx rfl (hb hby d2_12) rfl ?_
    show Steps p.tables e below (T0.setTop (mkF m 13 #[.val (.long j0), .second, .val (.long j2), .second] [(.long j2)])) _
    refine X0.ldc2Long hx hown (mvT hZ (hw _ (List.mem_of_getElem? (i := 11) rfl))) (g := (mkF m 13 #[.val (.long j0), .second, .val (.long j2), .second] [(.long j2)])) rfl (hb hby d2_13) _ ?_
    show Steps p.tables e below (T0.setTop (mkF m 16 #[.val (.long j0), .second, .val (.long j2), .second] [(.long (3689348814741910323 : Int64)), (.long j2)])) _
    refine XS.land X0.here hx rfl (hb hby d2_16) rfl ?_
    show Steps p.tables e below (T0.setTop (mkF m 17 #[.val (.long j0), .second, .val (.long j2), .second] [(.long (j2 &&& (3689348814741910323 : Int64)))])) _
    refine XS.lloadN X0.here hx rfl (hb hby d2_17) rfl ?_
    show Steps p.tables e below (T0.setTop (mkF m 18 #[.val (.long j0), .second, .val (.long j2), .second] [(.long j2), (.long (j2 &&& (3689348814741910323 : Int64)))])) _
    refine XS.iconst X0.here hx rfl (hb hby d2_18) ?_
    show Steps p.tables e below (T0.setTop (mkF m 19 #[.val (.long j0), .second, .val (.long j2), .second] [(.int (2 : Int32)), (.long j2), (.long (j2 &&& (3689348814741910323 : Int64)))])) _
    refine XS.lushr X0.here hx rfl (hb hby d2_19) rfl ?_
    show Steps p.tables e below (T0.setTop (mkF m 20 #[.val (.long j0), .second, .val (.long j2), .second] [(.long ((j2.toUInt64 >>> ((2 : Int32) &&& 0x3f).toInt64.toUInt64).toInt64)), (.long (j2 &&& (3689348814741910323 : Int64)))])) _
    refine X0.ldc2Long hx hown (mvT hZ (hw _ (List.mem_of_getElem? (i := 11) rfl))) (g := (mkF m 20 #[.val (.long j0), .second, .val (.long j2), .second] [(.long ((j2.toUInt64 >>> ((2 : Int32) &&& 0x3f).toInt64.toUInt64).toInt64)), (.long (j2 &&& (3689348814741910323 : Int64)))])) rfl (hb hby d2_20) _ ?_
    show Steps p.tables e below (T0.setTop (mkF m 23 #[.val (.long j0), .second, .val (.long j2), .second] [(.long (3689348814741910323 : Int64)), (.long ((j2.toUInt64 >>> ((2 : Int32) &&& 0x3f).toInt64.toUInt64).toInt64)), (.long (j2 &&& (3689348814741910323 : Int64)))])) _
    refine XS.land X0.here hx rfl (hb hby d2_23) rfl ?_
    show Steps p.tables e below (T0.setTop (mkF m 24 #[.val (.long j0), .second, .val (.long j2), .second] [(.long (((j2.toUInt64 >>> ((2 : Int32) &&& 0x3f).toInt64.toUInt64).toInt64) &&& (3689348814741910323 : Int64))), (.long (j2 &&& (3689348814741910323 : Int64)))])) _
    refine XS.ladd X0.here hx rfl (hb hby d2_24) rfl ?_
    show Steps p.tables e below (T0.setTop (mkF m 25 #[.val (.long j0), .second, .val (.long j2), .second] [(.long ((j2 &&& (3689348814741910323 : Int64)) + (((j2.toUInt64 >>> ((2 : Int32) &&& 0x3f).toInt64.toUInt64).toInt64) &&& (3689348814741910323 : Int64))))])) _
    refine XS.lstoreN X0.here hx rfl (hb hby d2_25) rfl (l' := #[.val (.long j0), .second, .val (.long ((j2 &&& (3689348814741910323 : Int64)) + (((j2.toUInt64 >>> ((2 : Int32) &&& 0x3f).toInt64.toUInt64).toInt64) &&& (3689348814741910323 : Int64)))), .second]) rfl ?_
    exact kt
  exact b2_26 j0 ((j2 &&& (3689348814741910323 : Int64)) + (((j2.toUInt64 >>> ((2 : Int32) &&& 0x3f).toInt64.toUInt64).toInt64) &&& (3689348814741910323 : Int64))) X0 hx hZ hw hby hml hown hret hlk e0 N0 hr
def f2_0 (q0 : Int64) : Int32 :=
  f2_12 (q0 - (((q0.toUInt64 >>> ((1 : Int32) &&& 0x3f).toInt64.toUInt64).toInt64) &&& (6148914691236517205 : Int64)))
set_option maxRecDepth 65536 in
set_option maxHeartbeats 4000000 in
theorem b2_0 {p : Program} {l : Launch} {e : Env} {s : State} {m : MethodId} {args : Array Value} {below : List Frame} {meth : Method} {c : Code} {T0 : State} {locs : List Loc} {Z : State} {a0 : Array Value} {h0 : Heap} {n0 : Nat} (q0 : Int64) {r : Int32} (X0 : Stand p l e ({ frames := 0, cells := 0, slots := 0, locals := 0 } : Room) s m args below meth c T0 locs 0 0) (hx : p.tables.exec = Jvm.exec) (hZ : Z.Warmed39 s.vm) (hw : ∀ d ∈ tables_1, d.before a0 Z = true) (hby : c.code = method_2_code) (hml : c.maxLocals = 4) (hown : s.vm.findClass "com/example/conceal/conceal/TransactionRemovalHoldingPinLaw" = some m.cls) (hret : meth.sig.returnType = some .int) (hlk : meth.locks = false) (e0 : T0.heap = h0) (N0 : Fr n0 locs) (hr : r = f2_0 q0) :
    own_Ends p e below s 0 0 (own_P (.int r) h0 n0) T0 (mkF m 0 #[.val (.long q0), .second, .unset, .unset] []) := by
  unfold f2_0 at hr
  refine own_step (T' := T0) (f' := (mkF m 12 #[.val (.long q0), .second, .val (.long (q0 - (((q0.toUInt64 >>> ((1 : Int32) &&& 0x3f).toInt64.toUInt64).toInt64) &&& (6148914691236517205 : Int64)))), .second] [])) (fun t kt => ?_) ?_
  · show Steps p.tables e below (T0.setTop (mkF m 0 #[.val (.long q0), .second, .unset, .unset] [])) _
    refine XS.lloadN X0.here hx rfl (hb hby d2_0) rfl ?_
    show Steps p.tables e below (T0.setTop (mkF m 1 #[.val (.long q0), .second, .unset, .unset] [(.long q0)])) _
    refine XS.lstoreN X0.here hx rfl (hb hby d2_1) rfl (l' := #[.val (.long q0), .second, .val (.long q0), .second]) rfl ?_
    show Steps p.tables e below (T0.setTop (mkF m 2 #[.val (.long q0), .second, .val (.long q0), .second] [])) _
    refine XS.lloadN X0.here hx rfl (hb hby d2_2) rfl ?_
    show Steps p.tables e below (T0.setTop (mkF m 3 #[.val (.long q0), .second, .val (.long q0), .second] [(.long q0)])) _
    refine XS.lloadN X0.here hx rfl (hb hby d2_3) rfl ?_
    show Steps p.tables e below (T0.setTop (mkF m 4 #[.val (.long q0), .second, .val (.long q0), .second] [(.long q0), (.long q0)])) _
    refine XS.iconst X0.here hx rfl (hb hby d2_4) ?_
    show Steps p.tables e below (T0.setTop (mkF m 5 #[.val (.long q0), .second, .val (.long q0), .second] [(.int (1 : Int32)), (.long q0), (.long q0)])) _
    refine XS.lushr X0.here hx rfl (hb hby d2_5) rfl ?_
    show Steps p.tables e below (T0.setTop (mkF m 6 #[.val (.long q0), .second, .val (.long q0), .second] [(.long ((q0.toUInt64 >>> ((1 : Int32) &&& 0x3f).toInt64.toUInt64).toInt64)), (.long q0)])) _
    refine X0.ldc2Long hx hown (mvT hZ (hw _ (List.mem_of_getElem? (i := 10) rfl))) (g := (mkF m 6 #[.val (.long q0), .second, .val (.long q0), .second] [(.long ((q0.toUInt64 >>> ((1 : Int32) &&& 0x3f).toInt64.toUInt64).toInt64)), (.long q0)])) rfl (hb hby d2_6) _ ?_
    show Steps p.tables e below (T0.setTop (mkF m 9 #[.val (.long q0), .second, .val (.long q0), .second] [(.long (6148914691236517205 : Int64)), (.long ((q0.toUInt64 >>> ((1 : Int32) &&& 0x3f).toInt64.toUInt64).toInt64)), (.long q0)])) _
    refine XS.land X0.here hx rfl (hb hby d2_9) rfl ?_
    show Steps p.tables e below (T0.setTop (mkF m 10 #[.val (.long q0), .second, .val (.long q0), .second] [(.long (((q0.toUInt64 >>> ((1 : Int32) &&& 0x3f).toInt64.toUInt64).toInt64) &&& (6148914691236517205 : Int64))), (.long q0)])) _
    refine XS.lsub X0.here hx rfl (hb hby d2_10) rfl ?_
    show Steps p.tables e below (T0.setTop (mkF m 11 #[.val (.long q0), .second, .val (.long q0), .second] [(.long (q0 - (((q0.toUInt64 >>> ((1 : Int32) &&& 0x3f).toInt64.toUInt64).toInt64) &&& (6148914691236517205 : Int64))))])) _
    refine XS.lstoreN X0.here hx rfl (hb hby d2_11) rfl (l' := #[.val (.long q0), .second, .val (.long (q0 - (((q0.toUInt64 >>> ((1 : Int32) &&& 0x3f).toInt64.toUInt64).toInt64) &&& (6148914691236517205 : Int64)))), .second]) rfl ?_
    exact kt
  exact b2_12 q0 (q0 - (((q0.toUInt64 >>> ((1 : Int32) &&& 0x3f).toInt64.toUInt64).toInt64) &&& (6148914691236517205 : Int64))) X0 hx hZ hw hby hml hown hret hlk e0 N0 hr
set_option maxRecDepth 65536 in
set_option maxHeartbeats 4000000 in
theorem rm2 (l : Launch) (Z : State) (a0 : Array Value) (hw : ∀ d ∈ tables_1, d.before a0 Z = true) (ws : List Jvm.Cond) (q0 : Int64) (h0 : Heap) (n0 : Nat) :
    MetFree l (⟨"com/example/conceal/conceal/TransactionRemovalHoldingPinLaw", "pop", "(J)I"⟩ : MethodName) (head1 (Jvm.Cond.code (⟨"com/example/conceal/conceal/TransactionRemovalHoldingPinLaw", "pop", "(J)I"⟩ : MethodName) method_2_code 4 (some .int) :: ws) ({ frames := 0, cells := 0, slots := 0, locals := 0 } : Room)) (fun a U => a = #[(.long q0)] ∧ Z.Warmed39 U.vm ∧ U.heap = h0) (fun _ _ _ _ _ => True) (fun _ U o U' => ∃ v L, o = .returned v ∧ (own_P (.int (f2_0 q0)) h0 n0) v U'.heap L ∧ FrameEnd U o U' L ({ frames := 0, cells := 0, slots := 0, locals := 0 } : Room).cells ({ frames := 0, cells := 0, slots := 0, locals := 0 } : Room).slots) := by
  refine MetFree.of_bodySF (plainFor_of_name pn2) hisR ?_
  intro p e s m args below meth c s₁ Bd hml0 hP hK
  obtain ⟨rfl, hZ, hh⟩ := hP
  have hown : s.vm.findClass "com/example/conceal/conceal/TransactionRemovalHoldingPinLaw" = some m.cls := findClass_of_methodNamed Bd.named
  have X0 : Stand p l e ({ frames := 0, cells := 0, slots := 0, locals := 0 } : Room) s m #[(.long q0)] below meth c s₁ [] 0 0 := Stand.of_body Bd
  have e0 : s₁.heap = h0 := by rw [← hh, Bd.state]; rfl
  show own_Ends p e below s 0 0 (own_P (.int (f2_0 q0)) h0 n0) s₁ (entryFrame m #[(.long q0)] 4)
  refine own_step (fun t k => castTop (ef2 m q0) k) ?_
  exact b2_0 q0 X0 Bd.exec hZ hw Bd.bytes hml0 hown Bd.returns (BodyLoose.notSynchronized Bd) e0 (Fr.nil n0) rfl
theorem d1_0 : decode prog_54_method_18_code 0 = .ok (.iconst 0, 1) := by decide +kernel
theorem d1_1 : decode prog_54_method_18_code 1 = .ok (.istore_n 2, 1) := by decide +kernel
theorem d1_2 : decode prog_54_method_18_code 2 = .ok (.iconst 0, 1) := by decide +kernel
theorem d1_3 : decode prog_54_method_18_code 3 = .ok (.istore_n 3, 1) := by decide +kernel
theorem d1_4 : decode prog_54_method_18_code 4 = .ok (.iload_n 3, 1) := by decide +kernel
theorem d1_5 : decode prog_54_method_18_code 5 = .ok (.aload_n 0, 1) := by decide +kernel
theorem d1_6 : decode prog_54_method_18_code 6 = .ok (.arraylength, 1) := by decide +kernel
theorem d1_7 : decode prog_54_method_18_code 7 = .ok (.if_icmp .ge 22, 3) := by decide +kernel
theorem d1_10 : decode prog_54_method_18_code 10 = .ok (.iload_n 2, 1) := by decide +kernel
theorem d1_11 : decode prog_54_method_18_code 11 = .ok (.aload_n 0, 1) := by decide +kernel
theorem d1_12 : decode prog_54_method_18_code 12 = .ok (.iload_n 3, 1) := by decide +kernel
theorem d1_13 : decode prog_54_method_18_code 13 = .ok (.laload, 1) := by decide +kernel
theorem d1_14 : decode prog_54_method_18_code 14 = .ok (.aload_n 1, 1) := by decide +kernel
theorem d1_15 : decode prog_54_method_18_code 15 = .ok (.iload_n 3, 1) := by decide +kernel
theorem d1_16 : decode prog_54_method_18_code 16 = .ok (.laload, 1) := by decide +kernel
theorem d1_17 : decode prog_54_method_18_code 17 = .ok (.land, 1) := by decide +kernel
theorem d1_18 : decode prog_54_method_18_code 18 = .ok (.invokestatic 222, 3) := by decide +kernel
theorem d1_21 : decode prog_54_method_18_code 21 = .ok (.iadd, 1) := by decide +kernel
theorem d1_22 : decode prog_54_method_18_code 22 = .ok (.istore_n 2, 1) := by decide +kernel
theorem d1_23 : decode prog_54_method_18_code 23 = .ok (.iinc 3 1, 3) := by decide +kernel
theorem d1_26 : decode prog_54_method_18_code 26 = .ok (.goto (-22), 3) := by decide +kernel
theorem d1_29 : decode prog_54_method_18_code 29 = .ok (.iload_n 2, 1) := by decide +kernel
theorem d1_30 : decode prog_54_method_18_code 30 = .ok (.ireturn, 1) := by decide +kernel
theorem pn1 : plainName "com/example/conceal/conceal/TransactionRemoval" = true := by first | (simp [plainName, overriddenIn]; done) | decide +kernel
theorem pd1 : parseMethodDescriptor "([J[J)I" = some ⟨[(.array .long), (.array .long)], some .int⟩ := by decide +kernel
theorem ef1 (m : MethodId) (a0' : Addr) (a1' : Addr) : entryFrame m #[(.ref a0'), (.ref a1')] 4 = mkF m 0 #[.val (.ref a0'), .val (.ref a1'), .unset, .unset] [] := by first | (simp [entryFrame, mkF, argsToLocals, Value.category]; done) | rfl
def f1n0_0  : Int32 :=
  (0 : Int32)
set_option maxRecDepth 65536 in
set_option maxHeartbeats 4000000 in
theorem b1n0_0 {p : Program} {l : Launch} {e : Env} {s : State} {m : MethodId} {args : Array Value} {below : List Frame} {meth : Method} {c : Code} {T0 : State} {locs : List Loc} {Z : State} {a0 : Array Value} {h0 : Heap} {n0 : Nat} (a0' : Addr) (a1' : Addr) {r : Int32} (X0 : Stand p l e ({ frames := 1, cells := 0, slots := 0, locals := 14 } : Room) s m args below meth c T0 locs 0 0) (hx : p.tables.exec = Jvm.exec) (hZ : Z.Warmed39 s.vm) (hw : ∀ d ∈ tables_1, d.before a0 Z = true) (hby : c.code = prog_54_method_18_code) (hml : c.maxLocals = 4) (hown : s.vm.findClass "com/example/conceal/conceal/TransactionRemoval" = some m.cls) (hret : meth.sig.returnType = some .int) (hlk : meth.locks = false) (e0 : T0.heap = h0) (N0 : Fr n0 locs) (A0 : own_A Z h0 a0' .long []) (A1 : own_A Z h0 a1' .long []) (hr : r = f1n0_0 ) :
    own_Ends p e below s 0 0 (own_P (.int r) h0 n0) T0 (mkF m 0 #[.val (.ref a0'), .val (.ref a1'), .unset, .unset] []) := by
  unfold f1n0_0 at hr
  refine own_step (T' := T0) (f' := (mkF m 7 #[.val (.ref a0'), .val (.ref a1'), .val (.int (0 : Int32)), .val (.int (0 : Int32))] [(.int (0 : Int32)), (.int (0 : Int32))])) (fun t kt => ?_) ?_
  · show Steps p.tables e below (T0.setTop (mkF m 0 #[.val (.ref a0'), .val (.ref a1'), .unset, .unset] [])) _
    refine XS.iconst X0.here hx rfl (hb hby d1_0) ?_
    show Steps p.tables e below (T0.setTop (mkF m 1 #[.val (.ref a0'), .val (.ref a1'), .unset, .unset] [(.int (0 : Int32))])) _
    refine XS.istoreN X0.here hx rfl (hb hby d1_1) rfl (l' := #[.val (.ref a0'), .val (.ref a1'), .val (.int (0 : Int32)), .unset]) rfl ?_
    show Steps p.tables e below (T0.setTop (mkF m 2 #[.val (.ref a0'), .val (.ref a1'), .val (.int (0 : Int32)), .unset] [])) _
    refine XS.iconst X0.here hx rfl (hb hby d1_2) ?_
    show Steps p.tables e below (T0.setTop (mkF m 3 #[.val (.ref a0'), .val (.ref a1'), .val (.int (0 : Int32)), .unset] [(.int (0 : Int32))])) _
    refine XS.istoreN X0.here hx rfl (hb hby d1_3) rfl (l' := #[.val (.ref a0'), .val (.ref a1'), .val (.int (0 : Int32)), .val (.int (0 : Int32))]) rfl ?_
    show Steps p.tables e below (T0.setTop (mkF m 4 #[.val (.ref a0'), .val (.ref a1'), .val (.int (0 : Int32)), .val (.int (0 : Int32))] [])) _
    refine XS.iloadN X0.here hx rfl (hb hby d1_4) rfl ?_
    show Steps p.tables e below (T0.setTop (mkF m 5 #[.val (.ref a0'), .val (.ref a1'), .val (.int (0 : Int32)), .val (.int (0 : Int32))] [(.int (0 : Int32))])) _
    refine XS.aloadN X0.here hx rfl (hb hby d1_5) rfl rfl ?_
    show Steps p.tables e below (T0.setTop (mkF m 6 #[.val (.ref a0'), .val (.ref a1'), .val (.int (0 : Int32)), .val (.int (0 : Int32))] [(.ref a0'), (.int (0 : Int32))])) _
    refine own_len X0 hx hZ e0 A0 (n := (0 : Int32)) rfl (g := (mkF m 6 #[.val (.ref a0'), .val (.ref a1'), .val (.int (0 : Int32)), .val (.int (0 : Int32))] [(.ref a0'), (.int (0 : Int32))])) rfl rfl (hb hby d1_6) _ ?_
    exact kt
  refine own_step (T' := T0) (f' := (mkF m 29 #[.val (.ref a0'), .val (.ref a1'), .val (.int (0 : Int32)), .val (.int (0 : Int32))] [])) (fun t kt => ?_) ?_
  · show Steps p.tables e below (T0.setTop (mkF m 7 #[.val (.ref a0'), .val (.ref a1'), .val (.int (0 : Int32)), .val (.int (0 : Int32))] [(.int (0 : Int32)), (.int (0 : Int32))])) _
    refine XS.icmpYes X0.here hx rfl (pc0 := 7) (pc' := 29) rfl (hb hby d1_7) rfl (flt (by decide : ¬ ((0 : Int32) < (0 : Int32)))).2.1 (by decide) (by decide) kt
  refine own_step (T' := T0) (f' := (mkF m 30 #[.val (.ref a0'), .val (.ref a1'), .val (.int (0 : Int32)), .val (.int (0 : Int32))] [(.int (0 : Int32))])) (fun t kt => ?_) ?_
  · show Steps p.tables e below (T0.setTop (mkF m 29 #[.val (.ref a0'), .val (.ref a1'), .val (.int (0 : Int32)), .val (.int (0 : Int32))] [])) _
    refine XS.iloadN X0.here hx rfl (hb hby d1_29) rfl ?_
    exact kt
  exact own_retI X0 hx hret hlk (hb hby d1_30) (Nat.le_refl _) (Nat.le_refl _) ⟨congrArg (fun z => some (Value.int z)) hr.symm, N0, e0⟩
set_option maxRecDepth 65536 in
set_option maxHeartbeats 4000000 in
theorem rm1n0 (l : Launch) (Z : State) (a0 : Array Value) (hw : ∀ d ∈ tables_1, d.before a0 Z = true) (ws : List Jvm.Cond) (a0' : Addr) (a1' : Addr) (h0 : Heap) (n0 : Nat) (A0 : own_A Z h0 a0' .long []) (A1 : own_A Z h0 a1' .long []) :
    MetFree l (⟨"com/example/conceal/conceal/TransactionRemoval", "holding", "([J[J)I"⟩ : MethodName) (head1 (Jvm.Cond.code (⟨"com/example/conceal/conceal/TransactionRemoval", "holding", "([J[J)I"⟩ : MethodName) prog_54_method_18_code 4 (some .int) :: ws) ({ frames := 1, cells := 0, slots := 0, locals := 14 } : Room)) (fun a U => a = #[(.ref a0'), (.ref a1')] ∧ Z.Warmed39 U.vm ∧ U.heap = h0) (fun _ _ _ _ _ => True) (fun _ U o U' => ∃ v L, o = .returned v ∧ (own_P (.int (f1n0_0 )) h0 n0) v U'.heap L ∧ FrameEnd U o U' L ({ frames := 1, cells := 0, slots := 0, locals := 14 } : Room).cells ({ frames := 1, cells := 0, slots := 0, locals := 14 } : Room).slots) := by
  refine MetFree.of_bodySF (plainFor_of_name pn1) hisR ?_
  intro p e s m args below meth c s₁ Bd hml0 hP hK
  obtain ⟨rfl, hZ, hh⟩ := hP
  have hown : s.vm.findClass "com/example/conceal/conceal/TransactionRemoval" = some m.cls := findClass_of_methodNamed Bd.named
  have X0 : Stand p l e ({ frames := 1, cells := 0, slots := 0, locals := 14 } : Room) s m #[(.ref a0'), (.ref a1')] below meth c s₁ [] 0 0 := Stand.of_body Bd
  have e0 : s₁.heap = h0 := by rw [← hh, Bd.state]; rfl
  show own_Ends p e below s 0 0 (own_P (.int (f1n0_0 )) h0 n0) s₁ (entryFrame m #[(.ref a0'), (.ref a1')] 4)
  refine own_step (fun t k => castTop (ef1 m a0' a1') k) ?_
  exact b1n0_0 a0' a1' X0 Bd.exec hZ hw Bd.bytes hml0 hown Bd.returns (BodyLoose.notSynchronized Bd) e0 (Fr.nil n0) A0 A1 rfl
def f1n1_0 (x0_0 : Int64) (x1_0 : Int64) : Int32 :=
  ((0 : Int32) + (f3_0 (x0_0 &&& x1_0)))
set_option maxRecDepth 65536 in
set_option maxHeartbeats 4000000 in
theorem b1n1_0 {p : Program} {l : Launch} {e : Env} {s : State} {m : MethodId} {args : Array Value} {below : List Frame} {meth : Method} {c : Code} {T0 : State} {locs : List Loc} {Z : State} {a0 : Array Value} {h0 : Heap} {n0 : Nat} (a0' : Addr) (a1' : Addr) (x0_0 : Int64) (x1_0 : Int64) {r : Int32} (X0 : Stand p l e ({ frames := 1, cells := 0, slots := 0, locals := 14 } : Room) s m args below meth c T0 locs 0 0) (hx : p.tables.exec = Jvm.exec) (hZ : Z.Warmed39 s.vm) (hw : ∀ d ∈ tables_1, d.before a0 Z = true) (hby : c.code = prog_54_method_18_code) (hml : c.maxLocals = 4) (hown : s.vm.findClass "com/example/conceal/conceal/TransactionRemoval" = some m.cls) (hret : meth.sig.returnType = some .int) (hlk : meth.locks = false) (e0 : T0.heap = h0) (N0 : Fr n0 locs) (A0 : own_A Z h0 a0' .long [(.long x0_0)]) (A1 : own_A Z h0 a1' .long [(.long x1_0)]) (hr : r = f1n1_0 x0_0 x1_0) :
    own_Ends p e below s 0 0 (own_P (.int r) h0 n0) T0 (mkF m 0 #[.val (.ref a0'), .val (.ref a1'), .unset, .unset] []) := by
  unfold f1n1_0 at hr
  refine own_step (T' := T0) (f' := (mkF m 7 #[.val (.ref a0'), .val (.ref a1'), .val (.int (0 : Int32)), .val (.int (0 : Int32))] [(.int (1 : Int32)), (.int (0 : Int32))])) (fun t kt => ?_) ?_
  · show Steps p.tables e below (T0.setTop (mkF m 0 #[.val (.ref a0'), .val (.ref a1'), .unset, .unset] [])) _
    refine XS.iconst X0.here hx rfl (hb hby d1_0) ?_
    show Steps p.tables e below (T0.setTop (mkF m 1 #[.val (.ref a0'), .val (.ref a1'), .unset, .unset] [(.int (0 : Int32))])) _
    refine XS.istoreN X0.here hx rfl (hb hby d1_1) rfl (l' := #[.val (.ref a0'), .val (.ref a1'), .val (.int (0 : Int32)), .unset]) rfl ?_
    show Steps p.tables e below (T0.setTop (mkF m 2 #[.val (.ref a0'), .val (.ref a1'), .val (.int (0 : Int32)), .unset] [])) _
    refine XS.iconst X0.here hx rfl (hb hby d1_2) ?_
    show Steps p.tables e below (T0.setTop (mkF m 3 #[.val (.ref a0'), .val (.ref a1'), .val (.int (0 : Int32)), .unset] [(.int (0 : Int32))])) _
    refine XS.istoreN X0.here hx rfl (hb hby d1_3) rfl (l' := #[.val (.ref a0'), .val (.ref a1'), .val (.int (0 : Int32)), .val (.int (0 : Int32))]) rfl ?_
    show Steps p.tables e below (T0.setTop (mkF m 4 #[.val (.ref a0'), .val (.ref a1'), .val (.int (0 : Int32)), .val (.int (0 : Int32))] [])) _
    refine XS.iloadN X0.here hx rfl (hb hby d1_4) rfl ?_
    show Steps p.tables e below (T0.setTop (mkF m 5 #[.val (.ref a0'), .val (.ref a1'), .val (.int (0 : Int32)), .val (.int (0 : Int32))] [(.int (0 : Int32))])) _
    refine XS.aloadN X0.here hx rfl (hb hby d1_5) rfl rfl ?_
    show Steps p.tables e below (T0.setTop (mkF m 6 #[.val (.ref a0'), .val (.ref a1'), .val (.int (0 : Int32)), .val (.int (0 : Int32))] [(.ref a0'), (.int (0 : Int32))])) _
    refine own_len X0 hx hZ e0 A0 (n := (1 : Int32)) rfl (g := (mkF m 6 #[.val (.ref a0'), .val (.ref a1'), .val (.int (0 : Int32)), .val (.int (0 : Int32))] [(.ref a0'), (.int (0 : Int32))])) rfl rfl (hb hby d1_6) _ ?_
    exact kt
  refine own_step (T' := T0) (f' := (mkF m 10 #[.val (.ref a0'), .val (.ref a1'), .val (.int (0 : Int32)), .val (.int (0 : Int32))] [])) (fun t kt => ?_) ?_
  · show Steps p.tables e below (T0.setTop (mkF m 7 #[.val (.ref a0'), .val (.ref a1'), .val (.int (0 : Int32)), .val (.int (0 : Int32))] [(.int (1 : Int32)), (.int (0 : Int32))])) _
    refine XS.icmpNo X0.here hx rfl (hb hby d1_7) rfl (tlt (by decide : ((0 : Int32) < (1 : Int32)))).2.1 kt
  refine own_step (T' := T0) (f' := (mkF m 18 #[.val (.ref a0'), .val (.ref a1'), .val (.int (0 : Int32)), .val (.int (0 : Int32))] [(.long (x0_0 &&& x1_0)), (.int (0 : Int32))])) (fun t kt => ?_) ?_
  · show Steps p.tables e below (T0.setTop (mkF m 10 #[.val (.ref a0'), .val (.ref a1'), .val (.int (0 : Int32)), .val (.int (0 : Int32))] [])) _
    refine XS.iloadN X0.here hx rfl (hb hby d1_10) rfl ?_
    show Steps p.tables e below (T0.setTop (mkF m 11 #[.val (.ref a0'), .val (.ref a1'), .val (.int (0 : Int32)), .val (.int (0 : Int32))] [(.int (0 : Int32))])) _
    refine XS.aloadN X0.here hx rfl (hb hby d1_11) rfl rfl ?_
    show Steps p.tables e below (T0.setTop (mkF m 12 #[.val (.ref a0'), .val (.ref a1'), .val (.int (0 : Int32)), .val (.int (0 : Int32))] [(.ref a0'), (.int (0 : Int32))])) _
    refine XS.iloadN X0.here hx rfl (hb hby d1_12) rfl ?_
    show Steps p.tables e below (T0.setTop (mkF m 13 #[.val (.ref a0'), .val (.ref a1'), .val (.int (0 : Int32)), .val (.int (0 : Int32))] [(.int (0 : Int32)), (.ref a0'), (.int (0 : Int32))])) _
    refine own_ldJ X0 hx hZ e0 A0 (j := (0 : Int32)) (by decide) (k := 0) (by decide) (v := (.long x0_0)) rfl (g := (mkF m 13 #[.val (.ref a0'), .val (.ref a1'), .val (.int (0 : Int32)), .val (.int (0 : Int32))] [(.int (0 : Int32)), (.ref a0'), (.int (0 : Int32))])) rfl rfl (hb hby d1_13) _ ?_
    show Steps p.tables e below (T0.setTop (mkF m 14 #[.val (.ref a0'), .val (.ref a1'), .val (.int (0 : Int32)), .val (.int (0 : Int32))] [(.long x0_0), (.int (0 : Int32))])) _
    refine XS.aloadN X0.here hx rfl (hb hby d1_14) rfl rfl ?_
    show Steps p.tables e below (T0.setTop (mkF m 15 #[.val (.ref a0'), .val (.ref a1'), .val (.int (0 : Int32)), .val (.int (0 : Int32))] [(.ref a1'), (.long x0_0), (.int (0 : Int32))])) _
    refine XS.iloadN X0.here hx rfl (hb hby d1_15) rfl ?_
    show Steps p.tables e below (T0.setTop (mkF m 16 #[.val (.ref a0'), .val (.ref a1'), .val (.int (0 : Int32)), .val (.int (0 : Int32))] [(.int (0 : Int32)), (.ref a1'), (.long x0_0), (.int (0 : Int32))])) _
    refine own_ldJ X0 hx hZ e0 A1 (j := (0 : Int32)) (by decide) (k := 0) (by decide) (v := (.long x1_0)) rfl (g := (mkF m 16 #[.val (.ref a0'), .val (.ref a1'), .val (.int (0 : Int32)), .val (.int (0 : Int32))] [(.int (0 : Int32)), (.ref a1'), (.long x0_0), (.int (0 : Int32))])) rfl rfl (hb hby d1_16) _ ?_
    show Steps p.tables e below (T0.setTop (mkF m 17 #[.val (.ref a0'), .val (.ref a1'), .val (.int (0 : Int32)), .val (.int (0 : Int32))] [(.long x1_0), (.long x0_0), (.int (0 : Int32))])) _
    refine XS.land X0.here hx rfl (hb hby d1_17) rfl ?_
    exact kt
  obtain ⟨_, _, ⟨T2, L2, k2, n2⟩, -, X2, ⟨Lc2, hQ2, l2, y2, z2⟩, st2⟩ := Jvm.LawKit.callS X0 hx (y := (⟨"java/lang/Long", "bitCount", "(J)I"⟩ : MethodName)) hown (mvT hZ (hw _ (List.mem_of_getElem? (i := 14) rfl))) (mvT hZ (hw _ (List.mem_of_getElem? (i := 15) rfl))) (mvT hZ (hw _ (List.mem_of_getElem? (i := 16) rfl))) (mvT hZ (hw _ (List.mem_of_getElem? (i := 17) rfl))) (by decide) (backOf (W := 1) (rm3 l Z a0 hw [] (x0_0 &&& x1_0)  h0 n0 ) hZ (hw _ (List.mem_of_getElem? (i := 17) rfl)) (hw _ (List.mem_of_getElem? (i := 16) rfl)) (by decide) (by decide)) (g := (mkF m 18 #[.val (.ref a0'), .val (.ref a1'), .val (.int (0 : Int32)), .val (.int (0 : Int32))] [(.long (x0_0 &&& x1_0)), (.int (0 : Int32))])) rfl (by rw [hml]; rfl) (argsL := [(.long (x0_0 &&& x1_0))]) (rest := [(.int (0 : Int32))]) (lenOf pd3 rfl) rfl (by show 2 * 0 + _ ≤ _; exact Nat.le_of_eq rfl) (hb hby d1_18) (fun _ _ => ⟨rfl, e0, (by decide : 0 + 0 ≤ _), (by decide : 0 + 0 ≤ _)⟩)
  dsimp only [Pt.U, Pt.locs, Pt.cells, Pt.slots] at X2 l2 y2 z2 st2 hQ2
  subst l2 y2 z2
  obtain ⟨rfl, Nq2, e2⟩ := hQ2
  have N2 := Fr.app N0 Nq2
  refine own_step (T' := T2) (f' := (mkF m 21 #[.val (.ref a0'), .val (.ref a1'), .val (.int (0 : Int32)), .val (.int (0 : Int32))] [(.int (f3_0 (x0_0 &&& x1_0))), (.int (0 : Int32))])) st2 ?_
  refine own_step (T' := T2) (f' := (mkF m 7 #[.val (.ref a0'), .val (.ref a1'), .val (.int ((0 : Int32) + (f3_0 (x0_0 &&& x1_0)))), .val (.int (1 : Int32))] [(.int (1 : Int32)), (.int (1 : Int32))])) (fun t kt => ?_) ?_
  · show Steps p.tables e below (T2.setTop (mkF m 21 #[.val (.ref a0'), .val (.ref a1'), .val (.int (0 : Int32)), .val (.int (0 : Int32))] [(.int (f3_0 (x0_0 &&& x1_0))), (.int (0 : Int32))])) _
    refine XS.iadd X2.here hx rfl (hb hby d1_21) rfl ?_
    show Steps p.tables e below (T2.setTop (mkF m 22 #[.val (.ref a0'), .val (.ref a1'), .val (.int (0 : Int32)), .val (.int (0 : Int32))] [(.int ((0 : Int32) + (f3_0 (x0_0 &&& x1_0))))])) _
    refine XS.istoreN X2.here hx rfl (hb hby d1_22) rfl (l' := #[.val (.ref a0'), .val (.ref a1'), .val (.int ((0 : Int32) + (f3_0 (x0_0 &&& x1_0)))), .val (.int (0 : Int32))]) rfl ?_
    show Steps p.tables e below (T2.setTop (mkF m 23 #[.val (.ref a0'), .val (.ref a1'), .val (.int ((0 : Int32) + (f3_0 (x0_0 &&& x1_0)))), .val (.int (0 : Int32))] [])) _
    refine XS.iinc X2.here hx rfl (hb hby d1_23) rfl (l' := #[.val (.ref a0'), .val (.ref a1'), .val (.int ((0 : Int32) + (f3_0 (x0_0 &&& x1_0)))), .val (.int (1 : Int32))]) rfl ?_
    show Steps p.tables e below (T2.setTop (mkF m 26 #[.val (.ref a0'), .val (.ref a1'), .val (.int ((0 : Int32) + (f3_0 (x0_0 &&& x1_0)))), .val (.int (1 : Int32))] [])) _
    refine XS.goto X2.here hx rfl (pc0 := 26) (pc' := 4) rfl (hb hby d1_26) (by decide) (by decide) ?_
    show Steps p.tables e below (T2.setTop (mkF m 4 #[.val (.ref a0'), .val (.ref a1'), .val (.int ((0 : Int32) + (f3_0 (x0_0 &&& x1_0)))), .val (.int (1 : Int32))] [])) _
    refine XS.iloadN X2.here hx rfl (hb hby d1_4) rfl ?_
    show Steps p.tables e below (T2.setTop (mkF m 5 #[.val (.ref a0'), .val (.ref a1'), .val (.int ((0 : Int32) + (f3_0 (x0_0 &&& x1_0)))), .val (.int (1 : Int32))] [(.int (1 : Int32))])) _
    refine XS.aloadN X2.here hx rfl (hb hby d1_5) rfl rfl ?_
    show Steps p.tables e below (T2.setTop (mkF m 6 #[.val (.ref a0'), .val (.ref a1'), .val (.int ((0 : Int32) + (f3_0 (x0_0 &&& x1_0)))), .val (.int (1 : Int32))] [(.ref a0'), (.int (1 : Int32))])) _
    refine own_len X2 hx hZ e2 A0 (n := (1 : Int32)) rfl (g := (mkF m 6 #[.val (.ref a0'), .val (.ref a1'), .val (.int ((0 : Int32) + (f3_0 (x0_0 &&& x1_0)))), .val (.int (1 : Int32))] [(.ref a0'), (.int (1 : Int32))])) rfl rfl (hb hby d1_6) _ ?_
    exact kt
  refine own_step (T' := T2) (f' := (mkF m 29 #[.val (.ref a0'), .val (.ref a1'), .val (.int ((0 : Int32) + (f3_0 (x0_0 &&& x1_0)))), .val (.int (1 : Int32))] [])) (fun t kt => ?_) ?_
  · show Steps p.tables e below (T2.setTop (mkF m 7 #[.val (.ref a0'), .val (.ref a1'), .val (.int ((0 : Int32) + (f3_0 (x0_0 &&& x1_0)))), .val (.int (1 : Int32))] [(.int (1 : Int32)), (.int (1 : Int32))])) _
    refine XS.icmpYes X2.here hx rfl (pc0 := 7) (pc' := 29) rfl (hb hby d1_7) rfl (flt (by decide : ¬ ((1 : Int32) < (1 : Int32)))).2.1 (by decide) (by decide) kt
  refine own_step (T' := T2) (f' := (mkF m 30 #[.val (.ref a0'), .val (.ref a1'), .val (.int ((0 : Int32) + (f3_0 (x0_0 &&& x1_0)))), .val (.int (1 : Int32))] [(.int ((0 : Int32) + (f3_0 (x0_0 &&& x1_0))))])) (fun t kt => ?_) ?_
  · show Steps p.tables e below (T2.setTop (mkF m 29 #[.val (.ref a0'), .val (.ref a1'), .val (.int ((0 : Int32) + (f3_0 (x0_0 &&& x1_0)))), .val (.int (1 : Int32))] [])) _
    refine XS.iloadN X2.here hx rfl (hb hby d1_29) rfl ?_
    exact kt
  exact own_retI X2 hx hret hlk (hb hby d1_30) (Nat.le_refl _) (Nat.le_refl _) ⟨congrArg (fun z => some (Value.int z)) hr.symm, N2, e2⟩
set_option maxRecDepth 65536 in
set_option maxHeartbeats 4000000 in
theorem rm1n1 (l : Launch) (Z : State) (a0 : Array Value) (hw : ∀ d ∈ tables_1, d.before a0 Z = true) (ws : List Jvm.Cond) (a0' : Addr) (a1' : Addr) (x0_0 : Int64) (x1_0 : Int64) (h0 : Heap) (n0 : Nat) (A0 : own_A Z h0 a0' .long [(.long x0_0)]) (A1 : own_A Z h0 a1' .long [(.long x1_0)]) :
    MetFree l (⟨"com/example/conceal/conceal/TransactionRemoval", "holding", "([J[J)I"⟩ : MethodName) (head1 (Jvm.Cond.code (⟨"com/example/conceal/conceal/TransactionRemoval", "holding", "([J[J)I"⟩ : MethodName) prog_54_method_18_code 4 (some .int) :: ws) ({ frames := 1, cells := 0, slots := 0, locals := 14 } : Room)) (fun a U => a = #[(.ref a0'), (.ref a1')] ∧ Z.Warmed39 U.vm ∧ U.heap = h0) (fun _ _ _ _ _ => True) (fun _ U o U' => ∃ v L, o = .returned v ∧ (own_P (.int (f1n1_0 x0_0 x1_0)) h0 n0) v U'.heap L ∧ FrameEnd U o U' L ({ frames := 1, cells := 0, slots := 0, locals := 14 } : Room).cells ({ frames := 1, cells := 0, slots := 0, locals := 14 } : Room).slots) := by
  refine MetFree.of_bodySF (plainFor_of_name pn1) hisR ?_
  intro p e s m args below meth c s₁ Bd hml0 hP hK
  obtain ⟨rfl, hZ, hh⟩ := hP
  have hown : s.vm.findClass "com/example/conceal/conceal/TransactionRemoval" = some m.cls := findClass_of_methodNamed Bd.named
  have X0 : Stand p l e ({ frames := 1, cells := 0, slots := 0, locals := 14 } : Room) s m #[(.ref a0'), (.ref a1')] below meth c s₁ [] 0 0 := Stand.of_body Bd
  have e0 : s₁.heap = h0 := by rw [← hh, Bd.state]; rfl
  show own_Ends p e below s 0 0 (own_P (.int (f1n1_0 x0_0 x1_0)) h0 n0) s₁ (entryFrame m #[(.ref a0'), (.ref a1')] 4)
  refine own_step (fun t k => castTop (ef1 m a0' a1') k) ?_
  exact b1n1_0 a0' a1' x0_0 x1_0 X0 Bd.exec hZ hw Bd.bytes hml0 hown Bd.returns (BodyLoose.notSynchronized Bd) e0 (Fr.nil n0) A0 A1 rfl
def f1n2_0 (x0_0 : Int64) (x0_1 : Int64) (x1_0 : Int64) (x1_1 : Int64) : Int32 :=
  (((0 : Int32) + (f3_0 (x0_0 &&& x1_0))) + (f3_0 (x0_1 &&& x1_1)))
set_option maxRecDepth 65536 in
set_option maxHeartbeats 4000000 in
theorem b1n2_0 {p : Program} {l : Launch} {e : Env} {s : State} {m : MethodId} {args : Array Value} {below : List Frame} {meth : Method} {c : Code} {T0 : State} {locs : List Loc} {Z : State} {a0 : Array Value} {h0 : Heap} {n0 : Nat} (a0' : Addr) (a1' : Addr) (x0_0 : Int64) (x0_1 : Int64) (x1_0 : Int64) (x1_1 : Int64) {r : Int32} (X0 : Stand p l e ({ frames := 1, cells := 0, slots := 0, locals := 14 } : Room) s m args below meth c T0 locs 0 0) (hx : p.tables.exec = Jvm.exec) (hZ : Z.Warmed39 s.vm) (hw : ∀ d ∈ tables_1, d.before a0 Z = true) (hby : c.code = prog_54_method_18_code) (hml : c.maxLocals = 4) (hown : s.vm.findClass "com/example/conceal/conceal/TransactionRemoval" = some m.cls) (hret : meth.sig.returnType = some .int) (hlk : meth.locks = false) (e0 : T0.heap = h0) (N0 : Fr n0 locs) (A0 : own_A Z h0 a0' .long [(.long x0_0), (.long x0_1)]) (A1 : own_A Z h0 a1' .long [(.long x1_0), (.long x1_1)]) (hr : r = f1n2_0 x0_0 x0_1 x1_0 x1_1) :
    own_Ends p e below s 0 0 (own_P (.int r) h0 n0) T0 (mkF m 0 #[.val (.ref a0'), .val (.ref a1'), .unset, .unset] []) := by
  unfold f1n2_0 at hr
  refine own_step (T' := T0) (f' := (mkF m 7 #[.val (.ref a0'), .val (.ref a1'), .val (.int (0 : Int32)), .val (.int (0 : Int32))] [(.int (2 : Int32)), (.int (0 : Int32))])) (fun t kt => ?_) ?_
  · show Steps p.tables e below (T0.setTop (mkF m 0 #[.val (.ref a0'), .val (.ref a1'), .unset, .unset] [])) _
    refine XS.iconst X0.here hx rfl (hb hby d1_0) ?_
    show Steps p.tables e below (T0.setTop (mkF m 1 #[.val (.ref a0'), .val (.ref a1'), .unset, .unset] [(.int (0 : Int32))])) _
    refine XS.istoreN X0.here hx rfl (hb hby d1_1) rfl (l' := #[.val (.ref a0'), .val (.ref a1'), .val (.int (0 : Int32)), .unset]) rfl ?_
    show Steps p.tables e below (T0.setTop (mkF m 2 #[.val (.ref a0'), .val (.ref a1'), .val (.int (0 : Int32)), .unset] [])) _
    refine XS.iconst X0.here hx rfl (hb hby d1_2) ?_
    show Steps p.tables e below (T0.setTop (mkF m 3 #[.val (.ref a0'), .val (.ref a1'), .val (.int (0 : Int32)), .unset] [(.int (0 : Int32))])) _
    refine XS.istoreN X0.here hx rfl (hb hby d1_3) rfl (l' := #[.val (.ref a0'), .val (.ref a1'), .val (.int (0 : Int32)), .val (.int (0 : Int32))]) rfl ?_
    show Steps p.tables e below (T0.setTop (mkF m 4 #[.val (.ref a0'), .val (.ref a1'), .val (.int (0 : Int32)), .val (.int (0 : Int32))] [])) _
    refine XS.iloadN X0.here hx rfl (hb hby d1_4) rfl ?_
    show Steps p.tables e below (T0.setTop (mkF m 5 #[.val (.ref a0'), .val (.ref a1'), .val (.int (0 : Int32)), .val (.int (0 : Int32))] [(.int (0 : Int32))])) _
    refine XS.aloadN X0.here hx rfl (hb hby d1_5) rfl rfl ?_
    show Steps p.tables e below (T0.setTop (mkF m 6 #[.val (.ref a0'), .val (.ref a1'), .val (.int (0 : Int32)), .val (.int (0 : Int32))] [(.ref a0'), (.int (0 : Int32))])) _
    refine own_len X0 hx hZ e0 A0 (n := (2 : Int32)) rfl (g := (mkF m 6 #[.val (.ref a0'), .val (.ref a1'), .val (.int (0 : Int32)), .val (.int (0 : Int32))] [(.ref a0'), (.int (0 : Int32))])) rfl rfl (hb hby d1_6) _ ?_
    exact kt
  refine own_step (T' := T0) (f' := (mkF m 10 #[.val (.ref a0'), .val (.ref a1'), .val (.int (0 : Int32)), .val (.int (0 : Int32))] [])) (fun t kt => ?_) ?_
  · show Steps p.tables e below (T0.setTop (mkF m 7 #[.val (.ref a0'), .val (.ref a1'), .val (.int (0 : Int32)), .val (.int (0 : Int32))] [(.int (2 : Int32)), (.int (0 : Int32))])) _
    refine XS.icmpNo X0.here hx rfl (hb hby d1_7) rfl (tlt (by decide : ((0 : Int32) < (2 : Int32)))).2.1 kt
  refine own_step (T' := T0) (f' := (mkF m 18 #[.val (.ref a0'), .val (.ref a1'), .val (.int (0 : Int32)), .val (.int (0 : Int32))] [(.long (x0_0 &&& x1_0)), (.int (0 : Int32))])) (fun t kt => ?_) ?_
  · show Steps p.tables e below (T0.setTop (mkF m 10 #[.val (.ref a0'), .val (.ref a1'), .val (.int (0 : Int32)), .val (.int (0 : Int32))] [])) _
    refine XS.iloadN X0.here hx rfl (hb hby d1_10) rfl ?_
    show Steps p.tables e below (T0.setTop (mkF m 11 #[.val (.ref a0'), .val (.ref a1'), .val (.int (0 : Int32)), .val (.int (0 : Int32))] [(.int (0 : Int32))])) _
    refine XS.aloadN X0.here hx rfl (hb hby d1_11) rfl rfl ?_
    show Steps p.tables e below (T0.setTop (mkF m 12 #[.val (.ref a0'), .val (.ref a1'), .val (.int (0 : Int32)), .val (.int (0 : Int32))] [(.ref a0'), (.int (0 : Int32))])) _
    refine XS.iloadN X0.here hx rfl (hb hby d1_12) rfl ?_
    show Steps p.tables e below (T0.setTop (mkF m 13 #[.val (.ref a0'), .val (.ref a1'), .val (.int (0 : Int32)), .val (.int (0 : Int32))] [(.int (0 : Int32)), (.ref a0'), (.int (0 : Int32))])) _
    refine own_ldJ X0 hx hZ e0 A0 (j := (0 : Int32)) (by decide) (k := 0) (by decide) (v := (.long x0_0)) rfl (g := (mkF m 13 #[.val (.ref a0'), .val (.ref a1'), .val (.int (0 : Int32)), .val (.int (0 : Int32))] [(.int (0 : Int32)), (.ref a0'), (.int (0 : Int32))])) rfl rfl (hb hby d1_13) _ ?_
    show Steps p.tables e below (T0.setTop (mkF m 14 #[.val (.ref a0'), .val (.ref a1'), .val (.int (0 : Int32)), .val (.int (0 : Int32))] [(.long x0_0), (.int (0 : Int32))])) _
    refine XS.aloadN X0.here hx rfl (hb hby d1_14) rfl rfl ?_
    show Steps p.tables e below (T0.setTop (mkF m 15 #[.val (.ref a0'), .val (.ref a1'), .val (.int (0 : Int32)), .val (.int (0 : Int32))] [(.ref a1'), (.long x0_0), (.int (0 : Int32))])) _
    refine XS.iloadN X0.here hx rfl (hb hby d1_15) rfl ?_
    show Steps p.tables e below (T0.setTop (mkF m 16 #[.val (.ref a0'), .val (.ref a1'), .val (.int (0 : Int32)), .val (.int (0 : Int32))] [(.int (0 : Int32)), (.ref a1'), (.long x0_0), (.int (0 : Int32))])) _
    refine own_ldJ X0 hx hZ e0 A1 (j := (0 : Int32)) (by decide) (k := 0) (by decide) (v := (.long x1_0)) rfl (g := (mkF m 16 #[.val (.ref a0'), .val (.ref a1'), .val (.int (0 : Int32)), .val (.int (0 : Int32))] [(.int (0 : Int32)), (.ref a1'), (.long x0_0), (.int (0 : Int32))])) rfl rfl (hb hby d1_16) _ ?_
    show Steps p.tables e below (T0.setTop (mkF m 17 #[.val (.ref a0'), .val (.ref a1'), .val (.int (0 : Int32)), .val (.int (0 : Int32))] [(.long x1_0), (.long x0_0), (.int (0 : Int32))])) _
    refine XS.land X0.here hx rfl (hb hby d1_17) rfl ?_
    exact kt
  obtain ⟨_, _, ⟨T2, L2, k2, n2⟩, -, X2, ⟨Lc2, hQ2, l2, y2, z2⟩, st2⟩ := Jvm.LawKit.callS X0 hx (y := (⟨"java/lang/Long", "bitCount", "(J)I"⟩ : MethodName)) hown (mvT hZ (hw _ (List.mem_of_getElem? (i := 14) rfl))) (mvT hZ (hw _ (List.mem_of_getElem? (i := 15) rfl))) (mvT hZ (hw _ (List.mem_of_getElem? (i := 16) rfl))) (mvT hZ (hw _ (List.mem_of_getElem? (i := 17) rfl))) (by decide) (backOf (W := 1) (rm3 l Z a0 hw [] (x0_0 &&& x1_0)  h0 n0 ) hZ (hw _ (List.mem_of_getElem? (i := 17) rfl)) (hw _ (List.mem_of_getElem? (i := 16) rfl)) (by decide) (by decide)) (g := (mkF m 18 #[.val (.ref a0'), .val (.ref a1'), .val (.int (0 : Int32)), .val (.int (0 : Int32))] [(.long (x0_0 &&& x1_0)), (.int (0 : Int32))])) rfl (by rw [hml]; rfl) (argsL := [(.long (x0_0 &&& x1_0))]) (rest := [(.int (0 : Int32))]) (lenOf pd3 rfl) rfl (by show 2 * 0 + _ ≤ _; exact Nat.le_of_eq rfl) (hb hby d1_18) (fun _ _ => ⟨rfl, e0, (by decide : 0 + 0 ≤ _), (by decide : 0 + 0 ≤ _)⟩)
  dsimp only [Pt.U, Pt.locs, Pt.cells, Pt.slots] at X2 l2 y2 z2 st2 hQ2
  subst l2 y2 z2
  obtain ⟨rfl, Nq2, e2⟩ := hQ2
  have N2 := Fr.app N0 Nq2
  refine own_step (T' := T2) (f' := (mkF m 21 #[.val (.ref a0'), .val (.ref a1'), .val (.int (0 : Int32)), .val (.int (0 : Int32))] [(.int (f3_0 (x0_0 &&& x1_0))), (.int (0 : Int32))])) st2 ?_
  refine own_step (T' := T2) (f' := (mkF m 7 #[.val (.ref a0'), .val (.ref a1'), .val (.int ((0 : Int32) + (f3_0 (x0_0 &&& x1_0)))), .val (.int (1 : Int32))] [(.int (2 : Int32)), (.int (1 : Int32))])) (fun t kt => ?_) ?_
  · show Steps p.tables e below (T2.setTop (mkF m 21 #[.val (.ref a0'), .val (.ref a1'), .val (.int (0 : Int32)), .val (.int (0 : Int32))] [(.int (f3_0 (x0_0 &&& x1_0))), (.int (0 : Int32))])) _
    refine XS.iadd X2.here hx rfl (hb hby d1_21) rfl ?_
    show Steps p.tables e below (T2.setTop (mkF m 22 #[.val (.ref a0'), .val (.ref a1'), .val (.int (0 : Int32)), .val (.int (0 : Int32))] [(.int ((0 : Int32) + (f3_0 (x0_0 &&& x1_0))))])) _
    refine XS.istoreN X2.here hx rfl (hb hby d1_22) rfl (l' := #[.val (.ref a0'), .val (.ref a1'), .val (.int ((0 : Int32) + (f3_0 (x0_0 &&& x1_0)))), .val (.int (0 : Int32))]) rfl ?_
    show Steps p.tables e below (T2.setTop (mkF m 23 #[.val (.ref a0'), .val (.ref a1'), .val (.int ((0 : Int32) + (f3_0 (x0_0 &&& x1_0)))), .val (.int (0 : Int32))] [])) _
    refine XS.iinc X2.here hx rfl (hb hby d1_23) rfl (l' := #[.val (.ref a0'), .val (.ref a1'), .val (.int ((0 : Int32) + (f3_0 (x0_0 &&& x1_0)))), .val (.int (1 : Int32))]) rfl ?_
    show Steps p.tables e below (T2.setTop (mkF m 26 #[.val (.ref a0'), .val (.ref a1'), .val (.int ((0 : Int32) + (f3_0 (x0_0 &&& x1_0)))), .val (.int (1 : Int32))] [])) _
    refine XS.goto X2.here hx rfl (pc0 := 26) (pc' := 4) rfl (hb hby d1_26) (by decide) (by decide) ?_
    show Steps p.tables e below (T2.setTop (mkF m 4 #[.val (.ref a0'), .val (.ref a1'), .val (.int ((0 : Int32) + (f3_0 (x0_0 &&& x1_0)))), .val (.int (1 : Int32))] [])) _
    refine XS.iloadN X2.here hx rfl (hb hby d1_4) rfl ?_
    show Steps p.tables e below (T2.setTop (mkF m 5 #[.val (.ref a0'), .val (.ref a1'), .val (.int ((0 : Int32) + (f3_0 (x0_0 &&& x1_0)))), .val (.int (1 : Int32))] [(.int (1 : Int32))])) _
    refine XS.aloadN X2.here hx rfl (hb hby d1_5) rfl rfl ?_
    show Steps p.tables e below (T2.setTop (mkF m 6 #[.val (.ref a0'), .val (.ref a1'), .val (.int ((0 : Int32) + (f3_0 (x0_0 &&& x1_0)))), .val (.int (1 : Int32))] [(.ref a0'), (.int (1 : Int32))])) _
    refine own_len X2 hx hZ e2 A0 (n := (2 : Int32)) rfl (g := (mkF m 6 #[.val (.ref a0'), .val (.ref a1'), .val (.int ((0 : Int32) + (f3_0 (x0_0 &&& x1_0)))), .val (.int (1 : Int32))] [(.ref a0'), (.int (1 : Int32))])) rfl rfl (hb hby d1_6) _ ?_
    exact kt
  refine own_step (T' := T2) (f' := (mkF m 10 #[.val (.ref a0'), .val (.ref a1'), .val (.int ((0 : Int32) + (f3_0 (x0_0 &&& x1_0)))), .val (.int (1 : Int32))] [])) (fun t kt => ?_) ?_
  · show Steps p.tables e below (T2.setTop (mkF m 7 #[.val (.ref a0'), .val (.ref a1'), .val (.int ((0 : Int32) + (f3_0 (x0_0 &&& x1_0)))), .val (.int (1 : Int32))] [(.int (2 : Int32)), (.int (1 : Int32))])) _
    refine XS.icmpNo X2.here hx rfl (hb hby d1_7) rfl (tlt (by decide : ((1 : Int32) < (2 : Int32)))).2.1 kt
  refine own_step (T' := T2) (f' := (mkF m 18 #[.val (.ref a0'), .val (.ref a1'), .val (.int ((0 : Int32) + (f3_0 (x0_0 &&& x1_0)))), .val (.int (1 : Int32))] [(.long (x0_1 &&& x1_1)), (.int ((0 : Int32) + (f3_0 (x0_0 &&& x1_0))))])) (fun t kt => ?_) ?_
  · show Steps p.tables e below (T2.setTop (mkF m 10 #[.val (.ref a0'), .val (.ref a1'), .val (.int ((0 : Int32) + (f3_0 (x0_0 &&& x1_0)))), .val (.int (1 : Int32))] [])) _
    refine XS.iloadN X2.here hx rfl (hb hby d1_10) rfl ?_
    show Steps p.tables e below (T2.setTop (mkF m 11 #[.val (.ref a0'), .val (.ref a1'), .val (.int ((0 : Int32) + (f3_0 (x0_0 &&& x1_0)))), .val (.int (1 : Int32))] [(.int ((0 : Int32) + (f3_0 (x0_0 &&& x1_0))))])) _
    refine XS.aloadN X2.here hx rfl (hb hby d1_11) rfl rfl ?_
    show Steps p.tables e below (T2.setTop (mkF m 12 #[.val (.ref a0'), .val (.ref a1'), .val (.int ((0 : Int32) + (f3_0 (x0_0 &&& x1_0)))), .val (.int (1 : Int32))] [(.ref a0'), (.int ((0 : Int32) + (f3_0 (x0_0 &&& x1_0))))])) _
    refine XS.iloadN X2.here hx rfl (hb hby d1_12) rfl ?_
    show Steps p.tables e below (T2.setTop (mkF m 13 #[.val (.ref a0'), .val (.ref a1'), .val (.int ((0 : Int32) + (f3_0 (x0_0 &&& x1_0)))), .val (.int (1 : Int32))] [(.int (1 : Int32)), (.ref a0'), (.int ((0 : Int32) + (f3_0 (x0_0 &&& x1_0))))])) _
    refine own_ldJ X2 hx hZ e2 A0 (j := (1 : Int32)) (by decide) (k := 1) (by decide) (v := (.long x0_1)) rfl (g := (mkF m 13 #[.val (.ref a0'), .val (.ref a1'), .val (.int ((0 : Int32) + (f3_0 (x0_0 &&& x1_0)))), .val (.int (1 : Int32))] [(.int (1 : Int32)), (.ref a0'), (.int ((0 : Int32) + (f3_0 (x0_0 &&& x1_0))))])) rfl rfl (hb hby d1_13) _ ?_
    show Steps p.tables e below (T2.setTop (mkF m 14 #[.val (.ref a0'), .val (.ref a1'), .val (.int ((0 : Int32) + (f3_0 (x0_0 &&& x1_0)))), .val (.int (1 : Int32))] [(.long x0_1), (.int ((0 : Int32) + (f3_0 (x0_0 &&& x1_0))))])) _
    refine XS.aloadN X2.here hx rfl (hb hby d1_14) rfl rfl ?_
    show Steps p.tables e below (T2.setTop (mkF m 15 #[.val (.ref a0'), .val (.ref a1'), .val (.int ((0 : Int32) + (f3_0 (x0_0 &&& x1_0)))), .val (.int (1 : Int32))] [(.ref a1'), (.long x0_1), (.int ((0 : Int32) + (f3_0 (x0_0 &&& x1_0))))])) _
    refine XS.iloadN X2.here hx rfl (hb hby d1_15) rfl ?_
    show Steps p.tables e below (T2.setTop (mkF m 16 #[.val (.ref a0'), .val (.ref a1'), .val (.int ((0 : Int32) + (f3_0 (x0_0 &&& x1_0)))), .val (.int (1 : Int32))] [(.int (1 : Int32)), (.ref a1'), (.long x0_1), (.int ((0 : Int32) + (f3_0 (x0_0 &&& x1_0))))])) _
    refine own_ldJ X2 hx hZ e2 A1 (j := (1 : Int32)) (by decide) (k := 1) (by decide) (v := (.long x1_1)) rfl (g := (mkF m 16 #[.val (.ref a0'), .val (.ref a1'), .val (.int ((0 : Int32) + (f3_0 (x0_0 &&& x1_0)))), .val (.int (1 : Int32))] [(.int (1 : Int32)), (.ref a1'), (.long x0_1), (.int ((0 : Int32) + (f3_0 (x0_0 &&& x1_0))))])) rfl rfl (hb hby d1_16) _ ?_
    show Steps p.tables e below (T2.setTop (mkF m 17 #[.val (.ref a0'), .val (.ref a1'), .val (.int ((0 : Int32) + (f3_0 (x0_0 &&& x1_0)))), .val (.int (1 : Int32))] [(.long x1_1), (.long x0_1), (.int ((0 : Int32) + (f3_0 (x0_0 &&& x1_0))))])) _
    refine XS.land X2.here hx rfl (hb hby d1_17) rfl ?_
    exact kt
  obtain ⟨_, _, ⟨T4, L4, k4, n4⟩, -, X4, ⟨Lc4, hQ4, l4, y4, z4⟩, st4⟩ := Jvm.LawKit.callS X2 hx (y := (⟨"java/lang/Long", "bitCount", "(J)I"⟩ : MethodName)) hown (mvT hZ (hw _ (List.mem_of_getElem? (i := 14) rfl))) (mvT hZ (hw _ (List.mem_of_getElem? (i := 15) rfl))) (mvT hZ (hw _ (List.mem_of_getElem? (i := 16) rfl))) (mvT hZ (hw _ (List.mem_of_getElem? (i := 17) rfl))) (by decide) (backOf (W := 1) (rm3 l Z a0 hw [] (x0_1 &&& x1_1)  h0 n0 ) hZ (hw _ (List.mem_of_getElem? (i := 17) rfl)) (hw _ (List.mem_of_getElem? (i := 16) rfl)) (by decide) (by decide)) (g := (mkF m 18 #[.val (.ref a0'), .val (.ref a1'), .val (.int ((0 : Int32) + (f3_0 (x0_0 &&& x1_0)))), .val (.int (1 : Int32))] [(.long (x0_1 &&& x1_1)), (.int ((0 : Int32) + (f3_0 (x0_0 &&& x1_0))))])) rfl (by rw [hml]; rfl) (argsL := [(.long (x0_1 &&& x1_1))]) (rest := [(.int ((0 : Int32) + (f3_0 (x0_0 &&& x1_0))))]) (lenOf pd3 rfl) rfl (by show 2 * 0 + _ ≤ _; exact Nat.le_of_eq rfl) (hb hby d1_18) (fun _ _ => ⟨rfl, e2, (by decide : 0 + 0 ≤ _), (by decide : 0 + 0 ≤ _)⟩)
  dsimp only [Pt.U, Pt.locs, Pt.cells, Pt.slots] at X4 l4 y4 z4 st4 hQ4
  subst l4 y4 z4
  obtain ⟨rfl, Nq4, e4⟩ := hQ4
  have N4 := Fr.app N2 Nq4
  refine own_step (T' := T4) (f' := (mkF m 21 #[.val (.ref a0'), .val (.ref a1'), .val (.int ((0 : Int32) + (f3_0 (x0_0 &&& x1_0)))), .val (.int (1 : Int32))] [(.int (f3_0 (x0_1 &&& x1_1))), (.int ((0 : Int32) + (f3_0 (x0_0 &&& x1_0))))])) st4 ?_
  refine own_step (T' := T4) (f' := (mkF m 7 #[.val (.ref a0'), .val (.ref a1'), .val (.int (((0 : Int32) + (f3_0 (x0_0 &&& x1_0))) + (f3_0 (x0_1 &&& x1_1)))), .val (.int (2 : Int32))] [(.int (2 : Int32)), (.int (2 : Int32))])) (fun t kt => ?_) ?_
  · show Steps p.tables e below (T4.setTop (mkF m 21 #[.val (.ref a0'), .val (.ref a1'), .val (.int ((0 : Int32) + (f3_0 (x0_0 &&& x1_0)))), .val (.int (1 : Int32))] [(.int (f3_0 (x0_1 &&& x1_1))), (.int ((0 : Int32) + (f3_0 (x0_0 &&& x1_0))))])) _
    refine XS.iadd X4.here hx rfl (hb hby d1_21) rfl ?_
    show Steps p.tables e below (T4.setTop (mkF m 22 #[.val (.ref a0'), .val (.ref a1'), .val (.int ((0 : Int32) + (f3_0 (x0_0 &&& x1_0)))), .val (.int (1 : Int32))] [(.int (((0 : Int32) + (f3_0 (x0_0 &&& x1_0))) + (f3_0 (x0_1 &&& x1_1))))])) _
    refine XS.istoreN X4.here hx rfl (hb hby d1_22) rfl (l' := #[.val (.ref a0'), .val (.ref a1'), .val (.int (((0 : Int32) + (f3_0 (x0_0 &&& x1_0))) + (f3_0 (x0_1 &&& x1_1)))), .val (.int (1 : Int32))]) rfl ?_
    show Steps p.tables e below (T4.setTop (mkF m 23 #[.val (.ref a0'), .val (.ref a1'), .val (.int (((0 : Int32) + (f3_0 (x0_0 &&& x1_0))) + (f3_0 (x0_1 &&& x1_1)))), .val (.int (1 : Int32))] [])) _
    refine XS.iinc X4.here hx rfl (hb hby d1_23) rfl (l' := #[.val (.ref a0'), .val (.ref a1'), .val (.int (((0 : Int32) + (f3_0 (x0_0 &&& x1_0))) + (f3_0 (x0_1 &&& x1_1)))), .val (.int (2 : Int32))]) rfl ?_
    show Steps p.tables e below (T4.setTop (mkF m 26 #[.val (.ref a0'), .val (.ref a1'), .val (.int (((0 : Int32) + (f3_0 (x0_0 &&& x1_0))) + (f3_0 (x0_1 &&& x1_1)))), .val (.int (2 : Int32))] [])) _
    refine XS.goto X4.here hx rfl (pc0 := 26) (pc' := 4) rfl (hb hby d1_26) (by decide) (by decide) ?_
    show Steps p.tables e below (T4.setTop (mkF m 4 #[.val (.ref a0'), .val (.ref a1'), .val (.int (((0 : Int32) + (f3_0 (x0_0 &&& x1_0))) + (f3_0 (x0_1 &&& x1_1)))), .val (.int (2 : Int32))] [])) _
    refine XS.iloadN X4.here hx rfl (hb hby d1_4) rfl ?_
    show Steps p.tables e below (T4.setTop (mkF m 5 #[.val (.ref a0'), .val (.ref a1'), .val (.int (((0 : Int32) + (f3_0 (x0_0 &&& x1_0))) + (f3_0 (x0_1 &&& x1_1)))), .val (.int (2 : Int32))] [(.int (2 : Int32))])) _
    refine XS.aloadN X4.here hx rfl (hb hby d1_5) rfl rfl ?_
    show Steps p.tables e below (T4.setTop (mkF m 6 #[.val (.ref a0'), .val (.ref a1'), .val (.int (((0 : Int32) + (f3_0 (x0_0 &&& x1_0))) + (f3_0 (x0_1 &&& x1_1)))), .val (.int (2 : Int32))] [(.ref a0'), (.int (2 : Int32))])) _
    refine own_len X4 hx hZ e4 A0 (n := (2 : Int32)) rfl (g := (mkF m 6 #[.val (.ref a0'), .val (.ref a1'), .val (.int (((0 : Int32) + (f3_0 (x0_0 &&& x1_0))) + (f3_0 (x0_1 &&& x1_1)))), .val (.int (2 : Int32))] [(.ref a0'), (.int (2 : Int32))])) rfl rfl (hb hby d1_6) _ ?_
    exact kt
  refine own_step (T' := T4) (f' := (mkF m 29 #[.val (.ref a0'), .val (.ref a1'), .val (.int (((0 : Int32) + (f3_0 (x0_0 &&& x1_0))) + (f3_0 (x0_1 &&& x1_1)))), .val (.int (2 : Int32))] [])) (fun t kt => ?_) ?_
  · show Steps p.tables e below (T4.setTop (mkF m 7 #[.val (.ref a0'), .val (.ref a1'), .val (.int (((0 : Int32) + (f3_0 (x0_0 &&& x1_0))) + (f3_0 (x0_1 &&& x1_1)))), .val (.int (2 : Int32))] [(.int (2 : Int32)), (.int (2 : Int32))])) _
    refine XS.icmpYes X4.here hx rfl (pc0 := 7) (pc' := 29) rfl (hb hby d1_7) rfl (flt (by decide : ¬ ((2 : Int32) < (2 : Int32)))).2.1 (by decide) (by decide) kt
  refine own_step (T' := T4) (f' := (mkF m 30 #[.val (.ref a0'), .val (.ref a1'), .val (.int (((0 : Int32) + (f3_0 (x0_0 &&& x1_0))) + (f3_0 (x0_1 &&& x1_1)))), .val (.int (2 : Int32))] [(.int (((0 : Int32) + (f3_0 (x0_0 &&& x1_0))) + (f3_0 (x0_1 &&& x1_1))))])) (fun t kt => ?_) ?_
  · show Steps p.tables e below (T4.setTop (mkF m 29 #[.val (.ref a0'), .val (.ref a1'), .val (.int (((0 : Int32) + (f3_0 (x0_0 &&& x1_0))) + (f3_0 (x0_1 &&& x1_1)))), .val (.int (2 : Int32))] [])) _
    refine XS.iloadN X4.here hx rfl (hb hby d1_29) rfl ?_
    exact kt
  exact own_retI X4 hx hret hlk (hb hby d1_30) (Nat.le_refl _) (Nat.le_refl _) ⟨congrArg (fun z => some (Value.int z)) hr.symm, N4, e4⟩
set_option maxRecDepth 65536 in
set_option maxHeartbeats 4000000 in
theorem rm1n2 (l : Launch) (Z : State) (a0 : Array Value) (hw : ∀ d ∈ tables_1, d.before a0 Z = true) (ws : List Jvm.Cond) (a0' : Addr) (a1' : Addr) (x0_0 : Int64) (x0_1 : Int64) (x1_0 : Int64) (x1_1 : Int64) (h0 : Heap) (n0 : Nat) (A0 : own_A Z h0 a0' .long [(.long x0_0), (.long x0_1)]) (A1 : own_A Z h0 a1' .long [(.long x1_0), (.long x1_1)]) :
    MetFree l (⟨"com/example/conceal/conceal/TransactionRemoval", "holding", "([J[J)I"⟩ : MethodName) (head1 (Jvm.Cond.code (⟨"com/example/conceal/conceal/TransactionRemoval", "holding", "([J[J)I"⟩ : MethodName) prog_54_method_18_code 4 (some .int) :: ws) ({ frames := 1, cells := 0, slots := 0, locals := 14 } : Room)) (fun a U => a = #[(.ref a0'), (.ref a1')] ∧ Z.Warmed39 U.vm ∧ U.heap = h0) (fun _ _ _ _ _ => True) (fun _ U o U' => ∃ v L, o = .returned v ∧ (own_P (.int (f1n2_0 x0_0 x0_1 x1_0 x1_1)) h0 n0) v U'.heap L ∧ FrameEnd U o U' L ({ frames := 1, cells := 0, slots := 0, locals := 14 } : Room).cells ({ frames := 1, cells := 0, slots := 0, locals := 14 } : Room).slots) := by
  refine MetFree.of_bodySF (plainFor_of_name pn1) hisR ?_
  intro p e s m args below meth c s₁ Bd hml0 hP hK
  obtain ⟨rfl, hZ, hh⟩ := hP
  have hown : s.vm.findClass "com/example/conceal/conceal/TransactionRemoval" = some m.cls := findClass_of_methodNamed Bd.named
  have X0 : Stand p l e ({ frames := 1, cells := 0, slots := 0, locals := 14 } : Room) s m #[(.ref a0'), (.ref a1')] below meth c s₁ [] 0 0 := Stand.of_body Bd
  have e0 : s₁.heap = h0 := by rw [← hh, Bd.state]; rfl
  show own_Ends p e below s 0 0 (own_P (.int (f1n2_0 x0_0 x0_1 x1_0 x1_1)) h0 n0) s₁ (entryFrame m #[(.ref a0'), (.ref a1')] 4)
  refine own_step (fun t k => castTop (ef1 m a0' a1') k) ?_
  exact b1n2_0 a0' a1' x0_0 x0_1 x1_0 x1_1 X0 Bd.exec hZ hw Bd.bytes hml0 hown Bd.returns (BodyLoose.notSynchronized Bd) e0 (Fr.nil n0) A0 A1 rfl

theorem pn0 : plainName "com/example/conceal/conceal/TransactionRemovalHoldingPinLaw" = true := by first | (simp [plainName, overriddenIn]; done) | decide +kernel
theorem ef0 (m : MethodId) (q0 : Int64) (q1 : Int64) (q2 : Int64) (q3 : Int64) (p4 : Int32) : entryFrame m #[(.long q0), (.long q1), (.long q2), (.long q3), (.int p4)] maxLocals = mkF m 0 #[.val (.long q0), .second, .val (.long q1), .second, .val (.long q2), .second, .val (.long q3), .second, .val (.int p4), .unset, .unset, .unset, .unset, .unset] [] := by first | (simp [entryFrame, mkF, argsToLocals, Value.category, maxLocals]; done) | rfl
def f0_0 (q0 : Int64) (q1 : Int64) (q2 : Int64) (q3 : Int64) (p4 : Int32) : Int32 :=
  if ((p4 &&& (2147483647 : Int32)) - (p4 &&& (2147483647 : Int32)) / (3 : Int32) * (3 : Int32)) = (0 : Int32) then (if (f1n0_0 ) = (0 : Int32) then ((1 : Int32)) else ((0 : Int32))) else (if ((p4 &&& (2147483647 : Int32)) - (p4 &&& (2147483647 : Int32)) / (3 : Int32) * (3 : Int32)) = (1 : Int32) then (if (f1n1_0 q0 q2) = (f2_0 (q0 &&& q2)) then ((1 : Int32)) else ((0 : Int32))) else (if (f1n2_0 q0 q1 q2 q3) = ((f2_0 (q0 &&& q2)) + (f2_0 (q1 &&& q3))) then ((1 : Int32)) else ((0 : Int32))))
set_option maxRecDepth 65536 in
set_option maxHeartbeats 4000000 in
theorem b0_0 {p : Program} {l : Launch} {e : Env} {s : State} {m : MethodId} {args : Array Value} {below : List Frame} {meth : Method} {c : Code} {T0 : State} {locs : List Loc} {Z : State} {a0 : Array Value} {h0 : Heap} {n0 : Nat} (q0 : Int64) (q1 : Int64) (q2 : Int64) (q3 : Int64) (p4 : Int32) {r : Int32} (X0 : Stand p l e room_1 s m args below meth c T0 locs 0 0) (hx : p.tables.exec = Jvm.exec) (hZ : Z.Warmed39 s.vm) (hw : ∀ d ∈ tables_1, d.before a0 Z = true) (hby : c.code = code) (hml : c.maxLocals = 14) (hown : s.vm.findClass "com/example/conceal/conceal/TransactionRemovalHoldingPinLaw" = some m.cls) (hret : meth.sig.returnType = some .boolean) (hlk : meth.locks = false) (e0 : T0.heap = h0) (N0 : Fr n0 locs) (Z0 : n0 ≤ h0.size) (hr : r = f0_0 q0 q1 q2 q3 p4) :
    own_Ends p e below s 16 128 (own_R (.int r) n0) T0 (mkF m 0 #[.val (.long q0), .second, .val (.long q1), .second, .val (.long q2), .second, .val (.long q3), .second, .val (.int p4), .unset, .unset, .unset, .unset, .unset] []) := by
  unfold f0_0 at hr
  refine own_step (T' := T0) (f' := (mkF m 11 #[.val (.long q0), .second, .val (.long q1), .second, .val (.long q2), .second, .val (.long q3), .second, .val (.int p4), .val (.int ((p4 &&& (2147483647 : Int32)) - (p4 &&& (2147483647 : Int32)) / (3 : Int32) * (3 : Int32))), .unset, .unset, .unset, .unset] [(.int ((p4 &&& (2147483647 : Int32)) - (p4 &&& (2147483647 : Int32)) / (3 : Int32) * (3 : Int32)))])) (fun t kt => ?_) ?_
  · show Steps p.tables e below (T0.setTop (mkF m 0 #[.val (.long q0), .second, .val (.long q1), .second, .val (.long q2), .second, .val (.long q3), .second, .val (.int p4), .unset, .unset, .unset, .unset, .unset] [])) _
    refine XS.iload X0.here hx rfl (hb hby at_0) rfl ?_
    show Steps p.tables e below (T0.setTop (mkF m 2 #[.val (.long q0), .second, .val (.long q1), .second, .val (.long q2), .second, .val (.long q3), .second, .val (.int p4), .unset, .unset, .unset, .unset, .unset] [(.int p4)])) _
    refine X0.ldcInt hx hown (mvT hZ (hw _ (List.mem_of_getElem? (i := 0) rfl))) (g := (mkF m 2 #[.val (.long q0), .second, .val (.long q1), .second, .val (.long q2), .second, .val (.long q3), .second, .val (.int p4), .unset, .unset, .unset, .unset, .unset] [(.int p4)])) rfl (hb hby at_2) _ ?_
    show Steps p.tables e below (T0.setTop (mkF m 4 #[.val (.long q0), .second, .val (.long q1), .second, .val (.long q2), .second, .val (.long q3), .second, .val (.int p4), .unset, .unset, .unset, .unset, .unset] [(.int (2147483647 : Int32)), (.int p4)])) _
    refine XS.iand X0.here hx rfl (hb hby at_4) rfl ?_
    show Steps p.tables e below (T0.setTop (mkF m 5 #[.val (.long q0), .second, .val (.long q1), .second, .val (.long q2), .second, .val (.long q3), .second, .val (.int p4), .unset, .unset, .unset, .unset, .unset] [(.int (p4 &&& (2147483647 : Int32)))])) _
    refine XS.iconst X0.here hx rfl (hb hby at_5) ?_
    show Steps p.tables e below (T0.setTop (mkF m 6 #[.val (.long q0), .second, .val (.long q1), .second, .val (.long q2), .second, .val (.long q3), .second, .val (.int p4), .unset, .unset, .unset, .unset, .unset] [(.int (3 : Int32)), (.int (p4 &&& (2147483647 : Int32)))])) _
    refine XS.irem X0.here hx rfl (hb hby at_6) rfl (by decide) ?_
    show Steps p.tables e below (T0.setTop (mkF m 7 #[.val (.long q0), .second, .val (.long q1), .second, .val (.long q2), .second, .val (.long q3), .second, .val (.int p4), .unset, .unset, .unset, .unset, .unset] [(.int ((p4 &&& (2147483647 : Int32)) - (p4 &&& (2147483647 : Int32)) / (3 : Int32) * (3 : Int32)))])) _
    refine XS.istore X0.here hx rfl (hb hby at_7) rfl (l' := #[.val (.long q0), .second, .val (.long q1), .second, .val (.long q2), .second, .val (.long q3), .second, .val (.int p4), .val (.int ((p4 &&& (2147483647 : Int32)) - (p4 &&& (2147483647 : Int32)) / (3 : Int32) * (3 : Int32))), .unset, .unset, .unset, .unset]) rfl ?_
    show Steps p.tables e below (T0.setTop (mkF m 9 #[.val (.long q0), .second, .val (.long q1), .second, .val (.long q2), .second, .val (.long q3), .second, .val (.int p4), .val (.int ((p4 &&& (2147483647 : Int32)) - (p4 &&& (2147483647 : Int32)) / (3 : Int32) * (3 : Int32))), .unset, .unset, .unset, .unset] [])) _
    refine XS.iload X0.here hx rfl (hb hby at_9) rfl ?_
    exact kt
  by_cases hc11_1 : ((p4 &&& (2147483647 : Int32)) - (p4 &&& (2147483647 : Int32)) / (3 : Int32) * (3 : Int32)) = (0 : Int32)
  · replace hr := hr.trans (if_pos hc11_1)
    refine own_step (T' := T0) (f' := (mkF m 14 #[.val (.long q0), .second, .val (.long q1), .second, .val (.long q2), .second, .val (.long q3), .second, .val (.int p4), .val (.int ((p4 &&& (2147483647 : Int32)) - (p4 &&& (2147483647 : Int32)) / (3 : Int32) * (3 : Int32))), .unset, .unset, .unset, .unset] [])) (fun t kt => ?_) ?_
    · show Steps p.tables e below (T0.setTop (mkF m 11 #[.val (.long q0), .second, .val (.long q1), .second, .val (.long q2), .second, .val (.long q3), .second, .val (.int p4), .val (.int ((p4 &&& (2147483647 : Int32)) - (p4 &&& (2147483647 : Int32)) / (3 : Int32) * (3 : Int32))), .unset, .unset, .unset, .unset] [(.int ((p4 &&& (2147483647 : Int32)) - (p4 &&& (2147483647 : Int32)) / (3 : Int32) * (3 : Int32)))])) _
      refine XS.ifNo X0.here hx rfl (hb hby at_11) rfl ((if0 _ _).trans (teq hc11_1).2) kt
    refine own_step (T' := T0) (f' := (mkF m 15 #[.val (.long q0), .second, .val (.long q1), .second, .val (.long q2), .second, .val (.long q3), .second, .val (.int p4), .val (.int ((p4 &&& (2147483647 : Int32)) - (p4 &&& (2147483647 : Int32)) / (3 : Int32) * (3 : Int32))), .unset, .unset, .unset, .unset] [(.int (0 : Int32))])) (fun t kt => ?_) ?_
    · show Steps p.tables e below (T0.setTop (mkF m 14 #[.val (.long q0), .second, .val (.long q1), .second, .val (.long q2), .second, .val (.long q3), .second, .val (.int p4), .val (.int ((p4 &&& (2147483647 : Int32)) - (p4 &&& (2147483647 : Int32)) / (3 : Int32) * (3 : Int32))), .unset, .unset, .unset, .unset] [])) _
      refine XS.iconst X0.here hx rfl (hb hby at_14) ?_
      exact kt
    obtain ⟨T2, h2, b2, X2, e2, Ex2, gb2, g2, Z2, Aq2, st2⟩ := own_new X0 hx hZ (aty := .long) (hw _ (List.mem_of_getElem? (i := 1) rfl)) e0 (g := (mkF m 15 #[.val (.long q0), .second, .val (.long q1), .second, .val (.long q2), .second, .val (.long q3), .second, .val (.int p4), .val (.int ((p4 &&& (2147483647 : Int32)) - (p4 &&& (2147483647 : Int32)) / (3 : Int32) * (3 : Int32))), .unset, .unset, .unset, .unset] [(.int (0 : Int32))])) rfl (hb hby at_15) rfl (by decide) (k := 0) (by decide) (by decide) (by decide) (by decide) Z0
    have Ab2_2 : own_A Z h2 b2 .long [] := Aq2
    refine own_step (T' := T2) (f' := (mkF m 17 #[.val (.long q0), .second, .val (.long q1), .second, .val (.long q2), .second, .val (.long q3), .second, .val (.int p4), .val (.int ((p4 &&& (2147483647 : Int32)) - (p4 &&& (2147483647 : Int32)) / (3 : Int32) * (3 : Int32))), .unset, .unset, .unset, .unset] [(.ref b2)])) st2 ?_
    refine own_step (T' := T2) (f' := (mkF m 20 #[.val (.long q0), .second, .val (.long q1), .second, .val (.long q2), .second, .val (.long q3), .second, .val (.int p4), .val (.int ((p4 &&& (2147483647 : Int32)) - (p4 &&& (2147483647 : Int32)) / (3 : Int32) * (3 : Int32))), .val (.ref b2), .unset, .unset, .unset] [(.int (0 : Int32))])) (fun t kt => ?_) ?_
    · show Steps p.tables e below (T2.setTop (mkF m 17 #[.val (.long q0), .second, .val (.long q1), .second, .val (.long q2), .second, .val (.long q3), .second, .val (.int p4), .val (.int ((p4 &&& (2147483647 : Int32)) - (p4 &&& (2147483647 : Int32)) / (3 : Int32) * (3 : Int32))), .unset, .unset, .unset, .unset] [(.ref b2)])) _
      refine XS.astore X2.here hx rfl (hb hby at_17) rfl rfl (l' := #[.val (.long q0), .second, .val (.long q1), .second, .val (.long q2), .second, .val (.long q3), .second, .val (.int p4), .val (.int ((p4 &&& (2147483647 : Int32)) - (p4 &&& (2147483647 : Int32)) / (3 : Int32) * (3 : Int32))), .val (.ref b2), .unset, .unset, .unset]) rfl ?_
      show Steps p.tables e below (T2.setTop (mkF m 19 #[.val (.long q0), .second, .val (.long q1), .second, .val (.long q2), .second, .val (.long q3), .second, .val (.int p4), .val (.int ((p4 &&& (2147483647 : Int32)) - (p4 &&& (2147483647 : Int32)) / (3 : Int32) * (3 : Int32))), .val (.ref b2), .unset, .unset, .unset] [])) _
      refine XS.iconst X2.here hx rfl (hb hby at_19) ?_
      exact kt
    obtain ⟨T3, h3, b3, X3, e3, Ex3, gb3, g3, Z3, Aq3, st3⟩ := own_new X2 hx hZ (aty := .long) (hw _ (List.mem_of_getElem? (i := 1) rfl)) e2 (g := (mkF m 20 #[.val (.long q0), .second, .val (.long q1), .second, .val (.long q2), .second, .val (.long q3), .second, .val (.int p4), .val (.int ((p4 &&& (2147483647 : Int32)) - (p4 &&& (2147483647 : Int32)) / (3 : Int32) * (3 : Int32))), .val (.ref b2), .unset, .unset, .unset] [(.int (0 : Int32))])) rfl (hb hby at_20) rfl (by decide) (k := 0) (by decide) (by decide) (by decide) (by decide) Z2
    have ne_b2_b3 : b2 ≠ b3 := Nat.ne_of_lt (gb3 ▸ Ab2_2.lt)
    have Ab2_3 := Ab2_2.ext Ex3
    have Ab3_3 : own_A Z h3 b3 .long [] := Aq3
    refine own_step (T' := T3) (f' := (mkF m 22 #[.val (.long q0), .second, .val (.long q1), .second, .val (.long q2), .second, .val (.long q3), .second, .val (.int p4), .val (.int ((p4 &&& (2147483647 : Int32)) - (p4 &&& (2147483647 : Int32)) / (3 : Int32) * (3 : Int32))), .val (.ref b2), .unset, .unset, .unset] [(.ref b3)])) st3 ?_
    refine own_step (T' := T3) (f' := (mkF m 116 #[.val (.long q0), .second, .val (.long q1), .second, .val (.long q2), .second, .val (.long q3), .second, .val (.int p4), .val (.int ((p4 &&& (2147483647 : Int32)) - (p4 &&& (2147483647 : Int32)) / (3 : Int32) * (3 : Int32))), .val (.ref b2), .val (.ref b3), .val (.int (0 : Int32)), .unset] [(.ref b3), (.ref b2)])) (fun t kt => ?_) ?_
    · show Steps p.tables e below (T3.setTop (mkF m 22 #[.val (.long q0), .second, .val (.long q1), .second, .val (.long q2), .second, .val (.long q3), .second, .val (.int p4), .val (.int ((p4 &&& (2147483647 : Int32)) - (p4 &&& (2147483647 : Int32)) / (3 : Int32) * (3 : Int32))), .val (.ref b2), .unset, .unset, .unset] [(.ref b3)])) _
      refine XS.astore X3.here hx rfl (hb hby at_22) rfl rfl (l' := #[.val (.long q0), .second, .val (.long q1), .second, .val (.long q2), .second, .val (.long q3), .second, .val (.int p4), .val (.int ((p4 &&& (2147483647 : Int32)) - (p4 &&& (2147483647 : Int32)) / (3 : Int32) * (3 : Int32))), .val (.ref b2), .val (.ref b3), .unset, .unset]) rfl ?_
      show Steps p.tables e below (T3.setTop (mkF m 24 #[.val (.long q0), .second, .val (.long q1), .second, .val (.long q2), .second, .val (.long q3), .second, .val (.int p4), .val (.int ((p4 &&& (2147483647 : Int32)) - (p4 &&& (2147483647 : Int32)) / (3 : Int32) * (3 : Int32))), .val (.ref b2), .val (.ref b3), .unset, .unset] [])) _
      refine XS.iconst X3.here hx rfl (hb hby at_24) ?_
      show Steps p.tables e below (T3.setTop (mkF m 25 #[.val (.long q0), .second, .val (.long q1), .second, .val (.long q2), .second, .val (.long q3), .second, .val (.int p4), .val (.int ((p4 &&& (2147483647 : Int32)) - (p4 &&& (2147483647 : Int32)) / (3 : Int32) * (3 : Int32))), .val (.ref b2), .val (.ref b3), .unset, .unset] [(.int (0 : Int32))])) _
      refine XS.istore X3.here hx rfl (hb hby at_25) rfl (l' := #[.val (.long q0), .second, .val (.long q1), .second, .val (.long q2), .second, .val (.long q3), .second, .val (.int p4), .val (.int ((p4 &&& (2147483647 : Int32)) - (p4 &&& (2147483647 : Int32)) / (3 : Int32) * (3 : Int32))), .val (.ref b2), .val (.ref b3), .val (.int (0 : Int32)), .unset]) rfl ?_
      show Steps p.tables e below (T3.setTop (mkF m 27 #[.val (.long q0), .second, .val (.long q1), .second, .val (.long q2), .second, .val (.long q3), .second, .val (.int p4), .val (.int ((p4 &&& (2147483647 : Int32)) - (p4 &&& (2147483647 : Int32)) / (3 : Int32) * (3 : Int32))), .val (.ref b2), .val (.ref b3), .val (.int (0 : Int32)), .unset] [])) _
      refine XS.goto X3.here hx rfl (pc0 := 27) (pc' := 112) rfl (hb hby at_27) (by decide) (by decide) ?_
      show Steps p.tables e below (T3.setTop (mkF m 112 #[.val (.long q0), .second, .val (.long q1), .second, .val (.long q2), .second, .val (.long q3), .second, .val (.int p4), .val (.int ((p4 &&& (2147483647 : Int32)) - (p4 &&& (2147483647 : Int32)) / (3 : Int32) * (3 : Int32))), .val (.ref b2), .val (.ref b3), .val (.int (0 : Int32)), .unset] [])) _
      refine XS.aload X3.here hx rfl (hb hby at_112) rfl rfl ?_
      show Steps p.tables e below (T3.setTop (mkF m 114 #[.val (.long q0), .second, .val (.long q1), .second, .val (.long q2), .second, .val (.long q3), .second, .val (.int p4), .val (.int ((p4 &&& (2147483647 : Int32)) - (p4 &&& (2147483647 : Int32)) / (3 : Int32) * (3 : Int32))), .val (.ref b2), .val (.ref b3), .val (.int (0 : Int32)), .unset] [(.ref b2)])) _
      refine XS.aload X3.here hx rfl (hb hby at_114) rfl rfl ?_
      exact kt
    obtain ⟨_, _, ⟨T4, L4, k4, n4⟩, -, X4, ⟨Lc4, hQ4, l4, y4, z4⟩, st4⟩ := Jvm.LawKit.callS X3 hx (y := (⟨"com/example/conceal/conceal/TransactionRemoval", "holding", "([J[J)I"⟩ : MethodName)) hown (mvT hZ (hw _ (List.mem_of_getElem? (i := 2) rfl))) (mvT hZ (hw _ (List.mem_of_getElem? (i := 3) rfl))) (mvT hZ (hw _ (List.mem_of_getElem? (i := 4) rfl))) (mvT hZ (hw _ (List.mem_of_getElem? (i := 5) rfl))) (by decide) (backOf (W := 0) (rm1n0 l Z a0 hw [] b2 b3  h3 n0 Ab2_3 Ab3_3) hZ (hw _ (List.mem_of_getElem? (i := 5) rfl)) (hw _ (List.mem_of_getElem? (i := 4) rfl)) (by decide) (by decide)) (g := (mkF m 116 #[.val (.long q0), .second, .val (.long q1), .second, .val (.long q2), .second, .val (.long q3), .second, .val (.int p4), .val (.int ((p4 &&& (2147483647 : Int32)) - (p4 &&& (2147483647 : Int32)) / (3 : Int32) * (3 : Int32))), .val (.ref b2), .val (.ref b3), .val (.int (0 : Int32)), .unset] [(.ref b3), (.ref b2)])) rfl (by rw [hml]; rfl) (argsL := [(.ref b2), (.ref b3)]) (rest := []) (lenOf pd1 rfl) rfl (by show 2 * 0 + _ ≤ _; exact Nat.le_of_eq rfl) (hb hby at_116) (fun _ _ => ⟨rfl, e3, (by decide : 2 + 0 ≤ _), (by decide : 0 + 0 ≤ _)⟩)
    dsimp only [Pt.U, Pt.locs, Pt.cells, Pt.slots] at X4 l4 y4 z4 st4 hQ4
    subst l4 y4 z4
    obtain ⟨rfl, Nq4, e4⟩ := hQ4
    have N4 := Fr.app N0 Nq4
    refine own_step (T' := T4) (f' := (mkF m 119 #[.val (.long q0), .second, .val (.long q1), .second, .val (.long q2), .second, .val (.long q3), .second, .val (.int p4), .val (.int ((p4 &&& (2147483647 : Int32)) - (p4 &&& (2147483647 : Int32)) / (3 : Int32) * (3 : Int32))), .val (.ref b2), .val (.ref b3), .val (.int (0 : Int32)), .unset] [(.int (f1n0_0 ))])) st4 ?_
    refine own_step (T' := T4) (f' := (mkF m 125 #[.val (.long q0), .second, .val (.long q1), .second, .val (.long q2), .second, .val (.long q3), .second, .val (.int p4), .val (.int ((p4 &&& (2147483647 : Int32)) - (p4 &&& (2147483647 : Int32)) / (3 : Int32) * (3 : Int32))), .val (.ref b2), .val (.ref b3), .val (.int (0 : Int32)), .val (.int (f1n0_0 ))] [(.int (0 : Int32)), (.int (f1n0_0 ))])) (fun t kt => ?_) ?_
    · show Steps p.tables e below (T4.setTop (mkF m 119 #[.val (.long q0), .second, .val (.long q1), .second, .val (.long q2), .second, .val (.long q3), .second, .val (.int p4), .val (.int ((p4 &&& (2147483647 : Int32)) - (p4 &&& (2147483647 : Int32)) / (3 : Int32) * (3 : Int32))), .val (.ref b2), .val (.ref b3), .val (.int (0 : Int32)), .unset] [(.int (f1n0_0 ))])) _
      refine XS.istore X4.here hx rfl (hb hby at_119) rfl (l' := #[.val (.long q0), .second, .val (.long q1), .second, .val (.long q2), .second, .val (.long q3), .second, .val (.int p4), .val (.int ((p4 &&& (2147483647 : Int32)) - (p4 &&& (2147483647 : Int32)) / (3 : Int32) * (3 : Int32))), .val (.ref b2), .val (.ref b3), .val (.int (0 : Int32)), .val (.int (f1n0_0 ))]) rfl ?_
      show Steps p.tables e below (T4.setTop (mkF m 121 #[.val (.long q0), .second, .val (.long q1), .second, .val (.long q2), .second, .val (.long q3), .second, .val (.int p4), .val (.int ((p4 &&& (2147483647 : Int32)) - (p4 &&& (2147483647 : Int32)) / (3 : Int32) * (3 : Int32))), .val (.ref b2), .val (.ref b3), .val (.int (0 : Int32)), .val (.int (f1n0_0 ))] [])) _
      refine XS.iload X4.here hx rfl (hb hby at_121) rfl ?_
      show Steps p.tables e below (T4.setTop (mkF m 123 #[.val (.long q0), .second, .val (.long q1), .second, .val (.long q2), .second, .val (.long q3), .second, .val (.int p4), .val (.int ((p4 &&& (2147483647 : Int32)) - (p4 &&& (2147483647 : Int32)) / (3 : Int32) * (3 : Int32))), .val (.ref b2), .val (.ref b3), .val (.int (0 : Int32)), .val (.int (f1n0_0 ))] [(.int (f1n0_0 ))])) _
      refine XS.iload X4.here hx rfl (hb hby at_123) rfl ?_
      exact kt
    by_cases hc125_5 : (f1n0_0 ) = (0 : Int32)
    · replace hr := hr.trans (if_pos hc125_5)
      refine own_step (T' := T4) (f' := (mkF m 128 #[.val (.long q0), .second, .val (.long q1), .second, .val (.long q2), .second, .val (.long q3), .second, .val (.int p4), .val (.int ((p4 &&& (2147483647 : Int32)) - (p4 &&& (2147483647 : Int32)) / (3 : Int32) * (3 : Int32))), .val (.ref b2), .val (.ref b3), .val (.int (0 : Int32)), .val (.int (f1n0_0 ))] [])) (fun t kt => ?_) ?_
      · show Steps p.tables e below (T4.setTop (mkF m 125 #[.val (.long q0), .second, .val (.long q1), .second, .val (.long q2), .second, .val (.long q3), .second, .val (.int p4), .val (.int ((p4 &&& (2147483647 : Int32)) - (p4 &&& (2147483647 : Int32)) / (3 : Int32) * (3 : Int32))), .val (.ref b2), .val (.ref b3), .val (.int (0 : Int32)), .val (.int (f1n0_0 ))] [(.int (0 : Int32)), (.int (f1n0_0 ))])) _
        refine XS.icmpNo X4.here hx rfl (hb hby at_125) rfl (teq hc125_5).2 kt
      refine own_step (T' := T4) (f' := (mkF m 133 #[.val (.long q0), .second, .val (.long q1), .second, .val (.long q2), .second, .val (.long q3), .second, .val (.int p4), .val (.int ((p4 &&& (2147483647 : Int32)) - (p4 &&& (2147483647 : Int32)) / (3 : Int32) * (3 : Int32))), .val (.ref b2), .val (.ref b3), .val (.int (0 : Int32)), .val (.int (f1n0_0 ))] [(.int (1 : Int32))])) (fun t kt => ?_) ?_
      · show Steps p.tables e below (T4.setTop (mkF m 128 #[.val (.long q0), .second, .val (.long q1), .second, .val (.long q2), .second, .val (.long q3), .second, .val (.int p4), .val (.int ((p4 &&& (2147483647 : Int32)) - (p4 &&& (2147483647 : Int32)) / (3 : Int32) * (3 : Int32))), .val (.ref b2), .val (.ref b3), .val (.int (0 : Int32)), .val (.int (f1n0_0 ))] [])) _
        refine XS.iconst X4.here hx rfl (hb hby at_128) ?_
        show Steps p.tables e below (T4.setTop (mkF m 129 #[.val (.long q0), .second, .val (.long q1), .second, .val (.long q2), .second, .val (.long q3), .second, .val (.int p4), .val (.int ((p4 &&& (2147483647 : Int32)) - (p4 &&& (2147483647 : Int32)) / (3 : Int32) * (3 : Int32))), .val (.ref b2), .val (.ref b3), .val (.int (0 : Int32)), .val (.int (f1n0_0 ))] [(.int (1 : Int32))])) _
        refine XS.goto X4.here hx rfl (pc0 := 129) (pc' := 133) rfl (hb hby at_129) (by decide) (by decide) ?_
        exact kt
      exact own_retZ X4 hx hret (by simp) hlk (hb hby at_133) (by decide) (by decide) ⟨congrArg (fun z => some (Value.int z)) hr.symm, N4⟩
    · replace hr := hr.trans (if_neg hc125_5)
      refine own_step (T' := T4) (f' := (mkF m 132 #[.val (.long q0), .second, .val (.long q1), .second, .val (.long q2), .second, .val (.long q3), .second, .val (.int p4), .val (.int ((p4 &&& (2147483647 : Int32)) - (p4 &&& (2147483647 : Int32)) / (3 : Int32) * (3 : Int32))), .val (.ref b2), .val (.ref b3), .val (.int (0 : Int32)), .val (.int (f1n0_0 ))] [])) (fun t kt => ?_) ?_
      · show Steps p.tables e below (T4.setTop (mkF m 125 #[.val (.long q0), .second, .val (.long q1), .second, .val (.long q2), .second, .val (.long q3), .second, .val (.int p4), .val (.int ((p4 &&& (2147483647 : Int32)) - (p4 &&& (2147483647 : Int32)) / (3 : Int32) * (3 : Int32))), .val (.ref b2), .val (.ref b3), .val (.int (0 : Int32)), .val (.int (f1n0_0 ))] [(.int (0 : Int32)), (.int (f1n0_0 ))])) _
        refine XS.icmpYes X4.here hx rfl (pc0 := 125) (pc' := 132) rfl (hb hby at_125) rfl (feq hc125_5).2 (by decide) (by decide) kt
      refine own_step (T' := T4) (f' := (mkF m 133 #[.val (.long q0), .second, .val (.long q1), .second, .val (.long q2), .second, .val (.long q3), .second, .val (.int p4), .val (.int ((p4 &&& (2147483647 : Int32)) - (p4 &&& (2147483647 : Int32)) / (3 : Int32) * (3 : Int32))), .val (.ref b2), .val (.ref b3), .val (.int (0 : Int32)), .val (.int (f1n0_0 ))] [(.int (0 : Int32))])) (fun t kt => ?_) ?_
      · show Steps p.tables e below (T4.setTop (mkF m 132 #[.val (.long q0), .second, .val (.long q1), .second, .val (.long q2), .second, .val (.long q3), .second, .val (.int p4), .val (.int ((p4 &&& (2147483647 : Int32)) - (p4 &&& (2147483647 : Int32)) / (3 : Int32) * (3 : Int32))), .val (.ref b2), .val (.ref b3), .val (.int (0 : Int32)), .val (.int (f1n0_0 ))] [])) _
        refine XS.iconst X4.here hx rfl (hb hby at_132) ?_
        exact kt
      exact own_retZ X4 hx hret (by simp) hlk (hb hby at_133) (by decide) (by decide) ⟨congrArg (fun z => some (Value.int z)) hr.symm, N4⟩
  · replace hr := hr.trans (if_neg hc11_1)
    refine own_step (T' := T0) (f' := (mkF m 30 #[.val (.long q0), .second, .val (.long q1), .second, .val (.long q2), .second, .val (.long q3), .second, .val (.int p4), .val (.int ((p4 &&& (2147483647 : Int32)) - (p4 &&& (2147483647 : Int32)) / (3 : Int32) * (3 : Int32))), .unset, .unset, .unset, .unset] [])) (fun t kt => ?_) ?_
    · show Steps p.tables e below (T0.setTop (mkF m 11 #[.val (.long q0), .second, .val (.long q1), .second, .val (.long q2), .second, .val (.long q3), .second, .val (.int p4), .val (.int ((p4 &&& (2147483647 : Int32)) - (p4 &&& (2147483647 : Int32)) / (3 : Int32) * (3 : Int32))), .unset, .unset, .unset, .unset] [(.int ((p4 &&& (2147483647 : Int32)) - (p4 &&& (2147483647 : Int32)) / (3 : Int32) * (3 : Int32)))])) _
      refine XS.ifYes X0.here hx rfl (pc0 := 11) (pc' := 30) rfl (hb hby at_11) rfl ((if0 _ _).trans (feq hc11_1).2) (by decide) (by decide) kt
    refine own_step (T' := T0) (f' := (mkF m 33 #[.val (.long q0), .second, .val (.long q1), .second, .val (.long q2), .second, .val (.long q3), .second, .val (.int p4), .val (.int ((p4 &&& (2147483647 : Int32)) - (p4 &&& (2147483647 : Int32)) / (3 : Int32) * (3 : Int32))), .unset, .unset, .unset, .unset] [(.int (1 : Int32)), (.int ((p4 &&& (2147483647 : Int32)) - (p4 &&& (2147483647 : Int32)) / (3 : Int32) * (3 : Int32)))])) (fun t kt => ?_) ?_
    · show Steps p.tables e below (T0.setTop (mkF m 30 #[.val (.long q0), .second, .val (.long q1), .second, .val (.long q2), .second, .val (.long q3), .second, .val (.int p4), .val (.int ((p4 &&& (2147483647 : Int32)) - (p4 &&& (2147483647 : Int32)) / (3 : Int32) * (3 : Int32))), .unset, .unset, .unset, .unset] [])) _
      refine XS.iload X0.here hx rfl (hb hby at_30) rfl ?_
      show Steps p.tables e below (T0.setTop (mkF m 32 #[.val (.long q0), .second, .val (.long q1), .second, .val (.long q2), .second, .val (.long q3), .second, .val (.int p4), .val (.int ((p4 &&& (2147483647 : Int32)) - (p4 &&& (2147483647 : Int32)) / (3 : Int32) * (3 : Int32))), .unset, .unset, .unset, .unset] [(.int ((p4 &&& (2147483647 : Int32)) - (p4 &&& (2147483647 : Int32)) / (3 : Int32) * (3 : Int32)))])) _
      refine XS.iconst X0.here hx rfl (hb hby at_32) ?_
      exact kt
    by_cases hc33_6 : ((p4 &&& (2147483647 : Int32)) - (p4 &&& (2147483647 : Int32)) / (3 : Int32) * (3 : Int32)) = (1 : Int32)
    · replace hr := hr.trans (if_pos hc33_6)
      refine own_step (T' := T0) (f' := (mkF m 36 #[.val (.long q0), .second, .val (.long q1), .second, .val (.long q2), .second, .val (.long q3), .second, .val (.int p4), .val (.int ((p4 &&& (2147483647 : Int32)) - (p4 &&& (2147483647 : Int32)) / (3 : Int32) * (3 : Int32))), .unset, .unset, .unset, .unset] [])) (fun t kt => ?_) ?_
      · show Steps p.tables e below (T0.setTop (mkF m 33 #[.val (.long q0), .second, .val (.long q1), .second, .val (.long q2), .second, .val (.long q3), .second, .val (.int p4), .val (.int ((p4 &&& (2147483647 : Int32)) - (p4 &&& (2147483647 : Int32)) / (3 : Int32) * (3 : Int32))), .unset, .unset, .unset, .unset] [(.int (1 : Int32)), (.int ((p4 &&& (2147483647 : Int32)) - (p4 &&& (2147483647 : Int32)) / (3 : Int32) * (3 : Int32)))])) _
        refine XS.icmpNo X0.here hx rfl (hb hby at_33) rfl (teq hc33_6).2 kt
      refine own_step (T' := T0) (f' := (mkF m 37 #[.val (.long q0), .second, .val (.long q1), .second, .val (.long q2), .second, .val (.long q3), .second, .val (.int p4), .val (.int ((p4 &&& (2147483647 : Int32)) - (p4 &&& (2147483647 : Int32)) / (3 : Int32) * (3 : Int32))), .unset, .unset, .unset, .unset] [(.int (1 : Int32))])) (fun t kt => ?_) ?_
      · show Steps p.tables e below (T0.setTop (mkF m 36 #[.val (.long q0), .second, .val (.long q1), .second, .val (.long q2), .second, .val (.long q3), .second, .val (.int p4), .val (.int ((p4 &&& (2147483647 : Int32)) - (p4 &&& (2147483647 : Int32)) / (3 : Int32) * (3 : Int32))), .unset, .unset, .unset, .unset] [])) _
        refine XS.iconst X0.here hx rfl (hb hby at_36) ?_
        exact kt
      obtain ⟨T7, h7, b7, X7, e7, Ex7, gb7, g7, Z7, Aq7, st7⟩ := own_new X0 hx hZ (aty := .long) (hw _ (List.mem_of_getElem? (i := 1) rfl)) e0 (g := (mkF m 37 #[.val (.long q0), .second, .val (.long q1), .second, .val (.long q2), .second, .val (.long q3), .second, .val (.int p4), .val (.int ((p4 &&& (2147483647 : Int32)) - (p4 &&& (2147483647 : Int32)) / (3 : Int32) * (3 : Int32))), .unset, .unset, .unset, .unset] [(.int (1 : Int32))])) rfl (hb hby at_37) rfl (by decide) (k := 1) (by decide) (by decide) (by decide) (by decide) Z0
      have Ab7_7 : own_A Z h7 b7 .long [(.long (0 : Int64))] := Aq7
      refine own_step (T' := T7) (f' := (mkF m 39 #[.val (.long q0), .second, .val (.long q1), .second, .val (.long q2), .second, .val (.long q3), .second, .val (.int p4), .val (.int ((p4 &&& (2147483647 : Int32)) - (p4 &&& (2147483647 : Int32)) / (3 : Int32) * (3 : Int32))), .unset, .unset, .unset, .unset] [(.ref b7)])) st7 ?_
      refine own_step (T' := T7) (f' := (mkF m 42 #[.val (.long q0), .second, .val (.long q1), .second, .val (.long q2), .second, .val (.long q3), .second, .val (.int p4), .val (.int ((p4 &&& (2147483647 : Int32)) - (p4 &&& (2147483647 : Int32)) / (3 : Int32) * (3 : Int32))), .unset, .unset, .unset, .unset] [(.long q0), (.int (0 : Int32)), (.ref b7), (.ref b7)])) (fun t kt => ?_) ?_
      · show Steps p.tables e below (T7.setTop (mkF m 39 #[.val (.long q0), .second, .val (.long q1), .second, .val (.long q2), .second, .val (.long q3), .second, .val (.int p4), .val (.int ((p4 &&& (2147483647 : Int32)) - (p4 &&& (2147483647 : Int32)) / (3 : Int32) * (3 : Int32))), .unset, .unset, .unset, .unset] [(.ref b7)])) _
        refine XS.dup X7.here hx rfl (hb hby at_39) rfl rfl ?_
        show Steps p.tables e below (T7.setTop (mkF m 40 #[.val (.long q0), .second, .val (.long q1), .second, .val (.long q2), .second, .val (.long q3), .second, .val (.int p4), .val (.int ((p4 &&& (2147483647 : Int32)) - (p4 &&& (2147483647 : Int32)) / (3 : Int32) * (3 : Int32))), .unset, .unset, .unset, .unset] [(.ref b7), (.ref b7)])) _
        refine XS.iconst X7.here hx rfl (hb hby at_40) ?_
        show Steps p.tables e below (T7.setTop (mkF m 41 #[.val (.long q0), .second, .val (.long q1), .second, .val (.long q2), .second, .val (.long q3), .second, .val (.int p4), .val (.int ((p4 &&& (2147483647 : Int32)) - (p4 &&& (2147483647 : Int32)) / (3 : Int32) * (3 : Int32))), .unset, .unset, .unset, .unset] [(.int (0 : Int32)), (.ref b7), (.ref b7)])) _
        refine XS.lloadN X7.here hx rfl (hb hby at_41) rfl ?_
        exact kt
      obtain ⟨T8, h8, Lq8, X8, N8, e8, W8, Z8, Aq8, st8⟩ := own_stJ X7 hx hZ e7 Ab7_7 (j := (0 : Int32)) (by decide) (k := 0) (by decide) (Nat.le_of_ble_eq_true rfl) N0 g7 Z7 (g := (mkF m 42 #[.val (.long q0), .second, .val (.long q1), .second, .val (.long q2), .second, .val (.long q3), .second, .val (.int p4), .val (.int ((p4 &&& (2147483647 : Int32)) - (p4 &&& (2147483647 : Int32)) / (3 : Int32) * (3 : Int32))), .unset, .unset, .unset, .unset] [(.long q0), (.int (0 : Int32)), (.ref b7), (.ref b7)])) rfl rfl (hb hby at_42)
      have Ab7_8 : own_A Z h8 b7 .long [(.long q0)] := Aq8
      refine own_step (T' := T8) (f' := (mkF m 43 #[.val (.long q0), .second, .val (.long q1), .second, .val (.long q2), .second, .val (.long q3), .second, .val (.int p4), .val (.int ((p4 &&& (2147483647 : Int32)) - (p4 &&& (2147483647 : Int32)) / (3 : Int32) * (3 : Int32))), .unset, .unset, .unset, .unset] [(.ref b7)])) st8 ?_
      refine own_step (T' := T8) (f' := (mkF m 46 #[.val (.long q0), .second, .val (.long q1), .second, .val (.long q2), .second, .val (.long q3), .second, .val (.int p4), .val (.int ((p4 &&& (2147483647 : Int32)) - (p4 &&& (2147483647 : Int32)) / (3 : Int32) * (3 : Int32))), .val (.ref b7), .unset, .unset, .unset] [(.int (1 : Int32))])) (fun t kt => ?_) ?_
      · show Steps p.tables e below (T8.setTop (mkF m 43 #[.val (.long q0), .second, .val (.long q1), .second, .val (.long q2), .second, .val (.long q3), .second, .val (.int p4), .val (.int ((p4 &&& (2147483647 : Int32)) - (p4 &&& (2147483647 : Int32)) / (3 : Int32) * (3 : Int32))), .unset, .unset, .unset, .unset] [(.ref b7)])) _
        refine XS.astore X8.here hx rfl (hb hby at_43) rfl rfl (l' := #[.val (.long q0), .second, .val (.long q1), .second, .val (.long q2), .second, .val (.long q3), .second, .val (.int p4), .val (.int ((p4 &&& (2147483647 : Int32)) - (p4 &&& (2147483647 : Int32)) / (3 : Int32) * (3 : Int32))), .val (.ref b7), .unset, .unset, .unset]) rfl ?_
        show Steps p.tables e below (T8.setTop (mkF m 45 #[.val (.long q0), .second, .val (.long q1), .second, .val (.long q2), .second, .val (.long q3), .second, .val (.int p4), .val (.int ((p4 &&& (2147483647 : Int32)) - (p4 &&& (2147483647 : Int32)) / (3 : Int32) * (3 : Int32))), .val (.ref b7), .unset, .unset, .unset] [])) _
        refine XS.iconst X8.here hx rfl (hb hby at_45) ?_
        exact kt
      obtain ⟨T9, h9, b9, X9, e9, Ex9, gb9, g9, Z9, Aq9, st9⟩ := own_new X8 hx hZ (aty := .long) (hw _ (List.mem_of_getElem? (i := 1) rfl)) e8 (g := (mkF m 46 #[.val (.long q0), .second, .val (.long q1), .second, .val (.long q2), .second, .val (.long q3), .second, .val (.int p4), .val (.int ((p4 &&& (2147483647 : Int32)) - (p4 &&& (2147483647 : Int32)) / (3 : Int32) * (3 : Int32))), .val (.ref b7), .unset, .unset, .unset] [(.int (1 : Int32))])) rfl (hb hby at_46) rfl (by decide) (k := 1) (by decide) (by decide) (by decide) (by decide) Z8
      have ne_b7_b9 : b7 ≠ b9 := Nat.ne_of_lt (gb9 ▸ Ab7_8.lt)
      have Ab7_9 := Ab7_8.ext Ex9
      have Ab9_9 : own_A Z h9 b9 .long [(.long (0 : Int64))] := Aq9
      refine own_step (T' := T9) (f' := (mkF m 48 #[.val (.long q0), .second, .val (.long q1), .second, .val (.long q2), .second, .val (.long q3), .second, .val (.int p4), .val (.int ((p4 &&& (2147483647 : Int32)) - (p4 &&& (2147483647 : Int32)) / (3 : Int32) * (3 : Int32))), .val (.ref b7), .unset, .unset, .unset] [(.ref b9)])) st9 ?_
      refine own_step (T' := T9) (f' := (mkF m 52 #[.val (.long q0), .second, .val (.long q1), .second, .val (.long q2), .second, .val (.long q3), .second, .val (.int p4), .val (.int ((p4 &&& (2147483647 : Int32)) - (p4 &&& (2147483647 : Int32)) / (3 : Int32) * (3 : Int32))), .val (.ref b7), .unset, .unset, .unset] [(.long q2), (.int (0 : Int32)), (.ref b9), (.ref b9)])) (fun t kt => ?_) ?_
      · show Steps p.tables e below (T9.setTop (mkF m 48 #[.val (.long q0), .second, .val (.long q1), .second, .val (.long q2), .second, .val (.long q3), .second, .val (.int p4), .val (.int ((p4 &&& (2147483647 : Int32)) - (p4 &&& (2147483647 : Int32)) / (3 : Int32) * (3 : Int32))), .val (.ref b7), .unset, .unset, .unset] [(.ref b9)])) _
        refine XS.dup X9.here hx rfl (hb hby at_48) rfl rfl ?_
        show Steps p.tables e below (T9.setTop (mkF m 49 #[.val (.long q0), .second, .val (.long q1), .second, .val (.long q2), .second, .val (.long q3), .second, .val (.int p4), .val (.int ((p4 &&& (2147483647 : Int32)) - (p4 &&& (2147483647 : Int32)) / (3 : Int32) * (3 : Int32))), .val (.ref b7), .unset, .unset, .unset] [(.ref b9), (.ref b9)])) _
        refine XS.iconst X9.here hx rfl (hb hby at_49) ?_
        show Steps p.tables e below (T9.setTop (mkF m 50 #[.val (.long q0), .second, .val (.long q1), .second, .val (.long q2), .second, .val (.long q3), .second, .val (.int p4), .val (.int ((p4 &&& (2147483647 : Int32)) - (p4 &&& (2147483647 : Int32)) / (3 : Int32) * (3 : Int32))), .val (.ref b7), .unset, .unset, .unset] [(.int (0 : Int32)), (.ref b9), (.ref b9)])) _
        refine XS.lload X9.here hx rfl (hb hby at_50) rfl ?_
        exact kt
      obtain ⟨T10, h10, Lq10, X10, N10, e10, W10, Z10, Aq10, st10⟩ := own_stJ X9 hx hZ e9 Ab9_9 (j := (0 : Int32)) (by decide) (k := 0) (by decide) (Nat.le_of_ble_eq_true rfl) N8 g9 Z9 (g := (mkF m 52 #[.val (.long q0), .second, .val (.long q1), .second, .val (.long q2), .second, .val (.long q3), .second, .val (.int p4), .val (.int ((p4 &&& (2147483647 : Int32)) - (p4 &&& (2147483647 : Int32)) / (3 : Int32) * (3 : Int32))), .val (.ref b7), .unset, .unset, .unset] [(.long q2), (.int (0 : Int32)), (.ref b9), (.ref b9)])) rfl rfl (hb hby at_52)
      have Ab7_10 := Ab7_9.other W10 ne_b7_b9
      have Ab9_10 : own_A Z h10 b9 .long [(.long q2)] := Aq10
      refine own_step (T' := T10) (f' := (mkF m 53 #[.val (.long q0), .second, .val (.long q1), .second, .val (.long q2), .second, .val (.long q3), .second, .val (.int p4), .val (.int ((p4 &&& (2147483647 : Int32)) - (p4 &&& (2147483647 : Int32)) / (3 : Int32) * (3 : Int32))), .val (.ref b7), .unset, .unset, .unset] [(.ref b9)])) st10 ?_
      refine own_step (T' := T10) (f' := (mkF m 59 #[.val (.long q0), .second, .val (.long q1), .second, .val (.long q2), .second, .val (.long q3), .second, .val (.int p4), .val (.int ((p4 &&& (2147483647 : Int32)) - (p4 &&& (2147483647 : Int32)) / (3 : Int32) * (3 : Int32))), .val (.ref b7), .val (.ref b9), .unset, .unset] [(.long (q0 &&& q2))])) (fun t kt => ?_) ?_
      · show Steps p.tables e below (T10.setTop (mkF m 53 #[.val (.long q0), .second, .val (.long q1), .second, .val (.long q2), .second, .val (.long q3), .second, .val (.int p4), .val (.int ((p4 &&& (2147483647 : Int32)) - (p4 &&& (2147483647 : Int32)) / (3 : Int32) * (3 : Int32))), .val (.ref b7), .unset, .unset, .unset] [(.ref b9)])) _
        refine XS.astore X10.here hx rfl (hb hby at_53) rfl rfl (l' := #[.val (.long q0), .second, .val (.long q1), .second, .val (.long q2), .second, .val (.long q3), .second, .val (.int p4), .val (.int ((p4 &&& (2147483647 : Int32)) - (p4 &&& (2147483647 : Int32)) / (3 : Int32) * (3 : Int32))), .val (.ref b7), .val (.ref b9), .unset, .unset]) rfl ?_
        show Steps p.tables e below (T10.setTop (mkF m 55 #[.val (.long q0), .second, .val (.long q1), .second, .val (.long q2), .second, .val (.long q3), .second, .val (.int p4), .val (.int ((p4 &&& (2147483647 : Int32)) - (p4 &&& (2147483647 : Int32)) / (3 : Int32) * (3 : Int32))), .val (.ref b7), .val (.ref b9), .unset, .unset] [])) _
        refine XS.lloadN X10.here hx rfl (hb hby at_55) rfl ?_
        show Steps p.tables e below (T10.setTop (mkF m 56 #[.val (.long q0), .second, .val (.long q1), .second, .val (.long q2), .second, .val (.long q3), .second, .val (.int p4), .val (.int ((p4 &&& (2147483647 : Int32)) - (p4 &&& (2147483647 : Int32)) / (3 : Int32) * (3 : Int32))), .val (.ref b7), .val (.ref b9), .unset, .unset] [(.long q0)])) _
        refine XS.lload X10.here hx rfl (hb hby at_56) rfl ?_
        show Steps p.tables e below (T10.setTop (mkF m 58 #[.val (.long q0), .second, .val (.long q1), .second, .val (.long q2), .second, .val (.long q3), .second, .val (.int p4), .val (.int ((p4 &&& (2147483647 : Int32)) - (p4 &&& (2147483647 : Int32)) / (3 : Int32) * (3 : Int32))), .val (.ref b7), .val (.ref b9), .unset, .unset] [(.long q2), (.long q0)])) _
        refine XS.land X10.here hx rfl (hb hby at_58) rfl ?_
        exact kt
      obtain ⟨_, _, ⟨T11, L11, k11, n11⟩, -, X11, ⟨Lc11, hQ11, l11, y11, z11⟩, st11⟩ := Jvm.LawKit.callS X10 hx (y := (⟨"com/example/conceal/conceal/TransactionRemovalHoldingPinLaw", "pop", "(J)I"⟩ : MethodName)) hown (mvT hZ (hw _ (List.mem_of_getElem? (i := 6) rfl))) (mvT hZ (hw _ (List.mem_of_getElem? (i := 7) rfl))) (mvT hZ (hw _ (List.mem_of_getElem? (i := 8) rfl))) (mvT hZ (hw _ (List.mem_of_getElem? (i := 9) rfl))) (by decide) (backOf (W := 0) (rm2 l Z a0 hw [] (q0 &&& q2)  h10 n0 ) hZ (hw _ (List.mem_of_getElem? (i := 9) rfl)) (hw _ (List.mem_of_getElem? (i := 8) rfl)) (by decide) (by decide)) (g := (mkF m 59 #[.val (.long q0), .second, .val (.long q1), .second, .val (.long q2), .second, .val (.long q3), .second, .val (.int p4), .val (.int ((p4 &&& (2147483647 : Int32)) - (p4 &&& (2147483647 : Int32)) / (3 : Int32) * (3 : Int32))), .val (.ref b7), .val (.ref b9), .unset, .unset] [(.long (q0 &&& q2))])) rfl (by rw [hml]; rfl) (argsL := [(.long (q0 &&& q2))]) (rest := []) (lenOf pd2 rfl) rfl (by show 2 * 0 + _ ≤ _; exact Nat.le_of_eq rfl) (hb hby at_59) (fun _ _ => ⟨rfl, e10, (by decide : 2 + 0 ≤ _), (by decide : 2 + 0 ≤ _)⟩)
      dsimp only [Pt.U, Pt.locs, Pt.cells, Pt.slots] at X11 l11 y11 z11 st11 hQ11
      subst l11 y11 z11
      obtain ⟨rfl, Nq11, e11⟩ := hQ11
      have N11 := Fr.app N10 Nq11
      refine own_step (T' := T11) (f' := (mkF m 62 #[.val (.long q0), .second, .val (.long q1), .second, .val (.long q2), .second, .val (.long q3), .second, .val (.int p4), .val (.int ((p4 &&& (2147483647 : Int32)) - (p4 &&& (2147483647 : Int32)) / (3 : Int32) * (3 : Int32))), .val (.ref b7), .val (.ref b9), .unset, .unset] [(.int (f2_0 (q0 &&& q2)))])) st11 ?_
      refine own_step (T' := T11) (f' := (mkF m 116 #[.val (.long q0), .second, .val (.long q1), .second, .val (.long q2), .second, .val (.long q3), .second, .val (.int p4), .val (.int ((p4 &&& (2147483647 : Int32)) - (p4 &&& (2147483647 : Int32)) / (3 : Int32) * (3 : Int32))), .val (.ref b7), .val (.ref b9), .val (.int (f2_0 (q0 &&& q2))), .unset] [(.ref b9), (.ref b7)])) (fun t kt => ?_) ?_
      · show Steps p.tables e below (T11.setTop (mkF m 62 #[.val (.long q0), .second, .val (.long q1), .second, .val (.long q2), .second, .val (.long q3), .second, .val (.int p4), .val (.int ((p4 &&& (2147483647 : Int32)) - (p4 &&& (2147483647 : Int32)) / (3 : Int32) * (3 : Int32))), .val (.ref b7), .val (.ref b9), .unset, .unset] [(.int (f2_0 (q0 &&& q2)))])) _
        refine XS.istore X11.here hx rfl (hb hby at_62) rfl (l' := #[.val (.long q0), .second, .val (.long q1), .second, .val (.long q2), .second, .val (.long q3), .second, .val (.int p4), .val (.int ((p4 &&& (2147483647 : Int32)) - (p4 &&& (2147483647 : Int32)) / (3 : Int32) * (3 : Int32))), .val (.ref b7), .val (.ref b9), .val (.int (f2_0 (q0 &&& q2))), .unset]) rfl ?_
        show Steps p.tables e below (T11.setTop (mkF m 64 #[.val (.long q0), .second, .val (.long q1), .second, .val (.long q2), .second, .val (.long q3), .second, .val (.int p4), .val (.int ((p4 &&& (2147483647 : Int32)) - (p4 &&& (2147483647 : Int32)) / (3 : Int32) * (3 : Int32))), .val (.ref b7), .val (.ref b9), .val (.int (f2_0 (q0 &&& q2))), .unset] [])) _
        refine XS.goto X11.here hx rfl (pc0 := 64) (pc' := 112) rfl (hb hby at_64) (by decide) (by decide) ?_
        show Steps p.tables e below (T11.setTop (mkF m 112 #[.val (.long q0), .second, .val (.long q1), .second, .val (.long q2), .second, .val (.long q3), .second, .val (.int p4), .val (.int ((p4 &&& (2147483647 : Int32)) - (p4 &&& (2147483647 : Int32)) / (3 : Int32) * (3 : Int32))), .val (.ref b7), .val (.ref b9), .val (.int (f2_0 (q0 &&& q2))), .unset] [])) _
        refine XS.aload X11.here hx rfl (hb hby at_112) rfl rfl ?_
        show Steps p.tables e below (T11.setTop (mkF m 114 #[.val (.long q0), .second, .val (.long q1), .second, .val (.long q2), .second, .val (.long q3), .second, .val (.int p4), .val (.int ((p4 &&& (2147483647 : Int32)) - (p4 &&& (2147483647 : Int32)) / (3 : Int32) * (3 : Int32))), .val (.ref b7), .val (.ref b9), .val (.int (f2_0 (q0 &&& q2))), .unset] [(.ref b7)])) _
        refine XS.aload X11.here hx rfl (hb hby at_114) rfl rfl ?_
        exact kt
      obtain ⟨_, _, ⟨T12, L12, k12, n12⟩, -, X12, ⟨Lc12, hQ12, l12, y12, z12⟩, st12⟩ := Jvm.LawKit.callS X11 hx (y := (⟨"com/example/conceal/conceal/TransactionRemoval", "holding", "([J[J)I"⟩ : MethodName)) hown (mvT hZ (hw _ (List.mem_of_getElem? (i := 2) rfl))) (mvT hZ (hw _ (List.mem_of_getElem? (i := 3) rfl))) (mvT hZ (hw _ (List.mem_of_getElem? (i := 4) rfl))) (mvT hZ (hw _ (List.mem_of_getElem? (i := 5) rfl))) (by decide) (backOf (W := 0) (rm1n1 l Z a0 hw [] b7 b9 q0 q2 h10 n0 Ab7_10 Ab9_10) hZ (hw _ (List.mem_of_getElem? (i := 5) rfl)) (hw _ (List.mem_of_getElem? (i := 4) rfl)) (by decide) (by decide)) (g := (mkF m 116 #[.val (.long q0), .second, .val (.long q1), .second, .val (.long q2), .second, .val (.long q3), .second, .val (.int p4), .val (.int ((p4 &&& (2147483647 : Int32)) - (p4 &&& (2147483647 : Int32)) / (3 : Int32) * (3 : Int32))), .val (.ref b7), .val (.ref b9), .val (.int (f2_0 (q0 &&& q2))), .unset] [(.ref b9), (.ref b7)])) rfl (by rw [hml]; rfl) (argsL := [(.ref b7), (.ref b9)]) (rest := []) (lenOf pd1 rfl) rfl (by show 2 * 0 + _ ≤ _; exact Nat.le_of_eq rfl) (hb hby at_116) (fun _ _ => ⟨rfl, e11, (by decide : 2 + 0 ≤ _), (by decide : 2 + 0 ≤ _)⟩)
      dsimp only [Pt.U, Pt.locs, Pt.cells, Pt.slots] at X12 l12 y12 z12 st12 hQ12
      subst l12 y12 z12
      obtain ⟨rfl, Nq12, e12⟩ := hQ12
      have N12 := Fr.app N11 Nq12
      refine own_step (T' := T12) (f' := (mkF m 119 #[.val (.long q0), .second, .val (.long q1), .second, .val (.long q2), .second, .val (.long q3), .second, .val (.int p4), .val (.int ((p4 &&& (2147483647 : Int32)) - (p4 &&& (2147483647 : Int32)) / (3 : Int32) * (3 : Int32))), .val (.ref b7), .val (.ref b9), .val (.int (f2_0 (q0 &&& q2))), .unset] [(.int (f1n1_0 q0 q2))])) st12 ?_
      refine own_step (T' := T12) (f' := (mkF m 125 #[.val (.long q0), .second, .val (.long q1), .second, .val (.long q2), .second, .val (.long q3), .second, .val (.int p4), .val (.int ((p4 &&& (2147483647 : Int32)) - (p4 &&& (2147483647 : Int32)) / (3 : Int32) * (3 : Int32))), .val (.ref b7), .val (.ref b9), .val (.int (f2_0 (q0 &&& q2))), .val (.int (f1n1_0 q0 q2))] [(.int (f2_0 (q0 &&& q2))), (.int (f1n1_0 q0 q2))])) (fun t kt => ?_) ?_
      · show Steps p.tables e below (T12.setTop (mkF m 119 #[.val (.long q0), .second, .val (.long q1), .second, .val (.long q2), .second, .val (.long q3), .second, .val (.int p4), .val (.int ((p4 &&& (2147483647 : Int32)) - (p4 &&& (2147483647 : Int32)) / (3 : Int32) * (3 : Int32))), .val (.ref b7), .val (.ref b9), .val (.int (f2_0 (q0 &&& q2))), .unset] [(.int (f1n1_0 q0 q2))])) _
        refine XS.istore X12.here hx rfl (hb hby at_119) rfl (l' := #[.val (.long q0), .second, .val (.long q1), .second, .val (.long q2), .second, .val (.long q3), .second, .val (.int p4), .val (.int ((p4 &&& (2147483647 : Int32)) - (p4 &&& (2147483647 : Int32)) / (3 : Int32) * (3 : Int32))), .val (.ref b7), .val (.ref b9), .val (.int (f2_0 (q0 &&& q2))), .val (.int (f1n1_0 q0 q2))]) rfl ?_
        show Steps p.tables e below (T12.setTop (mkF m 121 #[.val (.long q0), .second, .val (.long q1), .second, .val (.long q2), .second, .val (.long q3), .second, .val (.int p4), .val (.int ((p4 &&& (2147483647 : Int32)) - (p4 &&& (2147483647 : Int32)) / (3 : Int32) * (3 : Int32))), .val (.ref b7), .val (.ref b9), .val (.int (f2_0 (q0 &&& q2))), .val (.int (f1n1_0 q0 q2))] [])) _
        refine XS.iload X12.here hx rfl (hb hby at_121) rfl ?_
        show Steps p.tables e below (T12.setTop (mkF m 123 #[.val (.long q0), .second, .val (.long q1), .second, .val (.long q2), .second, .val (.long q3), .second, .val (.int p4), .val (.int ((p4 &&& (2147483647 : Int32)) - (p4 &&& (2147483647 : Int32)) / (3 : Int32) * (3 : Int32))), .val (.ref b7), .val (.ref b9), .val (.int (f2_0 (q0 &&& q2))), .val (.int (f1n1_0 q0 q2))] [(.int (f1n1_0 q0 q2))])) _
        refine XS.iload X12.here hx rfl (hb hby at_123) rfl ?_
        exact kt
      by_cases hc125_13 : (f1n1_0 q0 q2) = (f2_0 (q0 &&& q2))
      · replace hr := hr.trans (if_pos hc125_13)
        refine own_step (T' := T12) (f' := (mkF m 128 #[.val (.long q0), .second, .val (.long q1), .second, .val (.long q2), .second, .val (.long q3), .second, .val (.int p4), .val (.int ((p4 &&& (2147483647 : Int32)) - (p4 &&& (2147483647 : Int32)) / (3 : Int32) * (3 : Int32))), .val (.ref b7), .val (.ref b9), .val (.int (f2_0 (q0 &&& q2))), .val (.int (f1n1_0 q0 q2))] [])) (fun t kt => ?_) ?_
        · show Steps p.tables e below (T12.setTop (mkF m 125 #[.val (.long q0), .second, .val (.long q1), .second, .val (.long q2), .second, .val (.long q3), .second, .val (.int p4), .val (.int ((p4 &&& (2147483647 : Int32)) - (p4 &&& (2147483647 : Int32)) / (3 : Int32) * (3 : Int32))), .val (.ref b7), .val (.ref b9), .val (.int (f2_0 (q0 &&& q2))), .val (.int (f1n1_0 q0 q2))] [(.int (f2_0 (q0 &&& q2))), (.int (f1n1_0 q0 q2))])) _
          refine XS.icmpNo X12.here hx rfl (hb hby at_125) rfl (teq hc125_13).2 kt
        refine own_step (T' := T12) (f' := (mkF m 133 #[.val (.long q0), .second, .val (.long q1), .second, .val (.long q2), .second, .val (.long q3), .second, .val (.int p4), .val (.int ((p4 &&& (2147483647 : Int32)) - (p4 &&& (2147483647 : Int32)) / (3 : Int32) * (3 : Int32))), .val (.ref b7), .val (.ref b9), .val (.int (f2_0 (q0 &&& q2))), .val (.int (f1n1_0 q0 q2))] [(.int (1 : Int32))])) (fun t kt => ?_) ?_
        · show Steps p.tables e below (T12.setTop (mkF m 128 #[.val (.long q0), .second, .val (.long q1), .second, .val (.long q2), .second, .val (.long q3), .second, .val (.int p4), .val (.int ((p4 &&& (2147483647 : Int32)) - (p4 &&& (2147483647 : Int32)) / (3 : Int32) * (3 : Int32))), .val (.ref b7), .val (.ref b9), .val (.int (f2_0 (q0 &&& q2))), .val (.int (f1n1_0 q0 q2))] [])) _
          refine XS.iconst X12.here hx rfl (hb hby at_128) ?_
          show Steps p.tables e below (T12.setTop (mkF m 129 #[.val (.long q0), .second, .val (.long q1), .second, .val (.long q2), .second, .val (.long q3), .second, .val (.int p4), .val (.int ((p4 &&& (2147483647 : Int32)) - (p4 &&& (2147483647 : Int32)) / (3 : Int32) * (3 : Int32))), .val (.ref b7), .val (.ref b9), .val (.int (f2_0 (q0 &&& q2))), .val (.int (f1n1_0 q0 q2))] [(.int (1 : Int32))])) _
          refine XS.goto X12.here hx rfl (pc0 := 129) (pc' := 133) rfl (hb hby at_129) (by decide) (by decide) ?_
          exact kt
        exact own_retZ X12 hx hret (by simp) hlk (hb hby at_133) (by decide) (by decide) ⟨congrArg (fun z => some (Value.int z)) hr.symm, N12⟩
      · replace hr := hr.trans (if_neg hc125_13)
        refine own_step (T' := T12) (f' := (mkF m 132 #[.val (.long q0), .second, .val (.long q1), .second, .val (.long q2), .second, .val (.long q3), .second, .val (.int p4), .val (.int ((p4 &&& (2147483647 : Int32)) - (p4 &&& (2147483647 : Int32)) / (3 : Int32) * (3 : Int32))), .val (.ref b7), .val (.ref b9), .val (.int (f2_0 (q0 &&& q2))), .val (.int (f1n1_0 q0 q2))] [])) (fun t kt => ?_) ?_
        · show Steps p.tables e below (T12.setTop (mkF m 125 #[.val (.long q0), .second, .val (.long q1), .second, .val (.long q2), .second, .val (.long q3), .second, .val (.int p4), .val (.int ((p4 &&& (2147483647 : Int32)) - (p4 &&& (2147483647 : Int32)) / (3 : Int32) * (3 : Int32))), .val (.ref b7), .val (.ref b9), .val (.int (f2_0 (q0 &&& q2))), .val (.int (f1n1_0 q0 q2))] [(.int (f2_0 (q0 &&& q2))), (.int (f1n1_0 q0 q2))])) _
          refine XS.icmpYes X12.here hx rfl (pc0 := 125) (pc' := 132) rfl (hb hby at_125) rfl (feq hc125_13).2 (by decide) (by decide) kt
        refine own_step (T' := T12) (f' := (mkF m 133 #[.val (.long q0), .second, .val (.long q1), .second, .val (.long q2), .second, .val (.long q3), .second, .val (.int p4), .val (.int ((p4 &&& (2147483647 : Int32)) - (p4 &&& (2147483647 : Int32)) / (3 : Int32) * (3 : Int32))), .val (.ref b7), .val (.ref b9), .val (.int (f2_0 (q0 &&& q2))), .val (.int (f1n1_0 q0 q2))] [(.int (0 : Int32))])) (fun t kt => ?_) ?_
        · show Steps p.tables e below (T12.setTop (mkF m 132 #[.val (.long q0), .second, .val (.long q1), .second, .val (.long q2), .second, .val (.long q3), .second, .val (.int p4), .val (.int ((p4 &&& (2147483647 : Int32)) - (p4 &&& (2147483647 : Int32)) / (3 : Int32) * (3 : Int32))), .val (.ref b7), .val (.ref b9), .val (.int (f2_0 (q0 &&& q2))), .val (.int (f1n1_0 q0 q2))] [])) _
          refine XS.iconst X12.here hx rfl (hb hby at_132) ?_
          exact kt
        exact own_retZ X12 hx hret (by simp) hlk (hb hby at_133) (by decide) (by decide) ⟨congrArg (fun z => some (Value.int z)) hr.symm, N12⟩
    · replace hr := hr.trans (if_neg hc33_6)
      refine own_step (T' := T0) (f' := (mkF m 67 #[.val (.long q0), .second, .val (.long q1), .second, .val (.long q2), .second, .val (.long q3), .second, .val (.int p4), .val (.int ((p4 &&& (2147483647 : Int32)) - (p4 &&& (2147483647 : Int32)) / (3 : Int32) * (3 : Int32))), .unset, .unset, .unset, .unset] [])) (fun t kt => ?_) ?_
      · show Steps p.tables e below (T0.setTop (mkF m 33 #[.val (.long q0), .second, .val (.long q1), .second, .val (.long q2), .second, .val (.long q3), .second, .val (.int p4), .val (.int ((p4 &&& (2147483647 : Int32)) - (p4 &&& (2147483647 : Int32)) / (3 : Int32) * (3 : Int32))), .unset, .unset, .unset, .unset] [(.int (1 : Int32)), (.int ((p4 &&& (2147483647 : Int32)) - (p4 &&& (2147483647 : Int32)) / (3 : Int32) * (3 : Int32)))])) _
        refine XS.icmpYes X0.here hx rfl (pc0 := 33) (pc' := 67) rfl (hb hby at_33) rfl (feq hc33_6).2 (by decide) (by decide) kt
      refine own_step (T' := T0) (f' := (mkF m 68 #[.val (.long q0), .second, .val (.long q1), .second, .val (.long q2), .second, .val (.long q3), .second, .val (.int p4), .val (.int ((p4 &&& (2147483647 : Int32)) - (p4 &&& (2147483647 : Int32)) / (3 : Int32) * (3 : Int32))), .unset, .unset, .unset, .unset] [(.int (2 : Int32))])) (fun t kt => ?_) ?_
      · show Steps p.tables e below (T0.setTop (mkF m 67 #[.val (.long q0), .second, .val (.long q1), .second, .val (.long q2), .second, .val (.long q3), .second, .val (.int p4), .val (.int ((p4 &&& (2147483647 : Int32)) - (p4 &&& (2147483647 : Int32)) / (3 : Int32) * (3 : Int32))), .unset, .unset, .unset, .unset] [])) _
        refine XS.iconst X0.here hx rfl (hb hby at_67) ?_
        exact kt
      obtain ⟨T14, h14, b14, X14, e14, Ex14, gb14, g14, Z14, Aq14, st14⟩ := own_new X0 hx hZ (aty := .long) (hw _ (List.mem_of_getElem? (i := 1) rfl)) e0 (g := (mkF m 68 #[.val (.long q0), .second, .val (.long q1), .second, .val (.long q2), .second, .val (.long q3), .second, .val (.int p4), .val (.int ((p4 &&& (2147483647 : Int32)) - (p4 &&& (2147483647 : Int32)) / (3 : Int32) * (3 : Int32))), .unset, .unset, .unset, .unset] [(.int (2 : Int32))])) rfl (hb hby at_68) rfl (by decide) (k := 2) (by decide) (by decide) (by decide) (by decide) Z0
      have Ab14_14 : own_A Z h14 b14 .long [(.long (0 : Int64)), (.long (0 : Int64))] := Aq14
      refine own_step (T' := T14) (f' := (mkF m 70 #[.val (.long q0), .second, .val (.long q1), .second, .val (.long q2), .second, .val (.long q3), .second, .val (.int p4), .val (.int ((p4 &&& (2147483647 : Int32)) - (p4 &&& (2147483647 : Int32)) / (3 : Int32) * (3 : Int32))), .unset, .unset, .unset, .unset] [(.ref b14)])) st14 ?_
      refine own_step (T' := T14) (f' := (mkF m 73 #[.val (.long q0), .second, .val (.long q1), .second, .val (.long q2), .second, .val (.long q3), .second, .val (.int p4), .val (.int ((p4 &&& (2147483647 : Int32)) - (p4 &&& (2147483647 : Int32)) / (3 : Int32) * (3 : Int32))), .unset, .unset, .unset, .unset] [(.long q0), (.int (0 : Int32)), (.ref b14), (.ref b14)])) (fun t kt => ?_) ?_
      · show Steps p.tables e below (T14.setTop (mkF m 70 #[.val (.long q0), .second, .val (.long q1), .second, .val (.long q2), .second, .val (.long q3), .second, .val (.int p4), .val (.int ((p4 &&& (2147483647 : Int32)) - (p4 &&& (2147483647 : Int32)) / (3 : Int32) * (3 : Int32))), .unset, .unset, .unset, .unset] [(.ref b14)])) _
        refine XS.dup X14.here hx rfl (hb hby at_70) rfl rfl ?_
        show Steps p.tables e below (T14.setTop (mkF m 71 #[.val (.long q0), .second, .val (.long q1), .second, .val (.long q2), .second, .val (.long q3), .second, .val (.int p4), .val (.int ((p4 &&& (2147483647 : Int32)) - (p4 &&& (2147483647 : Int32)) / (3 : Int32) * (3 : Int32))), .unset, .unset, .unset, .unset] [(.ref b14), (.ref b14)])) _
        refine XS.iconst X14.here hx rfl (hb hby at_71) ?_
        show Steps p.tables e below (T14.setTop (mkF m 72 #[.val (.long q0), .second, .val (.long q1), .second, .val (.long q2), .second, .val (.long q3), .second, .val (.int p4), .val (.int ((p4 &&& (2147483647 : Int32)) - (p4 &&& (2147483647 : Int32)) / (3 : Int32) * (3 : Int32))), .unset, .unset, .unset, .unset] [(.int (0 : Int32)), (.ref b14), (.ref b14)])) _
        refine XS.lloadN X14.here hx rfl (hb hby at_72) rfl ?_
        exact kt
      obtain ⟨T15, h15, Lq15, X15, N15, e15, W15, Z15, Aq15, st15⟩ := own_stJ X14 hx hZ e14 Ab14_14 (j := (0 : Int32)) (by decide) (k := 0) (by decide) (Nat.le_of_ble_eq_true rfl) N0 g14 Z14 (g := (mkF m 73 #[.val (.long q0), .second, .val (.long q1), .second, .val (.long q2), .second, .val (.long q3), .second, .val (.int p4), .val (.int ((p4 &&& (2147483647 : Int32)) - (p4 &&& (2147483647 : Int32)) / (3 : Int32) * (3 : Int32))), .unset, .unset, .unset, .unset] [(.long q0), (.int (0 : Int32)), (.ref b14), (.ref b14)])) rfl rfl (hb hby at_73)
      have Ab14_15 : own_A Z h15 b14 .long [(.long q0), (.long (0 : Int64))] := Aq15
      refine own_step (T' := T15) (f' := (mkF m 74 #[.val (.long q0), .second, .val (.long q1), .second, .val (.long q2), .second, .val (.long q3), .second, .val (.int p4), .val (.int ((p4 &&& (2147483647 : Int32)) - (p4 &&& (2147483647 : Int32)) / (3 : Int32) * (3 : Int32))), .unset, .unset, .unset, .unset] [(.ref b14)])) st15 ?_
      refine own_step (T' := T15) (f' := (mkF m 77 #[.val (.long q0), .second, .val (.long q1), .second, .val (.long q2), .second, .val (.long q3), .second, .val (.int p4), .val (.int ((p4 &&& (2147483647 : Int32)) - (p4 &&& (2147483647 : Int32)) / (3 : Int32) * (3 : Int32))), .unset, .unset, .unset, .unset] [(.long q1), (.int (1 : Int32)), (.ref b14), (.ref b14)])) (fun t kt => ?_) ?_
      · show Steps p.tables e below (T15.setTop (mkF m 74 #[.val (.long q0), .second, .val (.long q1), .second, .val (.long q2), .second, .val (.long q3), .second, .val (.int p4), .val (.int ((p4 &&& (2147483647 : Int32)) - (p4 &&& (2147483647 : Int32)) / (3 : Int32) * (3 : Int32))), .unset, .unset, .unset, .unset] [(.ref b14)])) _
        refine XS.dup X15.here hx rfl (hb hby at_74) rfl rfl ?_
        show Steps p.tables e below (T15.setTop (mkF m 75 #[.val (.long q0), .second, .val (.long q1), .second, .val (.long q2), .second, .val (.long q3), .second, .val (.int p4), .val (.int ((p4 &&& (2147483647 : Int32)) - (p4 &&& (2147483647 : Int32)) / (3 : Int32) * (3 : Int32))), .unset, .unset, .unset, .unset] [(.ref b14), (.ref b14)])) _
        refine XS.iconst X15.here hx rfl (hb hby at_75) ?_
        show Steps p.tables e below (T15.setTop (mkF m 76 #[.val (.long q0), .second, .val (.long q1), .second, .val (.long q2), .second, .val (.long q3), .second, .val (.int p4), .val (.int ((p4 &&& (2147483647 : Int32)) - (p4 &&& (2147483647 : Int32)) / (3 : Int32) * (3 : Int32))), .unset, .unset, .unset, .unset] [(.int (1 : Int32)), (.ref b14), (.ref b14)])) _
        refine XS.lloadN X15.here hx rfl (hb hby at_76) rfl ?_
        exact kt
      obtain ⟨T16, h16, Lq16, X16, N16, e16, W16, Z16, Aq16, st16⟩ := own_stJ X15 hx hZ e15 Ab14_15 (j := (1 : Int32)) (by decide) (k := 1) (by decide) (Nat.le_of_ble_eq_true rfl) N15 g14 Z15 (g := (mkF m 77 #[.val (.long q0), .second, .val (.long q1), .second, .val (.long q2), .second, .val (.long q3), .second, .val (.int p4), .val (.int ((p4 &&& (2147483647 : Int32)) - (p4 &&& (2147483647 : Int32)) / (3 : Int32) * (3 : Int32))), .unset, .unset, .unset, .unset] [(.long q1), (.int (1 : Int32)), (.ref b14), (.ref b14)])) rfl rfl (hb hby at_77)
      have Ab14_16 : own_A Z h16 b14 .long [(.long q0), (.long q1)] := Aq16
      refine own_step (T' := T16) (f' := (mkF m 78 #[.val (.long q0), .second, .val (.long q1), .second, .val (.long q2), .second, .val (.long q3), .second, .val (.int p4), .val (.int ((p4 &&& (2147483647 : Int32)) - (p4 &&& (2147483647 : Int32)) / (3 : Int32) * (3 : Int32))), .unset, .unset, .unset, .unset] [(.ref b14)])) st16 ?_
      refine own_step (T' := T16) (f' := (mkF m 81 #[.val (.long q0), .second, .val (.long q1), .second, .val (.long q2), .second, .val (.long q3), .second, .val (.int p4), .val (.int ((p4 &&& (2147483647 : Int32)) - (p4 &&& (2147483647 : Int32)) / (3 : Int32) * (3 : Int32))), .val (.ref b14), .unset, .unset, .unset] [(.int (2 : Int32))])) (fun t kt => ?_) ?_
      · show Steps p.tables e below (T16.setTop (mkF m 78 #[.val (.long q0), .second, .val (.long q1), .second, .val (.long q2), .second, .val (.long q3), .second, .val (.int p4), .val (.int ((p4 &&& (2147483647 : Int32)) - (p4 &&& (2147483647 : Int32)) / (3 : Int32) * (3 : Int32))), .unset, .unset, .unset, .unset] [(.ref b14)])) _
        refine XS.astore X16.here hx rfl (hb hby at_78) rfl rfl (l' := #[.val (.long q0), .second, .val (.long q1), .second, .val (.long q2), .second, .val (.long q3), .second, .val (.int p4), .val (.int ((p4 &&& (2147483647 : Int32)) - (p4 &&& (2147483647 : Int32)) / (3 : Int32) * (3 : Int32))), .val (.ref b14), .unset, .unset, .unset]) rfl ?_
        show Steps p.tables e below (T16.setTop (mkF m 80 #[.val (.long q0), .second, .val (.long q1), .second, .val (.long q2), .second, .val (.long q3), .second, .val (.int p4), .val (.int ((p4 &&& (2147483647 : Int32)) - (p4 &&& (2147483647 : Int32)) / (3 : Int32) * (3 : Int32))), .val (.ref b14), .unset, .unset, .unset] [])) _
        refine XS.iconst X16.here hx rfl (hb hby at_80) ?_
        exact kt
      obtain ⟨T17, h17, b17, X17, e17, Ex17, gb17, g17, Z17, Aq17, st17⟩ := own_new X16 hx hZ (aty := .long) (hw _ (List.mem_of_getElem? (i := 1) rfl)) e16 (g := (mkF m 81 #[.val (.long q0), .second, .val (.long q1), .second, .val (.long q2), .second, .val (.long q3), .second, .val (.int p4), .val (.int ((p4 &&& (2147483647 : Int32)) - (p4 &&& (2147483647 : Int32)) / (3 : Int32) * (3 : Int32))), .val (.ref b14), .unset, .unset, .unset] [(.int (2 : Int32))])) rfl (hb hby at_81) rfl (by decide) (k := 2) (by decide) (by decide) (by decide) (by decide) Z16
      have ne_b14_b17 : b14 ≠ b17 := Nat.ne_of_lt (gb17 ▸ Ab14_16.lt)
      have Ab14_17 := Ab14_16.ext Ex17
      have Ab17_17 : own_A Z h17 b17 .long [(.long (0 : Int64)), (.long (0 : Int64))] := Aq17
      refine own_step (T' := T17) (f' := (mkF m 83 #[.val (.long q0), .second, .val (.long q1), .second, .val (.long q2), .second, .val (.long q3), .second, .val (.int p4), .val (.int ((p4 &&& (2147483647 : Int32)) - (p4 &&& (2147483647 : Int32)) / (3 : Int32) * (3 : Int32))), .val (.ref b14), .unset, .unset, .unset] [(.ref b17)])) st17 ?_
      refine own_step (T' := T17) (f' := (mkF m 87 #[.val (.long q0), .second, .val (.long q1), .second, .val (.long q2), .second, .val (.long q3), .second, .val (.int p4), .val (.int ((p4 &&& (2147483647 : Int32)) - (p4 &&& (2147483647 : Int32)) / (3 : Int32) * (3 : Int32))), .val (.ref b14), .unset, .unset, .unset] [(.long q2), (.int (0 : Int32)), (.ref b17), (.ref b17)])) (fun t kt => ?_) ?_
      · show Steps p.tables e below (T17.setTop (mkF m 83 #[.val (.long q0), .second, .val (.long q1), .second, .val (.long q2), .second, .val (.long q3), .second, .val (.int p4), .val (.int ((p4 &&& (2147483647 : Int32)) - (p4 &&& (2147483647 : Int32)) / (3 : Int32) * (3 : Int32))), .val (.ref b14), .unset, .unset, .unset] [(.ref b17)])) _
        refine XS.dup X17.here hx rfl (hb hby at_83) rfl rfl ?_
        show Steps p.tables e below (T17.setTop (mkF m 84 #[.val (.long q0), .second, .val (.long q1), .second, .val (.long q2), .second, .val (.long q3), .second, .val (.int p4), .val (.int ((p4 &&& (2147483647 : Int32)) - (p4 &&& (2147483647 : Int32)) / (3 : Int32) * (3 : Int32))), .val (.ref b14), .unset, .unset, .unset] [(.ref b17), (.ref b17)])) _
        refine XS.iconst X17.here hx rfl (hb hby at_84) ?_
        show Steps p.tables e below (T17.setTop (mkF m 85 #[.val (.long q0), .second, .val (.long q1), .second, .val (.long q2), .second, .val (.long q3), .second, .val (.int p4), .val (.int ((p4 &&& (2147483647 : Int32)) - (p4 &&& (2147483647 : Int32)) / (3 : Int32) * (3 : Int32))), .val (.ref b14), .unset, .unset, .unset] [(.int (0 : Int32)), (.ref b17), (.ref b17)])) _
        refine XS.lload X17.here hx rfl (hb hby at_85) rfl ?_
        exact kt
      obtain ⟨T18, h18, Lq18, X18, N18, e18, W18, Z18, Aq18, st18⟩ := own_stJ X17 hx hZ e17 Ab17_17 (j := (0 : Int32)) (by decide) (k := 0) (by decide) (Nat.le_of_ble_eq_true rfl) N16 g17 Z17 (g := (mkF m 87 #[.val (.long q0), .second, .val (.long q1), .second, .val (.long q2), .second, .val (.long q3), .second, .val (.int p4), .val (.int ((p4 &&& (2147483647 : Int32)) - (p4 &&& (2147483647 : Int32)) / (3 : Int32) * (3 : Int32))), .val (.ref b14), .unset, .unset, .unset] [(.long q2), (.int (0 : Int32)), (.ref b17), (.ref b17)])) rfl rfl (hb hby at_87)
      have Ab14_18 := Ab14_17.other W18 ne_b14_b17
      have Ab17_18 : own_A Z h18 b17 .long [(.long q2), (.long (0 : Int64))] := Aq18
      refine own_step (T' := T18) (f' := (mkF m 88 #[.val (.long q0), .second, .val (.long q1), .second, .val (.long q2), .second, .val (.long q3), .second, .val (.int p4), .val (.int ((p4 &&& (2147483647 : Int32)) - (p4 &&& (2147483647 : Int32)) / (3 : Int32) * (3 : Int32))), .val (.ref b14), .unset, .unset, .unset] [(.ref b17)])) st18 ?_
      refine own_step (T' := T18) (f' := (mkF m 92 #[.val (.long q0), .second, .val (.long q1), .second, .val (.long q2), .second, .val (.long q3), .second, .val (.int p4), .val (.int ((p4 &&& (2147483647 : Int32)) - (p4 &&& (2147483647 : Int32)) / (3 : Int32) * (3 : Int32))), .val (.ref b14), .unset, .unset, .unset] [(.long q3), (.int (1 : Int32)), (.ref b17), (.ref b17)])) (fun t kt => ?_) ?_
      · show Steps p.tables e below (T18.setTop (mkF m 88 #[.val (.long q0), .second, .val (.long q1), .second, .val (.long q2), .second, .val (.long q3), .second, .val (.int p4), .val (.int ((p4 &&& (2147483647 : Int32)) - (p4 &&& (2147483647 : Int32)) / (3 : Int32) * (3 : Int32))), .val (.ref b14), .unset, .unset, .unset] [(.ref b17)])) _
        refine XS.dup X18.here hx rfl (hb hby at_88) rfl rfl ?_
        show Steps p.tables e below (T18.setTop (mkF m 89 #[.val (.long q0), .second, .val (.long q1), .second, .val (.long q2), .second, .val (.long q3), .second, .val (.int p4), .val (.int ((p4 &&& (2147483647 : Int32)) - (p4 &&& (2147483647 : Int32)) / (3 : Int32) * (3 : Int32))), .val (.ref b14), .unset, .unset, .unset] [(.ref b17), (.ref b17)])) _
        refine XS.iconst X18.here hx rfl (hb hby at_89) ?_
        show Steps p.tables e below (T18.setTop (mkF m 90 #[.val (.long q0), .second, .val (.long q1), .second, .val (.long q2), .second, .val (.long q3), .second, .val (.int p4), .val (.int ((p4 &&& (2147483647 : Int32)) - (p4 &&& (2147483647 : Int32)) / (3 : Int32) * (3 : Int32))), .val (.ref b14), .unset, .unset, .unset] [(.int (1 : Int32)), (.ref b17), (.ref b17)])) _
        refine XS.lload X18.here hx rfl (hb hby at_90) rfl ?_
        exact kt
      obtain ⟨T19, h19, Lq19, X19, N19, e19, W19, Z19, Aq19, st19⟩ := own_stJ X18 hx hZ e18 Ab17_18 (j := (1 : Int32)) (by decide) (k := 1) (by decide) (Nat.le_of_ble_eq_true rfl) N18 g17 Z18 (g := (mkF m 92 #[.val (.long q0), .second, .val (.long q1), .second, .val (.long q2), .second, .val (.long q3), .second, .val (.int p4), .val (.int ((p4 &&& (2147483647 : Int32)) - (p4 &&& (2147483647 : Int32)) / (3 : Int32) * (3 : Int32))), .val (.ref b14), .unset, .unset, .unset] [(.long q3), (.int (1 : Int32)), (.ref b17), (.ref b17)])) rfl rfl (hb hby at_92)
      have Ab14_19 := Ab14_18.other W19 ne_b14_b17
      have Ab17_19 : own_A Z h19 b17 .long [(.long q2), (.long q3)] := Aq19
      refine own_step (T' := T19) (f' := (mkF m 93 #[.val (.long q0), .second, .val (.long q1), .second, .val (.long q2), .second, .val (.long q3), .second, .val (.int p4), .val (.int ((p4 &&& (2147483647 : Int32)) - (p4 &&& (2147483647 : Int32)) / (3 : Int32) * (3 : Int32))), .val (.ref b14), .unset, .unset, .unset] [(.ref b17)])) st19 ?_
      refine own_step (T' := T19) (f' := (mkF m 99 #[.val (.long q0), .second, .val (.long q1), .second, .val (.long q2), .second, .val (.long q3), .second, .val (.int p4), .val (.int ((p4 &&& (2147483647 : Int32)) - (p4 &&& (2147483647 : Int32)) / (3 : Int32) * (3 : Int32))), .val (.ref b14), .val (.ref b17), .unset, .unset] [(.long (q0 &&& q2))])) (fun t kt => ?_) ?_
      · show Steps p.tables e below (T19.setTop (mkF m 93 #[.val (.long q0), .second, .val (.long q1), .second, .val (.long q2), .second, .val (.long q3), .second, .val (.int p4), .val (.int ((p4 &&& (2147483647 : Int32)) - (p4 &&& (2147483647 : Int32)) / (3 : Int32) * (3 : Int32))), .val (.ref b14), .unset, .unset, .unset] [(.ref b17)])) _
        refine XS.astore X19.here hx rfl (hb hby at_93) rfl rfl (l' := #[.val (.long q0), .second, .val (.long q1), .second, .val (.long q2), .second, .val (.long q3), .second, .val (.int p4), .val (.int ((p4 &&& (2147483647 : Int32)) - (p4 &&& (2147483647 : Int32)) / (3 : Int32) * (3 : Int32))), .val (.ref b14), .val (.ref b17), .unset, .unset]) rfl ?_
        show Steps p.tables e below (T19.setTop (mkF m 95 #[.val (.long q0), .second, .val (.long q1), .second, .val (.long q2), .second, .val (.long q3), .second, .val (.int p4), .val (.int ((p4 &&& (2147483647 : Int32)) - (p4 &&& (2147483647 : Int32)) / (3 : Int32) * (3 : Int32))), .val (.ref b14), .val (.ref b17), .unset, .unset] [])) _
        refine XS.lloadN X19.here hx rfl (hb hby at_95) rfl ?_
        show Steps p.tables e below (T19.setTop (mkF m 96 #[.val (.long q0), .second, .val (.long q1), .second, .val (.long q2), .second, .val (.long q3), .second, .val (.int p4), .val (.int ((p4 &&& (2147483647 : Int32)) - (p4 &&& (2147483647 : Int32)) / (3 : Int32) * (3 : Int32))), .val (.ref b14), .val (.ref b17), .unset, .unset] [(.long q0)])) _
        refine XS.lload X19.here hx rfl (hb hby at_96) rfl ?_
        show Steps p.tables e below (T19.setTop (mkF m 98 #[.val (.long q0), .second, .val (.long q1), .second, .val (.long q2), .second, .val (.long q3), .second, .val (.int p4), .val (.int ((p4 &&& (2147483647 : Int32)) - (p4 &&& (2147483647 : Int32)) / (3 : Int32) * (3 : Int32))), .val (.ref b14), .val (.ref b17), .unset, .unset] [(.long q2), (.long q0)])) _
        refine XS.land X19.here hx rfl (hb hby at_98) rfl ?_
        exact kt
      obtain ⟨_, _, ⟨T20, L20, k20, n20⟩, -, X20, ⟨Lc20, hQ20, l20, y20, z20⟩, st20⟩ := Jvm.LawKit.callS X19 hx (y := (⟨"com/example/conceal/conceal/TransactionRemovalHoldingPinLaw", "pop", "(J)I"⟩ : MethodName)) hown (mvT hZ (hw _ (List.mem_of_getElem? (i := 6) rfl))) (mvT hZ (hw _ (List.mem_of_getElem? (i := 7) rfl))) (mvT hZ (hw _ (List.mem_of_getElem? (i := 8) rfl))) (mvT hZ (hw _ (List.mem_of_getElem? (i := 9) rfl))) (by decide) (backOf (W := 0) (rm2 l Z a0 hw [] (q0 &&& q2)  h19 n0 ) hZ (hw _ (List.mem_of_getElem? (i := 9) rfl)) (hw _ (List.mem_of_getElem? (i := 8) rfl)) (by decide) (by decide)) (g := (mkF m 99 #[.val (.long q0), .second, .val (.long q1), .second, .val (.long q2), .second, .val (.long q3), .second, .val (.int p4), .val (.int ((p4 &&& (2147483647 : Int32)) - (p4 &&& (2147483647 : Int32)) / (3 : Int32) * (3 : Int32))), .val (.ref b14), .val (.ref b17), .unset, .unset] [(.long (q0 &&& q2))])) rfl (by rw [hml]; rfl) (argsL := [(.long (q0 &&& q2))]) (rest := []) (lenOf pd2 rfl) rfl (by show 2 * 0 + _ ≤ _; exact Nat.le_of_eq rfl) (hb hby at_99) (fun _ _ => ⟨rfl, e19, (by decide : 2 + 0 ≤ _), (by decide : 4 + 0 ≤ _)⟩)
      dsimp only [Pt.U, Pt.locs, Pt.cells, Pt.slots] at X20 l20 y20 z20 st20 hQ20
      subst l20 y20 z20
      obtain ⟨rfl, Nq20, e20⟩ := hQ20
      have N20 := Fr.app N19 Nq20
      refine own_step (T' := T20) (f' := (mkF m 102 #[.val (.long q0), .second, .val (.long q1), .second, .val (.long q2), .second, .val (.long q3), .second, .val (.int p4), .val (.int ((p4 &&& (2147483647 : Int32)) - (p4 &&& (2147483647 : Int32)) / (3 : Int32) * (3 : Int32))), .val (.ref b14), .val (.ref b17), .unset, .unset] [(.int (f2_0 (q0 &&& q2)))])) st20 ?_
      refine own_step (T' := T20) (f' := (mkF m 106 #[.val (.long q0), .second, .val (.long q1), .second, .val (.long q2), .second, .val (.long q3), .second, .val (.int p4), .val (.int ((p4 &&& (2147483647 : Int32)) - (p4 &&& (2147483647 : Int32)) / (3 : Int32) * (3 : Int32))), .val (.ref b14), .val (.ref b17), .unset, .unset] [(.long (q1 &&& q3)), (.int (f2_0 (q0 &&& q2)))])) (fun t kt => ?_) ?_
      · show Steps p.tables e below (T20.setTop (mkF m 102 #[.val (.long q0), .second, .val (.long q1), .second, .val (.long q2), .second, .val (.long q3), .second, .val (.int p4), .val (.int ((p4 &&& (2147483647 : Int32)) - (p4 &&& (2147483647 : Int32)) / (3 : Int32) * (3 : Int32))), .val (.ref b14), .val (.ref b17), .unset, .unset] [(.int (f2_0 (q0 &&& q2)))])) _
        refine XS.lloadN X20.here hx rfl (hb hby at_102) rfl ?_
        show Steps p.tables e below (T20.setTop (mkF m 103 #[.val (.long q0), .second, .val (.long q1), .second, .val (.long q2), .second, .val (.long q3), .second, .val (.int p4), .val (.int ((p4 &&& (2147483647 : Int32)) - (p4 &&& (2147483647 : Int32)) / (3 : Int32) * (3 : Int32))), .val (.ref b14), .val (.ref b17), .unset, .unset] [(.long q1), (.int (f2_0 (q0 &&& q2)))])) _
        refine XS.lload X20.here hx rfl (hb hby at_103) rfl ?_
        show Steps p.tables e below (T20.setTop (mkF m 105 #[.val (.long q0), .second, .val (.long q1), .second, .val (.long q2), .second, .val (.long q3), .second, .val (.int p4), .val (.int ((p4 &&& (2147483647 : Int32)) - (p4 &&& (2147483647 : Int32)) / (3 : Int32) * (3 : Int32))), .val (.ref b14), .val (.ref b17), .unset, .unset] [(.long q3), (.long q1), (.int (f2_0 (q0 &&& q2)))])) _
        refine XS.land X20.here hx rfl (hb hby at_105) rfl ?_
        exact kt
      obtain ⟨_, _, ⟨T21, L21, k21, n21⟩, -, X21, ⟨Lc21, hQ21, l21, y21, z21⟩, st21⟩ := Jvm.LawKit.callS X20 hx (y := (⟨"com/example/conceal/conceal/TransactionRemovalHoldingPinLaw", "pop", "(J)I"⟩ : MethodName)) hown (mvT hZ (hw _ (List.mem_of_getElem? (i := 6) rfl))) (mvT hZ (hw _ (List.mem_of_getElem? (i := 7) rfl))) (mvT hZ (hw _ (List.mem_of_getElem? (i := 8) rfl))) (mvT hZ (hw _ (List.mem_of_getElem? (i := 9) rfl))) (by decide) (backOf (W := 1) (rm2 l Z a0 hw [] (q1 &&& q3)  h19 n0 ) hZ (hw _ (List.mem_of_getElem? (i := 9) rfl)) (hw _ (List.mem_of_getElem? (i := 8) rfl)) (by decide) (by decide)) (g := (mkF m 106 #[.val (.long q0), .second, .val (.long q1), .second, .val (.long q2), .second, .val (.long q3), .second, .val (.int p4), .val (.int ((p4 &&& (2147483647 : Int32)) - (p4 &&& (2147483647 : Int32)) / (3 : Int32) * (3 : Int32))), .val (.ref b14), .val (.ref b17), .unset, .unset] [(.long (q1 &&& q3)), (.int (f2_0 (q0 &&& q2)))])) rfl (by rw [hml]; rfl) (argsL := [(.long (q1 &&& q3))]) (rest := [(.int (f2_0 (q0 &&& q2)))]) (lenOf pd2 rfl) rfl (by show 2 * 0 + _ ≤ _; exact Nat.le_of_eq rfl) (hb hby at_106) (fun _ _ => ⟨rfl, e20, (by decide : 2 + 0 ≤ _), (by decide : 4 + 0 ≤ _)⟩)
      dsimp only [Pt.U, Pt.locs, Pt.cells, Pt.slots] at X21 l21 y21 z21 st21 hQ21
      subst l21 y21 z21
      obtain ⟨rfl, Nq21, e21⟩ := hQ21
      have N21 := Fr.app N20 Nq21
      refine own_step (T' := T21) (f' := (mkF m 109 #[.val (.long q0), .second, .val (.long q1), .second, .val (.long q2), .second, .val (.long q3), .second, .val (.int p4), .val (.int ((p4 &&& (2147483647 : Int32)) - (p4 &&& (2147483647 : Int32)) / (3 : Int32) * (3 : Int32))), .val (.ref b14), .val (.ref b17), .unset, .unset] [(.int (f2_0 (q1 &&& q3))), (.int (f2_0 (q0 &&& q2)))])) st21 ?_
      refine own_step (T' := T21) (f' := (mkF m 116 #[.val (.long q0), .second, .val (.long q1), .second, .val (.long q2), .second, .val (.long q3), .second, .val (.int p4), .val (.int ((p4 &&& (2147483647 : Int32)) - (p4 &&& (2147483647 : Int32)) / (3 : Int32) * (3 : Int32))), .val (.ref b14), .val (.ref b17), .val (.int ((f2_0 (q0 &&& q2)) + (f2_0 (q1 &&& q3)))), .unset] [(.ref b17), (.ref b14)])) (fun t kt => ?_) ?_
      · show Steps p.tables e below (T21.setTop (mkF m 109 #[.val (.long q0), .second, .val (.long q1), .second, .val (.long q2), .second, .val (.long q3), .second, .val (.int p4), .val (.int ((p4 &&& (2147483647 : Int32)) - (p4 &&& (2147483647 : Int32)) / (3 : Int32) * (3 : Int32))), .val (.ref b14), .val (.ref b17), .unset, .unset] [(.int (f2_0 (q1 &&& q3))), (.int (f2_0 (q0 &&& q2)))])) _
        refine XS.iadd X21.here hx rfl (hb hby at_109) rfl ?_
        show Steps p.tables e below (T21.setTop (mkF m 110 #[.val (.long q0), .second, .val (.long q1), .second, .val (.long q2), .second, .val (.long q3), .second, .val (.int p4), .val (.int ((p4 &&& (2147483647 : Int32)) - (p4 &&& (2147483647 : Int32)) / (3 : Int32) * (3 : Int32))), .val (.ref b14), .val (.ref b17), .unset, .unset] [(.int ((f2_0 (q0 &&& q2)) + (f2_0 (q1 &&& q3))))])) _
        refine XS.istore X21.here hx rfl (hb hby at_110) rfl (l' := #[.val (.long q0), .second, .val (.long q1), .second, .val (.long q2), .second, .val (.long q3), .second, .val (.int p4), .val (.int ((p4 &&& (2147483647 : Int32)) - (p4 &&& (2147483647 : Int32)) / (3 : Int32) * (3 : Int32))), .val (.ref b14), .val (.ref b17), .val (.int ((f2_0 (q0 &&& q2)) + (f2_0 (q1 &&& q3)))), .unset]) rfl ?_
        show Steps p.tables e below (T21.setTop (mkF m 112 #[.val (.long q0), .second, .val (.long q1), .second, .val (.long q2), .second, .val (.long q3), .second, .val (.int p4), .val (.int ((p4 &&& (2147483647 : Int32)) - (p4 &&& (2147483647 : Int32)) / (3 : Int32) * (3 : Int32))), .val (.ref b14), .val (.ref b17), .val (.int ((f2_0 (q0 &&& q2)) + (f2_0 (q1 &&& q3)))), .unset] [])) _
        refine XS.aload X21.here hx rfl (hb hby at_112) rfl rfl ?_
        show Steps p.tables e below (T21.setTop (mkF m 114 #[.val (.long q0), .second, .val (.long q1), .second, .val (.long q2), .second, .val (.long q3), .second, .val (.int p4), .val (.int ((p4 &&& (2147483647 : Int32)) - (p4 &&& (2147483647 : Int32)) / (3 : Int32) * (3 : Int32))), .val (.ref b14), .val (.ref b17), .val (.int ((f2_0 (q0 &&& q2)) + (f2_0 (q1 &&& q3)))), .unset] [(.ref b14)])) _
        refine XS.aload X21.here hx rfl (hb hby at_114) rfl rfl ?_
        exact kt
      obtain ⟨_, _, ⟨T22, L22, k22, n22⟩, -, X22, ⟨Lc22, hQ22, l22, y22, z22⟩, st22⟩ := Jvm.LawKit.callS X21 hx (y := (⟨"com/example/conceal/conceal/TransactionRemoval", "holding", "([J[J)I"⟩ : MethodName)) hown (mvT hZ (hw _ (List.mem_of_getElem? (i := 2) rfl))) (mvT hZ (hw _ (List.mem_of_getElem? (i := 3) rfl))) (mvT hZ (hw _ (List.mem_of_getElem? (i := 4) rfl))) (mvT hZ (hw _ (List.mem_of_getElem? (i := 5) rfl))) (by decide) (backOf (W := 0) (rm1n2 l Z a0 hw [] b14 b17 q0 q1 q2 q3 h19 n0 Ab14_19 Ab17_19) hZ (hw _ (List.mem_of_getElem? (i := 5) rfl)) (hw _ (List.mem_of_getElem? (i := 4) rfl)) (by decide) (by decide)) (g := (mkF m 116 #[.val (.long q0), .second, .val (.long q1), .second, .val (.long q2), .second, .val (.long q3), .second, .val (.int p4), .val (.int ((p4 &&& (2147483647 : Int32)) - (p4 &&& (2147483647 : Int32)) / (3 : Int32) * (3 : Int32))), .val (.ref b14), .val (.ref b17), .val (.int ((f2_0 (q0 &&& q2)) + (f2_0 (q1 &&& q3)))), .unset] [(.ref b17), (.ref b14)])) rfl (by rw [hml]; rfl) (argsL := [(.ref b14), (.ref b17)]) (rest := []) (lenOf pd1 rfl) rfl (by show 2 * 0 + _ ≤ _; exact Nat.le_of_eq rfl) (hb hby at_116) (fun _ _ => ⟨rfl, e21, (by decide : 2 + 0 ≤ _), (by decide : 4 + 0 ≤ _)⟩)
      dsimp only [Pt.U, Pt.locs, Pt.cells, Pt.slots] at X22 l22 y22 z22 st22 hQ22
      subst l22 y22 z22
      obtain ⟨rfl, Nq22, e22⟩ := hQ22
      have N22 := Fr.app N21 Nq22
      refine own_step (T' := T22) (f' := (mkF m 119 #[.val (.long q0), .second, .val (.long q1), .second, .val (.long q2), .second, .val (.long q3), .second, .val (.int p4), .val (.int ((p4 &&& (2147483647 : Int32)) - (p4 &&& (2147483647 : Int32)) / (3 : Int32) * (3 : Int32))), .val (.ref b14), .val (.ref b17), .val (.int ((f2_0 (q0 &&& q2)) + (f2_0 (q1 &&& q3)))), .unset] [(.int (f1n2_0 q0 q1 q2 q3))])) st22 ?_
      refine own_step (T' := T22) (f' := (mkF m 125 #[.val (.long q0), .second, .val (.long q1), .second, .val (.long q2), .second, .val (.long q3), .second, .val (.int p4), .val (.int ((p4 &&& (2147483647 : Int32)) - (p4 &&& (2147483647 : Int32)) / (3 : Int32) * (3 : Int32))), .val (.ref b14), .val (.ref b17), .val (.int ((f2_0 (q0 &&& q2)) + (f2_0 (q1 &&& q3)))), .val (.int (f1n2_0 q0 q1 q2 q3))] [(.int ((f2_0 (q0 &&& q2)) + (f2_0 (q1 &&& q3)))), (.int (f1n2_0 q0 q1 q2 q3))])) (fun t kt => ?_) ?_
      · show Steps p.tables e below (T22.setTop (mkF m 119 #[.val (.long q0), .second, .val (.long q1), .second, .val (.long q2), .second, .val (.long q3), .second, .val (.int p4), .val (.int ((p4 &&& (2147483647 : Int32)) - (p4 &&& (2147483647 : Int32)) / (3 : Int32) * (3 : Int32))), .val (.ref b14), .val (.ref b17), .val (.int ((f2_0 (q0 &&& q2)) + (f2_0 (q1 &&& q3)))), .unset] [(.int (f1n2_0 q0 q1 q2 q3))])) _
        refine XS.istore X22.here hx rfl (hb hby at_119) rfl (l' := #[.val (.long q0), .second, .val (.long q1), .second, .val (.long q2), .second, .val (.long q3), .second, .val (.int p4), .val (.int ((p4 &&& (2147483647 : Int32)) - (p4 &&& (2147483647 : Int32)) / (3 : Int32) * (3 : Int32))), .val (.ref b14), .val (.ref b17), .val (.int ((f2_0 (q0 &&& q2)) + (f2_0 (q1 &&& q3)))), .val (.int (f1n2_0 q0 q1 q2 q3))]) rfl ?_
        show Steps p.tables e below (T22.setTop (mkF m 121 #[.val (.long q0), .second, .val (.long q1), .second, .val (.long q2), .second, .val (.long q3), .second, .val (.int p4), .val (.int ((p4 &&& (2147483647 : Int32)) - (p4 &&& (2147483647 : Int32)) / (3 : Int32) * (3 : Int32))), .val (.ref b14), .val (.ref b17), .val (.int ((f2_0 (q0 &&& q2)) + (f2_0 (q1 &&& q3)))), .val (.int (f1n2_0 q0 q1 q2 q3))] [])) _
        refine XS.iload X22.here hx rfl (hb hby at_121) rfl ?_
        show Steps p.tables e below (T22.setTop (mkF m 123 #[.val (.long q0), .second, .val (.long q1), .second, .val (.long q2), .second, .val (.long q3), .second, .val (.int p4), .val (.int ((p4 &&& (2147483647 : Int32)) - (p4 &&& (2147483647 : Int32)) / (3 : Int32) * (3 : Int32))), .val (.ref b14), .val (.ref b17), .val (.int ((f2_0 (q0 &&& q2)) + (f2_0 (q1 &&& q3)))), .val (.int (f1n2_0 q0 q1 q2 q3))] [(.int (f1n2_0 q0 q1 q2 q3))])) _
        refine XS.iload X22.here hx rfl (hb hby at_123) rfl ?_
        exact kt
      by_cases hc125_23 : (f1n2_0 q0 q1 q2 q3) = ((f2_0 (q0 &&& q2)) + (f2_0 (q1 &&& q3)))
      · replace hr := hr.trans (if_pos hc125_23)
        refine own_step (T' := T22) (f' := (mkF m 128 #[.val (.long q0), .second, .val (.long q1), .second, .val (.long q2), .second, .val (.long q3), .second, .val (.int p4), .val (.int ((p4 &&& (2147483647 : Int32)) - (p4 &&& (2147483647 : Int32)) / (3 : Int32) * (3 : Int32))), .val (.ref b14), .val (.ref b17), .val (.int ((f2_0 (q0 &&& q2)) + (f2_0 (q1 &&& q3)))), .val (.int (f1n2_0 q0 q1 q2 q3))] [])) (fun t kt => ?_) ?_
        · show Steps p.tables e below (T22.setTop (mkF m 125 #[.val (.long q0), .second, .val (.long q1), .second, .val (.long q2), .second, .val (.long q3), .second, .val (.int p4), .val (.int ((p4 &&& (2147483647 : Int32)) - (p4 &&& (2147483647 : Int32)) / (3 : Int32) * (3 : Int32))), .val (.ref b14), .val (.ref b17), .val (.int ((f2_0 (q0 &&& q2)) + (f2_0 (q1 &&& q3)))), .val (.int (f1n2_0 q0 q1 q2 q3))] [(.int ((f2_0 (q0 &&& q2)) + (f2_0 (q1 &&& q3)))), (.int (f1n2_0 q0 q1 q2 q3))])) _
          refine XS.icmpNo X22.here hx rfl (hb hby at_125) rfl (teq hc125_23).2 kt
        refine own_step (T' := T22) (f' := (mkF m 133 #[.val (.long q0), .second, .val (.long q1), .second, .val (.long q2), .second, .val (.long q3), .second, .val (.int p4), .val (.int ((p4 &&& (2147483647 : Int32)) - (p4 &&& (2147483647 : Int32)) / (3 : Int32) * (3 : Int32))), .val (.ref b14), .val (.ref b17), .val (.int ((f2_0 (q0 &&& q2)) + (f2_0 (q1 &&& q3)))), .val (.int (f1n2_0 q0 q1 q2 q3))] [(.int (1 : Int32))])) (fun t kt => ?_) ?_
        · show Steps p.tables e below (T22.setTop (mkF m 128 #[.val (.long q0), .second, .val (.long q1), .second, .val (.long q2), .second, .val (.long q3), .second, .val (.int p4), .val (.int ((p4 &&& (2147483647 : Int32)) - (p4 &&& (2147483647 : Int32)) / (3 : Int32) * (3 : Int32))), .val (.ref b14), .val (.ref b17), .val (.int ((f2_0 (q0 &&& q2)) + (f2_0 (q1 &&& q3)))), .val (.int (f1n2_0 q0 q1 q2 q3))] [])) _
          refine XS.iconst X22.here hx rfl (hb hby at_128) ?_
          show Steps p.tables e below (T22.setTop (mkF m 129 #[.val (.long q0), .second, .val (.long q1), .second, .val (.long q2), .second, .val (.long q3), .second, .val (.int p4), .val (.int ((p4 &&& (2147483647 : Int32)) - (p4 &&& (2147483647 : Int32)) / (3 : Int32) * (3 : Int32))), .val (.ref b14), .val (.ref b17), .val (.int ((f2_0 (q0 &&& q2)) + (f2_0 (q1 &&& q3)))), .val (.int (f1n2_0 q0 q1 q2 q3))] [(.int (1 : Int32))])) _
          refine XS.goto X22.here hx rfl (pc0 := 129) (pc' := 133) rfl (hb hby at_129) (by decide) (by decide) ?_
          exact kt
        exact own_retZ X22 hx hret (by simp) hlk (hb hby at_133) (by decide) (by decide) ⟨congrArg (fun z => some (Value.int z)) hr.symm, N22⟩
      · replace hr := hr.trans (if_neg hc125_23)
        refine own_step (T' := T22) (f' := (mkF m 132 #[.val (.long q0), .second, .val (.long q1), .second, .val (.long q2), .second, .val (.long q3), .second, .val (.int p4), .val (.int ((p4 &&& (2147483647 : Int32)) - (p4 &&& (2147483647 : Int32)) / (3 : Int32) * (3 : Int32))), .val (.ref b14), .val (.ref b17), .val (.int ((f2_0 (q0 &&& q2)) + (f2_0 (q1 &&& q3)))), .val (.int (f1n2_0 q0 q1 q2 q3))] [])) (fun t kt => ?_) ?_
        · show Steps p.tables e below (T22.setTop (mkF m 125 #[.val (.long q0), .second, .val (.long q1), .second, .val (.long q2), .second, .val (.long q3), .second, .val (.int p4), .val (.int ((p4 &&& (2147483647 : Int32)) - (p4 &&& (2147483647 : Int32)) / (3 : Int32) * (3 : Int32))), .val (.ref b14), .val (.ref b17), .val (.int ((f2_0 (q0 &&& q2)) + (f2_0 (q1 &&& q3)))), .val (.int (f1n2_0 q0 q1 q2 q3))] [(.int ((f2_0 (q0 &&& q2)) + (f2_0 (q1 &&& q3)))), (.int (f1n2_0 q0 q1 q2 q3))])) _
          refine XS.icmpYes X22.here hx rfl (pc0 := 125) (pc' := 132) rfl (hb hby at_125) rfl (feq hc125_23).2 (by decide) (by decide) kt
        refine own_step (T' := T22) (f' := (mkF m 133 #[.val (.long q0), .second, .val (.long q1), .second, .val (.long q2), .second, .val (.long q3), .second, .val (.int p4), .val (.int ((p4 &&& (2147483647 : Int32)) - (p4 &&& (2147483647 : Int32)) / (3 : Int32) * (3 : Int32))), .val (.ref b14), .val (.ref b17), .val (.int ((f2_0 (q0 &&& q2)) + (f2_0 (q1 &&& q3)))), .val (.int (f1n2_0 q0 q1 q2 q3))] [(.int (0 : Int32))])) (fun t kt => ?_) ?_
        · show Steps p.tables e below (T22.setTop (mkF m 132 #[.val (.long q0), .second, .val (.long q1), .second, .val (.long q2), .second, .val (.long q3), .second, .val (.int p4), .val (.int ((p4 &&& (2147483647 : Int32)) - (p4 &&& (2147483647 : Int32)) / (3 : Int32) * (3 : Int32))), .val (.ref b14), .val (.ref b17), .val (.int ((f2_0 (q0 &&& q2)) + (f2_0 (q1 &&& q3)))), .val (.int (f1n2_0 q0 q1 q2 q3))] [])) _
          refine XS.iconst X22.here hx rfl (hb hby at_132) ?_
          exact kt
        exact own_retZ X22 hx hret (by simp) hlk (hb hby at_133) (by decide) (by decide) ⟨congrArg (fun z => some (Value.int z)) hr.symm, N22⟩
set_option maxRecDepth 65536 in
set_option maxHeartbeats 4000000 in
theorem rm0 (l : Launch) (Z : State) (a0 : Array Value) (hw : ∀ d ∈ tables_1, d.before a0 Z = true) (ws : List Jvm.Cond) (q0 : Int64) (q1 : Int64) (q2 : Int64) (q3 : Int64) (p4 : Int32) (h0 : Heap) (n0 : Nat) (Z0 : n0 ≤ h0.size) :
    MetFree l x (head1 (Jvm.Cond.code x code maxLocals ret :: ws) room_1) (fun a U => a = #[(.long q0), (.long q1), (.long q2), (.long q3), (.int p4)] ∧ Z.Warmed39 U.vm ∧ U.heap = h0) (fun _ _ _ _ _ => True) (fun _ U o U' => ∃ v L, o = .returned v ∧ (own_R (.int (f0_0 q0 q1 q2 q3 p4)) n0) v U'.heap L ∧ FrameEnd U o U' L 16 128) := by
  refine MetFree.of_bodySF (plainFor_of_name pn0) hisR ?_
  intro p e s m args below meth c s₁ Bd hml0 hP hK
  obtain ⟨rfl, hZ, hh⟩ := hP
  have hown : s.vm.findClass "com/example/conceal/conceal/TransactionRemovalHoldingPinLaw" = some m.cls := findClass_of_methodNamed Bd.named
  have X0 : Stand p l e room_1 s m #[(.long q0), (.long q1), (.long q2), (.long q3), (.int p4)] below meth c s₁ [] 0 0 := Stand.of_body Bd
  have e0 : s₁.heap = h0 := by rw [← hh, Bd.state]; rfl
  show own_Ends p e below s 16 128 (own_R (.int (f0_0 q0 q1 q2 q3 p4)) n0) s₁ (entryFrame m #[(.long q0), (.long q1), (.long q2), (.long q3), (.int p4)] maxLocals)
  refine own_step (fun t k => castTop (ef0 m q0 q1 q2 q3 p4) k) ?_
  exact b0_0 q0 q1 q2 q3 p4 X0 Bd.exec hZ hw Bd.bytes hml0 hown Bd.returns (BodyLoose.notSynchronized Bd) e0 (Fr.nil n0) Z0 rfl
theorem own_byte (Z i : Nat) (hi : 1085102592571150095 / 2 ^ i % 256 = 15) : (Z &&& 1085102592571150095) / 2 ^ i % 256 < 16 := by
  have h1 : (Z &&& 1085102592571150095) / 2 ^ i % 2 ^ 8 = (Z / 2 ^ i % 2 ^ 8) &&& (1085102592571150095 / 2 ^ i % 2 ^ 8) := by
    rw [Nat.and_div_two_pow, Nat.and_mod_two_pow]
  have h2 : (Z / 2 ^ i % 2 ^ 8) &&& (1085102592571150095 / 2 ^ i % 2 ^ 8) ≤ 1085102592571150095 / 2 ^ i % 2 ^ 8 := Nat.and_le_right
  have h3 : (2 : Nat) ^ 8 = 256 := by decide
  rw [h3] at h1 h2
  omega
theorem own_div (A S low : Int) (hA : 0 < A) (h0 : 0 ≤ low) (h1 : low < A) : (A * S + low) / A = S := by
  rw [Int.add_comm, Int.add_mul_ediv_left _ _ (by omega), Int.ediv_eq_zero_of_lt h0 h1, Int.zero_add]
theorem own_mod (M q R a : Int) (ha : a = M * q + R) (h0 : 0 ≤ R) (h1 : R < M) : a % M = R := by
  subst ha
  rw [Int.add_comm, Int.add_mul_emod_self_left, Int.emod_eq_of_lt h0 h1]
theorem own_addu (a b : Int64) (A B : Int) (ha : a.toInt % 18446744073709551616 = A) (hb : b.toInt = B) (hB : 0 ≤ B) (h : A + B < 18446744073709551616) : (a + b).toInt % 18446744073709551616 = A + B := by
  have c := c_ladd a b
  omega
theorem own_shru (a : Int64) (q : Int32) (k : Nat) (hq : q.toBitVec.toNat % 64 = k) (h0 : 0 < k) (A S low P : Int) (hP : ((2 ^ k : Nat) : Int) = P) (hpos : 0 < P) (ha : a.toInt % 18446744073709551616 = A) (hA : A = P * S + low) (l0 : 0 ≤ low) (l1 : low < P) : ((a.toUInt64 >>> (q &&& 0x3f).toInt64.toUInt64).toInt64).toInt = S := by
  rw [c_lushr a q k hq h0, ha, hP, hA]
  exact own_div P S low hpos l0 l1
theorem own_mulu (a b : Int64) (A B H R : Int) (ha : a.toInt % 18446744073709551616 = A) (hb : b.toInt = B) (e : A * B = 18446744073709551616 * H + R) (h0 : 0 ≤ R) (h1 : R < 18446744073709551616) : (a * b).toInt % 18446744073709551616 = R := by
  have c := c_lmul a b
  obtain ⟨u, hu⟩ := Int.dvd_of_emod_eq_zero c
  have t := Int.mul_ediv_add_emod a.toInt 18446744073709551616
  rw [ha] at t
  rw [hb] at hu
  have e2 : a.toInt * B = 18446744073709551616 * (a.toInt / 18446744073709551616 * B) + A * B := by
    rw [← Int.mul_assoc, ← Int.add_mul, t]
  refine own_mod _ (u + a.toInt / 18446744073709551616 * B + H) R _ ?_ h0 h1
  rw [e] at e2
  generalize a.toInt / 18446744073709551616 * B = w at *
  omega
theorem own_e_prod (c0 c1 c2 c3 c4 c5 c6 c7 : Int) (r0 : 0 ≤ c0) (s0 : c0 < 16) (r1 : 0 ≤ c1) (s1 : c1 < 16) (r2 : 0 ≤ c2) (s2 : c2 < 16) (r3 : 0 ≤ c3) (s3 : c3 < 16) (r4 : 0 ≤ c4) (s4 : c4 < 16) (r5 : 0 ≤ c5) (s5 : c5 < 16) (r6 : 0 ≤ c6) (s6 : c6 < 16) (r7 : 0 ≤ c7) (s7 : c7 < 16) : (1 * c0 + 256 * c1 + 65536 * c2 + 16777216 * c3 + 4294967296 * c4 + 1099511627776 * c5 + 281474976710656 * c6 + 72057594037927936 * c7) * 72340172838076673 = 18446744073709551616 * (1 * c1 + 257 * c2 + 65793 * c3 + 16843009 * c4 + 4311810305 * c5 + 1103823438081 * c6 + 282578800148737 * c7) + (72340172838076673 * c0 + 72340172838076672 * c1 + 72340172838076416 * c2 + 72340172838010880 * c3 + 72340172821233664 * c4 + 72340168526266368 * c5 + 72339069014638592 * c6 + 72057594037927936 * c7) := by omega
theorem own_e_R0 (c0 c1 c2 c3 c4 c5 c6 c7 : Int) (r0 : 0 ≤ c0) (s0 : c0 < 16) (r1 : 0 ≤ c1) (s1 : c1 < 16) (r2 : 0 ≤ c2) (s2 : c2 < 16) (r3 : 0 ≤ c3) (s3 : c3 < 16) (r4 : 0 ≤ c4) (s4 : c4 < 16) (r5 : 0 ≤ c5) (s5 : c5 < 16) (r6 : 0 ≤ c6) (s6 : c6 < 16) (r7 : 0 ≤ c7) (s7 : c7 < 16) : 0 ≤ 72340172838076673 * c0 + 72340172838076672 * c1 + 72340172838076416 * c2 + 72340172838010880 * c3 + 72340172821233664 * c4 + 72340168526266368 * c5 + 72339069014638592 * c6 + 72057594037927936 * c7 := by omega
theorem own_e_R1 (c0 c1 c2 c3 c4 c5 c6 c7 : Int) (r0 : 0 ≤ c0) (s0 : c0 < 16) (r1 : 0 ≤ c1) (s1 : c1 < 16) (r2 : 0 ≤ c2) (s2 : c2 < 16) (r3 : 0 ≤ c3) (s3 : c3 < 16) (r4 : 0 ≤ c4) (s4 : c4 < 16) (r5 : 0 ≤ c5) (s5 : c5 < 16) (r6 : 0 ≤ c6) (s6 : c6 < 16) (r7 : 0 ≤ c7) (s7 : c7 < 16) : 72340172838076673 * c0 + 72340172838076672 * c1 + 72340172838076416 * c2 + 72340172838010880 * c3 + 72340172821233664 * c4 + 72340168526266368 * c5 + 72339069014638592 * c6 + 72057594037927936 * c7 < 18446744073709551616 := by omega
theorem own_e_top (c0 c1 c2 c3 c4 c5 c6 c7 : Int) (r0 : 0 ≤ c0) (s0 : c0 < 16) (r1 : 0 ≤ c1) (s1 : c1 < 16) (r2 : 0 ≤ c2) (s2 : c2 < 16) (r3 : 0 ≤ c3) (s3 : c3 < 16) (r4 : 0 ≤ c4) (s4 : c4 < 16) (r5 : 0 ≤ c5) (s5 : c5 < 16) (r6 : 0 ≤ c6) (s6 : c6 < 16) (r7 : 0 ≤ c7) (s7 : c7 < 16) : 72340172838076673 * c0 + 72340172838076672 * c1 + 72340172838076416 * c2 + 72340172838010880 * c3 + 72340172821233664 * c4 + 72340168526266368 * c5 + 72339069014638592 * c6 + 72057594037927936 * c7 = 72057594037927936 * (c0 + c1 + c2 + c3 + c4 + c5 + c6 + c7) + (282578800148737 * c0 + 282578800148736 * c1 + 282578800148480 * c2 + 282578800082944 * c3 + 282578783305728 * c4 + 282574488338432 * c5 + 281474976710656 * c6) := by omega
theorem own_e_low0 (c0 c1 c2 c3 c4 c5 c6 c7 : Int) (r0 : 0 ≤ c0) (s0 : c0 < 16) (r1 : 0 ≤ c1) (s1 : c1 < 16) (r2 : 0 ≤ c2) (s2 : c2 < 16) (r3 : 0 ≤ c3) (s3 : c3 < 16) (r4 : 0 ≤ c4) (s4 : c4 < 16) (r5 : 0 ≤ c5) (s5 : c5 < 16) (r6 : 0 ≤ c6) (s6 : c6 < 16) (r7 : 0 ≤ c7) (s7 : c7 < 16) : 0 ≤ 282578800148737 * c0 + 282578800148736 * c1 + 282578800148480 * c2 + 282578800082944 * c3 + 282578783305728 * c4 + 282574488338432 * c5 + 281474976710656 * c6 := by omega
theorem own_e_low1 (c0 c1 c2 c3 c4 c5 c6 c7 : Int) (r0 : 0 ≤ c0) (s0 : c0 < 16) (r1 : 0 ≤ c1) (s1 : c1 < 16) (r2 : 0 ≤ c2) (s2 : c2 < 16) (r3 : 0 ≤ c3) (s3 : c3 < 16) (r4 : 0 ≤ c4) (s4 : c4 < 16) (r5 : 0 ≤ c5) (s5 : c5 < 16) (r6 : 0 ≤ c6) (s6 : c6 < 16) (r7 : 0 ≤ c7) (s7 : c7 < 16) : 282578800148737 * c0 + 282578800148736 * c1 + 282578800148480 * c2 + 282578800082944 * c3 + 282578783305728 * c4 + 282574488338432 * c5 + 281474976710656 * c6 < 72057594037927936 := by omega
theorem own_e_Y1 (c0 c1 c2 c3 c4 c5 c6 c7 : Int) (r0 : 0 ≤ c0) (s0 : c0 < 16) (r1 : 0 ≤ c1) (s1 : c1 < 16) (r2 : 0 ≤ c2) (s2 : c2 < 16) (r3 : 0 ≤ c3) (s3 : c3 < 16) (r4 : 0 ≤ c4) (s4 : c4 < 16) (r5 : 0 ≤ c5) (s5 : c5 < 16) (r6 : 0 ≤ c6) (s6 : c6 < 16) (r7 : 0 ≤ c7) (s7 : c7 < 16) : 1 * c0 + 256 * c1 + 65536 * c2 + 16777216 * c3 + 4294967296 * c4 + 1099511627776 * c5 + 281474976710656 * c6 + 72057594037927936 * c7 = 256 * (1 * c1 + 256 * c2 + 65536 * c3 + 16777216 * c4 + 4294967296 * c5 + 1099511627776 * c6 + 281474976710656 * c7) + (1 * c0) := by omega
theorem own_e_r10 (c0 c1 c2 c3 c4 c5 c6 c7 : Int) (r0 : 0 ≤ c0) (s0 : c0 < 16) (r1 : 0 ≤ c1) (s1 : c1 < 16) (r2 : 0 ≤ c2) (s2 : c2 < 16) (r3 : 0 ≤ c3) (s3 : c3 < 16) (r4 : 0 ≤ c4) (s4 : c4 < 16) (r5 : 0 ≤ c5) (s5 : c5 < 16) (r6 : 0 ≤ c6) (s6 : c6 < 16) (r7 : 0 ≤ c7) (s7 : c7 < 16) : 0 ≤ 1 * c0 := by omega
theorem own_e_r11 (c0 c1 c2 c3 c4 c5 c6 c7 : Int) (r0 : 0 ≤ c0) (s0 : c0 < 16) (r1 : 0 ≤ c1) (s1 : c1 < 16) (r2 : 0 ≤ c2) (s2 : c2 < 16) (r3 : 0 ≤ c3) (s3 : c3 < 16) (r4 : 0 ≤ c4) (s4 : c4 < 16) (r5 : 0 ≤ c5) (s5 : c5 < 16) (r6 : 0 ≤ c6) (s6 : c6 < 16) (r7 : 0 ≤ c7) (s7 : c7 < 16) : 1 * c0 < 256 := by omega
theorem own_e_d10 (c0 c1 c2 c3 c4 c5 c6 c7 : Int) (r0 : 0 ≤ c0) (s0 : c0 < 16) (r1 : 0 ≤ c1) (s1 : c1 < 16) (r2 : 0 ≤ c2) (s2 : c2 < 16) (r3 : 0 ≤ c3) (s3 : c3 < 16) (r4 : 0 ≤ c4) (s4 : c4 < 16) (r5 : 0 ≤ c5) (s5 : c5 < 16) (r6 : 0 ≤ c6) (s6 : c6 < 16) (r7 : 0 ≤ c7) (s7 : c7 < 16) : 0 ≤ 1 * c1 + 256 * c2 + 65536 * c3 + 16777216 * c4 + 4294967296 * c5 + 1099511627776 * c6 + 281474976710656 * c7 := by omega
theorem own_e_u1 (c0 c1 c2 c3 c4 c5 c6 c7 : Int) (r0 : 0 ≤ c0) (s0 : c0 < 16) (r1 : 0 ≤ c1) (s1 : c1 < 16) (r2 : 0 ≤ c2) (s2 : c2 < 16) (r3 : 0 ≤ c3) (s3 : c3 < 16) (r4 : 0 ≤ c4) (s4 : c4 < 16) (r5 : 0 ≤ c5) (s5 : c5 < 16) (r6 : 0 ≤ c6) (s6 : c6 < 16) (r7 : 0 ≤ c7) (s7 : c7 < 16) : (1 * c0 + 256 * c1 + 65536 * c2 + 16777216 * c3 + 4294967296 * c4 + 1099511627776 * c5 + 281474976710656 * c6 + 72057594037927936 * c7) + (1 * c1 + 256 * c2 + 65536 * c3 + 16777216 * c4 + 4294967296 * c5 + 1099511627776 * c6 + 281474976710656 * c7) < 18446744073709551616 := by omega
theorem own_e_U1 (c0 c1 c2 c3 c4 c5 c6 c7 : Int) (r0 : 0 ≤ c0) (s0 : c0 < 16) (r1 : 0 ≤ c1) (s1 : c1 < 16) (r2 : 0 ≤ c2) (s2 : c2 < 16) (r3 : 0 ≤ c3) (s3 : c3 < 16) (r4 : 0 ≤ c4) (s4 : c4 < 16) (r5 : 0 ≤ c5) (s5 : c5 < 16) (r6 : 0 ≤ c6) (s6 : c6 < 16) (r7 : 0 ≤ c7) (s7 : c7 < 16) : (1 * c0 + 256 * c1 + 65536 * c2 + 16777216 * c3 + 4294967296 * c4 + 1099511627776 * c5 + 281474976710656 * c6 + 72057594037927936 * c7) + (1 * c1 + 256 * c2 + 65536 * c3 + 16777216 * c4 + 4294967296 * c5 + 1099511627776 * c6 + 281474976710656 * c7) = 1 * c0 + 257 * c1 + 65792 * c2 + 16842752 * c3 + 4311744512 * c4 + 1103806595072 * c5 + 282574488338432 * c6 + 72339069014638592 * c7 := by omega
theorem own_e_Y2 (c0 c1 c2 c3 c4 c5 c6 c7 : Int) (r0 : 0 ≤ c0) (s0 : c0 < 16) (r1 : 0 ≤ c1) (s1 : c1 < 16) (r2 : 0 ≤ c2) (s2 : c2 < 16) (r3 : 0 ≤ c3) (s3 : c3 < 16) (r4 : 0 ≤ c4) (s4 : c4 < 16) (r5 : 0 ≤ c5) (s5 : c5 < 16) (r6 : 0 ≤ c6) (s6 : c6 < 16) (r7 : 0 ≤ c7) (s7 : c7 < 16) : 1 * c0 + 257 * c1 + 65792 * c2 + 16842752 * c3 + 4311744512 * c4 + 1103806595072 * c5 + 282574488338432 * c6 + 72339069014638592 * c7 = 65536 * (1 * c2 + 257 * c3 + 65792 * c4 + 16842752 * c5 + 4311744512 * c6 + 1103806595072 * c7) + (1 * c0 + 257 * c1 + 256 * c2) := by omega
theorem own_e_r20 (c0 c1 c2 c3 c4 c5 c6 c7 : Int) (r0 : 0 ≤ c0) (s0 : c0 < 16) (r1 : 0 ≤ c1) (s1 : c1 < 16) (r2 : 0 ≤ c2) (s2 : c2 < 16) (r3 : 0 ≤ c3) (s3 : c3 < 16) (r4 : 0 ≤ c4) (s4 : c4 < 16) (r5 : 0 ≤ c5) (s5 : c5 < 16) (r6 : 0 ≤ c6) (s6 : c6 < 16) (r7 : 0 ≤ c7) (s7 : c7 < 16) : 0 ≤ 1 * c0 + 257 * c1 + 256 * c2 := by omega
theorem own_e_r21 (c0 c1 c2 c3 c4 c5 c6 c7 : Int) (r0 : 0 ≤ c0) (s0 : c0 < 16) (r1 : 0 ≤ c1) (s1 : c1 < 16) (r2 : 0 ≤ c2) (s2 : c2 < 16) (r3 : 0 ≤ c3) (s3 : c3 < 16) (r4 : 0 ≤ c4) (s4 : c4 < 16) (r5 : 0 ≤ c5) (s5 : c5 < 16) (r6 : 0 ≤ c6) (s6 : c6 < 16) (r7 : 0 ≤ c7) (s7 : c7 < 16) : 1 * c0 + 257 * c1 + 256 * c2 < 65536 := by omega
theorem own_e_d20 (c0 c1 c2 c3 c4 c5 c6 c7 : Int) (r0 : 0 ≤ c0) (s0 : c0 < 16) (r1 : 0 ≤ c1) (s1 : c1 < 16) (r2 : 0 ≤ c2) (s2 : c2 < 16) (r3 : 0 ≤ c3) (s3 : c3 < 16) (r4 : 0 ≤ c4) (s4 : c4 < 16) (r5 : 0 ≤ c5) (s5 : c5 < 16) (r6 : 0 ≤ c6) (s6 : c6 < 16) (r7 : 0 ≤ c7) (s7 : c7 < 16) : 0 ≤ 1 * c2 + 257 * c3 + 65792 * c4 + 16842752 * c5 + 4311744512 * c6 + 1103806595072 * c7 := by omega
theorem own_e_u2 (c0 c1 c2 c3 c4 c5 c6 c7 : Int) (r0 : 0 ≤ c0) (s0 : c0 < 16) (r1 : 0 ≤ c1) (s1 : c1 < 16) (r2 : 0 ≤ c2) (s2 : c2 < 16) (r3 : 0 ≤ c3) (s3 : c3 < 16) (r4 : 0 ≤ c4) (s4 : c4 < 16) (r5 : 0 ≤ c5) (s5 : c5 < 16) (r6 : 0 ≤ c6) (s6 : c6 < 16) (r7 : 0 ≤ c7) (s7 : c7 < 16) : (1 * c0 + 257 * c1 + 65792 * c2 + 16842752 * c3 + 4311744512 * c4 + 1103806595072 * c5 + 282574488338432 * c6 + 72339069014638592 * c7) + (1 * c2 + 257 * c3 + 65792 * c4 + 16842752 * c5 + 4311744512 * c6 + 1103806595072 * c7) < 18446744073709551616 := by omega
theorem own_e_U2 (c0 c1 c2 c3 c4 c5 c6 c7 : Int) (r0 : 0 ≤ c0) (s0 : c0 < 16) (r1 : 0 ≤ c1) (s1 : c1 < 16) (r2 : 0 ≤ c2) (s2 : c2 < 16) (r3 : 0 ≤ c3) (s3 : c3 < 16) (r4 : 0 ≤ c4) (s4 : c4 < 16) (r5 : 0 ≤ c5) (s5 : c5 < 16) (r6 : 0 ≤ c6) (s6 : c6 < 16) (r7 : 0 ≤ c7) (s7 : c7 < 16) : (1 * c0 + 257 * c1 + 65792 * c2 + 16842752 * c3 + 4311744512 * c4 + 1103806595072 * c5 + 282574488338432 * c6 + 72339069014638592 * c7) + (1 * c2 + 257 * c3 + 65792 * c4 + 16842752 * c5 + 4311744512 * c6 + 1103806595072 * c7) = 1 * c0 + 257 * c1 + 65793 * c2 + 16843009 * c3 + 4311810304 * c4 + 1103823437824 * c5 + 282578800082944 * c6 + 72340172821233664 * c7 := by omega
theorem own_e_Y3 (c0 c1 c2 c3 c4 c5 c6 c7 : Int) (r0 : 0 ≤ c0) (s0 : c0 < 16) (r1 : 0 ≤ c1) (s1 : c1 < 16) (r2 : 0 ≤ c2) (s2 : c2 < 16) (r3 : 0 ≤ c3) (s3 : c3 < 16) (r4 : 0 ≤ c4) (s4 : c4 < 16) (r5 : 0 ≤ c5) (s5 : c5 < 16) (r6 : 0 ≤ c6) (s6 : c6 < 16) (r7 : 0 ≤ c7) (s7 : c7 < 16) : 1 * c0 + 257 * c1 + 65793 * c2 + 16843009 * c3 + 4311810304 * c4 + 1103823437824 * c5 + 282578800082944 * c6 + 72340172821233664 * c7 = 4294967296 * (1 * c4 + 257 * c5 + 65793 * c6 + 16843009 * c7) + (1 * c0 + 257 * c1 + 65793 * c2 + 16843009 * c3 + 16843008 * c4 + 16842752 * c5 + 16777216 * c6) := by omega
theorem own_e_r30 (c0 c1 c2 c3 c4 c5 c6 c7 : Int) (r0 : 0 ≤ c0) (s0 : c0 < 16) (r1 : 0 ≤ c1) (s1 : c1 < 16) (r2 : 0 ≤ c2) (s2 : c2 < 16) (r3 : 0 ≤ c3) (s3 : c3 < 16) (r4 : 0 ≤ c4) (s4 : c4 < 16) (r5 : 0 ≤ c5) (s5 : c5 < 16) (r6 : 0 ≤ c6) (s6 : c6 < 16) (r7 : 0 ≤ c7) (s7 : c7 < 16) : 0 ≤ 1 * c0 + 257 * c1 + 65793 * c2 + 16843009 * c3 + 16843008 * c4 + 16842752 * c5 + 16777216 * c6 := by omega
theorem own_e_r31 (c0 c1 c2 c3 c4 c5 c6 c7 : Int) (r0 : 0 ≤ c0) (s0 : c0 < 16) (r1 : 0 ≤ c1) (s1 : c1 < 16) (r2 : 0 ≤ c2) (s2 : c2 < 16) (r3 : 0 ≤ c3) (s3 : c3 < 16) (r4 : 0 ≤ c4) (s4 : c4 < 16) (r5 : 0 ≤ c5) (s5 : c5 < 16) (r6 : 0 ≤ c6) (s6 : c6 < 16) (r7 : 0 ≤ c7) (s7 : c7 < 16) : 1 * c0 + 257 * c1 + 65793 * c2 + 16843009 * c3 + 16843008 * c4 + 16842752 * c5 + 16777216 * c6 < 4294967296 := by omega
theorem own_e_d30 (c0 c1 c2 c3 c4 c5 c6 c7 : Int) (r0 : 0 ≤ c0) (s0 : c0 < 16) (r1 : 0 ≤ c1) (s1 : c1 < 16) (r2 : 0 ≤ c2) (s2 : c2 < 16) (r3 : 0 ≤ c3) (s3 : c3 < 16) (r4 : 0 ≤ c4) (s4 : c4 < 16) (r5 : 0 ≤ c5) (s5 : c5 < 16) (r6 : 0 ≤ c6) (s6 : c6 < 16) (r7 : 0 ≤ c7) (s7 : c7 < 16) : 0 ≤ 1 * c4 + 257 * c5 + 65793 * c6 + 16843009 * c7 := by omega
theorem own_e_u3 (c0 c1 c2 c3 c4 c5 c6 c7 : Int) (r0 : 0 ≤ c0) (s0 : c0 < 16) (r1 : 0 ≤ c1) (s1 : c1 < 16) (r2 : 0 ≤ c2) (s2 : c2 < 16) (r3 : 0 ≤ c3) (s3 : c3 < 16) (r4 : 0 ≤ c4) (s4 : c4 < 16) (r5 : 0 ≤ c5) (s5 : c5 < 16) (r6 : 0 ≤ c6) (s6 : c6 < 16) (r7 : 0 ≤ c7) (s7 : c7 < 16) : (1 * c0 + 257 * c1 + 65793 * c2 + 16843009 * c3 + 4311810304 * c4 + 1103823437824 * c5 + 282578800082944 * c6 + 72340172821233664 * c7) + (1 * c4 + 257 * c5 + 65793 * c6 + 16843009 * c7) < 18446744073709551616 := by omega
theorem own_e_U3 (c0 c1 c2 c3 c4 c5 c6 c7 : Int) (r0 : 0 ≤ c0) (s0 : c0 < 16) (r1 : 0 ≤ c1) (s1 : c1 < 16) (r2 : 0 ≤ c2) (s2 : c2 < 16) (r3 : 0 ≤ c3) (s3 : c3 < 16) (r4 : 0 ≤ c4) (s4 : c4 < 16) (r5 : 0 ≤ c5) (s5 : c5 < 16) (r6 : 0 ≤ c6) (s6 : c6 < 16) (r7 : 0 ≤ c7) (s7 : c7 < 16) : (1 * c0 + 257 * c1 + 65793 * c2 + 16843009 * c3 + 4311810304 * c4 + 1103823437824 * c5 + 282578800082944 * c6 + 72340172821233664 * c7) + (1 * c4 + 257 * c5 + 65793 * c6 + 16843009 * c7) = 256 * (1 * c1 + 257 * c2 + 65793 * c3 + 16843009 * c4 + 4311810305 * c5 + 1103823438081 * c6 + 282578800148737 * c7) + (c0 + c1 + c2 + c3 + c4 + c5 + c6 + c7) := by omega
theorem own_e_S0 (c0 c1 c2 c3 c4 c5 c6 c7 : Int) (r0 : 0 ≤ c0) (s0 : c0 < 16) (r1 : 0 ≤ c1) (s1 : c1 < 16) (r2 : 0 ≤ c2) (s2 : c2 < 16) (r3 : 0 ≤ c3) (s3 : c3 < 16) (r4 : 0 ≤ c4) (s4 : c4 < 16) (r5 : 0 ≤ c5) (s5 : c5 < 16) (r6 : 0 ≤ c6) (s6 : c6 < 16) (r7 : 0 ≤ c7) (s7 : c7 < 16) : 0 ≤ c0 + c1 + c2 + c3 + c4 + c5 + c6 + c7 := by omega
theorem own_e_S1 (c0 c1 c2 c3 c4 c5 c6 c7 : Int) (r0 : 0 ≤ c0) (s0 : c0 < 16) (r1 : 0 ≤ c1) (s1 : c1 < 16) (r2 : 0 ≤ c2) (s2 : c2 < 16) (r3 : 0 ≤ c3) (s3 : c3 < 16) (r4 : 0 ≤ c4) (s4 : c4 < 16) (r5 : 0 ≤ c5) (s5 : c5 < 16) (r6 : 0 ≤ c6) (s6 : c6 < 16) (r7 : 0 ≤ c7) (s7 : c7 < 16) : c0 + c1 + c2 + c3 + c4 + c5 + c6 + c7 < 128 := by omega
theorem own_l2 (x : Int64) (S : Int) (h : x.toInt = S) (h0 : 0 ≤ S) (h1 : S < 128) : x.toInt32.toInt = S := by
  have c := c_l2i x
  have cl := Int32.le_toInt x.toInt32
  have cu := Int32.toInt_lt x.toInt32
  omega
theorem own_r2 (x : Int64) (q S : Int) (h : x.toInt % 18446744073709551616 = 256 * q + S) (h0 : 0 ≤ S) (h1 : S < 128) : ((x.toInt32) &&& (127 : Int32)).toInt = S := by
  have k := c_mask x.toInt32 127 7 (by decide) (by decide)
  have c := c_l2i x
  have p7 : ((2 ^ 7 : Nat) : Int) = 128 := by decide
  rw [k, p7]
  omega
theorem own_left (y : Int64) (c0 c1 c2 c3 c4 c5 c6 c7 : Int) (r0 : 0 ≤ c0) (s0 : c0 < 16) (r1 : 0 ≤ c1) (s1 : c1 < 16) (r2 : 0 ≤ c2) (s2 : c2 < 16) (r3 : 0 ≤ c3) (s3 : c3 < 16) (r4 : 0 ≤ c4) (s4 : c4 < 16) (r5 : 0 ≤ c5) (s5 : c5 < 16) (r6 : 0 ≤ c6) (s6 : c6 < 16) (r7 : 0 ≤ c7) (s7 : c7 < 16) (hY : y.toInt % 18446744073709551616 = 1 * c0 + 256 * c1 + 65536 * c2 + 16777216 * c3 + 4294967296 * c4 + 1099511627776 * c5 + 281474976710656 * c6 + 72057594037927936 * c7) : (f2_36 y).toInt = c0 + c1 + c2 + c3 + c4 + c5 + c6 + c7 := by
  unfold f2_36
  have m := own_mulu y 72340172838076673 _ 72340172838076673 (1 * c1 + 257 * c2 + 65793 * c3 + 16843009 * c4 + 4311810305 * c5 + 1103823438081 * c6 + 282578800148737 * c7) (72340172838076673 * c0 + 72340172838076672 * c1 + 72340172838076416 * c2 + 72340172838010880 * c3 + 72340172821233664 * c4 + 72340168526266368 * c5 + 72339069014638592 * c6 + 72057594037927936 * c7) hY rfl (own_e_prod c0 c1 c2 c3 c4 c5 c6 c7 r0 s0 r1 s1 r2 s2 r3 s3 r4 s4 r5 s5 r6 s6 r7 s7) (own_e_R0 c0 c1 c2 c3 c4 c5 c6 c7 r0 s0 r1 s1 r2 s2 r3 s3 r4 s4 r5 s5 r6 s6 r7 s7) (own_e_R1 c0 c1 c2 c3 c4 c5 c6 c7 r0 s0 r1 s1 r2 s2 r3 s3 r4 s4 r5 s5 r6 s6 r7 s7)
  have s := own_shru (y * 72340172838076673) 56 56 (by decide) (by decide) _ (c0 + c1 + c2 + c3 + c4 + c5 + c6 + c7) (282578800148737 * c0 + 282578800148736 * c1 + 282578800148480 * c2 + 282578800082944 * c3 + 282578783305728 * c4 + 282574488338432 * c5 + 281474976710656 * c6) 72057594037927936 (by decide) (by decide) m (own_e_top c0 c1 c2 c3 c4 c5 c6 c7 r0 s0 r1 s1 r2 s2 r3 s3 r4 s4 r5 s5 r6 s6 r7 s7) (own_e_low0 c0 c1 c2 c3 c4 c5 c6 c7 r0 s0 r1 s1 r2 s2 r3 s3 r4 s4 r5 s5 r6 s6 r7 s7) (own_e_low1 c0 c1 c2 c3 c4 c5 c6 c7 r0 s0 r1 s1 r2 s2 r3 s3 r4 s4 r5 s5 r6 s6 r7 s7)
  exact own_l2 _ _ s (own_e_S0 c0 c1 c2 c3 c4 c5 c6 c7 r0 s0 r1 s1 r2 s2 r3 s3 r4 s4 r5 s5 r6 s6 r7 s7) (own_e_S1 c0 c1 c2 c3 c4 c5 c6 c7 r0 s0 r1 s1 r2 s2 r3 s3 r4 s4 r5 s5 r6 s6 r7 s7)
theorem own_right (y : Int64) (c0 c1 c2 c3 c4 c5 c6 c7 : Int) (r0 : 0 ≤ c0) (s0 : c0 < 16) (r1 : 0 ≤ c1) (s1 : c1 < 16) (r2 : 0 ≤ c2) (s2 : c2 < 16) (r3 : 0 ≤ c3) (s3 : c3 < 16) (r4 : 0 ≤ c4) (s4 : c4 < 16) (r5 : 0 ≤ c5) (s5 : c5 < 16) (r6 : 0 ≤ c6) (s6 : c6 < 16) (r7 : 0 ≤ c7) (s7 : c7 < 16) (hY : y.toInt % 18446744073709551616 = 1 * c0 + 256 * c1 + 65536 * c2 + 16777216 * c3 + 4294967296 * c4 + 1099511627776 * c5 + 281474976710656 * c6 + 72057594037927936 * c7) : (f3_34 y).toInt = c0 + c1 + c2 + c3 + c4 + c5 + c6 + c7 := by
  unfold f3_34 f3_41 f3_48 f3_55
  have s101 := own_shru y 8 8 (by decide) (by decide) _ (1 * c1 + 256 * c2 + 65536 * c3 + 16777216 * c4 + 4294967296 * c5 + 1099511627776 * c6 + 281474976710656 * c7) (1 * c0) 256 (by decide) (by decide) hY (own_e_Y1 c0 c1 c2 c3 c4 c5 c6 c7 r0 s0 r1 s1 r2 s2 r3 s3 r4 s4 r5 s5 r6 s6 r7 s7) (own_e_r10 c0 c1 c2 c3 c4 c5 c6 c7 r0 s0 r1 s1 r2 s2 r3 s3 r4 s4 r5 s5 r6 s6 r7 s7) (own_e_r11 c0 c1 c2 c3 c4 c5 c6 c7 r0 s0 r1 s1 r2 s2 r3 s3 r4 s4 r5 s5 r6 s6 r7 s7)
  have a101 := own_addu y _ _ _ hY s101 (own_e_d10 c0 c1 c2 c3 c4 c5 c6 c7 r0 s0 r1 s1 r2 s2 r3 s3 r4 s4 r5 s5 r6 s6 r7 s7) (own_e_u1 c0 c1 c2 c3 c4 c5 c6 c7 r0 s0 r1 s1 r2 s2 r3 s3 r4 s4 r5 s5 r6 s6 r7 s7)
  rw [own_e_U1 c0 c1 c2 c3 c4 c5 c6 c7 r0 s0 r1 s1 r2 s2 r3 s3 r4 s4 r5 s5 r6 s6 r7 s7] at a101
  generalize (y + (y.toUInt64 >>> ((8 : Int32) &&& 0x3f).toInt64.toUInt64).toInt64) = y1 at *
  have s102 := own_shru y1 16 16 (by decide) (by decide) _ (1 * c2 + 257 * c3 + 65792 * c4 + 16842752 * c5 + 4311744512 * c6 + 1103806595072 * c7) (1 * c0 + 257 * c1 + 256 * c2) 65536 (by decide) (by decide) a101 (own_e_Y2 c0 c1 c2 c3 c4 c5 c6 c7 r0 s0 r1 s1 r2 s2 r3 s3 r4 s4 r5 s5 r6 s6 r7 s7) (own_e_r20 c0 c1 c2 c3 c4 c5 c6 c7 r0 s0 r1 s1 r2 s2 r3 s3 r4 s4 r5 s5 r6 s6 r7 s7) (own_e_r21 c0 c1 c2 c3 c4 c5 c6 c7 r0 s0 r1 s1 r2 s2 r3 s3 r4 s4 r5 s5 r6 s6 r7 s7)
  have a102 := own_addu y1 _ _ _ a101 s102 (own_e_d20 c0 c1 c2 c3 c4 c5 c6 c7 r0 s0 r1 s1 r2 s2 r3 s3 r4 s4 r5 s5 r6 s6 r7 s7) (own_e_u2 c0 c1 c2 c3 c4 c5 c6 c7 r0 s0 r1 s1 r2 s2 r3 s3 r4 s4 r5 s5 r6 s6 r7 s7)
  rw [own_e_U2 c0 c1 c2 c3 c4 c5 c6 c7 r0 s0 r1 s1 r2 s2 r3 s3 r4 s4 r5 s5 r6 s6 r7 s7] at a102
  generalize (y1 + (y1.toUInt64 >>> ((16 : Int32) &&& 0x3f).toInt64.toUInt64).toInt64) = y2 at *
  have s103 := own_shru y2 32 32 (by decide) (by decide) _ (1 * c4 + 257 * c5 + 65793 * c6 + 16843009 * c7) (1 * c0 + 257 * c1 + 65793 * c2 + 16843009 * c3 + 16843008 * c4 + 16842752 * c5 + 16777216 * c6) 4294967296 (by decide) (by decide) a102 (own_e_Y3 c0 c1 c2 c3 c4 c5 c6 c7 r0 s0 r1 s1 r2 s2 r3 s3 r4 s4 r5 s5 r6 s6 r7 s7) (own_e_r30 c0 c1 c2 c3 c4 c5 c6 c7 r0 s0 r1 s1 r2 s2 r3 s3 r4 s4 r5 s5 r6 s6 r7 s7) (own_e_r31 c0 c1 c2 c3 c4 c5 c6 c7 r0 s0 r1 s1 r2 s2 r3 s3 r4 s4 r5 s5 r6 s6 r7 s7)
  have a103 := own_addu y2 _ _ _ a102 s103 (own_e_d30 c0 c1 c2 c3 c4 c5 c6 c7 r0 s0 r1 s1 r2 s2 r3 s3 r4 s4 r5 s5 r6 s6 r7 s7) (own_e_u3 c0 c1 c2 c3 c4 c5 c6 c7 r0 s0 r1 s1 r2 s2 r3 s3 r4 s4 r5 s5 r6 s6 r7 s7)
  rw [own_e_U3 c0 c1 c2 c3 c4 c5 c6 c7 r0 s0 r1 s1 r2 s2 r3 s3 r4 s4 r5 s5 r6 s6 r7 s7] at a103
  exact own_r2 _ _ _ a103 (own_e_S0 c0 c1 c2 c3 c4 c5 c6 c7 r0 s0 r1 s1 r2 s2 r3 s3 r4 s4 r5 s5 r6 s6 r7 s7) (own_e_S1 c0 c1 c2 c3 c4 c5 c6 c7 r0 s0 r1 s1 r2 s2 r3 s3 r4 s4 r5 s5 r6 s6 r7 s7)
set_option maxHeartbeats 4000000 in
theorem own_nib (z : Int64) : f2_36 (z &&& (1085102592571150095 : Int64)) = f3_34 (z &&& (1085102592571150095 : Int64)) := by
  have hY : (z &&& (1085102592571150095 : Int64)).toInt % 18446744073709551616 = ((z.toBitVec.toNat &&& 1085102592571150095 : Nat) : Int) := by
    have h1 : (z &&& (1085102592571150095 : Int64)).toBitVec.toNat = z.toBitVec.toNat &&& 1085102592571150095 := by
      show (z.toBitVec &&& (1085102592571150095 : Int64).toBitVec).toNat = _
      rw [BitVec.toNat_and]; rfl
    rw [← h1]
    show (z &&& (1085102592571150095 : Int64)).toBitVec.toInt % 18446744073709551616 = _
    have h2 := (z &&& (1085102592571150095 : Int64)).toBitVec.isLt
    rw [BitVec.toInt_eq_toNat_cond]
    split <;> omega
  have b0 := own_byte z.toBitVec.toNat 0 (by decide)
  have b1 := own_byte z.toBitVec.toNat 8 (by decide)
  have b2 := own_byte z.toBitVec.toNat 16 (by decide)
  have b3 := own_byte z.toBitVec.toNat 24 (by decide)
  have b4 := own_byte z.toBitVec.toNat 32 (by decide)
  have b5 := own_byte z.toBitVec.toNat 40 (by decide)
  have b6 := own_byte z.toBitVec.toNat 48 (by decide)
  have b7 := own_byte z.toBitVec.toNat 56 (by decide)
  have hlt : (z.toBitVec.toNat &&& 1085102592571150095) < 2 ^ 64 := Nat.lt_of_le_of_lt Nat.and_le_right (by decide)
  generalize (z.toBitVec.toNat &&& 1085102592571150095) = Y at *
  generalize (z &&& (1085102592571150095 : Int64)) = y at *
  obtain ⟨c0, hc0⟩ : ∃ c : Int, c = ((Y / 2 ^ 0 % 256 : Nat) : Int) := ⟨_, rfl⟩
  obtain ⟨c1, hc1⟩ : ∃ c : Int, c = ((Y / 2 ^ 8 % 256 : Nat) : Int) := ⟨_, rfl⟩
  obtain ⟨c2, hc2⟩ : ∃ c : Int, c = ((Y / 2 ^ 16 % 256 : Nat) : Int) := ⟨_, rfl⟩
  obtain ⟨c3, hc3⟩ : ∃ c : Int, c = ((Y / 2 ^ 24 % 256 : Nat) : Int) := ⟨_, rfl⟩
  obtain ⟨c4, hc4⟩ : ∃ c : Int, c = ((Y / 2 ^ 32 % 256 : Nat) : Int) := ⟨_, rfl⟩
  obtain ⟨c5, hc5⟩ : ∃ c : Int, c = ((Y / 2 ^ 40 % 256 : Nat) : Int) := ⟨_, rfl⟩
  obtain ⟨c6, hc6⟩ : ∃ c : Int, c = ((Y / 2 ^ 48 % 256 : Nat) : Int) := ⟨_, rfl⟩
  obtain ⟨c7, hc7⟩ : ∃ c : Int, c = ((Y / 2 ^ 56 % 256 : Nat) : Int) := ⟨_, rfl⟩
  have hsum : (Y : Int) = c0 + 256 * c1 + 65536 * c2 + 16777216 * c3 + 4294967296 * c4 + 1099511627776 * c5 + 281474976710656 * c6 + 72057594037927936 * c7 := by
    rw [hc0, hc1, hc2, hc3, hc4, hc5, hc6, hc7]; omega
  have r0 : 0 ≤ c0 := by rw [hc0]; exact Int.natCast_nonneg _
  have s0 : c0 < 16 := by rw [hc0]; exact Int.ofNat_lt.mpr b0
  have r1 : 0 ≤ c1 := by rw [hc1]; exact Int.natCast_nonneg _
  have s1 : c1 < 16 := by rw [hc1]; exact Int.ofNat_lt.mpr b1
  have r2 : 0 ≤ c2 := by rw [hc2]; exact Int.natCast_nonneg _
  have s2 : c2 < 16 := by rw [hc2]; exact Int.ofNat_lt.mpr b2
  have r3 : 0 ≤ c3 := by rw [hc3]; exact Int.natCast_nonneg _
  have s3 : c3 < 16 := by rw [hc3]; exact Int.ofNat_lt.mpr b3
  have r4 : 0 ≤ c4 := by rw [hc4]; exact Int.natCast_nonneg _
  have s4 : c4 < 16 := by rw [hc4]; exact Int.ofNat_lt.mpr b4
  have r5 : 0 ≤ c5 := by rw [hc5]; exact Int.natCast_nonneg _
  have s5 : c5 < 16 := by rw [hc5]; exact Int.ofNat_lt.mpr b5
  have r6 : 0 ≤ c6 := by rw [hc6]; exact Int.natCast_nonneg _
  have s6 : c6 < 16 := by rw [hc6]; exact Int.ofNat_lt.mpr b6
  have r7 : 0 ≤ c7 := by rw [hc7]; exact Int.natCast_nonneg _
  have s7 : c7 < 16 := by rw [hc7]; exact Int.ofNat_lt.mpr b7
  have hY' : y.toInt % 18446744073709551616 = 1 * c0 + 256 * c1 + 65536 * c2 + 16777216 * c3 + 4294967296 * c4 + 1099511627776 * c5 + 281474976710656 * c6 + 72057594037927936 * c7 := by rw [hY, hsum, Int.one_mul]
  apply Int32.toInt_inj.mp
  rw [own_left y c0 c1 c2 c3 c4 c5 c6 c7 r0 s0 r1 s1 r2 s2 r3 s3 r4 s4 r5 s5 r6 s6 r7 s7 hY', own_right y c0 c1 c2 c3 c4 c5 c6 c7 r0 s0 r1 s1 r2 s2 r3 s3 r4 s4 r5 s5 r6 s6 r7 s7 hY']
theorem own_bits (v : Int64) : f2_0 v = f3_0 v := by
  unfold f2_0 f2_12 f2_26 f3_0 f3_10 f3_24
  exact own_nib _
theorem law_true (q0 q1 q2 q3 : Int64) (p4 : Int32) : f0_0 q0 q1 q2 q3 p4 = 1 := by
  unfold f0_0 f1n0_0 f1n1_0 f1n2_0
  simp only [own_bits, Int32.zero_add, if_true, ite_self]

set_option maxRecDepth 65536 in
set_option maxHeartbeats 4000000 in
theorem comes_1 {Post : Tables → Env → Array Value → State → Outcome → State → Prop} (hpost : ∀ tb e args s v u, (limb_1_1.after args s (.returned v) u = true ∧ limb_1_2.after args s (.returned v) u = true ∧ True) → FrameEnd s (.returned v) u (Jvm.fieldLocs frame_1_writes args s ++ Jvm.arrayLocs frame_1_arrays args s ++ Jvm.staticLocs frame_1_statics s) 16 128 → Post tb e args s (.returned v) u) :
    ArmFor flags0 classFile x code maxLocals ret World_1 tables_1 room_1 Calls_1 rest_1 Pre_1 Post := by
  intro l hfl _ _ p e ha hc hk s m args below hf hA hF happ hP
  obtain ⟨hcalls, hrest, hpre⟩ := hP
  obtain ⟨-, -, -, hnamed, -, -, -, hat⟩ := (Spec.applies_iff hf).mp happ
  obtain ⟨hg, hn⟩ := and_e (Cond.before_iff.mp (show (Jvm.Cond.and given_1 narrow_1).before args s = true from hpre))
  obtain ⟨g1, g2⟩ := and_e hg
  obtain ⟨ga0, gb0⟩ := and_e g2
  obtain ⟨ga1, gb1⟩ := and_e gb0
  obtain ⟨ga2, gb2⟩ := and_e gb1
  obtain ⟨ga3, gb3⟩ := and_e gb2
  obtain ⟨w0, w1, w2, w3, w4, rfl⟩ : ∃ w0 w1 w2 w3 w4 : Value, args = #[w0, w1, w2, w3, w4] := by
    have hs : args.size = 5 := by simpa [Cond.value, given_1] using g1
    obtain ⟨L⟩ := args
    match L, hs with
    | [w0, w1, w2, w3, w4], _ => exact ⟨w0, w1, w2, w3, w4, rfl⟩
  have hw := fun d (hd : d ∈ tables_1) => atoms_spec (ws := Jvm.Cond.code x code maxLocals ret :: tables_1) hat d (List.mem_cons_of_mem _ hd)
  obtain ⟨i0, ei0⟩ := isL_v ga0
  obtain rfl : w0 = (.long i0) := Option.some.inj ei0
  obtain ⟨i1, ei1⟩ := isL_v ga1
  obtain rfl : w1 = (.long i1) := Option.some.inj ei1
  obtain ⟨i2, ei2⟩ := isL_v ga2
  obtain rfl : w2 = (.long i2) := Option.some.inj ei2
  obtain ⟨i3, ei3⟩ := isL_v ga3
  obtain rfl : w3 = (.long i3) := Option.some.inj ei3
  obtain ⟨i4, ei4⟩ := is_v gb3
  obtain rfl : w4 = (.int i4) := Option.some.inj ei4
  obtain ⟨n, o, h1, h2, h3, _, L, rfl, ⟨rfl, N⟩, hq⟩ := rm0 l s _ hw tables_1 i0 i1 i2 i3 i4 s.heap s.heap.size (Nat.le_refl _) p e ha hc hk s m _ below hf ((Spec.applies_iff_loose hf).mp happ).1 ⟨rfl, State.Warmed39.refl s, rfl⟩ trivial
  rw [law_true] at *
  refine ⟨n, _, h1, h2, h3, hpost _ _ _ _ _ _ ⟨Cond.after_iff.mpr rfl, Cond.after_iff.mpr (eq_i res_at (Term.int_eval (1)) rfl), trivial⟩ ⟨hq.1, hq.2.1, (hq.2.2.sift fun y hy => Or.inr (N y hy)).mono (by decide) (by decide)⟩⟩
theorem main_1_1 : Claimed_1_1 := comes_1 fun _ _ _ _ _ _ h hF => ⟨h.1, hF⟩
theorem main_1_2 : Claimed_1_2 := comes_1 fun _ _ _ _ _ _ h hF => ⟨h.2.1, hF⟩
end Jvm.Pilot.@@N@@
namespace Jvm.Pilot.@@N@@
open Jvm Jvm.ClassFile Sem Op Lib Jvm.Free Jvm.Stand Jvm.Pilot.@@N@@.Jvm.D
/-! MADE BY PROGRAM (witnessworld.py) out of the Statement's table words and the real class files: 16 classes; the members and pool entries that the words name. The judged class is class 1, her method 2. -/
namespace start1
open Jvm.ClassFile
def u (s : String) : CpInfo := .utf8 (stringToUtf16 s)
/-- a pool by its gaps: so many unusable entries, then the entry; so many at the end -/
def gap : Nat → List CpInfo → List CpInfo
  | 0, r => r
  | n + 1, r => .unusable :: gap n r
def poolList (es : List (Nat × CpInfo)) (last : Nat) : List CpInfo := es.foldr (fun e r => gap e.1 (e.2 :: r)) (gap last [])
def pool (es : List (Nat × CpInfo)) (last : Nat) : Array CpInfo := ⟨poolList es last⟩
def fileOf (pool : Array CpInfo) (this : Nat) (attrs : Array Attribute := #[]) (ms : Array MethodInfo := #[]) (fl : Nat := 33) (sup : Nat := 0) (ifs : Array Nat := #[]) (fds : Array FieldInfo := #[]) : ClassFile where
  minorVersion := 0
  majorVersion := 65
  constantPool := pool
  accessFlags := fl
  thisClass := this
  superClass := sup
  interfaces := ifs
  fields := fds
  methods := ms
  attributes := attrs
def plain (name : String) (sup : Option ClassId) : Class where
  name := name
  kind := .ordinary
  loader := none
  accessFlags := 33
  super := sup
  interfaces := #[]
  cf := none
  fields := #[]
  methods := #[]
  instanceTypes := #[]
  staticTypes := #[]
  resolved := #[]
  callSites := []
  init := .initialized
  statics := none
  mirror := none

def pool0 : Array CpInfo := pool [(5, u "<init>"), (0, u "()V"), (1, .class_ 10), (1, u "java/lang/Object")] 113

def k0m0 : Method := { name := "<init>", desc := "()V", sig := { parameters := [], returnType := none }, accessFlags := 1, code := none }
/-- java/lang/Object -/
def k0 : Class := { plain "java/lang/Object" none with
  accessFlags := 33
  interfaces := #[]
  cf := some (fileOf pool0 8 #[] #[{ accessFlags := 1, nameIndex := 5, descriptorIndex := 6, attributes := #[] }] 33 0 #[] #[])
  fields := #[]
  methods := #[k0m0]
  instanceTypes := #[]
  staticTypes := #[]
  resolved := Array.replicate 124 none
  statics := none }

def pool1 : Array CpInfo := pool [(2, .class_ 4), (1, u "java/lang/Object"), (0, u "<init>"), (0, u "()V"), (0, .long 6148914691236517205), (1, .long 3689348814741910323), (1, .long 1085102592571150095), (1, .long 72340172838076673), (1, .integer 2147483647), (0, .methodref 17 18), (0, .class_ 19), (0, .nameAndType 20 21), (0, u "com/example/conceal/conceal/TransactionRemovalHoldingPinLaw"), (0, u "pop"), (0, u "(J)I"), (0, .methodref 23 24), (0, .class_ 25), (0, .nameAndType 26 27), (0, u "com/example/conceal/conceal/TransactionRemoval"), (0, u "holding"), (0, u "([J[J)I"), (2, u "law"), (0, u "(JJJJI)Z")] 5

def k1m0 : Method := { name := "<init>", desc := "()V", sig := { parameters := [], returnType := none }, accessFlags := 2, code := none }
def k1c1 : Code := { maxStack := 6, maxLocals := 4, code := method_2_code, exceptionTable := #[], attributes := #[] }
def k1m1 : Method := { name := "pop", desc := "(J)I", sig := { parameters := [.long], returnType := some .int }, accessFlags := 10, code := some k1c1 }
def k1c2 : Code := { maxStack := 5, maxLocals := 14, code := code, exceptionTable := #[], attributes := #[] }
def k1m2 : Method := { name := "law", desc := "(JJJJI)Z", sig := { parameters := [.long, .long, .long, .long, .int], returnType := some .boolean }, accessFlags := 9, code := some k1c2 }
/-- com/example/conceal/conceal/TransactionRemovalHoldingPinLaw -/
def k1 : Class := { plain "com/example/conceal/conceal/TransactionRemovalHoldingPinLaw" (some 0) with
  accessFlags := 49
  interfaces := #[]
  cf := some (fileOf pool1 17 #[] #[{ accessFlags := 2, nameIndex := 5, descriptorIndex := 6, attributes := #[] }, { accessFlags := 10, nameIndex := 20, descriptorIndex := 21, attributes := #[] }, { accessFlags := 9, nameIndex := 30, descriptorIndex := 31, attributes := #[] }] 49 2 #[] #[])
  fields := #[]
  methods := #[k1m0, k1m1, k1m2]
  instanceTypes := #[]
  staticTypes := #[]
  resolved := Array.replicate 37 none
  statics := none }

def pool2 : Array CpInfo := pool [(2, .class_ 4), (1, u "java/lang/Object"), (3, .class_ 10), (1, u "com/example/conceal/conceal/TransactionRemoval"), (0, u "database"), (0, u "Lcom/example/conceal/conceal/TransactionDatabase;"), (2, u "minSupport"), (0, u "Lcom/example/conceal/conceal/MinSupport;"), (13, u "itemsetsToHide"), (0, u "Lcom/example/conceal/conceal/ItemsetsToHide;"), (28, u "occurrences"), (0, u "J"), (5, u "candidates"), (0, u "[I"), (2, u "lengths"), (2, u "deck"), (9, u "sensitiveSupports"), (19, u "removals"), (0, u "I"), (6, u "releaseThreshold"), (8, u "keptInRelease"), (2, u "keptInOriginal"), (6, u "itemHolders"), (0, u "[[J"), (4, u "sensitiveHolders"), (41, u "holding"), (0, u "([J[J)I"), (41, .methodref 223 224), (0, .class_ 225), (0, .nameAndType 226 227), (0, u "java/lang/Long"), (0, u "bitCount"), (0, u "(J)I")] 51

def k2c0 : Code := { maxStack := 5, maxLocals := 4, code := prog_54_method_18_code, exceptionTable := #[], attributes := #[] }
def k2m0 : Method := { name := "holding", desc := "([J[J)I", sig := { parameters := [(.array .long), (.array .long)], returnType := some .int }, accessFlags := 8, code := some k2c0 }
/-- com/example/conceal/conceal/TransactionRemoval -/
def k2 : Class := { plain "com/example/conceal/conceal/TransactionRemoval" (some 0) with
  accessFlags := 32
  interfaces := #[]
  cf := some (fileOf pool2 8 #[] #[{ accessFlags := 8, nameIndex := 179, descriptorIndex := 180, attributes := #[] }] 32 2 #[] #[{ accessFlags := 18, nameIndex := 11, descriptorIndex := 12, attributes := #[] }, { accessFlags := 18, nameIndex := 15, descriptorIndex := 16, attributes := #[] }, { accessFlags := 18, nameIndex := 30, descriptorIndex := 31, attributes := #[] }, { accessFlags := 18, nameIndex := 67, descriptorIndex := 68, attributes := #[] }, { accessFlags := 18, nameIndex := 71, descriptorIndex := 68, attributes := #[] }, { accessFlags := 18, nameIndex := 104, descriptorIndex := 105, attributes := #[] }, { accessFlags := 18, nameIndex := 112, descriptorIndex := 105, attributes := #[] }, { accessFlags := 18, nameIndex := 121, descriptorIndex := 105, attributes := #[] }, { accessFlags := 18, nameIndex := 124, descriptorIndex := 105, attributes := #[] }, { accessFlags := 18, nameIndex := 84, descriptorIndex := 68, attributes := #[] }, { accessFlags := 18, nameIndex := 131, descriptorIndex := 132, attributes := #[] }, { accessFlags := 18, nameIndex := 137, descriptorIndex := 132, attributes := #[] }, { accessFlags := 18, nameIndex := 60, descriptorIndex := 61, attributes := #[] }, { accessFlags := 18, nameIndex := 74, descriptorIndex := 68, attributes := #[] }])
  fields := #[{ name := "database", type := (.object "com/example/conceal/conceal/TransactionDatabase"), accessFlags := 18, slot := 0, constantValue := 0 }, { name := "minSupport", type := (.object "com/example/conceal/conceal/MinSupport"), accessFlags := 18, slot := 1, constantValue := 0 }, { name := "itemsetsToHide", type := (.object "com/example/conceal/conceal/ItemsetsToHide"), accessFlags := 18, slot := 2, constantValue := 0 }, { name := "candidates", type := (.array .int), accessFlags := 18, slot := 3, constantValue := 0 }, { name := "lengths", type := (.array .int), accessFlags := 18, slot := 4, constantValue := 0 }, { name := "removals", type := .int, accessFlags := 18, slot := 5, constantValue := 0 }, { name := "releaseThreshold", type := .int, accessFlags := 18, slot := 6, constantValue := 0 }, { name := "keptInRelease", type := .int, accessFlags := 18, slot := 7, constantValue := 0 }, { name := "keptInOriginal", type := .int, accessFlags := 18, slot := 8, constantValue := 0 }, { name := "sensitiveSupports", type := (.array .int), accessFlags := 18, slot := 9, constantValue := 0 }, { name := "itemHolders", type := (.array (.array .long)), accessFlags := 18, slot := 10, constantValue := 0 }, { name := "sensitiveHolders", type := (.array (.array .long)), accessFlags := 18, slot := 11, constantValue := 0 }, { name := "occurrences", type := .long, accessFlags := 18, slot := 12, constantValue := 0 }, { name := "deck", type := (.array .int), accessFlags := 18, slot := 13, constantValue := 0 }]
  methods := #[k2m0]
  instanceTypes := #[(.object "com/example/conceal/conceal/TransactionDatabase"), (.object "com/example/conceal/conceal/MinSupport"), (.object "com/example/conceal/conceal/ItemsetsToHide"), (.array .int), (.array .int), .int, .int, .int, .int, (.array .int), (.array (.array .long)), (.array (.array .long)), .long, (.array .int)]
  staticTypes := #[]
  resolved := Array.replicate 279 none
  statics := none }

def pool3 : Array CpInfo := pool [(1, .class_ 2), (0, u "java/io/Serializable"), (0, .class_ 4), (0, u "java/lang/Object")] 2

/-- java/io/Serializable -/
def k3 : Class := { plain "java/io/Serializable" (some 0) with
  accessFlags := 1537
  interfaces := #[]
  cf := some (fileOf pool3 1 #[] #[] 1537 3 #[] #[])
  fields := #[]
  methods := #[]
  instanceTypes := #[]
  staticTypes := #[]
  resolved := Array.replicate 7 none
  statics := none }

def pool4 : Array CpInfo := pool [(2, .class_ 4), (1, u "java/lang/Object"), (0, u "<init>"), (0, u "()V"), (1, .class_ 10), (1, u "java/lang/Number"), (2, .class_ 14), (0, u "java/io/Serializable"), (0, u "serialVersionUID"), (0, u "J")] 20

def k4m0 : Method := { name := "<init>", desc := "()V", sig := { parameters := [], returnType := none }, accessFlags := 1, code := none }
/-- java/lang/Number -/
def k4 : Class := { plain "java/lang/Number" (some 0) with
  accessFlags := 1057
  interfaces := #[3]
  cf := some (fileOf pool4 8 #[] #[{ accessFlags := 1, nameIndex := 5, descriptorIndex := 6, attributes := #[] }] 1057 2 #[13] #[{ accessFlags := 26, nameIndex := 15, descriptorIndex := 16, attributes := #[] }])
  fields := #[{ name := "serialVersionUID", type := .long, accessFlags := 26, slot := 0, constantValue := 0 }]
  methods := #[k4m0]
  instanceTypes := #[]
  staticTypes := #[.long]
  resolved := Array.replicate 37 none
  statics := none }

def pool5 : Array CpInfo := pool [(1, .class_ 2), (0, u "java/lang/Comparable"), (0, .class_ 4), (0, u "java/lang/Object")] 7

/-- java/lang/Comparable -/
def k5 : Class := { plain "java/lang/Comparable" (some 0) with
  accessFlags := 1537
  interfaces := #[]
  cf := some (fileOf pool5 1 #[] #[] 1537 3 #[] #[])
  fields := #[]
  methods := #[]
  instanceTypes := #[]
  staticTypes := #[]
  resolved := Array.replicate 12 none
  statics := none }

def pool6 : Array CpInfo := pool [(1, .class_ 2), (0, u "java/lang/constant/Constable"), (0, .class_ 4), (0, u "java/lang/Object")] 6

/-- java/lang/constant/Constable -/
def k6 : Class := { plain "java/lang/constant/Constable" (some 0) with
  accessFlags := 1537
  interfaces := #[]
  cf := some (fileOf pool6 1 #[] #[] 1537 3 #[] #[])
  fields := #[]
  methods := #[]
  instanceTypes := #[]
  staticTypes := #[]
  resolved := Array.replicate 11 none
  statics := none }

def pool7 : Array CpInfo := pool [(1, .class_ 2), (0, u "java/lang/constant/ConstantDesc"), (0, .class_ 4), (0, u "java/lang/Object")] 32

/-- java/lang/constant/ConstantDesc -/
def k7 : Class := { plain "java/lang/constant/ConstantDesc" (some 0) with
  accessFlags := 1537
  interfaces := #[]
  cf := some (fileOf pool7 1 #[] #[] 1537 3 #[] #[])
  fields := #[]
  methods := #[]
  instanceTypes := #[]
  staticTypes := #[]
  resolved := Array.replicate 37 none
  statics := none }

def pool8 : Array CpInfo := pool [(1, .class_ 2), (0, u "java/lang/Long"), (98, u "(J)I"), (133, .class_ 237), (1, u "java/lang/Long$LongCache"), (33, .class_ 272), (0, u "java/lang/Number"), (2, u "value"), (0, u "J"), (37, .long 6148914691236517205), (1, .long 3689348814741910323), (1, .long 1085102592571150095), (42, u "TYPE"), (0, u "Ljava/lang/Class;"), (0, .class_ 364), (0, u "java/lang/Comparable"), (0, .class_ 366), (0, u "java/lang/constant/Constable"), (0, .class_ 368), (0, u "java/lang/constant/ConstantDesc"), (0, u "MIN_VALUE"), (1, u "MAX_VALUE"), (4, u "SIZE"), (0, u "I"), (1, u "BYTES"), (1, u "serialVersionUID"), (94, u "bitCount")] 47

def k8c0 : Code := { maxStack := 6, maxLocals := 2, code := jdk_35_method_50_code, exceptionTable := #[], attributes := #[] }
def k8m0 : Method := { name := "bitCount", desc := "(J)I", sig := { parameters := [.long], returnType := some .int }, accessFlags := 9, code := some k8c0 }
/-- java/lang/Long -/
def k8 : Class := { plain "java/lang/Long" (some 4) with
  accessFlags := 49
  interfaces := #[5, 6, 7]
  cf := some (fileOf pool8 1 #[.nestMembers #[235]] #[{ accessFlags := 9, nameIndex := 476, descriptorIndex := 101, attributes := #[] }] 49 271 #[363, 365, 367] #[{ accessFlags := 25, nameIndex := 369, descriptorIndex := 276, attributes := #[] }, { accessFlags := 25, nameIndex := 371, descriptorIndex := 276, attributes := #[] }, { accessFlags := 25, nameIndex := 361, descriptorIndex := 362, attributes := #[] }, { accessFlags := 18, nameIndex := 275, descriptorIndex := 276, attributes := #[] }, { accessFlags := 25, nameIndex := 376, descriptorIndex := 377, attributes := #[] }, { accessFlags := 25, nameIndex := 379, descriptorIndex := 377, attributes := #[] }, { accessFlags := 26, nameIndex := 381, descriptorIndex := 276, attributes := #[] }])
  fields := #[{ name := "MIN_VALUE", type := .long, accessFlags := 25, slot := 0, constantValue := 0 }, { name := "MAX_VALUE", type := .long, accessFlags := 25, slot := 1, constantValue := 0 }, { name := "TYPE", type := (.object "java/lang/Class"), accessFlags := 25, slot := 2, constantValue := 0 }, { name := "value", type := .long, accessFlags := 18, slot := 0, constantValue := 0 }, { name := "SIZE", type := .int, accessFlags := 25, slot := 3, constantValue := 0 }, { name := "BYTES", type := .int, accessFlags := 25, slot := 4, constantValue := 0 }, { name := "serialVersionUID", type := .long, accessFlags := 26, slot := 5, constantValue := 0 }]
  methods := #[k8m0]
  instanceTypes := #[.long]
  staticTypes := #[.long, .long, (.object "java/lang/Class"), .int, .int, .long]
  resolved := Array.replicate 524 none
  statics := none }

def pool9 : Array CpInfo := pool [(1, u "java/lang/Cloneable"), (0, .class_ 1), (0, u "java/lang/Object"), (0, .class_ 3)] 3

/-- java/lang/Cloneable -/
def k9 : Class := { plain "java/lang/Cloneable" (some 0) with
  accessFlags := 1537
  interfaces := #[]
  cf := some (fileOf pool9 2 #[] #[] 1537 4 #[] #[])
  fields := #[]
  methods := #[]
  instanceTypes := #[]
  staticTypes := #[]
  resolved := Array.replicate 8 none
  statics := none }

/-- the primitive byte -/
def k10 : Class := { plain "byte" none with kind := .primitive 'B', accessFlags := 0x411 }
/-- [B -/
def k11 : Class := { plain "[B" (some 0) with kind := .array 10 .byte, interfaces := #[9, 3], accessFlags := 1041 }

/-- the primitive int -/
def k12 : Class := { plain "int" none with kind := .primitive 'I', accessFlags := 0x411 }
/-- [I -/
def k13 : Class := { plain "[I" (some 0) with kind := .array 12 .int, interfaces := #[9, 3], accessFlags := 1041 }

/-- the primitive long -/
def k14 : Class := { plain "long" none with kind := .primitive 'J', accessFlags := 0x411 }
/-- [J -/
def k15 : Class := { plain "[J" (some 0) with kind := .array 14 .long, interfaces := #[9, 3], accessFlags := 1041 }

def heap : Heap := #[]
def classes : Array Class := #[k0, k1, k2, k3, k4, k5, k6, k7, k8, k9, k10, k11, k12, k13, k14, k15]
def interned : List (Array UInt16 × Addr) := []
def slotsUsed : Nat := 0
def theMethod : MethodId := ⟨1, 2⟩
def args0 : Array Value := #[.long 1, .long 2, .long 3, .long 4, .int 5]
def aboutOver (below : List Frame) : State where
  vm := { classes := classes, interned := interned.toArray }
  heap := heap
  slotsUsed := slotsUsed
  threads := #[{ frames := .invoking theMethod args0 :: below }]
def below0 : List Frame := [.native { method := ⟨0, 0⟩, args := #[] }]
def about1 : State := aboutOver below0
def p0 : Program := .bare "" "" ""
def e0 : Env := launch0.env 0 0 0
theorem w_frames : about1.frames = Frame.invoking theMethod args0 :: below0 := rfl
set_option maxRecDepth 65536 in
theorem w_args : argsFit about1.vm theMethod args0 = true := by decide +kernel
set_option maxRecDepth 65536 in
theorem w_heap : heapFits about1 = true := by decide +kernel
set_option maxRecDepth 65536 in
theorem w_runnable : about1.curStatus? = some .runnable := by decide +kernel
set_option maxRecDepth 65536 in
theorem w_alone : about1.alone = true := by decide +kernel
set_option maxRecDepth 65536 in
theorem w_named : about1.methodNamed? x = some theMethod := by decide +kernel
set_option maxRecDepth 65536 in
theorem w_hears : about1.hears theMethod below0 = true := by decide +kernel
set_option maxRecDepth 65536 in
theorem w_ripe : about1.ripe theMethod args0 below0 = true := by decide +kernel
theorem w_running : about1.status = .running := rfl
set_option maxRecDepth 65536 in
theorem w_room : about1.hasRoom e0.platform room_1 = true :=
  launch0.hasRoom_least _ room_1 (by decide +kernel) (by decide +kernel) (by decide +kernel) (by decide +kernel) (by decide +kernel) (by decide +kernel)
theorem allAtoms_all (ts : List Jvm.Cond) (a : Array Jvm.Value) (st : Jvm.State) : (allAtoms ts).before a st = ts.all (fun c => c.before a st) := by
  induction ts with
  | nil => rfl
  | cons c t ih =>
    show (Jvm.Cond.and c (allAtoms t)).before a st = _
    rw [Jvm.Cond.before_and, ih, List.all_cons]
def words1 : List Jvm.Cond := Jvm.Cond.code x code maxLocals ret :: tables_1
/-- a 'code' word, met by the world's own term for the bytes: nothing is compared byte by byte -/
theorem code_word {y : MethodName} {bytes : ByteArray} {mx : Nat} {rt : Option FieldType} {a : Array Value} {s : State} {m : MethodId} {meth : Method} {c : Code} (h1 : s.methodNamed? y = some m) (h2 : s.vm.method? m = some meth) (h3 : meth.code = some c) (h4 : c.code = bytes)
    (h5 : (c.maxLocals == mx && c.exceptionTable.isEmpty && decide (c.maxStack ≤ mostOperands) && decide (meth.sig.returnType = rt) && !meth.locks && decide (parseMethodDescriptor y.desc = some meth.sig)) = true) : (Jvm.Cond.code y bytes mx rt).before a s = true := by
  simp only [Bool.and_eq_true, beq_iff_eq, Bool.not_eq_true', decide_eq_true_eq] at h5
  obtain ⟨⟨⟨⟨⟨g1, g2⟩, g3⟩, g4⟩, g5⟩, g6⟩ := h5
  simp [Cond.before, Cond.holds, Cond.value, h1, h2, h3, h4, g1, g2, g3, g4, g5, g6]
def isCode : Jvm.Cond → Bool
  | .code _ _ _ _ => true
  | _ => false
theorem all_split {L : List Jvm.Cond} {P : Jvm.Cond → Bool} (h1 : L.all (fun c => isCode c || P c) = true) (h2 : ∀ c ∈ L.filter isCode, P c = true) : L.all P = true := by
  refine List.all_eq_true.mpr fun c hc => ?_
  have h := List.all_eq_true.mp h1 c hc
  rcases Bool.eq_false_or_eq_true (isCode c) with hi | hi
  · exact h2 c (List.mem_filter.mpr ⟨hc, hi⟩)
  · simpa [hi] using h
set_option maxRecDepth 65536 in
theorem w_c0 : (Jvm.Cond.code x code maxLocals ret).before args0 about1 = true := code_word (m := ⟨1, 2⟩) (meth := k1m2) (c := k1c2) (by decide +kernel) rfl rfl rfl (by decide +kernel)
set_option maxRecDepth 65536 in
theorem w_c1 : (Jvm.Cond.code ({ cls := "com/example/conceal/conceal/TransactionRemoval", name := "holding", desc := "([J[J)I" } : Jvm.MethodName) prog_54_method_18_code (4 : Nat) (Option.some Jvm.ClassFile.FieldType.int)).before args0 about1 = true := code_word (m := ⟨2, 0⟩) (meth := k2m0) (c := k2c0) (by decide +kernel) rfl rfl rfl (by decide +kernel)
set_option maxRecDepth 65536 in
theorem w_c2 : (Jvm.Cond.code ({ cls := "com/example/conceal/conceal/TransactionRemovalHoldingPinLaw", name := "pop", desc := "(J)I" } : Jvm.MethodName) method_2_code (4 : Nat) (Option.some Jvm.ClassFile.FieldType.int)).before args0 about1 = true := code_word (m := ⟨1, 1⟩) (meth := k1m1) (c := k1c1) (by decide +kernel) rfl rfl rfl (by decide +kernel)
set_option maxRecDepth 65536 in
theorem w_c3 : (Jvm.Cond.code ({ cls := "java/lang/Long", name := "bitCount", desc := "(J)I" } : Jvm.MethodName) jdk_35_method_50_code (2 : Nat) (Option.some Jvm.ClassFile.FieldType.int)).before args0 about1 = true := code_word (m := ⟨8, 0⟩) (meth := k8m0) (c := k8c0) (by decide +kernel) rfl rfl rfl (by decide +kernel)
def codes1 : List Jvm.Cond := [Jvm.Cond.code x code maxLocals ret, Jvm.Cond.code ({ cls := "com/example/conceal/conceal/TransactionRemoval", name := "holding", desc := "([J[J)I" } : Jvm.MethodName) prog_54_method_18_code (4 : Nat) (Option.some Jvm.ClassFile.FieldType.int), Jvm.Cond.code ({ cls := "com/example/conceal/conceal/TransactionRemovalHoldingPinLaw", name := "pop", desc := "(J)I" } : Jvm.MethodName) method_2_code (4 : Nat) (Option.some Jvm.ClassFile.FieldType.int), Jvm.Cond.code ({ cls := "java/lang/Long", name := "bitCount", desc := "(J)I" } : Jvm.MethodName) jdk_35_method_50_code (2 : Nat) (Option.some Jvm.ClassFile.FieldType.int)]
set_option maxRecDepth 65536 in
theorem codes_eq : words1.filter isCode = codes1 := rfl
theorem w_codes : ∀ c ∈ words1.filter isCode, c.before args0 about1 = true := by
  rw [codes_eq]
  intro c hc
  simp only [codes1, List.mem_cons, List.not_mem_nil, or_false] at hc
  rcases hc with rfl | rfl | rfl | rfl
  · exact w_c0
  · exact w_c1
  · exact w_c2
  · exact w_c3
set_option maxRecDepth 65536 in
theorem w_t1 : words1.all (fun c => isCode c || c.before args0 about1) = true := by decide +kernel
theorem w_tables : (allAtoms (Jvm.Cond.code x code maxLocals ret :: tables_1)).before args0 about1 = true := by
  rw [allAtoms_all]
  show words1.all (fun c => c.before args0 about1) = true
  refine all_split ?_ w_codes
  rw [w_t1]
set_option maxRecDepth 65536 in
theorem w_case : (Jvm.Cond.and given_1 narrow_1).before args0 about1 = true := by decide +kernel
theorem w_applies : (headSpec (Jvm.Cond.code x code maxLocals ret :: tables_1) room_1).applies x e0.platform about1 = true :=
  (Spec.applies_iff w_frames).mpr ⟨w_running, w_runnable, w_alone, w_named, w_hears, w_ripe, w_room, w_tables⟩
theorem atStart : AtStart classFile x code maxLocals ret World_1 tables_1 room_1 Calls_1 rest_1 Pre_1 launch0 p0 e0 about1 theMethod args0 below0 :=
  ⟨lists_1, trivial, launch0.admits_env _ _ _, launch0.least_env, fairChoices_fair.cas, fairChoices_fair.clock, w_frames, w_args, w_heap, w_applies, trivial, trivial, w_case⟩
end start1
theorem witness_1 : WitnessClaimed_1 := ⟨start1.p0, start1.e0, start1.about1, start1.theMethod, start1.args0, start1.below0, start1.atStart⟩
end Jvm.Pilot.@@N@@
