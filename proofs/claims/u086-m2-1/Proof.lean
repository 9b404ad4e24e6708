import JvmDerived
import JvmDerived.Pilot.@@N@@Statement
import JvmDerived.Pilot.@@N@@Code
set_option linter.unusedVariables false
set_option linter.unusedSimpArgs false
namespace Jvm.RoadKit
open Sem ClassFile Op Lib Jvm.Stand Jvm.Free Jvm.LawKit
section New
variable {p : Program} {l : Launch} {e : Env} {R : Room} {s : State} {m : MethodId} {args : Array Value} {below : List Frame} {meth : Method} {c : Code} {T : State} {locs : List Loc} {cells slots : Nat}
theorem retI (X : Stand p l e R s m args below meth c T locs cells slots) (hx : p.tables.exec = Jvm.exec) {pc : Nat} {Ls : Array Slot} {z : Int32} {rest : List Value} (hret : meth.sig.returnType = some .int) (hd : decode c.code pc = .ok (.ireturn, 1)) {fs : List Frame}
    (hl : ∀ (f : JFrame) (acts : List Action), f.method = m → f.locked = none → f.entered = [] → (doReturn e (T.setTop f) acts (some (.int z))).1 = T.setFrames fs) : Steps p.tables e below (T.setTop (mkF m pc Ls (.int z :: rest))) (T.setFrames fs) := by
  have hm' : T.vm.method? m = some meth := X.method'
  have hn : narrow .int (.int z) = .int z := rfl
  show Steps p.tables e below (T.setTop { method := m, pc := pc, locals := Ls, stack := _ :: rest, locked := none }) _
  jvm_step X.here [X.here.top, hx, hd, hm', hret, hn]
  first | (intro acts; rw [hl _ acts rfl rfl rfl]) | rw [hl _ _ rfl rfl rfl]
  exact Steps.refl _
end New
end Jvm.RoadKit
namespace Jvm.Pilot.@@N@@
open Jvm Jvm.ClassFile Sem Op Lib Jvm.Free Jvm.Stand Jvm.LawKit Jvm.RoadKit Bundle Jvm.Pilot.@@N@@.Jvm.D
section Own
variable {p : Program} {l : Launch} {e : Env} {R : Room} {s : State} {m : MethodId} {args : Array Value} {below : List Frame} {meth : Method} {c : Code} {T T' : State} {locs : List Loc} {cells slots : Nat}
/-- what a walk has still to come to: it ends, with an answer of which Q is true -/
def own_Ends (p : Program) (e : Env) (below : List Frame) (U : State) (C S : Nat) (Q : Option Value → Heap → List Loc → Prop) (T : State) (f : JFrame) : Prop :=
  ∃ s₂ o, Steps p.tables e below (T.setTop f) s₂ ∧ s₂.status = .running ∧ Ended s₂ below o ∧ ∃ v L, o = .returned v ∧ Q v s₂.heap L ∧ FrameEnd U o s₂ L C S
theorem own_step {U : State} {C S : Nat} {Q : Option Value → Heap → List Loc → Prop} {f f' : JFrame} (h : ∀ t, Steps p.tables e below (T'.setTop f') t → Steps p.tables e below (T.setTop f) t) (k : own_Ends p e below U C S Q T' f') : own_Ends p e below U C S Q T f := by
  obtain ⟨s₂, o, h1, h2⟩ := k
  exact ⟨s₂, o, h _ h1, h2⟩
/-- a pure answer: that value, nothing old written, the heap as it was -/
def own_P (w : Value) (h0 : Heap) (n0 : Nat) (v : Option Value) (h : Heap) (L : List Loc) : Prop := v = some w ∧ Fr n0 L ∧ h = h0
theorem own_retZ {C S : Nat} {Q : Option Value → Heap → List Loc → Prop} {pc : Nat} {Ls : Array Slot} {z : Int32} {t : FieldType} {rest : List Value} (X : Stand p l e R s m args below meth c T locs cells slots) (hx : p.tables.exec = Jvm.exec) (hret : meth.sig.returnType = some t) (ht : t = .boolean ∨ t = .byte ∨ t = .char ∨ t = .short) (hlk : meth.locks = false)
    (hd : decode c.code pc = .ok (.ireturn, 1)) (hC : cells ≤ C) (hS : slots ≤ S) (hq : Q (some (.int (nar t z))) T.heap locs) : own_Ends p e below s C S Q T (mkF m pc Ls (.int z :: rest)) := by
  obtain ⟨fs, hr, hrun, hended, hW, hsame⟩ := X.leave (v := some (.int (nar t z))) (fun h => by rw [hret] at h; cases h) hlk
  exact ⟨_, _, retN X hx hret ht hd hr, hrun, hended, _, _, rfl, hq, ⟨_, rfl⟩, hW, hsame.mono hC hS⟩
theorem own_retI {C S : Nat} {Q : Option Value → Heap → List Loc → Prop} {pc : Nat} {Ls : Array Slot} {z : Int32} {rest : List Value} (X : Stand p l e R s m args below meth c T locs cells slots) (hx : p.tables.exec = Jvm.exec) (hret : meth.sig.returnType = some .int) (hlk : meth.locks = false)
    (hd : decode c.code pc = .ok (.ireturn, 1)) (hC : cells ≤ C) (hS : slots ≤ S) (hq : Q (some (.int z)) T.heap locs) : own_Ends p e below s C S Q T (mkF m pc Ls (.int z :: rest)) := by
  obtain ⟨fs, hr, hrun, hended, hW, hsame⟩ := X.leave (v := some (.int z)) (fun h => by rw [hret] at h; cases h) hlk
  exact ⟨_, _, retI X hx hret hd hr, hrun, hended, _, _, rfl, hq, ⟨_, rfl⟩, hW, hsame.mono hC hS⟩
def own_V (h0 : Heap) (n0 : Nat) (v : Option Value) (h : Heap) (L : List Loc) : Prop := v = none ∧ Fr n0 L ∧ h = h0
theorem own_retV {C S : Nat} {Q : Option Value → Heap → List Loc → Prop} {pc : Nat} {Ls : Array Slot} (X : Stand p l e R s m args below meth c T locs cells slots) (hx : p.tables.exec = Jvm.exec) (hret : meth.sig.returnType = none) (hlk : meth.locks = false)
    (hd : decode c.code pc = .ok (.return_, 1)) (hC : cells ≤ C) (hS : slots ≤ S) (hq : Q none T.heap locs) : own_Ends p e below s C S Q T (mkF m pc Ls []) := by
  obtain ⟨fs, hr, hrun, hended, hW, hsame⟩ := X.leave (v := none) (fun _ => rfl) hlk
  exact ⟨_, _, X.returnOut hx hret hd hr, hrun, hended, _, _, rfl, hq, ⟨_, rfl⟩, hW, hsame.mono hC hS⟩
theorem own_retJ {C S : Nat} {Q : Option Value → Heap → List Loc → Prop} {pc : Nat} {Ls : Array Slot} {z : Int64} (X : Stand p l e R s m args below meth c T locs cells slots) (hx : p.tables.exec = Jvm.exec) (hret : meth.sig.returnType = some .long) (hlk : meth.locks = false)
    (hd : decode c.code pc = .ok (.lreturn, 1)) (hC : cells ≤ C) (hS : slots ≤ S) (hq : Q (some (.long z)) T.heap locs) : own_Ends p e below s C S Q T (mkF m pc Ls [.long z]) := by
  obtain ⟨fs, hr, hrun, hended, hW, hsame⟩ := X.leave (v := some (.long z)) (fun h => by rw [hret] at h; cases h) hlk
  exact ⟨_, _, X.lreturnOut hx hret hd hr, hrun, hended, _, _, rfl, hq, ⟨_, rfl⟩, hW, hsame.mono hC hS⟩
end Own
section OwnArr
variable {p : Program} {l : Launch} {e : Env} {R : Room} {s : State} {m : MethodId} {args : Array Value} {below : List Frame} {meth : Method} {c : Code} {T : State} {locs : List Loc} {cells slots : Nat} {Z : State} {a0 : Array Value} {h h' : Heap} {a b : Addr} {ty : FieldType} {vs : List Value} {n0 : Nat}
/-- an answer of which the heap isn't said: that value, nothing old written -/
def own_W (Z : State) (w : Value) (a : Addr) (vs : List Value) (n0 : Nat) (v : Option Value) (h : Heap) (L : List Loc) : Prop := v = some w ∧ Fr n0 L ∧ (∃ c : Cell, Arr Z h a c .byte ∧ c.slots.toList = vs) ∧ n0 ≤ h.size
def own_R (w : Value) (n0 : Nat) (v : Option Value) (h : Heap) (L : List Loc) : Prop := v = some w ∧ Fr n0 L
/-- the array at a holds just these -/
def own_A (Z : State) (h : Heap) (a : Addr) (ty : FieldType) (vs : List Value) : Prop := ∃ c : Cell, Arr Z h a c ty ∧ c.slots.toList = vs
theorem own_A.lt (A : own_A Z h a ty vs) : a < h.size := by obtain ⟨c, A, -⟩ := A; exact A.lt
theorem own_A.ext (A : own_A Z h a ty vs) (E : Ext h h') : own_A Z h' a ty vs := by obtain ⟨c, A, q⟩ := A; exact ⟨c, A.ext E, q⟩
theorem own_A.other {sl : Nat} {v : Value} (A : own_A Z h b ty vs) (W : Wr h h' a sl v) (q : b ≠ a) : own_A Z h' b ty vs := by obtain ⟨c, A, r⟩ := A; exact ⟨c, A.other W q, r⟩
theorem own_A.set {k : Nat} {v : Value} (A : own_A Z h a ty vs) (W : Wr h h' a k v) : own_A Z h' a ty (vs.set k v) := by
  obtain ⟨c, A, r⟩ := A
  refine ⟨c.setSlot k v, A.same W, ?_⟩
  subst r
  simp [Cell.setSlot]
theorem own_A.size {c : Cell} (r : c.slots.toList = vs) : c.slots.size = vs.length := by subst r; simp
theorem own_new {aty : ArrayType} (X : Stand p l e R s m args below meth c T locs cells slots) (hx : p.tables.exec = Jvm.exec) (hZ : Z.Warmed39 s.vm) (w : (Cond.arrayClass (newarray.typeOf aty)).before a0 Z = true) (eT : T.heap = h) {g : JFrame} (hg : g.method = m) (hd : decode c.code g.pc = .ok (.newarray aty, 2)) {n : Int32} {rest : List Value} (hs : g.stack = .int n :: rest)
    (hn : ¬ n < 0) {k : Nat} (hk : n.toNatClampNeg = k) (hb : k * 8 ≤ 536870912) (hc : cells + 1 ≤ R.cells) (hl : slots + k ≤ R.slots) (Sz : n0 ≤ h.size) :
    ∃ T' h' b, Stand p l e R s m args below meth c T' locs (cells + 1) (slots + k) ∧ T'.heap = h' ∧ Ext h h' ∧ b = h.size ∧ n0 ≤ b ∧ n0 ≤ h'.size ∧ own_A Z h' b (newarray.typeOf aty) (List.replicate k (defaultValue (newarray.typeOf aty))) ∧
      ∀ target, Steps p.tables e below (T'.setTop { g with pc := g.pc + 2, stack := .ref b :: rest }) target → Steps p.tables e below (T.setTop g) target := by
  obtain ⟨T', h', cA, X', e', E, A, st⟩ := newP X hx hZ w eT hg hd hs hn (cap := k) (Nat.le_of_eq hk) hb hc hl
  exact ⟨T', h', h.size, X', e', E, rfl, Sz, Nat.le_trans Sz E.1, ⟨_, A, by simp [newA, hk]⟩, st⟩
theorem own_stI (X : Stand p l e R s m args below meth c T locs cells slots) (hx : p.tables.exec = Jvm.exec) (hZ : Z.Warmed39 s.vm) (eT : T.heap = h) (A : own_A Z h a .int vs) {j x : Int32} (hj : ¬ j < 0) {k : Nat} (hk : j.toNatClampNeg = k) (hl : k < vs.length) (N : Fr n0 locs) (ga : n0 ≤ a) (Sz : n0 ≤ h.size) {g : JFrame} (hg : g.method = m) {rest : List Value} (hs : g.stack = .int x :: .int j :: .ref a :: rest) (hd : decode c.code g.pc = .ok (.iastore, 1)) :
    ∃ T' h' locs', Stand p l e R s m args below meth c T' locs' cells slots ∧ Fr n0 locs' ∧ T'.heap = h' ∧ Wr h h' a k (.int x) ∧ n0 ≤ h'.size ∧ own_A Z h' a .int (vs.set k (.int x)) ∧ ∀ target, Steps p.tables e below (T'.setTop { g with pc := g.pc + 1, stack := rest }) target → Steps p.tables e below (T.setTop g) target := by
  obtain ⟨cl, Ar, r⟩ := id A
  subst hk
  obtain ⟨T', h', X', e', W, st⟩ := stI X hx hZ eT Ar (j := j) (x := x) (fun q => q.elim hj fun z => absurd hl (by rw [← own_A.size r]; omega)) hg hs hd
  exact ⟨T', h', _, X', Fr.snoc X' N ga, e', W, by rw [W.size]; exact Sz, A.set W, st⟩
theorem own_stJ (X : Stand p l e R s m args below meth c T locs cells slots) (hx : p.tables.exec = Jvm.exec) (hZ : Z.Warmed39 s.vm) (eT : T.heap = h) (A : own_A Z h a .long vs) {j : Int32} {x : Int64} (hj : ¬ j < 0) {k : Nat} (hk : j.toNatClampNeg = k) (hl : k < vs.length) (N : Fr n0 locs) (ga : n0 ≤ a) (Sz : n0 ≤ h.size) {g : JFrame} (hg : g.method = m) {rest : List Value} (hs : g.stack = .long x :: .int j :: .ref a :: rest) (hd : decode c.code g.pc = .ok (.lastore, 1)) :
    ∃ T' h' locs', Stand p l e R s m args below meth c T' locs' cells slots ∧ Fr n0 locs' ∧ T'.heap = h' ∧ Wr h h' a k (.long x) ∧ n0 ≤ h'.size ∧ own_A Z h' a .long (vs.set k (.long x)) ∧ ∀ target, Steps p.tables e below (T'.setTop { g with pc := g.pc + 1, stack := rest }) target → Steps p.tables e below (T.setTop g) target := by
  obtain ⟨cl, Ar, r⟩ := id A
  subst hk
  obtain ⟨T', h', X', e', W, st⟩ := stJ X hx hZ eT Ar (j := j) (x := x) (fun q => q.elim hj fun z => absurd hl (by rw [← own_A.size r]; omega)) hg hs hd
  exact ⟨T', h', _, X', Fr.snoc X' N ga, e', W, by rw [W.size]; exact Sz, A.set W, st⟩
theorem own_stB (X : Stand p l e R s m args below meth c T locs cells slots) (hx : p.tables.exec = Jvm.exec) (hZ : Z.Warmed39 s.vm) (eT : T.heap = h) (A : own_A Z h a .byte vs) {j x : Int32} (hj : ¬ j < 0) {k : Nat} (hk : j.toNatClampNeg = k) (hl : k < vs.length) (N : Fr n0 locs) (ga : n0 ≤ a) (Sz : n0 ≤ h.size) {g : JFrame} (hg : g.method = m) {rest : List Value} (hs : g.stack = .int x :: .int j :: .ref a :: rest) (hd : decode c.code g.pc = .ok (.bastore, 1)) :
    ∃ T' h' locs', Stand p l e R s m args below meth c T' locs' cells slots ∧ Fr n0 locs' ∧ T'.heap = h' ∧ Wr h h' a k (.int (nar .byte x)) ∧ n0 ≤ h'.size ∧ own_A Z h' a .byte (vs.set k (.int (nar .byte x))) ∧ ∀ target, Steps p.tables e below (T'.setTop { g with pc := g.pc + 1, stack := rest }) target → Steps p.tables e below (T.setTop g) target := by
  obtain ⟨cl, Ar, r⟩ := id A
  subst hk
  obtain ⟨T', h', X', e', W, st⟩ := stB X hx hZ eT Ar (j := j) (x := x) (fun q => q.elim hj fun z => absurd hl (by rw [← own_A.size r]; omega)) hg hs hd
  exact ⟨T', h', _, X', Fr.snoc X' N ga, e', W, by rw [W.size]; exact Sz, A.set W, st⟩
theorem own_at {cl : Cell} (r : cl.slots.toList = vs) {k : Nat} {v : Value} (hv : vs[k]? = some v) : cl.slots[k]? = some v ∧ k < cl.slots.size := by
  subst r
  rw [Array.getElem?_toList] at hv
  exact ⟨hv, (Array.getElem?_eq_some_iff.mp hv).1⟩
theorem own_ldI (X : Stand p l e R s m args below meth c T locs cells slots) (hx : p.tables.exec = Jvm.exec) (hZ : Z.Warmed39 s.vm) (eT : T.heap = h) (A : own_A Z h a .int vs) {j : Int32} (hj : ¬ j < 0) {k : Nat} (hk : j.toNatClampNeg = k) {v : Value} (hv : vs[k]? = some v) {g : JFrame} (hg : g.method = m) {rest : List Value} (hs : g.stack = .int j :: .ref a :: rest) (hd : decode c.code g.pc = .ok (.iaload, 1)) (target : State)
    (hr : Steps p.tables e below (T.setTop { g with pc := g.pc + 1, stack := v :: rest }) target) : Steps p.tables e below (T.setTop g) target := by
  obtain ⟨cl, Ar, r⟩ := A
  obtain ⟨q1, q2⟩ := own_at r hv
  subst hk
  exact X.iaload hx (j := j) (v := v) (by rw [eT]; exact Ar.1) (State.isArrayOf_alike hZ.alike Ar.2.1) Ar.2.2 (fun z => z.elim hj fun z => by omega) q1 hg hs hd target hr
theorem own_ldJ (X : Stand p l e R s m args below meth c T locs cells slots) (hx : p.tables.exec = Jvm.exec) (hZ : Z.Warmed39 s.vm) (eT : T.heap = h) (A : own_A Z h a .long vs) {j : Int32} (hj : ¬ j < 0) {k : Nat} (hk : j.toNatClampNeg = k) {v : Value} (hv : vs[k]? = some v) {g : JFrame} (hg : g.method = m) {rest : List Value} (hs : g.stack = .int j :: .ref a :: rest) (hd : decode c.code g.pc = .ok (.laload, 1)) (target : State)
    (hr : Steps p.tables e below (T.setTop { g with pc := g.pc + 1, stack := v :: rest }) target) : Steps p.tables e below (T.setTop g) target := by
  obtain ⟨cl, Ar, r⟩ := A
  obtain ⟨q1, q2⟩ := own_at r hv
  subst hk
  exact X.laload hx (j := j) (v := v) (by rw [eT]; exact Ar.1) (State.isArrayOf_alike hZ.alike Ar.2.1) Ar.2.2 (fun z => z.elim hj fun z => by omega) q1 hg hs hd target hr
theorem own_ldB (X : Stand p l e R s m args below meth c T locs cells slots) (hx : p.tables.exec = Jvm.exec) (hZ : Z.Warmed39 s.vm) (eT : T.heap = h) (A : own_A Z h a .byte vs) {j : Int32} (hj : ¬ j < 0) {k : Nat} (hk : j.toNatClampNeg = k) {v : Value} (hv : vs[k]? = some v) {g : JFrame} (hg : g.method = m) {rest : List Value} (hs : g.stack = .int j :: .ref a :: rest) (hd : decode c.code g.pc = .ok (.baload, 1)) (target : State)
    (hr : Steps p.tables e below (T.setTop { g with pc := g.pc + 1, stack := v :: rest }) target) : Steps p.tables e below (T.setTop g) target := by
  obtain ⟨cl, Ar, r⟩ := A
  obtain ⟨q1, q2⟩ := own_at r hv
  subst hk
  exact X.baloadBytes hx (j := j) (v := v) (by rw [eT]; exact Ar.1) (State.isArrayOf_alike hZ.alike Ar.2.1) Ar.2.2 (fun z => z.elim hj fun z => by omega) q1 hg hs hd target hr
theorem own_len (X : Stand p l e R s m args below meth c T locs cells slots) (hx : p.tables.exec = Jvm.exec) (hZ : Z.Warmed39 s.vm) (eT : T.heap = h) (A : own_A Z h a ty vs) {n : Int32} (hn : vs.length.toInt32 = n) {g : JFrame} (hg : g.method = m) {rest : List Value} (hs : g.stack = .ref a :: rest) (hd : decode c.code g.pc = .ok (.arraylength, 1)) (target : State)
    (hr : Steps p.tables e below (T.setTop { g with pc := g.pc + 1, stack := .int n :: rest }) target) : Steps p.tables e below (T.setTop g) target := by
  obtain ⟨cl, Ar, r⟩ := A
  refine X.arraylength hx (by rw [eT]; exact Ar.1) (State.isArrayOf_alike hZ.alike Ar.2.1) hg hs hd target ?_
  rw [own_A.size r, hn]
  exact hr
end OwnArr
theorem d1_0 : decode prog_3_method_8_code 0 = .ok (.iconst 0, 1) := by decide +kernel
theorem d1_1 : decode prog_3_method_8_code 1 = .ok (.istore_n 2, 1) := by decide +kernel
theorem d1_2 : decode prog_3_method_8_code 2 = .ok (.iconst 0, 1) := by decide +kernel
theorem d1_3 : decode prog_3_method_8_code 3 = .ok (.istore_n 3, 1) := by decide +kernel
theorem d1_4 : decode prog_3_method_8_code 4 = .ok (.iload_n 3, 1) := by decide +kernel
theorem d1_5 : decode prog_3_method_8_code 5 = .ok (.aload_n 0, 1) := by decide +kernel
theorem d1_6 : decode prog_3_method_8_code 6 = .ok (.arraylength, 1) := by decide +kernel
theorem d1_7 : decode prog_3_method_8_code 7 = .ok (.if_icmp .ge 29, 3) := by decide +kernel
theorem d1_10 : decode prog_3_method_8_code 10 = .ok (.iload_n 2, 1) := by decide +kernel
theorem d1_11 : decode prog_3_method_8_code 11 = .ok (.ifCond .ne 25, 3) := by decide +kernel
theorem d1_14 : decode prog_3_method_8_code 14 = .ok (.aload_n 0, 1) := by decide +kernel
theorem d1_15 : decode prog_3_method_8_code 15 = .ok (.iload_n 3, 1) := by decide +kernel
theorem d1_16 : decode prog_3_method_8_code 16 = .ok (.laload, 1) := by decide +kernel
theorem d1_17 : decode prog_3_method_8_code 17 = .ok (.aload_n 1, 1) := by decide +kernel
theorem d1_18 : decode prog_3_method_8_code 18 = .ok (.iload_n 3, 1) := by decide +kernel
theorem d1_19 : decode prog_3_method_8_code 19 = .ok (.laload, 1) := by decide +kernel
theorem d1_20 : decode prog_3_method_8_code 20 = .ok (.lcmp, 1) := by decide +kernel
theorem d1_21 : decode prog_3_method_8_code 21 = .ok (.ifCond .ne 7, 3) := by decide +kernel
theorem d1_24 : decode prog_3_method_8_code 24 = .ok (.iconst 1, 1) := by decide +kernel
theorem d1_25 : decode prog_3_method_8_code 25 = .ok (.goto 4, 3) := by decide +kernel
theorem d1_28 : decode prog_3_method_8_code 28 = .ok (.iconst 0, 1) := by decide +kernel
theorem d1_29 : decode prog_3_method_8_code 29 = .ok (.istore_n 2, 1) := by decide +kernel
theorem d1_30 : decode prog_3_method_8_code 30 = .ok (.iinc 3 1, 3) := by decide +kernel
theorem d1_33 : decode prog_3_method_8_code 33 = .ok (.goto (-29), 3) := by decide +kernel
theorem d1_36 : decode prog_3_method_8_code 36 = .ok (.iload_n 2, 1) := by decide +kernel
theorem d1_37 : decode prog_3_method_8_code 37 = .ok (.ireturn, 1) := by decide +kernel
theorem pn1 : plainName "com/example/nearsame/nearsame/Banding" = true := by first | (simp [plainName, overriddenIn]; done) | decide +kernel
theorem pd1 : parseMethodDescriptor "([J[J)Z" = some ⟨[(.array .long), (.array .long)], some .boolean⟩ := by decide +kernel
theorem ef1 (m : MethodId) (a0' : Addr) (a1' : Addr) : entryFrame m #[(.ref a0'), (.ref a1')] 4 = mkF m 0 #[.val (.ref a0'), .val (.ref a1'), .unset, .unset] [] := by first | (simp [entryFrame, mkF, argsToLocals, Value.category]; done) | rfl
def f1n0_0  : Int32 :=
  (0 : Int32)
set_option maxRecDepth 65536 in
set_option maxHeartbeats 4000000 in
theorem b1n0_0 {p : Program} {l : Launch} {e : Env} {s : State} {m : MethodId} {args : Array Value} {below : List Frame} {meth : Method} {c : Code} {T0 : State} {locs : List Loc} {Z : State} {a0 : Array Value} {h0 : Heap} {n0 : Nat} (a0' : Addr) (a1' : Addr) {r : Int32} (X0 : Stand p l e ({ frames := 0, cells := 0, slots := 0, locals := 0 } : Room) s m args below meth c T0 locs 0 0) (hx : p.tables.exec = Jvm.exec) (hZ : Z.Warmed39 s.vm) (hw : ∀ d ∈ tables_1, d.before a0 Z = true) (hby : c.code = prog_3_method_8_code) (hml : c.maxLocals = 4) (hown : s.vm.findClass "com/example/nearsame/nearsame/Banding" = some m.cls) (hret : meth.sig.returnType = some .boolean) (hlk : meth.locks = false) (e0 : T0.heap = h0) (N0 : Fr n0 locs) (A0 : own_A Z h0 a0' .long []) (A1 : own_A Z h0 a1' .long []) (hr : r = f1n0_0 ) :
    own_Ends p e below s 0 0 (own_P (.int r) h0 n0) T0 (mkF m 0 #[.val (.ref a0'), .val (.ref a1'), .unset, .unset] []) := by
  unfold f1n0_0 at hr
  refine own_step (T' := T0) (f' := (mkF m 7 #[.val (.ref a0'), .val (.ref a1'), .val (.int (0 : Int32)), .val (.int (0 : Int32))] [(.int (0 : Int32)), (.int (0 : Int32))])) (fun t kt => ?_) ?_
  · show Steps p.tables e below (T0.setTop (mkF m 0 #[.val (.ref a0'), .val (.ref a1'), .unset, .unset] [])) _
    refine XS.iconst X0.here hx rfl (hb hby d1_0) ?_
    show Steps p.tables e below (T0.setTop (mkF m 1 #[.val (.ref a0'), .val (.ref a1'), .unset, .unset] [(.int (0 : Int32))])) _
    refine XS.istoreN X0.here hx rfl (hb hby d1_1) rfl (l' := #[.val (.ref a0'), .val (.ref a1'), .val (.int (0 : Int32)), .unset]) rfl ?_
    show Steps p.tables e below (T0.setTop (mkF m 2 #[.val (.ref a0'), .val (.ref a1'), .val (.int (0 : Int32)), .unset] [])) _
    refine XS.iconst X0.here hx rfl (hb hby d1_2) ?_
    show Steps p.tables e below (T0.setTop (mkF m 3 #[.val (.ref a0'), .val (.ref a1'), .val (.int (0 : Int32)), .unset] [(.int (0 : Int32))])) _
    refine XS.istoreN X0.here hx rfl (hb hby d1_3) rfl (l' := #[.val (.ref a0'), .val (.ref a1'), .val (.int (0 : Int32)), .val (.int (0 : Int32))]) rfl ?_
    show Steps p.tables e below (T0.setTop (mkF m 4 #[.val (.ref a0'), .val (.ref a1'), .val (.int (0 : Int32)), .val (.int (0 : Int32))] [])) _
    refine XS.iloadN X0.here hx rfl (hb hby d1_4) rfl ?_
    show Steps p.tables e below (T0.setTop (mkF m 5 #[.val (.ref a0'), .val (.ref a1'), .val (.int (0 : Int32)), .val (.int (0 : Int32))] [(.int (0 : Int32))])) _
    refine XS.aloadN X0.here hx rfl (hb hby d1_5) rfl rfl ?_
    show Steps p.tables e below (T0.setTop (mkF m 6 #[.val (.ref a0'), .val (.ref a1'), .val (.int (0 : Int32)), .val (.int (0 : Int32))] [(.ref a0'), (.int (0 : Int32))])) _
    refine own_len X0 hx hZ e0 A0 (n := (0 : Int32)) rfl (g := (mkF m 6 #[.val (.ref a0'), .val (.ref a1'), .val (.int (0 : Int32)), .val (.int (0 : Int32))] [(.ref a0'), (.int (0 : Int32))])) rfl rfl (hb hby d1_6) _ ?_
    exact kt
  refine own_step (T' := T0) (f' := (mkF m 36 #[.val (.ref a0'), .val (.ref a1'), .val (.int (0 : Int32)), .val (.int (0 : Int32))] [])) (fun t kt => ?_) ?_
  · show Steps p.tables e below (T0.setTop (mkF m 7 #[.val (.ref a0'), .val (.ref a1'), .val (.int (0 : Int32)), .val (.int (0 : Int32))] [(.int (0 : Int32)), (.int (0 : Int32))])) _
    refine XS.icmpYes X0.here hx rfl (pc0 := 7) (pc' := 36) rfl (hb hby d1_7) rfl (flt (by decide : ¬ ((0 : Int32) < (0 : Int32)))).2.1 (by decide) (by decide) kt
  refine own_step (T' := T0) (f' := (mkF m 37 #[.val (.ref a0'), .val (.ref a1'), .val (.int (0 : Int32)), .val (.int (0 : Int32))] [(.int (0 : Int32))])) (fun t kt => ?_) ?_
  · show Steps p.tables e below (T0.setTop (mkF m 36 #[.val (.ref a0'), .val (.ref a1'), .val (.int (0 : Int32)), .val (.int (0 : Int32))] [])) _
    refine XS.iloadN X0.here hx rfl (hb hby d1_36) rfl ?_
    exact kt
  exact own_retZ X0 hx hret (by simp) hlk (hb hby d1_37) (Nat.le_refl _) (Nat.le_refl _) ⟨congrArg (fun z => some (Value.int z)) hr.symm, N0, e0⟩
set_option maxRecDepth 65536 in
set_option maxHeartbeats 4000000 in
theorem rm1n0 (l : Launch) (Z : State) (a0 : Array Value) (hw : ∀ d ∈ tables_1, d.before a0 Z = true) (ws : List Jvm.Cond) (a0' : Addr) (a1' : Addr) (h0 : Heap) (n0 : Nat) (A0 : own_A Z h0 a0' .long []) (A1 : own_A Z h0 a1' .long []) :
    MetFree l (⟨"com/example/nearsame/nearsame/Banding", "agree", "([J[J)Z"⟩ : MethodName) (head1 (Jvm.Cond.code (⟨"com/example/nearsame/nearsame/Banding", "agree", "([J[J)Z"⟩ : MethodName) prog_3_method_8_code 4 (some .boolean) :: ws) ({ frames := 0, cells := 0, slots := 0, locals := 0 } : Room)) (fun a U => a = #[(.ref a0'), (.ref a1')] ∧ Z.Warmed39 U.vm ∧ U.heap = h0) (fun _ _ _ _ _ => True) (fun _ U o U' => ∃ v L, o = .returned v ∧ (own_P (.int (f1n0_0 )) h0 n0) v U'.heap L ∧ FrameEnd U o U' L ({ frames := 0, cells := 0, slots := 0, locals := 0 } : Room).cells ({ frames := 0, cells := 0, slots := 0, locals := 0 } : Room).slots) := by
  refine MetFree.of_bodySF (plainFor_of_name pn1) hisR ?_
  intro p e s m args below meth c s₁ Bd hml0 hP hK
  obtain ⟨rfl, hZ, hh⟩ := hP
  have hown : s.vm.findClass "com/example/nearsame/nearsame/Banding" = some m.cls := findClass_of_methodNamed Bd.named
  have X0 : Stand p l e ({ frames := 0, cells := 0, slots := 0, locals := 0 } : Room) s m #[(.ref a0'), (.ref a1')] below meth c s₁ [] 0 0 := Stand.of_body Bd
  have e0 : s₁.heap = h0 := by rw [← hh, Bd.state]; rfl
  show own_Ends p e below s 0 0 (own_P (.int (f1n0_0 )) h0 n0) s₁ (entryFrame m #[(.ref a0'), (.ref a1')] 4)
  refine own_step (fun t k => castTop (ef1 m a0' a1') k) ?_
  exact b1n0_0 a0' a1' X0 Bd.exec hZ hw Bd.bytes hml0 hown Bd.returns (BodyLoose.notSynchronized Bd) e0 (Fr.nil n0) A0 A1 rfl
def f1n1_0 (x0_0 : Int64) (x1_0 : Int64) : Int32 :=
  if x0_0 = x1_0 then ((1 : Int32)) else ((0 : Int32))
set_option maxRecDepth 65536 in
set_option maxHeartbeats 4000000 in
theorem b1n1_0 {p : Program} {l : Launch} {e : Env} {s : State} {m : MethodId} {args : Array Value} {below : List Frame} {meth : Method} {c : Code} {T0 : State} {locs : List Loc} {Z : State} {a0 : Array Value} {h0 : Heap} {n0 : Nat} (a0' : Addr) (a1' : Addr) (x0_0 : Int64) (x1_0 : Int64) {r : Int32} (X0 : Stand p l e ({ frames := 0, cells := 0, slots := 0, locals := 0 } : Room) s m args below meth c T0 locs 0 0) (hx : p.tables.exec = Jvm.exec) (hZ : Z.Warmed39 s.vm) (hw : ∀ d ∈ tables_1, d.before a0 Z = true) (hby : c.code = prog_3_method_8_code) (hml : c.maxLocals = 4) (hown : s.vm.findClass "com/example/nearsame/nearsame/Banding" = some m.cls) (hret : meth.sig.returnType = some .boolean) (hlk : meth.locks = false) (e0 : T0.heap = h0) (N0 : Fr n0 locs) (A0 : own_A Z h0 a0' .long [(.long x0_0)]) (A1 : own_A Z h0 a1' .long [(.long x1_0)]) (hr : r = f1n1_0 x0_0 x1_0) :
    own_Ends p e below s 0 0 (own_P (.int r) h0 n0) T0 (mkF m 0 #[.val (.ref a0'), .val (.ref a1'), .unset, .unset] []) := by
  unfold f1n1_0 at hr
  refine own_step (T' := T0) (f' := (mkF m 7 #[.val (.ref a0'), .val (.ref a1'), .val (.int (0 : Int32)), .val (.int (0 : Int32))] [(.int (1 : Int32)), (.int (0 : Int32))])) (fun t kt => ?_) ?_
  · show Steps p.tables e below (T0.setTop (mkF m 0 #[.val (.ref a0'), .val (.ref a1'), .unset, .unset] [])) _
    refine XS.iconst X0.here hx rfl (hb hby d1_0) ?_
    show Steps p.tables e below (T0.setTop (mkF m 1 #[.val (.ref a0'), .val (.ref a1'), .unset, .unset] [(.int (0 : Int32))])) _
    refine XS.istoreN X0.here hx rfl (hb hby d1_1) rfl (l' := #[.val (.ref a0'), .val (.ref a1'), .val (.int (0 : Int32)), .unset]) rfl ?_
    show Steps p.tables e below (T0.setTop (mkF m 2 #[.val (.ref a0'), .val (.ref a1'), .val (.int (0 : Int32)), .unset] [])) _
    refine XS.iconst X0.here hx rfl (hb hby d1_2) ?_
    show Steps p.tables e below (T0.setTop (mkF m 3 #[.val (.ref a0'), .val (.ref a1'), .val (.int (0 : Int32)), .unset] [(.int (0 : Int32))])) _
    refine XS.istoreN X0.here hx rfl (hb hby d1_3) rfl (l' := #[.val (.ref a0'), .val (.ref a1'), .val (.int (0 : Int32)), .val (.int (0 : Int32))]) rfl ?_
    show Steps p.tables e below (T0.setTop (mkF m 4 #[.val (.ref a0'), .val (.ref a1'), .val (.int (0 : Int32)), .val (.int (0 : Int32))] [])) _
    refine XS.iloadN X0.here hx rfl (hb hby d1_4) rfl ?_
    show Steps p.tables e below (T0.setTop (mkF m 5 #[.val (.ref a0'), .val (.ref a1'), .val (.int (0 : Int32)), .val (.int (0 : Int32))] [(.int (0 : Int32))])) _
    refine XS.aloadN X0.here hx rfl (hb hby d1_5) rfl rfl ?_
    show Steps p.tables e below (T0.setTop (mkF m 6 #[.val (.ref a0'), .val (.ref a1'), .val (.int (0 : Int32)), .val (.int (0 : Int32))] [(.ref a0'), (.int (0 : Int32))])) _
    refine own_len X0 hx hZ e0 A0 (n := (1 : Int32)) rfl (g := (mkF m 6 #[.val (.ref a0'), .val (.ref a1'), .val (.int (0 : Int32)), .val (.int (0 : Int32))] [(.ref a0'), (.int (0 : Int32))])) rfl rfl (hb hby d1_6) _ ?_
    exact kt
  refine own_step (T' := T0) (f' := (mkF m 10 #[.val (.ref a0'), .val (.ref a1'), .val (.int (0 : Int32)), .val (.int (0 : Int32))] [])) (fun t kt => ?_) ?_
  · show Steps p.tables e below (T0.setTop (mkF m 7 #[.val (.ref a0'), .val (.ref a1'), .val (.int (0 : Int32)), .val (.int (0 : Int32))] [(.int (1 : Int32)), (.int (0 : Int32))])) _
    refine XS.icmpNo X0.here hx rfl (hb hby d1_7) rfl (tlt (by decide : ((0 : Int32) < (1 : Int32)))).2.1 kt
  refine own_step (T' := T0) (f' := (mkF m 11 #[.val (.ref a0'), .val (.ref a1'), .val (.int (0 : Int32)), .val (.int (0 : Int32))] [(.int (0 : Int32))])) (fun t kt => ?_) ?_
  · show Steps p.tables e below (T0.setTop (mkF m 10 #[.val (.ref a0'), .val (.ref a1'), .val (.int (0 : Int32)), .val (.int (0 : Int32))] [])) _
    refine XS.iloadN X0.here hx rfl (hb hby d1_10) rfl ?_
    exact kt
  refine own_step (T' := T0) (f' := (mkF m 14 #[.val (.ref a0'), .val (.ref a1'), .val (.int (0 : Int32)), .val (.int (0 : Int32))] [])) (fun t kt => ?_) ?_
  · show Steps p.tables e below (T0.setTop (mkF m 11 #[.val (.ref a0'), .val (.ref a1'), .val (.int (0 : Int32)), .val (.int (0 : Int32))] [(.int (0 : Int32))])) _
    refine XS.ifNo X0.here hx rfl (hb hby d1_11) rfl ((if0 _ _).trans (teq (by decide : ((0 : Int32) = (0 : Int32)))).2) kt
  refine own_step (T' := T0) (f' := (mkF m 21 #[.val (.ref a0'), .val (.ref a1'), .val (.int (0 : Int32)), .val (.int (0 : Int32))] [(.int (lcmpW x0_0 x1_0))])) (fun t kt => ?_) ?_
  · show Steps p.tables e below (T0.setTop (mkF m 14 #[.val (.ref a0'), .val (.ref a1'), .val (.int (0 : Int32)), .val (.int (0 : Int32))] [])) _
    refine XS.aloadN X0.here hx rfl (hb hby d1_14) rfl rfl ?_
    show Steps p.tables e below (T0.setTop (mkF m 15 #[.val (.ref a0'), .val (.ref a1'), .val (.int (0 : Int32)), .val (.int (0 : Int32))] [(.ref a0')])) _
    refine XS.iloadN X0.here hx rfl (hb hby d1_15) rfl ?_
    show Steps p.tables e below (T0.setTop (mkF m 16 #[.val (.ref a0'), .val (.ref a1'), .val (.int (0 : Int32)), .val (.int (0 : Int32))] [(.int (0 : Int32)), (.ref a0')])) _
    refine own_ldJ X0 hx hZ e0 A0 (j := (0 : Int32)) (by decide) (k := 0) (by decide) (v := (.long x0_0)) rfl (g := (mkF m 16 #[.val (.ref a0'), .val (.ref a1'), .val (.int (0 : Int32)), .val (.int (0 : Int32))] [(.int (0 : Int32)), (.ref a0')])) rfl rfl (hb hby d1_16) _ ?_
    show Steps p.tables e below (T0.setTop (mkF m 17 #[.val (.ref a0'), .val (.ref a1'), .val (.int (0 : Int32)), .val (.int (0 : Int32))] [(.long x0_0)])) _
    refine XS.aloadN X0.here hx rfl (hb hby d1_17) rfl rfl ?_
    show Steps p.tables e below (T0.setTop (mkF m 18 #[.val (.ref a0'), .val (.ref a1'), .val (.int (0 : Int32)), .val (.int (0 : Int32))] [(.ref a1'), (.long x0_0)])) _
    refine XS.iloadN X0.here hx rfl (hb hby d1_18) rfl ?_
    show Steps p.tables e below (T0.setTop (mkF m 19 #[.val (.ref a0'), .val (.ref a1'), .val (.int (0 : Int32)), .val (.int (0 : Int32))] [(.int (0 : Int32)), (.ref a1'), (.long x0_0)])) _
    refine own_ldJ X0 hx hZ e0 A1 (j := (0 : Int32)) (by decide) (k := 0) (by decide) (v := (.long x1_0)) rfl (g := (mkF m 19 #[.val (.ref a0'), .val (.ref a1'), .val (.int (0 : Int32)), .val (.int (0 : Int32))] [(.int (0 : Int32)), (.ref a1'), (.long x0_0)])) rfl rfl (hb hby d1_19) _ ?_
    show Steps p.tables e below (T0.setTop (mkF m 20 #[.val (.ref a0'), .val (.ref a1'), .val (.int (0 : Int32)), .val (.int (0 : Int32))] [(.long x1_0), (.long x0_0)])) _
    refine XS.lcmp X0.here hx rfl (hb hby d1_20) rfl ?_
    exact kt
  by_cases hc21_3 : x0_0 = x1_0
  · rw [if_pos hc21_3] at hr
    refine own_step (T' := T0) (f' := (mkF m 24 #[.val (.ref a0'), .val (.ref a1'), .val (.int (0 : Int32)), .val (.int (0 : Int32))] [])) (fun t kt => ?_) ?_
    · show Steps p.tables e below (T0.setTop (mkF m 21 #[.val (.ref a0'), .val (.ref a1'), .val (.int (0 : Int32)), .val (.int (0 : Int32))] [(.int (lcmpW x0_0 x1_0))])) _
      refine XS.ifNo X0.here hx rfl (hb hby d1_21) rfl ((if0 _ _).trans (teq ((lw_eq _ _).mpr hc21_3)).2) kt
    refine own_step (T' := T0) (f' := (mkF m 7 #[.val (.ref a0'), .val (.ref a1'), .val (.int (1 : Int32)), .val (.int (1 : Int32))] [(.int (1 : Int32)), (.int (1 : Int32))])) (fun t kt => ?_) ?_
    · show Steps p.tables e below (T0.setTop (mkF m 24 #[.val (.ref a0'), .val (.ref a1'), .val (.int (0 : Int32)), .val (.int (0 : Int32))] [])) _
      refine XS.iconst X0.here hx rfl (hb hby d1_24) ?_
      show Steps p.tables e below (T0.setTop (mkF m 25 #[.val (.ref a0'), .val (.ref a1'), .val (.int (0 : Int32)), .val (.int (0 : Int32))] [(.int (1 : Int32))])) _
      refine XS.goto X0.here hx rfl (pc0 := 25) (pc' := 29) rfl (hb hby d1_25) (by decide) (by decide) ?_
      show Steps p.tables e below (T0.setTop (mkF m 29 #[.val (.ref a0'), .val (.ref a1'), .val (.int (0 : Int32)), .val (.int (0 : Int32))] [(.int (1 : Int32))])) _
      refine XS.istoreN X0.here hx rfl (hb hby d1_29) rfl (l' := #[.val (.ref a0'), .val (.ref a1'), .val (.int (1 : Int32)), .val (.int (0 : Int32))]) rfl ?_
      show Steps p.tables e below (T0.setTop (mkF m 30 #[.val (.ref a0'), .val (.ref a1'), .val (.int (1 : Int32)), .val (.int (0 : Int32))] [])) _
      refine XS.iinc X0.here hx rfl (hb hby d1_30) rfl (l' := #[.val (.ref a0'), .val (.ref a1'), .val (.int (1 : Int32)), .val (.int (1 : Int32))]) rfl ?_
      show Steps p.tables e below (T0.setTop (mkF m 33 #[.val (.ref a0'), .val (.ref a1'), .val (.int (1 : Int32)), .val (.int (1 : Int32))] [])) _
      refine XS.goto X0.here hx rfl (pc0 := 33) (pc' := 4) rfl (hb hby d1_33) (by decide) (by decide) ?_
      show Steps p.tables e below (T0.setTop (mkF m 4 #[.val (.ref a0'), .val (.ref a1'), .val (.int (1 : Int32)), .val (.int (1 : Int32))] [])) _
      refine XS.iloadN X0.here hx rfl (hb hby d1_4) rfl ?_
      show Steps p.tables e below (T0.setTop (mkF m 5 #[.val (.ref a0'), .val (.ref a1'), .val (.int (1 : Int32)), .val (.int (1 : Int32))] [(.int (1 : Int32))])) _
      refine XS.aloadN X0.here hx rfl (hb hby d1_5) rfl rfl ?_
      show Steps p.tables e below (T0.setTop (mkF m 6 #[.val (.ref a0'), .val (.ref a1'), .val (.int (1 : Int32)), .val (.int (1 : Int32))] [(.ref a0'), (.int (1 : Int32))])) _
      refine own_len X0 hx hZ e0 A0 (n := (1 : Int32)) rfl (g := (mkF m 6 #[.val (.ref a0'), .val (.ref a1'), .val (.int (1 : Int32)), .val (.int (1 : Int32))] [(.ref a0'), (.int (1 : Int32))])) rfl rfl (hb hby d1_6) _ ?_
      exact kt
    refine own_step (T' := T0) (f' := (mkF m 36 #[.val (.ref a0'), .val (.ref a1'), .val (.int (1 : Int32)), .val (.int (1 : Int32))] [])) (fun t kt => ?_) ?_
    · show Steps p.tables e below (T0.setTop (mkF m 7 #[.val (.ref a0'), .val (.ref a1'), .val (.int (1 : Int32)), .val (.int (1 : Int32))] [(.int (1 : Int32)), (.int (1 : Int32))])) _
      refine XS.icmpYes X0.here hx rfl (pc0 := 7) (pc' := 36) rfl (hb hby d1_7) rfl (flt (by decide : ¬ ((1 : Int32) < (1 : Int32)))).2.1 (by decide) (by decide) kt
    refine own_step (T' := T0) (f' := (mkF m 37 #[.val (.ref a0'), .val (.ref a1'), .val (.int (1 : Int32)), .val (.int (1 : Int32))] [(.int (1 : Int32))])) (fun t kt => ?_) ?_
    · show Steps p.tables e below (T0.setTop (mkF m 36 #[.val (.ref a0'), .val (.ref a1'), .val (.int (1 : Int32)), .val (.int (1 : Int32))] [])) _
      refine XS.iloadN X0.here hx rfl (hb hby d1_36) rfl ?_
      exact kt
    exact own_retZ X0 hx hret (by simp) hlk (hb hby d1_37) (Nat.le_refl _) (Nat.le_refl _) ⟨congrArg (fun z => some (Value.int z)) hr.symm, N0, e0⟩
  · rw [if_neg hc21_3] at hr
    refine own_step (T' := T0) (f' := (mkF m 28 #[.val (.ref a0'), .val (.ref a1'), .val (.int (0 : Int32)), .val (.int (0 : Int32))] [])) (fun t kt => ?_) ?_
    · show Steps p.tables e below (T0.setTop (mkF m 21 #[.val (.ref a0'), .val (.ref a1'), .val (.int (0 : Int32)), .val (.int (0 : Int32))] [(.int (lcmpW x0_0 x1_0))])) _
      refine XS.ifYes X0.here hx rfl (pc0 := 21) (pc' := 28) rfl (hb hby d1_21) rfl ((if0 _ _).trans (feq (mt (lw_eq _ _).mp hc21_3)).2) (by decide) (by decide) kt
    refine own_step (T' := T0) (f' := (mkF m 7 #[.val (.ref a0'), .val (.ref a1'), .val (.int (0 : Int32)), .val (.int (1 : Int32))] [(.int (1 : Int32)), (.int (1 : Int32))])) (fun t kt => ?_) ?_
    · show Steps p.tables e below (T0.setTop (mkF m 28 #[.val (.ref a0'), .val (.ref a1'), .val (.int (0 : Int32)), .val (.int (0 : Int32))] [])) _
      refine XS.iconst X0.here hx rfl (hb hby d1_28) ?_
      show Steps p.tables e below (T0.setTop (mkF m 29 #[.val (.ref a0'), .val (.ref a1'), .val (.int (0 : Int32)), .val (.int (0 : Int32))] [(.int (0 : Int32))])) _
      refine XS.istoreN X0.here hx rfl (hb hby d1_29) rfl (l' := #[.val (.ref a0'), .val (.ref a1'), .val (.int (0 : Int32)), .val (.int (0 : Int32))]) rfl ?_
      show Steps p.tables e below (T0.setTop (mkF m 30 #[.val (.ref a0'), .val (.ref a1'), .val (.int (0 : Int32)), .val (.int (0 : Int32))] [])) _
      refine XS.iinc X0.here hx rfl (hb hby d1_30) rfl (l' := #[.val (.ref a0'), .val (.ref a1'), .val (.int (0 : Int32)), .val (.int (1 : Int32))]) rfl ?_
      show Steps p.tables e below (T0.setTop (mkF m 33 #[.val (.ref a0'), .val (.ref a1'), .val (.int (0 : Int32)), .val (.int (1 : Int32))] [])) _
      refine XS.goto X0.here hx rfl (pc0 := 33) (pc' := 4) rfl (hb hby d1_33) (by decide) (by decide) ?_
      show Steps p.tables e below (T0.setTop (mkF m 4 #[.val (.ref a0'), .val (.ref a1'), .val (.int (0 : Int32)), .val (.int (1 : Int32))] [])) _
      refine XS.iloadN X0.here hx rfl (hb hby d1_4) rfl ?_
      show Steps p.tables e below (T0.setTop (mkF m 5 #[.val (.ref a0'), .val (.ref a1'), .val (.int (0 : Int32)), .val (.int (1 : Int32))] [(.int (1 : Int32))])) _
      refine XS.aloadN X0.here hx rfl (hb hby d1_5) rfl rfl ?_
      show Steps p.tables e below (T0.setTop (mkF m 6 #[.val (.ref a0'), .val (.ref a1'), .val (.int (0 : Int32)), .val (.int (1 : Int32))] [(.ref a0'), (.int (1 : Int32))])) _
      refine own_len X0 hx hZ e0 A0 (n := (1 : Int32)) rfl (g := (mkF m 6 #[.val (.ref a0'), .val (.ref a1'), .val (.int (0 : Int32)), .val (.int (1 : Int32))] [(.ref a0'), (.int (1 : Int32))])) rfl rfl (hb hby d1_6) _ ?_
      exact kt
    refine own_step (T' := T0) (f' := (mkF m 36 #[.val (.ref a0'), .val (.ref a1'), .val (.int (0 : Int32)), .val (.int (1 : Int32))] [])) (fun t kt => ?_) ?_
    · show Steps p.tables e below (T0.setTop (mkF m 7 #[.val (.ref a0'), .val (.ref a1'), .val (.int (0 : Int32)), .val (.int (1 : Int32))] [(.int (1 : Int32)), (.int (1 : Int32))])) _
      refine XS.icmpYes X0.here hx rfl (pc0 := 7) (pc' := 36) rfl (hb hby d1_7) rfl (flt (by decide : ¬ ((1 : Int32) < (1 : Int32)))).2.1 (by decide) (by decide) kt
    refine own_step (T' := T0) (f' := (mkF m 37 #[.val (.ref a0'), .val (.ref a1'), .val (.int (0 : Int32)), .val (.int (1 : Int32))] [(.int (0 : Int32))])) (fun t kt => ?_) ?_
    · show Steps p.tables e below (T0.setTop (mkF m 36 #[.val (.ref a0'), .val (.ref a1'), .val (.int (0 : Int32)), .val (.int (1 : Int32))] [])) _
      refine XS.iloadN X0.here hx rfl (hb hby d1_36) rfl ?_
      exact kt
    exact own_retZ X0 hx hret (by simp) hlk (hb hby d1_37) (Nat.le_refl _) (Nat.le_refl _) ⟨congrArg (fun z => some (Value.int z)) hr.symm, N0, e0⟩
set_option maxRecDepth 65536 in
set_option maxHeartbeats 4000000 in
theorem rm1n1 (l : Launch) (Z : State) (a0 : Array Value) (hw : ∀ d ∈ tables_1, d.before a0 Z = true) (ws : List Jvm.Cond) (a0' : Addr) (a1' : Addr) (x0_0 : Int64) (x1_0 : Int64) (h0 : Heap) (n0 : Nat) (A0 : own_A Z h0 a0' .long [(.long x0_0)]) (A1 : own_A Z h0 a1' .long [(.long x1_0)]) :
    MetFree l (⟨"com/example/nearsame/nearsame/Banding", "agree", "([J[J)Z"⟩ : MethodName) (head1 (Jvm.Cond.code (⟨"com/example/nearsame/nearsame/Banding", "agree", "([J[J)Z"⟩ : MethodName) prog_3_method_8_code 4 (some .boolean) :: ws) ({ frames := 0, cells := 0, slots := 0, locals := 0 } : Room)) (fun a U => a = #[(.ref a0'), (.ref a1')] ∧ Z.Warmed39 U.vm ∧ U.heap = h0) (fun _ _ _ _ _ => True) (fun _ U o U' => ∃ v L, o = .returned v ∧ (own_P (.int (f1n1_0 x0_0 x1_0)) h0 n0) v U'.heap L ∧ FrameEnd U o U' L ({ frames := 0, cells := 0, slots := 0, locals := 0 } : Room).cells ({ frames := 0, cells := 0, slots := 0, locals := 0 } : Room).slots) := by
  refine MetFree.of_bodySF (plainFor_of_name pn1) hisR ?_
  intro p e s m args below meth c s₁ Bd hml0 hP hK
  obtain ⟨rfl, hZ, hh⟩ := hP
  have hown : s.vm.findClass "com/example/nearsame/nearsame/Banding" = some m.cls := findClass_of_methodNamed Bd.named
  have X0 : Stand p l e ({ frames := 0, cells := 0, slots := 0, locals := 0 } : Room) s m #[(.ref a0'), (.ref a1')] below meth c s₁ [] 0 0 := Stand.of_body Bd
  have e0 : s₁.heap = h0 := by rw [← hh, Bd.state]; rfl
  show own_Ends p e below s 0 0 (own_P (.int (f1n1_0 x0_0 x1_0)) h0 n0) s₁ (entryFrame m #[(.ref a0'), (.ref a1')] 4)
  refine own_step (fun t k => castTop (ef1 m a0' a1') k) ?_
  exact b1n1_0 a0' a1' x0_0 x1_0 X0 Bd.exec hZ hw Bd.bytes hml0 hown Bd.returns (BodyLoose.notSynchronized Bd) e0 (Fr.nil n0) A0 A1 rfl
def f1n2_0 (x0_0 : Int64) (x0_1 : Int64) (x1_0 : Int64) (x1_1 : Int64) : Int32 :=
  if x0_0 = x1_0 then ((1 : Int32)) else (if x0_1 = x1_1 then ((1 : Int32)) else ((0 : Int32)))
set_option maxRecDepth 65536 in
set_option maxHeartbeats 4000000 in
theorem b1n2_0 {p : Program} {l : Launch} {e : Env} {s : State} {m : MethodId} {args : Array Value} {below : List Frame} {meth : Method} {c : Code} {T0 : State} {locs : List Loc} {Z : State} {a0 : Array Value} {h0 : Heap} {n0 : Nat} (a0' : Addr) (a1' : Addr) (x0_0 : Int64) (x0_1 : Int64) (x1_0 : Int64) (x1_1 : Int64) {r : Int32} (X0 : Stand p l e ({ frames := 0, cells := 0, slots := 0, locals := 0 } : Room) s m args below meth c T0 locs 0 0) (hx : p.tables.exec = Jvm.exec) (hZ : Z.Warmed39 s.vm) (hw : ∀ d ∈ tables_1, d.before a0 Z = true) (hby : c.code = prog_3_method_8_code) (hml : c.maxLocals = 4) (hown : s.vm.findClass "com/example/nearsame/nearsame/Banding" = some m.cls) (hret : meth.sig.returnType = some .boolean) (hlk : meth.locks = false) (e0 : T0.heap = h0) (N0 : Fr n0 locs) (A0 : own_A Z h0 a0' .long [(.long x0_0), (.long x0_1)]) (A1 : own_A Z h0 a1' .long [(.long x1_0), (.long x1_1)]) (hr : r = f1n2_0 x0_0 x0_1 x1_0 x1_1) :
    own_Ends p e below s 0 0 (own_P (.int r) h0 n0) T0 (mkF m 0 #[.val (.ref a0'), .val (.ref a1'), .unset, .unset] []) := by
  unfold f1n2_0 at hr
  refine own_step (T' := T0) (f' := (mkF m 7 #[.val (.ref a0'), .val (.ref a1'), .val (.int (0 : Int32)), .val (.int (0 : Int32))] [(.int (2 : Int32)), (.int (0 : Int32))])) (fun t kt => ?_) ?_
  · show Steps p.tables e below (T0.setTop (mkF m 0 #[.val (.ref a0'), .val (.ref a1'), .unset, .unset] [])) _
    refine XS.iconst X0.here hx rfl (hb hby d1_0) ?_
    show Steps p.tables e below (T0.setTop (mkF m 1 #[.val (.ref a0'), .val (.ref a1'), .unset, .unset] [(.int (0 : Int32))])) _
    refine XS.istoreN X0.here hx rfl (hb hby d1_1) rfl (l' := #[.val (.ref a0'), .val (.ref a1'), .val (.int (0 : Int32)), .unset]) rfl ?_
    show Steps p.tables e below (T0.setTop (mkF m 2 #[.val (.ref a0'), .val (.ref a1'), .val (.int (0 : Int32)), .unset] [])) _
    refine XS.iconst X0.here hx rfl (hb hby d1_2) ?_
    show Steps p.tables e below (T0.setTop (mkF m 3 #[.val (.ref a0'), .val (.ref a1'), .val (.int (0 : Int32)), .unset] [(.int (0 : Int32))])) _
    refine XS.istoreN X0.here hx rfl (hb hby d1_3) rfl (l' := #[.val (.ref a0'), .val (.ref a1'), .val (.int (0 : Int32)), .val (.int (0 : Int32))]) rfl ?_
    show Steps p.tables e below (T0.setTop (mkF m 4 #[.val (.ref a0'), .val (.ref a1'), .val (.int (0 : Int32)), .val (.int (0 : Int32))] [])) _
    refine XS.iloadN X0.here hx rfl (hb hby d1_4) rfl ?_
    show Steps p.tables e below (T0.setTop (mkF m 5 #[.val (.ref a0'), .val (.ref a1'), .val (.int (0 : Int32)), .val (.int (0 : Int32))] [(.int (0 : Int32))])) _
    refine XS.aloadN X0.here hx rfl (hb hby d1_5) rfl rfl ?_
    show Steps p.tables e below (T0.setTop (mkF m 6 #[.val (.ref a0'), .val (.ref a1'), .val (.int (0 : Int32)), .val (.int (0 : Int32))] [(.ref a0'), (.int (0 : Int32))])) _
    refine own_len X0 hx hZ e0 A0 (n := (2 : Int32)) rfl (g := (mkF m 6 #[.val (.ref a0'), .val (.ref a1'), .val (.int (0 : Int32)), .val (.int (0 : Int32))] [(.ref a0'), (.int (0 : Int32))])) rfl rfl (hb hby d1_6) _ ?_
    exact kt
  refine own_step (T' := T0) (f' := (mkF m 10 #[.val (.ref a0'), .val (.ref a1'), .val (.int (0 : Int32)), .val (.int (0 : Int32))] [])) (fun t kt => ?_) ?_
  · show Steps p.tables e below (T0.setTop (mkF m 7 #[.val (.ref a0'), .val (.ref a1'), .val (.int (0 : Int32)), .val (.int (0 : Int32))] [(.int (2 : Int32)), (.int (0 : Int32))])) _
    refine XS.icmpNo X0.here hx rfl (hb hby d1_7) rfl (tlt (by decide : ((0 : Int32) < (2 : Int32)))).2.1 kt
  refine own_step (T' := T0) (f' := (mkF m 11 #[.val (.ref a0'), .val (.ref a1'), .val (.int (0 : Int32)), .val (.int (0 : Int32))] [(.int (0 : Int32))])) (fun t kt => ?_) ?_
  · show Steps p.tables e below (T0.setTop (mkF m 10 #[.val (.ref a0'), .val (.ref a1'), .val (.int (0 : Int32)), .val (.int (0 : Int32))] [])) _
    refine XS.iloadN X0.here hx rfl (hb hby d1_10) rfl ?_
    exact kt
  refine own_step (T' := T0) (f' := (mkF m 14 #[.val (.ref a0'), .val (.ref a1'), .val (.int (0 : Int32)), .val (.int (0 : Int32))] [])) (fun t kt => ?_) ?_
  · show Steps p.tables e below (T0.setTop (mkF m 11 #[.val (.ref a0'), .val (.ref a1'), .val (.int (0 : Int32)), .val (.int (0 : Int32))] [(.int (0 : Int32))])) _
    refine XS.ifNo X0.here hx rfl (hb hby d1_11) rfl ((if0 _ _).trans (teq (by decide : ((0 : Int32) = (0 : Int32)))).2) kt
  refine own_step (T' := T0) (f' := (mkF m 21 #[.val (.ref a0'), .val (.ref a1'), .val (.int (0 : Int32)), .val (.int (0 : Int32))] [(.int (lcmpW x0_0 x1_0))])) (fun t kt => ?_) ?_
  · show Steps p.tables e below (T0.setTop (mkF m 14 #[.val (.ref a0'), .val (.ref a1'), .val (.int (0 : Int32)), .val (.int (0 : Int32))] [])) _
    refine XS.aloadN X0.here hx rfl (hb hby d1_14) rfl rfl ?_
    show Steps p.tables e below (T0.setTop (mkF m 15 #[.val (.ref a0'), .val (.ref a1'), .val (.int (0 : Int32)), .val (.int (0 : Int32))] [(.ref a0')])) _
    refine XS.iloadN X0.here hx rfl (hb hby d1_15) rfl ?_
    show Steps p.tables e below (T0.setTop (mkF m 16 #[.val (.ref a0'), .val (.ref a1'), .val (.int (0 : Int32)), .val (.int (0 : Int32))] [(.int (0 : Int32)), (.ref a0')])) _
    refine own_ldJ X0 hx hZ e0 A0 (j := (0 : Int32)) (by decide) (k := 0) (by decide) (v := (.long x0_0)) rfl (g := (mkF m 16 #[.val (.ref a0'), .val (.ref a1'), .val (.int (0 : Int32)), .val (.int (0 : Int32))] [(.int (0 : Int32)), (.ref a0')])) rfl rfl (hb hby d1_16) _ ?_
    show Steps p.tables e below (T0.setTop (mkF m 17 #[.val (.ref a0'), .val (.ref a1'), .val (.int (0 : Int32)), .val (.int (0 : Int32))] [(.long x0_0)])) _
    refine XS.aloadN X0.here hx rfl (hb hby d1_17) rfl rfl ?_
    show Steps p.tables e below (T0.setTop (mkF m 18 #[.val (.ref a0'), .val (.ref a1'), .val (.int (0 : Int32)), .val (.int (0 : Int32))] [(.ref a1'), (.long x0_0)])) _
    refine XS.iloadN X0.here hx rfl (hb hby d1_18) rfl ?_
    show Steps p.tables e below (T0.setTop (mkF m 19 #[.val (.ref a0'), .val (.ref a1'), .val (.int (0 : Int32)), .val (.int (0 : Int32))] [(.int (0 : Int32)), (.ref a1'), (.long x0_0)])) _
    refine own_ldJ X0 hx hZ e0 A1 (j := (0 : Int32)) (by decide) (k := 0) (by decide) (v := (.long x1_0)) rfl (g := (mkF m 19 #[.val (.ref a0'), .val (.ref a1'), .val (.int (0 : Int32)), .val (.int (0 : Int32))] [(.int (0 : Int32)), (.ref a1'), (.long x0_0)])) rfl rfl (hb hby d1_19) _ ?_
    show Steps p.tables e below (T0.setTop (mkF m 20 #[.val (.ref a0'), .val (.ref a1'), .val (.int (0 : Int32)), .val (.int (0 : Int32))] [(.long x1_0), (.long x0_0)])) _
    refine XS.lcmp X0.here hx rfl (hb hby d1_20) rfl ?_
    exact kt
  by_cases hc21_3 : x0_0 = x1_0
  · rw [if_pos hc21_3] at hr
    refine own_step (T' := T0) (f' := (mkF m 24 #[.val (.ref a0'), .val (.ref a1'), .val (.int (0 : Int32)), .val (.int (0 : Int32))] [])) (fun t kt => ?_) ?_
    · show Steps p.tables e below (T0.setTop (mkF m 21 #[.val (.ref a0'), .val (.ref a1'), .val (.int (0 : Int32)), .val (.int (0 : Int32))] [(.int (lcmpW x0_0 x1_0))])) _
      refine XS.ifNo X0.here hx rfl (hb hby d1_21) rfl ((if0 _ _).trans (teq ((lw_eq _ _).mpr hc21_3)).2) kt
    refine own_step (T' := T0) (f' := (mkF m 7 #[.val (.ref a0'), .val (.ref a1'), .val (.int (1 : Int32)), .val (.int (1 : Int32))] [(.int (2 : Int32)), (.int (1 : Int32))])) (fun t kt => ?_) ?_
    · show Steps p.tables e below (T0.setTop (mkF m 24 #[.val (.ref a0'), .val (.ref a1'), .val (.int (0 : Int32)), .val (.int (0 : Int32))] [])) _
      refine XS.iconst X0.here hx rfl (hb hby d1_24) ?_
      show Steps p.tables e below (T0.setTop (mkF m 25 #[.val (.ref a0'), .val (.ref a1'), .val (.int (0 : Int32)), .val (.int (0 : Int32))] [(.int (1 : Int32))])) _
      refine XS.goto X0.here hx rfl (pc0 := 25) (pc' := 29) rfl (hb hby d1_25) (by decide) (by decide) ?_
      show Steps p.tables e below (T0.setTop (mkF m 29 #[.val (.ref a0'), .val (.ref a1'), .val (.int (0 : Int32)), .val (.int (0 : Int32))] [(.int (1 : Int32))])) _
      refine XS.istoreN X0.here hx rfl (hb hby d1_29) rfl (l' := #[.val (.ref a0'), .val (.ref a1'), .val (.int (1 : Int32)), .val (.int (0 : Int32))]) rfl ?_
      show Steps p.tables e below (T0.setTop (mkF m 30 #[.val (.ref a0'), .val (.ref a1'), .val (.int (1 : Int32)), .val (.int (0 : Int32))] [])) _
      refine XS.iinc X0.here hx rfl (hb hby d1_30) rfl (l' := #[.val (.ref a0'), .val (.ref a1'), .val (.int (1 : Int32)), .val (.int (1 : Int32))]) rfl ?_
      show Steps p.tables e below (T0.setTop (mkF m 33 #[.val (.ref a0'), .val (.ref a1'), .val (.int (1 : Int32)), .val (.int (1 : Int32))] [])) _
      refine XS.goto X0.here hx rfl (pc0 := 33) (pc' := 4) rfl (hb hby d1_33) (by decide) (by decide) ?_
      show Steps p.tables e below (T0.setTop (mkF m 4 #[.val (.ref a0'), .val (.ref a1'), .val (.int (1 : Int32)), .val (.int (1 : Int32))] [])) _
      refine XS.iloadN X0.here hx rfl (hb hby d1_4) rfl ?_
      show Steps p.tables e below (T0.setTop (mkF m 5 #[.val (.ref a0'), .val (.ref a1'), .val (.int (1 : Int32)), .val (.int (1 : Int32))] [(.int (1 : Int32))])) _
      refine XS.aloadN X0.here hx rfl (hb hby d1_5) rfl rfl ?_
      show Steps p.tables e below (T0.setTop (mkF m 6 #[.val (.ref a0'), .val (.ref a1'), .val (.int (1 : Int32)), .val (.int (1 : Int32))] [(.ref a0'), (.int (1 : Int32))])) _
      refine own_len X0 hx hZ e0 A0 (n := (2 : Int32)) rfl (g := (mkF m 6 #[.val (.ref a0'), .val (.ref a1'), .val (.int (1 : Int32)), .val (.int (1 : Int32))] [(.ref a0'), (.int (1 : Int32))])) rfl rfl (hb hby d1_6) _ ?_
      exact kt
    refine own_step (T' := T0) (f' := (mkF m 10 #[.val (.ref a0'), .val (.ref a1'), .val (.int (1 : Int32)), .val (.int (1 : Int32))] [])) (fun t kt => ?_) ?_
    · show Steps p.tables e below (T0.setTop (mkF m 7 #[.val (.ref a0'), .val (.ref a1'), .val (.int (1 : Int32)), .val (.int (1 : Int32))] [(.int (2 : Int32)), (.int (1 : Int32))])) _
      refine XS.icmpNo X0.here hx rfl (hb hby d1_7) rfl (tlt (by decide : ((1 : Int32) < (2 : Int32)))).2.1 kt
    refine own_step (T' := T0) (f' := (mkF m 11 #[.val (.ref a0'), .val (.ref a1'), .val (.int (1 : Int32)), .val (.int (1 : Int32))] [(.int (1 : Int32))])) (fun t kt => ?_) ?_
    · show Steps p.tables e below (T0.setTop (mkF m 10 #[.val (.ref a0'), .val (.ref a1'), .val (.int (1 : Int32)), .val (.int (1 : Int32))] [])) _
      refine XS.iloadN X0.here hx rfl (hb hby d1_10) rfl ?_
      exact kt
    refine own_step (T' := T0) (f' := (mkF m 36 #[.val (.ref a0'), .val (.ref a1'), .val (.int (1 : Int32)), .val (.int (1 : Int32))] [])) (fun t kt => ?_) ?_
    · show Steps p.tables e below (T0.setTop (mkF m 11 #[.val (.ref a0'), .val (.ref a1'), .val (.int (1 : Int32)), .val (.int (1 : Int32))] [(.int (1 : Int32))])) _
      refine XS.ifYes X0.here hx rfl (pc0 := 11) (pc' := 36) rfl (hb hby d1_11) rfl ((if0 _ _).trans (feq (by decide : ¬ ((1 : Int32) = (0 : Int32)))).2) (by decide) (by decide) kt
    refine own_step (T' := T0) (f' := (mkF m 37 #[.val (.ref a0'), .val (.ref a1'), .val (.int (1 : Int32)), .val (.int (1 : Int32))] [(.int (1 : Int32))])) (fun t kt => ?_) ?_
    · show Steps p.tables e below (T0.setTop (mkF m 36 #[.val (.ref a0'), .val (.ref a1'), .val (.int (1 : Int32)), .val (.int (1 : Int32))] [])) _
      refine XS.iloadN X0.here hx rfl (hb hby d1_36) rfl ?_
      exact kt
    exact own_retZ X0 hx hret (by simp) hlk (hb hby d1_37) (Nat.le_refl _) (Nat.le_refl _) ⟨congrArg (fun z => some (Value.int z)) hr.symm, N0, e0⟩
  · rw [if_neg hc21_3] at hr
    refine own_step (T' := T0) (f' := (mkF m 28 #[.val (.ref a0'), .val (.ref a1'), .val (.int (0 : Int32)), .val (.int (0 : Int32))] [])) (fun t kt => ?_) ?_
    · show Steps p.tables e below (T0.setTop (mkF m 21 #[.val (.ref a0'), .val (.ref a1'), .val (.int (0 : Int32)), .val (.int (0 : Int32))] [(.int (lcmpW x0_0 x1_0))])) _
      refine XS.ifYes X0.here hx rfl (pc0 := 21) (pc' := 28) rfl (hb hby d1_21) rfl ((if0 _ _).trans (feq (mt (lw_eq _ _).mp hc21_3)).2) (by decide) (by decide) kt
    refine own_step (T' := T0) (f' := (mkF m 7 #[.val (.ref a0'), .val (.ref a1'), .val (.int (0 : Int32)), .val (.int (1 : Int32))] [(.int (2 : Int32)), (.int (1 : Int32))])) (fun t kt => ?_) ?_
    · show Steps p.tables e below (T0.setTop (mkF m 28 #[.val (.ref a0'), .val (.ref a1'), .val (.int (0 : Int32)), .val (.int (0 : Int32))] [])) _
      refine XS.iconst X0.here hx rfl (hb hby d1_28) ?_
      show Steps p.tables e below (T0.setTop (mkF m 29 #[.val (.ref a0'), .val (.ref a1'), .val (.int (0 : Int32)), .val (.int (0 : Int32))] [(.int (0 : Int32))])) _
      refine XS.istoreN X0.here hx rfl (hb hby d1_29) rfl (l' := #[.val (.ref a0'), .val (.ref a1'), .val (.int (0 : Int32)), .val (.int (0 : Int32))]) rfl ?_
      show Steps p.tables e below (T0.setTop (mkF m 30 #[.val (.ref a0'), .val (.ref a1'), .val (.int (0 : Int32)), .val (.int (0 : Int32))] [])) _
      refine XS.iinc X0.here hx rfl (hb hby d1_30) rfl (l' := #[.val (.ref a0'), .val (.ref a1'), .val (.int (0 : Int32)), .val (.int (1 : Int32))]) rfl ?_
      show Steps p.tables e below (T0.setTop (mkF m 33 #[.val (.ref a0'), .val (.ref a1'), .val (.int (0 : Int32)), .val (.int (1 : Int32))] [])) _
      refine XS.goto X0.here hx rfl (pc0 := 33) (pc' := 4) rfl (hb hby d1_33) (by decide) (by decide) ?_
      show Steps p.tables e below (T0.setTop (mkF m 4 #[.val (.ref a0'), .val (.ref a1'), .val (.int (0 : Int32)), .val (.int (1 : Int32))] [])) _
      refine XS.iloadN X0.here hx rfl (hb hby d1_4) rfl ?_
      show Steps p.tables e below (T0.setTop (mkF m 5 #[.val (.ref a0'), .val (.ref a1'), .val (.int (0 : Int32)), .val (.int (1 : Int32))] [(.int (1 : Int32))])) _
      refine XS.aloadN X0.here hx rfl (hb hby d1_5) rfl rfl ?_
      show Steps p.tables e below (T0.setTop (mkF m 6 #[.val (.ref a0'), .val (.ref a1'), .val (.int (0 : Int32)), .val (.int (1 : Int32))] [(.ref a0'), (.int (1 : Int32))])) _
      refine own_len X0 hx hZ e0 A0 (n := (2 : Int32)) rfl (g := (mkF m 6 #[.val (.ref a0'), .val (.ref a1'), .val (.int (0 : Int32)), .val (.int (1 : Int32))] [(.ref a0'), (.int (1 : Int32))])) rfl rfl (hb hby d1_6) _ ?_
      exact kt
    refine own_step (T' := T0) (f' := (mkF m 10 #[.val (.ref a0'), .val (.ref a1'), .val (.int (0 : Int32)), .val (.int (1 : Int32))] [])) (fun t kt => ?_) ?_
    · show Steps p.tables e below (T0.setTop (mkF m 7 #[.val (.ref a0'), .val (.ref a1'), .val (.int (0 : Int32)), .val (.int (1 : Int32))] [(.int (2 : Int32)), (.int (1 : Int32))])) _
      refine XS.icmpNo X0.here hx rfl (hb hby d1_7) rfl (tlt (by decide : ((1 : Int32) < (2 : Int32)))).2.1 kt
    refine own_step (T' := T0) (f' := (mkF m 11 #[.val (.ref a0'), .val (.ref a1'), .val (.int (0 : Int32)), .val (.int (1 : Int32))] [(.int (0 : Int32))])) (fun t kt => ?_) ?_
    · show Steps p.tables e below (T0.setTop (mkF m 10 #[.val (.ref a0'), .val (.ref a1'), .val (.int (0 : Int32)), .val (.int (1 : Int32))] [])) _
      refine XS.iloadN X0.here hx rfl (hb hby d1_10) rfl ?_
      exact kt
    refine own_step (T' := T0) (f' := (mkF m 14 #[.val (.ref a0'), .val (.ref a1'), .val (.int (0 : Int32)), .val (.int (1 : Int32))] [])) (fun t kt => ?_) ?_
    · show Steps p.tables e below (T0.setTop (mkF m 11 #[.val (.ref a0'), .val (.ref a1'), .val (.int (0 : Int32)), .val (.int (1 : Int32))] [(.int (0 : Int32))])) _
      refine XS.ifNo X0.here hx rfl (hb hby d1_11) rfl ((if0 _ _).trans (teq (by decide : ((0 : Int32) = (0 : Int32)))).2) kt
    refine own_step (T' := T0) (f' := (mkF m 21 #[.val (.ref a0'), .val (.ref a1'), .val (.int (0 : Int32)), .val (.int (1 : Int32))] [(.int (lcmpW x0_1 x1_1))])) (fun t kt => ?_) ?_
    · show Steps p.tables e below (T0.setTop (mkF m 14 #[.val (.ref a0'), .val (.ref a1'), .val (.int (0 : Int32)), .val (.int (1 : Int32))] [])) _
      refine XS.aloadN X0.here hx rfl (hb hby d1_14) rfl rfl ?_
      show Steps p.tables e below (T0.setTop (mkF m 15 #[.val (.ref a0'), .val (.ref a1'), .val (.int (0 : Int32)), .val (.int (1 : Int32))] [(.ref a0')])) _
      refine XS.iloadN X0.here hx rfl (hb hby d1_15) rfl ?_
      show Steps p.tables e below (T0.setTop (mkF m 16 #[.val (.ref a0'), .val (.ref a1'), .val (.int (0 : Int32)), .val (.int (1 : Int32))] [(.int (1 : Int32)), (.ref a0')])) _
      refine own_ldJ X0 hx hZ e0 A0 (j := (1 : Int32)) (by decide) (k := 1) (by decide) (v := (.long x0_1)) rfl (g := (mkF m 16 #[.val (.ref a0'), .val (.ref a1'), .val (.int (0 : Int32)), .val (.int (1 : Int32))] [(.int (1 : Int32)), (.ref a0')])) rfl rfl (hb hby d1_16) _ ?_
      show Steps p.tables e below (T0.setTop (mkF m 17 #[.val (.ref a0'), .val (.ref a1'), .val (.int (0 : Int32)), .val (.int (1 : Int32))] [(.long x0_1)])) _
      refine XS.aloadN X0.here hx rfl (hb hby d1_17) rfl rfl ?_
      show Steps p.tables e below (T0.setTop (mkF m 18 #[.val (.ref a0'), .val (.ref a1'), .val (.int (0 : Int32)), .val (.int (1 : Int32))] [(.ref a1'), (.long x0_1)])) _
      refine XS.iloadN X0.here hx rfl (hb hby d1_18) rfl ?_
      show Steps p.tables e below (T0.setTop (mkF m 19 #[.val (.ref a0'), .val (.ref a1'), .val (.int (0 : Int32)), .val (.int (1 : Int32))] [(.int (1 : Int32)), (.ref a1'), (.long x0_1)])) _
      refine own_ldJ X0 hx hZ e0 A1 (j := (1 : Int32)) (by decide) (k := 1) (by decide) (v := (.long x1_1)) rfl (g := (mkF m 19 #[.val (.ref a0'), .val (.ref a1'), .val (.int (0 : Int32)), .val (.int (1 : Int32))] [(.int (1 : Int32)), (.ref a1'), (.long x0_1)])) rfl rfl (hb hby d1_19) _ ?_
      show Steps p.tables e below (T0.setTop (mkF m 20 #[.val (.ref a0'), .val (.ref a1'), .val (.int (0 : Int32)), .val (.int (1 : Int32))] [(.long x1_1), (.long x0_1)])) _
      refine XS.lcmp X0.here hx rfl (hb hby d1_20) rfl ?_
      exact kt
    by_cases hc21_8 : x0_1 = x1_1
    · rw [if_pos hc21_8] at hr
      refine own_step (T' := T0) (f' := (mkF m 24 #[.val (.ref a0'), .val (.ref a1'), .val (.int (0 : Int32)), .val (.int (1 : Int32))] [])) (fun t kt => ?_) ?_
      · show Steps p.tables e below (T0.setTop (mkF m 21 #[.val (.ref a0'), .val (.ref a1'), .val (.int (0 : Int32)), .val (.int (1 : Int32))] [(.int (lcmpW x0_1 x1_1))])) _
        refine XS.ifNo X0.here hx rfl (hb hby d1_21) rfl ((if0 _ _).trans (teq ((lw_eq _ _).mpr hc21_8)).2) kt
      refine own_step (T' := T0) (f' := (mkF m 7 #[.val (.ref a0'), .val (.ref a1'), .val (.int (1 : Int32)), .val (.int (2 : Int32))] [(.int (2 : Int32)), (.int (2 : Int32))])) (fun t kt => ?_) ?_
      · show Steps p.tables e below (T0.setTop (mkF m 24 #[.val (.ref a0'), .val (.ref a1'), .val (.int (0 : Int32)), .val (.int (1 : Int32))] [])) _
        refine XS.iconst X0.here hx rfl (hb hby d1_24) ?_
        show Steps p.tables e below (T0.setTop (mkF m 25 #[.val (.ref a0'), .val (.ref a1'), .val (.int (0 : Int32)), .val (.int (1 : Int32))] [(.int (1 : Int32))])) _
        refine XS.goto X0.here hx rfl (pc0 := 25) (pc' := 29) rfl (hb hby d1_25) (by decide) (by decide) ?_
        show Steps p.tables e below (T0.setTop (mkF m 29 #[.val (.ref a0'), .val (.ref a1'), .val (.int (0 : Int32)), .val (.int (1 : Int32))] [(.int (1 : Int32))])) _
        refine XS.istoreN X0.here hx rfl (hb hby d1_29) rfl (l' := #[.val (.ref a0'), .val (.ref a1'), .val (.int (1 : Int32)), .val (.int (1 : Int32))]) rfl ?_
        show Steps p.tables e below (T0.setTop (mkF m 30 #[.val (.ref a0'), .val (.ref a1'), .val (.int (1 : Int32)), .val (.int (1 : Int32))] [])) _
        refine XS.iinc X0.here hx rfl (hb hby d1_30) rfl (l' := #[.val (.ref a0'), .val (.ref a1'), .val (.int (1 : Int32)), .val (.int (2 : Int32))]) rfl ?_
        show Steps p.tables e below (T0.setTop (mkF m 33 #[.val (.ref a0'), .val (.ref a1'), .val (.int (1 : Int32)), .val (.int (2 : Int32))] [])) _
        refine XS.goto X0.here hx rfl (pc0 := 33) (pc' := 4) rfl (hb hby d1_33) (by decide) (by decide) ?_
        show Steps p.tables e below (T0.setTop (mkF m 4 #[.val (.ref a0'), .val (.ref a1'), .val (.int (1 : Int32)), .val (.int (2 : Int32))] [])) _
        refine XS.iloadN X0.here hx rfl (hb hby d1_4) rfl ?_
        show Steps p.tables e below (T0.setTop (mkF m 5 #[.val (.ref a0'), .val (.ref a1'), .val (.int (1 : Int32)), .val (.int (2 : Int32))] [(.int (2 : Int32))])) _
        refine XS.aloadN X0.here hx rfl (hb hby d1_5) rfl rfl ?_
        show Steps p.tables e below (T0.setTop (mkF m 6 #[.val (.ref a0'), .val (.ref a1'), .val (.int (1 : Int32)), .val (.int (2 : Int32))] [(.ref a0'), (.int (2 : Int32))])) _
        refine own_len X0 hx hZ e0 A0 (n := (2 : Int32)) rfl (g := (mkF m 6 #[.val (.ref a0'), .val (.ref a1'), .val (.int (1 : Int32)), .val (.int (2 : Int32))] [(.ref a0'), (.int (2 : Int32))])) rfl rfl (hb hby d1_6) _ ?_
        exact kt
      refine own_step (T' := T0) (f' := (mkF m 36 #[.val (.ref a0'), .val (.ref a1'), .val (.int (1 : Int32)), .val (.int (2 : Int32))] [])) (fun t kt => ?_) ?_
      · show Steps p.tables e below (T0.setTop (mkF m 7 #[.val (.ref a0'), .val (.ref a1'), .val (.int (1 : Int32)), .val (.int (2 : Int32))] [(.int (2 : Int32)), (.int (2 : Int32))])) _
        refine XS.icmpYes X0.here hx rfl (pc0 := 7) (pc' := 36) rfl (hb hby d1_7) rfl (flt (by decide : ¬ ((2 : Int32) < (2 : Int32)))).2.1 (by decide) (by decide) kt
      refine own_step (T' := T0) (f' := (mkF m 37 #[.val (.ref a0'), .val (.ref a1'), .val (.int (1 : Int32)), .val (.int (2 : Int32))] [(.int (1 : Int32))])) (fun t kt => ?_) ?_
      · show Steps p.tables e below (T0.setTop (mkF m 36 #[.val (.ref a0'), .val (.ref a1'), .val (.int (1 : Int32)), .val (.int (2 : Int32))] [])) _
        refine XS.iloadN X0.here hx rfl (hb hby d1_36) rfl ?_
        exact kt
      exact own_retZ X0 hx hret (by simp) hlk (hb hby d1_37) (Nat.le_refl _) (Nat.le_refl _) ⟨congrArg (fun z => some (Value.int z)) hr.symm, N0, e0⟩
    · rw [if_neg hc21_8] at hr
      refine own_step (T' := T0) (f' := (mkF m 28 #[.val (.ref a0'), .val (.ref a1'), .val (.int (0 : Int32)), .val (.int (1 : Int32))] [])) (fun t kt => ?_) ?_
      · show Steps p.tables e below (T0.setTop (mkF m 21 #[.val (.ref a0'), .val (.ref a1'), .val (.int (0 : Int32)), .val (.int (1 : Int32))] [(.int (lcmpW x0_1 x1_1))])) _
        refine XS.ifYes X0.here hx rfl (pc0 := 21) (pc' := 28) rfl (hb hby d1_21) rfl ((if0 _ _).trans (feq (mt (lw_eq _ _).mp hc21_8)).2) (by decide) (by decide) kt
      refine own_step (T' := T0) (f' := (mkF m 7 #[.val (.ref a0'), .val (.ref a1'), .val (.int (0 : Int32)), .val (.int (2 : Int32))] [(.int (2 : Int32)), (.int (2 : Int32))])) (fun t kt => ?_) ?_
      · show Steps p.tables e below (T0.setTop (mkF m 28 #[.val (.ref a0'), .val (.ref a1'), .val (.int (0 : Int32)), .val (.int (1 : Int32))] [])) _
        refine XS.iconst X0.here hx rfl (hb hby d1_28) ?_
        show Steps p.tables e below (T0.setTop (mkF m 29 #[.val (.ref a0'), .val (.ref a1'), .val (.int (0 : Int32)), .val (.int (1 : Int32))] [(.int (0 : Int32))])) _
        refine XS.istoreN X0.here hx rfl (hb hby d1_29) rfl (l' := #[.val (.ref a0'), .val (.ref a1'), .val (.int (0 : Int32)), .val (.int (1 : Int32))]) rfl ?_
        show Steps p.tables e below (T0.setTop (mkF m 30 #[.val (.ref a0'), .val (.ref a1'), .val (.int (0 : Int32)), .val (.int (1 : Int32))] [])) _
        refine XS.iinc X0.here hx rfl (hb hby d1_30) rfl (l' := #[.val (.ref a0'), .val (.ref a1'), .val (.int (0 : Int32)), .val (.int (2 : Int32))]) rfl ?_
        show Steps p.tables e below (T0.setTop (mkF m 33 #[.val (.ref a0'), .val (.ref a1'), .val (.int (0 : Int32)), .val (.int (2 : Int32))] [])) _
        refine XS.goto X0.here hx rfl (pc0 := 33) (pc' := 4) rfl (hb hby d1_33) (by decide) (by decide) ?_
        show Steps p.tables e below (T0.setTop (mkF m 4 #[.val (.ref a0'), .val (.ref a1'), .val (.int (0 : Int32)), .val (.int (2 : Int32))] [])) _
        refine XS.iloadN X0.here hx rfl (hb hby d1_4) rfl ?_
        show Steps p.tables e below (T0.setTop (mkF m 5 #[.val (.ref a0'), .val (.ref a1'), .val (.int (0 : Int32)), .val (.int (2 : Int32))] [(.int (2 : Int32))])) _
        refine XS.aloadN X0.here hx rfl (hb hby d1_5) rfl rfl ?_
        show Steps p.tables e below (T0.setTop (mkF m 6 #[.val (.ref a0'), .val (.ref a1'), .val (.int (0 : Int32)), .val (.int (2 : Int32))] [(.ref a0'), (.int (2 : Int32))])) _
        refine own_len X0 hx hZ e0 A0 (n := (2 : Int32)) rfl (g := (mkF m 6 #[.val (.ref a0'), .val (.ref a1'), .val (.int (0 : Int32)), .val (.int (2 : Int32))] [(.ref a0'), (.int (2 : Int32))])) rfl rfl (hb hby d1_6) _ ?_
        exact kt
      refine own_step (T' := T0) (f' := (mkF m 36 #[.val (.ref a0'), .val (.ref a1'), .val (.int (0 : Int32)), .val (.int (2 : Int32))] [])) (fun t kt => ?_) ?_
      · show Steps p.tables e below (T0.setTop (mkF m 7 #[.val (.ref a0'), .val (.ref a1'), .val (.int (0 : Int32)), .val (.int (2 : Int32))] [(.int (2 : Int32)), (.int (2 : Int32))])) _
        refine XS.icmpYes X0.here hx rfl (pc0 := 7) (pc' := 36) rfl (hb hby d1_7) rfl (flt (by decide : ¬ ((2 : Int32) < (2 : Int32)))).2.1 (by decide) (by decide) kt
      refine own_step (T' := T0) (f' := (mkF m 37 #[.val (.ref a0'), .val (.ref a1'), .val (.int (0 : Int32)), .val (.int (2 : Int32))] [(.int (0 : Int32))])) (fun t kt => ?_) ?_
      · show Steps p.tables e below (T0.setTop (mkF m 36 #[.val (.ref a0'), .val (.ref a1'), .val (.int (0 : Int32)), .val (.int (2 : Int32))] [])) _
        refine XS.iloadN X0.here hx rfl (hb hby d1_36) rfl ?_
        exact kt
      exact own_retZ X0 hx hret (by simp) hlk (hb hby d1_37) (Nat.le_refl _) (Nat.le_refl _) ⟨congrArg (fun z => some (Value.int z)) hr.symm, N0, e0⟩
set_option maxRecDepth 65536 in
set_option maxHeartbeats 4000000 in
theorem rm1n2 (l : Launch) (Z : State) (a0 : Array Value) (hw : ∀ d ∈ tables_1, d.before a0 Z = true) (ws : List Jvm.Cond) (a0' : Addr) (a1' : Addr) (x0_0 : Int64) (x0_1 : Int64) (x1_0 : Int64) (x1_1 : Int64) (h0 : Heap) (n0 : Nat) (A0 : own_A Z h0 a0' .long [(.long x0_0), (.long x0_1)]) (A1 : own_A Z h0 a1' .long [(.long x1_0), (.long x1_1)]) :
    MetFree l (⟨"com/example/nearsame/nearsame/Banding", "agree", "([J[J)Z"⟩ : MethodName) (head1 (Jvm.Cond.code (⟨"com/example/nearsame/nearsame/Banding", "agree", "([J[J)Z"⟩ : MethodName) prog_3_method_8_code 4 (some .boolean) :: ws) ({ frames := 0, cells := 0, slots := 0, locals := 0 } : Room)) (fun a U => a = #[(.ref a0'), (.ref a1')] ∧ Z.Warmed39 U.vm ∧ U.heap = h0) (fun _ _ _ _ _ => True) (fun _ U o U' => ∃ v L, o = .returned v ∧ (own_P (.int (f1n2_0 x0_0 x0_1 x1_0 x1_1)) h0 n0) v U'.heap L ∧ FrameEnd U o U' L ({ frames := 0, cells := 0, slots := 0, locals := 0 } : Room).cells ({ frames := 0, cells := 0, slots := 0, locals := 0 } : Room).slots) := by
  refine MetFree.of_bodySF (plainFor_of_name pn1) hisR ?_
  intro p e s m args below meth c s₁ Bd hml0 hP hK
  obtain ⟨rfl, hZ, hh⟩ := hP
  have hown : s.vm.findClass "com/example/nearsame/nearsame/Banding" = some m.cls := findClass_of_methodNamed Bd.named
  have X0 : Stand p l e ({ frames := 0, cells := 0, slots := 0, locals := 0 } : Room) s m #[(.ref a0'), (.ref a1')] below meth c s₁ [] 0 0 := Stand.of_body Bd
  have e0 : s₁.heap = h0 := by rw [← hh, Bd.state]; rfl
  show own_Ends p e below s 0 0 (own_P (.int (f1n2_0 x0_0 x0_1 x1_0 x1_1)) h0 n0) s₁ (entryFrame m #[(.ref a0'), (.ref a1')] 4)
  refine own_step (fun t k => castTop (ef1 m a0' a1') k) ?_
  exact b1n2_0 a0' a1' x0_0 x0_1 x1_0 x1_1 X0 Bd.exec hZ hw Bd.bytes hml0 hown Bd.returns (BodyLoose.notSynchronized Bd) e0 (Fr.nil n0) A0 A1 rfl
def f1n3_0 (x0_0 : Int64) (x0_1 : Int64) (x0_2 : Int64) (x1_0 : Int64) (x1_1 : Int64) (x1_2 : Int64) : Int32 :=
  if x0_0 = x1_0 then ((1 : Int32)) else (if x0_1 = x1_1 then ((1 : Int32)) else (if x0_2 = x1_2 then ((1 : Int32)) else ((0 : Int32))))
set_option maxRecDepth 65536 in
set_option maxHeartbeats 4000000 in
theorem b1n3_0 {p : Program} {l : Launch} {e : Env} {s : State} {m : MethodId} {args : Array Value} {below : List Frame} {meth : Method} {c : Code} {T0 : State} {locs : List Loc} {Z : State} {a0 : Array Value} {h0 : Heap} {n0 : Nat} (a0' : Addr) (a1' : Addr) (x0_0 : Int64) (x0_1 : Int64) (x0_2 : Int64) (x1_0 : Int64) (x1_1 : Int64) (x1_2 : Int64) {r : Int32} (X0 : Stand p l e ({ frames := 0, cells := 0, slots := 0, locals := 0 } : Room) s m args below meth c T0 locs 0 0) (hx : p.tables.exec = Jvm.exec) (hZ : Z.Warmed39 s.vm) (hw : ∀ d ∈ tables_1, d.before a0 Z = true) (hby : c.code = prog_3_method_8_code) (hml : c.maxLocals = 4) (hown : s.vm.findClass "com/example/nearsame/nearsame/Banding" = some m.cls) (hret : meth.sig.returnType = some .boolean) (hlk : meth.locks = false) (e0 : T0.heap = h0) (N0 : Fr n0 locs) (A0 : own_A Z h0 a0' .long [(.long x0_0), (.long x0_1), (.long x0_2)]) (A1 : own_A Z h0 a1' .long [(.long x1_0), (.long x1_1), (.long x1_2)]) (hr : r = f1n3_0 x0_0 x0_1 x0_2 x1_0 x1_1 x1_2) :
    own_Ends p e below s 0 0 (own_P (.int r) h0 n0) T0 (mkF m 0 #[.val (.ref a0'), .val (.ref a1'), .unset, .unset] []) := by
  unfold f1n3_0 at hr
  refine own_step (T' := T0) (f' := (mkF m 7 #[.val (.ref a0'), .val (.ref a1'), .val (.int (0 : Int32)), .val (.int (0 : Int32))] [(.int (3 : Int32)), (.int (0 : Int32))])) (fun t kt => ?_) ?_
  · show Steps p.tables e below (T0.setTop (mkF m 0 #[.val (.ref a0'), .val (.ref a1'), .unset, .unset] [])) _
    refine XS.iconst X0.here hx rfl (hb hby d1_0) ?_
    show Steps p.tables e below (T0.setTop (mkF m 1 #[.val (.ref a0'), .val (.ref a1'), .unset, .unset] [(.int (0 : Int32))])) _
    refine XS.istoreN X0.here hx rfl (hb hby d1_1) rfl (l' := #[.val (.ref a0'), .val (.ref a1'), .val (.int (0 : Int32)), .unset]) rfl ?_
    show Steps p.tables e below (T0.setTop (mkF m 2 #[.val (.ref a0'), .val (.ref a1'), .val (.int (0 : Int32)), .unset] [])) _
    refine XS.iconst X0.here hx rfl (hb hby d1_2) ?_
    show Steps p.tables e below (T0.setTop (mkF m 3 #[.val (.ref a0'), .val (.ref a1'), .val (.int (0 : Int32)), .unset] [(.int (0 : Int32))])) _
    refine XS.istoreN X0.here hx rfl (hb hby d1_3) rfl (l' := #[.val (.ref a0'), .val (.ref a1'), .val (.int (0 : Int32)), .val (.int (0 : Int32))]) rfl ?_
    show Steps p.tables e below (T0.setTop (mkF m 4 #[.val (.ref a0'), .val (.ref a1'), .val (.int (0 : Int32)), .val (.int (0 : Int32))] [])) _
    refine XS.iloadN X0.here hx rfl (hb hby d1_4) rfl ?_
    show Steps p.tables e below (T0.setTop (mkF m 5 #[.val (.ref a0'), .val (.ref a1'), .val (.int (0 : Int32)), .val (.int (0 : Int32))] [(.int (0 : Int32))])) _
    refine XS.aloadN X0.here hx rfl (hb hby d1_5) rfl rfl ?_
    show Steps p.tables e below (T0.setTop (mkF m 6 #[.val (.ref a0'), .val (.ref a1'), .val (.int (0 : Int32)), .val (.int (0 : Int32))] [(.ref a0'), (.int (0 : Int32))])) _
    refine own_len X0 hx hZ e0 A0 (n := (3 : Int32)) rfl (g := (mkF m 6 #[.val (.ref a0'), .val (.ref a1'), .val (.int (0 : Int32)), .val (.int (0 : Int32))] [(.ref a0'), (.int (0 : Int32))])) rfl rfl (hb hby d1_6) _ ?_
    exact kt
  refine own_step (T' := T0) (f' := (mkF m 10 #[.val (.ref a0'), .val (.ref a1'), .val (.int (0 : Int32)), .val (.int (0 : Int32))] [])) (fun t kt => ?_) ?_
  · show Steps p.tables e below (T0.setTop (mkF m 7 #[.val (.ref a0'), .val (.ref a1'), .val (.int (0 : Int32)), .val (.int (0 : Int32))] [(.int (3 : Int32)), (.int (0 : Int32))])) _
    refine XS.icmpNo X0.here hx rfl (hb hby d1_7) rfl (tlt (by decide : ((0 : Int32) < (3 : Int32)))).2.1 kt
  refine own_step (T' := T0) (f' := (mkF m 11 #[.val (.ref a0'), .val (.ref a1'), .val (.int (0 : Int32)), .val (.int (0 : Int32))] [(.int (0 : Int32))])) (fun t kt => ?_) ?_
  · show Steps p.tables e below (T0.setTop (mkF m 10 #[.val (.ref a0'), .val (.ref a1'), .val (.int (0 : Int32)), .val (.int (0 : Int32))] [])) _
    refine XS.iloadN X0.here hx rfl (hb hby d1_10) rfl ?_
    exact kt
  refine own_step (T' := T0) (f' := (mkF m 14 #[.val (.ref a0'), .val (.ref a1'), .val (.int (0 : Int32)), .val (.int (0 : Int32))] [])) (fun t kt => ?_) ?_
  · show Steps p.tables e below (T0.setTop (mkF m 11 #[.val (.ref a0'), .val (.ref a1'), .val (.int (0 : Int32)), .val (.int (0 : Int32))] [(.int (0 : Int32))])) _
    refine XS.ifNo X0.here hx rfl (hb hby d1_11) rfl ((if0 _ _).trans (teq (by decide : ((0 : Int32) = (0 : Int32)))).2) kt
  refine own_step (T' := T0) (f' := (mkF m 21 #[.val (.ref a0'), .val (.ref a1'), .val (.int (0 : Int32)), .val (.int (0 : Int32))] [(.int (lcmpW x0_0 x1_0))])) (fun t kt => ?_) ?_
  · show Steps p.tables e below (T0.setTop (mkF m 14 #[.val (.ref a0'), .val (.ref a1'), .val (.int (0 : Int32)), .val (.int (0 : Int32))] [])) _
    refine XS.aloadN X0.here hx rfl (hb hby d1_14) rfl rfl ?_
    show Steps p.tables e below (T0.setTop (mkF m 15 #[.val (.ref a0'), .val (.ref a1'), .val (.int (0 : Int32)), .val (.int (0 : Int32))] [(.ref a0')])) _
    refine XS.iloadN X0.here hx rfl (hb hby d1_15) rfl ?_
    show Steps p.tables e below (T0.setTop (mkF m 16 #[.val (.ref a0'), .val (.ref a1'), .val (.int (0 : Int32)), .val (.int (0 : Int32))] [(.int (0 : Int32)), (.ref a0')])) _
    refine own_ldJ X0 hx hZ e0 A0 (j := (0 : Int32)) (by decide) (k := 0) (by decide) (v := (.long x0_0)) rfl (g := (mkF m 16 #[.val (.ref a0'), .val (.ref a1'), .val (.int (0 : Int32)), .val (.int (0 : Int32))] [(.int (0 : Int32)), (.ref a0')])) rfl rfl (hb hby d1_16) _ ?_
    show Steps p.tables e below (T0.setTop (mkF m 17 #[.val (.ref a0'), .val (.ref a1'), .val (.int (0 : Int32)), .val (.int (0 : Int32))] [(.long x0_0)])) _
    refine XS.aloadN X0.here hx rfl (hb hby d1_17) rfl rfl ?_
    show Steps p.tables e below (T0.setTop (mkF m 18 #[.val (.ref a0'), .val (.ref a1'), .val (.int (0 : Int32)), .val (.int (0 : Int32))] [(.ref a1'), (.long x0_0)])) _
    refine XS.iloadN X0.here hx rfl (hb hby d1_18) rfl ?_
    show Steps p.tables e below (T0.setTop (mkF m 19 #[.val (.ref a0'), .val (.ref a1'), .val (.int (0 : Int32)), .val (.int (0 : Int32))] [(.int (0 : Int32)), (.ref a1'), (.long x0_0)])) _
    refine own_ldJ X0 hx hZ e0 A1 (j := (0 : Int32)) (by decide) (k := 0) (by decide) (v := (.long x1_0)) rfl (g := (mkF m 19 #[.val (.ref a0'), .val (.ref a1'), .val (.int (0 : Int32)), .val (.int (0 : Int32))] [(.int (0 : Int32)), (.ref a1'), (.long x0_0)])) rfl rfl (hb hby d1_19) _ ?_
    show Steps p.tables e below (T0.setTop (mkF m 20 #[.val (.ref a0'), .val (.ref a1'), .val (.int (0 : Int32)), .val (.int (0 : Int32))] [(.long x1_0), (.long x0_0)])) _
    refine XS.lcmp X0.here hx rfl (hb hby d1_20) rfl ?_
    exact kt
  by_cases hc21_3 : x0_0 = x1_0
  · rw [if_pos hc21_3] at hr
    refine own_step (T' := T0) (f' := (mkF m 24 #[.val (.ref a0'), .val (.ref a1'), .val (.int (0 : Int32)), .val (.int (0 : Int32))] [])) (fun t kt => ?_) ?_
    · show Steps p.tables e below (T0.setTop (mkF m 21 #[.val (.ref a0'), .val (.ref a1'), .val (.int (0 : Int32)), .val (.int (0 : Int32))] [(.int (lcmpW x0_0 x1_0))])) _
      refine XS.ifNo X0.here hx rfl (hb hby d1_21) rfl ((if0 _ _).trans (teq ((lw_eq _ _).mpr hc21_3)).2) kt
    refine own_step (T' := T0) (f' := (mkF m 7 #[.val (.ref a0'), .val (.ref a1'), .val (.int (1 : Int32)), .val (.int (1 : Int32))] [(.int (3 : Int32)), (.int (1 : Int32))])) (fun t kt => ?_) ?_
    · show Steps p.tables e below (T0.setTop (mkF m 24 #[.val (.ref a0'), .val (.ref a1'), .val (.int (0 : Int32)), .val (.int (0 : Int32))] [])) _
      refine XS.iconst X0.here hx rfl (hb hby d1_24) ?_
      show Steps p.tables e below (T0.setTop (mkF m 25 #[.val (.ref a0'), .val (.ref a1'), .val (.int (0 : Int32)), .val (.int (0 : Int32))] [(.int (1 : Int32))])) _
      refine XS.goto X0.here hx rfl (pc0 := 25) (pc' := 29) rfl (hb hby d1_25) (by decide) (by decide) ?_
      show Steps p.tables e below (T0.setTop (mkF m 29 #[.val (.ref a0'), .val (.ref a1'), .val (.int (0 : Int32)), .val (.int (0 : Int32))] [(.int (1 : Int32))])) _
      refine XS.istoreN X0.here hx rfl (hb hby d1_29) rfl (l' := #[.val (.ref a0'), .val (.ref a1'), .val (.int (1 : Int32)), .val (.int (0 : Int32))]) rfl ?_
      show Steps p.tables e below (T0.setTop (mkF m 30 #[.val (.ref a0'), .val (.ref a1'), .val (.int (1 : Int32)), .val (.int (0 : Int32))] [])) _
      refine XS.iinc X0.here hx rfl (hb hby d1_30) rfl (l' := #[.val (.ref a0'), .val (.ref a1'), .val (.int (1 : Int32)), .val (.int (1 : Int32))]) rfl ?_
      show Steps p.tables e below (T0.setTop (mkF m 33 #[.val (.ref a0'), .val (.ref a1'), .val (.int (1 : Int32)), .val (.int (1 : Int32))] [])) _
      refine XS.goto X0.here hx rfl (pc0 := 33) (pc' := 4) rfl (hb hby d1_33) (by decide) (by decide) ?_
      show Steps p.tables e below (T0.setTop (mkF m 4 #[.val (.ref a0'), .val (.ref a1'), .val (.int (1 : Int32)), .val (.int (1 : Int32))] [])) _
      refine XS.iloadN X0.here hx rfl (hb hby d1_4) rfl ?_
      show Steps p.tables e below (T0.setTop (mkF m 5 #[.val (.ref a0'), .val (.ref a1'), .val (.int (1 : Int32)), .val (.int (1 : Int32))] [(.int (1 : Int32))])) _
      refine XS.aloadN X0.here hx rfl (hb hby d1_5) rfl rfl ?_
      show Steps p.tables e below (T0.setTop (mkF m 6 #[.val (.ref a0'), .val (.ref a1'), .val (.int (1 : Int32)), .val (.int (1 : Int32))] [(.ref a0'), (.int (1 : Int32))])) _
      refine own_len X0 hx hZ e0 A0 (n := (3 : Int32)) rfl (g := (mkF m 6 #[.val (.ref a0'), .val (.ref a1'), .val (.int (1 : Int32)), .val (.int (1 : Int32))] [(.ref a0'), (.int (1 : Int32))])) rfl rfl (hb hby d1_6) _ ?_
      exact kt
    refine own_step (T' := T0) (f' := (mkF m 10 #[.val (.ref a0'), .val (.ref a1'), .val (.int (1 : Int32)), .val (.int (1 : Int32))] [])) (fun t kt => ?_) ?_
    · show Steps p.tables e below (T0.setTop (mkF m 7 #[.val (.ref a0'), .val (.ref a1'), .val (.int (1 : Int32)), .val (.int (1 : Int32))] [(.int (3 : Int32)), (.int (1 : Int32))])) _
      refine XS.icmpNo X0.here hx rfl (hb hby d1_7) rfl (tlt (by decide : ((1 : Int32) < (3 : Int32)))).2.1 kt
    refine own_step (T' := T0) (f' := (mkF m 11 #[.val (.ref a0'), .val (.ref a1'), .val (.int (1 : Int32)), .val (.int (1 : Int32))] [(.int (1 : Int32))])) (fun t kt => ?_) ?_
    · show Steps p.tables e below (T0.setTop (mkF m 10 #[.val (.ref a0'), .val (.ref a1'), .val (.int (1 : Int32)), .val (.int (1 : Int32))] [])) _
      refine XS.iloadN X0.here hx rfl (hb hby d1_10) rfl ?_
      exact kt
    refine own_step (T' := T0) (f' := (mkF m 36 #[.val (.ref a0'), .val (.ref a1'), .val (.int (1 : Int32)), .val (.int (1 : Int32))] [])) (fun t kt => ?_) ?_
    · show Steps p.tables e below (T0.setTop (mkF m 11 #[.val (.ref a0'), .val (.ref a1'), .val (.int (1 : Int32)), .val (.int (1 : Int32))] [(.int (1 : Int32))])) _
      refine XS.ifYes X0.here hx rfl (pc0 := 11) (pc' := 36) rfl (hb hby d1_11) rfl ((if0 _ _).trans (feq (by decide : ¬ ((1 : Int32) = (0 : Int32)))).2) (by decide) (by decide) kt
    refine own_step (T' := T0) (f' := (mkF m 37 #[.val (.ref a0'), .val (.ref a1'), .val (.int (1 : Int32)), .val (.int (1 : Int32))] [(.int (1 : Int32))])) (fun t kt => ?_) ?_
    · show Steps p.tables e below (T0.setTop (mkF m 36 #[.val (.ref a0'), .val (.ref a1'), .val (.int (1 : Int32)), .val (.int (1 : Int32))] [])) _
      refine XS.iloadN X0.here hx rfl (hb hby d1_36) rfl ?_
      exact kt
    exact own_retZ X0 hx hret (by simp) hlk (hb hby d1_37) (Nat.le_refl _) (Nat.le_refl _) ⟨congrArg (fun z => some (Value.int z)) hr.symm, N0, e0⟩
  · rw [if_neg hc21_3] at hr
    refine own_step (T' := T0) (f' := (mkF m 28 #[.val (.ref a0'), .val (.ref a1'), .val (.int (0 : Int32)), .val (.int (0 : Int32))] [])) (fun t kt => ?_) ?_
    · show Steps p.tables e below (T0.setTop (mkF m 21 #[.val (.ref a0'), .val (.ref a1'), .val (.int (0 : Int32)), .val (.int (0 : Int32))] [(.int (lcmpW x0_0 x1_0))])) _
      refine XS.ifYes X0.here hx rfl (pc0 := 21) (pc' := 28) rfl (hb hby d1_21) rfl ((if0 _ _).trans (feq (mt (lw_eq _ _).mp hc21_3)).2) (by decide) (by decide) kt
    refine own_step (T' := T0) (f' := (mkF m 7 #[.val (.ref a0'), .val (.ref a1'), .val (.int (0 : Int32)), .val (.int (1 : Int32))] [(.int (3 : Int32)), (.int (1 : Int32))])) (fun t kt => ?_) ?_
    · show Steps p.tables e below (T0.setTop (mkF m 28 #[.val (.ref a0'), .val (.ref a1'), .val (.int (0 : Int32)), .val (.int (0 : Int32))] [])) _
      refine XS.iconst X0.here hx rfl (hb hby d1_28) ?_
      show Steps p.tables e below (T0.setTop (mkF m 29 #[.val (.ref a0'), .val (.ref a1'), .val (.int (0 : Int32)), .val (.int (0 : Int32))] [(.int (0 : Int32))])) _
      refine XS.istoreN X0.here hx rfl (hb hby d1_29) rfl (l' := #[.val (.ref a0'), .val (.ref a1'), .val (.int (0 : Int32)), .val (.int (0 : Int32))]) rfl ?_
      show Steps p.tables e below (T0.setTop (mkF m 30 #[.val (.ref a0'), .val (.ref a1'), .val (.int (0 : Int32)), .val (.int (0 : Int32))] [])) _
      refine XS.iinc X0.here hx rfl (hb hby d1_30) rfl (l' := #[.val (.ref a0'), .val (.ref a1'), .val (.int (0 : Int32)), .val (.int (1 : Int32))]) rfl ?_
      show Steps p.tables e below (T0.setTop (mkF m 33 #[.val (.ref a0'), .val (.ref a1'), .val (.int (0 : Int32)), .val (.int (1 : Int32))] [])) _
      refine XS.goto X0.here hx rfl (pc0 := 33) (pc' := 4) rfl (hb hby d1_33) (by decide) (by decide) ?_
      show Steps p.tables e below (T0.setTop (mkF m 4 #[.val (.ref a0'), .val (.ref a1'), .val (.int (0 : Int32)), .val (.int (1 : Int32))] [])) _
      refine XS.iloadN X0.here hx rfl (hb hby d1_4) rfl ?_
      show Steps p.tables e below (T0.setTop (mkF m 5 #[.val (.ref a0'), .val (.ref a1'), .val (.int (0 : Int32)), .val (.int (1 : Int32))] [(.int (1 : Int32))])) _
      refine XS.aloadN X0.here hx rfl (hb hby d1_5) rfl rfl ?_
      show Steps p.tables e below (T0.setTop (mkF m 6 #[.val (.ref a0'), .val (.ref a1'), .val (.int (0 : Int32)), .val (.int (1 : Int32))] [(.ref a0'), (.int (1 : Int32))])) _
      refine own_len X0 hx hZ e0 A0 (n := (3 : Int32)) rfl (g := (mkF m 6 #[.val (.ref a0'), .val (.ref a1'), .val (.int (0 : Int32)), .val (.int (1 : Int32))] [(.ref a0'), (.int (1 : Int32))])) rfl rfl (hb hby d1_6) _ ?_
      exact kt
    refine own_step (T' := T0) (f' := (mkF m 10 #[.val (.ref a0'), .val (.ref a1'), .val (.int (0 : Int32)), .val (.int (1 : Int32))] [])) (fun t kt => ?_) ?_
    · show Steps p.tables e below (T0.setTop (mkF m 7 #[.val (.ref a0'), .val (.ref a1'), .val (.int (0 : Int32)), .val (.int (1 : Int32))] [(.int (3 : Int32)), (.int (1 : Int32))])) _
      refine XS.icmpNo X0.here hx rfl (hb hby d1_7) rfl (tlt (by decide : ((1 : Int32) < (3 : Int32)))).2.1 kt
    refine own_step (T' := T0) (f' := (mkF m 11 #[.val (.ref a0'), .val (.ref a1'), .val (.int (0 : Int32)), .val (.int (1 : Int32))] [(.int (0 : Int32))])) (fun t kt => ?_) ?_
    · show Steps p.tables e below (T0.setTop (mkF m 10 #[.val (.ref a0'), .val (.ref a1'), .val (.int (0 : Int32)), .val (.int (1 : Int32))] [])) _
      refine XS.iloadN X0.here hx rfl (hb hby d1_10) rfl ?_
      exact kt
    refine own_step (T' := T0) (f' := (mkF m 14 #[.val (.ref a0'), .val (.ref a1'), .val (.int (0 : Int32)), .val (.int (1 : Int32))] [])) (fun t kt => ?_) ?_
    · show Steps p.tables e below (T0.setTop (mkF m 11 #[.val (.ref a0'), .val (.ref a1'), .val (.int (0 : Int32)), .val (.int (1 : Int32))] [(.int (0 : Int32))])) _
      refine XS.ifNo X0.here hx rfl (hb hby d1_11) rfl ((if0 _ _).trans (teq (by decide : ((0 : Int32) = (0 : Int32)))).2) kt
    refine own_step (T' := T0) (f' := (mkF m 21 #[.val (.ref a0'), .val (.ref a1'), .val (.int (0 : Int32)), .val (.int (1 : Int32))] [(.int (lcmpW x0_1 x1_1))])) (fun t kt => ?_) ?_
    · show Steps p.tables e below (T0.setTop (mkF m 14 #[.val (.ref a0'), .val (.ref a1'), .val (.int (0 : Int32)), .val (.int (1 : Int32))] [])) _
      refine XS.aloadN X0.here hx rfl (hb hby d1_14) rfl rfl ?_
      show Steps p.tables e below (T0.setTop (mkF m 15 #[.val (.ref a0'), .val (.ref a1'), .val (.int (0 : Int32)), .val (.int (1 : Int32))] [(.ref a0')])) _
      refine XS.iloadN X0.here hx rfl (hb hby d1_15) rfl ?_
      show Steps p.tables e below (T0.setTop (mkF m 16 #[.val (.ref a0'), .val (.ref a1'), .val (.int (0 : Int32)), .val (.int (1 : Int32))] [(.int (1 : Int32)), (.ref a0')])) _
      refine own_ldJ X0 hx hZ e0 A0 (j := (1 : Int32)) (by decide) (k := 1) (by decide) (v := (.long x0_1)) rfl (g := (mkF m 16 #[.val (.ref a0'), .val (.ref a1'), .val (.int (0 : Int32)), .val (.int (1 : Int32))] [(.int (1 : Int32)), (.ref a0')])) rfl rfl (hb hby d1_16) _ ?_
      show Steps p.tables e below (T0.setTop (mkF m 17 #[.val (.ref a0'), .val (.ref a1'), .val (.int (0 : Int32)), .val (.int (1 : Int32))] [(.long x0_1)])) _
      refine XS.aloadN X0.here hx rfl (hb hby d1_17) rfl rfl ?_
      show Steps p.tables e below (T0.setTop (mkF m 18 #[.val (.ref a0'), .val (.ref a1'), .val (.int (0 : Int32)), .val (.int (1 : Int32))] [(.ref a1'), (.long x0_1)])) _
      refine XS.iloadN X0.here hx rfl (hb hby d1_18) rfl ?_
      show Steps p.tables e below (T0.setTop (mkF m 19 #[.val (.ref a0'), .val (.ref a1'), .val (.int (0 : Int32)), .val (.int (1 : Int32))] [(.int (1 : Int32)), (.ref a1'), (.long x0_1)])) _
      refine own_ldJ X0 hx hZ e0 A1 (j := (1 : Int32)) (by decide) (k := 1) (by decide) (v := (.long x1_1)) rfl (g := (mkF m 19 #[.val (.ref a0'), .val (.ref a1'), .val (.int (0 : Int32)), .val (.int (1 : Int32))] [(.int (1 : Int32)), (.ref a1'), (.long x0_1)])) rfl rfl (hb hby d1_19) _ ?_
      show Steps p.tables e below (T0.setTop (mkF m 20 #[.val (.ref a0'), .val (.ref a1'), .val (.int (0 : Int32)), .val (.int (1 : Int32))] [(.long x1_1), (.long x0_1)])) _
      refine XS.lcmp X0.here hx rfl (hb hby d1_20) rfl ?_
      exact kt
    by_cases hc21_8 : x0_1 = x1_1
    · rw [if_pos hc21_8] at hr
      refine own_step (T' := T0) (f' := (mkF m 24 #[.val (.ref a0'), .val (.ref a1'), .val (.int (0 : Int32)), .val (.int (1 : Int32))] [])) (fun t kt => ?_) ?_
      · show Steps p.tables e below (T0.setTop (mkF m 21 #[.val (.ref a0'), .val (.ref a1'), .val (.int (0 : Int32)), .val (.int (1 : Int32))] [(.int (lcmpW x0_1 x1_1))])) _
        refine XS.ifNo X0.here hx rfl (hb hby d1_21) rfl ((if0 _ _).trans (teq ((lw_eq _ _).mpr hc21_8)).2) kt
      refine own_step (T' := T0) (f' := (mkF m 7 #[.val (.ref a0'), .val (.ref a1'), .val (.int (1 : Int32)), .val (.int (2 : Int32))] [(.int (3 : Int32)), (.int (2 : Int32))])) (fun t kt => ?_) ?_
      · show Steps p.tables e below (T0.setTop (mkF m 24 #[.val (.ref a0'), .val (.ref a1'), .val (.int (0 : Int32)), .val (.int (1 : Int32))] [])) _
        refine XS.iconst X0.here hx rfl (hb hby d1_24) ?_
        show Steps p.tables e below (T0.setTop (mkF m 25 #[.val (.ref a0'), .val (.ref a1'), .val (.int (0 : Int32)), .val (.int (1 : Int32))] [(.int (1 : Int32))])) _
        refine XS.goto X0.here hx rfl (pc0 := 25) (pc' := 29) rfl (hb hby d1_25) (by decide) (by decide) ?_
        show Steps p.tables e below (T0.setTop (mkF m 29 #[.val (.ref a0'), .val (.ref a1'), .val (.int (0 : Int32)), .val (.int (1 : Int32))] [(.int (1 : Int32))])) _
        refine XS.istoreN X0.here hx rfl (hb hby d1_29) rfl (l' := #[.val (.ref a0'), .val (.ref a1'), .val (.int (1 : Int32)), .val (.int (1 : Int32))]) rfl ?_
        show Steps p.tables e below (T0.setTop (mkF m 30 #[.val (.ref a0'), .val (.ref a1'), .val (.int (1 : Int32)), .val (.int (1 : Int32))] [])) _
        refine XS.iinc X0.here hx rfl (hb hby d1_30) rfl (l' := #[.val (.ref a0'), .val (.ref a1'), .val (.int (1 : Int32)), .val (.int (2 : Int32))]) rfl ?_
        show Steps p.tables e below (T0.setTop (mkF m 33 #[.val (.ref a0'), .val (.ref a1'), .val (.int (1 : Int32)), .val (.int (2 : Int32))] [])) _
        refine XS.goto X0.here hx rfl (pc0 := 33) (pc' := 4) rfl (hb hby d1_33) (by decide) (by decide) ?_
        show Steps p.tables e below (T0.setTop (mkF m 4 #[.val (.ref a0'), .val (.ref a1'), .val (.int (1 : Int32)), .val (.int (2 : Int32))] [])) _
        refine XS.iloadN X0.here hx rfl (hb hby d1_4) rfl ?_
        show Steps p.tables e below (T0.setTop (mkF m 5 #[.val (.ref a0'), .val (.ref a1'), .val (.int (1 : Int32)), .val (.int (2 : Int32))] [(.int (2 : Int32))])) _
        refine XS.aloadN X0.here hx rfl (hb hby d1_5) rfl rfl ?_
        show Steps p.tables e below (T0.setTop (mkF m 6 #[.val (.ref a0'), .val (.ref a1'), .val (.int (1 : Int32)), .val (.int (2 : Int32))] [(.ref a0'), (.int (2 : Int32))])) _
        refine own_len X0 hx hZ e0 A0 (n := (3 : Int32)) rfl (g := (mkF m 6 #[.val (.ref a0'), .val (.ref a1'), .val (.int (1 : Int32)), .val (.int (2 : Int32))] [(.ref a0'), (.int (2 : Int32))])) rfl rfl (hb hby d1_6) _ ?_
        exact kt
      refine own_step (T' := T0) (f' := (mkF m 10 #[.val (.ref a0'), .val (.ref a1'), .val (.int (1 : Int32)), .val (.int (2 : Int32))] [])) (fun t kt => ?_) ?_
      · show Steps p.tables e below (T0.setTop (mkF m 7 #[.val (.ref a0'), .val (.ref a1'), .val (.int (1 : Int32)), .val (.int (2 : Int32))] [(.int (3 : Int32)), (.int (2 : Int32))])) _
        refine XS.icmpNo X0.here hx rfl (hb hby d1_7) rfl (tlt (by decide : ((2 : Int32) < (3 : Int32)))).2.1 kt
      refine own_step (T' := T0) (f' := (mkF m 11 #[.val (.ref a0'), .val (.ref a1'), .val (.int (1 : Int32)), .val (.int (2 : Int32))] [(.int (1 : Int32))])) (fun t kt => ?_) ?_
      · show Steps p.tables e below (T0.setTop (mkF m 10 #[.val (.ref a0'), .val (.ref a1'), .val (.int (1 : Int32)), .val (.int (2 : Int32))] [])) _
        refine XS.iloadN X0.here hx rfl (hb hby d1_10) rfl ?_
        exact kt
      refine own_step (T' := T0) (f' := (mkF m 36 #[.val (.ref a0'), .val (.ref a1'), .val (.int (1 : Int32)), .val (.int (2 : Int32))] [])) (fun t kt => ?_) ?_
      · show Steps p.tables e below (T0.setTop (mkF m 11 #[.val (.ref a0'), .val (.ref a1'), .val (.int (1 : Int32)), .val (.int (2 : Int32))] [(.int (1 : Int32))])) _
        refine XS.ifYes X0.here hx rfl (pc0 := 11) (pc' := 36) rfl (hb hby d1_11) rfl ((if0 _ _).trans (feq (by decide : ¬ ((1 : Int32) = (0 : Int32)))).2) (by decide) (by decide) kt
      refine own_step (T' := T0) (f' := (mkF m 37 #[.val (.ref a0'), .val (.ref a1'), .val (.int (1 : Int32)), .val (.int (2 : Int32))] [(.int (1 : Int32))])) (fun t kt => ?_) ?_
      · show Steps p.tables e below (T0.setTop (mkF m 36 #[.val (.ref a0'), .val (.ref a1'), .val (.int (1 : Int32)), .val (.int (2 : Int32))] [])) _
        refine XS.iloadN X0.here hx rfl (hb hby d1_36) rfl ?_
        exact kt
      exact own_retZ X0 hx hret (by simp) hlk (hb hby d1_37) (Nat.le_refl _) (Nat.le_refl _) ⟨congrArg (fun z => some (Value.int z)) hr.symm, N0, e0⟩
    · rw [if_neg hc21_8] at hr
      refine own_step (T' := T0) (f' := (mkF m 28 #[.val (.ref a0'), .val (.ref a1'), .val (.int (0 : Int32)), .val (.int (1 : Int32))] [])) (fun t kt => ?_) ?_
      · show Steps p.tables e below (T0.setTop (mkF m 21 #[.val (.ref a0'), .val (.ref a1'), .val (.int (0 : Int32)), .val (.int (1 : Int32))] [(.int (lcmpW x0_1 x1_1))])) _
        refine XS.ifYes X0.here hx rfl (pc0 := 21) (pc' := 28) rfl (hb hby d1_21) rfl ((if0 _ _).trans (feq (mt (lw_eq _ _).mp hc21_8)).2) (by decide) (by decide) kt
      refine own_step (T' := T0) (f' := (mkF m 7 #[.val (.ref a0'), .val (.ref a1'), .val (.int (0 : Int32)), .val (.int (2 : Int32))] [(.int (3 : Int32)), (.int (2 : Int32))])) (fun t kt => ?_) ?_
      · show Steps p.tables e below (T0.setTop (mkF m 28 #[.val (.ref a0'), .val (.ref a1'), .val (.int (0 : Int32)), .val (.int (1 : Int32))] [])) _
        refine XS.iconst X0.here hx rfl (hb hby d1_28) ?_
        show Steps p.tables e below (T0.setTop (mkF m 29 #[.val (.ref a0'), .val (.ref a1'), .val (.int (0 : Int32)), .val (.int (1 : Int32))] [(.int (0 : Int32))])) _
        refine XS.istoreN X0.here hx rfl (hb hby d1_29) rfl (l' := #[.val (.ref a0'), .val (.ref a1'), .val (.int (0 : Int32)), .val (.int (1 : Int32))]) rfl ?_
        show Steps p.tables e below (T0.setTop (mkF m 30 #[.val (.ref a0'), .val (.ref a1'), .val (.int (0 : Int32)), .val (.int (1 : Int32))] [])) _
        refine XS.iinc X0.here hx rfl (hb hby d1_30) rfl (l' := #[.val (.ref a0'), .val (.ref a1'), .val (.int (0 : Int32)), .val (.int (2 : Int32))]) rfl ?_
        show Steps p.tables e below (T0.setTop (mkF m 33 #[.val (.ref a0'), .val (.ref a1'), .val (.int (0 : Int32)), .val (.int (2 : Int32))] [])) _
        refine XS.goto X0.here hx rfl (pc0 := 33) (pc' := 4) rfl (hb hby d1_33) (by decide) (by decide) ?_
        show Steps p.tables e below (T0.setTop (mkF m 4 #[.val (.ref a0'), .val (.ref a1'), .val (.int (0 : Int32)), .val (.int (2 : Int32))] [])) _
        refine XS.iloadN X0.here hx rfl (hb hby d1_4) rfl ?_
        show Steps p.tables e below (T0.setTop (mkF m 5 #[.val (.ref a0'), .val (.ref a1'), .val (.int (0 : Int32)), .val (.int (2 : Int32))] [(.int (2 : Int32))])) _
        refine XS.aloadN X0.here hx rfl (hb hby d1_5) rfl rfl ?_
        show Steps p.tables e below (T0.setTop (mkF m 6 #[.val (.ref a0'), .val (.ref a1'), .val (.int (0 : Int32)), .val (.int (2 : Int32))] [(.ref a0'), (.int (2 : Int32))])) _
        refine own_len X0 hx hZ e0 A0 (n := (3 : Int32)) rfl (g := (mkF m 6 #[.val (.ref a0'), .val (.ref a1'), .val (.int (0 : Int32)), .val (.int (2 : Int32))] [(.ref a0'), (.int (2 : Int32))])) rfl rfl (hb hby d1_6) _ ?_
        exact kt
      refine own_step (T' := T0) (f' := (mkF m 10 #[.val (.ref a0'), .val (.ref a1'), .val (.int (0 : Int32)), .val (.int (2 : Int32))] [])) (fun t kt => ?_) ?_
      · show Steps p.tables e below (T0.setTop (mkF m 7 #[.val (.ref a0'), .val (.ref a1'), .val (.int (0 : Int32)), .val (.int (2 : Int32))] [(.int (3 : Int32)), (.int (2 : Int32))])) _
        refine XS.icmpNo X0.here hx rfl (hb hby d1_7) rfl (tlt (by decide : ((2 : Int32) < (3 : Int32)))).2.1 kt
      refine own_step (T' := T0) (f' := (mkF m 11 #[.val (.ref a0'), .val (.ref a1'), .val (.int (0 : Int32)), .val (.int (2 : Int32))] [(.int (0 : Int32))])) (fun t kt => ?_) ?_
      · show Steps p.tables e below (T0.setTop (mkF m 10 #[.val (.ref a0'), .val (.ref a1'), .val (.int (0 : Int32)), .val (.int (2 : Int32))] [])) _
        refine XS.iloadN X0.here hx rfl (hb hby d1_10) rfl ?_
        exact kt
      refine own_step (T' := T0) (f' := (mkF m 14 #[.val (.ref a0'), .val (.ref a1'), .val (.int (0 : Int32)), .val (.int (2 : Int32))] [])) (fun t kt => ?_) ?_
      · show Steps p.tables e below (T0.setTop (mkF m 11 #[.val (.ref a0'), .val (.ref a1'), .val (.int (0 : Int32)), .val (.int (2 : Int32))] [(.int (0 : Int32))])) _
        refine XS.ifNo X0.here hx rfl (hb hby d1_11) rfl ((if0 _ _).trans (teq (by decide : ((0 : Int32) = (0 : Int32)))).2) kt
      refine own_step (T' := T0) (f' := (mkF m 21 #[.val (.ref a0'), .val (.ref a1'), .val (.int (0 : Int32)), .val (.int (2 : Int32))] [(.int (lcmpW x0_2 x1_2))])) (fun t kt => ?_) ?_
      · show Steps p.tables e below (T0.setTop (mkF m 14 #[.val (.ref a0'), .val (.ref a1'), .val (.int (0 : Int32)), .val (.int (2 : Int32))] [])) _
        refine XS.aloadN X0.here hx rfl (hb hby d1_14) rfl rfl ?_
        show Steps p.tables e below (T0.setTop (mkF m 15 #[.val (.ref a0'), .val (.ref a1'), .val (.int (0 : Int32)), .val (.int (2 : Int32))] [(.ref a0')])) _
        refine XS.iloadN X0.here hx rfl (hb hby d1_15) rfl ?_
        show Steps p.tables e below (T0.setTop (mkF m 16 #[.val (.ref a0'), .val (.ref a1'), .val (.int (0 : Int32)), .val (.int (2 : Int32))] [(.int (2 : Int32)), (.ref a0')])) _
        refine own_ldJ X0 hx hZ e0 A0 (j := (2 : Int32)) (by decide) (k := 2) (by decide) (v := (.long x0_2)) rfl (g := (mkF m 16 #[.val (.ref a0'), .val (.ref a1'), .val (.int (0 : Int32)), .val (.int (2 : Int32))] [(.int (2 : Int32)), (.ref a0')])) rfl rfl (hb hby d1_16) _ ?_
        show Steps p.tables e below (T0.setTop (mkF m 17 #[.val (.ref a0'), .val (.ref a1'), .val (.int (0 : Int32)), .val (.int (2 : Int32))] [(.long x0_2)])) _
        refine XS.aloadN X0.here hx rfl (hb hby d1_17) rfl rfl ?_
        show Steps p.tables e below (T0.setTop (mkF m 18 #[.val (.ref a0'), .val (.ref a1'), .val (.int (0 : Int32)), .val (.int (2 : Int32))] [(.ref a1'), (.long x0_2)])) _
        refine XS.iloadN X0.here hx rfl (hb hby d1_18) rfl ?_
        show Steps p.tables e below (T0.setTop (mkF m 19 #[.val (.ref a0'), .val (.ref a1'), .val (.int (0 : Int32)), .val (.int (2 : Int32))] [(.int (2 : Int32)), (.ref a1'), (.long x0_2)])) _
        refine own_ldJ X0 hx hZ e0 A1 (j := (2 : Int32)) (by decide) (k := 2) (by decide) (v := (.long x1_2)) rfl (g := (mkF m 19 #[.val (.ref a0'), .val (.ref a1'), .val (.int (0 : Int32)), .val (.int (2 : Int32))] [(.int (2 : Int32)), (.ref a1'), (.long x0_2)])) rfl rfl (hb hby d1_19) _ ?_
        show Steps p.tables e below (T0.setTop (mkF m 20 #[.val (.ref a0'), .val (.ref a1'), .val (.int (0 : Int32)), .val (.int (2 : Int32))] [(.long x1_2), (.long x0_2)])) _
        refine XS.lcmp X0.here hx rfl (hb hby d1_20) rfl ?_
        exact kt
      by_cases hc21_13 : x0_2 = x1_2
      · rw [if_pos hc21_13] at hr
        refine own_step (T' := T0) (f' := (mkF m 24 #[.val (.ref a0'), .val (.ref a1'), .val (.int (0 : Int32)), .val (.int (2 : Int32))] [])) (fun t kt => ?_) ?_
        · show Steps p.tables e below (T0.setTop (mkF m 21 #[.val (.ref a0'), .val (.ref a1'), .val (.int (0 : Int32)), .val (.int (2 : Int32))] [(.int (lcmpW x0_2 x1_2))])) _
          refine XS.ifNo X0.here hx rfl (hb hby d1_21) rfl ((if0 _ _).trans (teq ((lw_eq _ _).mpr hc21_13)).2) kt
        refine own_step (T' := T0) (f' := (mkF m 7 #[.val (.ref a0'), .val (.ref a1'), .val (.int (1 : Int32)), .val (.int (3 : Int32))] [(.int (3 : Int32)), (.int (3 : Int32))])) (fun t kt => ?_) ?_
        · show Steps p.tables e below (T0.setTop (mkF m 24 #[.val (.ref a0'), .val (.ref a1'), .val (.int (0 : Int32)), .val (.int (2 : Int32))] [])) _
          refine XS.iconst X0.here hx rfl (hb hby d1_24) ?_
          show Steps p.tables e below (T0.setTop (mkF m 25 #[.val (.ref a0'), .val (.ref a1'), .val (.int (0 : Int32)), .val (.int (2 : Int32))] [(.int (1 : Int32))])) _
          refine XS.goto X0.here hx rfl (pc0 := 25) (pc' := 29) rfl (hb hby d1_25) (by decide) (by decide) ?_
          show Steps p.tables e below (T0.setTop (mkF m 29 #[.val (.ref a0'), .val (.ref a1'), .val (.int (0 : Int32)), .val (.int (2 : Int32))] [(.int (1 : Int32))])) _
          refine XS.istoreN X0.here hx rfl (hb hby d1_29) rfl (l' := #[.val (.ref a0'), .val (.ref a1'), .val (.int (1 : Int32)), .val (.int (2 : Int32))]) rfl ?_
          show Steps p.tables e below (T0.setTop (mkF m 30 #[.val (.ref a0'), .val (.ref a1'), .val (.int (1 : Int32)), .val (.int (2 : Int32))] [])) _
          refine XS.iinc X0.here hx rfl (hb hby d1_30) rfl (l' := #[.val (.ref a0'), .val (.ref a1'), .val (.int (1 : Int32)), .val (.int (3 : Int32))]) rfl ?_
          show Steps p.tables e below (T0.setTop (mkF m 33 #[.val (.ref a0'), .val (.ref a1'), .val (.int (1 : Int32)), .val (.int (3 : Int32))] [])) _
          refine XS.goto X0.here hx rfl (pc0 := 33) (pc' := 4) rfl (hb hby d1_33) (by decide) (by decide) ?_
          show Steps p.tables e below (T0.setTop (mkF m 4 #[.val (.ref a0'), .val (.ref a1'), .val (.int (1 : Int32)), .val (.int (3 : Int32))] [])) _
          refine XS.iloadN X0.here hx rfl (hb hby d1_4) rfl ?_
          show Steps p.tables e below (T0.setTop (mkF m 5 #[.val (.ref a0'), .val (.ref a1'), .val (.int (1 : Int32)), .val (.int (3 : Int32))] [(.int (3 : Int32))])) _
          refine XS.aloadN X0.here hx rfl (hb hby d1_5) rfl rfl ?_
          show Steps p.tables e below (T0.setTop (mkF m 6 #[.val (.ref a0'), .val (.ref a1'), .val (.int (1 : Int32)), .val (.int (3 : Int32))] [(.ref a0'), (.int (3 : Int32))])) _
          refine own_len X0 hx hZ e0 A0 (n := (3 : Int32)) rfl (g := (mkF m 6 #[.val (.ref a0'), .val (.ref a1'), .val (.int (1 : Int32)), .val (.int (3 : Int32))] [(.ref a0'), (.int (3 : Int32))])) rfl rfl (hb hby d1_6) _ ?_
          exact kt
        refine own_step (T' := T0) (f' := (mkF m 36 #[.val (.ref a0'), .val (.ref a1'), .val (.int (1 : Int32)), .val (.int (3 : Int32))] [])) (fun t kt => ?_) ?_
        · show Steps p.tables e below (T0.setTop (mkF m 7 #[.val (.ref a0'), .val (.ref a1'), .val (.int (1 : Int32)), .val (.int (3 : Int32))] [(.int (3 : Int32)), (.int (3 : Int32))])) _
          refine XS.icmpYes X0.here hx rfl (pc0 := 7) (pc' := 36) rfl (hb hby d1_7) rfl (flt (by decide : ¬ ((3 : Int32) < (3 : Int32)))).2.1 (by decide) (by decide) kt
        refine own_step (T' := T0) (f' := (mkF m 37 #[.val (.ref a0'), .val (.ref a1'), .val (.int (1 : Int32)), .val (.int (3 : Int32))] [(.int (1 : Int32))])) (fun t kt => ?_) ?_
        · show Steps p.tables e below (T0.setTop (mkF m 36 #[.val (.ref a0'), .val (.ref a1'), .val (.int (1 : Int32)), .val (.int (3 : Int32))] [])) _
          refine XS.iloadN X0.here hx rfl (hb hby d1_36) rfl ?_
          exact kt
        exact own_retZ X0 hx hret (by simp) hlk (hb hby d1_37) (Nat.le_refl _) (Nat.le_refl _) ⟨congrArg (fun z => some (Value.int z)) hr.symm, N0, e0⟩
      · rw [if_neg hc21_13] at hr
        refine own_step (T' := T0) (f' := (mkF m 28 #[.val (.ref a0'), .val (.ref a1'), .val (.int (0 : Int32)), .val (.int (2 : Int32))] [])) (fun t kt => ?_) ?_
        · show Steps p.tables e below (T0.setTop (mkF m 21 #[.val (.ref a0'), .val (.ref a1'), .val (.int (0 : Int32)), .val (.int (2 : Int32))] [(.int (lcmpW x0_2 x1_2))])) _
          refine XS.ifYes X0.here hx rfl (pc0 := 21) (pc' := 28) rfl (hb hby d1_21) rfl ((if0 _ _).trans (feq (mt (lw_eq _ _).mp hc21_13)).2) (by decide) (by decide) kt
        refine own_step (T' := T0) (f' := (mkF m 7 #[.val (.ref a0'), .val (.ref a1'), .val (.int (0 : Int32)), .val (.int (3 : Int32))] [(.int (3 : Int32)), (.int (3 : Int32))])) (fun t kt => ?_) ?_
        · show Steps p.tables e below (T0.setTop (mkF m 28 #[.val (.ref a0'), .val (.ref a1'), .val (.int (0 : Int32)), .val (.int (2 : Int32))] [])) _
          refine XS.iconst X0.here hx rfl (hb hby d1_28) ?_
          show Steps p.tables e below (T0.setTop (mkF m 29 #[.val (.ref a0'), .val (.ref a1'), .val (.int (0 : Int32)), .val (.int (2 : Int32))] [(.int (0 : Int32))])) _
          refine XS.istoreN X0.here hx rfl (hb hby d1_29) rfl (l' := #[.val (.ref a0'), .val (.ref a1'), .val (.int (0 : Int32)), .val (.int (2 : Int32))]) rfl ?_
          show Steps p.tables e below (T0.setTop (mkF m 30 #[.val (.ref a0'), .val (.ref a1'), .val (.int (0 : Int32)), .val (.int (2 : Int32))] [])) _
          refine XS.iinc X0.here hx rfl (hb hby d1_30) rfl (l' := #[.val (.ref a0'), .val (.ref a1'), .val (.int (0 : Int32)), .val (.int (3 : Int32))]) rfl ?_
          show Steps p.tables e below (T0.setTop (mkF m 33 #[.val (.ref a0'), .val (.ref a1'), .val (.int (0 : Int32)), .val (.int (3 : Int32))] [])) _
          refine XS.goto X0.here hx rfl (pc0 := 33) (pc' := 4) rfl (hb hby d1_33) (by decide) (by decide) ?_
          show Steps p.tables e below (T0.setTop (mkF m 4 #[.val (.ref a0'), .val (.ref a1'), .val (.int (0 : Int32)), .val (.int (3 : Int32))] [])) _
          refine XS.iloadN X0.here hx rfl (hb hby d1_4) rfl ?_
          show Steps p.tables e below (T0.setTop (mkF m 5 #[.val (.ref a0'), .val (.ref a1'), .val (.int (0 : Int32)), .val (.int (3 : Int32))] [(.int (3 : Int32))])) _
          refine XS.aloadN X0.here hx rfl (hb hby d1_5) rfl rfl ?_
          show Steps p.tables e below (T0.setTop (mkF m 6 #[.val (.ref a0'), .val (.ref a1'), .val (.int (0 : Int32)), .val (.int (3 : Int32))] [(.ref a0'), (.int (3 : Int32))])) _
          refine own_len X0 hx hZ e0 A0 (n := (3 : Int32)) rfl (g := (mkF m 6 #[.val (.ref a0'), .val (.ref a1'), .val (.int (0 : Int32)), .val (.int (3 : Int32))] [(.ref a0'), (.int (3 : Int32))])) rfl rfl (hb hby d1_6) _ ?_
          exact kt
        refine own_step (T' := T0) (f' := (mkF m 36 #[.val (.ref a0'), .val (.ref a1'), .val (.int (0 : Int32)), .val (.int (3 : Int32))] [])) (fun t kt => ?_) ?_
        · show Steps p.tables e below (T0.setTop (mkF m 7 #[.val (.ref a0'), .val (.ref a1'), .val (.int (0 : Int32)), .val (.int (3 : Int32))] [(.int (3 : Int32)), (.int (3 : Int32))])) _
          refine XS.icmpYes X0.here hx rfl (pc0 := 7) (pc' := 36) rfl (hb hby d1_7) rfl (flt (by decide : ¬ ((3 : Int32) < (3 : Int32)))).2.1 (by decide) (by decide) kt
        refine own_step (T' := T0) (f' := (mkF m 37 #[.val (.ref a0'), .val (.ref a1'), .val (.int (0 : Int32)), .val (.int (3 : Int32))] [(.int (0 : Int32))])) (fun t kt => ?_) ?_
        · show Steps p.tables e below (T0.setTop (mkF m 36 #[.val (.ref a0'), .val (.ref a1'), .val (.int (0 : Int32)), .val (.int (3 : Int32))] [])) _
          refine XS.iloadN X0.here hx rfl (hb hby d1_36) rfl ?_
          exact kt
        exact own_retZ X0 hx hret (by simp) hlk (hb hby d1_37) (Nat.le_refl _) (Nat.le_refl _) ⟨congrArg (fun z => some (Value.int z)) hr.symm, N0, e0⟩
set_option maxRecDepth 65536 in
set_option maxHeartbeats 4000000 in
theorem rm1n3 (l : Launch) (Z : State) (a0 : Array Value) (hw : ∀ d ∈ tables_1, d.before a0 Z = true) (ws : List Jvm.Cond) (a0' : Addr) (a1' : Addr) (x0_0 : Int64) (x0_1 : Int64) (x0_2 : Int64) (x1_0 : Int64) (x1_1 : Int64) (x1_2 : Int64) (h0 : Heap) (n0 : Nat) (A0 : own_A Z h0 a0' .long [(.long x0_0), (.long x0_1), (.long x0_2)]) (A1 : own_A Z h0 a1' .long [(.long x1_0), (.long x1_1), (.long x1_2)]) :
    MetFree l (⟨"com/example/nearsame/nearsame/Banding", "agree", "([J[J)Z"⟩ : MethodName) (head1 (Jvm.Cond.code (⟨"com/example/nearsame/nearsame/Banding", "agree", "([J[J)Z"⟩ : MethodName) prog_3_method_8_code 4 (some .boolean) :: ws) ({ frames := 0, cells := 0, slots := 0, locals := 0 } : Room)) (fun a U => a = #[(.ref a0'), (.ref a1')] ∧ Z.Warmed39 U.vm ∧ U.heap = h0) (fun _ _ _ _ _ => True) (fun _ U o U' => ∃ v L, o = .returned v ∧ (own_P (.int (f1n3_0 x0_0 x0_1 x0_2 x1_0 x1_1 x1_2)) h0 n0) v U'.heap L ∧ FrameEnd U o U' L ({ frames := 0, cells := 0, slots := 0, locals := 0 } : Room).cells ({ frames := 0, cells := 0, slots := 0, locals := 0 } : Room).slots) := by
  refine MetFree.of_bodySF (plainFor_of_name pn1) hisR ?_
  intro p e s m args below meth c s₁ Bd hml0 hP hK
  obtain ⟨rfl, hZ, hh⟩ := hP
  have hown : s.vm.findClass "com/example/nearsame/nearsame/Banding" = some m.cls := findClass_of_methodNamed Bd.named
  have X0 : Stand p l e ({ frames := 0, cells := 0, slots := 0, locals := 0 } : Room) s m #[(.ref a0'), (.ref a1')] below meth c s₁ [] 0 0 := Stand.of_body Bd
  have e0 : s₁.heap = h0 := by rw [← hh, Bd.state]; rfl
  show own_Ends p e below s 0 0 (own_P (.int (f1n3_0 x0_0 x0_1 x0_2 x1_0 x1_1 x1_2)) h0 n0) s₁ (entryFrame m #[(.ref a0'), (.ref a1')] 4)
  refine own_step (fun t k => castTop (ef1 m a0' a1') k) ?_
  exact b1n3_0 a0' a1' x0_0 x0_1 x0_2 x1_0 x1_1 x1_2 X0 Bd.exec hZ hw Bd.bytes hml0 hown Bd.returns (BodyLoose.notSynchronized Bd) e0 (Fr.nil n0) A0 A1 rfl
theorem own_sp (y : Int32) : (y &&& (3 : Int32)) = (0 : Int32) ∨ (y &&& (3 : Int32)) = (1 : Int32) ∨ (y &&& (3 : Int32)) = (2 : Int32) ∨ (y &&& (3 : Int32)) = (3 : Int32) := by
  have h := c_mask y 3 2 (by decide) (by decide)
  have hv : y &&& (3 : Int32) = Int32.ofNat (y.toInt % 4).toNat := by
    apply Int32.toInt_inj.mp
    rw [h, Int32.toInt_ofNat_of_lt (by omega)]; omega
  have key : ∀ k : Fin 4, ∀ z : Int32, z = Int32.ofNat k.val → z = 0 ∨ z = 1 ∨ z = 2 ∨ z = 3 := by
    intro k z hz; subst hz; revert k; decide +kernel
  exact key ⟨(y.toInt % 4).toNat, by omega⟩ _ hv

theorem pn0 : plainName "com/example/nearsame/nearsame/BandingAgreePinLaw" = true := by first | (simp [plainName, overriddenIn]; done) | decide +kernel
theorem ef0 (m : MethodId) (p0 : Int32) (q1 : Int64) (q2 : Int64) (q3 : Int64) (q4 : Int64) (q5 : Int64) : entryFrame m #[(.int p0), (.long q1), (.long q2), (.long q3), (.long q4), (.long q5)] maxLocals = mkF m 0 #[.val (.int p0), .val (.long q1), .second, .val (.long q2), .second, .val (.long q3), .second, .val (.long q4), .second, .val (.long q5), .second, .unset, .unset, .unset, .unset, .unset, .unset, .unset, .unset, .unset, .unset] [] := by first | (simp [entryFrame, mkF, argsToLocals, Value.category, maxLocals]; done) | rfl
def f0_57 (j1 : Int64) (j3 : Int64) (j5 : Int64) (i11 : Int32) (j12 : Int64) (j14 : Int64) (j16 : Int64) : Int32 :=
  if i11 = (0 : Int32) then (if (f1n0_0 ) = (0 : Int32) then ((1 : Int32)) else ((0 : Int32))) else if i11 = (1 : Int32) then (if j1 = j12 then (if (f1n1_0 j1 j12) = (1 : Int32) then ((1 : Int32)) else ((0 : Int32))) else (if (f1n1_0 j1 j12) = (0 : Int32) then ((1 : Int32)) else ((0 : Int32)))) else if i11 = (2 : Int32) then (if j1 = j12 then (if (f1n2_0 j1 j3 j12 j14) = (1 : Int32) then ((1 : Int32)) else ((0 : Int32))) else (if j3 = j14 then (if (f1n2_0 j1 j3 j12 j14) = (1 : Int32) then ((1 : Int32)) else ((0 : Int32))) else (if (f1n2_0 j1 j3 j12 j14) = (0 : Int32) then ((1 : Int32)) else ((0 : Int32))))) else if i11 = (3 : Int32) then (if j1 = j12 then (if (f1n3_0 j1 j3 j5 j12 j14 j16) = (1 : Int32) then ((1 : Int32)) else ((0 : Int32))) else (if j3 = j14 then (if (f1n3_0 j1 j3 j5 j12 j14 j16) = (1 : Int32) then ((1 : Int32)) else ((0 : Int32))) else (if j5 = j16 then (if (f1n3_0 j1 j3 j5 j12 j14 j16) = (1 : Int32) then ((1 : Int32)) else ((0 : Int32))) else (if (f1n3_0 j1 j3 j5 j12 j14 j16) = (0 : Int32) then ((1 : Int32)) else ((0 : Int32)))))) else 0
set_option maxRecDepth 65536 in
set_option maxHeartbeats 4000000 in
theorem b0_57 {p : Program} {l : Launch} {e : Env} {s : State} {m : MethodId} {args : Array Value} {below : List Frame} {meth : Method} {c : Code} {T0 : State} {locs : List Loc} {Z : State} {a0 : Array Value} {h0 : Heap} {n0 : Nat} (i0 : Int32) (j1 : Int64) (j3 : Int64) (j5 : Int64) (j7 : Int64) (j9 : Int64) (i11 : Int32) (j12 : Int64) (j14 : Int64) (j16 : Int64) {r : Int32} (X0 : Stand p l e room_1 s m args below meth c T0 locs 0 0) (hx : p.tables.exec = Jvm.exec) (hZ : Z.Warmed39 s.vm) (hw : ∀ d ∈ tables_1, d.before a0 Z = true) (hby : c.code = code) (hml : c.maxLocals = 21) (hown : s.vm.findClass "com/example/nearsame/nearsame/BandingAgreePinLaw" = some m.cls) (hret : meth.sig.returnType = some .boolean) (hlk : meth.locks = false) (e0 : T0.heap = h0) (N0 : Fr n0 locs) (Z0 : n0 ≤ h0.size) (hsp : i11 = (0 : Int32) ∨ i11 = (1 : Int32) ∨ i11 = (2 : Int32) ∨ i11 = (3 : Int32)) (hr : r = f0_57 j1 j3 j5 i11 j12 j14 j16) :
    own_Ends p e below s 16 128 (own_R (.int r) n0) T0 (mkF m 57 #[.val (.int i0), .val (.long j1), .second, .val (.long j3), .second, .val (.long j5), .second, .val (.long j7), .second, .val (.long j9), .second, .val (.int i11), .val (.long j12), .second, .val (.long j14), .second, .val (.long j16), .second, .unset, .unset, .unset] []) := by
  unfold f0_57 at hr
  rcases hsp with rfl | rfl | rfl | rfl
  · rw [if_pos rfl] at hr
    refine own_step (T' := T0) (f' := (mkF m 59 #[.val (.int i0), .val (.long j1), .second, .val (.long j3), .second, .val (.long j5), .second, .val (.long j7), .second, .val (.long j9), .second, .val (.int (0 : Int32)), .val (.long j12), .second, .val (.long j14), .second, .val (.long j16), .second, .unset, .unset, .unset] [(.int (0 : Int32))])) (fun t kt => ?_) ?_
    · show Steps p.tables e below (T0.setTop (mkF m 57 #[.val (.int i0), .val (.long j1), .second, .val (.long j3), .second, .val (.long j5), .second, .val (.long j7), .second, .val (.long j9), .second, .val (.int (0 : Int32)), .val (.long j12), .second, .val (.long j14), .second, .val (.long j16), .second, .unset, .unset, .unset] [])) _
      refine XS.iload X0.here hx rfl (hb hby at_57) rfl ?_
      exact kt
    obtain ⟨T4, h4, b4, X4, e4, Ex4, gb4, g4, Z4, Aq4, st4⟩ := own_new X0 hx hZ (aty := .long) (hw _ (List.mem_of_getElem? (i := 0) rfl)) e0 (g := (mkF m 59 #[.val (.int i0), .val (.long j1), .second, .val (.long j3), .second, .val (.long j5), .second, .val (.long j7), .second, .val (.long j9), .second, .val (.int (0 : Int32)), .val (.long j12), .second, .val (.long j14), .second, .val (.long j16), .second, .unset, .unset, .unset] [(.int (0 : Int32))])) rfl (hb hby at_59) rfl (by decide) (k := 0) (by decide) (by decide) (by decide) (by decide) Z0
    have Ab4_4 : own_A Z h4 b4 .long [] := Aq4
    refine own_step (T' := T4) (f' := (mkF m 61 #[.val (.int i0), .val (.long j1), .second, .val (.long j3), .second, .val (.long j5), .second, .val (.long j7), .second, .val (.long j9), .second, .val (.int (0 : Int32)), .val (.long j12), .second, .val (.long j14), .second, .val (.long j16), .second, .unset, .unset, .unset] [(.ref b4)])) st4 ?_
    refine own_step (T' := T4) (f' := (mkF m 65 #[.val (.int i0), .val (.long j1), .second, .val (.long j3), .second, .val (.long j5), .second, .val (.long j7), .second, .val (.long j9), .second, .val (.int (0 : Int32)), .val (.long j12), .second, .val (.long j14), .second, .val (.long j16), .second, .val (.ref b4), .unset, .unset] [(.int (0 : Int32))])) (fun t kt => ?_) ?_
    · show Steps p.tables e below (T4.setTop (mkF m 61 #[.val (.int i0), .val (.long j1), .second, .val (.long j3), .second, .val (.long j5), .second, .val (.long j7), .second, .val (.long j9), .second, .val (.int (0 : Int32)), .val (.long j12), .second, .val (.long j14), .second, .val (.long j16), .second, .unset, .unset, .unset] [(.ref b4)])) _
      refine XS.astore X4.here hx rfl (hb hby at_61) rfl rfl (l' := #[.val (.int i0), .val (.long j1), .second, .val (.long j3), .second, .val (.long j5), .second, .val (.long j7), .second, .val (.long j9), .second, .val (.int (0 : Int32)), .val (.long j12), .second, .val (.long j14), .second, .val (.long j16), .second, .val (.ref b4), .unset, .unset]) rfl ?_
      show Steps p.tables e below (T4.setTop (mkF m 63 #[.val (.int i0), .val (.long j1), .second, .val (.long j3), .second, .val (.long j5), .second, .val (.long j7), .second, .val (.long j9), .second, .val (.int (0 : Int32)), .val (.long j12), .second, .val (.long j14), .second, .val (.long j16), .second, .val (.ref b4), .unset, .unset] [])) _
      refine XS.iload X4.here hx rfl (hb hby at_63) rfl ?_
      exact kt
    obtain ⟨T5, h5, b5, X5, e5, Ex5, gb5, g5, Z5, Aq5, st5⟩ := own_new X4 hx hZ (aty := .long) (hw _ (List.mem_of_getElem? (i := 0) rfl)) e4 (g := (mkF m 65 #[.val (.int i0), .val (.long j1), .second, .val (.long j3), .second, .val (.long j5), .second, .val (.long j7), .second, .val (.long j9), .second, .val (.int (0 : Int32)), .val (.long j12), .second, .val (.long j14), .second, .val (.long j16), .second, .val (.ref b4), .unset, .unset] [(.int (0 : Int32))])) rfl (hb hby at_65) rfl (by decide) (k := 0) (by decide) (by decide) (by decide) (by decide) Z4
    have ne_b4_b5 : b4 ≠ b5 := Nat.ne_of_lt (gb5 ▸ Ab4_4.lt)
    have Ab4_5 := Ab4_4.ext Ex5
    have Ab5_5 : own_A Z h5 b5 .long [] := Aq5
    refine own_step (T' := T5) (f' := (mkF m 67 #[.val (.int i0), .val (.long j1), .second, .val (.long j3), .second, .val (.long j5), .second, .val (.long j7), .second, .val (.long j9), .second, .val (.int (0 : Int32)), .val (.long j12), .second, .val (.long j14), .second, .val (.long j16), .second, .val (.ref b4), .unset, .unset] [(.ref b5)])) st5 ?_
    refine own_step (T' := T5) (f' := (mkF m 71 #[.val (.int i0), .val (.long j1), .second, .val (.long j3), .second, .val (.long j5), .second, .val (.long j7), .second, .val (.long j9), .second, .val (.int (0 : Int32)), .val (.long j12), .second, .val (.long j14), .second, .val (.long j16), .second, .val (.ref b4), .val (.ref b5), .unset] [(.int (0 : Int32))])) (fun t kt => ?_) ?_
    · show Steps p.tables e below (T5.setTop (mkF m 67 #[.val (.int i0), .val (.long j1), .second, .val (.long j3), .second, .val (.long j5), .second, .val (.long j7), .second, .val (.long j9), .second, .val (.int (0 : Int32)), .val (.long j12), .second, .val (.long j14), .second, .val (.long j16), .second, .val (.ref b4), .unset, .unset] [(.ref b5)])) _
      refine XS.astore X5.here hx rfl (hb hby at_67) rfl rfl (l' := #[.val (.int i0), .val (.long j1), .second, .val (.long j3), .second, .val (.long j5), .second, .val (.long j7), .second, .val (.long j9), .second, .val (.int (0 : Int32)), .val (.long j12), .second, .val (.long j14), .second, .val (.long j16), .second, .val (.ref b4), .val (.ref b5), .unset]) rfl ?_
      show Steps p.tables e below (T5.setTop (mkF m 69 #[.val (.int i0), .val (.long j1), .second, .val (.long j3), .second, .val (.long j5), .second, .val (.long j7), .second, .val (.long j9), .second, .val (.int (0 : Int32)), .val (.long j12), .second, .val (.long j14), .second, .val (.long j16), .second, .val (.ref b4), .val (.ref b5), .unset] [])) _
      refine XS.iload X5.here hx rfl (hb hby at_69) rfl ?_
      exact kt
    refine own_step (T' := T5) (f' := (mkF m 85 #[.val (.int i0), .val (.long j1), .second, .val (.long j3), .second, .val (.long j5), .second, .val (.long j7), .second, .val (.long j9), .second, .val (.int (0 : Int32)), .val (.long j12), .second, .val (.long j14), .second, .val (.long j16), .second, .val (.ref b4), .val (.ref b5), .unset] [])) (fun t kt => ?_) ?_
    · show Steps p.tables e below (T5.setTop (mkF m 71 #[.val (.int i0), .val (.long j1), .second, .val (.long j3), .second, .val (.long j5), .second, .val (.long j7), .second, .val (.long j9), .second, .val (.int (0 : Int32)), .val (.long j12), .second, .val (.long j14), .second, .val (.long j16), .second, .val (.ref b4), .val (.ref b5), .unset] [(.int (0 : Int32))])) _
      refine XS.ifYes X5.here hx rfl (pc0 := 71) (pc' := 85) rfl (hb hby at_71) rfl ((if0 _ _).trans (flt (by decide : ¬ ((0 : Int32) < (0 : Int32)))).2.2.2) (by decide) (by decide) kt
    refine own_step (T' := T5) (f' := (mkF m 88 #[.val (.int i0), .val (.long j1), .second, .val (.long j3), .second, .val (.long j5), .second, .val (.long j7), .second, .val (.long j9), .second, .val (.int (0 : Int32)), .val (.long j12), .second, .val (.long j14), .second, .val (.long j16), .second, .val (.ref b4), .val (.ref b5), .unset] [(.int (1 : Int32)), (.int (0 : Int32))])) (fun t kt => ?_) ?_
    · show Steps p.tables e below (T5.setTop (mkF m 85 #[.val (.int i0), .val (.long j1), .second, .val (.long j3), .second, .val (.long j5), .second, .val (.long j7), .second, .val (.long j9), .second, .val (.int (0 : Int32)), .val (.long j12), .second, .val (.long j14), .second, .val (.long j16), .second, .val (.ref b4), .val (.ref b5), .unset] [])) _
      refine XS.iload X5.here hx rfl (hb hby at_85) rfl ?_
      show Steps p.tables e below (T5.setTop (mkF m 87 #[.val (.int i0), .val (.long j1), .second, .val (.long j3), .second, .val (.long j5), .second, .val (.long j7), .second, .val (.long j9), .second, .val (.int (0 : Int32)), .val (.long j12), .second, .val (.long j14), .second, .val (.long j16), .second, .val (.ref b4), .val (.ref b5), .unset] [(.int (0 : Int32))])) _
      refine XS.iconst X5.here hx rfl (hb hby at_87) ?_
      exact kt
    refine own_step (T' := T5) (f' := (mkF m 102 #[.val (.int i0), .val (.long j1), .second, .val (.long j3), .second, .val (.long j5), .second, .val (.long j7), .second, .val (.long j9), .second, .val (.int (0 : Int32)), .val (.long j12), .second, .val (.long j14), .second, .val (.long j16), .second, .val (.ref b4), .val (.ref b5), .unset] [])) (fun t kt => ?_) ?_
    · show Steps p.tables e below (T5.setTop (mkF m 88 #[.val (.int i0), .val (.long j1), .second, .val (.long j3), .second, .val (.long j5), .second, .val (.long j7), .second, .val (.long j9), .second, .val (.int (0 : Int32)), .val (.long j12), .second, .val (.long j14), .second, .val (.long j16), .second, .val (.ref b4), .val (.ref b5), .unset] [(.int (1 : Int32)), (.int (0 : Int32))])) _
      refine XS.icmpYes X5.here hx rfl (pc0 := 88) (pc' := 102) rfl (hb hby at_88) rfl (flt (by decide : ¬ ((1 : Int32) < (0 : Int32)))).2.2.2 (by decide) (by decide) kt
    refine own_step (T' := T5) (f' := (mkF m 105 #[.val (.int i0), .val (.long j1), .second, .val (.long j3), .second, .val (.long j5), .second, .val (.long j7), .second, .val (.long j9), .second, .val (.int (0 : Int32)), .val (.long j12), .second, .val (.long j14), .second, .val (.long j16), .second, .val (.ref b4), .val (.ref b5), .unset] [(.int (2 : Int32)), (.int (0 : Int32))])) (fun t kt => ?_) ?_
    · show Steps p.tables e below (T5.setTop (mkF m 102 #[.val (.int i0), .val (.long j1), .second, .val (.long j3), .second, .val (.long j5), .second, .val (.long j7), .second, .val (.long j9), .second, .val (.int (0 : Int32)), .val (.long j12), .second, .val (.long j14), .second, .val (.long j16), .second, .val (.ref b4), .val (.ref b5), .unset] [])) _
      refine XS.iload X5.here hx rfl (hb hby at_102) rfl ?_
      show Steps p.tables e below (T5.setTop (mkF m 104 #[.val (.int i0), .val (.long j1), .second, .val (.long j3), .second, .val (.long j5), .second, .val (.long j7), .second, .val (.long j9), .second, .val (.int (0 : Int32)), .val (.long j12), .second, .val (.long j14), .second, .val (.long j16), .second, .val (.ref b4), .val (.ref b5), .unset] [(.int (0 : Int32))])) _
      refine XS.iconst X5.here hx rfl (hb hby at_104) ?_
      exact kt
    refine own_step (T' := T5) (f' := (mkF m 120 #[.val (.int i0), .val (.long j1), .second, .val (.long j3), .second, .val (.long j5), .second, .val (.long j7), .second, .val (.long j9), .second, .val (.int (0 : Int32)), .val (.long j12), .second, .val (.long j14), .second, .val (.long j16), .second, .val (.ref b4), .val (.ref b5), .unset] [])) (fun t kt => ?_) ?_
    · show Steps p.tables e below (T5.setTop (mkF m 105 #[.val (.int i0), .val (.long j1), .second, .val (.long j3), .second, .val (.long j5), .second, .val (.long j7), .second, .val (.long j9), .second, .val (.int (0 : Int32)), .val (.long j12), .second, .val (.long j14), .second, .val (.long j16), .second, .val (.ref b4), .val (.ref b5), .unset] [(.int (2 : Int32)), (.int (0 : Int32))])) _
      refine XS.icmpYes X5.here hx rfl (pc0 := 105) (pc' := 120) rfl (hb hby at_105) rfl (flt (by decide : ¬ ((2 : Int32) < (0 : Int32)))).2.2.2 (by decide) (by decide) kt
    refine own_step (T' := T5) (f' := (mkF m 122 #[.val (.int i0), .val (.long j1), .second, .val (.long j3), .second, .val (.long j5), .second, .val (.long j7), .second, .val (.long j9), .second, .val (.int (0 : Int32)), .val (.long j12), .second, .val (.long j14), .second, .val (.long j16), .second, .val (.ref b4), .val (.ref b5), .unset] [(.int (0 : Int32))])) (fun t kt => ?_) ?_
    · show Steps p.tables e below (T5.setTop (mkF m 120 #[.val (.int i0), .val (.long j1), .second, .val (.long j3), .second, .val (.long j5), .second, .val (.long j7), .second, .val (.long j9), .second, .val (.int (0 : Int32)), .val (.long j12), .second, .val (.long j14), .second, .val (.long j16), .second, .val (.ref b4), .val (.ref b5), .unset] [])) _
      refine XS.iload X5.here hx rfl (hb hby at_120) rfl ?_
      exact kt
    refine own_step (T' := T5) (f' := (mkF m 132 #[.val (.int i0), .val (.long j1), .second, .val (.long j3), .second, .val (.long j5), .second, .val (.long j7), .second, .val (.long j9), .second, .val (.int (0 : Int32)), .val (.long j12), .second, .val (.long j14), .second, .val (.long j16), .second, .val (.ref b4), .val (.ref b5), .unset] [])) (fun t kt => ?_) ?_
    · show Steps p.tables e below (T5.setTop (mkF m 122 #[.val (.int i0), .val (.long j1), .second, .val (.long j3), .second, .val (.long j5), .second, .val (.long j7), .second, .val (.long j9), .second, .val (.int (0 : Int32)), .val (.long j12), .second, .val (.long j14), .second, .val (.long j16), .second, .val (.ref b4), .val (.ref b5), .unset] [(.int (0 : Int32))])) _
      refine XS.ifYes X5.here hx rfl (pc0 := 122) (pc' := 132) rfl (hb hby at_122) rfl ((if0 _ _).trans (flt (by decide : ¬ ((0 : Int32) < (0 : Int32)))).2.2.2) (by decide) (by decide) kt
    refine own_step (T' := T5) (f' := (mkF m 135 #[.val (.int i0), .val (.long j1), .second, .val (.long j3), .second, .val (.long j5), .second, .val (.long j7), .second, .val (.long j9), .second, .val (.int (0 : Int32)), .val (.long j12), .second, .val (.long j14), .second, .val (.long j16), .second, .val (.ref b4), .val (.ref b5), .unset] [(.int (1 : Int32)), (.int (0 : Int32))])) (fun t kt => ?_) ?_
    · show Steps p.tables e below (T5.setTop (mkF m 132 #[.val (.int i0), .val (.long j1), .second, .val (.long j3), .second, .val (.long j5), .second, .val (.long j7), .second, .val (.long j9), .second, .val (.int (0 : Int32)), .val (.long j12), .second, .val (.long j14), .second, .val (.long j16), .second, .val (.ref b4), .val (.ref b5), .unset] [])) _
      refine XS.iload X5.here hx rfl (hb hby at_132) rfl ?_
      show Steps p.tables e below (T5.setTop (mkF m 134 #[.val (.int i0), .val (.long j1), .second, .val (.long j3), .second, .val (.long j5), .second, .val (.long j7), .second, .val (.long j9), .second, .val (.int (0 : Int32)), .val (.long j12), .second, .val (.long j14), .second, .val (.long j16), .second, .val (.ref b4), .val (.ref b5), .unset] [(.int (0 : Int32))])) _
      refine XS.iconst X5.here hx rfl (hb hby at_134) ?_
      exact kt
    refine own_step (T' := T5) (f' := (mkF m 145 #[.val (.int i0), .val (.long j1), .second, .val (.long j3), .second, .val (.long j5), .second, .val (.long j7), .second, .val (.long j9), .second, .val (.int (0 : Int32)), .val (.long j12), .second, .val (.long j14), .second, .val (.long j16), .second, .val (.ref b4), .val (.ref b5), .unset] [])) (fun t kt => ?_) ?_
    · show Steps p.tables e below (T5.setTop (mkF m 135 #[.val (.int i0), .val (.long j1), .second, .val (.long j3), .second, .val (.long j5), .second, .val (.long j7), .second, .val (.long j9), .second, .val (.int (0 : Int32)), .val (.long j12), .second, .val (.long j14), .second, .val (.long j16), .second, .val (.ref b4), .val (.ref b5), .unset] [(.int (1 : Int32)), (.int (0 : Int32))])) _
      refine XS.icmpYes X5.here hx rfl (pc0 := 135) (pc' := 145) rfl (hb hby at_135) rfl (flt (by decide : ¬ ((1 : Int32) < (0 : Int32)))).2.2.2 (by decide) (by decide) kt
    refine own_step (T' := T5) (f' := (mkF m 148 #[.val (.int i0), .val (.long j1), .second, .val (.long j3), .second, .val (.long j5), .second, .val (.long j7), .second, .val (.long j9), .second, .val (.int (0 : Int32)), .val (.long j12), .second, .val (.long j14), .second, .val (.long j16), .second, .val (.ref b4), .val (.ref b5), .unset] [(.int (2 : Int32)), (.int (0 : Int32))])) (fun t kt => ?_) ?_
    · show Steps p.tables e below (T5.setTop (mkF m 145 #[.val (.int i0), .val (.long j1), .second, .val (.long j3), .second, .val (.long j5), .second, .val (.long j7), .second, .val (.long j9), .second, .val (.int (0 : Int32)), .val (.long j12), .second, .val (.long j14), .second, .val (.long j16), .second, .val (.ref b4), .val (.ref b5), .unset] [])) _
      refine XS.iload X5.here hx rfl (hb hby at_145) rfl ?_
      show Steps p.tables e below (T5.setTop (mkF m 147 #[.val (.int i0), .val (.long j1), .second, .val (.long j3), .second, .val (.long j5), .second, .val (.long j7), .second, .val (.long j9), .second, .val (.int (0 : Int32)), .val (.long j12), .second, .val (.long j14), .second, .val (.long j16), .second, .val (.ref b4), .val (.ref b5), .unset] [(.int (0 : Int32))])) _
      refine XS.iconst X5.here hx rfl (hb hby at_147) ?_
      exact kt
    refine own_step (T' := T5) (f' := (mkF m 163 #[.val (.int i0), .val (.long j1), .second, .val (.long j3), .second, .val (.long j5), .second, .val (.long j7), .second, .val (.long j9), .second, .val (.int (0 : Int32)), .val (.long j12), .second, .val (.long j14), .second, .val (.long j16), .second, .val (.ref b4), .val (.ref b5), .unset] [])) (fun t kt => ?_) ?_
    · show Steps p.tables e below (T5.setTop (mkF m 148 #[.val (.int i0), .val (.long j1), .second, .val (.long j3), .second, .val (.long j5), .second, .val (.long j7), .second, .val (.long j9), .second, .val (.int (0 : Int32)), .val (.long j12), .second, .val (.long j14), .second, .val (.long j16), .second, .val (.ref b4), .val (.ref b5), .unset] [(.int (2 : Int32)), (.int (0 : Int32))])) _
      refine XS.icmpYes X5.here hx rfl (pc0 := 148) (pc' := 163) rfl (hb hby at_148) rfl (flt (by decide : ¬ ((2 : Int32) < (0 : Int32)))).2.2.2 (by decide) (by decide) kt
    refine own_step (T' := T5) (f' := (mkF m 170 #[.val (.int i0), .val (.long j1), .second, .val (.long j3), .second, .val (.long j5), .second, .val (.long j7), .second, .val (.long j9), .second, .val (.int (0 : Int32)), .val (.long j12), .second, .val (.long j14), .second, .val (.long j16), .second, .val (.ref b4), .val (.ref b5), .val (.int (0 : Int32))] [(.ref b5), (.ref b4)])) (fun t kt => ?_) ?_
    · show Steps p.tables e below (T5.setTop (mkF m 163 #[.val (.int i0), .val (.long j1), .second, .val (.long j3), .second, .val (.long j5), .second, .val (.long j7), .second, .val (.long j9), .second, .val (.int (0 : Int32)), .val (.long j12), .second, .val (.long j14), .second, .val (.long j16), .second, .val (.ref b4), .val (.ref b5), .unset] [])) _
      refine XS.iconst X5.here hx rfl (hb hby at_163) ?_
      show Steps p.tables e below (T5.setTop (mkF m 164 #[.val (.int i0), .val (.long j1), .second, .val (.long j3), .second, .val (.long j5), .second, .val (.long j7), .second, .val (.long j9), .second, .val (.int (0 : Int32)), .val (.long j12), .second, .val (.long j14), .second, .val (.long j16), .second, .val (.ref b4), .val (.ref b5), .unset] [(.int (0 : Int32))])) _
      refine XS.istore X5.here hx rfl (hb hby at_164) rfl (l' := #[.val (.int i0), .val (.long j1), .second, .val (.long j3), .second, .val (.long j5), .second, .val (.long j7), .second, .val (.long j9), .second, .val (.int (0 : Int32)), .val (.long j12), .second, .val (.long j14), .second, .val (.long j16), .second, .val (.ref b4), .val (.ref b5), .val (.int (0 : Int32))]) rfl ?_
      show Steps p.tables e below (T5.setTop (mkF m 166 #[.val (.int i0), .val (.long j1), .second, .val (.long j3), .second, .val (.long j5), .second, .val (.long j7), .second, .val (.long j9), .second, .val (.int (0 : Int32)), .val (.long j12), .second, .val (.long j14), .second, .val (.long j16), .second, .val (.ref b4), .val (.ref b5), .val (.int (0 : Int32))] [])) _
      refine XS.aload X5.here hx rfl (hb hby at_166) rfl rfl ?_
      show Steps p.tables e below (T5.setTop (mkF m 168 #[.val (.int i0), .val (.long j1), .second, .val (.long j3), .second, .val (.long j5), .second, .val (.long j7), .second, .val (.long j9), .second, .val (.int (0 : Int32)), .val (.long j12), .second, .val (.long j14), .second, .val (.long j16), .second, .val (.ref b4), .val (.ref b5), .val (.int (0 : Int32))] [(.ref b4)])) _
      refine XS.aload X5.here hx rfl (hb hby at_168) rfl rfl ?_
      exact kt
    obtain ⟨_, _, ⟨T12, L12, k12, n12⟩, -, X12, ⟨Lc12, hQ12, l12, y12, z12⟩, st12⟩ := Jvm.LawKit.callS X5 hx (y := (⟨"com/example/nearsame/nearsame/Banding", "agree", "([J[J)Z"⟩ : MethodName)) hown (mvT hZ (hw _ (List.mem_of_getElem? (i := 1) rfl))) (mvT hZ (hw _ (List.mem_of_getElem? (i := 2) rfl))) (mvT hZ (hw _ (List.mem_of_getElem? (i := 3) rfl))) (mvT hZ (hw _ (List.mem_of_getElem? (i := 4) rfl))) (by decide) (backOf (W := 0) (rm1n0 l Z a0 hw [] b4 b5  h5 n0 Ab4_5 Ab5_5) hZ (hw _ (List.mem_of_getElem? (i := 4) rfl)) (hw _ (List.mem_of_getElem? (i := 3) rfl)) (by decide) (by decide)) (g := (mkF m 170 #[.val (.int i0), .val (.long j1), .second, .val (.long j3), .second, .val (.long j5), .second, .val (.long j7), .second, .val (.long j9), .second, .val (.int (0 : Int32)), .val (.long j12), .second, .val (.long j14), .second, .val (.long j16), .second, .val (.ref b4), .val (.ref b5), .val (.int (0 : Int32))] [(.ref b5), (.ref b4)])) rfl (by rw [hml]; rfl) (argsL := [(.ref b4), (.ref b5)]) (rest := []) (lenOf pd1 rfl) rfl (by show 2 * 0 + _ ≤ _; exact Nat.le_of_eq rfl) (hb hby at_170) (fun _ _ => ⟨rfl, e5, (by decide : 2 + 0 ≤ _), (by decide : 0 + 0 ≤ _)⟩)
    dsimp only [Pt.U, Pt.locs, Pt.cells, Pt.slots] at X12 l12 y12 z12 st12 hQ12
    subst l12 y12 z12
    obtain ⟨rfl, Nq12, e12⟩ := hQ12
    have N12 := Fr.app N0 Nq12
    refine own_step (T' := T12) (f' := (mkF m 173 #[.val (.int i0), .val (.long j1), .second, .val (.long j3), .second, .val (.long j5), .second, .val (.long j7), .second, .val (.long j9), .second, .val (.int (0 : Int32)), .val (.long j12), .second, .val (.long j14), .second, .val (.long j16), .second, .val (.ref b4), .val (.ref b5), .val (.int (0 : Int32))] [(.int (f1n0_0 ))])) st12 ?_
    refine own_step (T' := T12) (f' := (mkF m 175 #[.val (.int i0), .val (.long j1), .second, .val (.long j3), .second, .val (.long j5), .second, .val (.long j7), .second, .val (.long j9), .second, .val (.int (0 : Int32)), .val (.long j12), .second, .val (.long j14), .second, .val (.long j16), .second, .val (.ref b4), .val (.ref b5), .val (.int (0 : Int32))] [(.int (0 : Int32)), (.int (f1n0_0 ))])) (fun t kt => ?_) ?_
    · show Steps p.tables e below (T12.setTop (mkF m 173 #[.val (.int i0), .val (.long j1), .second, .val (.long j3), .second, .val (.long j5), .second, .val (.long j7), .second, .val (.long j9), .second, .val (.int (0 : Int32)), .val (.long j12), .second, .val (.long j14), .second, .val (.long j16), .second, .val (.ref b4), .val (.ref b5), .val (.int (0 : Int32))] [(.int (f1n0_0 ))])) _
      refine XS.iload X12.here hx rfl (hb hby at_173) rfl ?_
      exact kt
    by_cases hc175_13 : (f1n0_0 ) = (0 : Int32)
    · rw [if_pos hc175_13] at hr
      refine own_step (T' := T12) (f' := (mkF m 178 #[.val (.int i0), .val (.long j1), .second, .val (.long j3), .second, .val (.long j5), .second, .val (.long j7), .second, .val (.long j9), .second, .val (.int (0 : Int32)), .val (.long j12), .second, .val (.long j14), .second, .val (.long j16), .second, .val (.ref b4), .val (.ref b5), .val (.int (0 : Int32))] [])) (fun t kt => ?_) ?_
      · show Steps p.tables e below (T12.setTop (mkF m 175 #[.val (.int i0), .val (.long j1), .second, .val (.long j3), .second, .val (.long j5), .second, .val (.long j7), .second, .val (.long j9), .second, .val (.int (0 : Int32)), .val (.long j12), .second, .val (.long j14), .second, .val (.long j16), .second, .val (.ref b4), .val (.ref b5), .val (.int (0 : Int32))] [(.int (0 : Int32)), (.int (f1n0_0 ))])) _
        refine XS.icmpNo X12.here hx rfl (hb hby at_175) rfl (teq hc175_13).2 kt
      refine own_step (T' := T12) (f' := (mkF m 183 #[.val (.int i0), .val (.long j1), .second, .val (.long j3), .second, .val (.long j5), .second, .val (.long j7), .second, .val (.long j9), .second, .val (.int (0 : Int32)), .val (.long j12), .second, .val (.long j14), .second, .val (.long j16), .second, .val (.ref b4), .val (.ref b5), .val (.int (0 : Int32))] [(.int (1 : Int32))])) (fun t kt => ?_) ?_
      · show Steps p.tables e below (T12.setTop (mkF m 178 #[.val (.int i0), .val (.long j1), .second, .val (.long j3), .second, .val (.long j5), .second, .val (.long j7), .second, .val (.long j9), .second, .val (.int (0 : Int32)), .val (.long j12), .second, .val (.long j14), .second, .val (.long j16), .second, .val (.ref b4), .val (.ref b5), .val (.int (0 : Int32))] [])) _
        refine XS.iconst X12.here hx rfl (hb hby at_178) ?_
        show Steps p.tables e below (T12.setTop (mkF m 179 #[.val (.int i0), .val (.long j1), .second, .val (.long j3), .second, .val (.long j5), .second, .val (.long j7), .second, .val (.long j9), .second, .val (.int (0 : Int32)), .val (.long j12), .second, .val (.long j14), .second, .val (.long j16), .second, .val (.ref b4), .val (.ref b5), .val (.int (0 : Int32))] [(.int (1 : Int32))])) _
        refine XS.goto X12.here hx rfl (pc0 := 179) (pc' := 183) rfl (hb hby at_179) (by decide) (by decide) ?_
        exact kt
      exact own_retZ X12 hx hret (by simp) hlk (hb hby at_183) (by decide) (by decide) ⟨congrArg (fun z => some (Value.int z)) hr.symm, N12⟩
    · rw [if_neg hc175_13] at hr
      refine own_step (T' := T12) (f' := (mkF m 182 #[.val (.int i0), .val (.long j1), .second, .val (.long j3), .second, .val (.long j5), .second, .val (.long j7), .second, .val (.long j9), .second, .val (.int (0 : Int32)), .val (.long j12), .second, .val (.long j14), .second, .val (.long j16), .second, .val (.ref b4), .val (.ref b5), .val (.int (0 : Int32))] [])) (fun t kt => ?_) ?_
      · show Steps p.tables e below (T12.setTop (mkF m 175 #[.val (.int i0), .val (.long j1), .second, .val (.long j3), .second, .val (.long j5), .second, .val (.long j7), .second, .val (.long j9), .second, .val (.int (0 : Int32)), .val (.long j12), .second, .val (.long j14), .second, .val (.long j16), .second, .val (.ref b4), .val (.ref b5), .val (.int (0 : Int32))] [(.int (0 : Int32)), (.int (f1n0_0 ))])) _
        refine XS.icmpYes X12.here hx rfl (pc0 := 175) (pc' := 182) rfl (hb hby at_175) rfl (feq hc175_13).2 (by decide) (by decide) kt
      refine own_step (T' := T12) (f' := (mkF m 183 #[.val (.int i0), .val (.long j1), .second, .val (.long j3), .second, .val (.long j5), .second, .val (.long j7), .second, .val (.long j9), .second, .val (.int (0 : Int32)), .val (.long j12), .second, .val (.long j14), .second, .val (.long j16), .second, .val (.ref b4), .val (.ref b5), .val (.int (0 : Int32))] [(.int (0 : Int32))])) (fun t kt => ?_) ?_
      · show Steps p.tables e below (T12.setTop (mkF m 182 #[.val (.int i0), .val (.long j1), .second, .val (.long j3), .second, .val (.long j5), .second, .val (.long j7), .second, .val (.long j9), .second, .val (.int (0 : Int32)), .val (.long j12), .second, .val (.long j14), .second, .val (.long j16), .second, .val (.ref b4), .val (.ref b5), .val (.int (0 : Int32))] [])) _
        refine XS.iconst X12.here hx rfl (hb hby at_182) ?_
        exact kt
      exact own_retZ X12 hx hret (by simp) hlk (hb hby at_183) (by decide) (by decide) ⟨congrArg (fun z => some (Value.int z)) hr.symm, N12⟩
  · rw [if_neg (by decide), if_pos rfl] at hr
    refine own_step (T' := T0) (f' := (mkF m 59 #[.val (.int i0), .val (.long j1), .second, .val (.long j3), .second, .val (.long j5), .second, .val (.long j7), .second, .val (.long j9), .second, .val (.int (1 : Int32)), .val (.long j12), .second, .val (.long j14), .second, .val (.long j16), .second, .unset, .unset, .unset] [(.int (1 : Int32))])) (fun t kt => ?_) ?_
    · show Steps p.tables e below (T0.setTop (mkF m 57 #[.val (.int i0), .val (.long j1), .second, .val (.long j3), .second, .val (.long j5), .second, .val (.long j7), .second, .val (.long j9), .second, .val (.int (1 : Int32)), .val (.long j12), .second, .val (.long j14), .second, .val (.long j16), .second, .unset, .unset, .unset] [])) _
      refine XS.iload X0.here hx rfl (hb hby at_57) rfl ?_
      exact kt
    obtain ⟨T14, h14, b14, X14, e14, Ex14, gb14, g14, Z14, Aq14, st14⟩ := own_new X0 hx hZ (aty := .long) (hw _ (List.mem_of_getElem? (i := 0) rfl)) e0 (g := (mkF m 59 #[.val (.int i0), .val (.long j1), .second, .val (.long j3), .second, .val (.long j5), .second, .val (.long j7), .second, .val (.long j9), .second, .val (.int (1 : Int32)), .val (.long j12), .second, .val (.long j14), .second, .val (.long j16), .second, .unset, .unset, .unset] [(.int (1 : Int32))])) rfl (hb hby at_59) rfl (by decide) (k := 1) (by decide) (by decide) (by decide) (by decide) Z0
    have Ab14_14 : own_A Z h14 b14 .long [(.long (0 : Int64))] := Aq14
    refine own_step (T' := T14) (f' := (mkF m 61 #[.val (.int i0), .val (.long j1), .second, .val (.long j3), .second, .val (.long j5), .second, .val (.long j7), .second, .val (.long j9), .second, .val (.int (1 : Int32)), .val (.long j12), .second, .val (.long j14), .second, .val (.long j16), .second, .unset, .unset, .unset] [(.ref b14)])) st14 ?_
    refine own_step (T' := T14) (f' := (mkF m 65 #[.val (.int i0), .val (.long j1), .second, .val (.long j3), .second, .val (.long j5), .second, .val (.long j7), .second, .val (.long j9), .second, .val (.int (1 : Int32)), .val (.long j12), .second, .val (.long j14), .second, .val (.long j16), .second, .val (.ref b14), .unset, .unset] [(.int (1 : Int32))])) (fun t kt => ?_) ?_
    · show Steps p.tables e below (T14.setTop (mkF m 61 #[.val (.int i0), .val (.long j1), .second, .val (.long j3), .second, .val (.long j5), .second, .val (.long j7), .second, .val (.long j9), .second, .val (.int (1 : Int32)), .val (.long j12), .second, .val (.long j14), .second, .val (.long j16), .second, .unset, .unset, .unset] [(.ref b14)])) _
      refine XS.astore X14.here hx rfl (hb hby at_61) rfl rfl (l' := #[.val (.int i0), .val (.long j1), .second, .val (.long j3), .second, .val (.long j5), .second, .val (.long j7), .second, .val (.long j9), .second, .val (.int (1 : Int32)), .val (.long j12), .second, .val (.long j14), .second, .val (.long j16), .second, .val (.ref b14), .unset, .unset]) rfl ?_
      show Steps p.tables e below (T14.setTop (mkF m 63 #[.val (.int i0), .val (.long j1), .second, .val (.long j3), .second, .val (.long j5), .second, .val (.long j7), .second, .val (.long j9), .second, .val (.int (1 : Int32)), .val (.long j12), .second, .val (.long j14), .second, .val (.long j16), .second, .val (.ref b14), .unset, .unset] [])) _
      refine XS.iload X14.here hx rfl (hb hby at_63) rfl ?_
      exact kt
    obtain ⟨T15, h15, b15, X15, e15, Ex15, gb15, g15, Z15, Aq15, st15⟩ := own_new X14 hx hZ (aty := .long) (hw _ (List.mem_of_getElem? (i := 0) rfl)) e14 (g := (mkF m 65 #[.val (.int i0), .val (.long j1), .second, .val (.long j3), .second, .val (.long j5), .second, .val (.long j7), .second, .val (.long j9), .second, .val (.int (1 : Int32)), .val (.long j12), .second, .val (.long j14), .second, .val (.long j16), .second, .val (.ref b14), .unset, .unset] [(.int (1 : Int32))])) rfl (hb hby at_65) rfl (by decide) (k := 1) (by decide) (by decide) (by decide) (by decide) Z14
    have ne_b14_b15 : b14 ≠ b15 := Nat.ne_of_lt (gb15 ▸ Ab14_14.lt)
    have Ab14_15 := Ab14_14.ext Ex15
    have Ab15_15 : own_A Z h15 b15 .long [(.long (0 : Int64))] := Aq15
    refine own_step (T' := T15) (f' := (mkF m 67 #[.val (.int i0), .val (.long j1), .second, .val (.long j3), .second, .val (.long j5), .second, .val (.long j7), .second, .val (.long j9), .second, .val (.int (1 : Int32)), .val (.long j12), .second, .val (.long j14), .second, .val (.long j16), .second, .val (.ref b14), .unset, .unset] [(.ref b15)])) st15 ?_
    refine own_step (T' := T15) (f' := (mkF m 71 #[.val (.int i0), .val (.long j1), .second, .val (.long j3), .second, .val (.long j5), .second, .val (.long j7), .second, .val (.long j9), .second, .val (.int (1 : Int32)), .val (.long j12), .second, .val (.long j14), .second, .val (.long j16), .second, .val (.ref b14), .val (.ref b15), .unset] [(.int (1 : Int32))])) (fun t kt => ?_) ?_
    · show Steps p.tables e below (T15.setTop (mkF m 67 #[.val (.int i0), .val (.long j1), .second, .val (.long j3), .second, .val (.long j5), .second, .val (.long j7), .second, .val (.long j9), .second, .val (.int (1 : Int32)), .val (.long j12), .second, .val (.long j14), .second, .val (.long j16), .second, .val (.ref b14), .unset, .unset] [(.ref b15)])) _
      refine XS.astore X15.here hx rfl (hb hby at_67) rfl rfl (l' := #[.val (.int i0), .val (.long j1), .second, .val (.long j3), .second, .val (.long j5), .second, .val (.long j7), .second, .val (.long j9), .second, .val (.int (1 : Int32)), .val (.long j12), .second, .val (.long j14), .second, .val (.long j16), .second, .val (.ref b14), .val (.ref b15), .unset]) rfl ?_
      show Steps p.tables e below (T15.setTop (mkF m 69 #[.val (.int i0), .val (.long j1), .second, .val (.long j3), .second, .val (.long j5), .second, .val (.long j7), .second, .val (.long j9), .second, .val (.int (1 : Int32)), .val (.long j12), .second, .val (.long j14), .second, .val (.long j16), .second, .val (.ref b14), .val (.ref b15), .unset] [])) _
      refine XS.iload X15.here hx rfl (hb hby at_69) rfl ?_
      exact kt
    refine own_step (T' := T15) (f' := (mkF m 74 #[.val (.int i0), .val (.long j1), .second, .val (.long j3), .second, .val (.long j5), .second, .val (.long j7), .second, .val (.long j9), .second, .val (.int (1 : Int32)), .val (.long j12), .second, .val (.long j14), .second, .val (.long j16), .second, .val (.ref b14), .val (.ref b15), .unset] [])) (fun t kt => ?_) ?_
    · show Steps p.tables e below (T15.setTop (mkF m 71 #[.val (.int i0), .val (.long j1), .second, .val (.long j3), .second, .val (.long j5), .second, .val (.long j7), .second, .val (.long j9), .second, .val (.int (1 : Int32)), .val (.long j12), .second, .val (.long j14), .second, .val (.long j16), .second, .val (.ref b14), .val (.ref b15), .unset] [(.int (1 : Int32))])) _
      refine XS.ifNo X15.here hx rfl (hb hby at_71) rfl ((if0 _ _).trans (tlt (by decide : ((0 : Int32) < (1 : Int32)))).2.2.2) kt
    refine own_step (T' := T15) (f' := (mkF m 78 #[.val (.int i0), .val (.long j1), .second, .val (.long j3), .second, .val (.long j5), .second, .val (.long j7), .second, .val (.long j9), .second, .val (.int (1 : Int32)), .val (.long j12), .second, .val (.long j14), .second, .val (.long j16), .second, .val (.ref b14), .val (.ref b15), .unset] [(.long j1), (.int (0 : Int32)), (.ref b14)])) (fun t kt => ?_) ?_
    · show Steps p.tables e below (T15.setTop (mkF m 74 #[.val (.int i0), .val (.long j1), .second, .val (.long j3), .second, .val (.long j5), .second, .val (.long j7), .second, .val (.long j9), .second, .val (.int (1 : Int32)), .val (.long j12), .second, .val (.long j14), .second, .val (.long j16), .second, .val (.ref b14), .val (.ref b15), .unset] [])) _
      refine XS.aload X15.here hx rfl (hb hby at_74) rfl rfl ?_
      show Steps p.tables e below (T15.setTop (mkF m 76 #[.val (.int i0), .val (.long j1), .second, .val (.long j3), .second, .val (.long j5), .second, .val (.long j7), .second, .val (.long j9), .second, .val (.int (1 : Int32)), .val (.long j12), .second, .val (.long j14), .second, .val (.long j16), .second, .val (.ref b14), .val (.ref b15), .unset] [(.ref b14)])) _
      refine XS.iconst X15.here hx rfl (hb hby at_76) ?_
      show Steps p.tables e below (T15.setTop (mkF m 77 #[.val (.int i0), .val (.long j1), .second, .val (.long j3), .second, .val (.long j5), .second, .val (.long j7), .second, .val (.long j9), .second, .val (.int (1 : Int32)), .val (.long j12), .second, .val (.long j14), .second, .val (.long j16), .second, .val (.ref b14), .val (.ref b15), .unset] [(.int (0 : Int32)), (.ref b14)])) _
      refine XS.lloadN X15.here hx rfl (hb hby at_77) rfl ?_
      exact kt
    obtain ⟨T17, h17, Lq17, X17, N17, e17, W17, Z17, Aq17, st17⟩ := own_stJ X15 hx hZ e15 Ab14_15 (j := (0 : Int32)) (by decide) (k := 0) (by decide) (Nat.le_of_ble_eq_true rfl) N0 g14 Z15 (g := (mkF m 78 #[.val (.int i0), .val (.long j1), .second, .val (.long j3), .second, .val (.long j5), .second, .val (.long j7), .second, .val (.long j9), .second, .val (.int (1 : Int32)), .val (.long j12), .second, .val (.long j14), .second, .val (.long j16), .second, .val (.ref b14), .val (.ref b15), .unset] [(.long j1), (.int (0 : Int32)), (.ref b14)])) rfl rfl (hb hby at_78)
    have Ab15_17 := Ab15_15.other W17 (Ne.symm ne_b14_b15)
    have Ab14_17 : own_A Z h17 b14 .long [(.long j1)] := Aq17
    refine own_step (T' := T17) (f' := (mkF m 79 #[.val (.int i0), .val (.long j1), .second, .val (.long j3), .second, .val (.long j5), .second, .val (.long j7), .second, .val (.long j9), .second, .val (.int (1 : Int32)), .val (.long j12), .second, .val (.long j14), .second, .val (.long j16), .second, .val (.ref b14), .val (.ref b15), .unset] [])) st17 ?_
    refine own_step (T' := T17) (f' := (mkF m 84 #[.val (.int i0), .val (.long j1), .second, .val (.long j3), .second, .val (.long j5), .second, .val (.long j7), .second, .val (.long j9), .second, .val (.int (1 : Int32)), .val (.long j12), .second, .val (.long j14), .second, .val (.long j16), .second, .val (.ref b14), .val (.ref b15), .unset] [(.long j12), (.int (0 : Int32)), (.ref b15)])) (fun t kt => ?_) ?_
    · show Steps p.tables e below (T17.setTop (mkF m 79 #[.val (.int i0), .val (.long j1), .second, .val (.long j3), .second, .val (.long j5), .second, .val (.long j7), .second, .val (.long j9), .second, .val (.int (1 : Int32)), .val (.long j12), .second, .val (.long j14), .second, .val (.long j16), .second, .val (.ref b14), .val (.ref b15), .unset] [])) _
      refine XS.aload X17.here hx rfl (hb hby at_79) rfl rfl ?_
      show Steps p.tables e below (T17.setTop (mkF m 81 #[.val (.int i0), .val (.long j1), .second, .val (.long j3), .second, .val (.long j5), .second, .val (.long j7), .second, .val (.long j9), .second, .val (.int (1 : Int32)), .val (.long j12), .second, .val (.long j14), .second, .val (.long j16), .second, .val (.ref b14), .val (.ref b15), .unset] [(.ref b15)])) _
      refine XS.iconst X17.here hx rfl (hb hby at_81) ?_
      show Steps p.tables e below (T17.setTop (mkF m 82 #[.val (.int i0), .val (.long j1), .second, .val (.long j3), .second, .val (.long j5), .second, .val (.long j7), .second, .val (.long j9), .second, .val (.int (1 : Int32)), .val (.long j12), .second, .val (.long j14), .second, .val (.long j16), .second, .val (.ref b14), .val (.ref b15), .unset] [(.int (0 : Int32)), (.ref b15)])) _
      refine XS.lload X17.here hx rfl (hb hby at_82) rfl ?_
      exact kt
    obtain ⟨T18, h18, Lq18, X18, N18, e18, W18, Z18, Aq18, st18⟩ := own_stJ X17 hx hZ e17 Ab15_17 (j := (0 : Int32)) (by decide) (k := 0) (by decide) (Nat.le_of_ble_eq_true rfl) N17 g15 Z17 (g := (mkF m 84 #[.val (.int i0), .val (.long j1), .second, .val (.long j3), .second, .val (.long j5), .second, .val (.long j7), .second, .val (.long j9), .second, .val (.int (1 : Int32)), .val (.long j12), .second, .val (.long j14), .second, .val (.long j16), .second, .val (.ref b14), .val (.ref b15), .unset] [(.long j12), (.int (0 : Int32)), (.ref b15)])) rfl rfl (hb hby at_84)
    have Ab14_18 := Ab14_17.other W18 ne_b14_b15
    have Ab15_18 : own_A Z h18 b15 .long [(.long j12)] := Aq18
    refine own_step (T' := T18) (f' := (mkF m 85 #[.val (.int i0), .val (.long j1), .second, .val (.long j3), .second, .val (.long j5), .second, .val (.long j7), .second, .val (.long j9), .second, .val (.int (1 : Int32)), .val (.long j12), .second, .val (.long j14), .second, .val (.long j16), .second, .val (.ref b14), .val (.ref b15), .unset] [])) st18 ?_
    refine own_step (T' := T18) (f' := (mkF m 88 #[.val (.int i0), .val (.long j1), .second, .val (.long j3), .second, .val (.long j5), .second, .val (.long j7), .second, .val (.long j9), .second, .val (.int (1 : Int32)), .val (.long j12), .second, .val (.long j14), .second, .val (.long j16), .second, .val (.ref b14), .val (.ref b15), .unset] [(.int (1 : Int32)), (.int (1 : Int32))])) (fun t kt => ?_) ?_
    · show Steps p.tables e below (T18.setTop (mkF m 85 #[.val (.int i0), .val (.long j1), .second, .val (.long j3), .second, .val (.long j5), .second, .val (.long j7), .second, .val (.long j9), .second, .val (.int (1 : Int32)), .val (.long j12), .second, .val (.long j14), .second, .val (.long j16), .second, .val (.ref b14), .val (.ref b15), .unset] [])) _
      refine XS.iload X18.here hx rfl (hb hby at_85) rfl ?_
      show Steps p.tables e below (T18.setTop (mkF m 87 #[.val (.int i0), .val (.long j1), .second, .val (.long j3), .second, .val (.long j5), .second, .val (.long j7), .second, .val (.long j9), .second, .val (.int (1 : Int32)), .val (.long j12), .second, .val (.long j14), .second, .val (.long j16), .second, .val (.ref b14), .val (.ref b15), .unset] [(.int (1 : Int32))])) _
      refine XS.iconst X18.here hx rfl (hb hby at_87) ?_
      exact kt
    refine own_step (T' := T18) (f' := (mkF m 102 #[.val (.int i0), .val (.long j1), .second, .val (.long j3), .second, .val (.long j5), .second, .val (.long j7), .second, .val (.long j9), .second, .val (.int (1 : Int32)), .val (.long j12), .second, .val (.long j14), .second, .val (.long j16), .second, .val (.ref b14), .val (.ref b15), .unset] [])) (fun t kt => ?_) ?_
    · show Steps p.tables e below (T18.setTop (mkF m 88 #[.val (.int i0), .val (.long j1), .second, .val (.long j3), .second, .val (.long j5), .second, .val (.long j7), .second, .val (.long j9), .second, .val (.int (1 : Int32)), .val (.long j12), .second, .val (.long j14), .second, .val (.long j16), .second, .val (.ref b14), .val (.ref b15), .unset] [(.int (1 : Int32)), (.int (1 : Int32))])) _
      refine XS.icmpYes X18.here hx rfl (pc0 := 88) (pc' := 102) rfl (hb hby at_88) rfl (flt (by decide : ¬ ((1 : Int32) < (1 : Int32)))).2.2.2 (by decide) (by decide) kt
    refine own_step (T' := T18) (f' := (mkF m 105 #[.val (.int i0), .val (.long j1), .second, .val (.long j3), .second, .val (.long j5), .second, .val (.long j7), .second, .val (.long j9), .second, .val (.int (1 : Int32)), .val (.long j12), .second, .val (.long j14), .second, .val (.long j16), .second, .val (.ref b14), .val (.ref b15), .unset] [(.int (2 : Int32)), (.int (1 : Int32))])) (fun t kt => ?_) ?_
    · show Steps p.tables e below (T18.setTop (mkF m 102 #[.val (.int i0), .val (.long j1), .second, .val (.long j3), .second, .val (.long j5), .second, .val (.long j7), .second, .val (.long j9), .second, .val (.int (1 : Int32)), .val (.long j12), .second, .val (.long j14), .second, .val (.long j16), .second, .val (.ref b14), .val (.ref b15), .unset] [])) _
      refine XS.iload X18.here hx rfl (hb hby at_102) rfl ?_
      show Steps p.tables e below (T18.setTop (mkF m 104 #[.val (.int i0), .val (.long j1), .second, .val (.long j3), .second, .val (.long j5), .second, .val (.long j7), .second, .val (.long j9), .second, .val (.int (1 : Int32)), .val (.long j12), .second, .val (.long j14), .second, .val (.long j16), .second, .val (.ref b14), .val (.ref b15), .unset] [(.int (1 : Int32))])) _
      refine XS.iconst X18.here hx rfl (hb hby at_104) ?_
      exact kt
    refine own_step (T' := T18) (f' := (mkF m 120 #[.val (.int i0), .val (.long j1), .second, .val (.long j3), .second, .val (.long j5), .second, .val (.long j7), .second, .val (.long j9), .second, .val (.int (1 : Int32)), .val (.long j12), .second, .val (.long j14), .second, .val (.long j16), .second, .val (.ref b14), .val (.ref b15), .unset] [])) (fun t kt => ?_) ?_
    · show Steps p.tables e below (T18.setTop (mkF m 105 #[.val (.int i0), .val (.long j1), .second, .val (.long j3), .second, .val (.long j5), .second, .val (.long j7), .second, .val (.long j9), .second, .val (.int (1 : Int32)), .val (.long j12), .second, .val (.long j14), .second, .val (.long j16), .second, .val (.ref b14), .val (.ref b15), .unset] [(.int (2 : Int32)), (.int (1 : Int32))])) _
      refine XS.icmpYes X18.here hx rfl (pc0 := 105) (pc' := 120) rfl (hb hby at_105) rfl (flt (by decide : ¬ ((2 : Int32) < (1 : Int32)))).2.2.2 (by decide) (by decide) kt
    refine own_step (T' := T18) (f' := (mkF m 122 #[.val (.int i0), .val (.long j1), .second, .val (.long j3), .second, .val (.long j5), .second, .val (.long j7), .second, .val (.long j9), .second, .val (.int (1 : Int32)), .val (.long j12), .second, .val (.long j14), .second, .val (.long j16), .second, .val (.ref b14), .val (.ref b15), .unset] [(.int (1 : Int32))])) (fun t kt => ?_) ?_
    · show Steps p.tables e below (T18.setTop (mkF m 120 #[.val (.int i0), .val (.long j1), .second, .val (.long j3), .second, .val (.long j5), .second, .val (.long j7), .second, .val (.long j9), .second, .val (.int (1 : Int32)), .val (.long j12), .second, .val (.long j14), .second, .val (.long j16), .second, .val (.ref b14), .val (.ref b15), .unset] [])) _
      refine XS.iload X18.here hx rfl (hb hby at_120) rfl ?_
      exact kt
    refine own_step (T' := T18) (f' := (mkF m 125 #[.val (.int i0), .val (.long j1), .second, .val (.long j3), .second, .val (.long j5), .second, .val (.long j7), .second, .val (.long j9), .second, .val (.int (1 : Int32)), .val (.long j12), .second, .val (.long j14), .second, .val (.long j16), .second, .val (.ref b14), .val (.ref b15), .unset] [])) (fun t kt => ?_) ?_
    · show Steps p.tables e below (T18.setTop (mkF m 122 #[.val (.int i0), .val (.long j1), .second, .val (.long j3), .second, .val (.long j5), .second, .val (.long j7), .second, .val (.long j9), .second, .val (.int (1 : Int32)), .val (.long j12), .second, .val (.long j14), .second, .val (.long j16), .second, .val (.ref b14), .val (.ref b15), .unset] [(.int (1 : Int32))])) _
      refine XS.ifNo X18.here hx rfl (hb hby at_122) rfl ((if0 _ _).trans (tlt (by decide : ((0 : Int32) < (1 : Int32)))).2.2.2) kt
    refine own_step (T' := T18) (f' := (mkF m 129 #[.val (.int i0), .val (.long j1), .second, .val (.long j3), .second, .val (.long j5), .second, .val (.long j7), .second, .val (.long j9), .second, .val (.int (1 : Int32)), .val (.long j12), .second, .val (.long j14), .second, .val (.long j16), .second, .val (.ref b14), .val (.ref b15), .unset] [(.int (lcmpW j1 j12))])) (fun t kt => ?_) ?_
    · show Steps p.tables e below (T18.setTop (mkF m 125 #[.val (.int i0), .val (.long j1), .second, .val (.long j3), .second, .val (.long j5), .second, .val (.long j7), .second, .val (.long j9), .second, .val (.int (1 : Int32)), .val (.long j12), .second, .val (.long j14), .second, .val (.long j16), .second, .val (.ref b14), .val (.ref b15), .unset] [])) _
      refine XS.lloadN X18.here hx rfl (hb hby at_125) rfl ?_
      show Steps p.tables e below (T18.setTop (mkF m 126 #[.val (.int i0), .val (.long j1), .second, .val (.long j3), .second, .val (.long j5), .second, .val (.long j7), .second, .val (.long j9), .second, .val (.int (1 : Int32)), .val (.long j12), .second, .val (.long j14), .second, .val (.long j16), .second, .val (.ref b14), .val (.ref b15), .unset] [(.long j1)])) _
      refine XS.lload X18.here hx rfl (hb hby at_126) rfl ?_
      show Steps p.tables e below (T18.setTop (mkF m 128 #[.val (.int i0), .val (.long j1), .second, .val (.long j3), .second, .val (.long j5), .second, .val (.long j7), .second, .val (.long j9), .second, .val (.int (1 : Int32)), .val (.long j12), .second, .val (.long j14), .second, .val (.long j16), .second, .val (.ref b14), .val (.ref b15), .unset] [(.long j12), (.long j1)])) _
      refine XS.lcmp X18.here hx rfl (hb hby at_128) rfl ?_
      exact kt
    by_cases hc129_22 : j1 = j12
    · rw [if_pos hc129_22] at hr
      refine own_step (T' := T18) (f' := (mkF m 159 #[.val (.int i0), .val (.long j1), .second, .val (.long j3), .second, .val (.long j5), .second, .val (.long j7), .second, .val (.long j9), .second, .val (.int (1 : Int32)), .val (.long j12), .second, .val (.long j14), .second, .val (.long j16), .second, .val (.ref b14), .val (.ref b15), .unset] [])) (fun t kt => ?_) ?_
      · show Steps p.tables e below (T18.setTop (mkF m 129 #[.val (.int i0), .val (.long j1), .second, .val (.long j3), .second, .val (.long j5), .second, .val (.long j7), .second, .val (.long j9), .second, .val (.int (1 : Int32)), .val (.long j12), .second, .val (.long j14), .second, .val (.long j16), .second, .val (.ref b14), .val (.ref b15), .unset] [(.int (lcmpW j1 j12))])) _
        refine XS.ifYes X18.here hx rfl (pc0 := 129) (pc' := 159) rfl (hb hby at_129) rfl ((if0 _ _).trans (teq ((lw_eq _ _).mpr hc129_22)).1) (by decide) (by decide) kt
      refine own_step (T' := T18) (f' := (mkF m 170 #[.val (.int i0), .val (.long j1), .second, .val (.long j3), .second, .val (.long j5), .second, .val (.long j7), .second, .val (.long j9), .second, .val (.int (1 : Int32)), .val (.long j12), .second, .val (.long j14), .second, .val (.long j16), .second, .val (.ref b14), .val (.ref b15), .val (.int (1 : Int32))] [(.ref b15), (.ref b14)])) (fun t kt => ?_) ?_
      · show Steps p.tables e below (T18.setTop (mkF m 159 #[.val (.int i0), .val (.long j1), .second, .val (.long j3), .second, .val (.long j5), .second, .val (.long j7), .second, .val (.long j9), .second, .val (.int (1 : Int32)), .val (.long j12), .second, .val (.long j14), .second, .val (.long j16), .second, .val (.ref b14), .val (.ref b15), .unset] [])) _
        refine XS.iconst X18.here hx rfl (hb hby at_159) ?_
        show Steps p.tables e below (T18.setTop (mkF m 160 #[.val (.int i0), .val (.long j1), .second, .val (.long j3), .second, .val (.long j5), .second, .val (.long j7), .second, .val (.long j9), .second, .val (.int (1 : Int32)), .val (.long j12), .second, .val (.long j14), .second, .val (.long j16), .second, .val (.ref b14), .val (.ref b15), .unset] [(.int (1 : Int32))])) _
        refine XS.goto X18.here hx rfl (pc0 := 160) (pc' := 164) rfl (hb hby at_160) (by decide) (by decide) ?_
        show Steps p.tables e below (T18.setTop (mkF m 164 #[.val (.int i0), .val (.long j1), .second, .val (.long j3), .second, .val (.long j5), .second, .val (.long j7), .second, .val (.long j9), .second, .val (.int (1 : Int32)), .val (.long j12), .second, .val (.long j14), .second, .val (.long j16), .second, .val (.ref b14), .val (.ref b15), .unset] [(.int (1 : Int32))])) _
        refine XS.istore X18.here hx rfl (hb hby at_164) rfl (l' := #[.val (.int i0), .val (.long j1), .second, .val (.long j3), .second, .val (.long j5), .second, .val (.long j7), .second, .val (.long j9), .second, .val (.int (1 : Int32)), .val (.long j12), .second, .val (.long j14), .second, .val (.long j16), .second, .val (.ref b14), .val (.ref b15), .val (.int (1 : Int32))]) rfl ?_
        show Steps p.tables e below (T18.setTop (mkF m 166 #[.val (.int i0), .val (.long j1), .second, .val (.long j3), .second, .val (.long j5), .second, .val (.long j7), .second, .val (.long j9), .second, .val (.int (1 : Int32)), .val (.long j12), .second, .val (.long j14), .second, .val (.long j16), .second, .val (.ref b14), .val (.ref b15), .val (.int (1 : Int32))] [])) _
        refine XS.aload X18.here hx rfl (hb hby at_166) rfl rfl ?_
        show Steps p.tables e below (T18.setTop (mkF m 168 #[.val (.int i0), .val (.long j1), .second, .val (.long j3), .second, .val (.long j5), .second, .val (.long j7), .second, .val (.long j9), .second, .val (.int (1 : Int32)), .val (.long j12), .second, .val (.long j14), .second, .val (.long j16), .second, .val (.ref b14), .val (.ref b15), .val (.int (1 : Int32))] [(.ref b14)])) _
        refine XS.aload X18.here hx rfl (hb hby at_168) rfl rfl ?_
        exact kt
      obtain ⟨_, _, ⟨T23, L23, k23, n23⟩, -, X23, ⟨Lc23, hQ23, l23, y23, z23⟩, st23⟩ := Jvm.LawKit.callS X18 hx (y := (⟨"com/example/nearsame/nearsame/Banding", "agree", "([J[J)Z"⟩ : MethodName)) hown (mvT hZ (hw _ (List.mem_of_getElem? (i := 1) rfl))) (mvT hZ (hw _ (List.mem_of_getElem? (i := 2) rfl))) (mvT hZ (hw _ (List.mem_of_getElem? (i := 3) rfl))) (mvT hZ (hw _ (List.mem_of_getElem? (i := 4) rfl))) (by decide) (backOf (W := 0) (rm1n1 l Z a0 hw [] b14 b15 j1 j12 h18 n0 Ab14_18 Ab15_18) hZ (hw _ (List.mem_of_getElem? (i := 4) rfl)) (hw _ (List.mem_of_getElem? (i := 3) rfl)) (by decide) (by decide)) (g := (mkF m 170 #[.val (.int i0), .val (.long j1), .second, .val (.long j3), .second, .val (.long j5), .second, .val (.long j7), .second, .val (.long j9), .second, .val (.int (1 : Int32)), .val (.long j12), .second, .val (.long j14), .second, .val (.long j16), .second, .val (.ref b14), .val (.ref b15), .val (.int (1 : Int32))] [(.ref b15), (.ref b14)])) rfl (by rw [hml]; rfl) (argsL := [(.ref b14), (.ref b15)]) (rest := []) (lenOf pd1 rfl) rfl (by show 2 * 0 + _ ≤ _; exact Nat.le_of_eq rfl) (hb hby at_170) (fun _ _ => ⟨rfl, e18, (by decide : 2 + 0 ≤ _), (by decide : 2 + 0 ≤ _)⟩)
      dsimp only [Pt.U, Pt.locs, Pt.cells, Pt.slots] at X23 l23 y23 z23 st23 hQ23
      subst l23 y23 z23
      obtain ⟨rfl, Nq23, e23⟩ := hQ23
      have N23 := Fr.app N18 Nq23
      refine own_step (T' := T23) (f' := (mkF m 173 #[.val (.int i0), .val (.long j1), .second, .val (.long j3), .second, .val (.long j5), .second, .val (.long j7), .second, .val (.long j9), .second, .val (.int (1 : Int32)), .val (.long j12), .second, .val (.long j14), .second, .val (.long j16), .second, .val (.ref b14), .val (.ref b15), .val (.int (1 : Int32))] [(.int (f1n1_0 j1 j12))])) st23 ?_
      refine own_step (T' := T23) (f' := (mkF m 175 #[.val (.int i0), .val (.long j1), .second, .val (.long j3), .second, .val (.long j5), .second, .val (.long j7), .second, .val (.long j9), .second, .val (.int (1 : Int32)), .val (.long j12), .second, .val (.long j14), .second, .val (.long j16), .second, .val (.ref b14), .val (.ref b15), .val (.int (1 : Int32))] [(.int (1 : Int32)), (.int (f1n1_0 j1 j12))])) (fun t kt => ?_) ?_
      · show Steps p.tables e below (T23.setTop (mkF m 173 #[.val (.int i0), .val (.long j1), .second, .val (.long j3), .second, .val (.long j5), .second, .val (.long j7), .second, .val (.long j9), .second, .val (.int (1 : Int32)), .val (.long j12), .second, .val (.long j14), .second, .val (.long j16), .second, .val (.ref b14), .val (.ref b15), .val (.int (1 : Int32))] [(.int (f1n1_0 j1 j12))])) _
        refine XS.iload X23.here hx rfl (hb hby at_173) rfl ?_
        exact kt
      by_cases hc175_24 : (f1n1_0 j1 j12) = (1 : Int32)
      · rw [if_pos hc175_24] at hr
        refine own_step (T' := T23) (f' := (mkF m 178 #[.val (.int i0), .val (.long j1), .second, .val (.long j3), .second, .val (.long j5), .second, .val (.long j7), .second, .val (.long j9), .second, .val (.int (1 : Int32)), .val (.long j12), .second, .val (.long j14), .second, .val (.long j16), .second, .val (.ref b14), .val (.ref b15), .val (.int (1 : Int32))] [])) (fun t kt => ?_) ?_
        · show Steps p.tables e below (T23.setTop (mkF m 175 #[.val (.int i0), .val (.long j1), .second, .val (.long j3), .second, .val (.long j5), .second, .val (.long j7), .second, .val (.long j9), .second, .val (.int (1 : Int32)), .val (.long j12), .second, .val (.long j14), .second, .val (.long j16), .second, .val (.ref b14), .val (.ref b15), .val (.int (1 : Int32))] [(.int (1 : Int32)), (.int (f1n1_0 j1 j12))])) _
          refine XS.icmpNo X23.here hx rfl (hb hby at_175) rfl (teq hc175_24).2 kt
        refine own_step (T' := T23) (f' := (mkF m 183 #[.val (.int i0), .val (.long j1), .second, .val (.long j3), .second, .val (.long j5), .second, .val (.long j7), .second, .val (.long j9), .second, .val (.int (1 : Int32)), .val (.long j12), .second, .val (.long j14), .second, .val (.long j16), .second, .val (.ref b14), .val (.ref b15), .val (.int (1 : Int32))] [(.int (1 : Int32))])) (fun t kt => ?_) ?_
        · show Steps p.tables e below (T23.setTop (mkF m 178 #[.val (.int i0), .val (.long j1), .second, .val (.long j3), .second, .val (.long j5), .second, .val (.long j7), .second, .val (.long j9), .second, .val (.int (1 : Int32)), .val (.long j12), .second, .val (.long j14), .second, .val (.long j16), .second, .val (.ref b14), .val (.ref b15), .val (.int (1 : Int32))] [])) _
          refine XS.iconst X23.here hx rfl (hb hby at_178) ?_
          show Steps p.tables e below (T23.setTop (mkF m 179 #[.val (.int i0), .val (.long j1), .second, .val (.long j3), .second, .val (.long j5), .second, .val (.long j7), .second, .val (.long j9), .second, .val (.int (1 : Int32)), .val (.long j12), .second, .val (.long j14), .second, .val (.long j16), .second, .val (.ref b14), .val (.ref b15), .val (.int (1 : Int32))] [(.int (1 : Int32))])) _
          refine XS.goto X23.here hx rfl (pc0 := 179) (pc' := 183) rfl (hb hby at_179) (by decide) (by decide) ?_
          exact kt
        exact own_retZ X23 hx hret (by simp) hlk (hb hby at_183) (by decide) (by decide) ⟨congrArg (fun z => some (Value.int z)) hr.symm, N23⟩
      · rw [if_neg hc175_24] at hr
        refine own_step (T' := T23) (f' := (mkF m 182 #[.val (.int i0), .val (.long j1), .second, .val (.long j3), .second, .val (.long j5), .second, .val (.long j7), .second, .val (.long j9), .second, .val (.int (1 : Int32)), .val (.long j12), .second, .val (.long j14), .second, .val (.long j16), .second, .val (.ref b14), .val (.ref b15), .val (.int (1 : Int32))] [])) (fun t kt => ?_) ?_
        · show Steps p.tables e below (T23.setTop (mkF m 175 #[.val (.int i0), .val (.long j1), .second, .val (.long j3), .second, .val (.long j5), .second, .val (.long j7), .second, .val (.long j9), .second, .val (.int (1 : Int32)), .val (.long j12), .second, .val (.long j14), .second, .val (.long j16), .second, .val (.ref b14), .val (.ref b15), .val (.int (1 : Int32))] [(.int (1 : Int32)), (.int (f1n1_0 j1 j12))])) _
          refine XS.icmpYes X23.here hx rfl (pc0 := 175) (pc' := 182) rfl (hb hby at_175) rfl (feq hc175_24).2 (by decide) (by decide) kt
        refine own_step (T' := T23) (f' := (mkF m 183 #[.val (.int i0), .val (.long j1), .second, .val (.long j3), .second, .val (.long j5), .second, .val (.long j7), .second, .val (.long j9), .second, .val (.int (1 : Int32)), .val (.long j12), .second, .val (.long j14), .second, .val (.long j16), .second, .val (.ref b14), .val (.ref b15), .val (.int (1 : Int32))] [(.int (0 : Int32))])) (fun t kt => ?_) ?_
        · show Steps p.tables e below (T23.setTop (mkF m 182 #[.val (.int i0), .val (.long j1), .second, .val (.long j3), .second, .val (.long j5), .second, .val (.long j7), .second, .val (.long j9), .second, .val (.int (1 : Int32)), .val (.long j12), .second, .val (.long j14), .second, .val (.long j16), .second, .val (.ref b14), .val (.ref b15), .val (.int (1 : Int32))] [])) _
          refine XS.iconst X23.here hx rfl (hb hby at_182) ?_
          exact kt
        exact own_retZ X23 hx hret (by simp) hlk (hb hby at_183) (by decide) (by decide) ⟨congrArg (fun z => some (Value.int z)) hr.symm, N23⟩
    · rw [if_neg hc129_22] at hr
      refine own_step (T' := T18) (f' := (mkF m 132 #[.val (.int i0), .val (.long j1), .second, .val (.long j3), .second, .val (.long j5), .second, .val (.long j7), .second, .val (.long j9), .second, .val (.int (1 : Int32)), .val (.long j12), .second, .val (.long j14), .second, .val (.long j16), .second, .val (.ref b14), .val (.ref b15), .unset] [])) (fun t kt => ?_) ?_
      · show Steps p.tables e below (T18.setTop (mkF m 129 #[.val (.int i0), .val (.long j1), .second, .val (.long j3), .second, .val (.long j5), .second, .val (.long j7), .second, .val (.long j9), .second, .val (.int (1 : Int32)), .val (.long j12), .second, .val (.long j14), .second, .val (.long j16), .second, .val (.ref b14), .val (.ref b15), .unset] [(.int (lcmpW j1 j12))])) _
        refine XS.ifNo X18.here hx rfl (hb hby at_129) rfl ((if0 _ _).trans (feq (mt (lw_eq _ _).mp hc129_22)).1) kt
      refine own_step (T' := T18) (f' := (mkF m 135 #[.val (.int i0), .val (.long j1), .second, .val (.long j3), .second, .val (.long j5), .second, .val (.long j7), .second, .val (.long j9), .second, .val (.int (1 : Int32)), .val (.long j12), .second, .val (.long j14), .second, .val (.long j16), .second, .val (.ref b14), .val (.ref b15), .unset] [(.int (1 : Int32)), (.int (1 : Int32))])) (fun t kt => ?_) ?_
      · show Steps p.tables e below (T18.setTop (mkF m 132 #[.val (.int i0), .val (.long j1), .second, .val (.long j3), .second, .val (.long j5), .second, .val (.long j7), .second, .val (.long j9), .second, .val (.int (1 : Int32)), .val (.long j12), .second, .val (.long j14), .second, .val (.long j16), .second, .val (.ref b14), .val (.ref b15), .unset] [])) _
        refine XS.iload X18.here hx rfl (hb hby at_132) rfl ?_
        show Steps p.tables e below (T18.setTop (mkF m 134 #[.val (.int i0), .val (.long j1), .second, .val (.long j3), .second, .val (.long j5), .second, .val (.long j7), .second, .val (.long j9), .second, .val (.int (1 : Int32)), .val (.long j12), .second, .val (.long j14), .second, .val (.long j16), .second, .val (.ref b14), .val (.ref b15), .unset] [(.int (1 : Int32))])) _
        refine XS.iconst X18.here hx rfl (hb hby at_134) ?_
        exact kt
      refine own_step (T' := T18) (f' := (mkF m 145 #[.val (.int i0), .val (.long j1), .second, .val (.long j3), .second, .val (.long j5), .second, .val (.long j7), .second, .val (.long j9), .second, .val (.int (1 : Int32)), .val (.long j12), .second, .val (.long j14), .second, .val (.long j16), .second, .val (.ref b14), .val (.ref b15), .unset] [])) (fun t kt => ?_) ?_
      · show Steps p.tables e below (T18.setTop (mkF m 135 #[.val (.int i0), .val (.long j1), .second, .val (.long j3), .second, .val (.long j5), .second, .val (.long j7), .second, .val (.long j9), .second, .val (.int (1 : Int32)), .val (.long j12), .second, .val (.long j14), .second, .val (.long j16), .second, .val (.ref b14), .val (.ref b15), .unset] [(.int (1 : Int32)), (.int (1 : Int32))])) _
        refine XS.icmpYes X18.here hx rfl (pc0 := 135) (pc' := 145) rfl (hb hby at_135) rfl (flt (by decide : ¬ ((1 : Int32) < (1 : Int32)))).2.2.2 (by decide) (by decide) kt
      refine own_step (T' := T18) (f' := (mkF m 148 #[.val (.int i0), .val (.long j1), .second, .val (.long j3), .second, .val (.long j5), .second, .val (.long j7), .second, .val (.long j9), .second, .val (.int (1 : Int32)), .val (.long j12), .second, .val (.long j14), .second, .val (.long j16), .second, .val (.ref b14), .val (.ref b15), .unset] [(.int (2 : Int32)), (.int (1 : Int32))])) (fun t kt => ?_) ?_
      · show Steps p.tables e below (T18.setTop (mkF m 145 #[.val (.int i0), .val (.long j1), .second, .val (.long j3), .second, .val (.long j5), .second, .val (.long j7), .second, .val (.long j9), .second, .val (.int (1 : Int32)), .val (.long j12), .second, .val (.long j14), .second, .val (.long j16), .second, .val (.ref b14), .val (.ref b15), .unset] [])) _
        refine XS.iload X18.here hx rfl (hb hby at_145) rfl ?_
        show Steps p.tables e below (T18.setTop (mkF m 147 #[.val (.int i0), .val (.long j1), .second, .val (.long j3), .second, .val (.long j5), .second, .val (.long j7), .second, .val (.long j9), .second, .val (.int (1 : Int32)), .val (.long j12), .second, .val (.long j14), .second, .val (.long j16), .second, .val (.ref b14), .val (.ref b15), .unset] [(.int (1 : Int32))])) _
        refine XS.iconst X18.here hx rfl (hb hby at_147) ?_
        exact kt
      refine own_step (T' := T18) (f' := (mkF m 163 #[.val (.int i0), .val (.long j1), .second, .val (.long j3), .second, .val (.long j5), .second, .val (.long j7), .second, .val (.long j9), .second, .val (.int (1 : Int32)), .val (.long j12), .second, .val (.long j14), .second, .val (.long j16), .second, .val (.ref b14), .val (.ref b15), .unset] [])) (fun t kt => ?_) ?_
      · show Steps p.tables e below (T18.setTop (mkF m 148 #[.val (.int i0), .val (.long j1), .second, .val (.long j3), .second, .val (.long j5), .second, .val (.long j7), .second, .val (.long j9), .second, .val (.int (1 : Int32)), .val (.long j12), .second, .val (.long j14), .second, .val (.long j16), .second, .val (.ref b14), .val (.ref b15), .unset] [(.int (2 : Int32)), (.int (1 : Int32))])) _
        refine XS.icmpYes X18.here hx rfl (pc0 := 148) (pc' := 163) rfl (hb hby at_148) rfl (flt (by decide : ¬ ((2 : Int32) < (1 : Int32)))).2.2.2 (by decide) (by decide) kt
      refine own_step (T' := T18) (f' := (mkF m 170 #[.val (.int i0), .val (.long j1), .second, .val (.long j3), .second, .val (.long j5), .second, .val (.long j7), .second, .val (.long j9), .second, .val (.int (1 : Int32)), .val (.long j12), .second, .val (.long j14), .second, .val (.long j16), .second, .val (.ref b14), .val (.ref b15), .val (.int (0 : Int32))] [(.ref b15), (.ref b14)])) (fun t kt => ?_) ?_
      · show Steps p.tables e below (T18.setTop (mkF m 163 #[.val (.int i0), .val (.long j1), .second, .val (.long j3), .second, .val (.long j5), .second, .val (.long j7), .second, .val (.long j9), .second, .val (.int (1 : Int32)), .val (.long j12), .second, .val (.long j14), .second, .val (.long j16), .second, .val (.ref b14), .val (.ref b15), .unset] [])) _
        refine XS.iconst X18.here hx rfl (hb hby at_163) ?_
        show Steps p.tables e below (T18.setTop (mkF m 164 #[.val (.int i0), .val (.long j1), .second, .val (.long j3), .second, .val (.long j5), .second, .val (.long j7), .second, .val (.long j9), .second, .val (.int (1 : Int32)), .val (.long j12), .second, .val (.long j14), .second, .val (.long j16), .second, .val (.ref b14), .val (.ref b15), .unset] [(.int (0 : Int32))])) _
        refine XS.istore X18.here hx rfl (hb hby at_164) rfl (l' := #[.val (.int i0), .val (.long j1), .second, .val (.long j3), .second, .val (.long j5), .second, .val (.long j7), .second, .val (.long j9), .second, .val (.int (1 : Int32)), .val (.long j12), .second, .val (.long j14), .second, .val (.long j16), .second, .val (.ref b14), .val (.ref b15), .val (.int (0 : Int32))]) rfl ?_
        show Steps p.tables e below (T18.setTop (mkF m 166 #[.val (.int i0), .val (.long j1), .second, .val (.long j3), .second, .val (.long j5), .second, .val (.long j7), .second, .val (.long j9), .second, .val (.int (1 : Int32)), .val (.long j12), .second, .val (.long j14), .second, .val (.long j16), .second, .val (.ref b14), .val (.ref b15), .val (.int (0 : Int32))] [])) _
        refine XS.aload X18.here hx rfl (hb hby at_166) rfl rfl ?_
        show Steps p.tables e below (T18.setTop (mkF m 168 #[.val (.int i0), .val (.long j1), .second, .val (.long j3), .second, .val (.long j5), .second, .val (.long j7), .second, .val (.long j9), .second, .val (.int (1 : Int32)), .val (.long j12), .second, .val (.long j14), .second, .val (.long j16), .second, .val (.ref b14), .val (.ref b15), .val (.int (0 : Int32))] [(.ref b14)])) _
        refine XS.aload X18.here hx rfl (hb hby at_168) rfl rfl ?_
        exact kt
      obtain ⟨_, _, ⟨T27, L27, k27, n27⟩, -, X27, ⟨Lc27, hQ27, l27, y27, z27⟩, st27⟩ := Jvm.LawKit.callS X18 hx (y := (⟨"com/example/nearsame/nearsame/Banding", "agree", "([J[J)Z"⟩ : MethodName)) hown (mvT hZ (hw _ (List.mem_of_getElem? (i := 1) rfl))) (mvT hZ (hw _ (List.mem_of_getElem? (i := 2) rfl))) (mvT hZ (hw _ (List.mem_of_getElem? (i := 3) rfl))) (mvT hZ (hw _ (List.mem_of_getElem? (i := 4) rfl))) (by decide) (backOf (W := 0) (rm1n1 l Z a0 hw [] b14 b15 j1 j12 h18 n0 Ab14_18 Ab15_18) hZ (hw _ (List.mem_of_getElem? (i := 4) rfl)) (hw _ (List.mem_of_getElem? (i := 3) rfl)) (by decide) (by decide)) (g := (mkF m 170 #[.val (.int i0), .val (.long j1), .second, .val (.long j3), .second, .val (.long j5), .second, .val (.long j7), .second, .val (.long j9), .second, .val (.int (1 : Int32)), .val (.long j12), .second, .val (.long j14), .second, .val (.long j16), .second, .val (.ref b14), .val (.ref b15), .val (.int (0 : Int32))] [(.ref b15), (.ref b14)])) rfl (by rw [hml]; rfl) (argsL := [(.ref b14), (.ref b15)]) (rest := []) (lenOf pd1 rfl) rfl (by show 2 * 0 + _ ≤ _; exact Nat.le_of_eq rfl) (hb hby at_170) (fun _ _ => ⟨rfl, e18, (by decide : 2 + 0 ≤ _), (by decide : 2 + 0 ≤ _)⟩)
      dsimp only [Pt.U, Pt.locs, Pt.cells, Pt.slots] at X27 l27 y27 z27 st27 hQ27
      subst l27 y27 z27
      obtain ⟨rfl, Nq27, e27⟩ := hQ27
      have N27 := Fr.app N18 Nq27
      refine own_step (T' := T27) (f' := (mkF m 173 #[.val (.int i0), .val (.long j1), .second, .val (.long j3), .second, .val (.long j5), .second, .val (.long j7), .second, .val (.long j9), .second, .val (.int (1 : Int32)), .val (.long j12), .second, .val (.long j14), .second, .val (.long j16), .second, .val (.ref b14), .val (.ref b15), .val (.int (0 : Int32))] [(.int (f1n1_0 j1 j12))])) st27 ?_
      refine own_step (T' := T27) (f' := (mkF m 175 #[.val (.int i0), .val (.long j1), .second, .val (.long j3), .second, .val (.long j5), .second, .val (.long j7), .second, .val (.long j9), .second, .val (.int (1 : Int32)), .val (.long j12), .second, .val (.long j14), .second, .val (.long j16), .second, .val (.ref b14), .val (.ref b15), .val (.int (0 : Int32))] [(.int (0 : Int32)), (.int (f1n1_0 j1 j12))])) (fun t kt => ?_) ?_
      · show Steps p.tables e below (T27.setTop (mkF m 173 #[.val (.int i0), .val (.long j1), .second, .val (.long j3), .second, .val (.long j5), .second, .val (.long j7), .second, .val (.long j9), .second, .val (.int (1 : Int32)), .val (.long j12), .second, .val (.long j14), .second, .val (.long j16), .second, .val (.ref b14), .val (.ref b15), .val (.int (0 : Int32))] [(.int (f1n1_0 j1 j12))])) _
        refine XS.iload X27.here hx rfl (hb hby at_173) rfl ?_
        exact kt
      by_cases hc175_28 : (f1n1_0 j1 j12) = (0 : Int32)
      · rw [if_pos hc175_28] at hr
        refine own_step (T' := T27) (f' := (mkF m 178 #[.val (.int i0), .val (.long j1), .second, .val (.long j3), .second, .val (.long j5), .second, .val (.long j7), .second, .val (.long j9), .second, .val (.int (1 : Int32)), .val (.long j12), .second, .val (.long j14), .second, .val (.long j16), .second, .val (.ref b14), .val (.ref b15), .val (.int (0 : Int32))] [])) (fun t kt => ?_) ?_
        · show Steps p.tables e below (T27.setTop (mkF m 175 #[.val (.int i0), .val (.long j1), .second, .val (.long j3), .second, .val (.long j5), .second, .val (.long j7), .second, .val (.long j9), .second, .val (.int (1 : Int32)), .val (.long j12), .second, .val (.long j14), .second, .val (.long j16), .second, .val (.ref b14), .val (.ref b15), .val (.int (0 : Int32))] [(.int (0 : Int32)), (.int (f1n1_0 j1 j12))])) _
          refine XS.icmpNo X27.here hx rfl (hb hby at_175) rfl (teq hc175_28).2 kt
        refine own_step (T' := T27) (f' := (mkF m 183 #[.val (.int i0), .val (.long j1), .second, .val (.long j3), .second, .val (.long j5), .second, .val (.long j7), .second, .val (.long j9), .second, .val (.int (1 : Int32)), .val (.long j12), .second, .val (.long j14), .second, .val (.long j16), .second, .val (.ref b14), .val (.ref b15), .val (.int (0 : Int32))] [(.int (1 : Int32))])) (fun t kt => ?_) ?_
        · show Steps p.tables e below (T27.setTop (mkF m 178 #[.val (.int i0), .val (.long j1), .second, .val (.long j3), .second, .val (.long j5), .second, .val (.long j7), .second, .val (.long j9), .second, .val (.int (1 : Int32)), .val (.long j12), .second, .val (.long j14), .second, .val (.long j16), .second, .val (.ref b14), .val (.ref b15), .val (.int (0 : Int32))] [])) _
          refine XS.iconst X27.here hx rfl (hb hby at_178) ?_
          show Steps p.tables e below (T27.setTop (mkF m 179 #[.val (.int i0), .val (.long j1), .second, .val (.long j3), .second, .val (.long j5), .second, .val (.long j7), .second, .val (.long j9), .second, .val (.int (1 : Int32)), .val (.long j12), .second, .val (.long j14), .second, .val (.long j16), .second, .val (.ref b14), .val (.ref b15), .val (.int (0 : Int32))] [(.int (1 : Int32))])) _
          refine XS.goto X27.here hx rfl (pc0 := 179) (pc' := 183) rfl (hb hby at_179) (by decide) (by decide) ?_
          exact kt
        exact own_retZ X27 hx hret (by simp) hlk (hb hby at_183) (by decide) (by decide) ⟨congrArg (fun z => some (Value.int z)) hr.symm, N27⟩
      · rw [if_neg hc175_28] at hr
        refine own_step (T' := T27) (f' := (mkF m 182 #[.val (.int i0), .val (.long j1), .second, .val (.long j3), .second, .val (.long j5), .second, .val (.long j7), .second, .val (.long j9), .second, .val (.int (1 : Int32)), .val (.long j12), .second, .val (.long j14), .second, .val (.long j16), .second, .val (.ref b14), .val (.ref b15), .val (.int (0 : Int32))] [])) (fun t kt => ?_) ?_
        · show Steps p.tables e below (T27.setTop (mkF m 175 #[.val (.int i0), .val (.long j1), .second, .val (.long j3), .second, .val (.long j5), .second, .val (.long j7), .second, .val (.long j9), .second, .val (.int (1 : Int32)), .val (.long j12), .second, .val (.long j14), .second, .val (.long j16), .second, .val (.ref b14), .val (.ref b15), .val (.int (0 : Int32))] [(.int (0 : Int32)), (.int (f1n1_0 j1 j12))])) _
          refine XS.icmpYes X27.here hx rfl (pc0 := 175) (pc' := 182) rfl (hb hby at_175) rfl (feq hc175_28).2 (by decide) (by decide) kt
        refine own_step (T' := T27) (f' := (mkF m 183 #[.val (.int i0), .val (.long j1), .second, .val (.long j3), .second, .val (.long j5), .second, .val (.long j7), .second, .val (.long j9), .second, .val (.int (1 : Int32)), .val (.long j12), .second, .val (.long j14), .second, .val (.long j16), .second, .val (.ref b14), .val (.ref b15), .val (.int (0 : Int32))] [(.int (0 : Int32))])) (fun t kt => ?_) ?_
        · show Steps p.tables e below (T27.setTop (mkF m 182 #[.val (.int i0), .val (.long j1), .second, .val (.long j3), .second, .val (.long j5), .second, .val (.long j7), .second, .val (.long j9), .second, .val (.int (1 : Int32)), .val (.long j12), .second, .val (.long j14), .second, .val (.long j16), .second, .val (.ref b14), .val (.ref b15), .val (.int (0 : Int32))] [])) _
          refine XS.iconst X27.here hx rfl (hb hby at_182) ?_
          exact kt
        exact own_retZ X27 hx hret (by simp) hlk (hb hby at_183) (by decide) (by decide) ⟨congrArg (fun z => some (Value.int z)) hr.symm, N27⟩
  · rw [if_neg (by decide), if_neg (by decide), if_pos rfl] at hr
    refine own_step (T' := T0) (f' := (mkF m 59 #[.val (.int i0), .val (.long j1), .second, .val (.long j3), .second, .val (.long j5), .second, .val (.long j7), .second, .val (.long j9), .second, .val (.int (2 : Int32)), .val (.long j12), .second, .val (.long j14), .second, .val (.long j16), .second, .unset, .unset, .unset] [(.int (2 : Int32))])) (fun t kt => ?_) ?_
    · show Steps p.tables e below (T0.setTop (mkF m 57 #[.val (.int i0), .val (.long j1), .second, .val (.long j3), .second, .val (.long j5), .second, .val (.long j7), .second, .val (.long j9), .second, .val (.int (2 : Int32)), .val (.long j12), .second, .val (.long j14), .second, .val (.long j16), .second, .unset, .unset, .unset] [])) _
      refine XS.iload X0.here hx rfl (hb hby at_57) rfl ?_
      exact kt
    obtain ⟨T29, h29, b29, X29, e29, Ex29, gb29, g29, Z29, Aq29, st29⟩ := own_new X0 hx hZ (aty := .long) (hw _ (List.mem_of_getElem? (i := 0) rfl)) e0 (g := (mkF m 59 #[.val (.int i0), .val (.long j1), .second, .val (.long j3), .second, .val (.long j5), .second, .val (.long j7), .second, .val (.long j9), .second, .val (.int (2 : Int32)), .val (.long j12), .second, .val (.long j14), .second, .val (.long j16), .second, .unset, .unset, .unset] [(.int (2 : Int32))])) rfl (hb hby at_59) rfl (by decide) (k := 2) (by decide) (by decide) (by decide) (by decide) Z0
    have Ab29_29 : own_A Z h29 b29 .long [(.long (0 : Int64)), (.long (0 : Int64))] := Aq29
    refine own_step (T' := T29) (f' := (mkF m 61 #[.val (.int i0), .val (.long j1), .second, .val (.long j3), .second, .val (.long j5), .second, .val (.long j7), .second, .val (.long j9), .second, .val (.int (2 : Int32)), .val (.long j12), .second, .val (.long j14), .second, .val (.long j16), .second, .unset, .unset, .unset] [(.ref b29)])) st29 ?_
    refine own_step (T' := T29) (f' := (mkF m 65 #[.val (.int i0), .val (.long j1), .second, .val (.long j3), .second, .val (.long j5), .second, .val (.long j7), .second, .val (.long j9), .second, .val (.int (2 : Int32)), .val (.long j12), .second, .val (.long j14), .second, .val (.long j16), .second, .val (.ref b29), .unset, .unset] [(.int (2 : Int32))])) (fun t kt => ?_) ?_
    · show Steps p.tables e below (T29.setTop (mkF m 61 #[.val (.int i0), .val (.long j1), .second, .val (.long j3), .second, .val (.long j5), .second, .val (.long j7), .second, .val (.long j9), .second, .val (.int (2 : Int32)), .val (.long j12), .second, .val (.long j14), .second, .val (.long j16), .second, .unset, .unset, .unset] [(.ref b29)])) _
      refine XS.astore X29.here hx rfl (hb hby at_61) rfl rfl (l' := #[.val (.int i0), .val (.long j1), .second, .val (.long j3), .second, .val (.long j5), .second, .val (.long j7), .second, .val (.long j9), .second, .val (.int (2 : Int32)), .val (.long j12), .second, .val (.long j14), .second, .val (.long j16), .second, .val (.ref b29), .unset, .unset]) rfl ?_
      show Steps p.tables e below (T29.setTop (mkF m 63 #[.val (.int i0), .val (.long j1), .second, .val (.long j3), .second, .val (.long j5), .second, .val (.long j7), .second, .val (.long j9), .second, .val (.int (2 : Int32)), .val (.long j12), .second, .val (.long j14), .second, .val (.long j16), .second, .val (.ref b29), .unset, .unset] [])) _
      refine XS.iload X29.here hx rfl (hb hby at_63) rfl ?_
      exact kt
    obtain ⟨T30, h30, b30, X30, e30, Ex30, gb30, g30, Z30, Aq30, st30⟩ := own_new X29 hx hZ (aty := .long) (hw _ (List.mem_of_getElem? (i := 0) rfl)) e29 (g := (mkF m 65 #[.val (.int i0), .val (.long j1), .second, .val (.long j3), .second, .val (.long j5), .second, .val (.long j7), .second, .val (.long j9), .second, .val (.int (2 : Int32)), .val (.long j12), .second, .val (.long j14), .second, .val (.long j16), .second, .val (.ref b29), .unset, .unset] [(.int (2 : Int32))])) rfl (hb hby at_65) rfl (by decide) (k := 2) (by decide) (by decide) (by decide) (by decide) Z29
    have ne_b29_b30 : b29 ≠ b30 := Nat.ne_of_lt (gb30 ▸ Ab29_29.lt)
    have Ab29_30 := Ab29_29.ext Ex30
    have Ab30_30 : own_A Z h30 b30 .long [(.long (0 : Int64)), (.long (0 : Int64))] := Aq30
    refine own_step (T' := T30) (f' := (mkF m 67 #[.val (.int i0), .val (.long j1), .second, .val (.long j3), .second, .val (.long j5), .second, .val (.long j7), .second, .val (.long j9), .second, .val (.int (2 : Int32)), .val (.long j12), .second, .val (.long j14), .second, .val (.long j16), .second, .val (.ref b29), .unset, .unset] [(.ref b30)])) st30 ?_
    refine own_step (T' := T30) (f' := (mkF m 71 #[.val (.int i0), .val (.long j1), .second, .val (.long j3), .second, .val (.long j5), .second, .val (.long j7), .second, .val (.long j9), .second, .val (.int (2 : Int32)), .val (.long j12), .second, .val (.long j14), .second, .val (.long j16), .second, .val (.ref b29), .val (.ref b30), .unset] [(.int (2 : Int32))])) (fun t kt => ?_) ?_
    · show Steps p.tables e below (T30.setTop (mkF m 67 #[.val (.int i0), .val (.long j1), .second, .val (.long j3), .second, .val (.long j5), .second, .val (.long j7), .second, .val (.long j9), .second, .val (.int (2 : Int32)), .val (.long j12), .second, .val (.long j14), .second, .val (.long j16), .second, .val (.ref b29), .unset, .unset] [(.ref b30)])) _
      refine XS.astore X30.here hx rfl (hb hby at_67) rfl rfl (l' := #[.val (.int i0), .val (.long j1), .second, .val (.long j3), .second, .val (.long j5), .second, .val (.long j7), .second, .val (.long j9), .second, .val (.int (2 : Int32)), .val (.long j12), .second, .val (.long j14), .second, .val (.long j16), .second, .val (.ref b29), .val (.ref b30), .unset]) rfl ?_
      show Steps p.tables e below (T30.setTop (mkF m 69 #[.val (.int i0), .val (.long j1), .second, .val (.long j3), .second, .val (.long j5), .second, .val (.long j7), .second, .val (.long j9), .second, .val (.int (2 : Int32)), .val (.long j12), .second, .val (.long j14), .second, .val (.long j16), .second, .val (.ref b29), .val (.ref b30), .unset] [])) _
      refine XS.iload X30.here hx rfl (hb hby at_69) rfl ?_
      exact kt
    refine own_step (T' := T30) (f' := (mkF m 74 #[.val (.int i0), .val (.long j1), .second, .val (.long j3), .second, .val (.long j5), .second, .val (.long j7), .second, .val (.long j9), .second, .val (.int (2 : Int32)), .val (.long j12), .second, .val (.long j14), .second, .val (.long j16), .second, .val (.ref b29), .val (.ref b30), .unset] [])) (fun t kt => ?_) ?_
    · show Steps p.tables e below (T30.setTop (mkF m 71 #[.val (.int i0), .val (.long j1), .second, .val (.long j3), .second, .val (.long j5), .second, .val (.long j7), .second, .val (.long j9), .second, .val (.int (2 : Int32)), .val (.long j12), .second, .val (.long j14), .second, .val (.long j16), .second, .val (.ref b29), .val (.ref b30), .unset] [(.int (2 : Int32))])) _
      refine XS.ifNo X30.here hx rfl (hb hby at_71) rfl ((if0 _ _).trans (tlt (by decide : ((0 : Int32) < (2 : Int32)))).2.2.2) kt
    refine own_step (T' := T30) (f' := (mkF m 78 #[.val (.int i0), .val (.long j1), .second, .val (.long j3), .second, .val (.long j5), .second, .val (.long j7), .second, .val (.long j9), .second, .val (.int (2 : Int32)), .val (.long j12), .second, .val (.long j14), .second, .val (.long j16), .second, .val (.ref b29), .val (.ref b30), .unset] [(.long j1), (.int (0 : Int32)), (.ref b29)])) (fun t kt => ?_) ?_
    · show Steps p.tables e below (T30.setTop (mkF m 74 #[.val (.int i0), .val (.long j1), .second, .val (.long j3), .second, .val (.long j5), .second, .val (.long j7), .second, .val (.long j9), .second, .val (.int (2 : Int32)), .val (.long j12), .second, .val (.long j14), .second, .val (.long j16), .second, .val (.ref b29), .val (.ref b30), .unset] [])) _
      refine XS.aload X30.here hx rfl (hb hby at_74) rfl rfl ?_
      show Steps p.tables e below (T30.setTop (mkF m 76 #[.val (.int i0), .val (.long j1), .second, .val (.long j3), .second, .val (.long j5), .second, .val (.long j7), .second, .val (.long j9), .second, .val (.int (2 : Int32)), .val (.long j12), .second, .val (.long j14), .second, .val (.long j16), .second, .val (.ref b29), .val (.ref b30), .unset] [(.ref b29)])) _
      refine XS.iconst X30.here hx rfl (hb hby at_76) ?_
      show Steps p.tables e below (T30.setTop (mkF m 77 #[.val (.int i0), .val (.long j1), .second, .val (.long j3), .second, .val (.long j5), .second, .val (.long j7), .second, .val (.long j9), .second, .val (.int (2 : Int32)), .val (.long j12), .second, .val (.long j14), .second, .val (.long j16), .second, .val (.ref b29), .val (.ref b30), .unset] [(.int (0 : Int32)), (.ref b29)])) _
      refine XS.lloadN X30.here hx rfl (hb hby at_77) rfl ?_
      exact kt
    obtain ⟨T32, h32, Lq32, X32, N32, e32, W32, Z32, Aq32, st32⟩ := own_stJ X30 hx hZ e30 Ab29_30 (j := (0 : Int32)) (by decide) (k := 0) (by decide) (Nat.le_of_ble_eq_true rfl) N0 g29 Z30 (g := (mkF m 78 #[.val (.int i0), .val (.long j1), .second, .val (.long j3), .second, .val (.long j5), .second, .val (.long j7), .second, .val (.long j9), .second, .val (.int (2 : Int32)), .val (.long j12), .second, .val (.long j14), .second, .val (.long j16), .second, .val (.ref b29), .val (.ref b30), .unset] [(.long j1), (.int (0 : Int32)), (.ref b29)])) rfl rfl (hb hby at_78)
    have Ab30_32 := Ab30_30.other W32 (Ne.symm ne_b29_b30)
    have Ab29_32 : own_A Z h32 b29 .long [(.long j1), (.long (0 : Int64))] := Aq32
    refine own_step (T' := T32) (f' := (mkF m 79 #[.val (.int i0), .val (.long j1), .second, .val (.long j3), .second, .val (.long j5), .second, .val (.long j7), .second, .val (.long j9), .second, .val (.int (2 : Int32)), .val (.long j12), .second, .val (.long j14), .second, .val (.long j16), .second, .val (.ref b29), .val (.ref b30), .unset] [])) st32 ?_
    refine own_step (T' := T32) (f' := (mkF m 84 #[.val (.int i0), .val (.long j1), .second, .val (.long j3), .second, .val (.long j5), .second, .val (.long j7), .second, .val (.long j9), .second, .val (.int (2 : Int32)), .val (.long j12), .second, .val (.long j14), .second, .val (.long j16), .second, .val (.ref b29), .val (.ref b30), .unset] [(.long j12), (.int (0 : Int32)), (.ref b30)])) (fun t kt => ?_) ?_
    · show Steps p.tables e below (T32.setTop (mkF m 79 #[.val (.int i0), .val (.long j1), .second, .val (.long j3), .second, .val (.long j5), .second, .val (.long j7), .second, .val (.long j9), .second, .val (.int (2 : Int32)), .val (.long j12), .second, .val (.long j14), .second, .val (.long j16), .second, .val (.ref b29), .val (.ref b30), .unset] [])) _
      refine XS.aload X32.here hx rfl (hb hby at_79) rfl rfl ?_
      show Steps p.tables e below (T32.setTop (mkF m 81 #[.val (.int i0), .val (.long j1), .second, .val (.long j3), .second, .val (.long j5), .second, .val (.long j7), .second, .val (.long j9), .second, .val (.int (2 : Int32)), .val (.long j12), .second, .val (.long j14), .second, .val (.long j16), .second, .val (.ref b29), .val (.ref b30), .unset] [(.ref b30)])) _
      refine XS.iconst X32.here hx rfl (hb hby at_81) ?_
      show Steps p.tables e below (T32.setTop (mkF m 82 #[.val (.int i0), .val (.long j1), .second, .val (.long j3), .second, .val (.long j5), .second, .val (.long j7), .second, .val (.long j9), .second, .val (.int (2 : Int32)), .val (.long j12), .second, .val (.long j14), .second, .val (.long j16), .second, .val (.ref b29), .val (.ref b30), .unset] [(.int (0 : Int32)), (.ref b30)])) _
      refine XS.lload X32.here hx rfl (hb hby at_82) rfl ?_
      exact kt
    obtain ⟨T33, h33, Lq33, X33, N33, e33, W33, Z33, Aq33, st33⟩ := own_stJ X32 hx hZ e32 Ab30_32 (j := (0 : Int32)) (by decide) (k := 0) (by decide) (Nat.le_of_ble_eq_true rfl) N32 g30 Z32 (g := (mkF m 84 #[.val (.int i0), .val (.long j1), .second, .val (.long j3), .second, .val (.long j5), .second, .val (.long j7), .second, .val (.long j9), .second, .val (.int (2 : Int32)), .val (.long j12), .second, .val (.long j14), .second, .val (.long j16), .second, .val (.ref b29), .val (.ref b30), .unset] [(.long j12), (.int (0 : Int32)), (.ref b30)])) rfl rfl (hb hby at_84)
    have Ab29_33 := Ab29_32.other W33 ne_b29_b30
    have Ab30_33 : own_A Z h33 b30 .long [(.long j12), (.long (0 : Int64))] := Aq33
    refine own_step (T' := T33) (f' := (mkF m 85 #[.val (.int i0), .val (.long j1), .second, .val (.long j3), .second, .val (.long j5), .second, .val (.long j7), .second, .val (.long j9), .second, .val (.int (2 : Int32)), .val (.long j12), .second, .val (.long j14), .second, .val (.long j16), .second, .val (.ref b29), .val (.ref b30), .unset] [])) st33 ?_
    refine own_step (T' := T33) (f' := (mkF m 88 #[.val (.int i0), .val (.long j1), .second, .val (.long j3), .second, .val (.long j5), .second, .val (.long j7), .second, .val (.long j9), .second, .val (.int (2 : Int32)), .val (.long j12), .second, .val (.long j14), .second, .val (.long j16), .second, .val (.ref b29), .val (.ref b30), .unset] [(.int (1 : Int32)), (.int (2 : Int32))])) (fun t kt => ?_) ?_
    · show Steps p.tables e below (T33.setTop (mkF m 85 #[.val (.int i0), .val (.long j1), .second, .val (.long j3), .second, .val (.long j5), .second, .val (.long j7), .second, .val (.long j9), .second, .val (.int (2 : Int32)), .val (.long j12), .second, .val (.long j14), .second, .val (.long j16), .second, .val (.ref b29), .val (.ref b30), .unset] [])) _
      refine XS.iload X33.here hx rfl (hb hby at_85) rfl ?_
      show Steps p.tables e below (T33.setTop (mkF m 87 #[.val (.int i0), .val (.long j1), .second, .val (.long j3), .second, .val (.long j5), .second, .val (.long j7), .second, .val (.long j9), .second, .val (.int (2 : Int32)), .val (.long j12), .second, .val (.long j14), .second, .val (.long j16), .second, .val (.ref b29), .val (.ref b30), .unset] [(.int (2 : Int32))])) _
      refine XS.iconst X33.here hx rfl (hb hby at_87) ?_
      exact kt
    refine own_step (T' := T33) (f' := (mkF m 91 #[.val (.int i0), .val (.long j1), .second, .val (.long j3), .second, .val (.long j5), .second, .val (.long j7), .second, .val (.long j9), .second, .val (.int (2 : Int32)), .val (.long j12), .second, .val (.long j14), .second, .val (.long j16), .second, .val (.ref b29), .val (.ref b30), .unset] [])) (fun t kt => ?_) ?_
    · show Steps p.tables e below (T33.setTop (mkF m 88 #[.val (.int i0), .val (.long j1), .second, .val (.long j3), .second, .val (.long j5), .second, .val (.long j7), .second, .val (.long j9), .second, .val (.int (2 : Int32)), .val (.long j12), .second, .val (.long j14), .second, .val (.long j16), .second, .val (.ref b29), .val (.ref b30), .unset] [(.int (1 : Int32)), (.int (2 : Int32))])) _
      refine XS.icmpNo X33.here hx rfl (hb hby at_88) rfl (tlt (by decide : ((1 : Int32) < (2 : Int32)))).2.2.2 kt
    refine own_step (T' := T33) (f' := (mkF m 95 #[.val (.int i0), .val (.long j1), .second, .val (.long j3), .second, .val (.long j5), .second, .val (.long j7), .second, .val (.long j9), .second, .val (.int (2 : Int32)), .val (.long j12), .second, .val (.long j14), .second, .val (.long j16), .second, .val (.ref b29), .val (.ref b30), .unset] [(.long j3), (.int (1 : Int32)), (.ref b29)])) (fun t kt => ?_) ?_
    · show Steps p.tables e below (T33.setTop (mkF m 91 #[.val (.int i0), .val (.long j1), .second, .val (.long j3), .second, .val (.long j5), .second, .val (.long j7), .second, .val (.long j9), .second, .val (.int (2 : Int32)), .val (.long j12), .second, .val (.long j14), .second, .val (.long j16), .second, .val (.ref b29), .val (.ref b30), .unset] [])) _
      refine XS.aload X33.here hx rfl (hb hby at_91) rfl rfl ?_
      show Steps p.tables e below (T33.setTop (mkF m 93 #[.val (.int i0), .val (.long j1), .second, .val (.long j3), .second, .val (.long j5), .second, .val (.long j7), .second, .val (.long j9), .second, .val (.int (2 : Int32)), .val (.long j12), .second, .val (.long j14), .second, .val (.long j16), .second, .val (.ref b29), .val (.ref b30), .unset] [(.ref b29)])) _
      refine XS.iconst X33.here hx rfl (hb hby at_93) ?_
      show Steps p.tables e below (T33.setTop (mkF m 94 #[.val (.int i0), .val (.long j1), .second, .val (.long j3), .second, .val (.long j5), .second, .val (.long j7), .second, .val (.long j9), .second, .val (.int (2 : Int32)), .val (.long j12), .second, .val (.long j14), .second, .val (.long j16), .second, .val (.ref b29), .val (.ref b30), .unset] [(.int (1 : Int32)), (.ref b29)])) _
      refine XS.lloadN X33.here hx rfl (hb hby at_94) rfl ?_
      exact kt
    obtain ⟨T35, h35, Lq35, X35, N35, e35, W35, Z35, Aq35, st35⟩ := own_stJ X33 hx hZ e33 Ab29_33 (j := (1 : Int32)) (by decide) (k := 1) (by decide) (Nat.le_of_ble_eq_true rfl) N33 g29 Z33 (g := (mkF m 95 #[.val (.int i0), .val (.long j1), .second, .val (.long j3), .second, .val (.long j5), .second, .val (.long j7), .second, .val (.long j9), .second, .val (.int (2 : Int32)), .val (.long j12), .second, .val (.long j14), .second, .val (.long j16), .second, .val (.ref b29), .val (.ref b30), .unset] [(.long j3), (.int (1 : Int32)), (.ref b29)])) rfl rfl (hb hby at_95)
    have Ab30_35 := Ab30_33.other W35 (Ne.symm ne_b29_b30)
    have Ab29_35 : own_A Z h35 b29 .long [(.long j1), (.long j3)] := Aq35
    refine own_step (T' := T35) (f' := (mkF m 96 #[.val (.int i0), .val (.long j1), .second, .val (.long j3), .second, .val (.long j5), .second, .val (.long j7), .second, .val (.long j9), .second, .val (.int (2 : Int32)), .val (.long j12), .second, .val (.long j14), .second, .val (.long j16), .second, .val (.ref b29), .val (.ref b30), .unset] [])) st35 ?_
    refine own_step (T' := T35) (f' := (mkF m 101 #[.val (.int i0), .val (.long j1), .second, .val (.long j3), .second, .val (.long j5), .second, .val (.long j7), .second, .val (.long j9), .second, .val (.int (2 : Int32)), .val (.long j12), .second, .val (.long j14), .second, .val (.long j16), .second, .val (.ref b29), .val (.ref b30), .unset] [(.long j14), (.int (1 : Int32)), (.ref b30)])) (fun t kt => ?_) ?_
    · show Steps p.tables e below (T35.setTop (mkF m 96 #[.val (.int i0), .val (.long j1), .second, .val (.long j3), .second, .val (.long j5), .second, .val (.long j7), .second, .val (.long j9), .second, .val (.int (2 : Int32)), .val (.long j12), .second, .val (.long j14), .second, .val (.long j16), .second, .val (.ref b29), .val (.ref b30), .unset] [])) _
      refine XS.aload X35.here hx rfl (hb hby at_96) rfl rfl ?_
      show Steps p.tables e below (T35.setTop (mkF m 98 #[.val (.int i0), .val (.long j1), .second, .val (.long j3), .second, .val (.long j5), .second, .val (.long j7), .second, .val (.long j9), .second, .val (.int (2 : Int32)), .val (.long j12), .second, .val (.long j14), .second, .val (.long j16), .second, .val (.ref b29), .val (.ref b30), .unset] [(.ref b30)])) _
      refine XS.iconst X35.here hx rfl (hb hby at_98) ?_
      show Steps p.tables e below (T35.setTop (mkF m 99 #[.val (.int i0), .val (.long j1), .second, .val (.long j3), .second, .val (.long j5), .second, .val (.long j7), .second, .val (.long j9), .second, .val (.int (2 : Int32)), .val (.long j12), .second, .val (.long j14), .second, .val (.long j16), .second, .val (.ref b29), .val (.ref b30), .unset] [(.int (1 : Int32)), (.ref b30)])) _
      refine XS.lload X35.here hx rfl (hb hby at_99) rfl ?_
      exact kt
    obtain ⟨T36, h36, Lq36, X36, N36, e36, W36, Z36, Aq36, st36⟩ := own_stJ X35 hx hZ e35 Ab30_35 (j := (1 : Int32)) (by decide) (k := 1) (by decide) (Nat.le_of_ble_eq_true rfl) N35 g30 Z35 (g := (mkF m 101 #[.val (.int i0), .val (.long j1), .second, .val (.long j3), .second, .val (.long j5), .second, .val (.long j7), .second, .val (.long j9), .second, .val (.int (2 : Int32)), .val (.long j12), .second, .val (.long j14), .second, .val (.long j16), .second, .val (.ref b29), .val (.ref b30), .unset] [(.long j14), (.int (1 : Int32)), (.ref b30)])) rfl rfl (hb hby at_101)
    have Ab29_36 := Ab29_35.other W36 ne_b29_b30
    have Ab30_36 : own_A Z h36 b30 .long [(.long j12), (.long j14)] := Aq36
    refine own_step (T' := T36) (f' := (mkF m 102 #[.val (.int i0), .val (.long j1), .second, .val (.long j3), .second, .val (.long j5), .second, .val (.long j7), .second, .val (.long j9), .second, .val (.int (2 : Int32)), .val (.long j12), .second, .val (.long j14), .second, .val (.long j16), .second, .val (.ref b29), .val (.ref b30), .unset] [])) st36 ?_
    refine own_step (T' := T36) (f' := (mkF m 105 #[.val (.int i0), .val (.long j1), .second, .val (.long j3), .second, .val (.long j5), .second, .val (.long j7), .second, .val (.long j9), .second, .val (.int (2 : Int32)), .val (.long j12), .second, .val (.long j14), .second, .val (.long j16), .second, .val (.ref b29), .val (.ref b30), .unset] [(.int (2 : Int32)), (.int (2 : Int32))])) (fun t kt => ?_) ?_
    · show Steps p.tables e below (T36.setTop (mkF m 102 #[.val (.int i0), .val (.long j1), .second, .val (.long j3), .second, .val (.long j5), .second, .val (.long j7), .second, .val (.long j9), .second, .val (.int (2 : Int32)), .val (.long j12), .second, .val (.long j14), .second, .val (.long j16), .second, .val (.ref b29), .val (.ref b30), .unset] [])) _
      refine XS.iload X36.here hx rfl (hb hby at_102) rfl ?_
      show Steps p.tables e below (T36.setTop (mkF m 104 #[.val (.int i0), .val (.long j1), .second, .val (.long j3), .second, .val (.long j5), .second, .val (.long j7), .second, .val (.long j9), .second, .val (.int (2 : Int32)), .val (.long j12), .second, .val (.long j14), .second, .val (.long j16), .second, .val (.ref b29), .val (.ref b30), .unset] [(.int (2 : Int32))])) _
      refine XS.iconst X36.here hx rfl (hb hby at_104) ?_
      exact kt
    refine own_step (T' := T36) (f' := (mkF m 120 #[.val (.int i0), .val (.long j1), .second, .val (.long j3), .second, .val (.long j5), .second, .val (.long j7), .second, .val (.long j9), .second, .val (.int (2 : Int32)), .val (.long j12), .second, .val (.long j14), .second, .val (.long j16), .second, .val (.ref b29), .val (.ref b30), .unset] [])) (fun t kt => ?_) ?_
    · show Steps p.tables e below (T36.setTop (mkF m 105 #[.val (.int i0), .val (.long j1), .second, .val (.long j3), .second, .val (.long j5), .second, .val (.long j7), .second, .val (.long j9), .second, .val (.int (2 : Int32)), .val (.long j12), .second, .val (.long j14), .second, .val (.long j16), .second, .val (.ref b29), .val (.ref b30), .unset] [(.int (2 : Int32)), (.int (2 : Int32))])) _
      refine XS.icmpYes X36.here hx rfl (pc0 := 105) (pc' := 120) rfl (hb hby at_105) rfl (flt (by decide : ¬ ((2 : Int32) < (2 : Int32)))).2.2.2 (by decide) (by decide) kt
    refine own_step (T' := T36) (f' := (mkF m 122 #[.val (.int i0), .val (.long j1), .second, .val (.long j3), .second, .val (.long j5), .second, .val (.long j7), .second, .val (.long j9), .second, .val (.int (2 : Int32)), .val (.long j12), .second, .val (.long j14), .second, .val (.long j16), .second, .val (.ref b29), .val (.ref b30), .unset] [(.int (2 : Int32))])) (fun t kt => ?_) ?_
    · show Steps p.tables e below (T36.setTop (mkF m 120 #[.val (.int i0), .val (.long j1), .second, .val (.long j3), .second, .val (.long j5), .second, .val (.long j7), .second, .val (.long j9), .second, .val (.int (2 : Int32)), .val (.long j12), .second, .val (.long j14), .second, .val (.long j16), .second, .val (.ref b29), .val (.ref b30), .unset] [])) _
      refine XS.iload X36.here hx rfl (hb hby at_120) rfl ?_
      exact kt
    refine own_step (T' := T36) (f' := (mkF m 125 #[.val (.int i0), .val (.long j1), .second, .val (.long j3), .second, .val (.long j5), .second, .val (.long j7), .second, .val (.long j9), .second, .val (.int (2 : Int32)), .val (.long j12), .second, .val (.long j14), .second, .val (.long j16), .second, .val (.ref b29), .val (.ref b30), .unset] [])) (fun t kt => ?_) ?_
    · show Steps p.tables e below (T36.setTop (mkF m 122 #[.val (.int i0), .val (.long j1), .second, .val (.long j3), .second, .val (.long j5), .second, .val (.long j7), .second, .val (.long j9), .second, .val (.int (2 : Int32)), .val (.long j12), .second, .val (.long j14), .second, .val (.long j16), .second, .val (.ref b29), .val (.ref b30), .unset] [(.int (2 : Int32))])) _
      refine XS.ifNo X36.here hx rfl (hb hby at_122) rfl ((if0 _ _).trans (tlt (by decide : ((0 : Int32) < (2 : Int32)))).2.2.2) kt
    refine own_step (T' := T36) (f' := (mkF m 129 #[.val (.int i0), .val (.long j1), .second, .val (.long j3), .second, .val (.long j5), .second, .val (.long j7), .second, .val (.long j9), .second, .val (.int (2 : Int32)), .val (.long j12), .second, .val (.long j14), .second, .val (.long j16), .second, .val (.ref b29), .val (.ref b30), .unset] [(.int (lcmpW j1 j12))])) (fun t kt => ?_) ?_
    · show Steps p.tables e below (T36.setTop (mkF m 125 #[.val (.int i0), .val (.long j1), .second, .val (.long j3), .second, .val (.long j5), .second, .val (.long j7), .second, .val (.long j9), .second, .val (.int (2 : Int32)), .val (.long j12), .second, .val (.long j14), .second, .val (.long j16), .second, .val (.ref b29), .val (.ref b30), .unset] [])) _
      refine XS.lloadN X36.here hx rfl (hb hby at_125) rfl ?_
      show Steps p.tables e below (T36.setTop (mkF m 126 #[.val (.int i0), .val (.long j1), .second, .val (.long j3), .second, .val (.long j5), .second, .val (.long j7), .second, .val (.long j9), .second, .val (.int (2 : Int32)), .val (.long j12), .second, .val (.long j14), .second, .val (.long j16), .second, .val (.ref b29), .val (.ref b30), .unset] [(.long j1)])) _
      refine XS.lload X36.here hx rfl (hb hby at_126) rfl ?_
      show Steps p.tables e below (T36.setTop (mkF m 128 #[.val (.int i0), .val (.long j1), .second, .val (.long j3), .second, .val (.long j5), .second, .val (.long j7), .second, .val (.long j9), .second, .val (.int (2 : Int32)), .val (.long j12), .second, .val (.long j14), .second, .val (.long j16), .second, .val (.ref b29), .val (.ref b30), .unset] [(.long j12), (.long j1)])) _
      refine XS.lcmp X36.here hx rfl (hb hby at_128) rfl ?_
      exact kt
    by_cases hc129_39 : j1 = j12
    · rw [if_pos hc129_39] at hr
      refine own_step (T' := T36) (f' := (mkF m 159 #[.val (.int i0), .val (.long j1), .second, .val (.long j3), .second, .val (.long j5), .second, .val (.long j7), .second, .val (.long j9), .second, .val (.int (2 : Int32)), .val (.long j12), .second, .val (.long j14), .second, .val (.long j16), .second, .val (.ref b29), .val (.ref b30), .unset] [])) (fun t kt => ?_) ?_
      · show Steps p.tables e below (T36.setTop (mkF m 129 #[.val (.int i0), .val (.long j1), .second, .val (.long j3), .second, .val (.long j5), .second, .val (.long j7), .second, .val (.long j9), .second, .val (.int (2 : Int32)), .val (.long j12), .second, .val (.long j14), .second, .val (.long j16), .second, .val (.ref b29), .val (.ref b30), .unset] [(.int (lcmpW j1 j12))])) _
        refine XS.ifYes X36.here hx rfl (pc0 := 129) (pc' := 159) rfl (hb hby at_129) rfl ((if0 _ _).trans (teq ((lw_eq _ _).mpr hc129_39)).1) (by decide) (by decide) kt
      refine own_step (T' := T36) (f' := (mkF m 170 #[.val (.int i0), .val (.long j1), .second, .val (.long j3), .second, .val (.long j5), .second, .val (.long j7), .second, .val (.long j9), .second, .val (.int (2 : Int32)), .val (.long j12), .second, .val (.long j14), .second, .val (.long j16), .second, .val (.ref b29), .val (.ref b30), .val (.int (1 : Int32))] [(.ref b30), (.ref b29)])) (fun t kt => ?_) ?_
      · show Steps p.tables e below (T36.setTop (mkF m 159 #[.val (.int i0), .val (.long j1), .second, .val (.long j3), .second, .val (.long j5), .second, .val (.long j7), .second, .val (.long j9), .second, .val (.int (2 : Int32)), .val (.long j12), .second, .val (.long j14), .second, .val (.long j16), .second, .val (.ref b29), .val (.ref b30), .unset] [])) _
        refine XS.iconst X36.here hx rfl (hb hby at_159) ?_
        show Steps p.tables e below (T36.setTop (mkF m 160 #[.val (.int i0), .val (.long j1), .second, .val (.long j3), .second, .val (.long j5), .second, .val (.long j7), .second, .val (.long j9), .second, .val (.int (2 : Int32)), .val (.long j12), .second, .val (.long j14), .second, .val (.long j16), .second, .val (.ref b29), .val (.ref b30), .unset] [(.int (1 : Int32))])) _
        refine XS.goto X36.here hx rfl (pc0 := 160) (pc' := 164) rfl (hb hby at_160) (by decide) (by decide) ?_
        show Steps p.tables e below (T36.setTop (mkF m 164 #[.val (.int i0), .val (.long j1), .second, .val (.long j3), .second, .val (.long j5), .second, .val (.long j7), .second, .val (.long j9), .second, .val (.int (2 : Int32)), .val (.long j12), .second, .val (.long j14), .second, .val (.long j16), .second, .val (.ref b29), .val (.ref b30), .unset] [(.int (1 : Int32))])) _
        refine XS.istore X36.here hx rfl (hb hby at_164) rfl (l' := #[.val (.int i0), .val (.long j1), .second, .val (.long j3), .second, .val (.long j5), .second, .val (.long j7), .second, .val (.long j9), .second, .val (.int (2 : Int32)), .val (.long j12), .second, .val (.long j14), .second, .val (.long j16), .second, .val (.ref b29), .val (.ref b30), .val (.int (1 : Int32))]) rfl ?_
        show Steps p.tables e below (T36.setTop (mkF m 166 #[.val (.int i0), .val (.long j1), .second, .val (.long j3), .second, .val (.long j5), .second, .val (.long j7), .second, .val (.long j9), .second, .val (.int (2 : Int32)), .val (.long j12), .second, .val (.long j14), .second, .val (.long j16), .second, .val (.ref b29), .val (.ref b30), .val (.int (1 : Int32))] [])) _
        refine XS.aload X36.here hx rfl (hb hby at_166) rfl rfl ?_
        show Steps p.tables e below (T36.setTop (mkF m 168 #[.val (.int i0), .val (.long j1), .second, .val (.long j3), .second, .val (.long j5), .second, .val (.long j7), .second, .val (.long j9), .second, .val (.int (2 : Int32)), .val (.long j12), .second, .val (.long j14), .second, .val (.long j16), .second, .val (.ref b29), .val (.ref b30), .val (.int (1 : Int32))] [(.ref b29)])) _
        refine XS.aload X36.here hx rfl (hb hby at_168) rfl rfl ?_
        exact kt
      obtain ⟨_, _, ⟨T40, L40, k40, n40⟩, -, X40, ⟨Lc40, hQ40, l40, y40, z40⟩, st40⟩ := Jvm.LawKit.callS X36 hx (y := (⟨"com/example/nearsame/nearsame/Banding", "agree", "([J[J)Z"⟩ : MethodName)) hown (mvT hZ (hw _ (List.mem_of_getElem? (i := 1) rfl))) (mvT hZ (hw _ (List.mem_of_getElem? (i := 2) rfl))) (mvT hZ (hw _ (List.mem_of_getElem? (i := 3) rfl))) (mvT hZ (hw _ (List.mem_of_getElem? (i := 4) rfl))) (by decide) (backOf (W := 0) (rm1n2 l Z a0 hw [] b29 b30 j1 j3 j12 j14 h36 n0 Ab29_36 Ab30_36) hZ (hw _ (List.mem_of_getElem? (i := 4) rfl)) (hw _ (List.mem_of_getElem? (i := 3) rfl)) (by decide) (by decide)) (g := (mkF m 170 #[.val (.int i0), .val (.long j1), .second, .val (.long j3), .second, .val (.long j5), .second, .val (.long j7), .second, .val (.long j9), .second, .val (.int (2 : Int32)), .val (.long j12), .second, .val (.long j14), .second, .val (.long j16), .second, .val (.ref b29), .val (.ref b30), .val (.int (1 : Int32))] [(.ref b30), (.ref b29)])) rfl (by rw [hml]; rfl) (argsL := [(.ref b29), (.ref b30)]) (rest := []) (lenOf pd1 rfl) rfl (by show 2 * 0 + _ ≤ _; exact Nat.le_of_eq rfl) (hb hby at_170) (fun _ _ => ⟨rfl, e36, (by decide : 2 + 0 ≤ _), (by decide : 4 + 0 ≤ _)⟩)
      dsimp only [Pt.U, Pt.locs, Pt.cells, Pt.slots] at X40 l40 y40 z40 st40 hQ40
      subst l40 y40 z40
      obtain ⟨rfl, Nq40, e40⟩ := hQ40
      have N40 := Fr.app N36 Nq40
      refine own_step (T' := T40) (f' := (mkF m 173 #[.val (.int i0), .val (.long j1), .second, .val (.long j3), .second, .val (.long j5), .second, .val (.long j7), .second, .val (.long j9), .second, .val (.int (2 : Int32)), .val (.long j12), .second, .val (.long j14), .second, .val (.long j16), .second, .val (.ref b29), .val (.ref b30), .val (.int (1 : Int32))] [(.int (f1n2_0 j1 j3 j12 j14))])) st40 ?_
      refine own_step (T' := T40) (f' := (mkF m 175 #[.val (.int i0), .val (.long j1), .second, .val (.long j3), .second, .val (.long j5), .second, .val (.long j7), .second, .val (.long j9), .second, .val (.int (2 : Int32)), .val (.long j12), .second, .val (.long j14), .second, .val (.long j16), .second, .val (.ref b29), .val (.ref b30), .val (.int (1 : Int32))] [(.int (1 : Int32)), (.int (f1n2_0 j1 j3 j12 j14))])) (fun t kt => ?_) ?_
      · show Steps p.tables e below (T40.setTop (mkF m 173 #[.val (.int i0), .val (.long j1), .second, .val (.long j3), .second, .val (.long j5), .second, .val (.long j7), .second, .val (.long j9), .second, .val (.int (2 : Int32)), .val (.long j12), .second, .val (.long j14), .second, .val (.long j16), .second, .val (.ref b29), .val (.ref b30), .val (.int (1 : Int32))] [(.int (f1n2_0 j1 j3 j12 j14))])) _
        refine XS.iload X40.here hx rfl (hb hby at_173) rfl ?_
        exact kt
      by_cases hc175_41 : (f1n2_0 j1 j3 j12 j14) = (1 : Int32)
      · rw [if_pos hc175_41] at hr
        refine own_step (T' := T40) (f' := (mkF m 178 #[.val (.int i0), .val (.long j1), .second, .val (.long j3), .second, .val (.long j5), .second, .val (.long j7), .second, .val (.long j9), .second, .val (.int (2 : Int32)), .val (.long j12), .second, .val (.long j14), .second, .val (.long j16), .second, .val (.ref b29), .val (.ref b30), .val (.int (1 : Int32))] [])) (fun t kt => ?_) ?_
        · show Steps p.tables e below (T40.setTop (mkF m 175 #[.val (.int i0), .val (.long j1), .second, .val (.long j3), .second, .val (.long j5), .second, .val (.long j7), .second, .val (.long j9), .second, .val (.int (2 : Int32)), .val (.long j12), .second, .val (.long j14), .second, .val (.long j16), .second, .val (.ref b29), .val (.ref b30), .val (.int (1 : Int32))] [(.int (1 : Int32)), (.int (f1n2_0 j1 j3 j12 j14))])) _
          refine XS.icmpNo X40.here hx rfl (hb hby at_175) rfl (teq hc175_41).2 kt
        refine own_step (T' := T40) (f' := (mkF m 183 #[.val (.int i0), .val (.long j1), .second, .val (.long j3), .second, .val (.long j5), .second, .val (.long j7), .second, .val (.long j9), .second, .val (.int (2 : Int32)), .val (.long j12), .second, .val (.long j14), .second, .val (.long j16), .second, .val (.ref b29), .val (.ref b30), .val (.int (1 : Int32))] [(.int (1 : Int32))])) (fun t kt => ?_) ?_
        · show Steps p.tables e below (T40.setTop (mkF m 178 #[.val (.int i0), .val (.long j1), .second, .val (.long j3), .second, .val (.long j5), .second, .val (.long j7), .second, .val (.long j9), .second, .val (.int (2 : Int32)), .val (.long j12), .second, .val (.long j14), .second, .val (.long j16), .second, .val (.ref b29), .val (.ref b30), .val (.int (1 : Int32))] [])) _
          refine XS.iconst X40.here hx rfl (hb hby at_178) ?_
          show Steps p.tables e below (T40.setTop (mkF m 179 #[.val (.int i0), .val (.long j1), .second, .val (.long j3), .second, .val (.long j5), .second, .val (.long j7), .second, .val (.long j9), .second, .val (.int (2 : Int32)), .val (.long j12), .second, .val (.long j14), .second, .val (.long j16), .second, .val (.ref b29), .val (.ref b30), .val (.int (1 : Int32))] [(.int (1 : Int32))])) _
          refine XS.goto X40.here hx rfl (pc0 := 179) (pc' := 183) rfl (hb hby at_179) (by decide) (by decide) ?_
          exact kt
        exact own_retZ X40 hx hret (by simp) hlk (hb hby at_183) (by decide) (by decide) ⟨congrArg (fun z => some (Value.int z)) hr.symm, N40⟩
      · rw [if_neg hc175_41] at hr
        refine own_step (T' := T40) (f' := (mkF m 182 #[.val (.int i0), .val (.long j1), .second, .val (.long j3), .second, .val (.long j5), .second, .val (.long j7), .second, .val (.long j9), .second, .val (.int (2 : Int32)), .val (.long j12), .second, .val (.long j14), .second, .val (.long j16), .second, .val (.ref b29), .val (.ref b30), .val (.int (1 : Int32))] [])) (fun t kt => ?_) ?_
        · show Steps p.tables e below (T40.setTop (mkF m 175 #[.val (.int i0), .val (.long j1), .second, .val (.long j3), .second, .val (.long j5), .second, .val (.long j7), .second, .val (.long j9), .second, .val (.int (2 : Int32)), .val (.long j12), .second, .val (.long j14), .second, .val (.long j16), .second, .val (.ref b29), .val (.ref b30), .val (.int (1 : Int32))] [(.int (1 : Int32)), (.int (f1n2_0 j1 j3 j12 j14))])) _
          refine XS.icmpYes X40.here hx rfl (pc0 := 175) (pc' := 182) rfl (hb hby at_175) rfl (feq hc175_41).2 (by decide) (by decide) kt
        refine own_step (T' := T40) (f' := (mkF m 183 #[.val (.int i0), .val (.long j1), .second, .val (.long j3), .second, .val (.long j5), .second, .val (.long j7), .second, .val (.long j9), .second, .val (.int (2 : Int32)), .val (.long j12), .second, .val (.long j14), .second, .val (.long j16), .second, .val (.ref b29), .val (.ref b30), .val (.int (1 : Int32))] [(.int (0 : Int32))])) (fun t kt => ?_) ?_
        · show Steps p.tables e below (T40.setTop (mkF m 182 #[.val (.int i0), .val (.long j1), .second, .val (.long j3), .second, .val (.long j5), .second, .val (.long j7), .second, .val (.long j9), .second, .val (.int (2 : Int32)), .val (.long j12), .second, .val (.long j14), .second, .val (.long j16), .second, .val (.ref b29), .val (.ref b30), .val (.int (1 : Int32))] [])) _
          refine XS.iconst X40.here hx rfl (hb hby at_182) ?_
          exact kt
        exact own_retZ X40 hx hret (by simp) hlk (hb hby at_183) (by decide) (by decide) ⟨congrArg (fun z => some (Value.int z)) hr.symm, N40⟩
    · rw [if_neg hc129_39] at hr
      refine own_step (T' := T36) (f' := (mkF m 132 #[.val (.int i0), .val (.long j1), .second, .val (.long j3), .second, .val (.long j5), .second, .val (.long j7), .second, .val (.long j9), .second, .val (.int (2 : Int32)), .val (.long j12), .second, .val (.long j14), .second, .val (.long j16), .second, .val (.ref b29), .val (.ref b30), .unset] [])) (fun t kt => ?_) ?_
      · show Steps p.tables e below (T36.setTop (mkF m 129 #[.val (.int i0), .val (.long j1), .second, .val (.long j3), .second, .val (.long j5), .second, .val (.long j7), .second, .val (.long j9), .second, .val (.int (2 : Int32)), .val (.long j12), .second, .val (.long j14), .second, .val (.long j16), .second, .val (.ref b29), .val (.ref b30), .unset] [(.int (lcmpW j1 j12))])) _
        refine XS.ifNo X36.here hx rfl (hb hby at_129) rfl ((if0 _ _).trans (feq (mt (lw_eq _ _).mp hc129_39)).1) kt
      refine own_step (T' := T36) (f' := (mkF m 135 #[.val (.int i0), .val (.long j1), .second, .val (.long j3), .second, .val (.long j5), .second, .val (.long j7), .second, .val (.long j9), .second, .val (.int (2 : Int32)), .val (.long j12), .second, .val (.long j14), .second, .val (.long j16), .second, .val (.ref b29), .val (.ref b30), .unset] [(.int (1 : Int32)), (.int (2 : Int32))])) (fun t kt => ?_) ?_
      · show Steps p.tables e below (T36.setTop (mkF m 132 #[.val (.int i0), .val (.long j1), .second, .val (.long j3), .second, .val (.long j5), .second, .val (.long j7), .second, .val (.long j9), .second, .val (.int (2 : Int32)), .val (.long j12), .second, .val (.long j14), .second, .val (.long j16), .second, .val (.ref b29), .val (.ref b30), .unset] [])) _
        refine XS.iload X36.here hx rfl (hb hby at_132) rfl ?_
        show Steps p.tables e below (T36.setTop (mkF m 134 #[.val (.int i0), .val (.long j1), .second, .val (.long j3), .second, .val (.long j5), .second, .val (.long j7), .second, .val (.long j9), .second, .val (.int (2 : Int32)), .val (.long j12), .second, .val (.long j14), .second, .val (.long j16), .second, .val (.ref b29), .val (.ref b30), .unset] [(.int (2 : Int32))])) _
        refine XS.iconst X36.here hx rfl (hb hby at_134) ?_
        exact kt
      refine own_step (T' := T36) (f' := (mkF m 138 #[.val (.int i0), .val (.long j1), .second, .val (.long j3), .second, .val (.long j5), .second, .val (.long j7), .second, .val (.long j9), .second, .val (.int (2 : Int32)), .val (.long j12), .second, .val (.long j14), .second, .val (.long j16), .second, .val (.ref b29), .val (.ref b30), .unset] [])) (fun t kt => ?_) ?_
      · show Steps p.tables e below (T36.setTop (mkF m 135 #[.val (.int i0), .val (.long j1), .second, .val (.long j3), .second, .val (.long j5), .second, .val (.long j7), .second, .val (.long j9), .second, .val (.int (2 : Int32)), .val (.long j12), .second, .val (.long j14), .second, .val (.long j16), .second, .val (.ref b29), .val (.ref b30), .unset] [(.int (1 : Int32)), (.int (2 : Int32))])) _
        refine XS.icmpNo X36.here hx rfl (hb hby at_135) rfl (tlt (by decide : ((1 : Int32) < (2 : Int32)))).2.2.2 kt
      refine own_step (T' := T36) (f' := (mkF m 142 #[.val (.int i0), .val (.long j1), .second, .val (.long j3), .second, .val (.long j5), .second, .val (.long j7), .second, .val (.long j9), .second, .val (.int (2 : Int32)), .val (.long j12), .second, .val (.long j14), .second, .val (.long j16), .second, .val (.ref b29), .val (.ref b30), .unset] [(.int (lcmpW j3 j14))])) (fun t kt => ?_) ?_
      · show Steps p.tables e below (T36.setTop (mkF m 138 #[.val (.int i0), .val (.long j1), .second, .val (.long j3), .second, .val (.long j5), .second, .val (.long j7), .second, .val (.long j9), .second, .val (.int (2 : Int32)), .val (.long j12), .second, .val (.long j14), .second, .val (.long j16), .second, .val (.ref b29), .val (.ref b30), .unset] [])) _
        refine XS.lloadN X36.here hx rfl (hb hby at_138) rfl ?_
        show Steps p.tables e below (T36.setTop (mkF m 139 #[.val (.int i0), .val (.long j1), .second, .val (.long j3), .second, .val (.long j5), .second, .val (.long j7), .second, .val (.long j9), .second, .val (.int (2 : Int32)), .val (.long j12), .second, .val (.long j14), .second, .val (.long j16), .second, .val (.ref b29), .val (.ref b30), .unset] [(.long j3)])) _
        refine XS.lload X36.here hx rfl (hb hby at_139) rfl ?_
        show Steps p.tables e below (T36.setTop (mkF m 141 #[.val (.int i0), .val (.long j1), .second, .val (.long j3), .second, .val (.long j5), .second, .val (.long j7), .second, .val (.long j9), .second, .val (.int (2 : Int32)), .val (.long j12), .second, .val (.long j14), .second, .val (.long j16), .second, .val (.ref b29), .val (.ref b30), .unset] [(.long j14), (.long j3)])) _
        refine XS.lcmp X36.here hx rfl (hb hby at_141) rfl ?_
        exact kt
      by_cases hc142_43 : j3 = j14
      · rw [if_pos hc142_43] at hr
        refine own_step (T' := T36) (f' := (mkF m 159 #[.val (.int i0), .val (.long j1), .second, .val (.long j3), .second, .val (.long j5), .second, .val (.long j7), .second, .val (.long j9), .second, .val (.int (2 : Int32)), .val (.long j12), .second, .val (.long j14), .second, .val (.long j16), .second, .val (.ref b29), .val (.ref b30), .unset] [])) (fun t kt => ?_) ?_
        · show Steps p.tables e below (T36.setTop (mkF m 142 #[.val (.int i0), .val (.long j1), .second, .val (.long j3), .second, .val (.long j5), .second, .val (.long j7), .second, .val (.long j9), .second, .val (.int (2 : Int32)), .val (.long j12), .second, .val (.long j14), .second, .val (.long j16), .second, .val (.ref b29), .val (.ref b30), .unset] [(.int (lcmpW j3 j14))])) _
          refine XS.ifYes X36.here hx rfl (pc0 := 142) (pc' := 159) rfl (hb hby at_142) rfl ((if0 _ _).trans (teq ((lw_eq _ _).mpr hc142_43)).1) (by decide) (by decide) kt
        refine own_step (T' := T36) (f' := (mkF m 170 #[.val (.int i0), .val (.long j1), .second, .val (.long j3), .second, .val (.long j5), .second, .val (.long j7), .second, .val (.long j9), .second, .val (.int (2 : Int32)), .val (.long j12), .second, .val (.long j14), .second, .val (.long j16), .second, .val (.ref b29), .val (.ref b30), .val (.int (1 : Int32))] [(.ref b30), (.ref b29)])) (fun t kt => ?_) ?_
        · show Steps p.tables e below (T36.setTop (mkF m 159 #[.val (.int i0), .val (.long j1), .second, .val (.long j3), .second, .val (.long j5), .second, .val (.long j7), .second, .val (.long j9), .second, .val (.int (2 : Int32)), .val (.long j12), .second, .val (.long j14), .second, .val (.long j16), .second, .val (.ref b29), .val (.ref b30), .unset] [])) _
          refine XS.iconst X36.here hx rfl (hb hby at_159) ?_
          show Steps p.tables e below (T36.setTop (mkF m 160 #[.val (.int i0), .val (.long j1), .second, .val (.long j3), .second, .val (.long j5), .second, .val (.long j7), .second, .val (.long j9), .second, .val (.int (2 : Int32)), .val (.long j12), .second, .val (.long j14), .second, .val (.long j16), .second, .val (.ref b29), .val (.ref b30), .unset] [(.int (1 : Int32))])) _
          refine XS.goto X36.here hx rfl (pc0 := 160) (pc' := 164) rfl (hb hby at_160) (by decide) (by decide) ?_
          show Steps p.tables e below (T36.setTop (mkF m 164 #[.val (.int i0), .val (.long j1), .second, .val (.long j3), .second, .val (.long j5), .second, .val (.long j7), .second, .val (.long j9), .second, .val (.int (2 : Int32)), .val (.long j12), .second, .val (.long j14), .second, .val (.long j16), .second, .val (.ref b29), .val (.ref b30), .unset] [(.int (1 : Int32))])) _
          refine XS.istore X36.here hx rfl (hb hby at_164) rfl (l' := #[.val (.int i0), .val (.long j1), .second, .val (.long j3), .second, .val (.long j5), .second, .val (.long j7), .second, .val (.long j9), .second, .val (.int (2 : Int32)), .val (.long j12), .second, .val (.long j14), .second, .val (.long j16), .second, .val (.ref b29), .val (.ref b30), .val (.int (1 : Int32))]) rfl ?_
          show Steps p.tables e below (T36.setTop (mkF m 166 #[.val (.int i0), .val (.long j1), .second, .val (.long j3), .second, .val (.long j5), .second, .val (.long j7), .second, .val (.long j9), .second, .val (.int (2 : Int32)), .val (.long j12), .second, .val (.long j14), .second, .val (.long j16), .second, .val (.ref b29), .val (.ref b30), .val (.int (1 : Int32))] [])) _
          refine XS.aload X36.here hx rfl (hb hby at_166) rfl rfl ?_
          show Steps p.tables e below (T36.setTop (mkF m 168 #[.val (.int i0), .val (.long j1), .second, .val (.long j3), .second, .val (.long j5), .second, .val (.long j7), .second, .val (.long j9), .second, .val (.int (2 : Int32)), .val (.long j12), .second, .val (.long j14), .second, .val (.long j16), .second, .val (.ref b29), .val (.ref b30), .val (.int (1 : Int32))] [(.ref b29)])) _
          refine XS.aload X36.here hx rfl (hb hby at_168) rfl rfl ?_
          exact kt
        obtain ⟨_, _, ⟨T44, L44, k44, n44⟩, -, X44, ⟨Lc44, hQ44, l44, y44, z44⟩, st44⟩ := Jvm.LawKit.callS X36 hx (y := (⟨"com/example/nearsame/nearsame/Banding", "agree", "([J[J)Z"⟩ : MethodName)) hown (mvT hZ (hw _ (List.mem_of_getElem? (i := 1) rfl))) (mvT hZ (hw _ (List.mem_of_getElem? (i := 2) rfl))) (mvT hZ (hw _ (List.mem_of_getElem? (i := 3) rfl))) (mvT hZ (hw _ (List.mem_of_getElem? (i := 4) rfl))) (by decide) (backOf (W := 0) (rm1n2 l Z a0 hw [] b29 b30 j1 j3 j12 j14 h36 n0 Ab29_36 Ab30_36) hZ (hw _ (List.mem_of_getElem? (i := 4) rfl)) (hw _ (List.mem_of_getElem? (i := 3) rfl)) (by decide) (by decide)) (g := (mkF m 170 #[.val (.int i0), .val (.long j1), .second, .val (.long j3), .second, .val (.long j5), .second, .val (.long j7), .second, .val (.long j9), .second, .val (.int (2 : Int32)), .val (.long j12), .second, .val (.long j14), .second, .val (.long j16), .second, .val (.ref b29), .val (.ref b30), .val (.int (1 : Int32))] [(.ref b30), (.ref b29)])) rfl (by rw [hml]; rfl) (argsL := [(.ref b29), (.ref b30)]) (rest := []) (lenOf pd1 rfl) rfl (by show 2 * 0 + _ ≤ _; exact Nat.le_of_eq rfl) (hb hby at_170) (fun _ _ => ⟨rfl, e36, (by decide : 2 + 0 ≤ _), (by decide : 4 + 0 ≤ _)⟩)
        dsimp only [Pt.U, Pt.locs, Pt.cells, Pt.slots] at X44 l44 y44 z44 st44 hQ44
        subst l44 y44 z44
        obtain ⟨rfl, Nq44, e44⟩ := hQ44
        have N44 := Fr.app N36 Nq44
        refine own_step (T' := T44) (f' := (mkF m 173 #[.val (.int i0), .val (.long j1), .second, .val (.long j3), .second, .val (.long j5), .second, .val (.long j7), .second, .val (.long j9), .second, .val (.int (2 : Int32)), .val (.long j12), .second, .val (.long j14), .second, .val (.long j16), .second, .val (.ref b29), .val (.ref b30), .val (.int (1 : Int32))] [(.int (f1n2_0 j1 j3 j12 j14))])) st44 ?_
        refine own_step (T' := T44) (f' := (mkF m 175 #[.val (.int i0), .val (.long j1), .second, .val (.long j3), .second, .val (.long j5), .second, .val (.long j7), .second, .val (.long j9), .second, .val (.int (2 : Int32)), .val (.long j12), .second, .val (.long j14), .second, .val (.long j16), .second, .val (.ref b29), .val (.ref b30), .val (.int (1 : Int32))] [(.int (1 : Int32)), (.int (f1n2_0 j1 j3 j12 j14))])) (fun t kt => ?_) ?_
        · show Steps p.tables e below (T44.setTop (mkF m 173 #[.val (.int i0), .val (.long j1), .second, .val (.long j3), .second, .val (.long j5), .second, .val (.long j7), .second, .val (.long j9), .second, .val (.int (2 : Int32)), .val (.long j12), .second, .val (.long j14), .second, .val (.long j16), .second, .val (.ref b29), .val (.ref b30), .val (.int (1 : Int32))] [(.int (f1n2_0 j1 j3 j12 j14))])) _
          refine XS.iload X44.here hx rfl (hb hby at_173) rfl ?_
          exact kt
        by_cases hc175_45 : (f1n2_0 j1 j3 j12 j14) = (1 : Int32)
        · rw [if_pos hc175_45] at hr
          refine own_step (T' := T44) (f' := (mkF m 178 #[.val (.int i0), .val (.long j1), .second, .val (.long j3), .second, .val (.long j5), .second, .val (.long j7), .second, .val (.long j9), .second, .val (.int (2 : Int32)), .val (.long j12), .second, .val (.long j14), .second, .val (.long j16), .second, .val (.ref b29), .val (.ref b30), .val (.int (1 : Int32))] [])) (fun t kt => ?_) ?_
          · show Steps p.tables e below (T44.setTop (mkF m 175 #[.val (.int i0), .val (.long j1), .second, .val (.long j3), .second, .val (.long j5), .second, .val (.long j7), .second, .val (.long j9), .second, .val (.int (2 : Int32)), .val (.long j12), .second, .val (.long j14), .second, .val (.long j16), .second, .val (.ref b29), .val (.ref b30), .val (.int (1 : Int32))] [(.int (1 : Int32)), (.int (f1n2_0 j1 j3 j12 j14))])) _
            refine XS.icmpNo X44.here hx rfl (hb hby at_175) rfl (teq hc175_45).2 kt
          refine own_step (T' := T44) (f' := (mkF m 183 #[.val (.int i0), .val (.long j1), .second, .val (.long j3), .second, .val (.long j5), .second, .val (.long j7), .second, .val (.long j9), .second, .val (.int (2 : Int32)), .val (.long j12), .second, .val (.long j14), .second, .val (.long j16), .second, .val (.ref b29), .val (.ref b30), .val (.int (1 : Int32))] [(.int (1 : Int32))])) (fun t kt => ?_) ?_
          · show Steps p.tables e below (T44.setTop (mkF m 178 #[.val (.int i0), .val (.long j1), .second, .val (.long j3), .second, .val (.long j5), .second, .val (.long j7), .second, .val (.long j9), .second, .val (.int (2 : Int32)), .val (.long j12), .second, .val (.long j14), .second, .val (.long j16), .second, .val (.ref b29), .val (.ref b30), .val (.int (1 : Int32))] [])) _
            refine XS.iconst X44.here hx rfl (hb hby at_178) ?_
            show Steps p.tables e below (T44.setTop (mkF m 179 #[.val (.int i0), .val (.long j1), .second, .val (.long j3), .second, .val (.long j5), .second, .val (.long j7), .second, .val (.long j9), .second, .val (.int (2 : Int32)), .val (.long j12), .second, .val (.long j14), .second, .val (.long j16), .second, .val (.ref b29), .val (.ref b30), .val (.int (1 : Int32))] [(.int (1 : Int32))])) _
            refine XS.goto X44.here hx rfl (pc0 := 179) (pc' := 183) rfl (hb hby at_179) (by decide) (by decide) ?_
            exact kt
          exact own_retZ X44 hx hret (by simp) hlk (hb hby at_183) (by decide) (by decide) ⟨congrArg (fun z => some (Value.int z)) hr.symm, N44⟩
        · rw [if_neg hc175_45] at hr
          refine own_step (T' := T44) (f' := (mkF m 182 #[.val (.int i0), .val (.long j1), .second, .val (.long j3), .second, .val (.long j5), .second, .val (.long j7), .second, .val (.long j9), .second, .val (.int (2 : Int32)), .val (.long j12), .second, .val (.long j14), .second, .val (.long j16), .second, .val (.ref b29), .val (.ref b30), .val (.int (1 : Int32))] [])) (fun t kt => ?_) ?_
          · show Steps p.tables e below (T44.setTop (mkF m 175 #[.val (.int i0), .val (.long j1), .second, .val (.long j3), .second, .val (.long j5), .second, .val (.long j7), .second, .val (.long j9), .second, .val (.int (2 : Int32)), .val (.long j12), .second, .val (.long j14), .second, .val (.long j16), .second, .val (.ref b29), .val (.ref b30), .val (.int (1 : Int32))] [(.int (1 : Int32)), (.int (f1n2_0 j1 j3 j12 j14))])) _
            refine XS.icmpYes X44.here hx rfl (pc0 := 175) (pc' := 182) rfl (hb hby at_175) rfl (feq hc175_45).2 (by decide) (by decide) kt
          refine own_step (T' := T44) (f' := (mkF m 183 #[.val (.int i0), .val (.long j1), .second, .val (.long j3), .second, .val (.long j5), .second, .val (.long j7), .second, .val (.long j9), .second, .val (.int (2 : Int32)), .val (.long j12), .second, .val (.long j14), .second, .val (.long j16), .second, .val (.ref b29), .val (.ref b30), .val (.int (1 : Int32))] [(.int (0 : Int32))])) (fun t kt => ?_) ?_
          · show Steps p.tables e below (T44.setTop (mkF m 182 #[.val (.int i0), .val (.long j1), .second, .val (.long j3), .second, .val (.long j5), .second, .val (.long j7), .second, .val (.long j9), .second, .val (.int (2 : Int32)), .val (.long j12), .second, .val (.long j14), .second, .val (.long j16), .second, .val (.ref b29), .val (.ref b30), .val (.int (1 : Int32))] [])) _
            refine XS.iconst X44.here hx rfl (hb hby at_182) ?_
            exact kt
          exact own_retZ X44 hx hret (by simp) hlk (hb hby at_183) (by decide) (by decide) ⟨congrArg (fun z => some (Value.int z)) hr.symm, N44⟩
      · rw [if_neg hc142_43] at hr
        refine own_step (T' := T36) (f' := (mkF m 145 #[.val (.int i0), .val (.long j1), .second, .val (.long j3), .second, .val (.long j5), .second, .val (.long j7), .second, .val (.long j9), .second, .val (.int (2 : Int32)), .val (.long j12), .second, .val (.long j14), .second, .val (.long j16), .second, .val (.ref b29), .val (.ref b30), .unset] [])) (fun t kt => ?_) ?_
        · show Steps p.tables e below (T36.setTop (mkF m 142 #[.val (.int i0), .val (.long j1), .second, .val (.long j3), .second, .val (.long j5), .second, .val (.long j7), .second, .val (.long j9), .second, .val (.int (2 : Int32)), .val (.long j12), .second, .val (.long j14), .second, .val (.long j16), .second, .val (.ref b29), .val (.ref b30), .unset] [(.int (lcmpW j3 j14))])) _
          refine XS.ifNo X36.here hx rfl (hb hby at_142) rfl ((if0 _ _).trans (feq (mt (lw_eq _ _).mp hc142_43)).1) kt
        refine own_step (T' := T36) (f' := (mkF m 148 #[.val (.int i0), .val (.long j1), .second, .val (.long j3), .second, .val (.long j5), .second, .val (.long j7), .second, .val (.long j9), .second, .val (.int (2 : Int32)), .val (.long j12), .second, .val (.long j14), .second, .val (.long j16), .second, .val (.ref b29), .val (.ref b30), .unset] [(.int (2 : Int32)), (.int (2 : Int32))])) (fun t kt => ?_) ?_
        · show Steps p.tables e below (T36.setTop (mkF m 145 #[.val (.int i0), .val (.long j1), .second, .val (.long j3), .second, .val (.long j5), .second, .val (.long j7), .second, .val (.long j9), .second, .val (.int (2 : Int32)), .val (.long j12), .second, .val (.long j14), .second, .val (.long j16), .second, .val (.ref b29), .val (.ref b30), .unset] [])) _
          refine XS.iload X36.here hx rfl (hb hby at_145) rfl ?_
          show Steps p.tables e below (T36.setTop (mkF m 147 #[.val (.int i0), .val (.long j1), .second, .val (.long j3), .second, .val (.long j5), .second, .val (.long j7), .second, .val (.long j9), .second, .val (.int (2 : Int32)), .val (.long j12), .second, .val (.long j14), .second, .val (.long j16), .second, .val (.ref b29), .val (.ref b30), .unset] [(.int (2 : Int32))])) _
          refine XS.iconst X36.here hx rfl (hb hby at_147) ?_
          exact kt
        refine own_step (T' := T36) (f' := (mkF m 163 #[.val (.int i0), .val (.long j1), .second, .val (.long j3), .second, .val (.long j5), .second, .val (.long j7), .second, .val (.long j9), .second, .val (.int (2 : Int32)), .val (.long j12), .second, .val (.long j14), .second, .val (.long j16), .second, .val (.ref b29), .val (.ref b30), .unset] [])) (fun t kt => ?_) ?_
        · show Steps p.tables e below (T36.setTop (mkF m 148 #[.val (.int i0), .val (.long j1), .second, .val (.long j3), .second, .val (.long j5), .second, .val (.long j7), .second, .val (.long j9), .second, .val (.int (2 : Int32)), .val (.long j12), .second, .val (.long j14), .second, .val (.long j16), .second, .val (.ref b29), .val (.ref b30), .unset] [(.int (2 : Int32)), (.int (2 : Int32))])) _
          refine XS.icmpYes X36.here hx rfl (pc0 := 148) (pc' := 163) rfl (hb hby at_148) rfl (flt (by decide : ¬ ((2 : Int32) < (2 : Int32)))).2.2.2 (by decide) (by decide) kt
        refine own_step (T' := T36) (f' := (mkF m 170 #[.val (.int i0), .val (.long j1), .second, .val (.long j3), .second, .val (.long j5), .second, .val (.long j7), .second, .val (.long j9), .second, .val (.int (2 : Int32)), .val (.long j12), .second, .val (.long j14), .second, .val (.long j16), .second, .val (.ref b29), .val (.ref b30), .val (.int (0 : Int32))] [(.ref b30), (.ref b29)])) (fun t kt => ?_) ?_
        · show Steps p.tables e below (T36.setTop (mkF m 163 #[.val (.int i0), .val (.long j1), .second, .val (.long j3), .second, .val (.long j5), .second, .val (.long j7), .second, .val (.long j9), .second, .val (.int (2 : Int32)), .val (.long j12), .second, .val (.long j14), .second, .val (.long j16), .second, .val (.ref b29), .val (.ref b30), .unset] [])) _
          refine XS.iconst X36.here hx rfl (hb hby at_163) ?_
          show Steps p.tables e below (T36.setTop (mkF m 164 #[.val (.int i0), .val (.long j1), .second, .val (.long j3), .second, .val (.long j5), .second, .val (.long j7), .second, .val (.long j9), .second, .val (.int (2 : Int32)), .val (.long j12), .second, .val (.long j14), .second, .val (.long j16), .second, .val (.ref b29), .val (.ref b30), .unset] [(.int (0 : Int32))])) _
          refine XS.istore X36.here hx rfl (hb hby at_164) rfl (l' := #[.val (.int i0), .val (.long j1), .second, .val (.long j3), .second, .val (.long j5), .second, .val (.long j7), .second, .val (.long j9), .second, .val (.int (2 : Int32)), .val (.long j12), .second, .val (.long j14), .second, .val (.long j16), .second, .val (.ref b29), .val (.ref b30), .val (.int (0 : Int32))]) rfl ?_
          show Steps p.tables e below (T36.setTop (mkF m 166 #[.val (.int i0), .val (.long j1), .second, .val (.long j3), .second, .val (.long j5), .second, .val (.long j7), .second, .val (.long j9), .second, .val (.int (2 : Int32)), .val (.long j12), .second, .val (.long j14), .second, .val (.long j16), .second, .val (.ref b29), .val (.ref b30), .val (.int (0 : Int32))] [])) _
          refine XS.aload X36.here hx rfl (hb hby at_166) rfl rfl ?_
          show Steps p.tables e below (T36.setTop (mkF m 168 #[.val (.int i0), .val (.long j1), .second, .val (.long j3), .second, .val (.long j5), .second, .val (.long j7), .second, .val (.long j9), .second, .val (.int (2 : Int32)), .val (.long j12), .second, .val (.long j14), .second, .val (.long j16), .second, .val (.ref b29), .val (.ref b30), .val (.int (0 : Int32))] [(.ref b29)])) _
          refine XS.aload X36.here hx rfl (hb hby at_168) rfl rfl ?_
          exact kt
        obtain ⟨_, _, ⟨T47, L47, k47, n47⟩, -, X47, ⟨Lc47, hQ47, l47, y47, z47⟩, st47⟩ := Jvm.LawKit.callS X36 hx (y := (⟨"com/example/nearsame/nearsame/Banding", "agree", "([J[J)Z"⟩ : MethodName)) hown (mvT hZ (hw _ (List.mem_of_getElem? (i := 1) rfl))) (mvT hZ (hw _ (List.mem_of_getElem? (i := 2) rfl))) (mvT hZ (hw _ (List.mem_of_getElem? (i := 3) rfl))) (mvT hZ (hw _ (List.mem_of_getElem? (i := 4) rfl))) (by decide) (backOf (W := 0) (rm1n2 l Z a0 hw [] b29 b30 j1 j3 j12 j14 h36 n0 Ab29_36 Ab30_36) hZ (hw _ (List.mem_of_getElem? (i := 4) rfl)) (hw _ (List.mem_of_getElem? (i := 3) rfl)) (by decide) (by decide)) (g := (mkF m 170 #[.val (.int i0), .val (.long j1), .second, .val (.long j3), .second, .val (.long j5), .second, .val (.long j7), .second, .val (.long j9), .second, .val (.int (2 : Int32)), .val (.long j12), .second, .val (.long j14), .second, .val (.long j16), .second, .val (.ref b29), .val (.ref b30), .val (.int (0 : Int32))] [(.ref b30), (.ref b29)])) rfl (by rw [hml]; rfl) (argsL := [(.ref b29), (.ref b30)]) (rest := []) (lenOf pd1 rfl) rfl (by show 2 * 0 + _ ≤ _; exact Nat.le_of_eq rfl) (hb hby at_170) (fun _ _ => ⟨rfl, e36, (by decide : 2 + 0 ≤ _), (by decide : 4 + 0 ≤ _)⟩)
        dsimp only [Pt.U, Pt.locs, Pt.cells, Pt.slots] at X47 l47 y47 z47 st47 hQ47
        subst l47 y47 z47
        obtain ⟨rfl, Nq47, e47⟩ := hQ47
        have N47 := Fr.app N36 Nq47
        refine own_step (T' := T47) (f' := (mkF m 173 #[.val (.int i0), .val (.long j1), .second, .val (.long j3), .second, .val (.long j5), .second, .val (.long j7), .second, .val (.long j9), .second, .val (.int (2 : Int32)), .val (.long j12), .second, .val (.long j14), .second, .val (.long j16), .second, .val (.ref b29), .val (.ref b30), .val (.int (0 : Int32))] [(.int (f1n2_0 j1 j3 j12 j14))])) st47 ?_
        refine own_step (T' := T47) (f' := (mkF m 175 #[.val (.int i0), .val (.long j1), .second, .val (.long j3), .second, .val (.long j5), .second, .val (.long j7), .second, .val (.long j9), .second, .val (.int (2 : Int32)), .val (.long j12), .second, .val (.long j14), .second, .val (.long j16), .second, .val (.ref b29), .val (.ref b30), .val (.int (0 : Int32))] [(.int (0 : Int32)), (.int (f1n2_0 j1 j3 j12 j14))])) (fun t kt => ?_) ?_
        · show Steps p.tables e below (T47.setTop (mkF m 173 #[.val (.int i0), .val (.long j1), .second, .val (.long j3), .second, .val (.long j5), .second, .val (.long j7), .second, .val (.long j9), .second, .val (.int (2 : Int32)), .val (.long j12), .second, .val (.long j14), .second, .val (.long j16), .second, .val (.ref b29), .val (.ref b30), .val (.int (0 : Int32))] [(.int (f1n2_0 j1 j3 j12 j14))])) _
          refine XS.iload X47.here hx rfl (hb hby at_173) rfl ?_
          exact kt
        by_cases hc175_48 : (f1n2_0 j1 j3 j12 j14) = (0 : Int32)
        · rw [if_pos hc175_48] at hr
          refine own_step (T' := T47) (f' := (mkF m 178 #[.val (.int i0), .val (.long j1), .second, .val (.long j3), .second, .val (.long j5), .second, .val (.long j7), .second, .val (.long j9), .second, .val (.int (2 : Int32)), .val (.long j12), .second, .val (.long j14), .second, .val (.long j16), .second, .val (.ref b29), .val (.ref b30), .val (.int (0 : Int32))] [])) (fun t kt => ?_) ?_
          · show Steps p.tables e below (T47.setTop (mkF m 175 #[.val (.int i0), .val (.long j1), .second, .val (.long j3), .second, .val (.long j5), .second, .val (.long j7), .second, .val (.long j9), .second, .val (.int (2 : Int32)), .val (.long j12), .second, .val (.long j14), .second, .val (.long j16), .second, .val (.ref b29), .val (.ref b30), .val (.int (0 : Int32))] [(.int (0 : Int32)), (.int (f1n2_0 j1 j3 j12 j14))])) _
            refine XS.icmpNo X47.here hx rfl (hb hby at_175) rfl (teq hc175_48).2 kt
          refine own_step (T' := T47) (f' := (mkF m 183 #[.val (.int i0), .val (.long j1), .second, .val (.long j3), .second, .val (.long j5), .second, .val (.long j7), .second, .val (.long j9), .second, .val (.int (2 : Int32)), .val (.long j12), .second, .val (.long j14), .second, .val (.long j16), .second, .val (.ref b29), .val (.ref b30), .val (.int (0 : Int32))] [(.int (1 : Int32))])) (fun t kt => ?_) ?_
          · show Steps p.tables e below (T47.setTop (mkF m 178 #[.val (.int i0), .val (.long j1), .second, .val (.long j3), .second, .val (.long j5), .second, .val (.long j7), .second, .val (.long j9), .second, .val (.int (2 : Int32)), .val (.long j12), .second, .val (.long j14), .second, .val (.long j16), .second, .val (.ref b29), .val (.ref b30), .val (.int (0 : Int32))] [])) _
            refine XS.iconst X47.here hx rfl (hb hby at_178) ?_
            show Steps p.tables e below (T47.setTop (mkF m 179 #[.val (.int i0), .val (.long j1), .second, .val (.long j3), .second, .val (.long j5), .second, .val (.long j7), .second, .val (.long j9), .second, .val (.int (2 : Int32)), .val (.long j12), .second, .val (.long j14), .second, .val (.long j16), .second, .val (.ref b29), .val (.ref b30), .val (.int (0 : Int32))] [(.int (1 : Int32))])) _
            refine XS.goto X47.here hx rfl (pc0 := 179) (pc' := 183) rfl (hb hby at_179) (by decide) (by decide) ?_
            exact kt
          exact own_retZ X47 hx hret (by simp) hlk (hb hby at_183) (by decide) (by decide) ⟨congrArg (fun z => some (Value.int z)) hr.symm, N47⟩
        · rw [if_neg hc175_48] at hr
          refine own_step (T' := T47) (f' := (mkF m 182 #[.val (.int i0), .val (.long j1), .second, .val (.long j3), .second, .val (.long j5), .second, .val (.long j7), .second, .val (.long j9), .second, .val (.int (2 : Int32)), .val (.long j12), .second, .val (.long j14), .second, .val (.long j16), .second, .val (.ref b29), .val (.ref b30), .val (.int (0 : Int32))] [])) (fun t kt => ?_) ?_
          · show Steps p.tables e below (T47.setTop (mkF m 175 #[.val (.int i0), .val (.long j1), .second, .val (.long j3), .second, .val (.long j5), .second, .val (.long j7), .second, .val (.long j9), .second, .val (.int (2 : Int32)), .val (.long j12), .second, .val (.long j14), .second, .val (.long j16), .second, .val (.ref b29), .val (.ref b30), .val (.int (0 : Int32))] [(.int (0 : Int32)), (.int (f1n2_0 j1 j3 j12 j14))])) _
            refine XS.icmpYes X47.here hx rfl (pc0 := 175) (pc' := 182) rfl (hb hby at_175) rfl (feq hc175_48).2 (by decide) (by decide) kt
          refine own_step (T' := T47) (f' := (mkF m 183 #[.val (.int i0), .val (.long j1), .second, .val (.long j3), .second, .val (.long j5), .second, .val (.long j7), .second, .val (.long j9), .second, .val (.int (2 : Int32)), .val (.long j12), .second, .val (.long j14), .second, .val (.long j16), .second, .val (.ref b29), .val (.ref b30), .val (.int (0 : Int32))] [(.int (0 : Int32))])) (fun t kt => ?_) ?_
          · show Steps p.tables e below (T47.setTop (mkF m 182 #[.val (.int i0), .val (.long j1), .second, .val (.long j3), .second, .val (.long j5), .second, .val (.long j7), .second, .val (.long j9), .second, .val (.int (2 : Int32)), .val (.long j12), .second, .val (.long j14), .second, .val (.long j16), .second, .val (.ref b29), .val (.ref b30), .val (.int (0 : Int32))] [])) _
            refine XS.iconst X47.here hx rfl (hb hby at_182) ?_
            exact kt
          exact own_retZ X47 hx hret (by simp) hlk (hb hby at_183) (by decide) (by decide) ⟨congrArg (fun z => some (Value.int z)) hr.symm, N47⟩
  · rw [if_neg (by decide), if_neg (by decide), if_neg (by decide), if_pos rfl] at hr
    refine own_step (T' := T0) (f' := (mkF m 59 #[.val (.int i0), .val (.long j1), .second, .val (.long j3), .second, .val (.long j5), .second, .val (.long j7), .second, .val (.long j9), .second, .val (.int (3 : Int32)), .val (.long j12), .second, .val (.long j14), .second, .val (.long j16), .second, .unset, .unset, .unset] [(.int (3 : Int32))])) (fun t kt => ?_) ?_
    · show Steps p.tables e below (T0.setTop (mkF m 57 #[.val (.int i0), .val (.long j1), .second, .val (.long j3), .second, .val (.long j5), .second, .val (.long j7), .second, .val (.long j9), .second, .val (.int (3 : Int32)), .val (.long j12), .second, .val (.long j14), .second, .val (.long j16), .second, .unset, .unset, .unset] [])) _
      refine XS.iload X0.here hx rfl (hb hby at_57) rfl ?_
      exact kt
    obtain ⟨T49, h49, b49, X49, e49, Ex49, gb49, g49, Z49, Aq49, st49⟩ := own_new X0 hx hZ (aty := .long) (hw _ (List.mem_of_getElem? (i := 0) rfl)) e0 (g := (mkF m 59 #[.val (.int i0), .val (.long j1), .second, .val (.long j3), .second, .val (.long j5), .second, .val (.long j7), .second, .val (.long j9), .second, .val (.int (3 : Int32)), .val (.long j12), .second, .val (.long j14), .second, .val (.long j16), .second, .unset, .unset, .unset] [(.int (3 : Int32))])) rfl (hb hby at_59) rfl (by decide) (k := 3) (by decide) (by decide) (by decide) (by decide) Z0
    have Ab49_49 : own_A Z h49 b49 .long [(.long (0 : Int64)), (.long (0 : Int64)), (.long (0 : Int64))] := Aq49
    refine own_step (T' := T49) (f' := (mkF m 61 #[.val (.int i0), .val (.long j1), .second, .val (.long j3), .second, .val (.long j5), .second, .val (.long j7), .second, .val (.long j9), .second, .val (.int (3 : Int32)), .val (.long j12), .second, .val (.long j14), .second, .val (.long j16), .second, .unset, .unset, .unset] [(.ref b49)])) st49 ?_
    refine own_step (T' := T49) (f' := (mkF m 65 #[.val (.int i0), .val (.long j1), .second, .val (.long j3), .second, .val (.long j5), .second, .val (.long j7), .second, .val (.long j9), .second, .val (.int (3 : Int32)), .val (.long j12), .second, .val (.long j14), .second, .val (.long j16), .second, .val (.ref b49), .unset, .unset] [(.int (3 : Int32))])) (fun t kt => ?_) ?_
    · show Steps p.tables e below (T49.setTop (mkF m 61 #[.val (.int i0), .val (.long j1), .second, .val (.long j3), .second, .val (.long j5), .second, .val (.long j7), .second, .val (.long j9), .second, .val (.int (3 : Int32)), .val (.long j12), .second, .val (.long j14), .second, .val (.long j16), .second, .unset, .unset, .unset] [(.ref b49)])) _
      refine XS.astore X49.here hx rfl (hb hby at_61) rfl rfl (l' := #[.val (.int i0), .val (.long j1), .second, .val (.long j3), .second, .val (.long j5), .second, .val (.long j7), .second, .val (.long j9), .second, .val (.int (3 : Int32)), .val (.long j12), .second, .val (.long j14), .second, .val (.long j16), .second, .val (.ref b49), .unset, .unset]) rfl ?_
      show Steps p.tables e below (T49.setTop (mkF m 63 #[.val (.int i0), .val (.long j1), .second, .val (.long j3), .second, .val (.long j5), .second, .val (.long j7), .second, .val (.long j9), .second, .val (.int (3 : Int32)), .val (.long j12), .second, .val (.long j14), .second, .val (.long j16), .second, .val (.ref b49), .unset, .unset] [])) _
      refine XS.iload X49.here hx rfl (hb hby at_63) rfl ?_
      exact kt
    obtain ⟨T50, h50, b50, X50, e50, Ex50, gb50, g50, Z50, Aq50, st50⟩ := own_new X49 hx hZ (aty := .long) (hw _ (List.mem_of_getElem? (i := 0) rfl)) e49 (g := (mkF m 65 #[.val (.int i0), .val (.long j1), .second, .val (.long j3), .second, .val (.long j5), .second, .val (.long j7), .second, .val (.long j9), .second, .val (.int (3 : Int32)), .val (.long j12), .second, .val (.long j14), .second, .val (.long j16), .second, .val (.ref b49), .unset, .unset] [(.int (3 : Int32))])) rfl (hb hby at_65) rfl (by decide) (k := 3) (by decide) (by decide) (by decide) (by decide) Z49
    have ne_b49_b50 : b49 ≠ b50 := Nat.ne_of_lt (gb50 ▸ Ab49_49.lt)
    have Ab49_50 := Ab49_49.ext Ex50
    have Ab50_50 : own_A Z h50 b50 .long [(.long (0 : Int64)), (.long (0 : Int64)), (.long (0 : Int64))] := Aq50
    refine own_step (T' := T50) (f' := (mkF m 67 #[.val (.int i0), .val (.long j1), .second, .val (.long j3), .second, .val (.long j5), .second, .val (.long j7), .second, .val (.long j9), .second, .val (.int (3 : Int32)), .val (.long j12), .second, .val (.long j14), .second, .val (.long j16), .second, .val (.ref b49), .unset, .unset] [(.ref b50)])) st50 ?_
    refine own_step (T' := T50) (f' := (mkF m 71 #[.val (.int i0), .val (.long j1), .second, .val (.long j3), .second, .val (.long j5), .second, .val (.long j7), .second, .val (.long j9), .second, .val (.int (3 : Int32)), .val (.long j12), .second, .val (.long j14), .second, .val (.long j16), .second, .val (.ref b49), .val (.ref b50), .unset] [(.int (3 : Int32))])) (fun t kt => ?_) ?_
    · show Steps p.tables e below (T50.setTop (mkF m 67 #[.val (.int i0), .val (.long j1), .second, .val (.long j3), .second, .val (.long j5), .second, .val (.long j7), .second, .val (.long j9), .second, .val (.int (3 : Int32)), .val (.long j12), .second, .val (.long j14), .second, .val (.long j16), .second, .val (.ref b49), .unset, .unset] [(.ref b50)])) _
      refine XS.astore X50.here hx rfl (hb hby at_67) rfl rfl (l' := #[.val (.int i0), .val (.long j1), .second, .val (.long j3), .second, .val (.long j5), .second, .val (.long j7), .second, .val (.long j9), .second, .val (.int (3 : Int32)), .val (.long j12), .second, .val (.long j14), .second, .val (.long j16), .second, .val (.ref b49), .val (.ref b50), .unset]) rfl ?_
      show Steps p.tables e below (T50.setTop (mkF m 69 #[.val (.int i0), .val (.long j1), .second, .val (.long j3), .second, .val (.long j5), .second, .val (.long j7), .second, .val (.long j9), .second, .val (.int (3 : Int32)), .val (.long j12), .second, .val (.long j14), .second, .val (.long j16), .second, .val (.ref b49), .val (.ref b50), .unset] [])) _
      refine XS.iload X50.here hx rfl (hb hby at_69) rfl ?_
      exact kt
    refine own_step (T' := T50) (f' := (mkF m 74 #[.val (.int i0), .val (.long j1), .second, .val (.long j3), .second, .val (.long j5), .second, .val (.long j7), .second, .val (.long j9), .second, .val (.int (3 : Int32)), .val (.long j12), .second, .val (.long j14), .second, .val (.long j16), .second, .val (.ref b49), .val (.ref b50), .unset] [])) (fun t kt => ?_) ?_
    · show Steps p.tables e below (T50.setTop (mkF m 71 #[.val (.int i0), .val (.long j1), .second, .val (.long j3), .second, .val (.long j5), .second, .val (.long j7), .second, .val (.long j9), .second, .val (.int (3 : Int32)), .val (.long j12), .second, .val (.long j14), .second, .val (.long j16), .second, .val (.ref b49), .val (.ref b50), .unset] [(.int (3 : Int32))])) _
      refine XS.ifNo X50.here hx rfl (hb hby at_71) rfl ((if0 _ _).trans (tlt (by decide : ((0 : Int32) < (3 : Int32)))).2.2.2) kt
    refine own_step (T' := T50) (f' := (mkF m 78 #[.val (.int i0), .val (.long j1), .second, .val (.long j3), .second, .val (.long j5), .second, .val (.long j7), .second, .val (.long j9), .second, .val (.int (3 : Int32)), .val (.long j12), .second, .val (.long j14), .second, .val (.long j16), .second, .val (.ref b49), .val (.ref b50), .unset] [(.long j1), (.int (0 : Int32)), (.ref b49)])) (fun t kt => ?_) ?_
    · show Steps p.tables e below (T50.setTop (mkF m 74 #[.val (.int i0), .val (.long j1), .second, .val (.long j3), .second, .val (.long j5), .second, .val (.long j7), .second, .val (.long j9), .second, .val (.int (3 : Int32)), .val (.long j12), .second, .val (.long j14), .second, .val (.long j16), .second, .val (.ref b49), .val (.ref b50), .unset] [])) _
      refine XS.aload X50.here hx rfl (hb hby at_74) rfl rfl ?_
      show Steps p.tables e below (T50.setTop (mkF m 76 #[.val (.int i0), .val (.long j1), .second, .val (.long j3), .second, .val (.long j5), .second, .val (.long j7), .second, .val (.long j9), .second, .val (.int (3 : Int32)), .val (.long j12), .second, .val (.long j14), .second, .val (.long j16), .second, .val (.ref b49), .val (.ref b50), .unset] [(.ref b49)])) _
      refine XS.iconst X50.here hx rfl (hb hby at_76) ?_
      show Steps p.tables e below (T50.setTop (mkF m 77 #[.val (.int i0), .val (.long j1), .second, .val (.long j3), .second, .val (.long j5), .second, .val (.long j7), .second, .val (.long j9), .second, .val (.int (3 : Int32)), .val (.long j12), .second, .val (.long j14), .second, .val (.long j16), .second, .val (.ref b49), .val (.ref b50), .unset] [(.int (0 : Int32)), (.ref b49)])) _
      refine XS.lloadN X50.here hx rfl (hb hby at_77) rfl ?_
      exact kt
    obtain ⟨T52, h52, Lq52, X52, N52, e52, W52, Z52, Aq52, st52⟩ := own_stJ X50 hx hZ e50 Ab49_50 (j := (0 : Int32)) (by decide) (k := 0) (by decide) (Nat.le_of_ble_eq_true rfl) N0 g49 Z50 (g := (mkF m 78 #[.val (.int i0), .val (.long j1), .second, .val (.long j3), .second, .val (.long j5), .second, .val (.long j7), .second, .val (.long j9), .second, .val (.int (3 : Int32)), .val (.long j12), .second, .val (.long j14), .second, .val (.long j16), .second, .val (.ref b49), .val (.ref b50), .unset] [(.long j1), (.int (0 : Int32)), (.ref b49)])) rfl rfl (hb hby at_78)
    have Ab50_52 := Ab50_50.other W52 (Ne.symm ne_b49_b50)
    have Ab49_52 : own_A Z h52 b49 .long [(.long j1), (.long (0 : Int64)), (.long (0 : Int64))] := Aq52
    refine own_step (T' := T52) (f' := (mkF m 79 #[.val (.int i0), .val (.long j1), .second, .val (.long j3), .second, .val (.long j5), .second, .val (.long j7), .second, .val (.long j9), .second, .val (.int (3 : Int32)), .val (.long j12), .second, .val (.long j14), .second, .val (.long j16), .second, .val (.ref b49), .val (.ref b50), .unset] [])) st52 ?_
    refine own_step (T' := T52) (f' := (mkF m 84 #[.val (.int i0), .val (.long j1), .second, .val (.long j3), .second, .val (.long j5), .second, .val (.long j7), .second, .val (.long j9), .second, .val (.int (3 : Int32)), .val (.long j12), .second, .val (.long j14), .second, .val (.long j16), .second, .val (.ref b49), .val (.ref b50), .unset] [(.long j12), (.int (0 : Int32)), (.ref b50)])) (fun t kt => ?_) ?_
    · show Steps p.tables e below (T52.setTop (mkF m 79 #[.val (.int i0), .val (.long j1), .second, .val (.long j3), .second, .val (.long j5), .second, .val (.long j7), .second, .val (.long j9), .second, .val (.int (3 : Int32)), .val (.long j12), .second, .val (.long j14), .second, .val (.long j16), .second, .val (.ref b49), .val (.ref b50), .unset] [])) _
      refine XS.aload X52.here hx rfl (hb hby at_79) rfl rfl ?_
      show Steps p.tables e below (T52.setTop (mkF m 81 #[.val (.int i0), .val (.long j1), .second, .val (.long j3), .second, .val (.long j5), .second, .val (.long j7), .second, .val (.long j9), .second, .val (.int (3 : Int32)), .val (.long j12), .second, .val (.long j14), .second, .val (.long j16), .second, .val (.ref b49), .val (.ref b50), .unset] [(.ref b50)])) _
      refine XS.iconst X52.here hx rfl (hb hby at_81) ?_
      show Steps p.tables e below (T52.setTop (mkF m 82 #[.val (.int i0), .val (.long j1), .second, .val (.long j3), .second, .val (.long j5), .second, .val (.long j7), .second, .val (.long j9), .second, .val (.int (3 : Int32)), .val (.long j12), .second, .val (.long j14), .second, .val (.long j16), .second, .val (.ref b49), .val (.ref b50), .unset] [(.int (0 : Int32)), (.ref b50)])) _
      refine XS.lload X52.here hx rfl (hb hby at_82) rfl ?_
      exact kt
    obtain ⟨T53, h53, Lq53, X53, N53, e53, W53, Z53, Aq53, st53⟩ := own_stJ X52 hx hZ e52 Ab50_52 (j := (0 : Int32)) (by decide) (k := 0) (by decide) (Nat.le_of_ble_eq_true rfl) N52 g50 Z52 (g := (mkF m 84 #[.val (.int i0), .val (.long j1), .second, .val (.long j3), .second, .val (.long j5), .second, .val (.long j7), .second, .val (.long j9), .second, .val (.int (3 : Int32)), .val (.long j12), .second, .val (.long j14), .second, .val (.long j16), .second, .val (.ref b49), .val (.ref b50), .unset] [(.long j12), (.int (0 : Int32)), (.ref b50)])) rfl rfl (hb hby at_84)
    have Ab49_53 := Ab49_52.other W53 ne_b49_b50
    have Ab50_53 : own_A Z h53 b50 .long [(.long j12), (.long (0 : Int64)), (.long (0 : Int64))] := Aq53
    refine own_step (T' := T53) (f' := (mkF m 85 #[.val (.int i0), .val (.long j1), .second, .val (.long j3), .second, .val (.long j5), .second, .val (.long j7), .second, .val (.long j9), .second, .val (.int (3 : Int32)), .val (.long j12), .second, .val (.long j14), .second, .val (.long j16), .second, .val (.ref b49), .val (.ref b50), .unset] [])) st53 ?_
    refine own_step (T' := T53) (f' := (mkF m 88 #[.val (.int i0), .val (.long j1), .second, .val (.long j3), .second, .val (.long j5), .second, .val (.long j7), .second, .val (.long j9), .second, .val (.int (3 : Int32)), .val (.long j12), .second, .val (.long j14), .second, .val (.long j16), .second, .val (.ref b49), .val (.ref b50), .unset] [(.int (1 : Int32)), (.int (3 : Int32))])) (fun t kt => ?_) ?_
    · show Steps p.tables e below (T53.setTop (mkF m 85 #[.val (.int i0), .val (.long j1), .second, .val (.long j3), .second, .val (.long j5), .second, .val (.long j7), .second, .val (.long j9), .second, .val (.int (3 : Int32)), .val (.long j12), .second, .val (.long j14), .second, .val (.long j16), .second, .val (.ref b49), .val (.ref b50), .unset] [])) _
      refine XS.iload X53.here hx rfl (hb hby at_85) rfl ?_
      show Steps p.tables e below (T53.setTop (mkF m 87 #[.val (.int i0), .val (.long j1), .second, .val (.long j3), .second, .val (.long j5), .second, .val (.long j7), .second, .val (.long j9), .second, .val (.int (3 : Int32)), .val (.long j12), .second, .val (.long j14), .second, .val (.long j16), .second, .val (.ref b49), .val (.ref b50), .unset] [(.int (3 : Int32))])) _
      refine XS.iconst X53.here hx rfl (hb hby at_87) ?_
      exact kt
    refine own_step (T' := T53) (f' := (mkF m 91 #[.val (.int i0), .val (.long j1), .second, .val (.long j3), .second, .val (.long j5), .second, .val (.long j7), .second, .val (.long j9), .second, .val (.int (3 : Int32)), .val (.long j12), .second, .val (.long j14), .second, .val (.long j16), .second, .val (.ref b49), .val (.ref b50), .unset] [])) (fun t kt => ?_) ?_
    · show Steps p.tables e below (T53.setTop (mkF m 88 #[.val (.int i0), .val (.long j1), .second, .val (.long j3), .second, .val (.long j5), .second, .val (.long j7), .second, .val (.long j9), .second, .val (.int (3 : Int32)), .val (.long j12), .second, .val (.long j14), .second, .val (.long j16), .second, .val (.ref b49), .val (.ref b50), .unset] [(.int (1 : Int32)), (.int (3 : Int32))])) _
      refine XS.icmpNo X53.here hx rfl (hb hby at_88) rfl (tlt (by decide : ((1 : Int32) < (3 : Int32)))).2.2.2 kt
    refine own_step (T' := T53) (f' := (mkF m 95 #[.val (.int i0), .val (.long j1), .second, .val (.long j3), .second, .val (.long j5), .second, .val (.long j7), .second, .val (.long j9), .second, .val (.int (3 : Int32)), .val (.long j12), .second, .val (.long j14), .second, .val (.long j16), .second, .val (.ref b49), .val (.ref b50), .unset] [(.long j3), (.int (1 : Int32)), (.ref b49)])) (fun t kt => ?_) ?_
    · show Steps p.tables e below (T53.setTop (mkF m 91 #[.val (.int i0), .val (.long j1), .second, .val (.long j3), .second, .val (.long j5), .second, .val (.long j7), .second, .val (.long j9), .second, .val (.int (3 : Int32)), .val (.long j12), .second, .val (.long j14), .second, .val (.long j16), .second, .val (.ref b49), .val (.ref b50), .unset] [])) _
      refine XS.aload X53.here hx rfl (hb hby at_91) rfl rfl ?_
      show Steps p.tables e below (T53.setTop (mkF m 93 #[.val (.int i0), .val (.long j1), .second, .val (.long j3), .second, .val (.long j5), .second, .val (.long j7), .second, .val (.long j9), .second, .val (.int (3 : Int32)), .val (.long j12), .second, .val (.long j14), .second, .val (.long j16), .second, .val (.ref b49), .val (.ref b50), .unset] [(.ref b49)])) _
      refine XS.iconst X53.here hx rfl (hb hby at_93) ?_
      show Steps p.tables e below (T53.setTop (mkF m 94 #[.val (.int i0), .val (.long j1), .second, .val (.long j3), .second, .val (.long j5), .second, .val (.long j7), .second, .val (.long j9), .second, .val (.int (3 : Int32)), .val (.long j12), .second, .val (.long j14), .second, .val (.long j16), .second, .val (.ref b49), .val (.ref b50), .unset] [(.int (1 : Int32)), (.ref b49)])) _
      refine XS.lloadN X53.here hx rfl (hb hby at_94) rfl ?_
      exact kt
    obtain ⟨T55, h55, Lq55, X55, N55, e55, W55, Z55, Aq55, st55⟩ := own_stJ X53 hx hZ e53 Ab49_53 (j := (1 : Int32)) (by decide) (k := 1) (by decide) (Nat.le_of_ble_eq_true rfl) N53 g49 Z53 (g := (mkF m 95 #[.val (.int i0), .val (.long j1), .second, .val (.long j3), .second, .val (.long j5), .second, .val (.long j7), .second, .val (.long j9), .second, .val (.int (3 : Int32)), .val (.long j12), .second, .val (.long j14), .second, .val (.long j16), .second, .val (.ref b49), .val (.ref b50), .unset] [(.long j3), (.int (1 : Int32)), (.ref b49)])) rfl rfl (hb hby at_95)
    have Ab50_55 := Ab50_53.other W55 (Ne.symm ne_b49_b50)
    have Ab49_55 : own_A Z h55 b49 .long [(.long j1), (.long j3), (.long (0 : Int64))] := Aq55
    refine own_step (T' := T55) (f' := (mkF m 96 #[.val (.int i0), .val (.long j1), .second, .val (.long j3), .second, .val (.long j5), .second, .val (.long j7), .second, .val (.long j9), .second, .val (.int (3 : Int32)), .val (.long j12), .second, .val (.long j14), .second, .val (.long j16), .second, .val (.ref b49), .val (.ref b50), .unset] [])) st55 ?_
    refine own_step (T' := T55) (f' := (mkF m 101 #[.val (.int i0), .val (.long j1), .second, .val (.long j3), .second, .val (.long j5), .second, .val (.long j7), .second, .val (.long j9), .second, .val (.int (3 : Int32)), .val (.long j12), .second, .val (.long j14), .second, .val (.long j16), .second, .val (.ref b49), .val (.ref b50), .unset] [(.long j14), (.int (1 : Int32)), (.ref b50)])) (fun t kt => ?_) ?_
    · show Steps p.tables e below (T55.setTop (mkF m 96 #[.val (.int i0), .val (.long j1), .second, .val (.long j3), .second, .val (.long j5), .second, .val (.long j7), .second, .val (.long j9), .second, .val (.int (3 : Int32)), .val (.long j12), .second, .val (.long j14), .second, .val (.long j16), .second, .val (.ref b49), .val (.ref b50), .unset] [])) _
      refine XS.aload X55.here hx rfl (hb hby at_96) rfl rfl ?_
      show Steps p.tables e below (T55.setTop (mkF m 98 #[.val (.int i0), .val (.long j1), .second, .val (.long j3), .second, .val (.long j5), .second, .val (.long j7), .second, .val (.long j9), .second, .val (.int (3 : Int32)), .val (.long j12), .second, .val (.long j14), .second, .val (.long j16), .second, .val (.ref b49), .val (.ref b50), .unset] [(.ref b50)])) _
      refine XS.iconst X55.here hx rfl (hb hby at_98) ?_
      show Steps p.tables e below (T55.setTop (mkF m 99 #[.val (.int i0), .val (.long j1), .second, .val (.long j3), .second, .val (.long j5), .second, .val (.long j7), .second, .val (.long j9), .second, .val (.int (3 : Int32)), .val (.long j12), .second, .val (.long j14), .second, .val (.long j16), .second, .val (.ref b49), .val (.ref b50), .unset] [(.int (1 : Int32)), (.ref b50)])) _
      refine XS.lload X55.here hx rfl (hb hby at_99) rfl ?_
      exact kt
    obtain ⟨T56, h56, Lq56, X56, N56, e56, W56, Z56, Aq56, st56⟩ := own_stJ X55 hx hZ e55 Ab50_55 (j := (1 : Int32)) (by decide) (k := 1) (by decide) (Nat.le_of_ble_eq_true rfl) N55 g50 Z55 (g := (mkF m 101 #[.val (.int i0), .val (.long j1), .second, .val (.long j3), .second, .val (.long j5), .second, .val (.long j7), .second, .val (.long j9), .second, .val (.int (3 : Int32)), .val (.long j12), .second, .val (.long j14), .second, .val (.long j16), .second, .val (.ref b49), .val (.ref b50), .unset] [(.long j14), (.int (1 : Int32)), (.ref b50)])) rfl rfl (hb hby at_101)
    have Ab49_56 := Ab49_55.other W56 ne_b49_b50
    have Ab50_56 : own_A Z h56 b50 .long [(.long j12), (.long j14), (.long (0 : Int64))] := Aq56
    refine own_step (T' := T56) (f' := (mkF m 102 #[.val (.int i0), .val (.long j1), .second, .val (.long j3), .second, .val (.long j5), .second, .val (.long j7), .second, .val (.long j9), .second, .val (.int (3 : Int32)), .val (.long j12), .second, .val (.long j14), .second, .val (.long j16), .second, .val (.ref b49), .val (.ref b50), .unset] [])) st56 ?_
    refine own_step (T' := T56) (f' := (mkF m 105 #[.val (.int i0), .val (.long j1), .second, .val (.long j3), .second, .val (.long j5), .second, .val (.long j7), .second, .val (.long j9), .second, .val (.int (3 : Int32)), .val (.long j12), .second, .val (.long j14), .second, .val (.long j16), .second, .val (.ref b49), .val (.ref b50), .unset] [(.int (2 : Int32)), (.int (3 : Int32))])) (fun t kt => ?_) ?_
    · show Steps p.tables e below (T56.setTop (mkF m 102 #[.val (.int i0), .val (.long j1), .second, .val (.long j3), .second, .val (.long j5), .second, .val (.long j7), .second, .val (.long j9), .second, .val (.int (3 : Int32)), .val (.long j12), .second, .val (.long j14), .second, .val (.long j16), .second, .val (.ref b49), .val (.ref b50), .unset] [])) _
      refine XS.iload X56.here hx rfl (hb hby at_102) rfl ?_
      show Steps p.tables e below (T56.setTop (mkF m 104 #[.val (.int i0), .val (.long j1), .second, .val (.long j3), .second, .val (.long j5), .second, .val (.long j7), .second, .val (.long j9), .second, .val (.int (3 : Int32)), .val (.long j12), .second, .val (.long j14), .second, .val (.long j16), .second, .val (.ref b49), .val (.ref b50), .unset] [(.int (3 : Int32))])) _
      refine XS.iconst X56.here hx rfl (hb hby at_104) ?_
      exact kt
    refine own_step (T' := T56) (f' := (mkF m 108 #[.val (.int i0), .val (.long j1), .second, .val (.long j3), .second, .val (.long j5), .second, .val (.long j7), .second, .val (.long j9), .second, .val (.int (3 : Int32)), .val (.long j12), .second, .val (.long j14), .second, .val (.long j16), .second, .val (.ref b49), .val (.ref b50), .unset] [])) (fun t kt => ?_) ?_
    · show Steps p.tables e below (T56.setTop (mkF m 105 #[.val (.int i0), .val (.long j1), .second, .val (.long j3), .second, .val (.long j5), .second, .val (.long j7), .second, .val (.long j9), .second, .val (.int (3 : Int32)), .val (.long j12), .second, .val (.long j14), .second, .val (.long j16), .second, .val (.ref b49), .val (.ref b50), .unset] [(.int (2 : Int32)), (.int (3 : Int32))])) _
      refine XS.icmpNo X56.here hx rfl (hb hby at_105) rfl (tlt (by decide : ((2 : Int32) < (3 : Int32)))).2.2.2 kt
    refine own_step (T' := T56) (f' := (mkF m 113 #[.val (.int i0), .val (.long j1), .second, .val (.long j3), .second, .val (.long j5), .second, .val (.long j7), .second, .val (.long j9), .second, .val (.int (3 : Int32)), .val (.long j12), .second, .val (.long j14), .second, .val (.long j16), .second, .val (.ref b49), .val (.ref b50), .unset] [(.long j5), (.int (2 : Int32)), (.ref b49)])) (fun t kt => ?_) ?_
    · show Steps p.tables e below (T56.setTop (mkF m 108 #[.val (.int i0), .val (.long j1), .second, .val (.long j3), .second, .val (.long j5), .second, .val (.long j7), .second, .val (.long j9), .second, .val (.int (3 : Int32)), .val (.long j12), .second, .val (.long j14), .second, .val (.long j16), .second, .val (.ref b49), .val (.ref b50), .unset] [])) _
      refine XS.aload X56.here hx rfl (hb hby at_108) rfl rfl ?_
      show Steps p.tables e below (T56.setTop (mkF m 110 #[.val (.int i0), .val (.long j1), .second, .val (.long j3), .second, .val (.long j5), .second, .val (.long j7), .second, .val (.long j9), .second, .val (.int (3 : Int32)), .val (.long j12), .second, .val (.long j14), .second, .val (.long j16), .second, .val (.ref b49), .val (.ref b50), .unset] [(.ref b49)])) _
      refine XS.iconst X56.here hx rfl (hb hby at_110) ?_
      show Steps p.tables e below (T56.setTop (mkF m 111 #[.val (.int i0), .val (.long j1), .second, .val (.long j3), .second, .val (.long j5), .second, .val (.long j7), .second, .val (.long j9), .second, .val (.int (3 : Int32)), .val (.long j12), .second, .val (.long j14), .second, .val (.long j16), .second, .val (.ref b49), .val (.ref b50), .unset] [(.int (2 : Int32)), (.ref b49)])) _
      refine XS.lload X56.here hx rfl (hb hby at_111) rfl ?_
      exact kt
    obtain ⟨T58, h58, Lq58, X58, N58, e58, W58, Z58, Aq58, st58⟩ := own_stJ X56 hx hZ e56 Ab49_56 (j := (2 : Int32)) (by decide) (k := 2) (by decide) (Nat.le_of_ble_eq_true rfl) N56 g49 Z56 (g := (mkF m 113 #[.val (.int i0), .val (.long j1), .second, .val (.long j3), .second, .val (.long j5), .second, .val (.long j7), .second, .val (.long j9), .second, .val (.int (3 : Int32)), .val (.long j12), .second, .val (.long j14), .second, .val (.long j16), .second, .val (.ref b49), .val (.ref b50), .unset] [(.long j5), (.int (2 : Int32)), (.ref b49)])) rfl rfl (hb hby at_113)
    have Ab50_58 := Ab50_56.other W58 (Ne.symm ne_b49_b50)
    have Ab49_58 : own_A Z h58 b49 .long [(.long j1), (.long j3), (.long j5)] := Aq58
    refine own_step (T' := T58) (f' := (mkF m 114 #[.val (.int i0), .val (.long j1), .second, .val (.long j3), .second, .val (.long j5), .second, .val (.long j7), .second, .val (.long j9), .second, .val (.int (3 : Int32)), .val (.long j12), .second, .val (.long j14), .second, .val (.long j16), .second, .val (.ref b49), .val (.ref b50), .unset] [])) st58 ?_
    refine own_step (T' := T58) (f' := (mkF m 119 #[.val (.int i0), .val (.long j1), .second, .val (.long j3), .second, .val (.long j5), .second, .val (.long j7), .second, .val (.long j9), .second, .val (.int (3 : Int32)), .val (.long j12), .second, .val (.long j14), .second, .val (.long j16), .second, .val (.ref b49), .val (.ref b50), .unset] [(.long j16), (.int (2 : Int32)), (.ref b50)])) (fun t kt => ?_) ?_
    · show Steps p.tables e below (T58.setTop (mkF m 114 #[.val (.int i0), .val (.long j1), .second, .val (.long j3), .second, .val (.long j5), .second, .val (.long j7), .second, .val (.long j9), .second, .val (.int (3 : Int32)), .val (.long j12), .second, .val (.long j14), .second, .val (.long j16), .second, .val (.ref b49), .val (.ref b50), .unset] [])) _
      refine XS.aload X58.here hx rfl (hb hby at_114) rfl rfl ?_
      show Steps p.tables e below (T58.setTop (mkF m 116 #[.val (.int i0), .val (.long j1), .second, .val (.long j3), .second, .val (.long j5), .second, .val (.long j7), .second, .val (.long j9), .second, .val (.int (3 : Int32)), .val (.long j12), .second, .val (.long j14), .second, .val (.long j16), .second, .val (.ref b49), .val (.ref b50), .unset] [(.ref b50)])) _
      refine XS.iconst X58.here hx rfl (hb hby at_116) ?_
      show Steps p.tables e below (T58.setTop (mkF m 117 #[.val (.int i0), .val (.long j1), .second, .val (.long j3), .second, .val (.long j5), .second, .val (.long j7), .second, .val (.long j9), .second, .val (.int (3 : Int32)), .val (.long j12), .second, .val (.long j14), .second, .val (.long j16), .second, .val (.ref b49), .val (.ref b50), .unset] [(.int (2 : Int32)), (.ref b50)])) _
      refine XS.lload X58.here hx rfl (hb hby at_117) rfl ?_
      exact kt
    obtain ⟨T59, h59, Lq59, X59, N59, e59, W59, Z59, Aq59, st59⟩ := own_stJ X58 hx hZ e58 Ab50_58 (j := (2 : Int32)) (by decide) (k := 2) (by decide) (Nat.le_of_ble_eq_true rfl) N58 g50 Z58 (g := (mkF m 119 #[.val (.int i0), .val (.long j1), .second, .val (.long j3), .second, .val (.long j5), .second, .val (.long j7), .second, .val (.long j9), .second, .val (.int (3 : Int32)), .val (.long j12), .second, .val (.long j14), .second, .val (.long j16), .second, .val (.ref b49), .val (.ref b50), .unset] [(.long j16), (.int (2 : Int32)), (.ref b50)])) rfl rfl (hb hby at_119)
    have Ab49_59 := Ab49_58.other W59 ne_b49_b50
    have Ab50_59 : own_A Z h59 b50 .long [(.long j12), (.long j14), (.long j16)] := Aq59
    refine own_step (T' := T59) (f' := (mkF m 120 #[.val (.int i0), .val (.long j1), .second, .val (.long j3), .second, .val (.long j5), .second, .val (.long j7), .second, .val (.long j9), .second, .val (.int (3 : Int32)), .val (.long j12), .second, .val (.long j14), .second, .val (.long j16), .second, .val (.ref b49), .val (.ref b50), .unset] [])) st59 ?_
    refine own_step (T' := T59) (f' := (mkF m 122 #[.val (.int i0), .val (.long j1), .second, .val (.long j3), .second, .val (.long j5), .second, .val (.long j7), .second, .val (.long j9), .second, .val (.int (3 : Int32)), .val (.long j12), .second, .val (.long j14), .second, .val (.long j16), .second, .val (.ref b49), .val (.ref b50), .unset] [(.int (3 : Int32))])) (fun t kt => ?_) ?_
    · show Steps p.tables e below (T59.setTop (mkF m 120 #[.val (.int i0), .val (.long j1), .second, .val (.long j3), .second, .val (.long j5), .second, .val (.long j7), .second, .val (.long j9), .second, .val (.int (3 : Int32)), .val (.long j12), .second, .val (.long j14), .second, .val (.long j16), .second, .val (.ref b49), .val (.ref b50), .unset] [])) _
      refine XS.iload X59.here hx rfl (hb hby at_120) rfl ?_
      exact kt
    refine own_step (T' := T59) (f' := (mkF m 125 #[.val (.int i0), .val (.long j1), .second, .val (.long j3), .second, .val (.long j5), .second, .val (.long j7), .second, .val (.long j9), .second, .val (.int (3 : Int32)), .val (.long j12), .second, .val (.long j14), .second, .val (.long j16), .second, .val (.ref b49), .val (.ref b50), .unset] [])) (fun t kt => ?_) ?_
    · show Steps p.tables e below (T59.setTop (mkF m 122 #[.val (.int i0), .val (.long j1), .second, .val (.long j3), .second, .val (.long j5), .second, .val (.long j7), .second, .val (.long j9), .second, .val (.int (3 : Int32)), .val (.long j12), .second, .val (.long j14), .second, .val (.long j16), .second, .val (.ref b49), .val (.ref b50), .unset] [(.int (3 : Int32))])) _
      refine XS.ifNo X59.here hx rfl (hb hby at_122) rfl ((if0 _ _).trans (tlt (by decide : ((0 : Int32) < (3 : Int32)))).2.2.2) kt
    refine own_step (T' := T59) (f' := (mkF m 129 #[.val (.int i0), .val (.long j1), .second, .val (.long j3), .second, .val (.long j5), .second, .val (.long j7), .second, .val (.long j9), .second, .val (.int (3 : Int32)), .val (.long j12), .second, .val (.long j14), .second, .val (.long j16), .second, .val (.ref b49), .val (.ref b50), .unset] [(.int (lcmpW j1 j12))])) (fun t kt => ?_) ?_
    · show Steps p.tables e below (T59.setTop (mkF m 125 #[.val (.int i0), .val (.long j1), .second, .val (.long j3), .second, .val (.long j5), .second, .val (.long j7), .second, .val (.long j9), .second, .val (.int (3 : Int32)), .val (.long j12), .second, .val (.long j14), .second, .val (.long j16), .second, .val (.ref b49), .val (.ref b50), .unset] [])) _
      refine XS.lloadN X59.here hx rfl (hb hby at_125) rfl ?_
      show Steps p.tables e below (T59.setTop (mkF m 126 #[.val (.int i0), .val (.long j1), .second, .val (.long j3), .second, .val (.long j5), .second, .val (.long j7), .second, .val (.long j9), .second, .val (.int (3 : Int32)), .val (.long j12), .second, .val (.long j14), .second, .val (.long j16), .second, .val (.ref b49), .val (.ref b50), .unset] [(.long j1)])) _
      refine XS.lload X59.here hx rfl (hb hby at_126) rfl ?_
      show Steps p.tables e below (T59.setTop (mkF m 128 #[.val (.int i0), .val (.long j1), .second, .val (.long j3), .second, .val (.long j5), .second, .val (.long j7), .second, .val (.long j9), .second, .val (.int (3 : Int32)), .val (.long j12), .second, .val (.long j14), .second, .val (.long j16), .second, .val (.ref b49), .val (.ref b50), .unset] [(.long j12), (.long j1)])) _
      refine XS.lcmp X59.here hx rfl (hb hby at_128) rfl ?_
      exact kt
    by_cases hc129_61 : j1 = j12
    · rw [if_pos hc129_61] at hr
      refine own_step (T' := T59) (f' := (mkF m 159 #[.val (.int i0), .val (.long j1), .second, .val (.long j3), .second, .val (.long j5), .second, .val (.long j7), .second, .val (.long j9), .second, .val (.int (3 : Int32)), .val (.long j12), .second, .val (.long j14), .second, .val (.long j16), .second, .val (.ref b49), .val (.ref b50), .unset] [])) (fun t kt => ?_) ?_
      · show Steps p.tables e below (T59.setTop (mkF m 129 #[.val (.int i0), .val (.long j1), .second, .val (.long j3), .second, .val (.long j5), .second, .val (.long j7), .second, .val (.long j9), .second, .val (.int (3 : Int32)), .val (.long j12), .second, .val (.long j14), .second, .val (.long j16), .second, .val (.ref b49), .val (.ref b50), .unset] [(.int (lcmpW j1 j12))])) _
        refine XS.ifYes X59.here hx rfl (pc0 := 129) (pc' := 159) rfl (hb hby at_129) rfl ((if0 _ _).trans (teq ((lw_eq _ _).mpr hc129_61)).1) (by decide) (by decide) kt
      refine own_step (T' := T59) (f' := (mkF m 170 #[.val (.int i0), .val (.long j1), .second, .val (.long j3), .second, .val (.long j5), .second, .val (.long j7), .second, .val (.long j9), .second, .val (.int (3 : Int32)), .val (.long j12), .second, .val (.long j14), .second, .val (.long j16), .second, .val (.ref b49), .val (.ref b50), .val (.int (1 : Int32))] [(.ref b50), (.ref b49)])) (fun t kt => ?_) ?_
      · show Steps p.tables e below (T59.setTop (mkF m 159 #[.val (.int i0), .val (.long j1), .second, .val (.long j3), .second, .val (.long j5), .second, .val (.long j7), .second, .val (.long j9), .second, .val (.int (3 : Int32)), .val (.long j12), .second, .val (.long j14), .second, .val (.long j16), .second, .val (.ref b49), .val (.ref b50), .unset] [])) _
        refine XS.iconst X59.here hx rfl (hb hby at_159) ?_
        show Steps p.tables e below (T59.setTop (mkF m 160 #[.val (.int i0), .val (.long j1), .second, .val (.long j3), .second, .val (.long j5), .second, .val (.long j7), .second, .val (.long j9), .second, .val (.int (3 : Int32)), .val (.long j12), .second, .val (.long j14), .second, .val (.long j16), .second, .val (.ref b49), .val (.ref b50), .unset] [(.int (1 : Int32))])) _
        refine XS.goto X59.here hx rfl (pc0 := 160) (pc' := 164) rfl (hb hby at_160) (by decide) (by decide) ?_
        show Steps p.tables e below (T59.setTop (mkF m 164 #[.val (.int i0), .val (.long j1), .second, .val (.long j3), .second, .val (.long j5), .second, .val (.long j7), .second, .val (.long j9), .second, .val (.int (3 : Int32)), .val (.long j12), .second, .val (.long j14), .second, .val (.long j16), .second, .val (.ref b49), .val (.ref b50), .unset] [(.int (1 : Int32))])) _
        refine XS.istore X59.here hx rfl (hb hby at_164) rfl (l' := #[.val (.int i0), .val (.long j1), .second, .val (.long j3), .second, .val (.long j5), .second, .val (.long j7), .second, .val (.long j9), .second, .val (.int (3 : Int32)), .val (.long j12), .second, .val (.long j14), .second, .val (.long j16), .second, .val (.ref b49), .val (.ref b50), .val (.int (1 : Int32))]) rfl ?_
        show Steps p.tables e below (T59.setTop (mkF m 166 #[.val (.int i0), .val (.long j1), .second, .val (.long j3), .second, .val (.long j5), .second, .val (.long j7), .second, .val (.long j9), .second, .val (.int (3 : Int32)), .val (.long j12), .second, .val (.long j14), .second, .val (.long j16), .second, .val (.ref b49), .val (.ref b50), .val (.int (1 : Int32))] [])) _
        refine XS.aload X59.here hx rfl (hb hby at_166) rfl rfl ?_
        show Steps p.tables e below (T59.setTop (mkF m 168 #[.val (.int i0), .val (.long j1), .second, .val (.long j3), .second, .val (.long j5), .second, .val (.long j7), .second, .val (.long j9), .second, .val (.int (3 : Int32)), .val (.long j12), .second, .val (.long j14), .second, .val (.long j16), .second, .val (.ref b49), .val (.ref b50), .val (.int (1 : Int32))] [(.ref b49)])) _
        refine XS.aload X59.here hx rfl (hb hby at_168) rfl rfl ?_
        exact kt
      obtain ⟨_, _, ⟨T62, L62, k62, n62⟩, -, X62, ⟨Lc62, hQ62, l62, y62, z62⟩, st62⟩ := Jvm.LawKit.callS X59 hx (y := (⟨"com/example/nearsame/nearsame/Banding", "agree", "([J[J)Z"⟩ : MethodName)) hown (mvT hZ (hw _ (List.mem_of_getElem? (i := 1) rfl))) (mvT hZ (hw _ (List.mem_of_getElem? (i := 2) rfl))) (mvT hZ (hw _ (List.mem_of_getElem? (i := 3) rfl))) (mvT hZ (hw _ (List.mem_of_getElem? (i := 4) rfl))) (by decide) (backOf (W := 0) (rm1n3 l Z a0 hw [] b49 b50 j1 j3 j5 j12 j14 j16 h59 n0 Ab49_59 Ab50_59) hZ (hw _ (List.mem_of_getElem? (i := 4) rfl)) (hw _ (List.mem_of_getElem? (i := 3) rfl)) (by decide) (by decide)) (g := (mkF m 170 #[.val (.int i0), .val (.long j1), .second, .val (.long j3), .second, .val (.long j5), .second, .val (.long j7), .second, .val (.long j9), .second, .val (.int (3 : Int32)), .val (.long j12), .second, .val (.long j14), .second, .val (.long j16), .second, .val (.ref b49), .val (.ref b50), .val (.int (1 : Int32))] [(.ref b50), (.ref b49)])) rfl (by rw [hml]; rfl) (argsL := [(.ref b49), (.ref b50)]) (rest := []) (lenOf pd1 rfl) rfl (by show 2 * 0 + _ ≤ _; exact Nat.le_of_eq rfl) (hb hby at_170) (fun _ _ => ⟨rfl, e59, (by decide : 2 + 0 ≤ _), (by decide : 6 + 0 ≤ _)⟩)
      dsimp only [Pt.U, Pt.locs, Pt.cells, Pt.slots] at X62 l62 y62 z62 st62 hQ62
      subst l62 y62 z62
      obtain ⟨rfl, Nq62, e62⟩ := hQ62
      have N62 := Fr.app N59 Nq62
      refine own_step (T' := T62) (f' := (mkF m 173 #[.val (.int i0), .val (.long j1), .second, .val (.long j3), .second, .val (.long j5), .second, .val (.long j7), .second, .val (.long j9), .second, .val (.int (3 : Int32)), .val (.long j12), .second, .val (.long j14), .second, .val (.long j16), .second, .val (.ref b49), .val (.ref b50), .val (.int (1 : Int32))] [(.int (f1n3_0 j1 j3 j5 j12 j14 j16))])) st62 ?_
      refine own_step (T' := T62) (f' := (mkF m 175 #[.val (.int i0), .val (.long j1), .second, .val (.long j3), .second, .val (.long j5), .second, .val (.long j7), .second, .val (.long j9), .second, .val (.int (3 : Int32)), .val (.long j12), .second, .val (.long j14), .second, .val (.long j16), .second, .val (.ref b49), .val (.ref b50), .val (.int (1 : Int32))] [(.int (1 : Int32)), (.int (f1n3_0 j1 j3 j5 j12 j14 j16))])) (fun t kt => ?_) ?_
      · show Steps p.tables e below (T62.setTop (mkF m 173 #[.val (.int i0), .val (.long j1), .second, .val (.long j3), .second, .val (.long j5), .second, .val (.long j7), .second, .val (.long j9), .second, .val (.int (3 : Int32)), .val (.long j12), .second, .val (.long j14), .second, .val (.long j16), .second, .val (.ref b49), .val (.ref b50), .val (.int (1 : Int32))] [(.int (f1n3_0 j1 j3 j5 j12 j14 j16))])) _
        refine XS.iload X62.here hx rfl (hb hby at_173) rfl ?_
        exact kt
      by_cases hc175_63 : (f1n3_0 j1 j3 j5 j12 j14 j16) = (1 : Int32)
      · rw [if_pos hc175_63] at hr
        refine own_step (T' := T62) (f' := (mkF m 178 #[.val (.int i0), .val (.long j1), .second, .val (.long j3), .second, .val (.long j5), .second, .val (.long j7), .second, .val (.long j9), .second, .val (.int (3 : Int32)), .val (.long j12), .second, .val (.long j14), .second, .val (.long j16), .second, .val (.ref b49), .val (.ref b50), .val (.int (1 : Int32))] [])) (fun t kt => ?_) ?_
        · show Steps p.tables e below (T62.setTop (mkF m 175 #[.val (.int i0), .val (.long j1), .second, .val (.long j3), .second, .val (.long j5), .second, .val (.long j7), .second, .val (.long j9), .second, .val (.int (3 : Int32)), .val (.long j12), .second, .val (.long j14), .second, .val (.long j16), .second, .val (.ref b49), .val (.ref b50), .val (.int (1 : Int32))] [(.int (1 : Int32)), (.int (f1n3_0 j1 j3 j5 j12 j14 j16))])) _
          refine XS.icmpNo X62.here hx rfl (hb hby at_175) rfl (teq hc175_63).2 kt
        refine own_step (T' := T62) (f' := (mkF m 183 #[.val (.int i0), .val (.long j1), .second, .val (.long j3), .second, .val (.long j5), .second, .val (.long j7), .second, .val (.long j9), .second, .val (.int (3 : Int32)), .val (.long j12), .second, .val (.long j14), .second, .val (.long j16), .second, .val (.ref b49), .val (.ref b50), .val (.int (1 : Int32))] [(.int (1 : Int32))])) (fun t kt => ?_) ?_
        · show Steps p.tables e below (T62.setTop (mkF m 178 #[.val (.int i0), .val (.long j1), .second, .val (.long j3), .second, .val (.long j5), .second, .val (.long j7), .second, .val (.long j9), .second, .val (.int (3 : Int32)), .val (.long j12), .second, .val (.long j14), .second, .val (.long j16), .second, .val (.ref b49), .val (.ref b50), .val (.int (1 : Int32))] [])) _
          refine XS.iconst X62.here hx rfl (hb hby at_178) ?_
          show Steps p.tables e below (T62.setTop (mkF m 179 #[.val (.int i0), .val (.long j1), .second, .val (.long j3), .second, .val (.long j5), .second, .val (.long j7), .second, .val (.long j9), .second, .val (.int (3 : Int32)), .val (.long j12), .second, .val (.long j14), .second, .val (.long j16), .second, .val (.ref b49), .val (.ref b50), .val (.int (1 : Int32))] [(.int (1 : Int32))])) _
          refine XS.goto X62.here hx rfl (pc0 := 179) (pc' := 183) rfl (hb hby at_179) (by decide) (by decide) ?_
          exact kt
        exact own_retZ X62 hx hret (by simp) hlk (hb hby at_183) (by decide) (by decide) ⟨congrArg (fun z => some (Value.int z)) hr.symm, N62⟩
      · rw [if_neg hc175_63] at hr
        refine own_step (T' := T62) (f' := (mkF m 182 #[.val (.int i0), .val (.long j1), .second, .val (.long j3), .second, .val (.long j5), .second, .val (.long j7), .second, .val (.long j9), .second, .val (.int (3 : Int32)), .val (.long j12), .second, .val (.long j14), .second, .val (.long j16), .second, .val (.ref b49), .val (.ref b50), .val (.int (1 : Int32))] [])) (fun t kt => ?_) ?_
        · show Steps p.tables e below (T62.setTop (mkF m 175 #[.val (.int i0), .val (.long j1), .second, .val (.long j3), .second, .val (.long j5), .second, .val (.long j7), .second, .val (.long j9), .second, .val (.int (3 : Int32)), .val (.long j12), .second, .val (.long j14), .second, .val (.long j16), .second, .val (.ref b49), .val (.ref b50), .val (.int (1 : Int32))] [(.int (1 : Int32)), (.int (f1n3_0 j1 j3 j5 j12 j14 j16))])) _
          refine XS.icmpYes X62.here hx rfl (pc0 := 175) (pc' := 182) rfl (hb hby at_175) rfl (feq hc175_63).2 (by decide) (by decide) kt
        refine own_step (T' := T62) (f' := (mkF m 183 #[.val (.int i0), .val (.long j1), .second, .val (.long j3), .second, .val (.long j5), .second, .val (.long j7), .second, .val (.long j9), .second, .val (.int (3 : Int32)), .val (.long j12), .second, .val (.long j14), .second, .val (.long j16), .second, .val (.ref b49), .val (.ref b50), .val (.int (1 : Int32))] [(.int (0 : Int32))])) (fun t kt => ?_) ?_
        · show Steps p.tables e below (T62.setTop (mkF m 182 #[.val (.int i0), .val (.long j1), .second, .val (.long j3), .second, .val (.long j5), .second, .val (.long j7), .second, .val (.long j9), .second, .val (.int (3 : Int32)), .val (.long j12), .second, .val (.long j14), .second, .val (.long j16), .second, .val (.ref b49), .val (.ref b50), .val (.int (1 : Int32))] [])) _
          refine XS.iconst X62.here hx rfl (hb hby at_182) ?_
          exact kt
        exact own_retZ X62 hx hret (by simp) hlk (hb hby at_183) (by decide) (by decide) ⟨congrArg (fun z => some (Value.int z)) hr.symm, N62⟩
    · rw [if_neg hc129_61] at hr
      refine own_step (T' := T59) (f' := (mkF m 132 #[.val (.int i0), .val (.long j1), .second, .val (.long j3), .second, .val (.long j5), .second, .val (.long j7), .second, .val (.long j9), .second, .val (.int (3 : Int32)), .val (.long j12), .second, .val (.long j14), .second, .val (.long j16), .second, .val (.ref b49), .val (.ref b50), .unset] [])) (fun t kt => ?_) ?_
      · show Steps p.tables e below (T59.setTop (mkF m 129 #[.val (.int i0), .val (.long j1), .second, .val (.long j3), .second, .val (.long j5), .second, .val (.long j7), .second, .val (.long j9), .second, .val (.int (3 : Int32)), .val (.long j12), .second, .val (.long j14), .second, .val (.long j16), .second, .val (.ref b49), .val (.ref b50), .unset] [(.int (lcmpW j1 j12))])) _
        refine XS.ifNo X59.here hx rfl (hb hby at_129) rfl ((if0 _ _).trans (feq (mt (lw_eq _ _).mp hc129_61)).1) kt
      refine own_step (T' := T59) (f' := (mkF m 135 #[.val (.int i0), .val (.long j1), .second, .val (.long j3), .second, .val (.long j5), .second, .val (.long j7), .second, .val (.long j9), .second, .val (.int (3 : Int32)), .val (.long j12), .second, .val (.long j14), .second, .val (.long j16), .second, .val (.ref b49), .val (.ref b50), .unset] [(.int (1 : Int32)), (.int (3 : Int32))])) (fun t kt => ?_) ?_
      · show Steps p.tables e below (T59.setTop (mkF m 132 #[.val (.int i0), .val (.long j1), .second, .val (.long j3), .second, .val (.long j5), .second, .val (.long j7), .second, .val (.long j9), .second, .val (.int (3 : Int32)), .val (.long j12), .second, .val (.long j14), .second, .val (.long j16), .second, .val (.ref b49), .val (.ref b50), .unset] [])) _
        refine XS.iload X59.here hx rfl (hb hby at_132) rfl ?_
        show Steps p.tables e below (T59.setTop (mkF m 134 #[.val (.int i0), .val (.long j1), .second, .val (.long j3), .second, .val (.long j5), .second, .val (.long j7), .second, .val (.long j9), .second, .val (.int (3 : Int32)), .val (.long j12), .second, .val (.long j14), .second, .val (.long j16), .second, .val (.ref b49), .val (.ref b50), .unset] [(.int (3 : Int32))])) _
        refine XS.iconst X59.here hx rfl (hb hby at_134) ?_
        exact kt
      refine own_step (T' := T59) (f' := (mkF m 138 #[.val (.int i0), .val (.long j1), .second, .val (.long j3), .second, .val (.long j5), .second, .val (.long j7), .second, .val (.long j9), .second, .val (.int (3 : Int32)), .val (.long j12), .second, .val (.long j14), .second, .val (.long j16), .second, .val (.ref b49), .val (.ref b50), .unset] [])) (fun t kt => ?_) ?_
      · show Steps p.tables e below (T59.setTop (mkF m 135 #[.val (.int i0), .val (.long j1), .second, .val (.long j3), .second, .val (.long j5), .second, .val (.long j7), .second, .val (.long j9), .second, .val (.int (3 : Int32)), .val (.long j12), .second, .val (.long j14), .second, .val (.long j16), .second, .val (.ref b49), .val (.ref b50), .unset] [(.int (1 : Int32)), (.int (3 : Int32))])) _
        refine XS.icmpNo X59.here hx rfl (hb hby at_135) rfl (tlt (by decide : ((1 : Int32) < (3 : Int32)))).2.2.2 kt
      refine own_step (T' := T59) (f' := (mkF m 142 #[.val (.int i0), .val (.long j1), .second, .val (.long j3), .second, .val (.long j5), .second, .val (.long j7), .second, .val (.long j9), .second, .val (.int (3 : Int32)), .val (.long j12), .second, .val (.long j14), .second, .val (.long j16), .second, .val (.ref b49), .val (.ref b50), .unset] [(.int (lcmpW j3 j14))])) (fun t kt => ?_) ?_
      · show Steps p.tables e below (T59.setTop (mkF m 138 #[.val (.int i0), .val (.long j1), .second, .val (.long j3), .second, .val (.long j5), .second, .val (.long j7), .second, .val (.long j9), .second, .val (.int (3 : Int32)), .val (.long j12), .second, .val (.long j14), .second, .val (.long j16), .second, .val (.ref b49), .val (.ref b50), .unset] [])) _
        refine XS.lloadN X59.here hx rfl (hb hby at_138) rfl ?_
        show Steps p.tables e below (T59.setTop (mkF m 139 #[.val (.int i0), .val (.long j1), .second, .val (.long j3), .second, .val (.long j5), .second, .val (.long j7), .second, .val (.long j9), .second, .val (.int (3 : Int32)), .val (.long j12), .second, .val (.long j14), .second, .val (.long j16), .second, .val (.ref b49), .val (.ref b50), .unset] [(.long j3)])) _
        refine XS.lload X59.here hx rfl (hb hby at_139) rfl ?_
        show Steps p.tables e below (T59.setTop (mkF m 141 #[.val (.int i0), .val (.long j1), .second, .val (.long j3), .second, .val (.long j5), .second, .val (.long j7), .second, .val (.long j9), .second, .val (.int (3 : Int32)), .val (.long j12), .second, .val (.long j14), .second, .val (.long j16), .second, .val (.ref b49), .val (.ref b50), .unset] [(.long j14), (.long j3)])) _
        refine XS.lcmp X59.here hx rfl (hb hby at_141) rfl ?_
        exact kt
      by_cases hc142_65 : j3 = j14
      · rw [if_pos hc142_65] at hr
        refine own_step (T' := T59) (f' := (mkF m 159 #[.val (.int i0), .val (.long j1), .second, .val (.long j3), .second, .val (.long j5), .second, .val (.long j7), .second, .val (.long j9), .second, .val (.int (3 : Int32)), .val (.long j12), .second, .val (.long j14), .second, .val (.long j16), .second, .val (.ref b49), .val (.ref b50), .unset] [])) (fun t kt => ?_) ?_
        · show Steps p.tables e below (T59.setTop (mkF m 142 #[.val (.int i0), .val (.long j1), .second, .val (.long j3), .second, .val (.long j5), .second, .val (.long j7), .second, .val (.long j9), .second, .val (.int (3 : Int32)), .val (.long j12), .second, .val (.long j14), .second, .val (.long j16), .second, .val (.ref b49), .val (.ref b50), .unset] [(.int (lcmpW j3 j14))])) _
          refine XS.ifYes X59.here hx rfl (pc0 := 142) (pc' := 159) rfl (hb hby at_142) rfl ((if0 _ _).trans (teq ((lw_eq _ _).mpr hc142_65)).1) (by decide) (by decide) kt
        refine own_step (T' := T59) (f' := (mkF m 170 #[.val (.int i0), .val (.long j1), .second, .val (.long j3), .second, .val (.long j5), .second, .val (.long j7), .second, .val (.long j9), .second, .val (.int (3 : Int32)), .val (.long j12), .second, .val (.long j14), .second, .val (.long j16), .second, .val (.ref b49), .val (.ref b50), .val (.int (1 : Int32))] [(.ref b50), (.ref b49)])) (fun t kt => ?_) ?_
        · show Steps p.tables e below (T59.setTop (mkF m 159 #[.val (.int i0), .val (.long j1), .second, .val (.long j3), .second, .val (.long j5), .second, .val (.long j7), .second, .val (.long j9), .second, .val (.int (3 : Int32)), .val (.long j12), .second, .val (.long j14), .second, .val (.long j16), .second, .val (.ref b49), .val (.ref b50), .unset] [])) _
          refine XS.iconst X59.here hx rfl (hb hby at_159) ?_
          show Steps p.tables e below (T59.setTop (mkF m 160 #[.val (.int i0), .val (.long j1), .second, .val (.long j3), .second, .val (.long j5), .second, .val (.long j7), .second, .val (.long j9), .second, .val (.int (3 : Int32)), .val (.long j12), .second, .val (.long j14), .second, .val (.long j16), .second, .val (.ref b49), .val (.ref b50), .unset] [(.int (1 : Int32))])) _
          refine XS.goto X59.here hx rfl (pc0 := 160) (pc' := 164) rfl (hb hby at_160) (by decide) (by decide) ?_
          show Steps p.tables e below (T59.setTop (mkF m 164 #[.val (.int i0), .val (.long j1), .second, .val (.long j3), .second, .val (.long j5), .second, .val (.long j7), .second, .val (.long j9), .second, .val (.int (3 : Int32)), .val (.long j12), .second, .val (.long j14), .second, .val (.long j16), .second, .val (.ref b49), .val (.ref b50), .unset] [(.int (1 : Int32))])) _
          refine XS.istore X59.here hx rfl (hb hby at_164) rfl (l' := #[.val (.int i0), .val (.long j1), .second, .val (.long j3), .second, .val (.long j5), .second, .val (.long j7), .second, .val (.long j9), .second, .val (.int (3 : Int32)), .val (.long j12), .second, .val (.long j14), .second, .val (.long j16), .second, .val (.ref b49), .val (.ref b50), .val (.int (1 : Int32))]) rfl ?_
          show Steps p.tables e below (T59.setTop (mkF m 166 #[.val (.int i0), .val (.long j1), .second, .val (.long j3), .second, .val (.long j5), .second, .val (.long j7), .second, .val (.long j9), .second, .val (.int (3 : Int32)), .val (.long j12), .second, .val (.long j14), .second, .val (.long j16), .second, .val (.ref b49), .val (.ref b50), .val (.int (1 : Int32))] [])) _
          refine XS.aload X59.here hx rfl (hb hby at_166) rfl rfl ?_
          show Steps p.tables e below (T59.setTop (mkF m 168 #[.val (.int i0), .val (.long j1), .second, .val (.long j3), .second, .val (.long j5), .second, .val (.long j7), .second, .val (.long j9), .second, .val (.int (3 : Int32)), .val (.long j12), .second, .val (.long j14), .second, .val (.long j16), .second, .val (.ref b49), .val (.ref b50), .val (.int (1 : Int32))] [(.ref b49)])) _
          refine XS.aload X59.here hx rfl (hb hby at_168) rfl rfl ?_
          exact kt
        obtain ⟨_, _, ⟨T66, L66, k66, n66⟩, -, X66, ⟨Lc66, hQ66, l66, y66, z66⟩, st66⟩ := Jvm.LawKit.callS X59 hx (y := (⟨"com/example/nearsame/nearsame/Banding", "agree", "([J[J)Z"⟩ : MethodName)) hown (mvT hZ (hw _ (List.mem_of_getElem? (i := 1) rfl))) (mvT hZ (hw _ (List.mem_of_getElem? (i := 2) rfl))) (mvT hZ (hw _ (List.mem_of_getElem? (i := 3) rfl))) (mvT hZ (hw _ (List.mem_of_getElem? (i := 4) rfl))) (by decide) (backOf (W := 0) (rm1n3 l Z a0 hw [] b49 b50 j1 j3 j5 j12 j14 j16 h59 n0 Ab49_59 Ab50_59) hZ (hw _ (List.mem_of_getElem? (i := 4) rfl)) (hw _ (List.mem_of_getElem? (i := 3) rfl)) (by decide) (by decide)) (g := (mkF m 170 #[.val (.int i0), .val (.long j1), .second, .val (.long j3), .second, .val (.long j5), .second, .val (.long j7), .second, .val (.long j9), .second, .val (.int (3 : Int32)), .val (.long j12), .second, .val (.long j14), .second, .val (.long j16), .second, .val (.ref b49), .val (.ref b50), .val (.int (1 : Int32))] [(.ref b50), (.ref b49)])) rfl (by rw [hml]; rfl) (argsL := [(.ref b49), (.ref b50)]) (rest := []) (lenOf pd1 rfl) rfl (by show 2 * 0 + _ ≤ _; exact Nat.le_of_eq rfl) (hb hby at_170) (fun _ _ => ⟨rfl, e59, (by decide : 2 + 0 ≤ _), (by decide : 6 + 0 ≤ _)⟩)
        dsimp only [Pt.U, Pt.locs, Pt.cells, Pt.slots] at X66 l66 y66 z66 st66 hQ66
        subst l66 y66 z66
        obtain ⟨rfl, Nq66, e66⟩ := hQ66
        have N66 := Fr.app N59 Nq66
        refine own_step (T' := T66) (f' := (mkF m 173 #[.val (.int i0), .val (.long j1), .second, .val (.long j3), .second, .val (.long j5), .second, .val (.long j7), .second, .val (.long j9), .second, .val (.int (3 : Int32)), .val (.long j12), .second, .val (.long j14), .second, .val (.long j16), .second, .val (.ref b49), .val (.ref b50), .val (.int (1 : Int32))] [(.int (f1n3_0 j1 j3 j5 j12 j14 j16))])) st66 ?_
        refine own_step (T' := T66) (f' := (mkF m 175 #[.val (.int i0), .val (.long j1), .second, .val (.long j3), .second, .val (.long j5), .second, .val (.long j7), .second, .val (.long j9), .second, .val (.int (3 : Int32)), .val (.long j12), .second, .val (.long j14), .second, .val (.long j16), .second, .val (.ref b49), .val (.ref b50), .val (.int (1 : Int32))] [(.int (1 : Int32)), (.int (f1n3_0 j1 j3 j5 j12 j14 j16))])) (fun t kt => ?_) ?_
        · show Steps p.tables e below (T66.setTop (mkF m 173 #[.val (.int i0), .val (.long j1), .second, .val (.long j3), .second, .val (.long j5), .second, .val (.long j7), .second, .val (.long j9), .second, .val (.int (3 : Int32)), .val (.long j12), .second, .val (.long j14), .second, .val (.long j16), .second, .val (.ref b49), .val (.ref b50), .val (.int (1 : Int32))] [(.int (f1n3_0 j1 j3 j5 j12 j14 j16))])) _
          refine XS.iload X66.here hx rfl (hb hby at_173) rfl ?_
          exact kt
        by_cases hc175_67 : (f1n3_0 j1 j3 j5 j12 j14 j16) = (1 : Int32)
        · rw [if_pos hc175_67] at hr
          refine own_step (T' := T66) (f' := (mkF m 178 #[.val (.int i0), .val (.long j1), .second, .val (.long j3), .second, .val (.long j5), .second, .val (.long j7), .second, .val (.long j9), .second, .val (.int (3 : Int32)), .val (.long j12), .second, .val (.long j14), .second, .val (.long j16), .second, .val (.ref b49), .val (.ref b50), .val (.int (1 : Int32))] [])) (fun t kt => ?_) ?_
          · show Steps p.tables e below (T66.setTop (mkF m 175 #[.val (.int i0), .val (.long j1), .second, .val (.long j3), .second, .val (.long j5), .second, .val (.long j7), .second, .val (.long j9), .second, .val (.int (3 : Int32)), .val (.long j12), .second, .val (.long j14), .second, .val (.long j16), .second, .val (.ref b49), .val (.ref b50), .val (.int (1 : Int32))] [(.int (1 : Int32)), (.int (f1n3_0 j1 j3 j5 j12 j14 j16))])) _
            refine XS.icmpNo X66.here hx rfl (hb hby at_175) rfl (teq hc175_67).2 kt
          refine own_step (T' := T66) (f' := (mkF m 183 #[.val (.int i0), .val (.long j1), .second, .val (.long j3), .second, .val (.long j5), .second, .val (.long j7), .second, .val (.long j9), .second, .val (.int (3 : Int32)), .val (.long j12), .second, .val (.long j14), .second, .val (.long j16), .second, .val (.ref b49), .val (.ref b50), .val (.int (1 : Int32))] [(.int (1 : Int32))])) (fun t kt => ?_) ?_
          · show Steps p.tables e below (T66.setTop (mkF m 178 #[.val (.int i0), .val (.long j1), .second, .val (.long j3), .second, .val (.long j5), .second, .val (.long j7), .second, .val (.long j9), .second, .val (.int (3 : Int32)), .val (.long j12), .second, .val (.long j14), .second, .val (.long j16), .second, .val (.ref b49), .val (.ref b50), .val (.int (1 : Int32))] [])) _
            refine XS.iconst X66.here hx rfl (hb hby at_178) ?_
            show Steps p.tables e below (T66.setTop (mkF m 179 #[.val (.int i0), .val (.long j1), .second, .val (.long j3), .second, .val (.long j5), .second, .val (.long j7), .second, .val (.long j9), .second, .val (.int (3 : Int32)), .val (.long j12), .second, .val (.long j14), .second, .val (.long j16), .second, .val (.ref b49), .val (.ref b50), .val (.int (1 : Int32))] [(.int (1 : Int32))])) _
            refine XS.goto X66.here hx rfl (pc0 := 179) (pc' := 183) rfl (hb hby at_179) (by decide) (by decide) ?_
            exact kt
          exact own_retZ X66 hx hret (by simp) hlk (hb hby at_183) (by decide) (by decide) ⟨congrArg (fun z => some (Value.int z)) hr.symm, N66⟩
        · rw [if_neg hc175_67] at hr
          refine own_step (T' := T66) (f' := (mkF m 182 #[.val (.int i0), .val (.long j1), .second, .val (.long j3), .second, .val (.long j5), .second, .val (.long j7), .second, .val (.long j9), .second, .val (.int (3 : Int32)), .val (.long j12), .second, .val (.long j14), .second, .val (.long j16), .second, .val (.ref b49), .val (.ref b50), .val (.int (1 : Int32))] [])) (fun t kt => ?_) ?_
          · show Steps p.tables e below (T66.setTop (mkF m 175 #[.val (.int i0), .val (.long j1), .second, .val (.long j3), .second, .val (.long j5), .second, .val (.long j7), .second, .val (.long j9), .second, .val (.int (3 : Int32)), .val (.long j12), .second, .val (.long j14), .second, .val (.long j16), .second, .val (.ref b49), .val (.ref b50), .val (.int (1 : Int32))] [(.int (1 : Int32)), (.int (f1n3_0 j1 j3 j5 j12 j14 j16))])) _
            refine XS.icmpYes X66.here hx rfl (pc0 := 175) (pc' := 182) rfl (hb hby at_175) rfl (feq hc175_67).2 (by decide) (by decide) kt
          refine own_step (T' := T66) (f' := (mkF m 183 #[.val (.int i0), .val (.long j1), .second, .val (.long j3), .second, .val (.long j5), .second, .val (.long j7), .second, .val (.long j9), .second, .val (.int (3 : Int32)), .val (.long j12), .second, .val (.long j14), .second, .val (.long j16), .second, .val (.ref b49), .val (.ref b50), .val (.int (1 : Int32))] [(.int (0 : Int32))])) (fun t kt => ?_) ?_
          · show Steps p.tables e below (T66.setTop (mkF m 182 #[.val (.int i0), .val (.long j1), .second, .val (.long j3), .second, .val (.long j5), .second, .val (.long j7), .second, .val (.long j9), .second, .val (.int (3 : Int32)), .val (.long j12), .second, .val (.long j14), .second, .val (.long j16), .second, .val (.ref b49), .val (.ref b50), .val (.int (1 : Int32))] [])) _
            refine XS.iconst X66.here hx rfl (hb hby at_182) ?_
            exact kt
          exact own_retZ X66 hx hret (by simp) hlk (hb hby at_183) (by decide) (by decide) ⟨congrArg (fun z => some (Value.int z)) hr.symm, N66⟩
      · rw [if_neg hc142_65] at hr
        refine own_step (T' := T59) (f' := (mkF m 145 #[.val (.int i0), .val (.long j1), .second, .val (.long j3), .second, .val (.long j5), .second, .val (.long j7), .second, .val (.long j9), .second, .val (.int (3 : Int32)), .val (.long j12), .second, .val (.long j14), .second, .val (.long j16), .second, .val (.ref b49), .val (.ref b50), .unset] [])) (fun t kt => ?_) ?_
        · show Steps p.tables e below (T59.setTop (mkF m 142 #[.val (.int i0), .val (.long j1), .second, .val (.long j3), .second, .val (.long j5), .second, .val (.long j7), .second, .val (.long j9), .second, .val (.int (3 : Int32)), .val (.long j12), .second, .val (.long j14), .second, .val (.long j16), .second, .val (.ref b49), .val (.ref b50), .unset] [(.int (lcmpW j3 j14))])) _
          refine XS.ifNo X59.here hx rfl (hb hby at_142) rfl ((if0 _ _).trans (feq (mt (lw_eq _ _).mp hc142_65)).1) kt
        refine own_step (T' := T59) (f' := (mkF m 148 #[.val (.int i0), .val (.long j1), .second, .val (.long j3), .second, .val (.long j5), .second, .val (.long j7), .second, .val (.long j9), .second, .val (.int (3 : Int32)), .val (.long j12), .second, .val (.long j14), .second, .val (.long j16), .second, .val (.ref b49), .val (.ref b50), .unset] [(.int (2 : Int32)), (.int (3 : Int32))])) (fun t kt => ?_) ?_
        · show Steps p.tables e below (T59.setTop (mkF m 145 #[.val (.int i0), .val (.long j1), .second, .val (.long j3), .second, .val (.long j5), .second, .val (.long j7), .second, .val (.long j9), .second, .val (.int (3 : Int32)), .val (.long j12), .second, .val (.long j14), .second, .val (.long j16), .second, .val (.ref b49), .val (.ref b50), .unset] [])) _
          refine XS.iload X59.here hx rfl (hb hby at_145) rfl ?_
          show Steps p.tables e below (T59.setTop (mkF m 147 #[.val (.int i0), .val (.long j1), .second, .val (.long j3), .second, .val (.long j5), .second, .val (.long j7), .second, .val (.long j9), .second, .val (.int (3 : Int32)), .val (.long j12), .second, .val (.long j14), .second, .val (.long j16), .second, .val (.ref b49), .val (.ref b50), .unset] [(.int (3 : Int32))])) _
          refine XS.iconst X59.here hx rfl (hb hby at_147) ?_
          exact kt
        refine own_step (T' := T59) (f' := (mkF m 151 #[.val (.int i0), .val (.long j1), .second, .val (.long j3), .second, .val (.long j5), .second, .val (.long j7), .second, .val (.long j9), .second, .val (.int (3 : Int32)), .val (.long j12), .second, .val (.long j14), .second, .val (.long j16), .second, .val (.ref b49), .val (.ref b50), .unset] [])) (fun t kt => ?_) ?_
        · show Steps p.tables e below (T59.setTop (mkF m 148 #[.val (.int i0), .val (.long j1), .second, .val (.long j3), .second, .val (.long j5), .second, .val (.long j7), .second, .val (.long j9), .second, .val (.int (3 : Int32)), .val (.long j12), .second, .val (.long j14), .second, .val (.long j16), .second, .val (.ref b49), .val (.ref b50), .unset] [(.int (2 : Int32)), (.int (3 : Int32))])) _
          refine XS.icmpNo X59.here hx rfl (hb hby at_148) rfl (tlt (by decide : ((2 : Int32) < (3 : Int32)))).2.2.2 kt
        refine own_step (T' := T59) (f' := (mkF m 156 #[.val (.int i0), .val (.long j1), .second, .val (.long j3), .second, .val (.long j5), .second, .val (.long j7), .second, .val (.long j9), .second, .val (.int (3 : Int32)), .val (.long j12), .second, .val (.long j14), .second, .val (.long j16), .second, .val (.ref b49), .val (.ref b50), .unset] [(.int (lcmpW j5 j16))])) (fun t kt => ?_) ?_
        · show Steps p.tables e below (T59.setTop (mkF m 151 #[.val (.int i0), .val (.long j1), .second, .val (.long j3), .second, .val (.long j5), .second, .val (.long j7), .second, .val (.long j9), .second, .val (.int (3 : Int32)), .val (.long j12), .second, .val (.long j14), .second, .val (.long j16), .second, .val (.ref b49), .val (.ref b50), .unset] [])) _
          refine XS.lload X59.here hx rfl (hb hby at_151) rfl ?_
          show Steps p.tables e below (T59.setTop (mkF m 153 #[.val (.int i0), .val (.long j1), .second, .val (.long j3), .second, .val (.long j5), .second, .val (.long j7), .second, .val (.long j9), .second, .val (.int (3 : Int32)), .val (.long j12), .second, .val (.long j14), .second, .val (.long j16), .second, .val (.ref b49), .val (.ref b50), .unset] [(.long j5)])) _
          refine XS.lload X59.here hx rfl (hb hby at_153) rfl ?_
          show Steps p.tables e below (T59.setTop (mkF m 155 #[.val (.int i0), .val (.long j1), .second, .val (.long j3), .second, .val (.long j5), .second, .val (.long j7), .second, .val (.long j9), .second, .val (.int (3 : Int32)), .val (.long j12), .second, .val (.long j14), .second, .val (.long j16), .second, .val (.ref b49), .val (.ref b50), .unset] [(.long j16), (.long j5)])) _
          refine XS.lcmp X59.here hx rfl (hb hby at_155) rfl ?_
          exact kt
        by_cases hc156_69 : j5 = j16
        · rw [if_pos hc156_69] at hr
          refine own_step (T' := T59) (f' := (mkF m 159 #[.val (.int i0), .val (.long j1), .second, .val (.long j3), .second, .val (.long j5), .second, .val (.long j7), .second, .val (.long j9), .second, .val (.int (3 : Int32)), .val (.long j12), .second, .val (.long j14), .second, .val (.long j16), .second, .val (.ref b49), .val (.ref b50), .unset] [])) (fun t kt => ?_) ?_
          · show Steps p.tables e below (T59.setTop (mkF m 156 #[.val (.int i0), .val (.long j1), .second, .val (.long j3), .second, .val (.long j5), .second, .val (.long j7), .second, .val (.long j9), .second, .val (.int (3 : Int32)), .val (.long j12), .second, .val (.long j14), .second, .val (.long j16), .second, .val (.ref b49), .val (.ref b50), .unset] [(.int (lcmpW j5 j16))])) _
            refine XS.ifNo X59.here hx rfl (hb hby at_156) rfl ((if0 _ _).trans (teq ((lw_eq _ _).mpr hc156_69)).2) kt
          refine own_step (T' := T59) (f' := (mkF m 170 #[.val (.int i0), .val (.long j1), .second, .val (.long j3), .second, .val (.long j5), .second, .val (.long j7), .second, .val (.long j9), .second, .val (.int (3 : Int32)), .val (.long j12), .second, .val (.long j14), .second, .val (.long j16), .second, .val (.ref b49), .val (.ref b50), .val (.int (1 : Int32))] [(.ref b50), (.ref b49)])) (fun t kt => ?_) ?_
          · show Steps p.tables e below (T59.setTop (mkF m 159 #[.val (.int i0), .val (.long j1), .second, .val (.long j3), .second, .val (.long j5), .second, .val (.long j7), .second, .val (.long j9), .second, .val (.int (3 : Int32)), .val (.long j12), .second, .val (.long j14), .second, .val (.long j16), .second, .val (.ref b49), .val (.ref b50), .unset] [])) _
            refine XS.iconst X59.here hx rfl (hb hby at_159) ?_
            show Steps p.tables e below (T59.setTop (mkF m 160 #[.val (.int i0), .val (.long j1), .second, .val (.long j3), .second, .val (.long j5), .second, .val (.long j7), .second, .val (.long j9), .second, .val (.int (3 : Int32)), .val (.long j12), .second, .val (.long j14), .second, .val (.long j16), .second, .val (.ref b49), .val (.ref b50), .unset] [(.int (1 : Int32))])) _
            refine XS.goto X59.here hx rfl (pc0 := 160) (pc' := 164) rfl (hb hby at_160) (by decide) (by decide) ?_
            show Steps p.tables e below (T59.setTop (mkF m 164 #[.val (.int i0), .val (.long j1), .second, .val (.long j3), .second, .val (.long j5), .second, .val (.long j7), .second, .val (.long j9), .second, .val (.int (3 : Int32)), .val (.long j12), .second, .val (.long j14), .second, .val (.long j16), .second, .val (.ref b49), .val (.ref b50), .unset] [(.int (1 : Int32))])) _
            refine XS.istore X59.here hx rfl (hb hby at_164) rfl (l' := #[.val (.int i0), .val (.long j1), .second, .val (.long j3), .second, .val (.long j5), .second, .val (.long j7), .second, .val (.long j9), .second, .val (.int (3 : Int32)), .val (.long j12), .second, .val (.long j14), .second, .val (.long j16), .second, .val (.ref b49), .val (.ref b50), .val (.int (1 : Int32))]) rfl ?_
            show Steps p.tables e below (T59.setTop (mkF m 166 #[.val (.int i0), .val (.long j1), .second, .val (.long j3), .second, .val (.long j5), .second, .val (.long j7), .second, .val (.long j9), .second, .val (.int (3 : Int32)), .val (.long j12), .second, .val (.long j14), .second, .val (.long j16), .second, .val (.ref b49), .val (.ref b50), .val (.int (1 : Int32))] [])) _
            refine XS.aload X59.here hx rfl (hb hby at_166) rfl rfl ?_
            show Steps p.tables e below (T59.setTop (mkF m 168 #[.val (.int i0), .val (.long j1), .second, .val (.long j3), .second, .val (.long j5), .second, .val (.long j7), .second, .val (.long j9), .second, .val (.int (3 : Int32)), .val (.long j12), .second, .val (.long j14), .second, .val (.long j16), .second, .val (.ref b49), .val (.ref b50), .val (.int (1 : Int32))] [(.ref b49)])) _
            refine XS.aload X59.here hx rfl (hb hby at_168) rfl rfl ?_
            exact kt
          obtain ⟨_, _, ⟨T70, L70, k70, n70⟩, -, X70, ⟨Lc70, hQ70, l70, y70, z70⟩, st70⟩ := Jvm.LawKit.callS X59 hx (y := (⟨"com/example/nearsame/nearsame/Banding", "agree", "([J[J)Z"⟩ : MethodName)) hown (mvT hZ (hw _ (List.mem_of_getElem? (i := 1) rfl))) (mvT hZ (hw _ (List.mem_of_getElem? (i := 2) rfl))) (mvT hZ (hw _ (List.mem_of_getElem? (i := 3) rfl))) (mvT hZ (hw _ (List.mem_of_getElem? (i := 4) rfl))) (by decide) (backOf (W := 0) (rm1n3 l Z a0 hw [] b49 b50 j1 j3 j5 j12 j14 j16 h59 n0 Ab49_59 Ab50_59) hZ (hw _ (List.mem_of_getElem? (i := 4) rfl)) (hw _ (List.mem_of_getElem? (i := 3) rfl)) (by decide) (by decide)) (g := (mkF m 170 #[.val (.int i0), .val (.long j1), .second, .val (.long j3), .second, .val (.long j5), .second, .val (.long j7), .second, .val (.long j9), .second, .val (.int (3 : Int32)), .val (.long j12), .second, .val (.long j14), .second, .val (.long j16), .second, .val (.ref b49), .val (.ref b50), .val (.int (1 : Int32))] [(.ref b50), (.ref b49)])) rfl (by rw [hml]; rfl) (argsL := [(.ref b49), (.ref b50)]) (rest := []) (lenOf pd1 rfl) rfl (by show 2 * 0 + _ ≤ _; exact Nat.le_of_eq rfl) (hb hby at_170) (fun _ _ => ⟨rfl, e59, (by decide : 2 + 0 ≤ _), (by decide : 6 + 0 ≤ _)⟩)
          dsimp only [Pt.U, Pt.locs, Pt.cells, Pt.slots] at X70 l70 y70 z70 st70 hQ70
          subst l70 y70 z70
          obtain ⟨rfl, Nq70, e70⟩ := hQ70
          have N70 := Fr.app N59 Nq70
          refine own_step (T' := T70) (f' := (mkF m 173 #[.val (.int i0), .val (.long j1), .second, .val (.long j3), .second, .val (.long j5), .second, .val (.long j7), .second, .val (.long j9), .second, .val (.int (3 : Int32)), .val (.long j12), .second, .val (.long j14), .second, .val (.long j16), .second, .val (.ref b49), .val (.ref b50), .val (.int (1 : Int32))] [(.int (f1n3_0 j1 j3 j5 j12 j14 j16))])) st70 ?_
          refine own_step (T' := T70) (f' := (mkF m 175 #[.val (.int i0), .val (.long j1), .second, .val (.long j3), .second, .val (.long j5), .second, .val (.long j7), .second, .val (.long j9), .second, .val (.int (3 : Int32)), .val (.long j12), .second, .val (.long j14), .second, .val (.long j16), .second, .val (.ref b49), .val (.ref b50), .val (.int (1 : Int32))] [(.int (1 : Int32)), (.int (f1n3_0 j1 j3 j5 j12 j14 j16))])) (fun t kt => ?_) ?_
          · show Steps p.tables e below (T70.setTop (mkF m 173 #[.val (.int i0), .val (.long j1), .second, .val (.long j3), .second, .val (.long j5), .second, .val (.long j7), .second, .val (.long j9), .second, .val (.int (3 : Int32)), .val (.long j12), .second, .val (.long j14), .second, .val (.long j16), .second, .val (.ref b49), .val (.ref b50), .val (.int (1 : Int32))] [(.int (f1n3_0 j1 j3 j5 j12 j14 j16))])) _
            refine XS.iload X70.here hx rfl (hb hby at_173) rfl ?_
            exact kt
          by_cases hc175_71 : (f1n3_0 j1 j3 j5 j12 j14 j16) = (1 : Int32)
          · rw [if_pos hc175_71] at hr
            refine own_step (T' := T70) (f' := (mkF m 178 #[.val (.int i0), .val (.long j1), .second, .val (.long j3), .second, .val (.long j5), .second, .val (.long j7), .second, .val (.long j9), .second, .val (.int (3 : Int32)), .val (.long j12), .second, .val (.long j14), .second, .val (.long j16), .second, .val (.ref b49), .val (.ref b50), .val (.int (1 : Int32))] [])) (fun t kt => ?_) ?_
            · show Steps p.tables e below (T70.setTop (mkF m 175 #[.val (.int i0), .val (.long j1), .second, .val (.long j3), .second, .val (.long j5), .second, .val (.long j7), .second, .val (.long j9), .second, .val (.int (3 : Int32)), .val (.long j12), .second, .val (.long j14), .second, .val (.long j16), .second, .val (.ref b49), .val (.ref b50), .val (.int (1 : Int32))] [(.int (1 : Int32)), (.int (f1n3_0 j1 j3 j5 j12 j14 j16))])) _
              refine XS.icmpNo X70.here hx rfl (hb hby at_175) rfl (teq hc175_71).2 kt
            refine own_step (T' := T70) (f' := (mkF m 183 #[.val (.int i0), .val (.long j1), .second, .val (.long j3), .second, .val (.long j5), .second, .val (.long j7), .second, .val (.long j9), .second, .val (.int (3 : Int32)), .val (.long j12), .second, .val (.long j14), .second, .val (.long j16), .second, .val (.ref b49), .val (.ref b50), .val (.int (1 : Int32))] [(.int (1 : Int32))])) (fun t kt => ?_) ?_
            · show Steps p.tables e below (T70.setTop (mkF m 178 #[.val (.int i0), .val (.long j1), .second, .val (.long j3), .second, .val (.long j5), .second, .val (.long j7), .second, .val (.long j9), .second, .val (.int (3 : Int32)), .val (.long j12), .second, .val (.long j14), .second, .val (.long j16), .second, .val (.ref b49), .val (.ref b50), .val (.int (1 : Int32))] [])) _
              refine XS.iconst X70.here hx rfl (hb hby at_178) ?_
              show Steps p.tables e below (T70.setTop (mkF m 179 #[.val (.int i0), .val (.long j1), .second, .val (.long j3), .second, .val (.long j5), .second, .val (.long j7), .second, .val (.long j9), .second, .val (.int (3 : Int32)), .val (.long j12), .second, .val (.long j14), .second, .val (.long j16), .second, .val (.ref b49), .val (.ref b50), .val (.int (1 : Int32))] [(.int (1 : Int32))])) _
              refine XS.goto X70.here hx rfl (pc0 := 179) (pc' := 183) rfl (hb hby at_179) (by decide) (by decide) ?_
              exact kt
            exact own_retZ X70 hx hret (by simp) hlk (hb hby at_183) (by decide) (by decide) ⟨congrArg (fun z => some (Value.int z)) hr.symm, N70⟩
          · rw [if_neg hc175_71] at hr
            refine own_step (T' := T70) (f' := (mkF m 182 #[.val (.int i0), .val (.long j1), .second, .val (.long j3), .second, .val (.long j5), .second, .val (.long j7), .second, .val (.long j9), .second, .val (.int (3 : Int32)), .val (.long j12), .second, .val (.long j14), .second, .val (.long j16), .second, .val (.ref b49), .val (.ref b50), .val (.int (1 : Int32))] [])) (fun t kt => ?_) ?_
            · show Steps p.tables e below (T70.setTop (mkF m 175 #[.val (.int i0), .val (.long j1), .second, .val (.long j3), .second, .val (.long j5), .second, .val (.long j7), .second, .val (.long j9), .second, .val (.int (3 : Int32)), .val (.long j12), .second, .val (.long j14), .second, .val (.long j16), .second, .val (.ref b49), .val (.ref b50), .val (.int (1 : Int32))] [(.int (1 : Int32)), (.int (f1n3_0 j1 j3 j5 j12 j14 j16))])) _
              refine XS.icmpYes X70.here hx rfl (pc0 := 175) (pc' := 182) rfl (hb hby at_175) rfl (feq hc175_71).2 (by decide) (by decide) kt
            refine own_step (T' := T70) (f' := (mkF m 183 #[.val (.int i0), .val (.long j1), .second, .val (.long j3), .second, .val (.long j5), .second, .val (.long j7), .second, .val (.long j9), .second, .val (.int (3 : Int32)), .val (.long j12), .second, .val (.long j14), .second, .val (.long j16), .second, .val (.ref b49), .val (.ref b50), .val (.int (1 : Int32))] [(.int (0 : Int32))])) (fun t kt => ?_) ?_
            · show Steps p.tables e below (T70.setTop (mkF m 182 #[.val (.int i0), .val (.long j1), .second, .val (.long j3), .second, .val (.long j5), .second, .val (.long j7), .second, .val (.long j9), .second, .val (.int (3 : Int32)), .val (.long j12), .second, .val (.long j14), .second, .val (.long j16), .second, .val (.ref b49), .val (.ref b50), .val (.int (1 : Int32))] [])) _
              refine XS.iconst X70.here hx rfl (hb hby at_182) ?_
              exact kt
            exact own_retZ X70 hx hret (by simp) hlk (hb hby at_183) (by decide) (by decide) ⟨congrArg (fun z => some (Value.int z)) hr.symm, N70⟩
        · rw [if_neg hc156_69] at hr
          refine own_step (T' := T59) (f' := (mkF m 163 #[.val (.int i0), .val (.long j1), .second, .val (.long j3), .second, .val (.long j5), .second, .val (.long j7), .second, .val (.long j9), .second, .val (.int (3 : Int32)), .val (.long j12), .second, .val (.long j14), .second, .val (.long j16), .second, .val (.ref b49), .val (.ref b50), .unset] [])) (fun t kt => ?_) ?_
          · show Steps p.tables e below (T59.setTop (mkF m 156 #[.val (.int i0), .val (.long j1), .second, .val (.long j3), .second, .val (.long j5), .second, .val (.long j7), .second, .val (.long j9), .second, .val (.int (3 : Int32)), .val (.long j12), .second, .val (.long j14), .second, .val (.long j16), .second, .val (.ref b49), .val (.ref b50), .unset] [(.int (lcmpW j5 j16))])) _
            refine XS.ifYes X59.here hx rfl (pc0 := 156) (pc' := 163) rfl (hb hby at_156) rfl ((if0 _ _).trans (feq (mt (lw_eq _ _).mp hc156_69)).2) (by decide) (by decide) kt
          refine own_step (T' := T59) (f' := (mkF m 170 #[.val (.int i0), .val (.long j1), .second, .val (.long j3), .second, .val (.long j5), .second, .val (.long j7), .second, .val (.long j9), .second, .val (.int (3 : Int32)), .val (.long j12), .second, .val (.long j14), .second, .val (.long j16), .second, .val (.ref b49), .val (.ref b50), .val (.int (0 : Int32))] [(.ref b50), (.ref b49)])) (fun t kt => ?_) ?_
          · show Steps p.tables e below (T59.setTop (mkF m 163 #[.val (.int i0), .val (.long j1), .second, .val (.long j3), .second, .val (.long j5), .second, .val (.long j7), .second, .val (.long j9), .second, .val (.int (3 : Int32)), .val (.long j12), .second, .val (.long j14), .second, .val (.long j16), .second, .val (.ref b49), .val (.ref b50), .unset] [])) _
            refine XS.iconst X59.here hx rfl (hb hby at_163) ?_
            show Steps p.tables e below (T59.setTop (mkF m 164 #[.val (.int i0), .val (.long j1), .second, .val (.long j3), .second, .val (.long j5), .second, .val (.long j7), .second, .val (.long j9), .second, .val (.int (3 : Int32)), .val (.long j12), .second, .val (.long j14), .second, .val (.long j16), .second, .val (.ref b49), .val (.ref b50), .unset] [(.int (0 : Int32))])) _
            refine XS.istore X59.here hx rfl (hb hby at_164) rfl (l' := #[.val (.int i0), .val (.long j1), .second, .val (.long j3), .second, .val (.long j5), .second, .val (.long j7), .second, .val (.long j9), .second, .val (.int (3 : Int32)), .val (.long j12), .second, .val (.long j14), .second, .val (.long j16), .second, .val (.ref b49), .val (.ref b50), .val (.int (0 : Int32))]) rfl ?_
            show Steps p.tables e below (T59.setTop (mkF m 166 #[.val (.int i0), .val (.long j1), .second, .val (.long j3), .second, .val (.long j5), .second, .val (.long j7), .second, .val (.long j9), .second, .val (.int (3 : Int32)), .val (.long j12), .second, .val (.long j14), .second, .val (.long j16), .second, .val (.ref b49), .val (.ref b50), .val (.int (0 : Int32))] [])) _
            refine XS.aload X59.here hx rfl (hb hby at_166) rfl rfl ?_
            show Steps p.tables e below (T59.setTop (mkF m 168 #[.val (.int i0), .val (.long j1), .second, .val (.long j3), .second, .val (.long j5), .second, .val (.long j7), .second, .val (.long j9), .second, .val (.int (3 : Int32)), .val (.long j12), .second, .val (.long j14), .second, .val (.long j16), .second, .val (.ref b49), .val (.ref b50), .val (.int (0 : Int32))] [(.ref b49)])) _
            refine XS.aload X59.here hx rfl (hb hby at_168) rfl rfl ?_
            exact kt
          obtain ⟨_, _, ⟨T72, L72, k72, n72⟩, -, X72, ⟨Lc72, hQ72, l72, y72, z72⟩, st72⟩ := Jvm.LawKit.callS X59 hx (y := (⟨"com/example/nearsame/nearsame/Banding", "agree", "([J[J)Z"⟩ : MethodName)) hown (mvT hZ (hw _ (List.mem_of_getElem? (i := 1) rfl))) (mvT hZ (hw _ (List.mem_of_getElem? (i := 2) rfl))) (mvT hZ (hw _ (List.mem_of_getElem? (i := 3) rfl))) (mvT hZ (hw _ (List.mem_of_getElem? (i := 4) rfl))) (by decide) (backOf (W := 0) (rm1n3 l Z a0 hw [] b49 b50 j1 j3 j5 j12 j14 j16 h59 n0 Ab49_59 Ab50_59) hZ (hw _ (List.mem_of_getElem? (i := 4) rfl)) (hw _ (List.mem_of_getElem? (i := 3) rfl)) (by decide) (by decide)) (g := (mkF m 170 #[.val (.int i0), .val (.long j1), .second, .val (.long j3), .second, .val (.long j5), .second, .val (.long j7), .second, .val (.long j9), .second, .val (.int (3 : Int32)), .val (.long j12), .second, .val (.long j14), .second, .val (.long j16), .second, .val (.ref b49), .val (.ref b50), .val (.int (0 : Int32))] [(.ref b50), (.ref b49)])) rfl (by rw [hml]; rfl) (argsL := [(.ref b49), (.ref b50)]) (rest := []) (lenOf pd1 rfl) rfl (by show 2 * 0 + _ ≤ _; exact Nat.le_of_eq rfl) (hb hby at_170) (fun _ _ => ⟨rfl, e59, (by decide : 2 + 0 ≤ _), (by decide : 6 + 0 ≤ _)⟩)
          dsimp only [Pt.U, Pt.locs, Pt.cells, Pt.slots] at X72 l72 y72 z72 st72 hQ72
          subst l72 y72 z72
          obtain ⟨rfl, Nq72, e72⟩ := hQ72
          have N72 := Fr.app N59 Nq72
          refine own_step (T' := T72) (f' := (mkF m 173 #[.val (.int i0), .val (.long j1), .second, .val (.long j3), .second, .val (.long j5), .second, .val (.long j7), .second, .val (.long j9), .second, .val (.int (3 : Int32)), .val (.long j12), .second, .val (.long j14), .second, .val (.long j16), .second, .val (.ref b49), .val (.ref b50), .val (.int (0 : Int32))] [(.int (f1n3_0 j1 j3 j5 j12 j14 j16))])) st72 ?_
          refine own_step (T' := T72) (f' := (mkF m 175 #[.val (.int i0), .val (.long j1), .second, .val (.long j3), .second, .val (.long j5), .second, .val (.long j7), .second, .val (.long j9), .second, .val (.int (3 : Int32)), .val (.long j12), .second, .val (.long j14), .second, .val (.long j16), .second, .val (.ref b49), .val (.ref b50), .val (.int (0 : Int32))] [(.int (0 : Int32)), (.int (f1n3_0 j1 j3 j5 j12 j14 j16))])) (fun t kt => ?_) ?_
          · show Steps p.tables e below (T72.setTop (mkF m 173 #[.val (.int i0), .val (.long j1), .second, .val (.long j3), .second, .val (.long j5), .second, .val (.long j7), .second, .val (.long j9), .second, .val (.int (3 : Int32)), .val (.long j12), .second, .val (.long j14), .second, .val (.long j16), .second, .val (.ref b49), .val (.ref b50), .val (.int (0 : Int32))] [(.int (f1n3_0 j1 j3 j5 j12 j14 j16))])) _
            refine XS.iload X72.here hx rfl (hb hby at_173) rfl ?_
            exact kt
          by_cases hc175_73 : (f1n3_0 j1 j3 j5 j12 j14 j16) = (0 : Int32)
          · rw [if_pos hc175_73] at hr
            refine own_step (T' := T72) (f' := (mkF m 178 #[.val (.int i0), .val (.long j1), .second, .val (.long j3), .second, .val (.long j5), .second, .val (.long j7), .second, .val (.long j9), .second, .val (.int (3 : Int32)), .val (.long j12), .second, .val (.long j14), .second, .val (.long j16), .second, .val (.ref b49), .val (.ref b50), .val (.int (0 : Int32))] [])) (fun t kt => ?_) ?_
            · show Steps p.tables e below (T72.setTop (mkF m 175 #[.val (.int i0), .val (.long j1), .second, .val (.long j3), .second, .val (.long j5), .second, .val (.long j7), .second, .val (.long j9), .second, .val (.int (3 : Int32)), .val (.long j12), .second, .val (.long j14), .second, .val (.long j16), .second, .val (.ref b49), .val (.ref b50), .val (.int (0 : Int32))] [(.int (0 : Int32)), (.int (f1n3_0 j1 j3 j5 j12 j14 j16))])) _
              refine XS.icmpNo X72.here hx rfl (hb hby at_175) rfl (teq hc175_73).2 kt
            refine own_step (T' := T72) (f' := (mkF m 183 #[.val (.int i0), .val (.long j1), .second, .val (.long j3), .second, .val (.long j5), .second, .val (.long j7), .second, .val (.long j9), .second, .val (.int (3 : Int32)), .val (.long j12), .second, .val (.long j14), .second, .val (.long j16), .second, .val (.ref b49), .val (.ref b50), .val (.int (0 : Int32))] [(.int (1 : Int32))])) (fun t kt => ?_) ?_
            · show Steps p.tables e below (T72.setTop (mkF m 178 #[.val (.int i0), .val (.long j1), .second, .val (.long j3), .second, .val (.long j5), .second, .val (.long j7), .second, .val (.long j9), .second, .val (.int (3 : Int32)), .val (.long j12), .second, .val (.long j14), .second, .val (.long j16), .second, .val (.ref b49), .val (.ref b50), .val (.int (0 : Int32))] [])) _
              refine XS.iconst X72.here hx rfl (hb hby at_178) ?_
              show Steps p.tables e below (T72.setTop (mkF m 179 #[.val (.int i0), .val (.long j1), .second, .val (.long j3), .second, .val (.long j5), .second, .val (.long j7), .second, .val (.long j9), .second, .val (.int (3 : Int32)), .val (.long j12), .second, .val (.long j14), .second, .val (.long j16), .second, .val (.ref b49), .val (.ref b50), .val (.int (0 : Int32))] [(.int (1 : Int32))])) _
              refine XS.goto X72.here hx rfl (pc0 := 179) (pc' := 183) rfl (hb hby at_179) (by decide) (by decide) ?_
              exact kt
            exact own_retZ X72 hx hret (by simp) hlk (hb hby at_183) (by decide) (by decide) ⟨congrArg (fun z => some (Value.int z)) hr.symm, N72⟩
          · rw [if_neg hc175_73] at hr
            refine own_step (T' := T72) (f' := (mkF m 182 #[.val (.int i0), .val (.long j1), .second, .val (.long j3), .second, .val (.long j5), .second, .val (.long j7), .second, .val (.long j9), .second, .val (.int (3 : Int32)), .val (.long j12), .second, .val (.long j14), .second, .val (.long j16), .second, .val (.ref b49), .val (.ref b50), .val (.int (0 : Int32))] [])) (fun t kt => ?_) ?_
            · show Steps p.tables e below (T72.setTop (mkF m 175 #[.val (.int i0), .val (.long j1), .second, .val (.long j3), .second, .val (.long j5), .second, .val (.long j7), .second, .val (.long j9), .second, .val (.int (3 : Int32)), .val (.long j12), .second, .val (.long j14), .second, .val (.long j16), .second, .val (.ref b49), .val (.ref b50), .val (.int (0 : Int32))] [(.int (0 : Int32)), (.int (f1n3_0 j1 j3 j5 j12 j14 j16))])) _
              refine XS.icmpYes X72.here hx rfl (pc0 := 175) (pc' := 182) rfl (hb hby at_175) rfl (feq hc175_73).2 (by decide) (by decide) kt
            refine own_step (T' := T72) (f' := (mkF m 183 #[.val (.int i0), .val (.long j1), .second, .val (.long j3), .second, .val (.long j5), .second, .val (.long j7), .second, .val (.long j9), .second, .val (.int (3 : Int32)), .val (.long j12), .second, .val (.long j14), .second, .val (.long j16), .second, .val (.ref b49), .val (.ref b50), .val (.int (0 : Int32))] [(.int (0 : Int32))])) (fun t kt => ?_) ?_
            · show Steps p.tables e below (T72.setTop (mkF m 182 #[.val (.int i0), .val (.long j1), .second, .val (.long j3), .second, .val (.long j5), .second, .val (.long j7), .second, .val (.long j9), .second, .val (.int (3 : Int32)), .val (.long j12), .second, .val (.long j14), .second, .val (.long j16), .second, .val (.ref b49), .val (.ref b50), .val (.int (0 : Int32))] [])) _
              refine XS.iconst X72.here hx rfl (hb hby at_182) ?_
              exact kt
            exact own_retZ X72 hx hret (by simp) hlk (hb hby at_183) (by decide) (by decide) ⟨congrArg (fun z => some (Value.int z)) hr.symm, N72⟩
def f0_55 (j1 : Int64) (j3 : Int64) (j5 : Int64) (i11 : Int32) (j12 : Int64) (j14 : Int64) (k0 : Int64) : Int32 :=
  f0_57 j1 j3 j5 i11 j12 j14 k0
set_option maxRecDepth 65536 in
set_option maxHeartbeats 4000000 in
theorem b0_55 {p : Program} {l : Launch} {e : Env} {s : State} {m : MethodId} {args : Array Value} {below : List Frame} {meth : Method} {c : Code} {T0 : State} {locs : List Loc} {Z : State} {a0 : Array Value} {h0 : Heap} {n0 : Nat} (i0 : Int32) (j1 : Int64) (j3 : Int64) (j5 : Int64) (j7 : Int64) (j9 : Int64) (i11 : Int32) (j12 : Int64) (j14 : Int64) (k0 : Int64) {r : Int32} (X0 : Stand p l e room_1 s m args below meth c T0 locs 0 0) (hx : p.tables.exec = Jvm.exec) (hZ : Z.Warmed39 s.vm) (hw : ∀ d ∈ tables_1, d.before a0 Z = true) (hby : c.code = code) (hml : c.maxLocals = 21) (hown : s.vm.findClass "com/example/nearsame/nearsame/BandingAgreePinLaw" = some m.cls) (hret : meth.sig.returnType = some .boolean) (hlk : meth.locks = false) (e0 : T0.heap = h0) (N0 : Fr n0 locs) (Z0 : n0 ≤ h0.size) (hsp : i11 = (0 : Int32) ∨ i11 = (1 : Int32) ∨ i11 = (2 : Int32) ∨ i11 = (3 : Int32)) (hr : r = f0_55 j1 j3 j5 i11 j12 j14 k0) :
    own_Ends p e below s 16 128 (own_R (.int r) n0) T0 (mkF m 55 #[.val (.int i0), .val (.long j1), .second, .val (.long j3), .second, .val (.long j5), .second, .val (.long j7), .second, .val (.long j9), .second, .val (.int i11), .val (.long j12), .second, .val (.long j14), .second, .unset, .unset, .unset, .unset, .unset] [(.long k0)]) := by
  unfold f0_55 at hr
  refine own_step (T' := T0) (f' := (mkF m 57 #[.val (.int i0), .val (.long j1), .second, .val (.long j3), .second, .val (.long j5), .second, .val (.long j7), .second, .val (.long j9), .second, .val (.int i11), .val (.long j12), .second, .val (.long j14), .second, .val (.long k0), .second, .unset, .unset, .unset] [])) (fun t kt => ?_) ?_
  · show Steps p.tables e below (T0.setTop (mkF m 55 #[.val (.int i0), .val (.long j1), .second, .val (.long j3), .second, .val (.long j5), .second, .val (.long j7), .second, .val (.long j9), .second, .val (.int i11), .val (.long j12), .second, .val (.long j14), .second, .unset, .unset, .unset, .unset, .unset] [(.long k0)])) _
    refine XS.lstore X0.here hx rfl (hb hby at_55) rfl (l' := #[.val (.int i0), .val (.long j1), .second, .val (.long j3), .second, .val (.long j5), .second, .val (.long j7), .second, .val (.long j9), .second, .val (.int i11), .val (.long j12), .second, .val (.long j14), .second, .val (.long k0), .second, .unset, .unset, .unset]) rfl ?_
    exact kt
  exact b0_57 i0 j1 j3 j5 j7 j9 i11 j12 j14 k0 X0 hx hZ hw hby hml hown hret hlk e0 N0 Z0 hsp hr
def f0_35 (i0 : Int32) (j1 : Int64) (j3 : Int64) (j5 : Int64) (j7 : Int64) (j9 : Int64) (i11 : Int32) (j12 : Int64) (k0 : Int64) : Int32 :=
  if (((i0.toUInt32 >>> ((4 : Int32) &&& 31).toUInt32).toInt32) &&& (1 : Int32)) = (0 : Int32) then (f0_55 j1 j3 j5 i11 j12 k0 (j7 ^^^ j9)) else (f0_55 j1 j3 j5 i11 j12 k0 j5)
set_option maxRecDepth 65536 in
set_option maxHeartbeats 4000000 in
theorem b0_35 {p : Program} {l : Launch} {e : Env} {s : State} {m : MethodId} {args : Array Value} {below : List Frame} {meth : Method} {c : Code} {T0 : State} {locs : List Loc} {Z : State} {a0 : Array Value} {h0 : Heap} {n0 : Nat} (i0 : Int32) (j1 : Int64) (j3 : Int64) (j5 : Int64) (j7 : Int64) (j9 : Int64) (i11 : Int32) (j12 : Int64) (k0 : Int64) {r : Int32} (X0 : Stand p l e room_1 s m args below meth c T0 locs 0 0) (hx : p.tables.exec = Jvm.exec) (hZ : Z.Warmed39 s.vm) (hw : ∀ d ∈ tables_1, d.before a0 Z = true) (hby : c.code = code) (hml : c.maxLocals = 21) (hown : s.vm.findClass "com/example/nearsame/nearsame/BandingAgreePinLaw" = some m.cls) (hret : meth.sig.returnType = some .boolean) (hlk : meth.locks = false) (e0 : T0.heap = h0) (N0 : Fr n0 locs) (Z0 : n0 ≤ h0.size) (hsp : i11 = (0 : Int32) ∨ i11 = (1 : Int32) ∨ i11 = (2 : Int32) ∨ i11 = (3 : Int32)) (hr : r = f0_35 i0 j1 j3 j5 j7 j9 i11 j12 k0) :
    own_Ends p e below s 16 128 (own_R (.int r) n0) T0 (mkF m 35 #[.val (.int i0), .val (.long j1), .second, .val (.long j3), .second, .val (.long j5), .second, .val (.long j7), .second, .val (.long j9), .second, .val (.int i11), .val (.long j12), .second, .unset, .unset, .unset, .unset, .unset, .unset, .unset] [(.long k0)]) := by
  unfold f0_35 at hr
  refine own_step (T' := T0) (f' := (mkF m 42 #[.val (.int i0), .val (.long j1), .second, .val (.long j3), .second, .val (.long j5), .second, .val (.long j7), .second, .val (.long j9), .second, .val (.int i11), .val (.long j12), .second, .val (.long k0), .second, .unset, .unset, .unset, .unset, .unset] [(.int (((i0.toUInt32 >>> ((4 : Int32) &&& 31).toUInt32).toInt32) &&& (1 : Int32)))])) (fun t kt => ?_) ?_
  · show Steps p.tables e below (T0.setTop (mkF m 35 #[.val (.int i0), .val (.long j1), .second, .val (.long j3), .second, .val (.long j5), .second, .val (.long j7), .second, .val (.long j9), .second, .val (.int i11), .val (.long j12), .second, .unset, .unset, .unset, .unset, .unset, .unset, .unset] [(.long k0)])) _
    refine XS.lstore X0.here hx rfl (hb hby at_35) rfl (l' := #[.val (.int i0), .val (.long j1), .second, .val (.long j3), .second, .val (.long j5), .second, .val (.long j7), .second, .val (.long j9), .second, .val (.int i11), .val (.long j12), .second, .val (.long k0), .second, .unset, .unset, .unset, .unset, .unset]) rfl ?_
    show Steps p.tables e below (T0.setTop (mkF m 37 #[.val (.int i0), .val (.long j1), .second, .val (.long j3), .second, .val (.long j5), .second, .val (.long j7), .second, .val (.long j9), .second, .val (.int i11), .val (.long j12), .second, .val (.long k0), .second, .unset, .unset, .unset, .unset, .unset] [])) _
    refine XS.iloadN X0.here hx rfl (hb hby at_37) rfl ?_
    show Steps p.tables e below (T0.setTop (mkF m 38 #[.val (.int i0), .val (.long j1), .second, .val (.long j3), .second, .val (.long j5), .second, .val (.long j7), .second, .val (.long j9), .second, .val (.int i11), .val (.long j12), .second, .val (.long k0), .second, .unset, .unset, .unset, .unset, .unset] [(.int i0)])) _
    refine XS.iconst X0.here hx rfl (hb hby at_38) ?_
    show Steps p.tables e below (T0.setTop (mkF m 39 #[.val (.int i0), .val (.long j1), .second, .val (.long j3), .second, .val (.long j5), .second, .val (.long j7), .second, .val (.long j9), .second, .val (.int i11), .val (.long j12), .second, .val (.long k0), .second, .unset, .unset, .unset, .unset, .unset] [(.int (4 : Int32)), (.int i0)])) _
    refine XS.iushr X0.here hx rfl (hb hby at_39) rfl ?_
    show Steps p.tables e below (T0.setTop (mkF m 40 #[.val (.int i0), .val (.long j1), .second, .val (.long j3), .second, .val (.long j5), .second, .val (.long j7), .second, .val (.long j9), .second, .val (.int i11), .val (.long j12), .second, .val (.long k0), .second, .unset, .unset, .unset, .unset, .unset] [(.int ((i0.toUInt32 >>> ((4 : Int32) &&& 31).toUInt32).toInt32))])) _
    refine XS.iconst X0.here hx rfl (hb hby at_40) ?_
    show Steps p.tables e below (T0.setTop (mkF m 41 #[.val (.int i0), .val (.long j1), .second, .val (.long j3), .second, .val (.long j5), .second, .val (.long j7), .second, .val (.long j9), .second, .val (.int i11), .val (.long j12), .second, .val (.long k0), .second, .unset, .unset, .unset, .unset, .unset] [(.int (1 : Int32)), (.int ((i0.toUInt32 >>> ((4 : Int32) &&& 31).toUInt32).toInt32))])) _
    refine XS.iand X0.here hx rfl (hb hby at_41) rfl ?_
    exact kt
  by_cases hc42_3 : (((i0.toUInt32 >>> ((4 : Int32) &&& 31).toUInt32).toInt32) &&& (1 : Int32)) = (0 : Int32)
  · rw [if_pos hc42_3] at hr
    refine own_step (T' := T0) (f' := (mkF m 50 #[.val (.int i0), .val (.long j1), .second, .val (.long j3), .second, .val (.long j5), .second, .val (.long j7), .second, .val (.long j9), .second, .val (.int i11), .val (.long j12), .second, .val (.long k0), .second, .unset, .unset, .unset, .unset, .unset] [])) (fun t kt => ?_) ?_
    · show Steps p.tables e below (T0.setTop (mkF m 42 #[.val (.int i0), .val (.long j1), .second, .val (.long j3), .second, .val (.long j5), .second, .val (.long j7), .second, .val (.long j9), .second, .val (.int i11), .val (.long j12), .second, .val (.long k0), .second, .unset, .unset, .unset, .unset, .unset] [(.int (((i0.toUInt32 >>> ((4 : Int32) &&& 31).toUInt32).toInt32) &&& (1 : Int32)))])) _
      refine XS.ifYes X0.here hx rfl (pc0 := 42) (pc' := 50) rfl (hb hby at_42) rfl ((if0 _ _).trans (teq hc42_3).1) (by decide) (by decide) kt
    refine own_step (T' := T0) (f' := (mkF m 55 #[.val (.int i0), .val (.long j1), .second, .val (.long j3), .second, .val (.long j5), .second, .val (.long j7), .second, .val (.long j9), .second, .val (.int i11), .val (.long j12), .second, .val (.long k0), .second, .unset, .unset, .unset, .unset, .unset] [(.long (j7 ^^^ j9))])) (fun t kt => ?_) ?_
    · show Steps p.tables e below (T0.setTop (mkF m 50 #[.val (.int i0), .val (.long j1), .second, .val (.long j3), .second, .val (.long j5), .second, .val (.long j7), .second, .val (.long j9), .second, .val (.int i11), .val (.long j12), .second, .val (.long k0), .second, .unset, .unset, .unset, .unset, .unset] [])) _
      refine XS.lload X0.here hx rfl (hb hby at_50) rfl ?_
      show Steps p.tables e below (T0.setTop (mkF m 52 #[.val (.int i0), .val (.long j1), .second, .val (.long j3), .second, .val (.long j5), .second, .val (.long j7), .second, .val (.long j9), .second, .val (.int i11), .val (.long j12), .second, .val (.long k0), .second, .unset, .unset, .unset, .unset, .unset] [(.long j7)])) _
      refine XS.lload X0.here hx rfl (hb hby at_52) rfl ?_
      show Steps p.tables e below (T0.setTop (mkF m 54 #[.val (.int i0), .val (.long j1), .second, .val (.long j3), .second, .val (.long j5), .second, .val (.long j7), .second, .val (.long j9), .second, .val (.int i11), .val (.long j12), .second, .val (.long k0), .second, .unset, .unset, .unset, .unset, .unset] [(.long j9), (.long j7)])) _
      refine XS.lxor X0.here hx rfl (hb hby at_54) rfl ?_
      exact kt
    exact b0_55 i0 j1 j3 j5 j7 j9 i11 j12 k0 (j7 ^^^ j9) X0 hx hZ hw hby hml hown hret hlk e0 N0 Z0 hsp hr
  · rw [if_neg hc42_3] at hr
    refine own_step (T' := T0) (f' := (mkF m 45 #[.val (.int i0), .val (.long j1), .second, .val (.long j3), .second, .val (.long j5), .second, .val (.long j7), .second, .val (.long j9), .second, .val (.int i11), .val (.long j12), .second, .val (.long k0), .second, .unset, .unset, .unset, .unset, .unset] [])) (fun t kt => ?_) ?_
    · show Steps p.tables e below (T0.setTop (mkF m 42 #[.val (.int i0), .val (.long j1), .second, .val (.long j3), .second, .val (.long j5), .second, .val (.long j7), .second, .val (.long j9), .second, .val (.int i11), .val (.long j12), .second, .val (.long k0), .second, .unset, .unset, .unset, .unset, .unset] [(.int (((i0.toUInt32 >>> ((4 : Int32) &&& 31).toUInt32).toInt32) &&& (1 : Int32)))])) _
      refine XS.ifNo X0.here hx rfl (hb hby at_42) rfl ((if0 _ _).trans (feq hc42_3).1) kt
    refine own_step (T' := T0) (f' := (mkF m 55 #[.val (.int i0), .val (.long j1), .second, .val (.long j3), .second, .val (.long j5), .second, .val (.long j7), .second, .val (.long j9), .second, .val (.int i11), .val (.long j12), .second, .val (.long k0), .second, .unset, .unset, .unset, .unset, .unset] [(.long j5)])) (fun t kt => ?_) ?_
    · show Steps p.tables e below (T0.setTop (mkF m 45 #[.val (.int i0), .val (.long j1), .second, .val (.long j3), .second, .val (.long j5), .second, .val (.long j7), .second, .val (.long j9), .second, .val (.int i11), .val (.long j12), .second, .val (.long k0), .second, .unset, .unset, .unset, .unset, .unset] [])) _
      refine XS.lload X0.here hx rfl (hb hby at_45) rfl ?_
      show Steps p.tables e below (T0.setTop (mkF m 47 #[.val (.int i0), .val (.long j1), .second, .val (.long j3), .second, .val (.long j5), .second, .val (.long j7), .second, .val (.long j9), .second, .val (.int i11), .val (.long j12), .second, .val (.long k0), .second, .unset, .unset, .unset, .unset, .unset] [(.long j5)])) _
      refine XS.goto X0.here hx rfl (pc0 := 47) (pc' := 55) rfl (hb hby at_47) (by decide) (by decide) ?_
      exact kt
    exact b0_55 i0 j1 j3 j5 j7 j9 i11 j12 k0 j5 X0 hx hZ hw hby hml hown hret hlk e0 N0 Z0 hsp hr
def f0_19 (i0 : Int32) (j1 : Int64) (j3 : Int64) (j5 : Int64) (j7 : Int64) (j9 : Int64) (i11 : Int32) (k0 : Int64) : Int32 :=
  if (((i0.toUInt32 >>> ((3 : Int32) &&& 31).toUInt32).toInt32) &&& (1 : Int32)) = (0 : Int32) then (f0_35 i0 j1 j3 j5 j7 j9 i11 k0 j9) else (f0_35 i0 j1 j3 j5 j7 j9 i11 k0 j3)
set_option maxRecDepth 65536 in
set_option maxHeartbeats 4000000 in
theorem b0_19 {p : Program} {l : Launch} {e : Env} {s : State} {m : MethodId} {args : Array Value} {below : List Frame} {meth : Method} {c : Code} {T0 : State} {locs : List Loc} {Z : State} {a0 : Array Value} {h0 : Heap} {n0 : Nat} (i0 : Int32) (j1 : Int64) (j3 : Int64) (j5 : Int64) (j7 : Int64) (j9 : Int64) (i11 : Int32) (k0 : Int64) {r : Int32} (X0 : Stand p l e room_1 s m args below meth c T0 locs 0 0) (hx : p.tables.exec = Jvm.exec) (hZ : Z.Warmed39 s.vm) (hw : ∀ d ∈ tables_1, d.before a0 Z = true) (hby : c.code = code) (hml : c.maxLocals = 21) (hown : s.vm.findClass "com/example/nearsame/nearsame/BandingAgreePinLaw" = some m.cls) (hret : meth.sig.returnType = some .boolean) (hlk : meth.locks = false) (e0 : T0.heap = h0) (N0 : Fr n0 locs) (Z0 : n0 ≤ h0.size) (hsp : i11 = (0 : Int32) ∨ i11 = (1 : Int32) ∨ i11 = (2 : Int32) ∨ i11 = (3 : Int32)) (hr : r = f0_19 i0 j1 j3 j5 j7 j9 i11 k0) :
    own_Ends p e below s 16 128 (own_R (.int r) n0) T0 (mkF m 19 #[.val (.int i0), .val (.long j1), .second, .val (.long j3), .second, .val (.long j5), .second, .val (.long j7), .second, .val (.long j9), .second, .val (.int i11), .unset, .unset, .unset, .unset, .unset, .unset, .unset, .unset, .unset] [(.long k0)]) := by
  unfold f0_19 at hr
  refine own_step (T' := T0) (f' := (mkF m 26 #[.val (.int i0), .val (.long j1), .second, .val (.long j3), .second, .val (.long j5), .second, .val (.long j7), .second, .val (.long j9), .second, .val (.int i11), .val (.long k0), .second, .unset, .unset, .unset, .unset, .unset, .unset, .unset] [(.int (((i0.toUInt32 >>> ((3 : Int32) &&& 31).toUInt32).toInt32) &&& (1 : Int32)))])) (fun t kt => ?_) ?_
  · show Steps p.tables e below (T0.setTop (mkF m 19 #[.val (.int i0), .val (.long j1), .second, .val (.long j3), .second, .val (.long j5), .second, .val (.long j7), .second, .val (.long j9), .second, .val (.int i11), .unset, .unset, .unset, .unset, .unset, .unset, .unset, .unset, .unset] [(.long k0)])) _
    refine XS.lstore X0.here hx rfl (hb hby at_19) rfl (l' := #[.val (.int i0), .val (.long j1), .second, .val (.long j3), .second, .val (.long j5), .second, .val (.long j7), .second, .val (.long j9), .second, .val (.int i11), .val (.long k0), .second, .unset, .unset, .unset, .unset, .unset, .unset, .unset]) rfl ?_
    show Steps p.tables e below (T0.setTop (mkF m 21 #[.val (.int i0), .val (.long j1), .second, .val (.long j3), .second, .val (.long j5), .second, .val (.long j7), .second, .val (.long j9), .second, .val (.int i11), .val (.long k0), .second, .unset, .unset, .unset, .unset, .unset, .unset, .unset] [])) _
    refine XS.iloadN X0.here hx rfl (hb hby at_21) rfl ?_
    show Steps p.tables e below (T0.setTop (mkF m 22 #[.val (.int i0), .val (.long j1), .second, .val (.long j3), .second, .val (.long j5), .second, .val (.long j7), .second, .val (.long j9), .second, .val (.int i11), .val (.long k0), .second, .unset, .unset, .unset, .unset, .unset, .unset, .unset] [(.int i0)])) _
    refine XS.iconst X0.here hx rfl (hb hby at_22) ?_
    show Steps p.tables e below (T0.setTop (mkF m 23 #[.val (.int i0), .val (.long j1), .second, .val (.long j3), .second, .val (.long j5), .second, .val (.long j7), .second, .val (.long j9), .second, .val (.int i11), .val (.long k0), .second, .unset, .unset, .unset, .unset, .unset, .unset, .unset] [(.int (3 : Int32)), (.int i0)])) _
    refine XS.iushr X0.here hx rfl (hb hby at_23) rfl ?_
    show Steps p.tables e below (T0.setTop (mkF m 24 #[.val (.int i0), .val (.long j1), .second, .val (.long j3), .second, .val (.long j5), .second, .val (.long j7), .second, .val (.long j9), .second, .val (.int i11), .val (.long k0), .second, .unset, .unset, .unset, .unset, .unset, .unset, .unset] [(.int ((i0.toUInt32 >>> ((3 : Int32) &&& 31).toUInt32).toInt32))])) _
    refine XS.iconst X0.here hx rfl (hb hby at_24) ?_
    show Steps p.tables e below (T0.setTop (mkF m 25 #[.val (.int i0), .val (.long j1), .second, .val (.long j3), .second, .val (.long j5), .second, .val (.long j7), .second, .val (.long j9), .second, .val (.int i11), .val (.long k0), .second, .unset, .unset, .unset, .unset, .unset, .unset, .unset] [(.int (1 : Int32)), (.int ((i0.toUInt32 >>> ((3 : Int32) &&& 31).toUInt32).toInt32))])) _
    refine XS.iand X0.here hx rfl (hb hby at_25) rfl ?_
    exact kt
  by_cases hc26_2 : (((i0.toUInt32 >>> ((3 : Int32) &&& 31).toUInt32).toInt32) &&& (1 : Int32)) = (0 : Int32)
  · rw [if_pos hc26_2] at hr
    refine own_step (T' := T0) (f' := (mkF m 33 #[.val (.int i0), .val (.long j1), .second, .val (.long j3), .second, .val (.long j5), .second, .val (.long j7), .second, .val (.long j9), .second, .val (.int i11), .val (.long k0), .second, .unset, .unset, .unset, .unset, .unset, .unset, .unset] [])) (fun t kt => ?_) ?_
    · show Steps p.tables e below (T0.setTop (mkF m 26 #[.val (.int i0), .val (.long j1), .second, .val (.long j3), .second, .val (.long j5), .second, .val (.long j7), .second, .val (.long j9), .second, .val (.int i11), .val (.long k0), .second, .unset, .unset, .unset, .unset, .unset, .unset, .unset] [(.int (((i0.toUInt32 >>> ((3 : Int32) &&& 31).toUInt32).toInt32) &&& (1 : Int32)))])) _
      refine XS.ifYes X0.here hx rfl (pc0 := 26) (pc' := 33) rfl (hb hby at_26) rfl ((if0 _ _).trans (teq hc26_2).1) (by decide) (by decide) kt
    refine own_step (T' := T0) (f' := (mkF m 35 #[.val (.int i0), .val (.long j1), .second, .val (.long j3), .second, .val (.long j5), .second, .val (.long j7), .second, .val (.long j9), .second, .val (.int i11), .val (.long k0), .second, .unset, .unset, .unset, .unset, .unset, .unset, .unset] [(.long j9)])) (fun t kt => ?_) ?_
    · show Steps p.tables e below (T0.setTop (mkF m 33 #[.val (.int i0), .val (.long j1), .second, .val (.long j3), .second, .val (.long j5), .second, .val (.long j7), .second, .val (.long j9), .second, .val (.int i11), .val (.long k0), .second, .unset, .unset, .unset, .unset, .unset, .unset, .unset] [])) _
      refine XS.lload X0.here hx rfl (hb hby at_33) rfl ?_
      exact kt
    exact b0_35 i0 j1 j3 j5 j7 j9 i11 k0 j9 X0 hx hZ hw hby hml hown hret hlk e0 N0 Z0 hsp hr
  · rw [if_neg hc26_2] at hr
    refine own_step (T' := T0) (f' := (mkF m 29 #[.val (.int i0), .val (.long j1), .second, .val (.long j3), .second, .val (.long j5), .second, .val (.long j7), .second, .val (.long j9), .second, .val (.int i11), .val (.long k0), .second, .unset, .unset, .unset, .unset, .unset, .unset, .unset] [])) (fun t kt => ?_) ?_
    · show Steps p.tables e below (T0.setTop (mkF m 26 #[.val (.int i0), .val (.long j1), .second, .val (.long j3), .second, .val (.long j5), .second, .val (.long j7), .second, .val (.long j9), .second, .val (.int i11), .val (.long k0), .second, .unset, .unset, .unset, .unset, .unset, .unset, .unset] [(.int (((i0.toUInt32 >>> ((3 : Int32) &&& 31).toUInt32).toInt32) &&& (1 : Int32)))])) _
      refine XS.ifNo X0.here hx rfl (hb hby at_26) rfl ((if0 _ _).trans (feq hc26_2).1) kt
    refine own_step (T' := T0) (f' := (mkF m 35 #[.val (.int i0), .val (.long j1), .second, .val (.long j3), .second, .val (.long j5), .second, .val (.long j7), .second, .val (.long j9), .second, .val (.int i11), .val (.long k0), .second, .unset, .unset, .unset, .unset, .unset, .unset, .unset] [(.long j3)])) (fun t kt => ?_) ?_
    · show Steps p.tables e below (T0.setTop (mkF m 29 #[.val (.int i0), .val (.long j1), .second, .val (.long j3), .second, .val (.long j5), .second, .val (.long j7), .second, .val (.long j9), .second, .val (.int i11), .val (.long k0), .second, .unset, .unset, .unset, .unset, .unset, .unset, .unset] [])) _
      refine XS.lloadN X0.here hx rfl (hb hby at_29) rfl ?_
      show Steps p.tables e below (T0.setTop (mkF m 30 #[.val (.int i0), .val (.long j1), .second, .val (.long j3), .second, .val (.long j5), .second, .val (.long j7), .second, .val (.long j9), .second, .val (.int i11), .val (.long k0), .second, .unset, .unset, .unset, .unset, .unset, .unset, .unset] [(.long j3)])) _
      refine XS.goto X0.here hx rfl (pc0 := 30) (pc' := 35) rfl (hb hby at_30) (by decide) (by decide) ?_
      exact kt
    exact b0_35 i0 j1 j3 j5 j7 j9 i11 k0 j3 X0 hx hZ hw hby hml hown hret hlk e0 N0 Z0 hsp hr
def f0_0 (p0 : Int32) (q1 : Int64) (q2 : Int64) (q3 : Int64) (q4 : Int64) (q5 : Int64) : Int32 :=
  if (((p0.toUInt32 >>> ((2 : Int32) &&& 31).toUInt32).toInt32) &&& (1 : Int32)) = (0 : Int32) then (f0_19 p0 q1 q2 q3 q4 q5 (p0 &&& (3 : Int32)) q4) else (f0_19 p0 q1 q2 q3 q4 q5 (p0 &&& (3 : Int32)) q1)
set_option maxRecDepth 65536 in
set_option maxHeartbeats 4000000 in
theorem b0_0 {p : Program} {l : Launch} {e : Env} {s : State} {m : MethodId} {args : Array Value} {below : List Frame} {meth : Method} {c : Code} {T0 : State} {locs : List Loc} {Z : State} {a0 : Array Value} {h0 : Heap} {n0 : Nat} (p0 : Int32) (q1 : Int64) (q2 : Int64) (q3 : Int64) (q4 : Int64) (q5 : Int64) {r : Int32} (X0 : Stand p l e room_1 s m args below meth c T0 locs 0 0) (hx : p.tables.exec = Jvm.exec) (hZ : Z.Warmed39 s.vm) (hw : ∀ d ∈ tables_1, d.before a0 Z = true) (hby : c.code = code) (hml : c.maxLocals = 21) (hown : s.vm.findClass "com/example/nearsame/nearsame/BandingAgreePinLaw" = some m.cls) (hret : meth.sig.returnType = some .boolean) (hlk : meth.locks = false) (e0 : T0.heap = h0) (N0 : Fr n0 locs) (Z0 : n0 ≤ h0.size) (hr : r = f0_0 p0 q1 q2 q3 q4 q5) :
    own_Ends p e below s 16 128 (own_R (.int r) n0) T0 (mkF m 0 #[.val (.int p0), .val (.long q1), .second, .val (.long q2), .second, .val (.long q3), .second, .val (.long q4), .second, .val (.long q5), .second, .unset, .unset, .unset, .unset, .unset, .unset, .unset, .unset, .unset, .unset] []) := by
  unfold f0_0 at hr
  refine own_step (T' := T0) (f' := (mkF m 10 #[.val (.int p0), .val (.long q1), .second, .val (.long q2), .second, .val (.long q3), .second, .val (.long q4), .second, .val (.long q5), .second, .val (.int (p0 &&& (3 : Int32))), .unset, .unset, .unset, .unset, .unset, .unset, .unset, .unset, .unset] [(.int (((p0.toUInt32 >>> ((2 : Int32) &&& 31).toUInt32).toInt32) &&& (1 : Int32)))])) (fun t kt => ?_) ?_
  · show Steps p.tables e below (T0.setTop (mkF m 0 #[.val (.int p0), .val (.long q1), .second, .val (.long q2), .second, .val (.long q3), .second, .val (.long q4), .second, .val (.long q5), .second, .unset, .unset, .unset, .unset, .unset, .unset, .unset, .unset, .unset, .unset] [])) _
    refine XS.iloadN X0.here hx rfl (hb hby at_0) rfl ?_
    show Steps p.tables e below (T0.setTop (mkF m 1 #[.val (.int p0), .val (.long q1), .second, .val (.long q2), .second, .val (.long q3), .second, .val (.long q4), .second, .val (.long q5), .second, .unset, .unset, .unset, .unset, .unset, .unset, .unset, .unset, .unset, .unset] [(.int p0)])) _
    refine XS.iconst X0.here hx rfl (hb hby at_1) ?_
    show Steps p.tables e below (T0.setTop (mkF m 2 #[.val (.int p0), .val (.long q1), .second, .val (.long q2), .second, .val (.long q3), .second, .val (.long q4), .second, .val (.long q5), .second, .unset, .unset, .unset, .unset, .unset, .unset, .unset, .unset, .unset, .unset] [(.int (3 : Int32)), (.int p0)])) _
    refine XS.iand X0.here hx rfl (hb hby at_2) rfl ?_
    show Steps p.tables e below (T0.setTop (mkF m 3 #[.val (.int p0), .val (.long q1), .second, .val (.long q2), .second, .val (.long q3), .second, .val (.long q4), .second, .val (.long q5), .second, .unset, .unset, .unset, .unset, .unset, .unset, .unset, .unset, .unset, .unset] [(.int (p0 &&& (3 : Int32)))])) _
    refine XS.istore X0.here hx rfl (hb hby at_3) rfl (l' := #[.val (.int p0), .val (.long q1), .second, .val (.long q2), .second, .val (.long q3), .second, .val (.long q4), .second, .val (.long q5), .second, .val (.int (p0 &&& (3 : Int32))), .unset, .unset, .unset, .unset, .unset, .unset, .unset, .unset, .unset]) rfl ?_
    show Steps p.tables e below (T0.setTop (mkF m 5 #[.val (.int p0), .val (.long q1), .second, .val (.long q2), .second, .val (.long q3), .second, .val (.long q4), .second, .val (.long q5), .second, .val (.int (p0 &&& (3 : Int32))), .unset, .unset, .unset, .unset, .unset, .unset, .unset, .unset, .unset] [])) _
    refine XS.iloadN X0.here hx rfl (hb hby at_5) rfl ?_
    show Steps p.tables e below (T0.setTop (mkF m 6 #[.val (.int p0), .val (.long q1), .second, .val (.long q2), .second, .val (.long q3), .second, .val (.long q4), .second, .val (.long q5), .second, .val (.int (p0 &&& (3 : Int32))), .unset, .unset, .unset, .unset, .unset, .unset, .unset, .unset, .unset] [(.int p0)])) _
    refine XS.iconst X0.here hx rfl (hb hby at_6) ?_
    show Steps p.tables e below (T0.setTop (mkF m 7 #[.val (.int p0), .val (.long q1), .second, .val (.long q2), .second, .val (.long q3), .second, .val (.long q4), .second, .val (.long q5), .second, .val (.int (p0 &&& (3 : Int32))), .unset, .unset, .unset, .unset, .unset, .unset, .unset, .unset, .unset] [(.int (2 : Int32)), (.int p0)])) _
    refine XS.iushr X0.here hx rfl (hb hby at_7) rfl ?_
    show Steps p.tables e below (T0.setTop (mkF m 8 #[.val (.int p0), .val (.long q1), .second, .val (.long q2), .second, .val (.long q3), .second, .val (.long q4), .second, .val (.long q5), .second, .val (.int (p0 &&& (3 : Int32))), .unset, .unset, .unset, .unset, .unset, .unset, .unset, .unset, .unset] [(.int ((p0.toUInt32 >>> ((2 : Int32) &&& 31).toUInt32).toInt32))])) _
    refine XS.iconst X0.here hx rfl (hb hby at_8) ?_
    show Steps p.tables e below (T0.setTop (mkF m 9 #[.val (.int p0), .val (.long q1), .second, .val (.long q2), .second, .val (.long q3), .second, .val (.long q4), .second, .val (.long q5), .second, .val (.int (p0 &&& (3 : Int32))), .unset, .unset, .unset, .unset, .unset, .unset, .unset, .unset, .unset] [(.int (1 : Int32)), (.int ((p0.toUInt32 >>> ((2 : Int32) &&& 31).toUInt32).toInt32))])) _
    refine XS.iand X0.here hx rfl (hb hby at_9) rfl ?_
    exact kt
  by_cases hc10_1 : (((p0.toUInt32 >>> ((2 : Int32) &&& 31).toUInt32).toInt32) &&& (1 : Int32)) = (0 : Int32)
  · rw [if_pos hc10_1] at hr
    refine own_step (T' := T0) (f' := (mkF m 17 #[.val (.int p0), .val (.long q1), .second, .val (.long q2), .second, .val (.long q3), .second, .val (.long q4), .second, .val (.long q5), .second, .val (.int (p0 &&& (3 : Int32))), .unset, .unset, .unset, .unset, .unset, .unset, .unset, .unset, .unset] [])) (fun t kt => ?_) ?_
    · show Steps p.tables e below (T0.setTop (mkF m 10 #[.val (.int p0), .val (.long q1), .second, .val (.long q2), .second, .val (.long q3), .second, .val (.long q4), .second, .val (.long q5), .second, .val (.int (p0 &&& (3 : Int32))), .unset, .unset, .unset, .unset, .unset, .unset, .unset, .unset, .unset] [(.int (((p0.toUInt32 >>> ((2 : Int32) &&& 31).toUInt32).toInt32) &&& (1 : Int32)))])) _
      refine XS.ifYes X0.here hx rfl (pc0 := 10) (pc' := 17) rfl (hb hby at_10) rfl ((if0 _ _).trans (teq hc10_1).1) (by decide) (by decide) kt
    refine own_step (T' := T0) (f' := (mkF m 19 #[.val (.int p0), .val (.long q1), .second, .val (.long q2), .second, .val (.long q3), .second, .val (.long q4), .second, .val (.long q5), .second, .val (.int (p0 &&& (3 : Int32))), .unset, .unset, .unset, .unset, .unset, .unset, .unset, .unset, .unset] [(.long q4)])) (fun t kt => ?_) ?_
    · show Steps p.tables e below (T0.setTop (mkF m 17 #[.val (.int p0), .val (.long q1), .second, .val (.long q2), .second, .val (.long q3), .second, .val (.long q4), .second, .val (.long q5), .second, .val (.int (p0 &&& (3 : Int32))), .unset, .unset, .unset, .unset, .unset, .unset, .unset, .unset, .unset] [])) _
      refine XS.lload X0.here hx rfl (hb hby at_17) rfl ?_
      exact kt
    exact b0_19 p0 q1 q2 q3 q4 q5 (p0 &&& (3 : Int32)) q4 X0 hx hZ hw hby hml hown hret hlk e0 N0 Z0 (own_sp _) hr
  · rw [if_neg hc10_1] at hr
    refine own_step (T' := T0) (f' := (mkF m 13 #[.val (.int p0), .val (.long q1), .second, .val (.long q2), .second, .val (.long q3), .second, .val (.long q4), .second, .val (.long q5), .second, .val (.int (p0 &&& (3 : Int32))), .unset, .unset, .unset, .unset, .unset, .unset, .unset, .unset, .unset] [])) (fun t kt => ?_) ?_
    · show Steps p.tables e below (T0.setTop (mkF m 10 #[.val (.int p0), .val (.long q1), .second, .val (.long q2), .second, .val (.long q3), .second, .val (.long q4), .second, .val (.long q5), .second, .val (.int (p0 &&& (3 : Int32))), .unset, .unset, .unset, .unset, .unset, .unset, .unset, .unset, .unset] [(.int (((p0.toUInt32 >>> ((2 : Int32) &&& 31).toUInt32).toInt32) &&& (1 : Int32)))])) _
      refine XS.ifNo X0.here hx rfl (hb hby at_10) rfl ((if0 _ _).trans (feq hc10_1).1) kt
    refine own_step (T' := T0) (f' := (mkF m 19 #[.val (.int p0), .val (.long q1), .second, .val (.long q2), .second, .val (.long q3), .second, .val (.long q4), .second, .val (.long q5), .second, .val (.int (p0 &&& (3 : Int32))), .unset, .unset, .unset, .unset, .unset, .unset, .unset, .unset, .unset] [(.long q1)])) (fun t kt => ?_) ?_
    · show Steps p.tables e below (T0.setTop (mkF m 13 #[.val (.int p0), .val (.long q1), .second, .val (.long q2), .second, .val (.long q3), .second, .val (.long q4), .second, .val (.long q5), .second, .val (.int (p0 &&& (3 : Int32))), .unset, .unset, .unset, .unset, .unset, .unset, .unset, .unset, .unset] [])) _
      refine XS.lloadN X0.here hx rfl (hb hby at_13) rfl ?_
      show Steps p.tables e below (T0.setTop (mkF m 14 #[.val (.int p0), .val (.long q1), .second, .val (.long q2), .second, .val (.long q3), .second, .val (.long q4), .second, .val (.long q5), .second, .val (.int (p0 &&& (3 : Int32))), .unset, .unset, .unset, .unset, .unset, .unset, .unset, .unset, .unset] [(.long q1)])) _
      refine XS.goto X0.here hx rfl (pc0 := 14) (pc' := 19) rfl (hb hby at_14) (by decide) (by decide) ?_
      exact kt
    exact b0_19 p0 q1 q2 q3 q4 q5 (p0 &&& (3 : Int32)) q1 X0 hx hZ hw hby hml hown hret hlk e0 N0 Z0 (own_sp _) hr
set_option maxRecDepth 65536 in
set_option maxHeartbeats 4000000 in
theorem rm0 (l : Launch) (Z : State) (a0 : Array Value) (hw : ∀ d ∈ tables_1, d.before a0 Z = true) (ws : List Jvm.Cond) (p0 : Int32) (q1 : Int64) (q2 : Int64) (q3 : Int64) (q4 : Int64) (q5 : Int64) (h0 : Heap) (n0 : Nat) (Z0 : n0 ≤ h0.size) :
    MetFree l x (head1 (Jvm.Cond.code x code maxLocals ret :: ws) room_1) (fun a U => a = #[(.int p0), (.long q1), (.long q2), (.long q3), (.long q4), (.long q5)] ∧ Z.Warmed39 U.vm ∧ U.heap = h0) (fun _ _ _ _ _ => True) (fun _ U o U' => ∃ v L, o = .returned v ∧ (own_R (.int (f0_0 p0 q1 q2 q3 q4 q5)) n0) v U'.heap L ∧ FrameEnd U o U' L 16 128) := by
  refine MetFree.of_bodySF (plainFor_of_name pn0) hisR ?_
  intro p e s m args below meth c s₁ Bd hml0 hP hK
  obtain ⟨rfl, hZ, hh⟩ := hP
  have hown : s.vm.findClass "com/example/nearsame/nearsame/BandingAgreePinLaw" = some m.cls := findClass_of_methodNamed Bd.named
  have X0 : Stand p l e room_1 s m #[(.int p0), (.long q1), (.long q2), (.long q3), (.long q4), (.long q5)] below meth c s₁ [] 0 0 := Stand.of_body Bd
  have e0 : s₁.heap = h0 := by rw [← hh, Bd.state]; rfl
  show own_Ends p e below s 16 128 (own_R (.int (f0_0 p0 q1 q2 q3 q4 q5)) n0) s₁ (entryFrame m #[(.int p0), (.long q1), (.long q2), (.long q3), (.long q4), (.long q5)] maxLocals)
  refine own_step (fun t k => castTop (ef0 m p0 q1 q2 q3 q4 q5) k) ?_
  exact b0_0 p0 q1 q2 q3 q4 q5 X0 Bd.exec hZ hw Bd.bytes hml0 hown Bd.returns (BodyLoose.notSynchronized Bd) e0 (Fr.nil n0) Z0 rfl
theorem own_57 (a b c : Int64) (n : Int32) (x y z : Int64) (h : n = 0 ∨ n = 1 ∨ n = 2 ∨ n = 3) : f0_57 a b c n x y z = 1 := by
  unfold f0_57 f1n0_0 f1n1_0 f1n2_0 f1n3_0
  by_cases h1 : a = x <;> by_cases h2 : b = y <;> by_cases h3 : c = z <;> rcases h with rfl | rfl | rfl | rfl <;> simp [h1, h2, h3]
theorem law_true (p0 : Int32) (q1 q2 q3 q4 q5 : Int64) : f0_0 p0 q1 q2 q3 q4 q5 = 1 := by
  unfold f0_0 f0_19 f0_35 f0_55
  simp only [own_57 _ _ _ _ _ _ _ (own_sp p0), ite_self]

set_option maxRecDepth 65536 in
set_option maxHeartbeats 4000000 in
theorem comes_1 {Post : Tables → Env → Array Value → State → Outcome → State → Prop} (hpost : ∀ tb e args s v u, (limb_1_1.after args s (.returned v) u = true ∧ limb_1_2.after args s (.returned v) u = true ∧ True) → FrameEnd s (.returned v) u (Jvm.fieldLocs frame_1_writes args s ++ Jvm.arrayLocs frame_1_arrays args s ++ Jvm.staticLocs frame_1_statics s) 16 128 → Post tb e args s (.returned v) u) :
    ArmFor flags0 classFile x code maxLocals ret World_1 tables_1 room_1 Calls_1 rest_1 Pre_1 Post := by
  intro l hfl _ _ p e ha hc hk s m args below hf hA hF happ hP
  obtain ⟨hcalls, hrest, hpre⟩ := hP
  obtain ⟨-, -, -, hnamed, -, -, -, hat⟩ := (Spec.applies_iff hf).mp happ
  obtain ⟨hg, hn⟩ := and_e (Cond.before_iff.mp (show (Jvm.Cond.and given_1 narrow_1).before args s = true from hpre))
  obtain ⟨g1, g2⟩ := and_e hg
  obtain ⟨ga0, gb0⟩ := and_e g2
  obtain ⟨ga1, gb1⟩ := and_e gb0
  obtain ⟨ga2, gb2⟩ := and_e gb1
  obtain ⟨ga3, gb3⟩ := and_e gb2
  obtain ⟨ga4, gb4⟩ := and_e gb3
  obtain ⟨w0, w1, w2, w3, w4, w5, rfl⟩ : ∃ w0 w1 w2 w3 w4 w5 : Value, args = #[w0, w1, w2, w3, w4, w5] := by
    have hs : args.size = 6 := by simpa [Cond.value, given_1] using g1
    obtain ⟨L⟩ := args
    match L, hs with
    | [w0, w1, w2, w3, w4, w5], _ => exact ⟨w0, w1, w2, w3, w4, w5, rfl⟩
  have hw := fun d (hd : d ∈ tables_1) => atoms_spec (ws := Jvm.Cond.code x code maxLocals ret :: tables_1) hat d (List.mem_cons_of_mem _ hd)
  obtain ⟨i0, ei0⟩ := is_v ga0
  obtain rfl : w0 = (.int i0) := Option.some.inj ei0
  obtain ⟨i1, ei1⟩ := isL_v ga1
  obtain rfl : w1 = (.long i1) := Option.some.inj ei1
  obtain ⟨i2, ei2⟩ := isL_v ga2
  obtain rfl : w2 = (.long i2) := Option.some.inj ei2
  obtain ⟨i3, ei3⟩ := isL_v ga3
  obtain rfl : w3 = (.long i3) := Option.some.inj ei3
  obtain ⟨i4, ei4⟩ := isL_v ga4
  obtain rfl : w4 = (.long i4) := Option.some.inj ei4
  obtain ⟨i5, ei5⟩ := isL_v gb4
  obtain rfl : w5 = (.long i5) := Option.some.inj ei5
  obtain ⟨n, o, h1, h2, h3, _, L, rfl, ⟨rfl, N⟩, hq⟩ := rm0 l s _ hw tables_1 i0 i1 i2 i3 i4 i5 s.heap s.heap.size (Nat.le_refl _) p e ha hc hk s m _ below hf ((Spec.applies_iff_loose hf).mp happ).1 ⟨rfl, State.Warmed39.refl s, rfl⟩ trivial
  rw [law_true] at *
  refine ⟨n, _, h1, h2, h3, hpost _ _ _ _ _ _ ⟨Cond.after_iff.mpr rfl, Cond.after_iff.mpr (eq_i res_at (Term.int_eval (1)) rfl), trivial⟩ ⟨hq.1, hq.2.1, (hq.2.2.sift fun y hy => Or.inr (N y hy)).mono (by decide) (by decide)⟩⟩
theorem main_1_1 : Claimed_1_1 := comes_1 fun _ _ _ _ _ _ h hF => ⟨h.1, hF⟩
theorem main_1_2 : Claimed_1_2 := comes_1 fun _ _ _ _ _ _ h hF => ⟨h.2.1, hF⟩
end Jvm.Pilot.@@N@@
namespace Jvm.Pilot.@@N@@
open Jvm Jvm.ClassFile Sem Op Lib Jvm.Free Jvm.Stand Jvm.Pilot.@@N@@.Jvm.D
/-! MADE BY PROGRAM (witnessworld.py) out of the Statement's table words and the real class files: 12 classes; the members and pool entries that the words name. The judged class is class 1, her method 1. -/
namespace start1
open Jvm.ClassFile
def u (s : String) : CpInfo := .utf8 (stringToUtf16 s)
/-- a pool by its gaps: so many unusable entries, then the entry; so many at the end -/
def gap : Nat → List CpInfo → List CpInfo
  | 0, r => r
  | n + 1, r => .unusable :: gap n r
def poolList (es : List (Nat × CpInfo)) (last : Nat) : List CpInfo := es.foldr (fun e r => gap e.1 (e.2 :: r)) (gap last [])
def pool (es : List (Nat × CpInfo)) (last : Nat) : Array CpInfo := ⟨poolList es last⟩
def fileOf (pool : Array CpInfo) (this : Nat) (attrs : Array Attribute := #[]) (ms : Array MethodInfo := #[]) (fl : Nat := 33) (sup : Nat := 0) (ifs : Array Nat := #[]) (fds : Array FieldInfo := #[]) : ClassFile where
  minorVersion := 0
  majorVersion := 65
  constantPool := pool
  accessFlags := fl
  thisClass := this
  superClass := sup
  interfaces := ifs
  fields := fds
  methods := ms
  attributes := attrs
def plain (name : String) (sup : Option ClassId) : Class where
  name := name
  kind := .ordinary
  loader := none
  accessFlags := 33
  super := sup
  interfaces := #[]
  cf := none
  fields := #[]
  methods := #[]
  instanceTypes := #[]
  staticTypes := #[]
  resolved := #[]
  callSites := []
  init := .initialized
  statics := none
  mirror := none

def pool0 : Array CpInfo := pool [(5, u "<init>"), (0, u "()V"), (1, .class_ 10), (1, u "java/lang/Object")] 113

def k0m0 : Method := { name := "<init>", desc := "()V", sig := { parameters := [], returnType := none }, accessFlags := 1, code := none }
/-- java/lang/Object -/
def k0 : Class := { plain "java/lang/Object" none with
  accessFlags := 33
  interfaces := #[]
  cf := some (fileOf pool0 8 #[] #[{ accessFlags := 1, nameIndex := 5, descriptorIndex := 6, attributes := #[] }] 33 0 #[] #[])
  fields := #[]
  methods := #[k0m0]
  instanceTypes := #[]
  staticTypes := #[]
  resolved := Array.replicate 124 none
  statics := none }

def pool1 : Array CpInfo := pool [(2, .class_ 4), (1, u "java/lang/Object"), (0, u "<init>"), (0, u "()V"), (0, .methodref 8 9), (0, .class_ 10), (0, .nameAndType 11 12), (0, u "com/example/nearsame/nearsame/Banding"), (0, u "agree"), (0, u "([J[J)Z"), (0, .class_ 14), (0, u "com/example/nearsame/nearsame/BandingAgreePinLaw"), (2, u "law"), (0, u "(IJJJJJ)Z")] 5

def k1m0 : Method := { name := "<init>", desc := "()V", sig := { parameters := [], returnType := none }, accessFlags := 1, code := none }
def k1c1 : Code := { maxStack := 4, maxLocals := 21, code := code, exceptionTable := #[], attributes := #[] }
def k1m1 : Method := { name := "law", desc := "(IJJJJJ)Z", sig := { parameters := [.int, .long, .long, .long, .long, .long], returnType := some .boolean }, accessFlags := 9, code := some k1c1 }
/-- com/example/nearsame/nearsame/BandingAgreePinLaw -/
def k1 : Class := { plain "com/example/nearsame/nearsame/BandingAgreePinLaw" (some 0) with
  accessFlags := 49
  interfaces := #[]
  cf := some (fileOf pool1 13 #[] #[{ accessFlags := 1, nameIndex := 5, descriptorIndex := 6, attributes := #[] }, { accessFlags := 9, nameIndex := 17, descriptorIndex := 18, attributes := #[] }] 49 2 #[] #[])
  fields := #[]
  methods := #[k1m0, k1m1]
  instanceTypes := #[]
  staticTypes := #[]
  resolved := Array.replicate 24 none
  statics := none }

def pool2 : Array CpInfo := pool [(2, .class_ 4), (1, u "java/lang/Object"), (0, u "<init>"), (0, u "()V"), (0, .class_ 8), (0, u "java/lang/Record")] 13

def k2m0 : Method := { name := "<init>", desc := "()V", sig := { parameters := [], returnType := none }, accessFlags := 4, code := none }
/-- java/lang/Record -/
def k2 : Class := { plain "java/lang/Record" (some 0) with
  accessFlags := 1057
  interfaces := #[]
  cf := some (fileOf pool2 7 #[] #[{ accessFlags := 4, nameIndex := 5, descriptorIndex := 6, attributes := #[] }] 1057 2 #[] #[])
  fields := #[]
  methods := #[k2m0]
  instanceTypes := #[]
  staticTypes := #[]
  resolved := Array.replicate 22 none
  statics := none }

def pool3 : Array CpInfo := pool [(2, .class_ 4), (1, u "java/lang/Record"), (12, .class_ 19), (1, u "com/example/nearsame/nearsame/Banding"), (0, u "bands"), (0, u "I"), (2, u "rows"), (14, u "DOWN"), (0, u "Ljava/math/MathContext;"), (9, u "Ljava/math/BigDecimal;"), (26, u "UP"), (5, u "MISS"), (28, .class_ 113), (0, u "com/example/nearsame/nearsame/Banding$LaterCandidates"), (15, .class_ 130), (0, u "com/example/nearsame/nearsame/Banding$DocumentsOf"), (3, .class_ 135), (0, u "com/example/nearsame/nearsame/Banding$BandRuns"), (16, .class_ 154), (1, u "com/example/nearsame/nearsame/Banding$Bands"), (40, .class_ 197), (1, u "com/example/nearsame/nearsame/Banding$CandidateVisitor"), (20, .class_ 219), (0, u "com/example/nearsame/nearsame/Banding$SpanVisitor"), (7, .class_ 229), (1, u "com/example/nearsame/nearsame/Banding$RunVisitor"), (28, u "LAST"), (2, u "ALONE"), (12, u "agree"), (0, u "([J[J)Z"), (17, .class_ 294), (0, u "com/example/nearsame/nearsame/Banding$LongRun")] 53

def k3c0 : Code := { maxStack := 4, maxLocals := 4, code := prog_3_method_8_code, exceptionTable := #[], attributes := #[] }
def k3m0 : Method := { name := "agree", desc := "([J[J)Z", sig := { parameters := [(.array .long), (.array .long)], returnType := some .boolean }, accessFlags := 8, code := some k3c0 }
/-- com/example/nearsame/nearsame/Banding -/
def k3 : Class := { plain "com/example/nearsame/nearsame/Banding" (some 2) with
  accessFlags := 49
  interfaces := #[]
  cf := some (fileOf pool3 17 #[.nestMembers #[218, 227, 195, 129, 293, 134, 152, 112]] #[{ accessFlags := 8, nameIndex := 274, descriptorIndex := 275, attributes := #[] }] 49 2 #[] #[{ accessFlags := 18, nameIndex := 20, descriptorIndex := 21, attributes := #[] }, { accessFlags := 18, nameIndex := 24, descriptorIndex := 21, attributes := #[] }, { accessFlags := 26, nameIndex := 83, descriptorIndex := 50, attributes := #[] }, { accessFlags := 26, nameIndex := 39, descriptorIndex := 40, attributes := #[] }, { accessFlags := 26, nameIndex := 77, descriptorIndex := 40, attributes := #[] }, { accessFlags := 26, nameIndex := 258, descriptorIndex := 21, attributes := #[] }, { accessFlags := 26, nameIndex := 261, descriptorIndex := 21, attributes := #[] }])
  fields := #[{ name := "bands", type := .int, accessFlags := 18, slot := 0, constantValue := 0 }, { name := "rows", type := .int, accessFlags := 18, slot := 1, constantValue := 0 }, { name := "MISS", type := (.object "java/math/BigDecimal"), accessFlags := 26, slot := 0, constantValue := 0 }, { name := "DOWN", type := (.object "java/math/MathContext"), accessFlags := 26, slot := 1, constantValue := 0 }, { name := "UP", type := (.object "java/math/MathContext"), accessFlags := 26, slot := 2, constantValue := 0 }, { name := "LAST", type := .int, accessFlags := 26, slot := 3, constantValue := 0 }, { name := "ALONE", type := .int, accessFlags := 26, slot := 4, constantValue := 0 }]
  methods := #[k3m0]
  instanceTypes := #[.int, .int]
  staticTypes := #[(.object "java/math/BigDecimal"), (.object "java/math/MathContext"), (.object "java/math/MathContext"), .int, .int]
  resolved := Array.replicate 348 none
  statics := none }

def pool4 : Array CpInfo := pool [(1, u "java/lang/Cloneable"), (0, .class_ 1), (0, u "java/lang/Object"), (0, .class_ 3)] 3

/-- java/lang/Cloneable -/
def k4 : Class := { plain "java/lang/Cloneable" (some 0) with
  accessFlags := 1537
  interfaces := #[]
  cf := some (fileOf pool4 2 #[] #[] 1537 4 #[] #[])
  fields := #[]
  methods := #[]
  instanceTypes := #[]
  staticTypes := #[]
  resolved := Array.replicate 8 none
  statics := none }

def pool5 : Array CpInfo := pool [(1, u "java/io/Serializable"), (0, .class_ 1), (0, u "java/lang/Object"), (0, .class_ 3)] 3

/-- java/io/Serializable -/
def k5 : Class := { plain "java/io/Serializable" (some 0) with
  accessFlags := 1537
  interfaces := #[]
  cf := some (fileOf pool5 2 #[] #[] 1537 4 #[] #[])
  fields := #[]
  methods := #[]
  instanceTypes := #[]
  staticTypes := #[]
  resolved := Array.replicate 8 none
  statics := none }

/-- the primitive byte -/
def k6 : Class := { plain "byte" none with kind := .primitive 'B', accessFlags := 0x411 }
/-- [B -/
def k7 : Class := { plain "[B" (some 0) with kind := .array 6 .byte, interfaces := #[4, 5], accessFlags := 1041 }

/-- the primitive int -/
def k8 : Class := { plain "int" none with kind := .primitive 'I', accessFlags := 0x411 }
/-- [I -/
def k9 : Class := { plain "[I" (some 0) with kind := .array 8 .int, interfaces := #[4, 5], accessFlags := 1041 }

/-- the primitive long -/
def k10 : Class := { plain "long" none with kind := .primitive 'J', accessFlags := 0x411 }
/-- [J -/
def k11 : Class := { plain "[J" (some 0) with kind := .array 10 .long, interfaces := #[4, 5], accessFlags := 1041 }

def heap : Heap := #[]
def classes : Array Class := #[k0, k1, k2, k3, k4, k5, k6, k7, k8, k9, k10, k11]
def interned : List (Array UInt16 × Addr) := []
def slotsUsed : Nat := 0
def theMethod : MethodId := ⟨1, 1⟩
def args0 : Array Value := #[.int 7, .long 1, .long 2, .long 3, .long 4, .long 5]
def aboutOver (below : List Frame) : State where
  vm := { classes := classes, interned := interned.toArray }
  heap := heap
  slotsUsed := slotsUsed
  threads := #[{ frames := .invoking theMethod args0 :: below }]
def below0 : List Frame := [.native { method := ⟨0, 0⟩, args := #[] }]
def about1 : State := aboutOver below0
def p0 : Program := .bare "" "" ""
def e0 : Env := launch0.env 0 0 0
theorem w_frames : about1.frames = Frame.invoking theMethod args0 :: below0 := rfl
set_option maxRecDepth 65536 in
theorem w_args : argsFit about1.vm theMethod args0 = true := by decide +kernel
set_option maxRecDepth 65536 in
theorem w_heap : heapFits about1 = true := by decide +kernel
set_option maxRecDepth 65536 in
theorem w_runnable : about1.curStatus? = some .runnable := by decide +kernel
set_option maxRecDepth 65536 in
theorem w_alone : about1.alone = true := by decide +kernel
set_option maxRecDepth 65536 in
theorem w_named : about1.methodNamed? x = some theMethod := by decide +kernel
set_option maxRecDepth 65536 in
theorem w_hears : about1.hears theMethod below0 = true := by decide +kernel
set_option maxRecDepth 65536 in
theorem w_ripe : about1.ripe theMethod args0 below0 = true := by decide +kernel
theorem w_running : about1.status = .running := rfl
set_option maxRecDepth 65536 in
theorem w_room : about1.hasRoom e0.platform room_1 = true :=
  launch0.hasRoom_least _ room_1 (by decide +kernel) (by decide +kernel) (by decide +kernel) (by decide +kernel) (by decide +kernel) (by decide +kernel)
theorem allAtoms_all (ts : List Jvm.Cond) (a : Array Jvm.Value) (st : Jvm.State) : (allAtoms ts).before a st = ts.all (fun c => c.before a st) := by
  induction ts with
  | nil => rfl
  | cons c t ih =>
    show (Jvm.Cond.and c (allAtoms t)).before a st = _
    rw [Jvm.Cond.before_and, ih, List.all_cons]
def words1 : List Jvm.Cond := Jvm.Cond.code x code maxLocals ret :: tables_1
/-- a 'code' word, met by the world's own term for the bytes: nothing is compared byte by byte -/
theorem code_word {y : MethodName} {bytes : ByteArray} {mx : Nat} {rt : Option FieldType} {a : Array Value} {s : State} {m : MethodId} {meth : Method} {c : Code} (h1 : s.methodNamed? y = some m) (h2 : s.vm.method? m = some meth) (h3 : meth.code = some c) (h4 : c.code = bytes)
    (h5 : (c.maxLocals == mx && c.exceptionTable.isEmpty && decide (c.maxStack ≤ mostOperands) && decide (meth.sig.returnType = rt) && !meth.locks && decide (parseMethodDescriptor y.desc = some meth.sig)) = true) : (Jvm.Cond.code y bytes mx rt).before a s = true := by
  simp only [Bool.and_eq_true, beq_iff_eq, Bool.not_eq_true', decide_eq_true_eq] at h5
  obtain ⟨⟨⟨⟨⟨g1, g2⟩, g3⟩, g4⟩, g5⟩, g6⟩ := h5
  simp [Cond.before, Cond.holds, Cond.value, h1, h2, h3, h4, g1, g2, g3, g4, g5, g6]
def isCode : Jvm.Cond → Bool
  | .code _ _ _ _ => true
  | _ => false
theorem all_split {L : List Jvm.Cond} {P : Jvm.Cond → Bool} (h1 : L.all (fun c => isCode c || P c) = true) (h2 : ∀ c ∈ L.filter isCode, P c = true) : L.all P = true := by
  refine List.all_eq_true.mpr fun c hc => ?_
  have h := List.all_eq_true.mp h1 c hc
  rcases Bool.eq_false_or_eq_true (isCode c) with hi | hi
  · exact h2 c (List.mem_filter.mpr ⟨hc, hi⟩)
  · simpa [hi] using h
set_option maxRecDepth 65536 in
theorem w_c0 : (Jvm.Cond.code x code maxLocals ret).before args0 about1 = true := code_word (m := ⟨1, 1⟩) (meth := k1m1) (c := k1c1) (by decide +kernel) rfl rfl rfl (by decide +kernel)
set_option maxRecDepth 65536 in
theorem w_c1 : (Jvm.Cond.code ({ cls := "com/example/nearsame/nearsame/Banding", name := "agree", desc := "([J[J)Z" } : Jvm.MethodName) prog_3_method_8_code (4 : Nat) (Option.some Jvm.ClassFile.FieldType.boolean)).before args0 about1 = true := code_word (m := ⟨3, 0⟩) (meth := k3m0) (c := k3c0) (by decide +kernel) rfl rfl rfl (by decide +kernel)
def codes1 : List Jvm.Cond := [Jvm.Cond.code x code maxLocals ret, Jvm.Cond.code ({ cls := "com/example/nearsame/nearsame/Banding", name := "agree", desc := "([J[J)Z" } : Jvm.MethodName) prog_3_method_8_code (4 : Nat) (Option.some Jvm.ClassFile.FieldType.boolean)]
set_option maxRecDepth 65536 in
theorem codes_eq : words1.filter isCode = codes1 := rfl
theorem w_codes : ∀ c ∈ words1.filter isCode, c.before args0 about1 = true := by
  rw [codes_eq]
  intro c hc
  simp only [codes1, List.mem_cons, List.not_mem_nil, or_false] at hc
  rcases hc with rfl | rfl
  · exact w_c0
  · exact w_c1
set_option maxRecDepth 65536 in
theorem w_t1 : words1.all (fun c => isCode c || c.before args0 about1) = true := by decide +kernel
theorem w_tables : (allAtoms (Jvm.Cond.code x code maxLocals ret :: tables_1)).before args0 about1 = true := by
  rw [allAtoms_all]
  show words1.all (fun c => c.before args0 about1) = true
  refine all_split ?_ w_codes
  rw [w_t1]
set_option maxRecDepth 65536 in
theorem w_case : (Jvm.Cond.and given_1 narrow_1).before args0 about1 = true := by decide +kernel
theorem w_applies : (headSpec (Jvm.Cond.code x code maxLocals ret :: tables_1) room_1).applies x e0.platform about1 = true :=
  (Spec.applies_iff w_frames).mpr ⟨w_running, w_runnable, w_alone, w_named, w_hears, w_ripe, w_room, w_tables⟩
theorem atStart : AtStart classFile x code maxLocals ret World_1 tables_1 room_1 Calls_1 rest_1 Pre_1 launch0 p0 e0 about1 theMethod args0 below0 :=
  ⟨lists_1, trivial, launch0.admits_env _ _ _, launch0.least_env, fairChoices_fair.cas, fairChoices_fair.clock, w_frames, w_args, w_heap, w_applies, trivial, trivial, w_case⟩
end start1
theorem witness_1 : WitnessClaimed_1 := ⟨start1.p0, start1.e0, start1.about1, start1.theMethod, start1.args0, start1.below0, start1.atStart⟩
end Jvm.Pilot.@@N@@
