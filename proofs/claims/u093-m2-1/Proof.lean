import JvmDerived
import JvmDerived.Pilot.@@N@@Statement
import JvmDerived.Pilot.@@N@@Code
set_option linter.unusedVariables false
set_option linter.unusedSimpArgs false
namespace Jvm.RoadKit
open Sem ClassFile Op Lib Jvm.Stand Jvm.Free Jvm.LawKit
section New
variable {p : Program} {l : Launch} {e : Env} {R : Room} {s : State} {m : MethodId} {args : Array Value} {below : List Frame} {meth : Method} {c : Code} {T : State} {locs : List Loc} {cells slots : Nat}
theorem retI (X : Stand p l e R s m args below meth c T locs cells slots) (hx : p.tables.exec = Jvm.exec) {pc : Nat} {Ls : Array Slot} {z : Int32} {rest : List Value} (hret : meth.sig.returnType = some .int) (hd : decode c.code pc = .ok (.ireturn, 1)) {fs : List Frame}
    (hl : ∀ (f : JFrame) (acts : List Action), f.method = m → f.locked = none → f.entered = [] → (doReturn e (T.setTop f) acts (some (.int z))).1 = T.setFrames fs) : Steps p.tables e below (T.setTop (mkF m pc Ls (.int z :: rest))) (T.setFrames fs) := by
  have hm' : T.vm.method? m = some meth := X.method'
  have hn : narrow .int (.int z) = .int z := rfl
  show Steps p.tables e below (T.setTop { method := m, pc := pc, locals := Ls, stack := _ :: rest, locked := none }) _
  jvm_step X.here [X.here.top, hx, hd, hm', hret, hn]
  first | (intro acts; rw [hl _ acts rfl rfl rfl]) | rw [hl _ _ rfl rfl rfl]
  exact Steps.refl _
end New
end Jvm.RoadKit
namespace Jvm.Pilot.@@N@@
open Jvm Jvm.ClassFile Sem Op Lib Jvm.Free Jvm.Stand Jvm.LawKit Jvm.RoadKit Bundle Jvm.Pilot.@@N@@.Jvm.D
section Own
variable {p : Program} {l : Launch} {e : Env} {R : Room} {s : State} {m : MethodId} {args : Array Value} {below : List Frame} {meth : Method} {c : Code} {T T' : State} {locs : List Loc} {cells slots : Nat}
/-- what a walk has still to come to: it ends, with an answer of which Q is true -/
def own_Ends (p : Program) (e : Env) (below : List Frame) (U : State) (C S : Nat) (Q : Option Value → Heap → List Loc → Prop) (T : State) (f : JFrame) : Prop :=
  ∃ s₂ o, Steps p.tables e below (T.setTop f) s₂ ∧ s₂.status = .running ∧ Ended s₂ below o ∧ ∃ v L, o = .returned v ∧ Q v s₂.heap L ∧ FrameEnd U o s₂ L C S
theorem own_step {U : State} {C S : Nat} {Q : Option Value → Heap → List Loc → Prop} {f f' : JFrame} (h : ∀ t, Steps p.tables e below (T'.setTop f') t → Steps p.tables e below (T.setTop f) t) (k : own_Ends p e below U C S Q T' f') : own_Ends p e below U C S Q T f := by
  obtain ⟨s₂, o, h1, h2⟩ := k
  exact ⟨s₂, o, h _ h1, h2⟩
/-- a pure answer: that value, nothing old written, the heap as it was -/
def own_P (w : Value) (h0 : Heap) (n0 : Nat) (v : Option Value) (h : Heap) (L : List Loc) : Prop := v = some w ∧ Fr n0 L ∧ h = h0
theorem own_retZ {C S : Nat} {Q : Option Value → Heap → List Loc → Prop} {pc : Nat} {Ls : Array Slot} {z : Int32} {t : FieldType} {rest : List Value} (X : Stand p l e R s m args below meth c T locs cells slots) (hx : p.tables.exec = Jvm.exec) (hret : meth.sig.returnType = some t) (ht : t = .boolean ∨ t = .byte ∨ t = .char ∨ t = .short) (hlk : meth.locks = false)
    (hd : decode c.code pc = .ok (.ireturn, 1)) (hC : cells ≤ C) (hS : slots ≤ S) (hq : Q (some (.int (nar t z))) T.heap locs) : own_Ends p e below s C S Q T (mkF m pc Ls (.int z :: rest)) := by
  obtain ⟨fs, hr, hrun, hended, hW, hsame⟩ := X.leave (v := some (.int (nar t z))) (fun h => by rw [hret] at h; cases h) hlk
  exact ⟨_, _, retN X hx hret ht hd hr, hrun, hended, _, _, rfl, hq, ⟨_, rfl⟩, hW, hsame.mono hC hS⟩
theorem own_retI {C S : Nat} {Q : Option Value → Heap → List Loc → Prop} {pc : Nat} {Ls : Array Slot} {z : Int32} {rest : List Value} (X : Stand p l e R s m args below meth c T locs cells slots) (hx : p.tables.exec = Jvm.exec) (hret : meth.sig.returnType = some .int) (hlk : meth.locks = false)
    (hd : decode c.code pc = .ok (.ireturn, 1)) (hC : cells ≤ C) (hS : slots ≤ S) (hq : Q (some (.int z)) T.heap locs) : own_Ends p e below s C S Q T (mkF m pc Ls (.int z :: rest)) := by
  obtain ⟨fs, hr, hrun, hended, hW, hsame⟩ := X.leave (v := some (.int z)) (fun h => by rw [hret] at h; cases h) hlk
  exact ⟨_, _, retI X hx hret hd hr, hrun, hended, _, _, rfl, hq, ⟨_, rfl⟩, hW, hsame.mono hC hS⟩
def own_V (h0 : Heap) (n0 : Nat) (v : Option Value) (h : Heap) (L : List Loc) : Prop := v = none ∧ Fr n0 L ∧ h = h0
theorem own_retV {C S : Nat} {Q : Option Value → Heap → List Loc → Prop} {pc : Nat} {Ls : Array Slot} (X : Stand p l e R s m args below meth c T locs cells slots) (hx : p.tables.exec = Jvm.exec) (hret : meth.sig.returnType = none) (hlk : meth.locks = false)
    (hd : decode c.code pc = .ok (.return_, 1)) (hC : cells ≤ C) (hS : slots ≤ S) (hq : Q none T.heap locs) : own_Ends p e below s C S Q T (mkF m pc Ls []) := by
  obtain ⟨fs, hr, hrun, hended, hW, hsame⟩ := X.leave (v := none) (fun _ => rfl) hlk
  exact ⟨_, _, X.returnOut hx hret hd hr, hrun, hended, _, _, rfl, hq, ⟨_, rfl⟩, hW, hsame.mono hC hS⟩
theorem own_retJ {C S : Nat} {Q : Option Value → Heap → List Loc → Prop} {pc : Nat} {Ls : Array Slot} {z : Int64} (X : Stand p l e R s m args below meth c T locs cells slots) (hx : p.tables.exec = Jvm.exec) (hret : meth.sig.returnType = some .long) (hlk : meth.locks = false)
    (hd : decode c.code pc = .ok (.lreturn, 1)) (hC : cells ≤ C) (hS : slots ≤ S) (hq : Q (some (.long z)) T.heap locs) : own_Ends p e below s C S Q T (mkF m pc Ls [.long z]) := by
  obtain ⟨fs, hr, hrun, hended, hW, hsame⟩ := X.leave (v := some (.long z)) (fun h => by rw [hret] at h; cases h) hlk
  exact ⟨_, _, X.lreturnOut hx hret hd hr, hrun, hended, _, _, rfl, hq, ⟨_, rfl⟩, hW, hsame.mono hC hS⟩
end Own
section OwnArr
variable {p : Program} {l : Launch} {e : Env} {R : Room} {s : State} {m : MethodId} {args : Array Value} {below : List Frame} {meth : Method} {c : Code} {T : State} {locs : List Loc} {cells slots : Nat} {Z : State} {a0 : Array Value} {h h' : Heap} {a b : Addr} {ty : FieldType} {vs : List Value} {n0 : Nat}
/-- an answer of which the heap isn't said: that value, nothing old written -/
def own_W (Z : State) (w : Value) (a : Addr) (vs : List Value) (n0 : Nat) (v : Option Value) (h : Heap) (L : List Loc) : Prop := v = some w ∧ Fr n0 L ∧ (∃ c : Cell, Arr Z h a c .byte ∧ c.slots.toList = vs) ∧ n0 ≤ h.size
def own_R (w : Value) (n0 : Nat) (v : Option Value) (h : Heap) (L : List Loc) : Prop := v = some w ∧ Fr n0 L
/-- the array at a holds just these -/
def own_A (Z : State) (h : Heap) (a : Addr) (ty : FieldType) (vs : List Value) : Prop := ∃ c : Cell, Arr Z h a c ty ∧ c.slots.toList = vs
theorem own_A.lt (A : own_A Z h a ty vs) : a < h.size := by obtain ⟨c, A, -⟩ := A; exact A.lt
theorem own_A.ext (A : own_A Z h a ty vs) (E : Ext h h') : own_A Z h' a ty vs := by obtain ⟨c, A, q⟩ := A; exact ⟨c, A.ext E, q⟩
theorem own_A.other {sl : Nat} {v : Value} (A : own_A Z h b ty vs) (W : Wr h h' a sl v) (q : b ≠ a) : own_A Z h' b ty vs := by obtain ⟨c, A, r⟩ := A; exact ⟨c, A.other W q, r⟩
theorem own_A.set {k : Nat} {v : Value} (A : own_A Z h a ty vs) (W : Wr h h' a k v) : own_A Z h' a ty (vs.set k v) := by
  obtain ⟨c, A, r⟩ := A
  refine ⟨c.setSlot k v, A.same W, ?_⟩
  subst r
  simp [Cell.setSlot]
theorem own_A.size {c : Cell} (r : c.slots.toList = vs) : c.slots.size = vs.length := by subst r; simp
theorem own_new {aty : ArrayType} (X : Stand p l e R s m args below meth c T locs cells slots) (hx : p.tables.exec = Jvm.exec) (hZ : Z.Warmed39 s.vm) (w : (Cond.arrayClass (newarray.typeOf aty)).before a0 Z = true) (eT : T.heap = h) {g : JFrame} (hg : g.method = m) (hd : decode c.code g.pc = .ok (.newarray aty, 2)) {n : Int32} {rest : List Value} (hs : g.stack = .int n :: rest)
    (hn : ¬ n < 0) {k : Nat} (hk : n.toNatClampNeg = k) (hb : k * 8 ≤ 536870912) (hc : cells + 1 ≤ R.cells) (hl : slots + k ≤ R.slots) (Sz : n0 ≤ h.size) :
    ∃ T' h' b, Stand p l e R s m args below meth c T' locs (cells + 1) (slots + k) ∧ T'.heap = h' ∧ Ext h h' ∧ b = h.size ∧ n0 ≤ b ∧ n0 ≤ h'.size ∧ own_A Z h' b (newarray.typeOf aty) (List.replicate k (defaultValue (newarray.typeOf aty))) ∧
      ∀ target, Steps p.tables e below (T'.setTop { g with pc := g.pc + 2, stack := .ref b :: rest }) target → Steps p.tables e below (T.setTop g) target := by
  obtain ⟨T', h', cA, X', e', E, A, st⟩ := newP X hx hZ w eT hg hd hs hn (cap := k) (Nat.le_of_eq hk) hb hc hl
  exact ⟨T', h', h.size, X', e', E, rfl, Sz, Nat.le_trans Sz E.1, ⟨_, A, by simp [newA, hk]⟩, st⟩
theorem own_stI (X : Stand p l e R s m args below meth c T locs cells slots) (hx : p.tables.exec = Jvm.exec) (hZ : Z.Warmed39 s.vm) (eT : T.heap = h) (A : own_A Z h a .int vs) {j x : Int32} (hj : ¬ j < 0) {k : Nat} (hk : j.toNatClampNeg = k) (hl : k < vs.length) (N : Fr n0 locs) (ga : n0 ≤ a) (Sz : n0 ≤ h.size) {g : JFrame} (hg : g.method = m) {rest : List Value} (hs : g.stack = .int x :: .int j :: .ref a :: rest) (hd : decode c.code g.pc = .ok (.iastore, 1)) :
    ∃ T' h' locs', Stand p l e R s m args below meth c T' locs' cells slots ∧ Fr n0 locs' ∧ T'.heap = h' ∧ Wr h h' a k (.int x) ∧ n0 ≤ h'.size ∧ own_A Z h' a .int (vs.set k (.int x)) ∧ ∀ target, Steps p.tables e below (T'.setTop { g with pc := g.pc + 1, stack := rest }) target → Steps p.tables e below (T.setTop g) target := by
  obtain ⟨cl, Ar, r⟩ := id A
  subst hk
  obtain ⟨T', h', X', e', W, st⟩ := stI X hx hZ eT Ar (j := j) (x := x) (fun q => q.elim hj fun z => absurd hl (by rw [← own_A.size r]; omega)) hg hs hd
  exact ⟨T', h', _, X', Fr.snoc X' N ga, e', W, by rw [W.size]; exact Sz, A.set W, st⟩
theorem own_stJ (X : Stand p l e R s m args below meth c T locs cells slots) (hx : p.tables.exec = Jvm.exec) (hZ : Z.Warmed39 s.vm) (eT : T.heap = h) (A : own_A Z h a .long vs) {j : Int32} {x : Int64} (hj : ¬ j < 0) {k : Nat} (hk : j.toNatClampNeg = k) (hl : k < vs.length) (N : Fr n0 locs) (ga : n0 ≤ a) (Sz : n0 ≤ h.size) {g : JFrame} (hg : g.method = m) {rest : List Value} (hs : g.stack = .long x :: .int j :: .ref a :: rest) (hd : decode c.code g.pc = .ok (.lastore, 1)) :
    ∃ T' h' locs', Stand p l e R s m args below meth c T' locs' cells slots ∧ Fr n0 locs' ∧ T'.heap = h' ∧ Wr h h' a k (.long x) ∧ n0 ≤ h'.size ∧ own_A Z h' a .long (vs.set k (.long x)) ∧ ∀ target, Steps p.tables e below (T'.setTop { g with pc := g.pc + 1, stack := rest }) target → Steps p.tables e below (T.setTop g) target := by
  obtain ⟨cl, Ar, r⟩ := id A
  subst hk
  obtain ⟨T', h', X', e', W, st⟩ := stJ X hx hZ eT Ar (j := j) (x := x) (fun q => q.elim hj fun z => absurd hl (by rw [← own_A.size r]; omega)) hg hs hd
  exact ⟨T', h', _, X', Fr.snoc X' N ga, e', W, by rw [W.size]; exact Sz, A.set W, st⟩
theorem own_stB (X : Stand p l e R s m args below meth c T locs cells slots) (hx : p.tables.exec = Jvm.exec) (hZ : Z.Warmed39 s.vm) (eT : T.heap = h) (A : own_A Z h a .byte vs) {j x : Int32} (hj : ¬ j < 0) {k : Nat} (hk : j.toNatClampNeg = k) (hl : k < vs.length) (N : Fr n0 locs) (ga : n0 ≤ a) (Sz : n0 ≤ h.size) {g : JFrame} (hg : g.method = m) {rest : List Value} (hs : g.stack = .int x :: .int j :: .ref a :: rest) (hd : decode c.code g.pc = .ok (.bastore, 1)) :
    ∃ T' h' locs', Stand p l e R s m args below meth c T' locs' cells slots ∧ Fr n0 locs' ∧ T'.heap = h' ∧ Wr h h' a k (.int (nar .byte x)) ∧ n0 ≤ h'.size ∧ own_A Z h' a .byte (vs.set k (.int (nar .byte x))) ∧ ∀ target, Steps p.tables e below (T'.setTop { g with pc := g.pc + 1, stack := rest }) target → Steps p.tables e below (T.setTop g) target := by
  obtain ⟨cl, Ar, r⟩ := id A
  subst hk
  obtain ⟨T', h', X', e', W, st⟩ := stB X hx hZ eT Ar (j := j) (x := x) (fun q => q.elim hj fun z => absurd hl (by rw [← own_A.size r]; omega)) hg hs hd
  exact ⟨T', h', _, X', Fr.snoc X' N ga, e', W, by rw [W.size]; exact Sz, A.set W, st⟩
theorem own_at {cl : Cell} (r : cl.slots.toList = vs) {k : Nat} {v : Value} (hv : vs[k]? = some v) : cl.slots[k]? = some v ∧ k < cl.slots.size := by
  subst r
  rw [Array.getElem?_toList] at hv
  exact ⟨hv, (Array.getElem?_eq_some_iff.mp hv).1⟩
theorem own_ldI (X : Stand p l e R s m args below meth c T locs cells slots) (hx : p.tables.exec = Jvm.exec) (hZ : Z.Warmed39 s.vm) (eT : T.heap = h) (A : own_A Z h a .int vs) {j : Int32} (hj : ¬ j < 0) {k : Nat} (hk : j.toNatClampNeg = k) {v : Value} (hv : vs[k]? = some v) {g : JFrame} (hg : g.method = m) {rest : List Value} (hs : g.stack = .int j :: .ref a :: rest) (hd : decode c.code g.pc = .ok (.iaload, 1)) (target : State)
    (hr : Steps p.tables e below (T.setTop { g with pc := g.pc + 1, stack := v :: rest }) target) : Steps p.tables e below (T.setTop g) target := by
  obtain ⟨cl, Ar, r⟩ := A
  obtain ⟨q1, q2⟩ := own_at r hv
  subst hk
  exact X.iaload hx (j := j) (v := v) (by rw [eT]; exact Ar.1) (State.isArrayOf_alike hZ.alike Ar.2.1) Ar.2.2 (fun z => z.elim hj fun z => by omega) q1 hg hs hd target hr
theorem own_ldJ (X : Stand p l e R s m args below meth c T locs cells slots) (hx : p.tables.exec = Jvm.exec) (hZ : Z.Warmed39 s.vm) (eT : T.heap = h) (A : own_A Z h a .long vs) {j : Int32} (hj : ¬ j < 0) {k : Nat} (hk : j.toNatClampNeg = k) {v : Value} (hv : vs[k]? = some v) {g : JFrame} (hg : g.method = m) {rest : List Value} (hs : g.stack = .int j :: .ref a :: rest) (hd : decode c.code g.pc = .ok (.laload, 1)) (target : State)
    (hr : Steps p.tables e below (T.setTop { g with pc := g.pc + 1, stack := v :: rest }) target) : Steps p.tables e below (T.setTop g) target := by
  obtain ⟨cl, Ar, r⟩ := A
  obtain ⟨q1, q2⟩ := own_at r hv
  subst hk
  exact X.laload hx (j := j) (v := v) (by rw [eT]; exact Ar.1) (State.isArrayOf_alike hZ.alike Ar.2.1) Ar.2.2 (fun z => z.elim hj fun z => by omega) q1 hg hs hd target hr
theorem own_ldB (X : Stand p l e R s m args below meth c T locs cells slots) (hx : p.tables.exec = Jvm.exec) (hZ : Z.Warmed39 s.vm) (eT : T.heap = h) (A : own_A Z h a .byte vs) {j : Int32} (hj : ¬ j < 0) {k : Nat} (hk : j.toNatClampNeg = k) {v : Value} (hv : vs[k]? = some v) {g : JFrame} (hg : g.method = m) {rest : List Value} (hs : g.stack = .int j :: .ref a :: rest) (hd : decode c.code g.pc = .ok (.baload, 1)) (target : State)
    (hr : Steps p.tables e below (T.setTop { g with pc := g.pc + 1, stack := v :: rest }) target) : Steps p.tables e below (T.setTop g) target := by
  obtain ⟨cl, Ar, r⟩ := A
  obtain ⟨q1, q2⟩ := own_at r hv
  subst hk
  exact X.baloadBytes hx (j := j) (v := v) (by rw [eT]; exact Ar.1) (State.isArrayOf_alike hZ.alike Ar.2.1) Ar.2.2 (fun z => z.elim hj fun z => by omega) q1 hg hs hd target hr
theorem own_len (X : Stand p l e R s m args below meth c T locs cells slots) (hx : p.tables.exec = Jvm.exec) (hZ : Z.Warmed39 s.vm) (eT : T.heap = h) (A : own_A Z h a ty vs) {n : Int32} (hn : vs.length.toInt32 = n) {g : JFrame} (hg : g.method = m) {rest : List Value} (hs : g.stack = .ref a :: rest) (hd : decode c.code g.pc = .ok (.arraylength, 1)) (target : State)
    (hr : Steps p.tables e below (T.setTop { g with pc := g.pc + 1, stack := .int n :: rest }) target) : Steps p.tables e below (T.setTop g) target := by
  obtain ⟨cl, Ar, r⟩ := A
  refine X.arraylength hx (by rw [eT]; exact Ar.1) (State.isArrayOf_alike hZ.alike Ar.2.1) hg hs hd target ?_
  rw [own_A.size r, hn]
  exact hr
end OwnArr
theorem d1_0 : decode prog_47_method_16_code 0 = .ok (.aload_n 0, 1) := by decide +kernel
theorem d1_1 : decode prog_47_method_16_code 1 = .ok (.astore_n 2, 1) := by decide +kernel
theorem d1_2 : decode prog_47_method_16_code 2 = .ok (.aload_n 2, 1) := by decide +kernel
theorem d1_3 : decode prog_47_method_16_code 3 = .ok (.arraylength, 1) := by decide +kernel
theorem d1_4 : decode prog_47_method_16_code 4 = .ok (.istore_n 3, 1) := by decide +kernel
theorem d1_5 : decode prog_47_method_16_code 5 = .ok (.iconst 0, 1) := by decide +kernel
theorem d1_6 : decode prog_47_method_16_code 6 = .ok (.istore 4, 2) := by decide +kernel
theorem d1_8 : decode prog_47_method_16_code 8 = .ok (.iload 4, 2) := by decide +kernel
theorem d1_10 : decode prog_47_method_16_code 10 = .ok (.iload_n 3, 1) := by decide +kernel
theorem d1_11 : decode prog_47_method_16_code 11 = .ok (.if_icmp .ge 23, 3) := by decide +kernel
theorem d1_14 : decode prog_47_method_16_code 14 = .ok (.aload_n 2, 1) := by decide +kernel
theorem d1_15 : decode prog_47_method_16_code 15 = .ok (.iload 4, 2) := by decide +kernel
theorem d1_17 : decode prog_47_method_16_code 17 = .ok (.iaload, 1) := by decide +kernel
theorem d1_18 : decode prog_47_method_16_code 18 = .ok (.istore 5, 2) := by decide +kernel
theorem d1_20 : decode prog_47_method_16_code 20 = .ok (.iload 5, 2) := by decide +kernel
theorem d1_22 : decode prog_47_method_16_code 22 = .ok (.iload_n 1, 1) := by decide +kernel
theorem d1_23 : decode prog_47_method_16_code 23 = .ok (.if_icmp .ne 5, 3) := by decide +kernel
theorem d1_26 : decode prog_47_method_16_code 26 = .ok (.iconst 1, 1) := by decide +kernel
theorem d1_27 : decode prog_47_method_16_code 27 = .ok (.ireturn, 1) := by decide +kernel
theorem d1_28 : decode prog_47_method_16_code 28 = .ok (.iinc 4 1, 3) := by decide +kernel
theorem d1_31 : decode prog_47_method_16_code 31 = .ok (.goto (-23), 3) := by decide +kernel
theorem d1_34 : decode prog_47_method_16_code 34 = .ok (.iconst 0, 1) := by decide +kernel
theorem d1_35 : decode prog_47_method_16_code 35 = .ok (.ireturn, 1) := by decide +kernel
theorem pn1 : plainName "com/example/conceal/conceal/SensitiveHolders" = true := by first | (simp [plainName, overriddenIn]; done) | decide +kernel
theorem pd1 : parseMethodDescriptor "([II)Z" = some ⟨[(.array .int), .int], some .boolean⟩ := by decide +kernel
theorem ef1 (m : MethodId) (a0' : Addr) (p1 : Int32) : entryFrame m #[(.ref a0'), (.int p1)] 6 = mkF m 0 #[.val (.ref a0'), .val (.int p1), .unset, .unset, .unset, .unset] [] := by first | (simp [entryFrame, mkF, argsToLocals, Value.category]; done) | rfl
def f1n0_0 (p1 : Int32) : Int32 :=
  (0 : Int32)
set_option maxRecDepth 65536 in
set_option maxHeartbeats 4000000 in
theorem b1n0_0 {p : Program} {l : Launch} {e : Env} {s : State} {m : MethodId} {args : Array Value} {below : List Frame} {meth : Method} {c : Code} {T0 : State} {locs : List Loc} {Z : State} {a0 : Array Value} {h0 : Heap} {n0 : Nat} (a0' : Addr) (p1 : Int32) {r : Int32} (X0 : Stand p l e ({ frames := 0, cells := 0, slots := 0, locals := 0 } : Room) s m args below meth c T0 locs 0 0) (hx : p.tables.exec = Jvm.exec) (hZ : Z.Warmed39 s.vm) (hw : ∀ d ∈ tables_1, d.before a0 Z = true) (hby : c.code = prog_47_method_16_code) (hml : c.maxLocals = 6) (hown : s.vm.findClass "com/example/conceal/conceal/SensitiveHolders" = some m.cls) (hret : meth.sig.returnType = some .boolean) (hlk : meth.locks = false) (e0 : T0.heap = h0) (N0 : Fr n0 locs) (A0 : own_A Z h0 a0' .int []) (hr : r = f1n0_0 p1) :
    own_Ends p e below s 0 0 (own_P (.int r) h0 n0) T0 (mkF m 0 #[.val (.ref a0'), .val (.int p1), .unset, .unset, .unset, .unset] []) := by
  unfold f1n0_0 at hr
  refine own_step (T' := T0) (f' := (mkF m 11 #[.val (.ref a0'), .val (.int p1), .val (.ref a0'), .val (.int (0 : Int32)), .val (.int (0 : Int32)), .unset] [(.int (0 : Int32)), (.int (0 : Int32))])) (fun t kt => ?_) ?_
  · show Steps p.tables e below (T0.setTop (mkF m 0 #[.val (.ref a0'), .val (.int p1), .unset, .unset, .unset, .unset] [])) _
    refine XS.aloadN X0.here hx rfl (hb hby d1_0) rfl rfl ?_
    show Steps p.tables e below (T0.setTop (mkF m 1 #[.val (.ref a0'), .val (.int p1), .unset, .unset, .unset, .unset] [(.ref a0')])) _
    refine XS.astoreN X0.here hx rfl (hb hby d1_1) rfl rfl (l' := #[.val (.ref a0'), .val (.int p1), .val (.ref a0'), .unset, .unset, .unset]) rfl ?_
    show Steps p.tables e below (T0.setTop (mkF m 2 #[.val (.ref a0'), .val (.int p1), .val (.ref a0'), .unset, .unset, .unset] [])) _
    refine XS.aloadN X0.here hx rfl (hb hby d1_2) rfl rfl ?_
    show Steps p.tables e below (T0.setTop (mkF m 3 #[.val (.ref a0'), .val (.int p1), .val (.ref a0'), .unset, .unset, .unset] [(.ref a0')])) _
    refine own_len X0 hx hZ e0 A0 (n := (0 : Int32)) rfl (g := (mkF m 3 #[.val (.ref a0'), .val (.int p1), .val (.ref a0'), .unset, .unset, .unset] [(.ref a0')])) rfl rfl (hb hby d1_3) _ ?_
    show Steps p.tables e below (T0.setTop (mkF m 4 #[.val (.ref a0'), .val (.int p1), .val (.ref a0'), .unset, .unset, .unset] [(.int (0 : Int32))])) _
    refine XS.istoreN X0.here hx rfl (hb hby d1_4) rfl (l' := #[.val (.ref a0'), .val (.int p1), .val (.ref a0'), .val (.int (0 : Int32)), .unset, .unset]) rfl ?_
    show Steps p.tables e below (T0.setTop (mkF m 5 #[.val (.ref a0'), .val (.int p1), .val (.ref a0'), .val (.int (0 : Int32)), .unset, .unset] [])) _
    refine XS.iconst X0.here hx rfl (hb hby d1_5) ?_
    show Steps p.tables e below (T0.setTop (mkF m 6 #[.val (.ref a0'), .val (.int p1), .val (.ref a0'), .val (.int (0 : Int32)), .unset, .unset] [(.int (0 : Int32))])) _
    refine XS.istore X0.here hx rfl (hb hby d1_6) rfl (l' := #[.val (.ref a0'), .val (.int p1), .val (.ref a0'), .val (.int (0 : Int32)), .val (.int (0 : Int32)), .unset]) rfl ?_
    show Steps p.tables e below (T0.setTop (mkF m 8 #[.val (.ref a0'), .val (.int p1), .val (.ref a0'), .val (.int (0 : Int32)), .val (.int (0 : Int32)), .unset] [])) _
    refine XS.iload X0.here hx rfl (hb hby d1_8) rfl ?_
    show Steps p.tables e below (T0.setTop (mkF m 10 #[.val (.ref a0'), .val (.int p1), .val (.ref a0'), .val (.int (0 : Int32)), .val (.int (0 : Int32)), .unset] [(.int (0 : Int32))])) _
    refine XS.iloadN X0.here hx rfl (hb hby d1_10) rfl ?_
    exact kt
  refine own_step (T' := T0) (f' := (mkF m 34 #[.val (.ref a0'), .val (.int p1), .val (.ref a0'), .val (.int (0 : Int32)), .val (.int (0 : Int32)), .unset] [])) (fun t kt => ?_) ?_
  · show Steps p.tables e below (T0.setTop (mkF m 11 #[.val (.ref a0'), .val (.int p1), .val (.ref a0'), .val (.int (0 : Int32)), .val (.int (0 : Int32)), .unset] [(.int (0 : Int32)), (.int (0 : Int32))])) _
    refine XS.icmpYes X0.here hx rfl (pc0 := 11) (pc' := 34) rfl (hb hby d1_11) rfl (flt (by decide : ¬ ((0 : Int32) < (0 : Int32)))).2.1 (by decide) (by decide) kt
  refine own_step (T' := T0) (f' := (mkF m 35 #[.val (.ref a0'), .val (.int p1), .val (.ref a0'), .val (.int (0 : Int32)), .val (.int (0 : Int32)), .unset] [(.int (0 : Int32))])) (fun t kt => ?_) ?_
  · show Steps p.tables e below (T0.setTop (mkF m 34 #[.val (.ref a0'), .val (.int p1), .val (.ref a0'), .val (.int (0 : Int32)), .val (.int (0 : Int32)), .unset] [])) _
    refine XS.iconst X0.here hx rfl (hb hby d1_34) ?_
    exact kt
  exact own_retZ X0 hx hret (by simp) hlk (hb hby d1_35) (Nat.le_refl _) (Nat.le_refl _) ⟨congrArg (fun z => some (Value.int z)) hr.symm, N0, e0⟩
set_option maxRecDepth 65536 in
set_option maxHeartbeats 4000000 in
theorem rm1n0 (l : Launch) (Z : State) (a0 : Array Value) (hw : ∀ d ∈ tables_1, d.before a0 Z = true) (ws : List Jvm.Cond) (a0' : Addr) (p1 : Int32) (h0 : Heap) (n0 : Nat) (A0 : own_A Z h0 a0' .int []) :
    MetFree l (⟨"com/example/conceal/conceal/SensitiveHolders", "contains", "([II)Z"⟩ : MethodName) (head1 (Jvm.Cond.code (⟨"com/example/conceal/conceal/SensitiveHolders", "contains", "([II)Z"⟩ : MethodName) prog_47_method_16_code 6 (some .boolean) :: ws) ({ frames := 0, cells := 0, slots := 0, locals := 0 } : Room)) (fun a U => a = #[(.ref a0'), (.int p1)] ∧ Z.Warmed39 U.vm ∧ U.heap = h0) (fun _ _ _ _ _ => True) (fun _ U o U' => ∃ v L, o = .returned v ∧ (own_P (.int (f1n0_0 p1)) h0 n0) v U'.heap L ∧ FrameEnd U o U' L ({ frames := 0, cells := 0, slots := 0, locals := 0 } : Room).cells ({ frames := 0, cells := 0, slots := 0, locals := 0 } : Room).slots) := by
  refine MetFree.of_bodySF (plainFor_of_name pn1) hisR ?_
  intro p e s m args below meth c s₁ Bd hml0 hP hK
  obtain ⟨rfl, hZ, hh⟩ := hP
  have hown : s.vm.findClass "com/example/conceal/conceal/SensitiveHolders" = some m.cls := findClass_of_methodNamed Bd.named
  have X0 : Stand p l e ({ frames := 0, cells := 0, slots := 0, locals := 0 } : Room) s m #[(.ref a0'), (.int p1)] below meth c s₁ [] 0 0 := Stand.of_body Bd
  have e0 : s₁.heap = h0 := by rw [← hh, Bd.state]; rfl
  show own_Ends p e below s 0 0 (own_P (.int (f1n0_0 p1)) h0 n0) s₁ (entryFrame m #[(.ref a0'), (.int p1)] 6)
  refine own_step (fun t k => castTop (ef1 m a0' p1) k) ?_
  exact b1n0_0 a0' p1 X0 Bd.exec hZ hw Bd.bytes hml0 hown Bd.returns (BodyLoose.notSynchronized Bd) e0 (Fr.nil n0) A0 rfl
def f1n1_0 (p1 : Int32) (x0_0 : Int32) : Int32 :=
  if x0_0 = p1 then ((1 : Int32)) else ((0 : Int32))
set_option maxRecDepth 65536 in
set_option maxHeartbeats 4000000 in
theorem b1n1_0 {p : Program} {l : Launch} {e : Env} {s : State} {m : MethodId} {args : Array Value} {below : List Frame} {meth : Method} {c : Code} {T0 : State} {locs : List Loc} {Z : State} {a0 : Array Value} {h0 : Heap} {n0 : Nat} (a0' : Addr) (p1 : Int32) (x0_0 : Int32) {r : Int32} (X0 : Stand p l e ({ frames := 0, cells := 0, slots := 0, locals := 0 } : Room) s m args below meth c T0 locs 0 0) (hx : p.tables.exec = Jvm.exec) (hZ : Z.Warmed39 s.vm) (hw : ∀ d ∈ tables_1, d.before a0 Z = true) (hby : c.code = prog_47_method_16_code) (hml : c.maxLocals = 6) (hown : s.vm.findClass "com/example/conceal/conceal/SensitiveHolders" = some m.cls) (hret : meth.sig.returnType = some .boolean) (hlk : meth.locks = false) (e0 : T0.heap = h0) (N0 : Fr n0 locs) (A0 : own_A Z h0 a0' .int [(.int x0_0)]) (hr : r = f1n1_0 p1 x0_0) :
    own_Ends p e below s 0 0 (own_P (.int r) h0 n0) T0 (mkF m 0 #[.val (.ref a0'), .val (.int p1), .unset, .unset, .unset, .unset] []) := by
  unfold f1n1_0 at hr
  refine own_step (T' := T0) (f' := (mkF m 11 #[.val (.ref a0'), .val (.int p1), .val (.ref a0'), .val (.int (1 : Int32)), .val (.int (0 : Int32)), .unset] [(.int (1 : Int32)), (.int (0 : Int32))])) (fun t kt => ?_) ?_
  · show Steps p.tables e below (T0.setTop (mkF m 0 #[.val (.ref a0'), .val (.int p1), .unset, .unset, .unset, .unset] [])) _
    refine XS.aloadN X0.here hx rfl (hb hby d1_0) rfl rfl ?_
    show Steps p.tables e below (T0.setTop (mkF m 1 #[.val (.ref a0'), .val (.int p1), .unset, .unset, .unset, .unset] [(.ref a0')])) _
    refine XS.astoreN X0.here hx rfl (hb hby d1_1) rfl rfl (l' := #[.val (.ref a0'), .val (.int p1), .val (.ref a0'), .unset, .unset, .unset]) rfl ?_
    show Steps p.tables e below (T0.setTop (mkF m 2 #[.val (.ref a0'), .val (.int p1), .val (.ref a0'), .unset, .unset, .unset] [])) _
    refine XS.aloadN X0.here hx rfl (hb hby d1_2) rfl rfl ?_
    show Steps p.tables e below (T0.setTop (mkF m 3 #[.val (.ref a0'), .val (.int p1), .val (.ref a0'), .unset, .unset, .unset] [(.ref a0')])) _
    refine own_len X0 hx hZ e0 A0 (n := (1 : Int32)) rfl (g := (mkF m 3 #[.val (.ref a0'), .val (.int p1), .val (.ref a0'), .unset, .unset, .unset] [(.ref a0')])) rfl rfl (hb hby d1_3) _ ?_
    show Steps p.tables e below (T0.setTop (mkF m 4 #[.val (.ref a0'), .val (.int p1), .val (.ref a0'), .unset, .unset, .unset] [(.int (1 : Int32))])) _
    refine XS.istoreN X0.here hx rfl (hb hby d1_4) rfl (l' := #[.val (.ref a0'), .val (.int p1), .val (.ref a0'), .val (.int (1 : Int32)), .unset, .unset]) rfl ?_
    show Steps p.tables e below (T0.setTop (mkF m 5 #[.val (.ref a0'), .val (.int p1), .val (.ref a0'), .val (.int (1 : Int32)), .unset, .unset] [])) _
    refine XS.iconst X0.here hx rfl (hb hby d1_5) ?_
    show Steps p.tables e below (T0.setTop (mkF m 6 #[.val (.ref a0'), .val (.int p1), .val (.ref a0'), .val (.int (1 : Int32)), .unset, .unset] [(.int (0 : Int32))])) _
    refine XS.istore X0.here hx rfl (hb hby d1_6) rfl (l' := #[.val (.ref a0'), .val (.int p1), .val (.ref a0'), .val (.int (1 : Int32)), .val (.int (0 : Int32)), .unset]) rfl ?_
    show Steps p.tables e below (T0.setTop (mkF m 8 #[.val (.ref a0'), .val (.int p1), .val (.ref a0'), .val (.int (1 : Int32)), .val (.int (0 : Int32)), .unset] [])) _
    refine XS.iload X0.here hx rfl (hb hby d1_8) rfl ?_
    show Steps p.tables e below (T0.setTop (mkF m 10 #[.val (.ref a0'), .val (.int p1), .val (.ref a0'), .val (.int (1 : Int32)), .val (.int (0 : Int32)), .unset] [(.int (0 : Int32))])) _
    refine XS.iloadN X0.here hx rfl (hb hby d1_10) rfl ?_
    exact kt
  refine own_step (T' := T0) (f' := (mkF m 14 #[.val (.ref a0'), .val (.int p1), .val (.ref a0'), .val (.int (1 : Int32)), .val (.int (0 : Int32)), .unset] [])) (fun t kt => ?_) ?_
  · show Steps p.tables e below (T0.setTop (mkF m 11 #[.val (.ref a0'), .val (.int p1), .val (.ref a0'), .val (.int (1 : Int32)), .val (.int (0 : Int32)), .unset] [(.int (1 : Int32)), (.int (0 : Int32))])) _
    refine XS.icmpNo X0.here hx rfl (hb hby d1_11) rfl (tlt (by decide : ((0 : Int32) < (1 : Int32)))).2.1 kt
  refine own_step (T' := T0) (f' := (mkF m 23 #[.val (.ref a0'), .val (.int p1), .val (.ref a0'), .val (.int (1 : Int32)), .val (.int (0 : Int32)), .val (.int x0_0)] [(.int p1), (.int x0_0)])) (fun t kt => ?_) ?_
  · show Steps p.tables e below (T0.setTop (mkF m 14 #[.val (.ref a0'), .val (.int p1), .val (.ref a0'), .val (.int (1 : Int32)), .val (.int (0 : Int32)), .unset] [])) _
    refine XS.aloadN X0.here hx rfl (hb hby d1_14) rfl rfl ?_
    show Steps p.tables e below (T0.setTop (mkF m 15 #[.val (.ref a0'), .val (.int p1), .val (.ref a0'), .val (.int (1 : Int32)), .val (.int (0 : Int32)), .unset] [(.ref a0')])) _
    refine XS.iload X0.here hx rfl (hb hby d1_15) rfl ?_
    show Steps p.tables e below (T0.setTop (mkF m 17 #[.val (.ref a0'), .val (.int p1), .val (.ref a0'), .val (.int (1 : Int32)), .val (.int (0 : Int32)), .unset] [(.int (0 : Int32)), (.ref a0')])) _
    refine own_ldI X0 hx hZ e0 A0 (j := (0 : Int32)) (by decide) (k := 0) (by decide) (v := (.int x0_0)) rfl (g := (mkF m 17 #[.val (.ref a0'), .val (.int p1), .val (.ref a0'), .val (.int (1 : Int32)), .val (.int (0 : Int32)), .unset] [(.int (0 : Int32)), (.ref a0')])) rfl rfl (hb hby d1_17) _ ?_
    show Steps p.tables e below (T0.setTop (mkF m 18 #[.val (.ref a0'), .val (.int p1), .val (.ref a0'), .val (.int (1 : Int32)), .val (.int (0 : Int32)), .unset] [(.int x0_0)])) _
    refine XS.istore X0.here hx rfl (hb hby d1_18) rfl (l' := #[.val (.ref a0'), .val (.int p1), .val (.ref a0'), .val (.int (1 : Int32)), .val (.int (0 : Int32)), .val (.int x0_0)]) rfl ?_
    show Steps p.tables e below (T0.setTop (mkF m 20 #[.val (.ref a0'), .val (.int p1), .val (.ref a0'), .val (.int (1 : Int32)), .val (.int (0 : Int32)), .val (.int x0_0)] [])) _
    refine XS.iload X0.here hx rfl (hb hby d1_20) rfl ?_
    show Steps p.tables e below (T0.setTop (mkF m 22 #[.val (.ref a0'), .val (.int p1), .val (.ref a0'), .val (.int (1 : Int32)), .val (.int (0 : Int32)), .val (.int x0_0)] [(.int x0_0)])) _
    refine XS.iloadN X0.here hx rfl (hb hby d1_22) rfl ?_
    exact kt
  by_cases hc23_2 : x0_0 = p1
  · rw [if_pos hc23_2] at hr
    refine own_step (T' := T0) (f' := (mkF m 26 #[.val (.ref a0'), .val (.int p1), .val (.ref a0'), .val (.int (1 : Int32)), .val (.int (0 : Int32)), .val (.int x0_0)] [])) (fun t kt => ?_) ?_
    · show Steps p.tables e below (T0.setTop (mkF m 23 #[.val (.ref a0'), .val (.int p1), .val (.ref a0'), .val (.int (1 : Int32)), .val (.int (0 : Int32)), .val (.int x0_0)] [(.int p1), (.int x0_0)])) _
      refine XS.icmpNo X0.here hx rfl (hb hby d1_23) rfl (teq hc23_2).2 kt
    refine own_step (T' := T0) (f' := (mkF m 27 #[.val (.ref a0'), .val (.int p1), .val (.ref a0'), .val (.int (1 : Int32)), .val (.int (0 : Int32)), .val (.int x0_0)] [(.int (1 : Int32))])) (fun t kt => ?_) ?_
    · show Steps p.tables e below (T0.setTop (mkF m 26 #[.val (.ref a0'), .val (.int p1), .val (.ref a0'), .val (.int (1 : Int32)), .val (.int (0 : Int32)), .val (.int x0_0)] [])) _
      refine XS.iconst X0.here hx rfl (hb hby d1_26) ?_
      exact kt
    exact own_retZ X0 hx hret (by simp) hlk (hb hby d1_27) (Nat.le_refl _) (Nat.le_refl _) ⟨congrArg (fun z => some (Value.int z)) hr.symm, N0, e0⟩
  · rw [if_neg hc23_2] at hr
    refine own_step (T' := T0) (f' := (mkF m 28 #[.val (.ref a0'), .val (.int p1), .val (.ref a0'), .val (.int (1 : Int32)), .val (.int (0 : Int32)), .val (.int x0_0)] [])) (fun t kt => ?_) ?_
    · show Steps p.tables e below (T0.setTop (mkF m 23 #[.val (.ref a0'), .val (.int p1), .val (.ref a0'), .val (.int (1 : Int32)), .val (.int (0 : Int32)), .val (.int x0_0)] [(.int p1), (.int x0_0)])) _
      refine XS.icmpYes X0.here hx rfl (pc0 := 23) (pc' := 28) rfl (hb hby d1_23) rfl (feq hc23_2).2 (by decide) (by decide) kt
    refine own_step (T' := T0) (f' := (mkF m 11 #[.val (.ref a0'), .val (.int p1), .val (.ref a0'), .val (.int (1 : Int32)), .val (.int (1 : Int32)), .val (.int x0_0)] [(.int (1 : Int32)), (.int (1 : Int32))])) (fun t kt => ?_) ?_
    · show Steps p.tables e below (T0.setTop (mkF m 28 #[.val (.ref a0'), .val (.int p1), .val (.ref a0'), .val (.int (1 : Int32)), .val (.int (0 : Int32)), .val (.int x0_0)] [])) _
      refine XS.iinc X0.here hx rfl (hb hby d1_28) rfl (l' := #[.val (.ref a0'), .val (.int p1), .val (.ref a0'), .val (.int (1 : Int32)), .val (.int (1 : Int32)), .val (.int x0_0)]) rfl ?_
      show Steps p.tables e below (T0.setTop (mkF m 31 #[.val (.ref a0'), .val (.int p1), .val (.ref a0'), .val (.int (1 : Int32)), .val (.int (1 : Int32)), .val (.int x0_0)] [])) _
      refine XS.goto X0.here hx rfl (pc0 := 31) (pc' := 8) rfl (hb hby d1_31) (by decide) (by decide) ?_
      show Steps p.tables e below (T0.setTop (mkF m 8 #[.val (.ref a0'), .val (.int p1), .val (.ref a0'), .val (.int (1 : Int32)), .val (.int (1 : Int32)), .val (.int x0_0)] [])) _
      refine XS.iload X0.here hx rfl (hb hby d1_8) rfl ?_
      show Steps p.tables e below (T0.setTop (mkF m 10 #[.val (.ref a0'), .val (.int p1), .val (.ref a0'), .val (.int (1 : Int32)), .val (.int (1 : Int32)), .val (.int x0_0)] [(.int (1 : Int32))])) _
      refine XS.iloadN X0.here hx rfl (hb hby d1_10) rfl ?_
      exact kt
    refine own_step (T' := T0) (f' := (mkF m 34 #[.val (.ref a0'), .val (.int p1), .val (.ref a0'), .val (.int (1 : Int32)), .val (.int (1 : Int32)), .val (.int x0_0)] [])) (fun t kt => ?_) ?_
    · show Steps p.tables e below (T0.setTop (mkF m 11 #[.val (.ref a0'), .val (.int p1), .val (.ref a0'), .val (.int (1 : Int32)), .val (.int (1 : Int32)), .val (.int x0_0)] [(.int (1 : Int32)), (.int (1 : Int32))])) _
      refine XS.icmpYes X0.here hx rfl (pc0 := 11) (pc' := 34) rfl (hb hby d1_11) rfl (flt (by decide : ¬ ((1 : Int32) < (1 : Int32)))).2.1 (by decide) (by decide) kt
    refine own_step (T' := T0) (f' := (mkF m 35 #[.val (.ref a0'), .val (.int p1), .val (.ref a0'), .val (.int (1 : Int32)), .val (.int (1 : Int32)), .val (.int x0_0)] [(.int (0 : Int32))])) (fun t kt => ?_) ?_
    · show Steps p.tables e below (T0.setTop (mkF m 34 #[.val (.ref a0'), .val (.int p1), .val (.ref a0'), .val (.int (1 : Int32)), .val (.int (1 : Int32)), .val (.int x0_0)] [])) _
      refine XS.iconst X0.here hx rfl (hb hby d1_34) ?_
      exact kt
    exact own_retZ X0 hx hret (by simp) hlk (hb hby d1_35) (Nat.le_refl _) (Nat.le_refl _) ⟨congrArg (fun z => some (Value.int z)) hr.symm, N0, e0⟩
set_option maxRecDepth 65536 in
set_option maxHeartbeats 4000000 in
theorem rm1n1 (l : Launch) (Z : State) (a0 : Array Value) (hw : ∀ d ∈ tables_1, d.before a0 Z = true) (ws : List Jvm.Cond) (a0' : Addr) (p1 : Int32) (x0_0 : Int32) (h0 : Heap) (n0 : Nat) (A0 : own_A Z h0 a0' .int [(.int x0_0)]) :
    MetFree l (⟨"com/example/conceal/conceal/SensitiveHolders", "contains", "([II)Z"⟩ : MethodName) (head1 (Jvm.Cond.code (⟨"com/example/conceal/conceal/SensitiveHolders", "contains", "([II)Z"⟩ : MethodName) prog_47_method_16_code 6 (some .boolean) :: ws) ({ frames := 0, cells := 0, slots := 0, locals := 0 } : Room)) (fun a U => a = #[(.ref a0'), (.int p1)] ∧ Z.Warmed39 U.vm ∧ U.heap = h0) (fun _ _ _ _ _ => True) (fun _ U o U' => ∃ v L, o = .returned v ∧ (own_P (.int (f1n1_0 p1 x0_0)) h0 n0) v U'.heap L ∧ FrameEnd U o U' L ({ frames := 0, cells := 0, slots := 0, locals := 0 } : Room).cells ({ frames := 0, cells := 0, slots := 0, locals := 0 } : Room).slots) := by
  refine MetFree.of_bodySF (plainFor_of_name pn1) hisR ?_
  intro p e s m args below meth c s₁ Bd hml0 hP hK
  obtain ⟨rfl, hZ, hh⟩ := hP
  have hown : s.vm.findClass "com/example/conceal/conceal/SensitiveHolders" = some m.cls := findClass_of_methodNamed Bd.named
  have X0 : Stand p l e ({ frames := 0, cells := 0, slots := 0, locals := 0 } : Room) s m #[(.ref a0'), (.int p1)] below meth c s₁ [] 0 0 := Stand.of_body Bd
  have e0 : s₁.heap = h0 := by rw [← hh, Bd.state]; rfl
  show own_Ends p e below s 0 0 (own_P (.int (f1n1_0 p1 x0_0)) h0 n0) s₁ (entryFrame m #[(.ref a0'), (.int p1)] 6)
  refine own_step (fun t k => castTop (ef1 m a0' p1) k) ?_
  exact b1n1_0 a0' p1 x0_0 X0 Bd.exec hZ hw Bd.bytes hml0 hown Bd.returns (BodyLoose.notSynchronized Bd) e0 (Fr.nil n0) A0 rfl
def f1n2_0 (p1 : Int32) (x0_0 : Int32) (x0_1 : Int32) : Int32 :=
  if x0_0 = p1 then ((1 : Int32)) else (if x0_1 = p1 then ((1 : Int32)) else ((0 : Int32)))
set_option maxRecDepth 65536 in
set_option maxHeartbeats 4000000 in
theorem b1n2_0 {p : Program} {l : Launch} {e : Env} {s : State} {m : MethodId} {args : Array Value} {below : List Frame} {meth : Method} {c : Code} {T0 : State} {locs : List Loc} {Z : State} {a0 : Array Value} {h0 : Heap} {n0 : Nat} (a0' : Addr) (p1 : Int32) (x0_0 : Int32) (x0_1 : Int32) {r : Int32} (X0 : Stand p l e ({ frames := 0, cells := 0, slots := 0, locals := 0 } : Room) s m args below meth c T0 locs 0 0) (hx : p.tables.exec = Jvm.exec) (hZ : Z.Warmed39 s.vm) (hw : ∀ d ∈ tables_1, d.before a0 Z = true) (hby : c.code = prog_47_method_16_code) (hml : c.maxLocals = 6) (hown : s.vm.findClass "com/example/conceal/conceal/SensitiveHolders" = some m.cls) (hret : meth.sig.returnType = some .boolean) (hlk : meth.locks = false) (e0 : T0.heap = h0) (N0 : Fr n0 locs) (A0 : own_A Z h0 a0' .int [(.int x0_0), (.int x0_1)]) (hr : r = f1n2_0 p1 x0_0 x0_1) :
    own_Ends p e below s 0 0 (own_P (.int r) h0 n0) T0 (mkF m 0 #[.val (.ref a0'), .val (.int p1), .unset, .unset, .unset, .unset] []) := by
  unfold f1n2_0 at hr
  refine own_step (T' := T0) (f' := (mkF m 11 #[.val (.ref a0'), .val (.int p1), .val (.ref a0'), .val (.int (2 : Int32)), .val (.int (0 : Int32)), .unset] [(.int (2 : Int32)), (.int (0 : Int32))])) (fun t kt => ?_) ?_
  · show Steps p.tables e below (T0.setTop (mkF m 0 #[.val (.ref a0'), .val (.int p1), .unset, .unset, .unset, .unset] [])) _
    refine XS.aloadN X0.here hx rfl (hb hby d1_0) rfl rfl ?_
    show Steps p.tables e below (T0.setTop (mkF m 1 #[.val (.ref a0'), .val (.int p1), .unset, .unset, .unset, .unset] [(.ref a0')])) _
    refine XS.astoreN X0.here hx rfl (hb hby d1_1) rfl rfl (l' := #[.val (.ref a0'), .val (.int p1), .val (.ref a0'), .unset, .unset, .unset]) rfl ?_
    show Steps p.tables e below (T0.setTop (mkF m 2 #[.val (.ref a0'), .val (.int p1), .val (.ref a0'), .unset, .unset, .unset] [])) _
    refine XS.aloadN X0.here hx rfl (hb hby d1_2) rfl rfl ?_
    show Steps p.tables e below (T0.setTop (mkF m 3 #[.val (.ref a0'), .val (.int p1), .val (.ref a0'), .unset, .unset, .unset] [(.ref a0')])) _
    refine own_len X0 hx hZ e0 A0 (n := (2 : Int32)) rfl (g := (mkF m 3 #[.val (.ref a0'), .val (.int p1), .val (.ref a0'), .unset, .unset, .unset] [(.ref a0')])) rfl rfl (hb hby d1_3) _ ?_
    show Steps p.tables e below (T0.setTop (mkF m 4 #[.val (.ref a0'), .val (.int p1), .val (.ref a0'), .unset, .unset, .unset] [(.int (2 : Int32))])) _
    refine XS.istoreN X0.here hx rfl (hb hby d1_4) rfl (l' := #[.val (.ref a0'), .val (.int p1), .val (.ref a0'), .val (.int (2 : Int32)), .unset, .unset]) rfl ?_
    show Steps p.tables e below (T0.setTop (mkF m 5 #[.val (.ref a0'), .val (.int p1), .val (.ref a0'), .val (.int (2 : Int32)), .unset, .unset] [])) _
    refine XS.iconst X0.here hx rfl (hb hby d1_5) ?_
    show Steps p.tables e below (T0.setTop (mkF m 6 #[.val (.ref a0'), .val (.int p1), .val (.ref a0'), .val (.int (2 : Int32)), .unset, .unset] [(.int (0 : Int32))])) _
    refine XS.istore X0.here hx rfl (hb hby d1_6) rfl (l' := #[.val (.ref a0'), .val (.int p1), .val (.ref a0'), .val (.int (2 : Int32)), .val (.int (0 : Int32)), .unset]) rfl ?_
    show Steps p.tables e below (T0.setTop (mkF m 8 #[.val (.ref a0'), .val (.int p1), .val (.ref a0'), .val (.int (2 : Int32)), .val (.int (0 : Int32)), .unset] [])) _
    refine XS.iload X0.here hx rfl (hb hby d1_8) rfl ?_
    show Steps p.tables e below (T0.setTop (mkF m 10 #[.val (.ref a0'), .val (.int p1), .val (.ref a0'), .val (.int (2 : Int32)), .val (.int (0 : Int32)), .unset] [(.int (0 : Int32))])) _
    refine XS.iloadN X0.here hx rfl (hb hby d1_10) rfl ?_
    exact kt
  refine own_step (T' := T0) (f' := (mkF m 14 #[.val (.ref a0'), .val (.int p1), .val (.ref a0'), .val (.int (2 : Int32)), .val (.int (0 : Int32)), .unset] [])) (fun t kt => ?_) ?_
  · show Steps p.tables e below (T0.setTop (mkF m 11 #[.val (.ref a0'), .val (.int p1), .val (.ref a0'), .val (.int (2 : Int32)), .val (.int (0 : Int32)), .unset] [(.int (2 : Int32)), (.int (0 : Int32))])) _
    refine XS.icmpNo X0.here hx rfl (hb hby d1_11) rfl (tlt (by decide : ((0 : Int32) < (2 : Int32)))).2.1 kt
  refine own_step (T' := T0) (f' := (mkF m 23 #[.val (.ref a0'), .val (.int p1), .val (.ref a0'), .val (.int (2 : Int32)), .val (.int (0 : Int32)), .val (.int x0_0)] [(.int p1), (.int x0_0)])) (fun t kt => ?_) ?_
  · show Steps p.tables e below (T0.setTop (mkF m 14 #[.val (.ref a0'), .val (.int p1), .val (.ref a0'), .val (.int (2 : Int32)), .val (.int (0 : Int32)), .unset] [])) _
    refine XS.aloadN X0.here hx rfl (hb hby d1_14) rfl rfl ?_
    show Steps p.tables e below (T0.setTop (mkF m 15 #[.val (.ref a0'), .val (.int p1), .val (.ref a0'), .val (.int (2 : Int32)), .val (.int (0 : Int32)), .unset] [(.ref a0')])) _
    refine XS.iload X0.here hx rfl (hb hby d1_15) rfl ?_
    show Steps p.tables e below (T0.setTop (mkF m 17 #[.val (.ref a0'), .val (.int p1), .val (.ref a0'), .val (.int (2 : Int32)), .val (.int (0 : Int32)), .unset] [(.int (0 : Int32)), (.ref a0')])) _
    refine own_ldI X0 hx hZ e0 A0 (j := (0 : Int32)) (by decide) (k := 0) (by decide) (v := (.int x0_0)) rfl (g := (mkF m 17 #[.val (.ref a0'), .val (.int p1), .val (.ref a0'), .val (.int (2 : Int32)), .val (.int (0 : Int32)), .unset] [(.int (0 : Int32)), (.ref a0')])) rfl rfl (hb hby d1_17) _ ?_
    show Steps p.tables e below (T0.setTop (mkF m 18 #[.val (.ref a0'), .val (.int p1), .val (.ref a0'), .val (.int (2 : Int32)), .val (.int (0 : Int32)), .unset] [(.int x0_0)])) _
    refine XS.istore X0.here hx rfl (hb hby d1_18) rfl (l' := #[.val (.ref a0'), .val (.int p1), .val (.ref a0'), .val (.int (2 : Int32)), .val (.int (0 : Int32)), .val (.int x0_0)]) rfl ?_
    show Steps p.tables e below (T0.setTop (mkF m 20 #[.val (.ref a0'), .val (.int p1), .val (.ref a0'), .val (.int (2 : Int32)), .val (.int (0 : Int32)), .val (.int x0_0)] [])) _
    refine XS.iload X0.here hx rfl (hb hby d1_20) rfl ?_
    show Steps p.tables e below (T0.setTop (mkF m 22 #[.val (.ref a0'), .val (.int p1), .val (.ref a0'), .val (.int (2 : Int32)), .val (.int (0 : Int32)), .val (.int x0_0)] [(.int x0_0)])) _
    refine XS.iloadN X0.here hx rfl (hb hby d1_22) rfl ?_
    exact kt
  by_cases hc23_2 : x0_0 = p1
  · rw [if_pos hc23_2] at hr
    refine own_step (T' := T0) (f' := (mkF m 26 #[.val (.ref a0'), .val (.int p1), .val (.ref a0'), .val (.int (2 : Int32)), .val (.int (0 : Int32)), .val (.int x0_0)] [])) (fun t kt => ?_) ?_
    · show Steps p.tables e below (T0.setTop (mkF m 23 #[.val (.ref a0'), .val (.int p1), .val (.ref a0'), .val (.int (2 : Int32)), .val (.int (0 : Int32)), .val (.int x0_0)] [(.int p1), (.int x0_0)])) _
      refine XS.icmpNo X0.here hx rfl (hb hby d1_23) rfl (teq hc23_2).2 kt
    refine own_step (T' := T0) (f' := (mkF m 27 #[.val (.ref a0'), .val (.int p1), .val (.ref a0'), .val (.int (2 : Int32)), .val (.int (0 : Int32)), .val (.int x0_0)] [(.int (1 : Int32))])) (fun t kt => ?_) ?_
    · show Steps p.tables e below (T0.setTop (mkF m 26 #[.val (.ref a0'), .val (.int p1), .val (.ref a0'), .val (.int (2 : Int32)), .val (.int (0 : Int32)), .val (.int x0_0)] [])) _
      refine XS.iconst X0.here hx rfl (hb hby d1_26) ?_
      exact kt
    exact own_retZ X0 hx hret (by simp) hlk (hb hby d1_27) (Nat.le_refl _) (Nat.le_refl _) ⟨congrArg (fun z => some (Value.int z)) hr.symm, N0, e0⟩
  · rw [if_neg hc23_2] at hr
    refine own_step (T' := T0) (f' := (mkF m 28 #[.val (.ref a0'), .val (.int p1), .val (.ref a0'), .val (.int (2 : Int32)), .val (.int (0 : Int32)), .val (.int x0_0)] [])) (fun t kt => ?_) ?_
    · show Steps p.tables e below (T0.setTop (mkF m 23 #[.val (.ref a0'), .val (.int p1), .val (.ref a0'), .val (.int (2 : Int32)), .val (.int (0 : Int32)), .val (.int x0_0)] [(.int p1), (.int x0_0)])) _
      refine XS.icmpYes X0.here hx rfl (pc0 := 23) (pc' := 28) rfl (hb hby d1_23) rfl (feq hc23_2).2 (by decide) (by decide) kt
    refine own_step (T' := T0) (f' := (mkF m 11 #[.val (.ref a0'), .val (.int p1), .val (.ref a0'), .val (.int (2 : Int32)), .val (.int (1 : Int32)), .val (.int x0_0)] [(.int (2 : Int32)), (.int (1 : Int32))])) (fun t kt => ?_) ?_
    · show Steps p.tables e below (T0.setTop (mkF m 28 #[.val (.ref a0'), .val (.int p1), .val (.ref a0'), .val (.int (2 : Int32)), .val (.int (0 : Int32)), .val (.int x0_0)] [])) _
      refine XS.iinc X0.here hx rfl (hb hby d1_28) rfl (l' := #[.val (.ref a0'), .val (.int p1), .val (.ref a0'), .val (.int (2 : Int32)), .val (.int (1 : Int32)), .val (.int x0_0)]) rfl ?_
      show Steps p.tables e below (T0.setTop (mkF m 31 #[.val (.ref a0'), .val (.int p1), .val (.ref a0'), .val (.int (2 : Int32)), .val (.int (1 : Int32)), .val (.int x0_0)] [])) _
      refine XS.goto X0.here hx rfl (pc0 := 31) (pc' := 8) rfl (hb hby d1_31) (by decide) (by decide) ?_
      show Steps p.tables e below (T0.setTop (mkF m 8 #[.val (.ref a0'), .val (.int p1), .val (.ref a0'), .val (.int (2 : Int32)), .val (.int (1 : Int32)), .val (.int x0_0)] [])) _
      refine XS.iload X0.here hx rfl (hb hby d1_8) rfl ?_
      show Steps p.tables e below (T0.setTop (mkF m 10 #[.val (.ref a0'), .val (.int p1), .val (.ref a0'), .val (.int (2 : Int32)), .val (.int (1 : Int32)), .val (.int x0_0)] [(.int (1 : Int32))])) _
      refine XS.iloadN X0.here hx rfl (hb hby d1_10) rfl ?_
      exact kt
    refine own_step (T' := T0) (f' := (mkF m 14 #[.val (.ref a0'), .val (.int p1), .val (.ref a0'), .val (.int (2 : Int32)), .val (.int (1 : Int32)), .val (.int x0_0)] [])) (fun t kt => ?_) ?_
    · show Steps p.tables e below (T0.setTop (mkF m 11 #[.val (.ref a0'), .val (.int p1), .val (.ref a0'), .val (.int (2 : Int32)), .val (.int (1 : Int32)), .val (.int x0_0)] [(.int (2 : Int32)), (.int (1 : Int32))])) _
      refine XS.icmpNo X0.here hx rfl (hb hby d1_11) rfl (tlt (by decide : ((1 : Int32) < (2 : Int32)))).2.1 kt
    refine own_step (T' := T0) (f' := (mkF m 23 #[.val (.ref a0'), .val (.int p1), .val (.ref a0'), .val (.int (2 : Int32)), .val (.int (1 : Int32)), .val (.int x0_1)] [(.int p1), (.int x0_1)])) (fun t kt => ?_) ?_
    · show Steps p.tables e below (T0.setTop (mkF m 14 #[.val (.ref a0'), .val (.int p1), .val (.ref a0'), .val (.int (2 : Int32)), .val (.int (1 : Int32)), .val (.int x0_0)] [])) _
      refine XS.aloadN X0.here hx rfl (hb hby d1_14) rfl rfl ?_
      show Steps p.tables e below (T0.setTop (mkF m 15 #[.val (.ref a0'), .val (.int p1), .val (.ref a0'), .val (.int (2 : Int32)), .val (.int (1 : Int32)), .val (.int x0_0)] [(.ref a0')])) _
      refine XS.iload X0.here hx rfl (hb hby d1_15) rfl ?_
      show Steps p.tables e below (T0.setTop (mkF m 17 #[.val (.ref a0'), .val (.int p1), .val (.ref a0'), .val (.int (2 : Int32)), .val (.int (1 : Int32)), .val (.int x0_0)] [(.int (1 : Int32)), (.ref a0')])) _
      refine own_ldI X0 hx hZ e0 A0 (j := (1 : Int32)) (by decide) (k := 1) (by decide) (v := (.int x0_1)) rfl (g := (mkF m 17 #[.val (.ref a0'), .val (.int p1), .val (.ref a0'), .val (.int (2 : Int32)), .val (.int (1 : Int32)), .val (.int x0_0)] [(.int (1 : Int32)), (.ref a0')])) rfl rfl (hb hby d1_17) _ ?_
      show Steps p.tables e below (T0.setTop (mkF m 18 #[.val (.ref a0'), .val (.int p1), .val (.ref a0'), .val (.int (2 : Int32)), .val (.int (1 : Int32)), .val (.int x0_0)] [(.int x0_1)])) _
      refine XS.istore X0.here hx rfl (hb hby d1_18) rfl (l' := #[.val (.ref a0'), .val (.int p1), .val (.ref a0'), .val (.int (2 : Int32)), .val (.int (1 : Int32)), .val (.int x0_1)]) rfl ?_
      show Steps p.tables e below (T0.setTop (mkF m 20 #[.val (.ref a0'), .val (.int p1), .val (.ref a0'), .val (.int (2 : Int32)), .val (.int (1 : Int32)), .val (.int x0_1)] [])) _
      refine XS.iload X0.here hx rfl (hb hby d1_20) rfl ?_
      show Steps p.tables e below (T0.setTop (mkF m 22 #[.val (.ref a0'), .val (.int p1), .val (.ref a0'), .val (.int (2 : Int32)), .val (.int (1 : Int32)), .val (.int x0_1)] [(.int x0_1)])) _
      refine XS.iloadN X0.here hx rfl (hb hby d1_22) rfl ?_
      exact kt
    by_cases hc23_4 : x0_1 = p1
    · rw [if_pos hc23_4] at hr
      refine own_step (T' := T0) (f' := (mkF m 26 #[.val (.ref a0'), .val (.int p1), .val (.ref a0'), .val (.int (2 : Int32)), .val (.int (1 : Int32)), .val (.int x0_1)] [])) (fun t kt => ?_) ?_
      · show Steps p.tables e below (T0.setTop (mkF m 23 #[.val (.ref a0'), .val (.int p1), .val (.ref a0'), .val (.int (2 : Int32)), .val (.int (1 : Int32)), .val (.int x0_1)] [(.int p1), (.int x0_1)])) _
        refine XS.icmpNo X0.here hx rfl (hb hby d1_23) rfl (teq hc23_4).2 kt
      refine own_step (T' := T0) (f' := (mkF m 27 #[.val (.ref a0'), .val (.int p1), .val (.ref a0'), .val (.int (2 : Int32)), .val (.int (1 : Int32)), .val (.int x0_1)] [(.int (1 : Int32))])) (fun t kt => ?_) ?_
      · show Steps p.tables e below (T0.setTop (mkF m 26 #[.val (.ref a0'), .val (.int p1), .val (.ref a0'), .val (.int (2 : Int32)), .val (.int (1 : Int32)), .val (.int x0_1)] [])) _
        refine XS.iconst X0.here hx rfl (hb hby d1_26) ?_
        exact kt
      exact own_retZ X0 hx hret (by simp) hlk (hb hby d1_27) (Nat.le_refl _) (Nat.le_refl _) ⟨congrArg (fun z => some (Value.int z)) hr.symm, N0, e0⟩
    · rw [if_neg hc23_4] at hr
      refine own_step (T' := T0) (f' := (mkF m 28 #[.val (.ref a0'), .val (.int p1), .val (.ref a0'), .val (.int (2 : Int32)), .val (.int (1 : Int32)), .val (.int x0_1)] [])) (fun t kt => ?_) ?_
      · show Steps p.tables e below (T0.setTop (mkF m 23 #[.val (.ref a0'), .val (.int p1), .val (.ref a0'), .val (.int (2 : Int32)), .val (.int (1 : Int32)), .val (.int x0_1)] [(.int p1), (.int x0_1)])) _
        refine XS.icmpYes X0.here hx rfl (pc0 := 23) (pc' := 28) rfl (hb hby d1_23) rfl (feq hc23_4).2 (by decide) (by decide) kt
      refine own_step (T' := T0) (f' := (mkF m 11 #[.val (.ref a0'), .val (.int p1), .val (.ref a0'), .val (.int (2 : Int32)), .val (.int (2 : Int32)), .val (.int x0_1)] [(.int (2 : Int32)), (.int (2 : Int32))])) (fun t kt => ?_) ?_
      · show Steps p.tables e below (T0.setTop (mkF m 28 #[.val (.ref a0'), .val (.int p1), .val (.ref a0'), .val (.int (2 : Int32)), .val (.int (1 : Int32)), .val (.int x0_1)] [])) _
        refine XS.iinc X0.here hx rfl (hb hby d1_28) rfl (l' := #[.val (.ref a0'), .val (.int p1), .val (.ref a0'), .val (.int (2 : Int32)), .val (.int (2 : Int32)), .val (.int x0_1)]) rfl ?_
        show Steps p.tables e below (T0.setTop (mkF m 31 #[.val (.ref a0'), .val (.int p1), .val (.ref a0'), .val (.int (2 : Int32)), .val (.int (2 : Int32)), .val (.int x0_1)] [])) _
        refine XS.goto X0.here hx rfl (pc0 := 31) (pc' := 8) rfl (hb hby d1_31) (by decide) (by decide) ?_
        show Steps p.tables e below (T0.setTop (mkF m 8 #[.val (.ref a0'), .val (.int p1), .val (.ref a0'), .val (.int (2 : Int32)), .val (.int (2 : Int32)), .val (.int x0_1)] [])) _
        refine XS.iload X0.here hx rfl (hb hby d1_8) rfl ?_
        show Steps p.tables e below (T0.setTop (mkF m 10 #[.val (.ref a0'), .val (.int p1), .val (.ref a0'), .val (.int (2 : Int32)), .val (.int (2 : Int32)), .val (.int x0_1)] [(.int (2 : Int32))])) _
        refine XS.iloadN X0.here hx rfl (hb hby d1_10) rfl ?_
        exact kt
      refine own_step (T' := T0) (f' := (mkF m 34 #[.val (.ref a0'), .val (.int p1), .val (.ref a0'), .val (.int (2 : Int32)), .val (.int (2 : Int32)), .val (.int x0_1)] [])) (fun t kt => ?_) ?_
      · show Steps p.tables e below (T0.setTop (mkF m 11 #[.val (.ref a0'), .val (.int p1), .val (.ref a0'), .val (.int (2 : Int32)), .val (.int (2 : Int32)), .val (.int x0_1)] [(.int (2 : Int32)), (.int (2 : Int32))])) _
        refine XS.icmpYes X0.here hx rfl (pc0 := 11) (pc' := 34) rfl (hb hby d1_11) rfl (flt (by decide : ¬ ((2 : Int32) < (2 : Int32)))).2.1 (by decide) (by decide) kt
      refine own_step (T' := T0) (f' := (mkF m 35 #[.val (.ref a0'), .val (.int p1), .val (.ref a0'), .val (.int (2 : Int32)), .val (.int (2 : Int32)), .val (.int x0_1)] [(.int (0 : Int32))])) (fun t kt => ?_) ?_
      · show Steps p.tables e below (T0.setTop (mkF m 34 #[.val (.ref a0'), .val (.int p1), .val (.ref a0'), .val (.int (2 : Int32)), .val (.int (2 : Int32)), .val (.int x0_1)] [])) _
        refine XS.iconst X0.here hx rfl (hb hby d1_34) ?_
        exact kt
      exact own_retZ X0 hx hret (by simp) hlk (hb hby d1_35) (Nat.le_refl _) (Nat.le_refl _) ⟨congrArg (fun z => some (Value.int z)) hr.symm, N0, e0⟩
set_option maxRecDepth 65536 in
set_option maxHeartbeats 4000000 in
theorem rm1n2 (l : Launch) (Z : State) (a0 : Array Value) (hw : ∀ d ∈ tables_1, d.before a0 Z = true) (ws : List Jvm.Cond) (a0' : Addr) (p1 : Int32) (x0_0 : Int32) (x0_1 : Int32) (h0 : Heap) (n0 : Nat) (A0 : own_A Z h0 a0' .int [(.int x0_0), (.int x0_1)]) :
    MetFree l (⟨"com/example/conceal/conceal/SensitiveHolders", "contains", "([II)Z"⟩ : MethodName) (head1 (Jvm.Cond.code (⟨"com/example/conceal/conceal/SensitiveHolders", "contains", "([II)Z"⟩ : MethodName) prog_47_method_16_code 6 (some .boolean) :: ws) ({ frames := 0, cells := 0, slots := 0, locals := 0 } : Room)) (fun a U => a = #[(.ref a0'), (.int p1)] ∧ Z.Warmed39 U.vm ∧ U.heap = h0) (fun _ _ _ _ _ => True) (fun _ U o U' => ∃ v L, o = .returned v ∧ (own_P (.int (f1n2_0 p1 x0_0 x0_1)) h0 n0) v U'.heap L ∧ FrameEnd U o U' L ({ frames := 0, cells := 0, slots := 0, locals := 0 } : Room).cells ({ frames := 0, cells := 0, slots := 0, locals := 0 } : Room).slots) := by
  refine MetFree.of_bodySF (plainFor_of_name pn1) hisR ?_
  intro p e s m args below meth c s₁ Bd hml0 hP hK
  obtain ⟨rfl, hZ, hh⟩ := hP
  have hown : s.vm.findClass "com/example/conceal/conceal/SensitiveHolders" = some m.cls := findClass_of_methodNamed Bd.named
  have X0 : Stand p l e ({ frames := 0, cells := 0, slots := 0, locals := 0 } : Room) s m #[(.ref a0'), (.int p1)] below meth c s₁ [] 0 0 := Stand.of_body Bd
  have e0 : s₁.heap = h0 := by rw [← hh, Bd.state]; rfl
  show own_Ends p e below s 0 0 (own_P (.int (f1n2_0 p1 x0_0 x0_1)) h0 n0) s₁ (entryFrame m #[(.ref a0'), (.int p1)] 6)
  refine own_step (fun t k => castTop (ef1 m a0' p1) k) ?_
  exact b1n2_0 a0' p1 x0_0 x0_1 X0 Bd.exec hZ hw Bd.bytes hml0 hown Bd.returns (BodyLoose.notSynchronized Bd) e0 (Fr.nil n0) A0 rfl
def f1n3_0 (p1 : Int32) (x0_0 : Int32) (x0_1 : Int32) (x0_2 : Int32) : Int32 :=
  if x0_0 = p1 then ((1 : Int32)) else (if x0_1 = p1 then ((1 : Int32)) else (if x0_2 = p1 then ((1 : Int32)) else ((0 : Int32))))
set_option maxRecDepth 65536 in
set_option maxHeartbeats 4000000 in
theorem b1n3_0 {p : Program} {l : Launch} {e : Env} {s : State} {m : MethodId} {args : Array Value} {below : List Frame} {meth : Method} {c : Code} {T0 : State} {locs : List Loc} {Z : State} {a0 : Array Value} {h0 : Heap} {n0 : Nat} (a0' : Addr) (p1 : Int32) (x0_0 : Int32) (x0_1 : Int32) (x0_2 : Int32) {r : Int32} (X0 : Stand p l e ({ frames := 0, cells := 0, slots := 0, locals := 0 } : Room) s m args below meth c T0 locs 0 0) (hx : p.tables.exec = Jvm.exec) (hZ : Z.Warmed39 s.vm) (hw : ∀ d ∈ tables_1, d.before a0 Z = true) (hby : c.code = prog_47_method_16_code) (hml : c.maxLocals = 6) (hown : s.vm.findClass "com/example/conceal/conceal/SensitiveHolders" = some m.cls) (hret : meth.sig.returnType = some .boolean) (hlk : meth.locks = false) (e0 : T0.heap = h0) (N0 : Fr n0 locs) (A0 : own_A Z h0 a0' .int [(.int x0_0), (.int x0_1), (.int x0_2)]) (hr : r = f1n3_0 p1 x0_0 x0_1 x0_2) :
    own_Ends p e below s 0 0 (own_P (.int r) h0 n0) T0 (mkF m 0 #[.val (.ref a0'), .val (.int p1), .unset, .unset, .unset, .unset] []) := by
  unfold f1n3_0 at hr
  refine own_step (T' := T0) (f' := (mkF m 11 #[.val (.ref a0'), .val (.int p1), .val (.ref a0'), .val (.int (3 : Int32)), .val (.int (0 : Int32)), .unset] [(.int (3 : Int32)), (.int (0 : Int32))])) (fun t kt => ?_) ?_
  · show Steps p.tables e below (T0.setTop (mkF m 0 #[.val (.ref a0'), .val (.int p1), .unset, .unset, .unset, .unset] [])) _
    refine XS.aloadN X0.here hx rfl (hb hby d1_0) rfl rfl ?_
    show Steps p.tables e below (T0.setTop (mkF m 1 #[.val (.ref a0'), .val (.int p1), .unset, .unset, .unset, .unset] [(.ref a0')])) _
    refine XS.astoreN X0.here hx rfl (hb hby d1_1) rfl rfl (l' := #[.val (.ref a0'), .val (.int p1), .val (.ref a0'), .unset, .unset, .unset]) rfl ?_
    show Steps p.tables e below (T0.setTop (mkF m 2 #[.val (.ref a0'), .val (.int p1), .val (.ref a0'), .unset, .unset, .unset] [])) _
    refine XS.aloadN X0.here hx rfl (hb hby d1_2) rfl rfl ?_
    show Steps p.tables e below (T0.setTop (mkF m 3 #[.val (.ref a0'), .val (.int p1), .val (.ref a0'), .unset, .unset, .unset] [(.ref a0')])) _
    refine own_len X0 hx hZ e0 A0 (n := (3 : Int32)) rfl (g := (mkF m 3 #[.val (.ref a0'), .val (.int p1), .val (.ref a0'), .unset, .unset, .unset] [(.ref a0')])) rfl rfl (hb hby d1_3) _ ?_
    show Steps p.tables e below (T0.setTop (mkF m 4 #[.val (.ref a0'), .val (.int p1), .val (.ref a0'), .unset, .unset, .unset] [(.int (3 : Int32))])) _
    refine XS.istoreN X0.here hx rfl (hb hby d1_4) rfl (l' := #[.val (.ref a0'), .val (.int p1), .val (.ref a0'), .val (.int (3 : Int32)), .unset, .unset]) rfl ?_
    show Steps p.tables e below (T0.setTop (mkF m 5 #[.val (.ref a0'), .val (.int p1), .val (.ref a0'), .val (.int (3 : Int32)), .unset, .unset] [])) _
    refine XS.iconst X0.here hx rfl (hb hby d1_5) ?_
    show Steps p.tables e below (T0.setTop (mkF m 6 #[.val (.ref a0'), .val (.int p1), .val (.ref a0'), .val (.int (3 : Int32)), .unset, .unset] [(.int (0 : Int32))])) _
    refine XS.istore X0.here hx rfl (hb hby d1_6) rfl (l' := #[.val (.ref a0'), .val (.int p1), .val (.ref a0'), .val (.int (3 : Int32)), .val (.int (0 : Int32)), .unset]) rfl ?_
    show Steps p.tables e below (T0.setTop (mkF m 8 #[.val (.ref a0'), .val (.int p1), .val (.ref a0'), .val (.int (3 : Int32)), .val (.int (0 : Int32)), .unset] [])) _
    refine XS.iload X0.here hx rfl (hb hby d1_8) rfl ?_
    show Steps p.tables e below (T0.setTop (mkF m 10 #[.val (.ref a0'), .val (.int p1), .val (.ref a0'), .val (.int (3 : Int32)), .val (.int (0 : Int32)), .unset] [(.int (0 : Int32))])) _
    refine XS.iloadN X0.here hx rfl (hb hby d1_10) rfl ?_
    exact kt
  refine own_step (T' := T0) (f' := (mkF m 14 #[.val (.ref a0'), .val (.int p1), .val (.ref a0'), .val (.int (3 : Int32)), .val (.int (0 : Int32)), .unset] [])) (fun t kt => ?_) ?_
  · show Steps p.tables e below (T0.setTop (mkF m 11 #[.val (.ref a0'), .val (.int p1), .val (.ref a0'), .val (.int (3 : Int32)), .val (.int (0 : Int32)), .unset] [(.int (3 : Int32)), (.int (0 : Int32))])) _
    refine XS.icmpNo X0.here hx rfl (hb hby d1_11) rfl (tlt (by decide : ((0 : Int32) < (3 : Int32)))).2.1 kt
  refine own_step (T' := T0) (f' := (mkF m 23 #[.val (.ref a0'), .val (.int p1), .val (.ref a0'), .val (.int (3 : Int32)), .val (.int (0 : Int32)), .val (.int x0_0)] [(.int p1), (.int x0_0)])) (fun t kt => ?_) ?_
  · show Steps p.tables e below (T0.setTop (mkF m 14 #[.val (.ref a0'), .val (.int p1), .val (.ref a0'), .val (.int (3 : Int32)), .val (.int (0 : Int32)), .unset] [])) _
    refine XS.aloadN X0.here hx rfl (hb hby d1_14) rfl rfl ?_
    show Steps p.tables e below (T0.setTop (mkF m 15 #[.val (.ref a0'), .val (.int p1), .val (.ref a0'), .val (.int (3 : Int32)), .val (.int (0 : Int32)), .unset] [(.ref a0')])) _
    refine XS.iload X0.here hx rfl (hb hby d1_15) rfl ?_
    show Steps p.tables e below (T0.setTop (mkF m 17 #[.val (.ref a0'), .val (.int p1), .val (.ref a0'), .val (.int (3 : Int32)), .val (.int (0 : Int32)), .unset] [(.int (0 : Int32)), (.ref a0')])) _
    refine own_ldI X0 hx hZ e0 A0 (j := (0 : Int32)) (by decide) (k := 0) (by decide) (v := (.int x0_0)) rfl (g := (mkF m 17 #[.val (.ref a0'), .val (.int p1), .val (.ref a0'), .val (.int (3 : Int32)), .val (.int (0 : Int32)), .unset] [(.int (0 : Int32)), (.ref a0')])) rfl rfl (hb hby d1_17) _ ?_
    show Steps p.tables e below (T0.setTop (mkF m 18 #[.val (.ref a0'), .val (.int p1), .val (.ref a0'), .val (.int (3 : Int32)), .val (.int (0 : Int32)), .unset] [(.int x0_0)])) _
    refine XS.istore X0.here hx rfl (hb hby d1_18) rfl (l' := #[.val (.ref a0'), .val (.int p1), .val (.ref a0'), .val (.int (3 : Int32)), .val (.int (0 : Int32)), .val (.int x0_0)]) rfl ?_
    show Steps p.tables e below (T0.setTop (mkF m 20 #[.val (.ref a0'), .val (.int p1), .val (.ref a0'), .val (.int (3 : Int32)), .val (.int (0 : Int32)), .val (.int x0_0)] [])) _
    refine XS.iload X0.here hx rfl (hb hby d1_20) rfl ?_
    show Steps p.tables e below (T0.setTop (mkF m 22 #[.val (.ref a0'), .val (.int p1), .val (.ref a0'), .val (.int (3 : Int32)), .val (.int (0 : Int32)), .val (.int x0_0)] [(.int x0_0)])) _
    refine XS.iloadN X0.here hx rfl (hb hby d1_22) rfl ?_
    exact kt
  by_cases hc23_2 : x0_0 = p1
  · rw [if_pos hc23_2] at hr
    refine own_step (T' := T0) (f' := (mkF m 26 #[.val (.ref a0'), .val (.int p1), .val (.ref a0'), .val (.int (3 : Int32)), .val (.int (0 : Int32)), .val (.int x0_0)] [])) (fun t kt => ?_) ?_
    · show Steps p.tables e below (T0.setTop (mkF m 23 #[.val (.ref a0'), .val (.int p1), .val (.ref a0'), .val (.int (3 : Int32)), .val (.int (0 : Int32)), .val (.int x0_0)] [(.int p1), (.int x0_0)])) _
      refine XS.icmpNo X0.here hx rfl (hb hby d1_23) rfl (teq hc23_2).2 kt
    refine own_step (T' := T0) (f' := (mkF m 27 #[.val (.ref a0'), .val (.int p1), .val (.ref a0'), .val (.int (3 : Int32)), .val (.int (0 : Int32)), .val (.int x0_0)] [(.int (1 : Int32))])) (fun t kt => ?_) ?_
    · show Steps p.tables e below (T0.setTop (mkF m 26 #[.val (.ref a0'), .val (.int p1), .val (.ref a0'), .val (.int (3 : Int32)), .val (.int (0 : Int32)), .val (.int x0_0)] [])) _
      refine XS.iconst X0.here hx rfl (hb hby d1_26) ?_
      exact kt
    exact own_retZ X0 hx hret (by simp) hlk (hb hby d1_27) (Nat.le_refl _) (Nat.le_refl _) ⟨congrArg (fun z => some (Value.int z)) hr.symm, N0, e0⟩
  · rw [if_neg hc23_2] at hr
    refine own_step (T' := T0) (f' := (mkF m 28 #[.val (.ref a0'), .val (.int p1), .val (.ref a0'), .val (.int (3 : Int32)), .val (.int (0 : Int32)), .val (.int x0_0)] [])) (fun t kt => ?_) ?_
    · show Steps p.tables e below (T0.setTop (mkF m 23 #[.val (.ref a0'), .val (.int p1), .val (.ref a0'), .val (.int (3 : Int32)), .val (.int (0 : Int32)), .val (.int x0_0)] [(.int p1), (.int x0_0)])) _
      refine XS.icmpYes X0.here hx rfl (pc0 := 23) (pc' := 28) rfl (hb hby d1_23) rfl (feq hc23_2).2 (by decide) (by decide) kt
    refine own_step (T' := T0) (f' := (mkF m 11 #[.val (.ref a0'), .val (.int p1), .val (.ref a0'), .val (.int (3 : Int32)), .val (.int (1 : Int32)), .val (.int x0_0)] [(.int (3 : Int32)), (.int (1 : Int32))])) (fun t kt => ?_) ?_
    · show Steps p.tables e below (T0.setTop (mkF m 28 #[.val (.ref a0'), .val (.int p1), .val (.ref a0'), .val (.int (3 : Int32)), .val (.int (0 : Int32)), .val (.int x0_0)] [])) _
      refine XS.iinc X0.here hx rfl (hb hby d1_28) rfl (l' := #[.val (.ref a0'), .val (.int p1), .val (.ref a0'), .val (.int (3 : Int32)), .val (.int (1 : Int32)), .val (.int x0_0)]) rfl ?_
      show Steps p.tables e below (T0.setTop (mkF m 31 #[.val (.ref a0'), .val (.int p1), .val (.ref a0'), .val (.int (3 : Int32)), .val (.int (1 : Int32)), .val (.int x0_0)] [])) _
      refine XS.goto X0.here hx rfl (pc0 := 31) (pc' := 8) rfl (hb hby d1_31) (by decide) (by decide) ?_
      show Steps p.tables e below (T0.setTop (mkF m 8 #[.val (.ref a0'), .val (.int p1), .val (.ref a0'), .val (.int (3 : Int32)), .val (.int (1 : Int32)), .val (.int x0_0)] [])) _
      refine XS.iload X0.here hx rfl (hb hby d1_8) rfl ?_
      show Steps p.tables e below (T0.setTop (mkF m 10 #[.val (.ref a0'), .val (.int p1), .val (.ref a0'), .val (.int (3 : Int32)), .val (.int (1 : Int32)), .val (.int x0_0)] [(.int (1 : Int32))])) _
      refine XS.iloadN X0.here hx rfl (hb hby d1_10) rfl ?_
      exact kt
    refine own_step (T' := T0) (f' := (mkF m 14 #[.val (.ref a0'), .val (.int p1), .val (.ref a0'), .val (.int (3 : Int32)), .val (.int (1 : Int32)), .val (.int x0_0)] [])) (fun t kt => ?_) ?_
    · show Steps p.tables e below (T0.setTop (mkF m 11 #[.val (.ref a0'), .val (.int p1), .val (.ref a0'), .val (.int (3 : Int32)), .val (.int (1 : Int32)), .val (.int x0_0)] [(.int (3 : Int32)), (.int (1 : Int32))])) _
      refine XS.icmpNo X0.here hx rfl (hb hby d1_11) rfl (tlt (by decide : ((1 : Int32) < (3 : Int32)))).2.1 kt
    refine own_step (T' := T0) (f' := (mkF m 23 #[.val (.ref a0'), .val (.int p1), .val (.ref a0'), .val (.int (3 : Int32)), .val (.int (1 : Int32)), .val (.int x0_1)] [(.int p1), (.int x0_1)])) (fun t kt => ?_) ?_
    · show Steps p.tables e below (T0.setTop (mkF m 14 #[.val (.ref a0'), .val (.int p1), .val (.ref a0'), .val (.int (3 : Int32)), .val (.int (1 : Int32)), .val (.int x0_0)] [])) _
      refine XS.aloadN X0.here hx rfl (hb hby d1_14) rfl rfl ?_
      show Steps p.tables e below (T0.setTop (mkF m 15 #[.val (.ref a0'), .val (.int p1), .val (.ref a0'), .val (.int (3 : Int32)), .val (.int (1 : Int32)), .val (.int x0_0)] [(.ref a0')])) _
      refine XS.iload X0.here hx rfl (hb hby d1_15) rfl ?_
      show Steps p.tables e below (T0.setTop (mkF m 17 #[.val (.ref a0'), .val (.int p1), .val (.ref a0'), .val (.int (3 : Int32)), .val (.int (1 : Int32)), .val (.int x0_0)] [(.int (1 : Int32)), (.ref a0')])) _
      refine own_ldI X0 hx hZ e0 A0 (j := (1 : Int32)) (by decide) (k := 1) (by decide) (v := (.int x0_1)) rfl (g := (mkF m 17 #[.val (.ref a0'), .val (.int p1), .val (.ref a0'), .val (.int (3 : Int32)), .val (.int (1 : Int32)), .val (.int x0_0)] [(.int (1 : Int32)), (.ref a0')])) rfl rfl (hb hby d1_17) _ ?_
      show Steps p.tables e below (T0.setTop (mkF m 18 #[.val (.ref a0'), .val (.int p1), .val (.ref a0'), .val (.int (3 : Int32)), .val (.int (1 : Int32)), .val (.int x0_0)] [(.int x0_1)])) _
      refine XS.istore X0.here hx rfl (hb hby d1_18) rfl (l' := #[.val (.ref a0'), .val (.int p1), .val (.ref a0'), .val (.int (3 : Int32)), .val (.int (1 : Int32)), .val (.int x0_1)]) rfl ?_
      show Steps p.tables e below (T0.setTop (mkF m 20 #[.val (.ref a0'), .val (.int p1), .val (.ref a0'), .val (.int (3 : Int32)), .val (.int (1 : Int32)), .val (.int x0_1)] [])) _
      refine XS.iload X0.here hx rfl (hb hby d1_20) rfl ?_
      show Steps p.tables e below (T0.setTop (mkF m 22 #[.val (.ref a0'), .val (.int p1), .val (.ref a0'), .val (.int (3 : Int32)), .val (.int (1 : Int32)), .val (.int x0_1)] [(.int x0_1)])) _
      refine XS.iloadN X0.here hx rfl (hb hby d1_22) rfl ?_
      exact kt
    by_cases hc23_4 : x0_1 = p1
    · rw [if_pos hc23_4] at hr
      refine own_step (T' := T0) (f' := (mkF m 26 #[.val (.ref a0'), .val (.int p1), .val (.ref a0'), .val (.int (3 : Int32)), .val (.int (1 : Int32)), .val (.int x0_1)] [])) (fun t kt => ?_) ?_
      · show Steps p.tables e below (T0.setTop (mkF m 23 #[.val (.ref a0'), .val (.int p1), .val (.ref a0'), .val (.int (3 : Int32)), .val (.int (1 : Int32)), .val (.int x0_1)] [(.int p1), (.int x0_1)])) _
        refine XS.icmpNo X0.here hx rfl (hb hby d1_23) rfl (teq hc23_4).2 kt
      refine own_step (T' := T0) (f' := (mkF m 27 #[.val (.ref a0'), .val (.int p1), .val (.ref a0'), .val (.int (3 : Int32)), .val (.int (1 : Int32)), .val (.int x0_1)] [(.int (1 : Int32))])) (fun t kt => ?_) ?_
      · show Steps p.tables e below (T0.setTop (mkF m 26 #[.val (.ref a0'), .val (.int p1), .val (.ref a0'), .val (.int (3 : Int32)), .val (.int (1 : Int32)), .val (.int x0_1)] [])) _
        refine XS.iconst X0.here hx rfl (hb hby d1_26) ?_
        exact kt
      exact own_retZ X0 hx hret (by simp) hlk (hb hby d1_27) (Nat.le_refl _) (Nat.le_refl _) ⟨congrArg (fun z => some (Value.int z)) hr.symm, N0, e0⟩
    · rw [if_neg hc23_4] at hr
      refine own_step (T' := T0) (f' := (mkF m 28 #[.val (.ref a0'), .val (.int p1), .val (.ref a0'), .val (.int (3 : Int32)), .val (.int (1 : Int32)), .val (.int x0_1)] [])) (fun t kt => ?_) ?_
      · show Steps p.tables e below (T0.setTop (mkF m 23 #[.val (.ref a0'), .val (.int p1), .val (.ref a0'), .val (.int (3 : Int32)), .val (.int (1 : Int32)), .val (.int x0_1)] [(.int p1), (.int x0_1)])) _
        refine XS.icmpYes X0.here hx rfl (pc0 := 23) (pc' := 28) rfl (hb hby d1_23) rfl (feq hc23_4).2 (by decide) (by decide) kt
      refine own_step (T' := T0) (f' := (mkF m 11 #[.val (.ref a0'), .val (.int p1), .val (.ref a0'), .val (.int (3 : Int32)), .val (.int (2 : Int32)), .val (.int x0_1)] [(.int (3 : Int32)), (.int (2 : Int32))])) (fun t kt => ?_) ?_
      · show Steps p.tables e below (T0.setTop (mkF m 28 #[.val (.ref a0'), .val (.int p1), .val (.ref a0'), .val (.int (3 : Int32)), .val (.int (1 : Int32)), .val (.int x0_1)] [])) _
        refine XS.iinc X0.here hx rfl (hb hby d1_28) rfl (l' := #[.val (.ref a0'), .val (.int p1), .val (.ref a0'), .val (.int (3 : Int32)), .val (.int (2 : Int32)), .val (.int x0_1)]) rfl ?_
        show Steps p.tables e below (T0.setTop (mkF m 31 #[.val (.ref a0'), .val (.int p1), .val (.ref a0'), .val (.int (3 : Int32)), .val (.int (2 : Int32)), .val (.int x0_1)] [])) _
        refine XS.goto X0.here hx rfl (pc0 := 31) (pc' := 8) rfl (hb hby d1_31) (by decide) (by decide) ?_
        show Steps p.tables e below (T0.setTop (mkF m 8 #[.val (.ref a0'), .val (.int p1), .val (.ref a0'), .val (.int (3 : Int32)), .val (.int (2 : Int32)), .val (.int x0_1)] [])) _
        refine XS.iload X0.here hx rfl (hb hby d1_8) rfl ?_
        show Steps p.tables e below (T0.setTop (mkF m 10 #[.val (.ref a0'), .val (.int p1), .val (.ref a0'), .val (.int (3 : Int32)), .val (.int (2 : Int32)), .val (.int x0_1)] [(.int (2 : Int32))])) _
        refine XS.iloadN X0.here hx rfl (hb hby d1_10) rfl ?_
        exact kt
      refine own_step (T' := T0) (f' := (mkF m 14 #[.val (.ref a0'), .val (.int p1), .val (.ref a0'), .val (.int (3 : Int32)), .val (.int (2 : Int32)), .val (.int x0_1)] [])) (fun t kt => ?_) ?_
      · show Steps p.tables e below (T0.setTop (mkF m 11 #[.val (.ref a0'), .val (.int p1), .val (.ref a0'), .val (.int (3 : Int32)), .val (.int (2 : Int32)), .val (.int x0_1)] [(.int (3 : Int32)), (.int (2 : Int32))])) _
        refine XS.icmpNo X0.here hx rfl (hb hby d1_11) rfl (tlt (by decide : ((2 : Int32) < (3 : Int32)))).2.1 kt
      refine own_step (T' := T0) (f' := (mkF m 23 #[.val (.ref a0'), .val (.int p1), .val (.ref a0'), .val (.int (3 : Int32)), .val (.int (2 : Int32)), .val (.int x0_2)] [(.int p1), (.int x0_2)])) (fun t kt => ?_) ?_
      · show Steps p.tables e below (T0.setTop (mkF m 14 #[.val (.ref a0'), .val (.int p1), .val (.ref a0'), .val (.int (3 : Int32)), .val (.int (2 : Int32)), .val (.int x0_1)] [])) _
        refine XS.aloadN X0.here hx rfl (hb hby d1_14) rfl rfl ?_
        show Steps p.tables e below (T0.setTop (mkF m 15 #[.val (.ref a0'), .val (.int p1), .val (.ref a0'), .val (.int (3 : Int32)), .val (.int (2 : Int32)), .val (.int x0_1)] [(.ref a0')])) _
        refine XS.iload X0.here hx rfl (hb hby d1_15) rfl ?_
        show Steps p.tables e below (T0.setTop (mkF m 17 #[.val (.ref a0'), .val (.int p1), .val (.ref a0'), .val (.int (3 : Int32)), .val (.int (2 : Int32)), .val (.int x0_1)] [(.int (2 : Int32)), (.ref a0')])) _
        refine own_ldI X0 hx hZ e0 A0 (j := (2 : Int32)) (by decide) (k := 2) (by decide) (v := (.int x0_2)) rfl (g := (mkF m 17 #[.val (.ref a0'), .val (.int p1), .val (.ref a0'), .val (.int (3 : Int32)), .val (.int (2 : Int32)), .val (.int x0_1)] [(.int (2 : Int32)), (.ref a0')])) rfl rfl (hb hby d1_17) _ ?_
        show Steps p.tables e below (T0.setTop (mkF m 18 #[.val (.ref a0'), .val (.int p1), .val (.ref a0'), .val (.int (3 : Int32)), .val (.int (2 : Int32)), .val (.int x0_1)] [(.int x0_2)])) _
        refine XS.istore X0.here hx rfl (hb hby d1_18) rfl (l' := #[.val (.ref a0'), .val (.int p1), .val (.ref a0'), .val (.int (3 : Int32)), .val (.int (2 : Int32)), .val (.int x0_2)]) rfl ?_
        show Steps p.tables e below (T0.setTop (mkF m 20 #[.val (.ref a0'), .val (.int p1), .val (.ref a0'), .val (.int (3 : Int32)), .val (.int (2 : Int32)), .val (.int x0_2)] [])) _
        refine XS.iload X0.here hx rfl (hb hby d1_20) rfl ?_
        show Steps p.tables e below (T0.setTop (mkF m 22 #[.val (.ref a0'), .val (.int p1), .val (.ref a0'), .val (.int (3 : Int32)), .val (.int (2 : Int32)), .val (.int x0_2)] [(.int x0_2)])) _
        refine XS.iloadN X0.here hx rfl (hb hby d1_22) rfl ?_
        exact kt
      by_cases hc23_6 : x0_2 = p1
      · rw [if_pos hc23_6] at hr
        refine own_step (T' := T0) (f' := (mkF m 26 #[.val (.ref a0'), .val (.int p1), .val (.ref a0'), .val (.int (3 : Int32)), .val (.int (2 : Int32)), .val (.int x0_2)] [])) (fun t kt => ?_) ?_
        · show Steps p.tables e below (T0.setTop (mkF m 23 #[.val (.ref a0'), .val (.int p1), .val (.ref a0'), .val (.int (3 : Int32)), .val (.int (2 : Int32)), .val (.int x0_2)] [(.int p1), (.int x0_2)])) _
          refine XS.icmpNo X0.here hx rfl (hb hby d1_23) rfl (teq hc23_6).2 kt
        refine own_step (T' := T0) (f' := (mkF m 27 #[.val (.ref a0'), .val (.int p1), .val (.ref a0'), .val (.int (3 : Int32)), .val (.int (2 : Int32)), .val (.int x0_2)] [(.int (1 : Int32))])) (fun t kt => ?_) ?_
        · show Steps p.tables e below (T0.setTop (mkF m 26 #[.val (.ref a0'), .val (.int p1), .val (.ref a0'), .val (.int (3 : Int32)), .val (.int (2 : Int32)), .val (.int x0_2)] [])) _
          refine XS.iconst X0.here hx rfl (hb hby d1_26) ?_
          exact kt
        exact own_retZ X0 hx hret (by simp) hlk (hb hby d1_27) (Nat.le_refl _) (Nat.le_refl _) ⟨congrArg (fun z => some (Value.int z)) hr.symm, N0, e0⟩
      · rw [if_neg hc23_6] at hr
        refine own_step (T' := T0) (f' := (mkF m 28 #[.val (.ref a0'), .val (.int p1), .val (.ref a0'), .val (.int (3 : Int32)), .val (.int (2 : Int32)), .val (.int x0_2)] [])) (fun t kt => ?_) ?_
        · show Steps p.tables e below (T0.setTop (mkF m 23 #[.val (.ref a0'), .val (.int p1), .val (.ref a0'), .val (.int (3 : Int32)), .val (.int (2 : Int32)), .val (.int x0_2)] [(.int p1), (.int x0_2)])) _
          refine XS.icmpYes X0.here hx rfl (pc0 := 23) (pc' := 28) rfl (hb hby d1_23) rfl (feq hc23_6).2 (by decide) (by decide) kt
        refine own_step (T' := T0) (f' := (mkF m 11 #[.val (.ref a0'), .val (.int p1), .val (.ref a0'), .val (.int (3 : Int32)), .val (.int (3 : Int32)), .val (.int x0_2)] [(.int (3 : Int32)), (.int (3 : Int32))])) (fun t kt => ?_) ?_
        · show Steps p.tables e below (T0.setTop (mkF m 28 #[.val (.ref a0'), .val (.int p1), .val (.ref a0'), .val (.int (3 : Int32)), .val (.int (2 : Int32)), .val (.int x0_2)] [])) _
          refine XS.iinc X0.here hx rfl (hb hby d1_28) rfl (l' := #[.val (.ref a0'), .val (.int p1), .val (.ref a0'), .val (.int (3 : Int32)), .val (.int (3 : Int32)), .val (.int x0_2)]) rfl ?_
          show Steps p.tables e below (T0.setTop (mkF m 31 #[.val (.ref a0'), .val (.int p1), .val (.ref a0'), .val (.int (3 : Int32)), .val (.int (3 : Int32)), .val (.int x0_2)] [])) _
          refine XS.goto X0.here hx rfl (pc0 := 31) (pc' := 8) rfl (hb hby d1_31) (by decide) (by decide) ?_
          show Steps p.tables e below (T0.setTop (mkF m 8 #[.val (.ref a0'), .val (.int p1), .val (.ref a0'), .val (.int (3 : Int32)), .val (.int (3 : Int32)), .val (.int x0_2)] [])) _
          refine XS.iload X0.here hx rfl (hb hby d1_8) rfl ?_
          show Steps p.tables e below (T0.setTop (mkF m 10 #[.val (.ref a0'), .val (.int p1), .val (.ref a0'), .val (.int (3 : Int32)), .val (.int (3 : Int32)), .val (.int x0_2)] [(.int (3 : Int32))])) _
          refine XS.iloadN X0.here hx rfl (hb hby d1_10) rfl ?_
          exact kt
        refine own_step (T' := T0) (f' := (mkF m 34 #[.val (.ref a0'), .val (.int p1), .val (.ref a0'), .val (.int (3 : Int32)), .val (.int (3 : Int32)), .val (.int x0_2)] [])) (fun t kt => ?_) ?_
        · show Steps p.tables e below (T0.setTop (mkF m 11 #[.val (.ref a0'), .val (.int p1), .val (.ref a0'), .val (.int (3 : Int32)), .val (.int (3 : Int32)), .val (.int x0_2)] [(.int (3 : Int32)), (.int (3 : Int32))])) _
          refine XS.icmpYes X0.here hx rfl (pc0 := 11) (pc' := 34) rfl (hb hby d1_11) rfl (flt (by decide : ¬ ((3 : Int32) < (3 : Int32)))).2.1 (by decide) (by decide) kt
        refine own_step (T' := T0) (f' := (mkF m 35 #[.val (.ref a0'), .val (.int p1), .val (.ref a0'), .val (.int (3 : Int32)), .val (.int (3 : Int32)), .val (.int x0_2)] [(.int (0 : Int32))])) (fun t kt => ?_) ?_
        · show Steps p.tables e below (T0.setTop (mkF m 34 #[.val (.ref a0'), .val (.int p1), .val (.ref a0'), .val (.int (3 : Int32)), .val (.int (3 : Int32)), .val (.int x0_2)] [])) _
          refine XS.iconst X0.here hx rfl (hb hby d1_34) ?_
          exact kt
        exact own_retZ X0 hx hret (by simp) hlk (hb hby d1_35) (Nat.le_refl _) (Nat.le_refl _) ⟨congrArg (fun z => some (Value.int z)) hr.symm, N0, e0⟩
set_option maxRecDepth 65536 in
set_option maxHeartbeats 4000000 in
theorem rm1n3 (l : Launch) (Z : State) (a0 : Array Value) (hw : ∀ d ∈ tables_1, d.before a0 Z = true) (ws : List Jvm.Cond) (a0' : Addr) (p1 : Int32) (x0_0 : Int32) (x0_1 : Int32) (x0_2 : Int32) (h0 : Heap) (n0 : Nat) (A0 : own_A Z h0 a0' .int [(.int x0_0), (.int x0_1), (.int x0_2)]) :
    MetFree l (⟨"com/example/conceal/conceal/SensitiveHolders", "contains", "([II)Z"⟩ : MethodName) (head1 (Jvm.Cond.code (⟨"com/example/conceal/conceal/SensitiveHolders", "contains", "([II)Z"⟩ : MethodName) prog_47_method_16_code 6 (some .boolean) :: ws) ({ frames := 0, cells := 0, slots := 0, locals := 0 } : Room)) (fun a U => a = #[(.ref a0'), (.int p1)] ∧ Z.Warmed39 U.vm ∧ U.heap = h0) (fun _ _ _ _ _ => True) (fun _ U o U' => ∃ v L, o = .returned v ∧ (own_P (.int (f1n3_0 p1 x0_0 x0_1 x0_2)) h0 n0) v U'.heap L ∧ FrameEnd U o U' L ({ frames := 0, cells := 0, slots := 0, locals := 0 } : Room).cells ({ frames := 0, cells := 0, slots := 0, locals := 0 } : Room).slots) := by
  refine MetFree.of_bodySF (plainFor_of_name pn1) hisR ?_
  intro p e s m args below meth c s₁ Bd hml0 hP hK
  obtain ⟨rfl, hZ, hh⟩ := hP
  have hown : s.vm.findClass "com/example/conceal/conceal/SensitiveHolders" = some m.cls := findClass_of_methodNamed Bd.named
  have X0 : Stand p l e ({ frames := 0, cells := 0, slots := 0, locals := 0 } : Room) s m #[(.ref a0'), (.int p1)] below meth c s₁ [] 0 0 := Stand.of_body Bd
  have e0 : s₁.heap = h0 := by rw [← hh, Bd.state]; rfl
  show own_Ends p e below s 0 0 (own_P (.int (f1n3_0 p1 x0_0 x0_1 x0_2)) h0 n0) s₁ (entryFrame m #[(.ref a0'), (.int p1)] 6)
  refine own_step (fun t k => castTop (ef1 m a0' p1) k) ?_
  exact b1n3_0 a0' p1 x0_0 x0_1 x0_2 X0 Bd.exec hZ hw Bd.bytes hml0 hown Bd.returns (BodyLoose.notSynchronized Bd) e0 (Fr.nil n0) A0 rfl
def f1n4_0 (p1 : Int32) (x0_0 : Int32) (x0_1 : Int32) (x0_2 : Int32) (x0_3 : Int32) : Int32 :=
  if x0_0 = p1 then ((1 : Int32)) else (if x0_1 = p1 then ((1 : Int32)) else (if x0_2 = p1 then ((1 : Int32)) else (if x0_3 = p1 then ((1 : Int32)) else ((0 : Int32)))))
set_option maxRecDepth 65536 in
set_option maxHeartbeats 4000000 in
theorem b1n4_0 {p : Program} {l : Launch} {e : Env} {s : State} {m : MethodId} {args : Array Value} {below : List Frame} {meth : Method} {c : Code} {T0 : State} {locs : List Loc} {Z : State} {a0 : Array Value} {h0 : Heap} {n0 : Nat} (a0' : Addr) (p1 : Int32) (x0_0 : Int32) (x0_1 : Int32) (x0_2 : Int32) (x0_3 : Int32) {r : Int32} (X0 : Stand p l e ({ frames := 0, cells := 0, slots := 0, locals := 0 } : Room) s m args below meth c T0 locs 0 0) (hx : p.tables.exec = Jvm.exec) (hZ : Z.Warmed39 s.vm) (hw : ∀ d ∈ tables_1, d.before a0 Z = true) (hby : c.code = prog_47_method_16_code) (hml : c.maxLocals = 6) (hown : s.vm.findClass "com/example/conceal/conceal/SensitiveHolders" = some m.cls) (hret : meth.sig.returnType = some .boolean) (hlk : meth.locks = false) (e0 : T0.heap = h0) (N0 : Fr n0 locs) (A0 : own_A Z h0 a0' .int [(.int x0_0), (.int x0_1), (.int x0_2), (.int x0_3)]) (hr : r = f1n4_0 p1 x0_0 x0_1 x0_2 x0_3) :
    own_Ends p e below s 0 0 (own_P (.int r) h0 n0) T0 (mkF m 0 #[.val (.ref a0'), .val (.int p1), .unset, .unset, .unset, .unset] []) := by
  unfold f1n4_0 at hr
  refine own_step (T' := T0) (f' := (mkF m 11 #[.val (.ref a0'), .val (.int p1), .val (.ref a0'), .val (.int (4 : Int32)), .val (.int (0 : Int32)), .unset] [(.int (4 : Int32)), (.int (0 : Int32))])) (fun t kt => ?_) ?_
  · show Steps p.tables e below (T0.setTop (mkF m 0 #[.val (.ref a0'), .val (.int p1), .unset, .unset, .unset, .unset] [])) _
    refine XS.aloadN X0.here hx rfl (hb hby d1_0) rfl rfl ?_
    show Steps p.tables e below (T0.setTop (mkF m 1 #[.val (.ref a0'), .val (.int p1), .unset, .unset, .unset, .unset] [(.ref a0')])) _
    refine XS.astoreN X0.here hx rfl (hb hby d1_1) rfl rfl (l' := #[.val (.ref a0'), .val (.int p1), .val (.ref a0'), .unset, .unset, .unset]) rfl ?_
    show Steps p.tables e below (T0.setTop (mkF m 2 #[.val (.ref a0'), .val (.int p1), .val (.ref a0'), .unset, .unset, .unset] [])) _
    refine XS.aloadN X0.here hx rfl (hb hby d1_2) rfl rfl ?_
    show Steps p.tables e below (T0.setTop (mkF m 3 #[.val (.ref a0'), .val (.int p1), .val (.ref a0'), .unset, .unset, .unset] [(.ref a0')])) _
    refine own_len X0 hx hZ e0 A0 (n := (4 : Int32)) rfl (g := (mkF m 3 #[.val (.ref a0'), .val (.int p1), .val (.ref a0'), .unset, .unset, .unset] [(.ref a0')])) rfl rfl (hb hby d1_3) _ ?_
    show Steps p.tables e below (T0.setTop (mkF m 4 #[.val (.ref a0'), .val (.int p1), .val (.ref a0'), .unset, .unset, .unset] [(.int (4 : Int32))])) _
    refine XS.istoreN X0.here hx rfl (hb hby d1_4) rfl (l' := #[.val (.ref a0'), .val (.int p1), .val (.ref a0'), .val (.int (4 : Int32)), .unset, .unset]) rfl ?_
    show Steps p.tables e below (T0.setTop (mkF m 5 #[.val (.ref a0'), .val (.int p1), .val (.ref a0'), .val (.int (4 : Int32)), .unset, .unset] [])) _
    refine XS.iconst X0.here hx rfl (hb hby d1_5) ?_
    show Steps p.tables e below (T0.setTop (mkF m 6 #[.val (.ref a0'), .val (.int p1), .val (.ref a0'), .val (.int (4 : Int32)), .unset, .unset] [(.int (0 : Int32))])) _
    refine XS.istore X0.here hx rfl (hb hby d1_6) rfl (l' := #[.val (.ref a0'), .val (.int p1), .val (.ref a0'), .val (.int (4 : Int32)), .val (.int (0 : Int32)), .unset]) rfl ?_
    show Steps p.tables e below (T0.setTop (mkF m 8 #[.val (.ref a0'), .val (.int p1), .val (.ref a0'), .val (.int (4 : Int32)), .val (.int (0 : Int32)), .unset] [])) _
    refine XS.iload X0.here hx rfl (hb hby d1_8) rfl ?_
    show Steps p.tables e below (T0.setTop (mkF m 10 #[.val (.ref a0'), .val (.int p1), .val (.ref a0'), .val (.int (4 : Int32)), .val (.int (0 : Int32)), .unset] [(.int (0 : Int32))])) _
    refine XS.iloadN X0.here hx rfl (hb hby d1_10) rfl ?_
    exact kt
  refine own_step (T' := T0) (f' := (mkF m 14 #[.val (.ref a0'), .val (.int p1), .val (.ref a0'), .val (.int (4 : Int32)), .val (.int (0 : Int32)), .unset] [])) (fun t kt => ?_) ?_
  · show Steps p.tables e below (T0.setTop (mkF m 11 #[.val (.ref a0'), .val (.int p1), .val (.ref a0'), .val (.int (4 : Int32)), .val (.int (0 : Int32)), .unset] [(.int (4 : Int32)), (.int (0 : Int32))])) _
    refine XS.icmpNo X0.here hx rfl (hb hby d1_11) rfl (tlt (by decide : ((0 : Int32) < (4 : Int32)))).2.1 kt
  refine own_step (T' := T0) (f' := (mkF m 23 #[.val (.ref a0'), .val (.int p1), .val (.ref a0'), .val (.int (4 : Int32)), .val (.int (0 : Int32)), .val (.int x0_0)] [(.int p1), (.int x0_0)])) (fun t kt => ?_) ?_
  · show Steps p.tables e below (T0.setTop (mkF m 14 #[.val (.ref a0'), .val (.int p1), .val (.ref a0'), .val (.int (4 : Int32)), .val (.int (0 : Int32)), .unset] [])) _
    refine XS.aloadN X0.here hx rfl (hb hby d1_14) rfl rfl ?_
    show Steps p.tables e below (T0.setTop (mkF m 15 #[.val (.ref a0'), .val (.int p1), .val (.ref a0'), .val (.int (4 : Int32)), .val (.int (0 : Int32)), .unset] [(.ref a0')])) _
    refine XS.iload X0.here hx rfl (hb hby d1_15) rfl ?_
    show Steps p.tables e below (T0.setTop (mkF m 17 #[.val (.ref a0'), .val (.int p1), .val (.ref a0'), .val (.int (4 : Int32)), .val (.int (0 : Int32)), .unset] [(.int (0 : Int32)), (.ref a0')])) _
    refine own_ldI X0 hx hZ e0 A0 (j := (0 : Int32)) (by decide) (k := 0) (by decide) (v := (.int x0_0)) rfl (g := (mkF m 17 #[.val (.ref a0'), .val (.int p1), .val (.ref a0'), .val (.int (4 : Int32)), .val (.int (0 : Int32)), .unset] [(.int (0 : Int32)), (.ref a0')])) rfl rfl (hb hby d1_17) _ ?_
    show Steps p.tables e below (T0.setTop (mkF m 18 #[.val (.ref a0'), .val (.int p1), .val (.ref a0'), .val (.int (4 : Int32)), .val (.int (0 : Int32)), .unset] [(.int x0_0)])) _
    refine XS.istore X0.here hx rfl (hb hby d1_18) rfl (l' := #[.val (.ref a0'), .val (.int p1), .val (.ref a0'), .val (.int (4 : Int32)), .val (.int (0 : Int32)), .val (.int x0_0)]) rfl ?_
    show Steps p.tables e below (T0.setTop (mkF m 20 #[.val (.ref a0'), .val (.int p1), .val (.ref a0'), .val (.int (4 : Int32)), .val (.int (0 : Int32)), .val (.int x0_0)] [])) _
    refine XS.iload X0.here hx rfl (hb hby d1_20) rfl ?_
    show Steps p.tables e below (T0.setTop (mkF m 22 #[.val (.ref a0'), .val (.int p1), .val (.ref a0'), .val (.int (4 : Int32)), .val (.int (0 : Int32)), .val (.int x0_0)] [(.int x0_0)])) _
    refine XS.iloadN X0.here hx rfl (hb hby d1_22) rfl ?_
    exact kt
  by_cases hc23_2 : x0_0 = p1
  · rw [if_pos hc23_2] at hr
    refine own_step (T' := T0) (f' := (mkF m 26 #[.val (.ref a0'), .val (.int p1), .val (.ref a0'), .val (.int (4 : Int32)), .val (.int (0 : Int32)), .val (.int x0_0)] [])) (fun t kt => ?_) ?_
    · show Steps p.tables e below (T0.setTop (mkF m 23 #[.val (.ref a0'), .val (.int p1), .val (.ref a0'), .val (.int (4 : Int32)), .val (.int (0 : Int32)), .val (.int x0_0)] [(.int p1), (.int x0_0)])) _
      refine XS.icmpNo X0.here hx rfl (hb hby d1_23) rfl (teq hc23_2).2 kt
    refine own_step (T' := T0) (f' := (mkF m 27 #[.val (.ref a0'), .val (.int p1), .val (.ref a0'), .val (.int (4 : Int32)), .val (.int (0 : Int32)), .val (.int x0_0)] [(.int (1 : Int32))])) (fun t kt => ?_) ?_
    · show Steps p.tables e below (T0.setTop (mkF m 26 #[.val (.ref a0'), .val (.int p1), .val (.ref a0'), .val (.int (4 : Int32)), .val (.int (0 : Int32)), .val (.int x0_0)] [])) _
      refine XS.iconst X0.here hx rfl (hb hby d1_26) ?_
      exact kt
    exact own_retZ X0 hx hret (by simp) hlk (hb hby d1_27) (Nat.le_refl _) (Nat.le_refl _) ⟨congrArg (fun z => some (Value.int z)) hr.symm, N0, e0⟩
  · rw [if_neg hc23_2] at hr
    refine own_step (T' := T0) (f' := (mkF m 28 #[.val (.ref a0'), .val (.int p1), .val (.ref a0'), .val (.int (4 : Int32)), .val (.int (0 : Int32)), .val (.int x0_0)] [])) (fun t kt => ?_) ?_
    · show Steps p.tables e below (T0.setTop (mkF m 23 #[.val (.ref a0'), .val (.int p1), .val (.ref a0'), .val (.int (4 : Int32)), .val (.int (0 : Int32)), .val (.int x0_0)] [(.int p1), (.int x0_0)])) _
      refine XS.icmpYes X0.here hx rfl (pc0 := 23) (pc' := 28) rfl (hb hby d1_23) rfl (feq hc23_2).2 (by decide) (by decide) kt
    refine own_step (T' := T0) (f' := (mkF m 11 #[.val (.ref a0'), .val (.int p1), .val (.ref a0'), .val (.int (4 : Int32)), .val (.int (1 : Int32)), .val (.int x0_0)] [(.int (4 : Int32)), (.int (1 : Int32))])) (fun t kt => ?_) ?_
    · show Steps p.tables e below (T0.setTop (mkF m 28 #[.val (.ref a0'), .val (.int p1), .val (.ref a0'), .val (.int (4 : Int32)), .val (.int (0 : Int32)), .val (.int x0_0)] [])) _
      refine XS.iinc X0.here hx rfl (hb hby d1_28) rfl (l' := #[.val (.ref a0'), .val (.int p1), .val (.ref a0'), .val (.int (4 : Int32)), .val (.int (1 : Int32)), .val (.int x0_0)]) rfl ?_
      show Steps p.tables e below (T0.setTop (mkF m 31 #[.val (.ref a0'), .val (.int p1), .val (.ref a0'), .val (.int (4 : Int32)), .val (.int (1 : Int32)), .val (.int x0_0)] [])) _
      refine XS.goto X0.here hx rfl (pc0 := 31) (pc' := 8) rfl (hb hby d1_31) (by decide) (by decide) ?_
      show Steps p.tables e below (T0.setTop (mkF m 8 #[.val (.ref a0'), .val (.int p1), .val (.ref a0'), .val (.int (4 : Int32)), .val (.int (1 : Int32)), .val (.int x0_0)] [])) _
      refine XS.iload X0.here hx rfl (hb hby d1_8) rfl ?_
      show Steps p.tables e below (T0.setTop (mkF m 10 #[.val (.ref a0'), .val (.int p1), .val (.ref a0'), .val (.int (4 : Int32)), .val (.int (1 : Int32)), .val (.int x0_0)] [(.int (1 : Int32))])) _
      refine XS.iloadN X0.here hx rfl (hb hby d1_10) rfl ?_
      exact kt
    refine own_step (T' := T0) (f' := (mkF m 14 #[.val (.ref a0'), .val (.int p1), .val (.ref a0'), .val (.int (4 : Int32)), .val (.int (1 : Int32)), .val (.int x0_0)] [])) (fun t kt => ?_) ?_
    · show Steps p.tables e below (T0.setTop (mkF m 11 #[.val (.ref a0'), .val (.int p1), .val (.ref a0'), .val (.int (4 : Int32)), .val (.int (1 : Int32)), .val (.int x0_0)] [(.int (4 : Int32)), (.int (1 : Int32))])) _
      refine XS.icmpNo X0.here hx rfl (hb hby d1_11) rfl (tlt (by decide : ((1 : Int32) < (4 : Int32)))).2.1 kt
    refine own_step (T' := T0) (f' := (mkF m 23 #[.val (.ref a0'), .val (.int p1), .val (.ref a0'), .val (.int (4 : Int32)), .val (.int (1 : Int32)), .val (.int x0_1)] [(.int p1), (.int x0_1)])) (fun t kt => ?_) ?_
    · show Steps p.tables e below (T0.setTop (mkF m 14 #[.val (.ref a0'), .val (.int p1), .val (.ref a0'), .val (.int (4 : Int32)), .val (.int (1 : Int32)), .val (.int x0_0)] [])) _
      refine XS.aloadN X0.here hx rfl (hb hby d1_14) rfl rfl ?_
      show Steps p.tables e below (T0.setTop (mkF m 15 #[.val (.ref a0'), .val (.int p1), .val (.ref a0'), .val (.int (4 : Int32)), .val (.int (1 : Int32)), .val (.int x0_0)] [(.ref a0')])) _
      refine XS.iload X0.here hx rfl (hb hby d1_15) rfl ?_
      show Steps p.tables e below (T0.setTop (mkF m 17 #[.val (.ref a0'), .val (.int p1), .val (.ref a0'), .val (.int (4 : Int32)), .val (.int (1 : Int32)), .val (.int x0_0)] [(.int (1 : Int32)), (.ref a0')])) _
      refine own_ldI X0 hx hZ e0 A0 (j := (1 : Int32)) (by decide) (k := 1) (by decide) (v := (.int x0_1)) rfl (g := (mkF m 17 #[.val (.ref a0'), .val (.int p1), .val (.ref a0'), .val (.int (4 : Int32)), .val (.int (1 : Int32)), .val (.int x0_0)] [(.int (1 : Int32)), (.ref a0')])) rfl rfl (hb hby d1_17) _ ?_
      show Steps p.tables e below (T0.setTop (mkF m 18 #[.val (.ref a0'), .val (.int p1), .val (.ref a0'), .val (.int (4 : Int32)), .val (.int (1 : Int32)), .val (.int x0_0)] [(.int x0_1)])) _
      refine XS.istore X0.here hx rfl (hb hby d1_18) rfl (l' := #[.val (.ref a0'), .val (.int p1), .val (.ref a0'), .val (.int (4 : Int32)), .val (.int (1 : Int32)), .val (.int x0_1)]) rfl ?_
      show Steps p.tables e below (T0.setTop (mkF m 20 #[.val (.ref a0'), .val (.int p1), .val (.ref a0'), .val (.int (4 : Int32)), .val (.int (1 : Int32)), .val (.int x0_1)] [])) _
      refine XS.iload X0.here hx rfl (hb hby d1_20) rfl ?_
      show Steps p.tables e below (T0.setTop (mkF m 22 #[.val (.ref a0'), .val (.int p1), .val (.ref a0'), .val (.int (4 : Int32)), .val (.int (1 : Int32)), .val (.int x0_1)] [(.int x0_1)])) _
      refine XS.iloadN X0.here hx rfl (hb hby d1_22) rfl ?_
      exact kt
    by_cases hc23_4 : x0_1 = p1
    · rw [if_pos hc23_4] at hr
      refine own_step (T' := T0) (f' := (mkF m 26 #[.val (.ref a0'), .val (.int p1), .val (.ref a0'), .val (.int (4 : Int32)), .val (.int (1 : Int32)), .val (.int x0_1)] [])) (fun t kt => ?_) ?_
      · show Steps p.tables e below (T0.setTop (mkF m 23 #[.val (.ref a0'), .val (.int p1), .val (.ref a0'), .val (.int (4 : Int32)), .val (.int (1 : Int32)), .val (.int x0_1)] [(.int p1), (.int x0_1)])) _
        refine XS.icmpNo X0.here hx rfl (hb hby d1_23) rfl (teq hc23_4).2 kt
      refine own_step (T' := T0) (f' := (mkF m 27 #[.val (.ref a0'), .val (.int p1), .val (.ref a0'), .val (.int (4 : Int32)), .val (.int (1 : Int32)), .val (.int x0_1)] [(.int (1 : Int32))])) (fun t kt => ?_) ?_
      · show Steps p.tables e below (T0.setTop (mkF m 26 #[.val (.ref a0'), .val (.int p1), .val (.ref a0'), .val (.int (4 : Int32)), .val (.int (1 : Int32)), .val (.int x0_1)] [])) _
        refine XS.iconst X0.here hx rfl (hb hby d1_26) ?_
        exact kt
      exact own_retZ X0 hx hret (by simp) hlk (hb hby d1_27) (Nat.le_refl _) (Nat.le_refl _) ⟨congrArg (fun z => some (Value.int z)) hr.symm, N0, e0⟩
    · rw [if_neg hc23_4] at hr
      refine own_step (T' := T0) (f' := (mkF m 28 #[.val (.ref a0'), .val (.int p1), .val (.ref a0'), .val (.int (4 : Int32)), .val (.int (1 : Int32)), .val (.int x0_1)] [])) (fun t kt => ?_) ?_
      · show Steps p.tables e below (T0.setTop (mkF m 23 #[.val (.ref a0'), .val (.int p1), .val (.ref a0'), .val (.int (4 : Int32)), .val (.int (1 : Int32)), .val (.int x0_1)] [(.int p1), (.int x0_1)])) _
        refine XS.icmpYes X0.here hx rfl (pc0 := 23) (pc' := 28) rfl (hb hby d1_23) rfl (feq hc23_4).2 (by decide) (by decide) kt
      refine own_step (T' := T0) (f' := (mkF m 11 #[.val (.ref a0'), .val (.int p1), .val (.ref a0'), .val (.int (4 : Int32)), .val (.int (2 : Int32)), .val (.int x0_1)] [(.int (4 : Int32)), (.int (2 : Int32))])) (fun t kt => ?_) ?_
      · show Steps p.tables e below (T0.setTop (mkF m 28 #[.val (.ref a0'), .val (.int p1), .val (.ref a0'), .val (.int (4 : Int32)), .val (.int (1 : Int32)), .val (.int x0_1)] [])) _
        refine XS.iinc X0.here hx rfl (hb hby d1_28) rfl (l' := #[.val (.ref a0'), .val (.int p1), .val (.ref a0'), .val (.int (4 : Int32)), .val (.int (2 : Int32)), .val (.int x0_1)]) rfl ?_
        show Steps p.tables e below (T0.setTop (mkF m 31 #[.val (.ref a0'), .val (.int p1), .val (.ref a0'), .val (.int (4 : Int32)), .val (.int (2 : Int32)), .val (.int x0_1)] [])) _
        refine XS.goto X0.here hx rfl (pc0 := 31) (pc' := 8) rfl (hb hby d1_31) (by decide) (by decide) ?_
        show Steps p.tables e below (T0.setTop (mkF m 8 #[.val (.ref a0'), .val (.int p1), .val (.ref a0'), .val (.int (4 : Int32)), .val (.int (2 : Int32)), .val (.int x0_1)] [])) _
        refine XS.iload X0.here hx rfl (hb hby d1_8) rfl ?_
        show Steps p.tables e below (T0.setTop (mkF m 10 #[.val (.ref a0'), .val (.int p1), .val (.ref a0'), .val (.int (4 : Int32)), .val (.int (2 : Int32)), .val (.int x0_1)] [(.int (2 : Int32))])) _
        refine XS.iloadN X0.here hx rfl (hb hby d1_10) rfl ?_
        exact kt
      refine own_step (T' := T0) (f' := (mkF m 14 #[.val (.ref a0'), .val (.int p1), .val (.ref a0'), .val (.int (4 : Int32)), .val (.int (2 : Int32)), .val (.int x0_1)] [])) (fun t kt => ?_) ?_
      · show Steps p.tables e below (T0.setTop (mkF m 11 #[.val (.ref a0'), .val (.int p1), .val (.ref a0'), .val (.int (4 : Int32)), .val (.int (2 : Int32)), .val (.int x0_1)] [(.int (4 : Int32)), (.int (2 : Int32))])) _
        refine XS.icmpNo X0.here hx rfl (hb hby d1_11) rfl (tlt (by decide : ((2 : Int32) < (4 : Int32)))).2.1 kt
      refine own_step (T' := T0) (f' := (mkF m 23 #[.val (.ref a0'), .val (.int p1), .val (.ref a0'), .val (.int (4 : Int32)), .val (.int (2 : Int32)), .val (.int x0_2)] [(.int p1), (.int x0_2)])) (fun t kt => ?_) ?_
      · show Steps p.tables e below (T0.setTop (mkF m 14 #[.val (.ref a0'), .val (.int p1), .val (.ref a0'), .val (.int (4 : Int32)), .val (.int (2 : Int32)), .val (.int x0_1)] [])) _
        refine XS.aloadN X0.here hx rfl (hb hby d1_14) rfl rfl ?_
        show Steps p.tables e below (T0.setTop (mkF m 15 #[.val (.ref a0'), .val (.int p1), .val (.ref a0'), .val (.int (4 : Int32)), .val (.int (2 : Int32)), .val (.int x0_1)] [(.ref a0')])) _
        refine XS.iload X0.here hx rfl (hb hby d1_15) rfl ?_
        show Steps p.tables e below (T0.setTop (mkF m 17 #[.val (.ref a0'), .val (.int p1), .val (.ref a0'), .val (.int (4 : Int32)), .val (.int (2 : Int32)), .val (.int x0_1)] [(.int (2 : Int32)), (.ref a0')])) _
        refine own_ldI X0 hx hZ e0 A0 (j := (2 : Int32)) (by decide) (k := 2) (by decide) (v := (.int x0_2)) rfl (g := (mkF m 17 #[.val (.ref a0'), .val (.int p1), .val (.ref a0'), .val (.int (4 : Int32)), .val (.int (2 : Int32)), .val (.int x0_1)] [(.int (2 : Int32)), (.ref a0')])) rfl rfl (hb hby d1_17) _ ?_
        show Steps p.tables e below (T0.setTop (mkF m 18 #[.val (.ref a0'), .val (.int p1), .val (.ref a0'), .val (.int (4 : Int32)), .val (.int (2 : Int32)), .val (.int x0_1)] [(.int x0_2)])) _
        refine XS.istore X0.here hx rfl (hb hby d1_18) rfl (l' := #[.val (.ref a0'), .val (.int p1), .val (.ref a0'), .val (.int (4 : Int32)), .val (.int (2 : Int32)), .val (.int x0_2)]) rfl ?_
        show Steps p.tables e below (T0.setTop (mkF m 20 #[.val (.ref a0'), .val (.int p1), .val (.ref a0'), .val (.int (4 : Int32)), .val (.int (2 : Int32)), .val (.int x0_2)] [])) _
        refine XS.iload X0.here hx rfl (hb hby d1_20) rfl ?_
        show Steps p.tables e below (T0.setTop (mkF m 22 #[.val (.ref a0'), .val (.int p1), .val (.ref a0'), .val (.int (4 : Int32)), .val (.int (2 : Int32)), .val (.int x0_2)] [(.int x0_2)])) _
        refine XS.iloadN X0.here hx rfl (hb hby d1_22) rfl ?_
        exact kt
      by_cases hc23_6 : x0_2 = p1
      · rw [if_pos hc23_6] at hr
        refine own_step (T' := T0) (f' := (mkF m 26 #[.val (.ref a0'), .val (.int p1), .val (.ref a0'), .val (.int (4 : Int32)), .val (.int (2 : Int32)), .val (.int x0_2)] [])) (fun t kt => ?_) ?_
        · show Steps p.tables e below (T0.setTop (mkF m 23 #[.val (.ref a0'), .val (.int p1), .val (.ref a0'), .val (.int (4 : Int32)), .val (.int (2 : Int32)), .val (.int x0_2)] [(.int p1), (.int x0_2)])) _
          refine XS.icmpNo X0.here hx rfl (hb hby d1_23) rfl (teq hc23_6).2 kt
        refine own_step (T' := T0) (f' := (mkF m 27 #[.val (.ref a0'), .val (.int p1), .val (.ref a0'), .val (.int (4 : Int32)), .val (.int (2 : Int32)), .val (.int x0_2)] [(.int (1 : Int32))])) (fun t kt => ?_) ?_
        · show Steps p.tables e below (T0.setTop (mkF m 26 #[.val (.ref a0'), .val (.int p1), .val (.ref a0'), .val (.int (4 : Int32)), .val (.int (2 : Int32)), .val (.int x0_2)] [])) _
          refine XS.iconst X0.here hx rfl (hb hby d1_26) ?_
          exact kt
        exact own_retZ X0 hx hret (by simp) hlk (hb hby d1_27) (Nat.le_refl _) (Nat.le_refl _) ⟨congrArg (fun z => some (Value.int z)) hr.symm, N0, e0⟩
      · rw [if_neg hc23_6] at hr
        refine own_step (T' := T0) (f' := (mkF m 28 #[.val (.ref a0'), .val (.int p1), .val (.ref a0'), .val (.int (4 : Int32)), .val (.int (2 : Int32)), .val (.int x0_2)] [])) (fun t kt => ?_) ?_
        · show Steps p.tables e below (T0.setTop (mkF m 23 #[.val (.ref a0'), .val (.int p1), .val (.ref a0'), .val (.int (4 : Int32)), .val (.int (2 : Int32)), .val (.int x0_2)] [(.int p1), (.int x0_2)])) _
          refine XS.icmpYes X0.here hx rfl (pc0 := 23) (pc' := 28) rfl (hb hby d1_23) rfl (feq hc23_6).2 (by decide) (by decide) kt
        refine own_step (T' := T0) (f' := (mkF m 11 #[.val (.ref a0'), .val (.int p1), .val (.ref a0'), .val (.int (4 : Int32)), .val (.int (3 : Int32)), .val (.int x0_2)] [(.int (4 : Int32)), (.int (3 : Int32))])) (fun t kt => ?_) ?_
        · show Steps p.tables e below (T0.setTop (mkF m 28 #[.val (.ref a0'), .val (.int p1), .val (.ref a0'), .val (.int (4 : Int32)), .val (.int (2 : Int32)), .val (.int x0_2)] [])) _
          refine XS.iinc X0.here hx rfl (hb hby d1_28) rfl (l' := #[.val (.ref a0'), .val (.int p1), .val (.ref a0'), .val (.int (4 : Int32)), .val (.int (3 : Int32)), .val (.int x0_2)]) rfl ?_
          show Steps p.tables e below (T0.setTop (mkF m 31 #[.val (.ref a0'), .val (.int p1), .val (.ref a0'), .val (.int (4 : Int32)), .val (.int (3 : Int32)), .val (.int x0_2)] [])) _
          refine XS.goto X0.here hx rfl (pc0 := 31) (pc' := 8) rfl (hb hby d1_31) (by decide) (by decide) ?_
          show Steps p.tables e below (T0.setTop (mkF m 8 #[.val (.ref a0'), .val (.int p1), .val (.ref a0'), .val (.int (4 : Int32)), .val (.int (3 : Int32)), .val (.int x0_2)] [])) _
          refine XS.iload X0.here hx rfl (hb hby d1_8) rfl ?_
          show Steps p.tables e below (T0.setTop (mkF m 10 #[.val (.ref a0'), .val (.int p1), .val (.ref a0'), .val (.int (4 : Int32)), .val (.int (3 : Int32)), .val (.int x0_2)] [(.int (3 : Int32))])) _
          refine XS.iloadN X0.here hx rfl (hb hby d1_10) rfl ?_
          exact kt
        refine own_step (T' := T0) (f' := (mkF m 14 #[.val (.ref a0'), .val (.int p1), .val (.ref a0'), .val (.int (4 : Int32)), .val (.int (3 : Int32)), .val (.int x0_2)] [])) (fun t kt => ?_) ?_
        · show Steps p.tables e below (T0.setTop (mkF m 11 #[.val (.ref a0'), .val (.int p1), .val (.ref a0'), .val (.int (4 : Int32)), .val (.int (3 : Int32)), .val (.int x0_2)] [(.int (4 : Int32)), (.int (3 : Int32))])) _
          refine XS.icmpNo X0.here hx rfl (hb hby d1_11) rfl (tlt (by decide : ((3 : Int32) < (4 : Int32)))).2.1 kt
        refine own_step (T' := T0) (f' := (mkF m 23 #[.val (.ref a0'), .val (.int p1), .val (.ref a0'), .val (.int (4 : Int32)), .val (.int (3 : Int32)), .val (.int x0_3)] [(.int p1), (.int x0_3)])) (fun t kt => ?_) ?_
        · show Steps p.tables e below (T0.setTop (mkF m 14 #[.val (.ref a0'), .val (.int p1), .val (.ref a0'), .val (.int (4 : Int32)), .val (.int (3 : Int32)), .val (.int x0_2)] [])) _
          refine XS.aloadN X0.here hx rfl (hb hby d1_14) rfl rfl ?_
          show Steps p.tables e below (T0.setTop (mkF m 15 #[.val (.ref a0'), .val (.int p1), .val (.ref a0'), .val (.int (4 : Int32)), .val (.int (3 : Int32)), .val (.int x0_2)] [(.ref a0')])) _
          refine XS.iload X0.here hx rfl (hb hby d1_15) rfl ?_
          show Steps p.tables e below (T0.setTop (mkF m 17 #[.val (.ref a0'), .val (.int p1), .val (.ref a0'), .val (.int (4 : Int32)), .val (.int (3 : Int32)), .val (.int x0_2)] [(.int (3 : Int32)), (.ref a0')])) _
          refine own_ldI X0 hx hZ e0 A0 (j := (3 : Int32)) (by decide) (k := 3) (by decide) (v := (.int x0_3)) rfl (g := (mkF m 17 #[.val (.ref a0'), .val (.int p1), .val (.ref a0'), .val (.int (4 : Int32)), .val (.int (3 : Int32)), .val (.int x0_2)] [(.int (3 : Int32)), (.ref a0')])) rfl rfl (hb hby d1_17) _ ?_
          show Steps p.tables e below (T0.setTop (mkF m 18 #[.val (.ref a0'), .val (.int p1), .val (.ref a0'), .val (.int (4 : Int32)), .val (.int (3 : Int32)), .val (.int x0_2)] [(.int x0_3)])) _
          refine XS.istore X0.here hx rfl (hb hby d1_18) rfl (l' := #[.val (.ref a0'), .val (.int p1), .val (.ref a0'), .val (.int (4 : Int32)), .val (.int (3 : Int32)), .val (.int x0_3)]) rfl ?_
          show Steps p.tables e below (T0.setTop (mkF m 20 #[.val (.ref a0'), .val (.int p1), .val (.ref a0'), .val (.int (4 : Int32)), .val (.int (3 : Int32)), .val (.int x0_3)] [])) _
          refine XS.iload X0.here hx rfl (hb hby d1_20) rfl ?_
          show Steps p.tables e below (T0.setTop (mkF m 22 #[.val (.ref a0'), .val (.int p1), .val (.ref a0'), .val (.int (4 : Int32)), .val (.int (3 : Int32)), .val (.int x0_3)] [(.int x0_3)])) _
          refine XS.iloadN X0.here hx rfl (hb hby d1_22) rfl ?_
          exact kt
        by_cases hc23_8 : x0_3 = p1
        · rw [if_pos hc23_8] at hr
          refine own_step (T' := T0) (f' := (mkF m 26 #[.val (.ref a0'), .val (.int p1), .val (.ref a0'), .val (.int (4 : Int32)), .val (.int (3 : Int32)), .val (.int x0_3)] [])) (fun t kt => ?_) ?_
          · show Steps p.tables e below (T0.setTop (mkF m 23 #[.val (.ref a0'), .val (.int p1), .val (.ref a0'), .val (.int (4 : Int32)), .val (.int (3 : Int32)), .val (.int x0_3)] [(.int p1), (.int x0_3)])) _
            refine XS.icmpNo X0.here hx rfl (hb hby d1_23) rfl (teq hc23_8).2 kt
          refine own_step (T' := T0) (f' := (mkF m 27 #[.val (.ref a0'), .val (.int p1), .val (.ref a0'), .val (.int (4 : Int32)), .val (.int (3 : Int32)), .val (.int x0_3)] [(.int (1 : Int32))])) (fun t kt => ?_) ?_
          · show Steps p.tables e below (T0.setTop (mkF m 26 #[.val (.ref a0'), .val (.int p1), .val (.ref a0'), .val (.int (4 : Int32)), .val (.int (3 : Int32)), .val (.int x0_3)] [])) _
            refine XS.iconst X0.here hx rfl (hb hby d1_26) ?_
            exact kt
          exact own_retZ X0 hx hret (by simp) hlk (hb hby d1_27) (Nat.le_refl _) (Nat.le_refl _) ⟨congrArg (fun z => some (Value.int z)) hr.symm, N0, e0⟩
        · rw [if_neg hc23_8] at hr
          refine own_step (T' := T0) (f' := (mkF m 28 #[.val (.ref a0'), .val (.int p1), .val (.ref a0'), .val (.int (4 : Int32)), .val (.int (3 : Int32)), .val (.int x0_3)] [])) (fun t kt => ?_) ?_
          · show Steps p.tables e below (T0.setTop (mkF m 23 #[.val (.ref a0'), .val (.int p1), .val (.ref a0'), .val (.int (4 : Int32)), .val (.int (3 : Int32)), .val (.int x0_3)] [(.int p1), (.int x0_3)])) _
            refine XS.icmpYes X0.here hx rfl (pc0 := 23) (pc' := 28) rfl (hb hby d1_23) rfl (feq hc23_8).2 (by decide) (by decide) kt
          refine own_step (T' := T0) (f' := (mkF m 11 #[.val (.ref a0'), .val (.int p1), .val (.ref a0'), .val (.int (4 : Int32)), .val (.int (4 : Int32)), .val (.int x0_3)] [(.int (4 : Int32)), (.int (4 : Int32))])) (fun t kt => ?_) ?_
          · show Steps p.tables e below (T0.setTop (mkF m 28 #[.val (.ref a0'), .val (.int p1), .val (.ref a0'), .val (.int (4 : Int32)), .val (.int (3 : Int32)), .val (.int x0_3)] [])) _
            refine XS.iinc X0.here hx rfl (hb hby d1_28) rfl (l' := #[.val (.ref a0'), .val (.int p1), .val (.ref a0'), .val (.int (4 : Int32)), .val (.int (4 : Int32)), .val (.int x0_3)]) rfl ?_
            show Steps p.tables e below (T0.setTop (mkF m 31 #[.val (.ref a0'), .val (.int p1), .val (.ref a0'), .val (.int (4 : Int32)), .val (.int (4 : Int32)), .val (.int x0_3)] [])) _
            refine XS.goto X0.here hx rfl (pc0 := 31) (pc' := 8) rfl (hb hby d1_31) (by decide) (by decide) ?_
            show Steps p.tables e below (T0.setTop (mkF m 8 #[.val (.ref a0'), .val (.int p1), .val (.ref a0'), .val (.int (4 : Int32)), .val (.int (4 : Int32)), .val (.int x0_3)] [])) _
            refine XS.iload X0.here hx rfl (hb hby d1_8) rfl ?_
            show Steps p.tables e below (T0.setTop (mkF m 10 #[.val (.ref a0'), .val (.int p1), .val (.ref a0'), .val (.int (4 : Int32)), .val (.int (4 : Int32)), .val (.int x0_3)] [(.int (4 : Int32))])) _
            refine XS.iloadN X0.here hx rfl (hb hby d1_10) rfl ?_
            exact kt
          refine own_step (T' := T0) (f' := (mkF m 34 #[.val (.ref a0'), .val (.int p1), .val (.ref a0'), .val (.int (4 : Int32)), .val (.int (4 : Int32)), .val (.int x0_3)] [])) (fun t kt => ?_) ?_
          · show Steps p.tables e below (T0.setTop (mkF m 11 #[.val (.ref a0'), .val (.int p1), .val (.ref a0'), .val (.int (4 : Int32)), .val (.int (4 : Int32)), .val (.int x0_3)] [(.int (4 : Int32)), (.int (4 : Int32))])) _
            refine XS.icmpYes X0.here hx rfl (pc0 := 11) (pc' := 34) rfl (hb hby d1_11) rfl (flt (by decide : ¬ ((4 : Int32) < (4 : Int32)))).2.1 (by decide) (by decide) kt
          refine own_step (T' := T0) (f' := (mkF m 35 #[.val (.ref a0'), .val (.int p1), .val (.ref a0'), .val (.int (4 : Int32)), .val (.int (4 : Int32)), .val (.int x0_3)] [(.int (0 : Int32))])) (fun t kt => ?_) ?_
          · show Steps p.tables e below (T0.setTop (mkF m 34 #[.val (.ref a0'), .val (.int p1), .val (.ref a0'), .val (.int (4 : Int32)), .val (.int (4 : Int32)), .val (.int x0_3)] [])) _
            refine XS.iconst X0.here hx rfl (hb hby d1_34) ?_
            exact kt
          exact own_retZ X0 hx hret (by simp) hlk (hb hby d1_35) (Nat.le_refl _) (Nat.le_refl _) ⟨congrArg (fun z => some (Value.int z)) hr.symm, N0, e0⟩
set_option maxRecDepth 65536 in
set_option maxHeartbeats 4000000 in
theorem rm1n4 (l : Launch) (Z : State) (a0 : Array Value) (hw : ∀ d ∈ tables_1, d.before a0 Z = true) (ws : List Jvm.Cond) (a0' : Addr) (p1 : Int32) (x0_0 : Int32) (x0_1 : Int32) (x0_2 : Int32) (x0_3 : Int32) (h0 : Heap) (n0 : Nat) (A0 : own_A Z h0 a0' .int [(.int x0_0), (.int x0_1), (.int x0_2), (.int x0_3)]) :
    MetFree l (⟨"com/example/conceal/conceal/SensitiveHolders", "contains", "([II)Z"⟩ : MethodName) (head1 (Jvm.Cond.code (⟨"com/example/conceal/conceal/SensitiveHolders", "contains", "([II)Z"⟩ : MethodName) prog_47_method_16_code 6 (some .boolean) :: ws) ({ frames := 0, cells := 0, slots := 0, locals := 0 } : Room)) (fun a U => a = #[(.ref a0'), (.int p1)] ∧ Z.Warmed39 U.vm ∧ U.heap = h0) (fun _ _ _ _ _ => True) (fun _ U o U' => ∃ v L, o = .returned v ∧ (own_P (.int (f1n4_0 p1 x0_0 x0_1 x0_2 x0_3)) h0 n0) v U'.heap L ∧ FrameEnd U o U' L ({ frames := 0, cells := 0, slots := 0, locals := 0 } : Room).cells ({ frames := 0, cells := 0, slots := 0, locals := 0 } : Room).slots) := by
  refine MetFree.of_bodySF (plainFor_of_name pn1) hisR ?_
  intro p e s m args below meth c s₁ Bd hml0 hP hK
  obtain ⟨rfl, hZ, hh⟩ := hP
  have hown : s.vm.findClass "com/example/conceal/conceal/SensitiveHolders" = some m.cls := findClass_of_methodNamed Bd.named
  have X0 : Stand p l e ({ frames := 0, cells := 0, slots := 0, locals := 0 } : Room) s m #[(.ref a0'), (.int p1)] below meth c s₁ [] 0 0 := Stand.of_body Bd
  have e0 : s₁.heap = h0 := by rw [← hh, Bd.state]; rfl
  show own_Ends p e below s 0 0 (own_P (.int (f1n4_0 p1 x0_0 x0_1 x0_2 x0_3)) h0 n0) s₁ (entryFrame m #[(.ref a0'), (.int p1)] 6)
  refine own_step (fun t k => castTop (ef1 m a0' p1) k) ?_
  exact b1n4_0 a0' p1 x0_0 x0_1 x0_2 x0_3 X0 Bd.exec hZ hw Bd.bytes hml0 hown Bd.returns (BodyLoose.notSynchronized Bd) e0 (Fr.nil n0) A0 rfl
theorem own_sp (y : Int32) : ((y &&& (7 : Int32)) - (y &&& (7 : Int32)) / (5 : Int32) * (5 : Int32)) = (0 : Int32) ∨ ((y &&& (7 : Int32)) - (y &&& (7 : Int32)) / (5 : Int32) * (5 : Int32)) = (1 : Int32) ∨ ((y &&& (7 : Int32)) - (y &&& (7 : Int32)) / (5 : Int32) * (5 : Int32)) = (2 : Int32) ∨ ((y &&& (7 : Int32)) - (y &&& (7 : Int32)) / (5 : Int32) * (5 : Int32)) = (3 : Int32) ∨ ((y &&& (7 : Int32)) - (y &&& (7 : Int32)) / (5 : Int32) * (5 : Int32)) = (4 : Int32) := by
  have h := c_mask y 7 3 (by decide) (by decide)
  have hv : y &&& (7 : Int32) = Int32.ofNat (y.toInt % 8).toNat := by
    apply Int32.toInt_inj.mp
    rw [h, Int32.toInt_ofNat_of_lt (by omega)]; omega
  have key : ∀ k : Fin 8, ∀ z : Int32, z = Int32.ofNat k.val → z - z / 5 * 5 = 0 ∨ z - z / 5 * 5 = 1 ∨ z - z / 5 * 5 = 2 ∨ z - z / 5 * 5 = 3 ∨ z - z / 5 * 5 = 4 := by
    intro k z hz; subst hz; revert k; decide +kernel
  exact key ⟨(y.toInt % 8).toNat, by omega⟩ _ hv

theorem pn0 : plainName "com/example/conceal/conceal/SensitiveHoldersContainsPinLaw" = true := by first | (simp [plainName, overriddenIn]; done) | decide +kernel
theorem ef0 (m : MethodId) (p0 : Int32) (p1 : Int32) (p2 : Int32) (p3 : Int32) (p4 : Int32) (p5 : Int32) : entryFrame m #[(.int p0), (.int p1), (.int p2), (.int p3), (.int p4), (.int p5)] maxLocals = mkF m 0 #[.val (.int p0), .val (.int p1), .val (.int p2), .val (.int p3), .val (.int p4), .val (.int p5), .unset, .unset, .unset, .unset, .unset, .unset, .unset] [] := by first | (simp [entryFrame, mkF, argsToLocals, Value.category, maxLocals]; done) | rfl
def f0_69 (i0 : Int32) (i1 : Int32) (i2 : Int32) (i3 : Int32) (i6 : Int32) (i8 : Int32) : Int32 :=
  if i6 = (0 : Int32) then (if (f1n0_0 i8) = (0 : Int32) then ((1 : Int32)) else ((0 : Int32))) else if i6 = (1 : Int32) then (if i0 = i8 then (if (f1n1_0 i8 i0) = (1 : Int32) then ((1 : Int32)) else ((0 : Int32))) else (if (f1n1_0 i8 i0) = (0 : Int32) then ((1 : Int32)) else ((0 : Int32)))) else if i6 = (2 : Int32) then (if i0 = i8 then (if (f1n2_0 i8 i0 i1) = (1 : Int32) then ((1 : Int32)) else ((0 : Int32))) else (if i1 = i8 then (if (f1n2_0 i8 i0 i1) = (1 : Int32) then ((1 : Int32)) else ((0 : Int32))) else (if (f1n2_0 i8 i0 i1) = (0 : Int32) then ((1 : Int32)) else ((0 : Int32))))) else if i6 = (3 : Int32) then (if i0 = i8 then (if (f1n3_0 i8 i0 i1 i2) = (1 : Int32) then ((1 : Int32)) else ((0 : Int32))) else (if i1 = i8 then (if (f1n3_0 i8 i0 i1 i2) = (1 : Int32) then ((1 : Int32)) else ((0 : Int32))) else (if i2 = i8 then (if (f1n3_0 i8 i0 i1 i2) = (1 : Int32) then ((1 : Int32)) else ((0 : Int32))) else (if (f1n3_0 i8 i0 i1 i2) = (0 : Int32) then ((1 : Int32)) else ((0 : Int32)))))) else if i6 = (4 : Int32) then (if i0 = i8 then (if (f1n4_0 i8 i0 i1 i2 i3) = (1 : Int32) then ((1 : Int32)) else ((0 : Int32))) else (if i1 = i8 then (if (f1n4_0 i8 i0 i1 i2 i3) = (1 : Int32) then ((1 : Int32)) else ((0 : Int32))) else (if i2 = i8 then (if (f1n4_0 i8 i0 i1 i2 i3) = (1 : Int32) then ((1 : Int32)) else ((0 : Int32))) else (if i3 = i8 then (if (f1n4_0 i8 i0 i1 i2 i3) = (1 : Int32) then ((1 : Int32)) else ((0 : Int32))) else (if (f1n4_0 i8 i0 i1 i2 i3) = (0 : Int32) then ((1 : Int32)) else ((0 : Int32))))))) else 0
set_option maxRecDepth 65536 in
set_option maxHeartbeats 4000000 in
theorem b0_69 {p : Program} {l : Launch} {e : Env} {s : State} {m : MethodId} {args : Array Value} {below : List Frame} {meth : Method} {c : Code} {T0 : State} {locs : List Loc} {Z : State} {a0 : Array Value} {h0 : Heap} {n0 : Nat} (i0 : Int32) (i1 : Int32) (i2 : Int32) (i3 : Int32) (i4 : Int32) (i5 : Int32) (i6 : Int32) (i7 : Int32) (i8 : Int32) {r : Int32} (X0 : Stand p l e room_1 s m args below meth c T0 locs 0 0) (hx : p.tables.exec = Jvm.exec) (hZ : Z.Warmed39 s.vm) (hw : ∀ d ∈ tables_1, d.before a0 Z = true) (hby : c.code = code) (hml : c.maxLocals = 13) (hown : s.vm.findClass "com/example/conceal/conceal/SensitiveHoldersContainsPinLaw" = some m.cls) (hret : meth.sig.returnType = some .boolean) (hlk : meth.locks = false) (e0 : T0.heap = h0) (N0 : Fr n0 locs) (Z0 : n0 ≤ h0.size) (hsp : i6 = (0 : Int32) ∨ i6 = (1 : Int32) ∨ i6 = (2 : Int32) ∨ i6 = (3 : Int32) ∨ i6 = (4 : Int32)) (hr : r = f0_69 i0 i1 i2 i3 i6 i8) :
    own_Ends p e below s 16 128 (own_R (.int r) n0) T0 (mkF m 69 #[.val (.int i0), .val (.int i1), .val (.int i2), .val (.int i3), .val (.int i4), .val (.int i5), .val (.int i6), .val (.int i7), .val (.int i8), .unset, .unset, .unset, .unset] []) := by
  unfold f0_69 at hr
  rcases hsp with rfl | rfl | rfl | rfl | rfl
  · rw [if_pos rfl] at hr
    refine own_step (T' := T0) (f' := (mkF m 71 #[.val (.int i0), .val (.int i1), .val (.int i2), .val (.int i3), .val (.int i4), .val (.int i5), .val (.int (0 : Int32)), .val (.int i7), .val (.int i8), .unset, .unset, .unset, .unset] [(.int (0 : Int32))])) (fun t kt => ?_) ?_
    · show Steps p.tables e below (T0.setTop (mkF m 69 #[.val (.int i0), .val (.int i1), .val (.int i2), .val (.int i3), .val (.int i4), .val (.int i5), .val (.int (0 : Int32)), .val (.int i7), .val (.int i8), .unset, .unset, .unset, .unset] [])) _
      refine XS.iload X0.here hx rfl (hb hby at_69) rfl ?_
      exact kt
    obtain ⟨T2, h2, b2, X2, e2, Ex2, gb2, g2, Z2, Aq2, st2⟩ := own_new X0 hx hZ (aty := .int) (hw _ (List.mem_of_getElem? (i := 0) rfl)) e0 (g := (mkF m 71 #[.val (.int i0), .val (.int i1), .val (.int i2), .val (.int i3), .val (.int i4), .val (.int i5), .val (.int (0 : Int32)), .val (.int i7), .val (.int i8), .unset, .unset, .unset, .unset] [(.int (0 : Int32))])) rfl (hb hby at_71) rfl (by decide) (k := 0) (by decide) (by decide) (by decide) (by decide) Z0
    have Ab2_2 : own_A Z h2 b2 .int [] := Aq2
    refine own_step (T' := T2) (f' := (mkF m 73 #[.val (.int i0), .val (.int i1), .val (.int i2), .val (.int i3), .val (.int i4), .val (.int i5), .val (.int (0 : Int32)), .val (.int i7), .val (.int i8), .unset, .unset, .unset, .unset] [(.ref b2)])) st2 ?_
    refine own_step (T' := T2) (f' := (mkF m 77 #[.val (.int i0), .val (.int i1), .val (.int i2), .val (.int i3), .val (.int i4), .val (.int i5), .val (.int (0 : Int32)), .val (.int i7), .val (.int i8), .val (.ref b2), .unset, .unset, .unset] [(.int (0 : Int32))])) (fun t kt => ?_) ?_
    · show Steps p.tables e below (T2.setTop (mkF m 73 #[.val (.int i0), .val (.int i1), .val (.int i2), .val (.int i3), .val (.int i4), .val (.int i5), .val (.int (0 : Int32)), .val (.int i7), .val (.int i8), .unset, .unset, .unset, .unset] [(.ref b2)])) _
      refine XS.astore X2.here hx rfl (hb hby at_73) rfl rfl (l' := #[.val (.int i0), .val (.int i1), .val (.int i2), .val (.int i3), .val (.int i4), .val (.int i5), .val (.int (0 : Int32)), .val (.int i7), .val (.int i8), .val (.ref b2), .unset, .unset, .unset]) rfl ?_
      show Steps p.tables e below (T2.setTop (mkF m 75 #[.val (.int i0), .val (.int i1), .val (.int i2), .val (.int i3), .val (.int i4), .val (.int i5), .val (.int (0 : Int32)), .val (.int i7), .val (.int i8), .val (.ref b2), .unset, .unset, .unset] [])) _
      refine XS.iload X2.here hx rfl (hb hby at_75) rfl ?_
      exact kt
    refine own_step (T' := T2) (f' := (mkF m 85 #[.val (.int i0), .val (.int i1), .val (.int i2), .val (.int i3), .val (.int i4), .val (.int i5), .val (.int (0 : Int32)), .val (.int i7), .val (.int i8), .val (.ref b2), .unset, .unset, .unset] [])) (fun t kt => ?_) ?_
    · show Steps p.tables e below (T2.setTop (mkF m 77 #[.val (.int i0), .val (.int i1), .val (.int i2), .val (.int i3), .val (.int i4), .val (.int i5), .val (.int (0 : Int32)), .val (.int i7), .val (.int i8), .val (.ref b2), .unset, .unset, .unset] [(.int (0 : Int32))])) _
      refine XS.ifYes X2.here hx rfl (pc0 := 77) (pc' := 85) rfl (hb hby at_77) rfl ((if0 _ _).trans (flt (by decide : ¬ ((0 : Int32) < (0 : Int32)))).2.2.2) (by decide) (by decide) kt
    refine own_step (T' := T2) (f' := (mkF m 88 #[.val (.int i0), .val (.int i1), .val (.int i2), .val (.int i3), .val (.int i4), .val (.int i5), .val (.int (0 : Int32)), .val (.int i7), .val (.int i8), .val (.ref b2), .unset, .unset, .unset] [(.int (1 : Int32)), (.int (0 : Int32))])) (fun t kt => ?_) ?_
    · show Steps p.tables e below (T2.setTop (mkF m 85 #[.val (.int i0), .val (.int i1), .val (.int i2), .val (.int i3), .val (.int i4), .val (.int i5), .val (.int (0 : Int32)), .val (.int i7), .val (.int i8), .val (.ref b2), .unset, .unset, .unset] [])) _
      refine XS.iload X2.here hx rfl (hb hby at_85) rfl ?_
      show Steps p.tables e below (T2.setTop (mkF m 87 #[.val (.int i0), .val (.int i1), .val (.int i2), .val (.int i3), .val (.int i4), .val (.int i5), .val (.int (0 : Int32)), .val (.int i7), .val (.int i8), .val (.ref b2), .unset, .unset, .unset] [(.int (0 : Int32))])) _
      refine XS.iconst X2.here hx rfl (hb hby at_87) ?_
      exact kt
    refine own_step (T' := T2) (f' := (mkF m 96 #[.val (.int i0), .val (.int i1), .val (.int i2), .val (.int i3), .val (.int i4), .val (.int i5), .val (.int (0 : Int32)), .val (.int i7), .val (.int i8), .val (.ref b2), .unset, .unset, .unset] [])) (fun t kt => ?_) ?_
    · show Steps p.tables e below (T2.setTop (mkF m 88 #[.val (.int i0), .val (.int i1), .val (.int i2), .val (.int i3), .val (.int i4), .val (.int i5), .val (.int (0 : Int32)), .val (.int i7), .val (.int i8), .val (.ref b2), .unset, .unset, .unset] [(.int (1 : Int32)), (.int (0 : Int32))])) _
      refine XS.icmpYes X2.here hx rfl (pc0 := 88) (pc' := 96) rfl (hb hby at_88) rfl (flt (by decide : ¬ ((1 : Int32) < (0 : Int32)))).2.2.2 (by decide) (by decide) kt
    refine own_step (T' := T2) (f' := (mkF m 99 #[.val (.int i0), .val (.int i1), .val (.int i2), .val (.int i3), .val (.int i4), .val (.int i5), .val (.int (0 : Int32)), .val (.int i7), .val (.int i8), .val (.ref b2), .unset, .unset, .unset] [(.int (2 : Int32)), (.int (0 : Int32))])) (fun t kt => ?_) ?_
    · show Steps p.tables e below (T2.setTop (mkF m 96 #[.val (.int i0), .val (.int i1), .val (.int i2), .val (.int i3), .val (.int i4), .val (.int i5), .val (.int (0 : Int32)), .val (.int i7), .val (.int i8), .val (.ref b2), .unset, .unset, .unset] [])) _
      refine XS.iload X2.here hx rfl (hb hby at_96) rfl ?_
      show Steps p.tables e below (T2.setTop (mkF m 98 #[.val (.int i0), .val (.int i1), .val (.int i2), .val (.int i3), .val (.int i4), .val (.int i5), .val (.int (0 : Int32)), .val (.int i7), .val (.int i8), .val (.ref b2), .unset, .unset, .unset] [(.int (0 : Int32))])) _
      refine XS.iconst X2.here hx rfl (hb hby at_98) ?_
      exact kt
    refine own_step (T' := T2) (f' := (mkF m 107 #[.val (.int i0), .val (.int i1), .val (.int i2), .val (.int i3), .val (.int i4), .val (.int i5), .val (.int (0 : Int32)), .val (.int i7), .val (.int i8), .val (.ref b2), .unset, .unset, .unset] [])) (fun t kt => ?_) ?_
    · show Steps p.tables e below (T2.setTop (mkF m 99 #[.val (.int i0), .val (.int i1), .val (.int i2), .val (.int i3), .val (.int i4), .val (.int i5), .val (.int (0 : Int32)), .val (.int i7), .val (.int i8), .val (.ref b2), .unset, .unset, .unset] [(.int (2 : Int32)), (.int (0 : Int32))])) _
      refine XS.icmpYes X2.here hx rfl (pc0 := 99) (pc' := 107) rfl (hb hby at_99) rfl (flt (by decide : ¬ ((2 : Int32) < (0 : Int32)))).2.2.2 (by decide) (by decide) kt
    refine own_step (T' := T2) (f' := (mkF m 110 #[.val (.int i0), .val (.int i1), .val (.int i2), .val (.int i3), .val (.int i4), .val (.int i5), .val (.int (0 : Int32)), .val (.int i7), .val (.int i8), .val (.ref b2), .unset, .unset, .unset] [(.int (3 : Int32)), (.int (0 : Int32))])) (fun t kt => ?_) ?_
    · show Steps p.tables e below (T2.setTop (mkF m 107 #[.val (.int i0), .val (.int i1), .val (.int i2), .val (.int i3), .val (.int i4), .val (.int i5), .val (.int (0 : Int32)), .val (.int i7), .val (.int i8), .val (.ref b2), .unset, .unset, .unset] [])) _
      refine XS.iload X2.here hx rfl (hb hby at_107) rfl ?_
      show Steps p.tables e below (T2.setTop (mkF m 109 #[.val (.int i0), .val (.int i1), .val (.int i2), .val (.int i3), .val (.int i4), .val (.int i5), .val (.int (0 : Int32)), .val (.int i7), .val (.int i8), .val (.ref b2), .unset, .unset, .unset] [(.int (0 : Int32))])) _
      refine XS.iconst X2.here hx rfl (hb hby at_109) ?_
      exact kt
    refine own_step (T' := T2) (f' := (mkF m 118 #[.val (.int i0), .val (.int i1), .val (.int i2), .val (.int i3), .val (.int i4), .val (.int i5), .val (.int (0 : Int32)), .val (.int i7), .val (.int i8), .val (.ref b2), .unset, .unset, .unset] [])) (fun t kt => ?_) ?_
    · show Steps p.tables e below (T2.setTop (mkF m 110 #[.val (.int i0), .val (.int i1), .val (.int i2), .val (.int i3), .val (.int i4), .val (.int i5), .val (.int (0 : Int32)), .val (.int i7), .val (.int i8), .val (.ref b2), .unset, .unset, .unset] [(.int (3 : Int32)), (.int (0 : Int32))])) _
      refine XS.icmpYes X2.here hx rfl (pc0 := 110) (pc' := 118) rfl (hb hby at_110) rfl (flt (by decide : ¬ ((3 : Int32) < (0 : Int32)))).2.2.2 (by decide) (by decide) kt
    refine own_step (T' := T2) (f' := (mkF m 120 #[.val (.int i0), .val (.int i1), .val (.int i2), .val (.int i3), .val (.int i4), .val (.int i5), .val (.int (0 : Int32)), .val (.int i7), .val (.int i8), .val (.ref b2), .unset, .unset, .unset] [(.int (0 : Int32))])) (fun t kt => ?_) ?_
    · show Steps p.tables e below (T2.setTop (mkF m 118 #[.val (.int i0), .val (.int i1), .val (.int i2), .val (.int i3), .val (.int i4), .val (.int i5), .val (.int (0 : Int32)), .val (.int i7), .val (.int i8), .val (.ref b2), .unset, .unset, .unset] [])) _
      refine XS.iload X2.here hx rfl (hb hby at_118) rfl ?_
      exact kt
    refine own_step (T' := T2) (f' := (mkF m 129 #[.val (.int i0), .val (.int i1), .val (.int i2), .val (.int i3), .val (.int i4), .val (.int i5), .val (.int (0 : Int32)), .val (.int i7), .val (.int i8), .val (.ref b2), .unset, .unset, .unset] [])) (fun t kt => ?_) ?_
    · show Steps p.tables e below (T2.setTop (mkF m 120 #[.val (.int i0), .val (.int i1), .val (.int i2), .val (.int i3), .val (.int i4), .val (.int i5), .val (.int (0 : Int32)), .val (.int i7), .val (.int i8), .val (.ref b2), .unset, .unset, .unset] [(.int (0 : Int32))])) _
      refine XS.ifYes X2.here hx rfl (pc0 := 120) (pc' := 129) rfl (hb hby at_120) rfl ((if0 _ _).trans (flt (by decide : ¬ ((0 : Int32) < (0 : Int32)))).2.2.2) (by decide) (by decide) kt
    refine own_step (T' := T2) (f' := (mkF m 132 #[.val (.int i0), .val (.int i1), .val (.int i2), .val (.int i3), .val (.int i4), .val (.int i5), .val (.int (0 : Int32)), .val (.int i7), .val (.int i8), .val (.ref b2), .unset, .unset, .unset] [(.int (1 : Int32)), (.int (0 : Int32))])) (fun t kt => ?_) ?_
    · show Steps p.tables e below (T2.setTop (mkF m 129 #[.val (.int i0), .val (.int i1), .val (.int i2), .val (.int i3), .val (.int i4), .val (.int i5), .val (.int (0 : Int32)), .val (.int i7), .val (.int i8), .val (.ref b2), .unset, .unset, .unset] [])) _
      refine XS.iload X2.here hx rfl (hb hby at_129) rfl ?_
      show Steps p.tables e below (T2.setTop (mkF m 131 #[.val (.int i0), .val (.int i1), .val (.int i2), .val (.int i3), .val (.int i4), .val (.int i5), .val (.int (0 : Int32)), .val (.int i7), .val (.int i8), .val (.ref b2), .unset, .unset, .unset] [(.int (0 : Int32))])) _
      refine XS.iconst X2.here hx rfl (hb hby at_131) ?_
      exact kt
    refine own_step (T' := T2) (f' := (mkF m 141 #[.val (.int i0), .val (.int i1), .val (.int i2), .val (.int i3), .val (.int i4), .val (.int i5), .val (.int (0 : Int32)), .val (.int i7), .val (.int i8), .val (.ref b2), .unset, .unset, .unset] [])) (fun t kt => ?_) ?_
    · show Steps p.tables e below (T2.setTop (mkF m 132 #[.val (.int i0), .val (.int i1), .val (.int i2), .val (.int i3), .val (.int i4), .val (.int i5), .val (.int (0 : Int32)), .val (.int i7), .val (.int i8), .val (.ref b2), .unset, .unset, .unset] [(.int (1 : Int32)), (.int (0 : Int32))])) _
      refine XS.icmpYes X2.here hx rfl (pc0 := 132) (pc' := 141) rfl (hb hby at_132) rfl (flt (by decide : ¬ ((1 : Int32) < (0 : Int32)))).2.2.2 (by decide) (by decide) kt
    refine own_step (T' := T2) (f' := (mkF m 144 #[.val (.int i0), .val (.int i1), .val (.int i2), .val (.int i3), .val (.int i4), .val (.int i5), .val (.int (0 : Int32)), .val (.int i7), .val (.int i8), .val (.ref b2), .unset, .unset, .unset] [(.int (2 : Int32)), (.int (0 : Int32))])) (fun t kt => ?_) ?_
    · show Steps p.tables e below (T2.setTop (mkF m 141 #[.val (.int i0), .val (.int i1), .val (.int i2), .val (.int i3), .val (.int i4), .val (.int i5), .val (.int (0 : Int32)), .val (.int i7), .val (.int i8), .val (.ref b2), .unset, .unset, .unset] [])) _
      refine XS.iload X2.here hx rfl (hb hby at_141) rfl ?_
      show Steps p.tables e below (T2.setTop (mkF m 143 #[.val (.int i0), .val (.int i1), .val (.int i2), .val (.int i3), .val (.int i4), .val (.int i5), .val (.int (0 : Int32)), .val (.int i7), .val (.int i8), .val (.ref b2), .unset, .unset, .unset] [(.int (0 : Int32))])) _
      refine XS.iconst X2.here hx rfl (hb hby at_143) ?_
      exact kt
    refine own_step (T' := T2) (f' := (mkF m 153 #[.val (.int i0), .val (.int i1), .val (.int i2), .val (.int i3), .val (.int i4), .val (.int i5), .val (.int (0 : Int32)), .val (.int i7), .val (.int i8), .val (.ref b2), .unset, .unset, .unset] [])) (fun t kt => ?_) ?_
    · show Steps p.tables e below (T2.setTop (mkF m 144 #[.val (.int i0), .val (.int i1), .val (.int i2), .val (.int i3), .val (.int i4), .val (.int i5), .val (.int (0 : Int32)), .val (.int i7), .val (.int i8), .val (.ref b2), .unset, .unset, .unset] [(.int (2 : Int32)), (.int (0 : Int32))])) _
      refine XS.icmpYes X2.here hx rfl (pc0 := 144) (pc' := 153) rfl (hb hby at_144) rfl (flt (by decide : ¬ ((2 : Int32) < (0 : Int32)))).2.2.2 (by decide) (by decide) kt
    refine own_step (T' := T2) (f' := (mkF m 156 #[.val (.int i0), .val (.int i1), .val (.int i2), .val (.int i3), .val (.int i4), .val (.int i5), .val (.int (0 : Int32)), .val (.int i7), .val (.int i8), .val (.ref b2), .unset, .unset, .unset] [(.int (3 : Int32)), (.int (0 : Int32))])) (fun t kt => ?_) ?_
    · show Steps p.tables e below (T2.setTop (mkF m 153 #[.val (.int i0), .val (.int i1), .val (.int i2), .val (.int i3), .val (.int i4), .val (.int i5), .val (.int (0 : Int32)), .val (.int i7), .val (.int i8), .val (.ref b2), .unset, .unset, .unset] [])) _
      refine XS.iload X2.here hx rfl (hb hby at_153) rfl ?_
      show Steps p.tables e below (T2.setTop (mkF m 155 #[.val (.int i0), .val (.int i1), .val (.int i2), .val (.int i3), .val (.int i4), .val (.int i5), .val (.int (0 : Int32)), .val (.int i7), .val (.int i8), .val (.ref b2), .unset, .unset, .unset] [(.int (0 : Int32))])) _
      refine XS.iconst X2.here hx rfl (hb hby at_155) ?_
      exact kt
    refine own_step (T' := T2) (f' := (mkF m 169 #[.val (.int i0), .val (.int i1), .val (.int i2), .val (.int i3), .val (.int i4), .val (.int i5), .val (.int (0 : Int32)), .val (.int i7), .val (.int i8), .val (.ref b2), .unset, .unset, .unset] [])) (fun t kt => ?_) ?_
    · show Steps p.tables e below (T2.setTop (mkF m 156 #[.val (.int i0), .val (.int i1), .val (.int i2), .val (.int i3), .val (.int i4), .val (.int i5), .val (.int (0 : Int32)), .val (.int i7), .val (.int i8), .val (.ref b2), .unset, .unset, .unset] [(.int (3 : Int32)), (.int (0 : Int32))])) _
      refine XS.icmpYes X2.here hx rfl (pc0 := 156) (pc' := 169) rfl (hb hby at_156) rfl (flt (by decide : ¬ ((3 : Int32) < (0 : Int32)))).2.2.2 (by decide) (by decide) kt
    refine own_step (T' := T2) (f' := (mkF m 176 #[.val (.int i0), .val (.int i1), .val (.int i2), .val (.int i3), .val (.int i4), .val (.int i5), .val (.int (0 : Int32)), .val (.int i7), .val (.int i8), .val (.ref b2), .val (.int (0 : Int32)), .unset, .unset] [(.int i8), (.ref b2)])) (fun t kt => ?_) ?_
    · show Steps p.tables e below (T2.setTop (mkF m 169 #[.val (.int i0), .val (.int i1), .val (.int i2), .val (.int i3), .val (.int i4), .val (.int i5), .val (.int (0 : Int32)), .val (.int i7), .val (.int i8), .val (.ref b2), .unset, .unset, .unset] [])) _
      refine XS.iconst X2.here hx rfl (hb hby at_169) ?_
      show Steps p.tables e below (T2.setTop (mkF m 170 #[.val (.int i0), .val (.int i1), .val (.int i2), .val (.int i3), .val (.int i4), .val (.int i5), .val (.int (0 : Int32)), .val (.int i7), .val (.int i8), .val (.ref b2), .unset, .unset, .unset] [(.int (0 : Int32))])) _
      refine XS.istore X2.here hx rfl (hb hby at_170) rfl (l' := #[.val (.int i0), .val (.int i1), .val (.int i2), .val (.int i3), .val (.int i4), .val (.int i5), .val (.int (0 : Int32)), .val (.int i7), .val (.int i8), .val (.ref b2), .val (.int (0 : Int32)), .unset, .unset]) rfl ?_
      show Steps p.tables e below (T2.setTop (mkF m 172 #[.val (.int i0), .val (.int i1), .val (.int i2), .val (.int i3), .val (.int i4), .val (.int i5), .val (.int (0 : Int32)), .val (.int i7), .val (.int i8), .val (.ref b2), .val (.int (0 : Int32)), .unset, .unset] [])) _
      refine XS.aload X2.here hx rfl (hb hby at_172) rfl rfl ?_
      show Steps p.tables e below (T2.setTop (mkF m 174 #[.val (.int i0), .val (.int i1), .val (.int i2), .val (.int i3), .val (.int i4), .val (.int i5), .val (.int (0 : Int32)), .val (.int i7), .val (.int i8), .val (.ref b2), .val (.int (0 : Int32)), .unset, .unset] [(.ref b2)])) _
      refine XS.iload X2.here hx rfl (hb hby at_174) rfl ?_
      exact kt
    obtain ⟨_, _, ⟨T11, L11, k11, n11⟩, -, X11, ⟨Lc11, hQ11, l11, y11, z11⟩, st11⟩ := Jvm.LawKit.callS X2 hx (y := (⟨"com/example/conceal/conceal/SensitiveHolders", "contains", "([II)Z"⟩ : MethodName)) hown (mvT hZ (hw _ (List.mem_of_getElem? (i := 1) rfl))) (mvT hZ (hw _ (List.mem_of_getElem? (i := 2) rfl))) (mvT hZ (hw _ (List.mem_of_getElem? (i := 3) rfl))) (mvT hZ (hw _ (List.mem_of_getElem? (i := 4) rfl))) (by decide) (backOf (W := 0) (rm1n0 l Z a0 hw [] b2 i8  h2 n0 Ab2_2) hZ (hw _ (List.mem_of_getElem? (i := 4) rfl)) (hw _ (List.mem_of_getElem? (i := 3) rfl)) (by decide) (by decide)) (g := (mkF m 176 #[.val (.int i0), .val (.int i1), .val (.int i2), .val (.int i3), .val (.int i4), .val (.int i5), .val (.int (0 : Int32)), .val (.int i7), .val (.int i8), .val (.ref b2), .val (.int (0 : Int32)), .unset, .unset] [(.int i8), (.ref b2)])) rfl (by rw [hml]; rfl) (argsL := [(.ref b2), (.int i8)]) (rest := []) (lenOf pd1 rfl) rfl (by show 2 * 0 + _ ≤ _; exact Nat.le_of_eq rfl) (hb hby at_176) (fun _ _ => ⟨rfl, e2, (by decide : 1 + 0 ≤ _), (by decide : 0 + 0 ≤ _)⟩)
    dsimp only [Pt.U, Pt.locs, Pt.cells, Pt.slots] at X11 l11 y11 z11 st11 hQ11
    subst l11 y11 z11
    obtain ⟨rfl, Nq11, e11⟩ := hQ11
    have N11 := Fr.app N0 Nq11
    refine own_step (T' := T11) (f' := (mkF m 179 #[.val (.int i0), .val (.int i1), .val (.int i2), .val (.int i3), .val (.int i4), .val (.int i5), .val (.int (0 : Int32)), .val (.int i7), .val (.int i8), .val (.ref b2), .val (.int (0 : Int32)), .unset, .unset] [(.int (f1n0_0 i8))])) st11 ?_
    refine own_step (T' := T11) (f' := (mkF m 183 #[.val (.int i0), .val (.int i1), .val (.int i2), .val (.int i3), .val (.int i4), .val (.int i5), .val (.int (0 : Int32)), .val (.int i7), .val (.int i8), .val (.ref b2), .val (.int (0 : Int32)), .val (.int (f1n0_0 i8)), .unset] [(.int (0 : Int32))])) (fun t kt => ?_) ?_
    · show Steps p.tables e below (T11.setTop (mkF m 179 #[.val (.int i0), .val (.int i1), .val (.int i2), .val (.int i3), .val (.int i4), .val (.int i5), .val (.int (0 : Int32)), .val (.int i7), .val (.int i8), .val (.ref b2), .val (.int (0 : Int32)), .unset, .unset] [(.int (f1n0_0 i8))])) _
      refine XS.istore X11.here hx rfl (hb hby at_179) rfl (l' := #[.val (.int i0), .val (.int i1), .val (.int i2), .val (.int i3), .val (.int i4), .val (.int i5), .val (.int (0 : Int32)), .val (.int i7), .val (.int i8), .val (.ref b2), .val (.int (0 : Int32)), .val (.int (f1n0_0 i8)), .unset]) rfl ?_
      show Steps p.tables e below (T11.setTop (mkF m 181 #[.val (.int i0), .val (.int i1), .val (.int i2), .val (.int i3), .val (.int i4), .val (.int i5), .val (.int (0 : Int32)), .val (.int i7), .val (.int i8), .val (.ref b2), .val (.int (0 : Int32)), .val (.int (f1n0_0 i8)), .unset] [])) _
      refine XS.iload X11.here hx rfl (hb hby at_181) rfl ?_
      exact kt
    refine own_step (T' := T11) (f' := (mkF m 194 #[.val (.int i0), .val (.int i1), .val (.int i2), .val (.int i3), .val (.int i4), .val (.int i5), .val (.int (0 : Int32)), .val (.int i7), .val (.int i8), .val (.ref b2), .val (.int (0 : Int32)), .val (.int (f1n0_0 i8)), .unset] [])) (fun t kt => ?_) ?_
    · show Steps p.tables e below (T11.setTop (mkF m 183 #[.val (.int i0), .val (.int i1), .val (.int i2), .val (.int i3), .val (.int i4), .val (.int i5), .val (.int (0 : Int32)), .val (.int i7), .val (.int i8), .val (.ref b2), .val (.int (0 : Int32)), .val (.int (f1n0_0 i8)), .unset] [(.int (0 : Int32))])) _
      refine XS.ifYes X11.here hx rfl (pc0 := 183) (pc' := 194) rfl (hb hby at_183) rfl ((if0 _ _).trans (flt (by decide : ¬ ((0 : Int32) < (0 : Int32)))).2.2.2) (by decide) (by decide) kt
    refine own_step (T' := T11) (f' := (mkF m 197 #[.val (.int i0), .val (.int i1), .val (.int i2), .val (.int i3), .val (.int i4), .val (.int i5), .val (.int (0 : Int32)), .val (.int i7), .val (.int i8), .val (.ref b2), .val (.int (0 : Int32)), .val (.int (f1n0_0 i8)), .unset] [(.int (1 : Int32)), (.int (0 : Int32))])) (fun t kt => ?_) ?_
    · show Steps p.tables e below (T11.setTop (mkF m 194 #[.val (.int i0), .val (.int i1), .val (.int i2), .val (.int i3), .val (.int i4), .val (.int i5), .val (.int (0 : Int32)), .val (.int i7), .val (.int i8), .val (.ref b2), .val (.int (0 : Int32)), .val (.int (f1n0_0 i8)), .unset] [])) _
      refine XS.iload X11.here hx rfl (hb hby at_194) rfl ?_
      show Steps p.tables e below (T11.setTop (mkF m 196 #[.val (.int i0), .val (.int i1), .val (.int i2), .val (.int i3), .val (.int i4), .val (.int i5), .val (.int (0 : Int32)), .val (.int i7), .val (.int i8), .val (.ref b2), .val (.int (0 : Int32)), .val (.int (f1n0_0 i8)), .unset] [(.int (0 : Int32))])) _
      refine XS.iconst X11.here hx rfl (hb hby at_196) ?_
      exact kt
    refine own_step (T' := T11) (f' := (mkF m 208 #[.val (.int i0), .val (.int i1), .val (.int i2), .val (.int i3), .val (.int i4), .val (.int i5), .val (.int (0 : Int32)), .val (.int i7), .val (.int i8), .val (.ref b2), .val (.int (0 : Int32)), .val (.int (f1n0_0 i8)), .unset] [])) (fun t kt => ?_) ?_
    · show Steps p.tables e below (T11.setTop (mkF m 197 #[.val (.int i0), .val (.int i1), .val (.int i2), .val (.int i3), .val (.int i4), .val (.int i5), .val (.int (0 : Int32)), .val (.int i7), .val (.int i8), .val (.ref b2), .val (.int (0 : Int32)), .val (.int (f1n0_0 i8)), .unset] [(.int (1 : Int32)), (.int (0 : Int32))])) _
      refine XS.icmpYes X11.here hx rfl (pc0 := 197) (pc' := 208) rfl (hb hby at_197) rfl (flt (by decide : ¬ ((1 : Int32) < (0 : Int32)))).2.2.2 (by decide) (by decide) kt
    refine own_step (T' := T11) (f' := (mkF m 211 #[.val (.int i0), .val (.int i1), .val (.int i2), .val (.int i3), .val (.int i4), .val (.int i5), .val (.int (0 : Int32)), .val (.int i7), .val (.int i8), .val (.ref b2), .val (.int (0 : Int32)), .val (.int (f1n0_0 i8)), .unset] [(.int (2 : Int32)), (.int (0 : Int32))])) (fun t kt => ?_) ?_
    · show Steps p.tables e below (T11.setTop (mkF m 208 #[.val (.int i0), .val (.int i1), .val (.int i2), .val (.int i3), .val (.int i4), .val (.int i5), .val (.int (0 : Int32)), .val (.int i7), .val (.int i8), .val (.ref b2), .val (.int (0 : Int32)), .val (.int (f1n0_0 i8)), .unset] [])) _
      refine XS.iload X11.here hx rfl (hb hby at_208) rfl ?_
      show Steps p.tables e below (T11.setTop (mkF m 210 #[.val (.int i0), .val (.int i1), .val (.int i2), .val (.int i3), .val (.int i4), .val (.int i5), .val (.int (0 : Int32)), .val (.int i7), .val (.int i8), .val (.ref b2), .val (.int (0 : Int32)), .val (.int (f1n0_0 i8)), .unset] [(.int (0 : Int32))])) _
      refine XS.iconst X11.here hx rfl (hb hby at_210) ?_
      exact kt
    refine own_step (T' := T11) (f' := (mkF m 222 #[.val (.int i0), .val (.int i1), .val (.int i2), .val (.int i3), .val (.int i4), .val (.int i5), .val (.int (0 : Int32)), .val (.int i7), .val (.int i8), .val (.ref b2), .val (.int (0 : Int32)), .val (.int (f1n0_0 i8)), .unset] [])) (fun t kt => ?_) ?_
    · show Steps p.tables e below (T11.setTop (mkF m 211 #[.val (.int i0), .val (.int i1), .val (.int i2), .val (.int i3), .val (.int i4), .val (.int i5), .val (.int (0 : Int32)), .val (.int i7), .val (.int i8), .val (.ref b2), .val (.int (0 : Int32)), .val (.int (f1n0_0 i8)), .unset] [(.int (2 : Int32)), (.int (0 : Int32))])) _
      refine XS.icmpYes X11.here hx rfl (pc0 := 211) (pc' := 222) rfl (hb hby at_211) rfl (flt (by decide : ¬ ((2 : Int32) < (0 : Int32)))).2.2.2 (by decide) (by decide) kt
    refine own_step (T' := T11) (f' := (mkF m 225 #[.val (.int i0), .val (.int i1), .val (.int i2), .val (.int i3), .val (.int i4), .val (.int i5), .val (.int (0 : Int32)), .val (.int i7), .val (.int i8), .val (.ref b2), .val (.int (0 : Int32)), .val (.int (f1n0_0 i8)), .unset] [(.int (3 : Int32)), (.int (0 : Int32))])) (fun t kt => ?_) ?_
    · show Steps p.tables e below (T11.setTop (mkF m 222 #[.val (.int i0), .val (.int i1), .val (.int i2), .val (.int i3), .val (.int i4), .val (.int i5), .val (.int (0 : Int32)), .val (.int i7), .val (.int i8), .val (.ref b2), .val (.int (0 : Int32)), .val (.int (f1n0_0 i8)), .unset] [])) _
      refine XS.iload X11.here hx rfl (hb hby at_222) rfl ?_
      show Steps p.tables e below (T11.setTop (mkF m 224 #[.val (.int i0), .val (.int i1), .val (.int i2), .val (.int i3), .val (.int i4), .val (.int i5), .val (.int (0 : Int32)), .val (.int i7), .val (.int i8), .val (.ref b2), .val (.int (0 : Int32)), .val (.int (f1n0_0 i8)), .unset] [(.int (0 : Int32))])) _
      refine XS.iconst X11.here hx rfl (hb hby at_224) ?_
      exact kt
    refine own_step (T' := T11) (f' := (mkF m 236 #[.val (.int i0), .val (.int i1), .val (.int i2), .val (.int i3), .val (.int i4), .val (.int i5), .val (.int (0 : Int32)), .val (.int i7), .val (.int i8), .val (.ref b2), .val (.int (0 : Int32)), .val (.int (f1n0_0 i8)), .unset] [])) (fun t kt => ?_) ?_
    · show Steps p.tables e below (T11.setTop (mkF m 225 #[.val (.int i0), .val (.int i1), .val (.int i2), .val (.int i3), .val (.int i4), .val (.int i5), .val (.int (0 : Int32)), .val (.int i7), .val (.int i8), .val (.ref b2), .val (.int (0 : Int32)), .val (.int (f1n0_0 i8)), .unset] [(.int (3 : Int32)), (.int (0 : Int32))])) _
      refine XS.icmpYes X11.here hx rfl (pc0 := 225) (pc' := 236) rfl (hb hby at_225) rfl (flt (by decide : ¬ ((3 : Int32) < (0 : Int32)))).2.2.2 (by decide) (by decide) kt
    refine own_step (T' := T11) (f' := (mkF m 247 #[.val (.int i0), .val (.int i1), .val (.int i2), .val (.int i3), .val (.int i4), .val (.int i5), .val (.int (0 : Int32)), .val (.int i7), .val (.int i8), .val (.ref b2), .val (.int (0 : Int32)), .val (.int (f1n0_0 i8)), .val (.int (1 : Int32))] [(.int (0 : Int32)), (.int (f1n0_0 i8))])) (fun t kt => ?_) ?_
    · show Steps p.tables e below (T11.setTop (mkF m 236 #[.val (.int i0), .val (.int i1), .val (.int i2), .val (.int i3), .val (.int i4), .val (.int i5), .val (.int (0 : Int32)), .val (.int i7), .val (.int i8), .val (.ref b2), .val (.int (0 : Int32)), .val (.int (f1n0_0 i8)), .unset] [])) _
      refine XS.iconst X11.here hx rfl (hb hby at_236) ?_
      show Steps p.tables e below (T11.setTop (mkF m 237 #[.val (.int i0), .val (.int i1), .val (.int i2), .val (.int i3), .val (.int i4), .val (.int i5), .val (.int (0 : Int32)), .val (.int i7), .val (.int i8), .val (.ref b2), .val (.int (0 : Int32)), .val (.int (f1n0_0 i8)), .unset] [(.int (1 : Int32))])) _
      refine XS.goto X11.here hx rfl (pc0 := 237) (pc' := 241) rfl (hb hby at_237) (by decide) (by decide) ?_
      show Steps p.tables e below (T11.setTop (mkF m 241 #[.val (.int i0), .val (.int i1), .val (.int i2), .val (.int i3), .val (.int i4), .val (.int i5), .val (.int (0 : Int32)), .val (.int i7), .val (.int i8), .val (.ref b2), .val (.int (0 : Int32)), .val (.int (f1n0_0 i8)), .unset] [(.int (1 : Int32))])) _
      refine XS.istore X11.here hx rfl (hb hby at_241) rfl (l' := #[.val (.int i0), .val (.int i1), .val (.int i2), .val (.int i3), .val (.int i4), .val (.int i5), .val (.int (0 : Int32)), .val (.int i7), .val (.int i8), .val (.ref b2), .val (.int (0 : Int32)), .val (.int (f1n0_0 i8)), .val (.int (1 : Int32))]) rfl ?_
      show Steps p.tables e below (T11.setTop (mkF m 243 #[.val (.int i0), .val (.int i1), .val (.int i2), .val (.int i3), .val (.int i4), .val (.int i5), .val (.int (0 : Int32)), .val (.int i7), .val (.int i8), .val (.ref b2), .val (.int (0 : Int32)), .val (.int (f1n0_0 i8)), .val (.int (1 : Int32))] [])) _
      refine XS.iload X11.here hx rfl (hb hby at_243) rfl ?_
      show Steps p.tables e below (T11.setTop (mkF m 245 #[.val (.int i0), .val (.int i1), .val (.int i2), .val (.int i3), .val (.int i4), .val (.int i5), .val (.int (0 : Int32)), .val (.int i7), .val (.int i8), .val (.ref b2), .val (.int (0 : Int32)), .val (.int (f1n0_0 i8)), .val (.int (1 : Int32))] [(.int (f1n0_0 i8))])) _
      refine XS.iload X11.here hx rfl (hb hby at_245) rfl ?_
      exact kt
    by_cases hc247_16 : (f1n0_0 i8) = (0 : Int32)
    · rw [if_pos hc247_16] at hr
      refine own_step (T' := T11) (f' := (mkF m 250 #[.val (.int i0), .val (.int i1), .val (.int i2), .val (.int i3), .val (.int i4), .val (.int i5), .val (.int (0 : Int32)), .val (.int i7), .val (.int i8), .val (.ref b2), .val (.int (0 : Int32)), .val (.int (f1n0_0 i8)), .val (.int (1 : Int32))] [])) (fun t kt => ?_) ?_
      · show Steps p.tables e below (T11.setTop (mkF m 247 #[.val (.int i0), .val (.int i1), .val (.int i2), .val (.int i3), .val (.int i4), .val (.int i5), .val (.int (0 : Int32)), .val (.int i7), .val (.int i8), .val (.ref b2), .val (.int (0 : Int32)), .val (.int (f1n0_0 i8)), .val (.int (1 : Int32))] [(.int (0 : Int32)), (.int (f1n0_0 i8))])) _
        refine XS.icmpNo X11.here hx rfl (hb hby at_247) rfl (teq hc247_16).2 kt
      refine own_step (T' := T11) (f' := (mkF m 252 #[.val (.int i0), .val (.int i1), .val (.int i2), .val (.int i3), .val (.int i4), .val (.int i5), .val (.int (0 : Int32)), .val (.int i7), .val (.int i8), .val (.ref b2), .val (.int (0 : Int32)), .val (.int (f1n0_0 i8)), .val (.int (1 : Int32))] [(.int (1 : Int32))])) (fun t kt => ?_) ?_
      · show Steps p.tables e below (T11.setTop (mkF m 250 #[.val (.int i0), .val (.int i1), .val (.int i2), .val (.int i3), .val (.int i4), .val (.int i5), .val (.int (0 : Int32)), .val (.int i7), .val (.int i8), .val (.ref b2), .val (.int (0 : Int32)), .val (.int (f1n0_0 i8)), .val (.int (1 : Int32))] [])) _
        refine XS.iload X11.here hx rfl (hb hby at_250) rfl ?_
        exact kt
      refine own_step (T' := T11) (f' := (mkF m 255 #[.val (.int i0), .val (.int i1), .val (.int i2), .val (.int i3), .val (.int i4), .val (.int i5), .val (.int (0 : Int32)), .val (.int i7), .val (.int i8), .val (.ref b2), .val (.int (0 : Int32)), .val (.int (f1n0_0 i8)), .val (.int (1 : Int32))] [])) (fun t kt => ?_) ?_
      · show Steps p.tables e below (T11.setTop (mkF m 252 #[.val (.int i0), .val (.int i1), .val (.int i2), .val (.int i3), .val (.int i4), .val (.int i5), .val (.int (0 : Int32)), .val (.int i7), .val (.int i8), .val (.ref b2), .val (.int (0 : Int32)), .val (.int (f1n0_0 i8)), .val (.int (1 : Int32))] [(.int (1 : Int32))])) _
        refine XS.ifNo X11.here hx rfl (hb hby at_252) rfl ((if0 _ _).trans (feq (by decide : ¬ ((1 : Int32) = (0 : Int32)))).1) kt
      refine own_step (T' := T11) (f' := (mkF m 260 #[.val (.int i0), .val (.int i1), .val (.int i2), .val (.int i3), .val (.int i4), .val (.int i5), .val (.int (0 : Int32)), .val (.int i7), .val (.int i8), .val (.ref b2), .val (.int (0 : Int32)), .val (.int (f1n0_0 i8)), .val (.int (1 : Int32))] [(.int (1 : Int32))])) (fun t kt => ?_) ?_
      · show Steps p.tables e below (T11.setTop (mkF m 255 #[.val (.int i0), .val (.int i1), .val (.int i2), .val (.int i3), .val (.int i4), .val (.int i5), .val (.int (0 : Int32)), .val (.int i7), .val (.int i8), .val (.ref b2), .val (.int (0 : Int32)), .val (.int (f1n0_0 i8)), .val (.int (1 : Int32))] [])) _
        refine XS.iconst X11.here hx rfl (hb hby at_255) ?_
        show Steps p.tables e below (T11.setTop (mkF m 256 #[.val (.int i0), .val (.int i1), .val (.int i2), .val (.int i3), .val (.int i4), .val (.int i5), .val (.int (0 : Int32)), .val (.int i7), .val (.int i8), .val (.ref b2), .val (.int (0 : Int32)), .val (.int (f1n0_0 i8)), .val (.int (1 : Int32))] [(.int (1 : Int32))])) _
        refine XS.goto X11.here hx rfl (pc0 := 256) (pc' := 260) rfl (hb hby at_256) (by decide) (by decide) ?_
        exact kt
      exact own_retZ X11 hx hret (by simp) hlk (hb hby at_260) (by decide) (by decide) ⟨congrArg (fun z => some (Value.int z)) hr.symm, N11⟩
    · rw [if_neg hc247_16] at hr
      refine own_step (T' := T11) (f' := (mkF m 259 #[.val (.int i0), .val (.int i1), .val (.int i2), .val (.int i3), .val (.int i4), .val (.int i5), .val (.int (0 : Int32)), .val (.int i7), .val (.int i8), .val (.ref b2), .val (.int (0 : Int32)), .val (.int (f1n0_0 i8)), .val (.int (1 : Int32))] [])) (fun t kt => ?_) ?_
      · show Steps p.tables e below (T11.setTop (mkF m 247 #[.val (.int i0), .val (.int i1), .val (.int i2), .val (.int i3), .val (.int i4), .val (.int i5), .val (.int (0 : Int32)), .val (.int i7), .val (.int i8), .val (.ref b2), .val (.int (0 : Int32)), .val (.int (f1n0_0 i8)), .val (.int (1 : Int32))] [(.int (0 : Int32)), (.int (f1n0_0 i8))])) _
        refine XS.icmpYes X11.here hx rfl (pc0 := 247) (pc' := 259) rfl (hb hby at_247) rfl (feq hc247_16).2 (by decide) (by decide) kt
      refine own_step (T' := T11) (f' := (mkF m 260 #[.val (.int i0), .val (.int i1), .val (.int i2), .val (.int i3), .val (.int i4), .val (.int i5), .val (.int (0 : Int32)), .val (.int i7), .val (.int i8), .val (.ref b2), .val (.int (0 : Int32)), .val (.int (f1n0_0 i8)), .val (.int (1 : Int32))] [(.int (0 : Int32))])) (fun t kt => ?_) ?_
      · show Steps p.tables e below (T11.setTop (mkF m 259 #[.val (.int i0), .val (.int i1), .val (.int i2), .val (.int i3), .val (.int i4), .val (.int i5), .val (.int (0 : Int32)), .val (.int i7), .val (.int i8), .val (.ref b2), .val (.int (0 : Int32)), .val (.int (f1n0_0 i8)), .val (.int (1 : Int32))] [])) _
        refine XS.iconst X11.here hx rfl (hb hby at_259) ?_
        exact kt
      exact own_retZ X11 hx hret (by simp) hlk (hb hby at_260) (by decide) (by decide) ⟨congrArg (fun z => some (Value.int z)) hr.symm, N11⟩
  · rw [if_neg (by decide), if_pos rfl] at hr
    refine own_step (T' := T0) (f' := (mkF m 71 #[.val (.int i0), .val (.int i1), .val (.int i2), .val (.int i3), .val (.int i4), .val (.int i5), .val (.int (1 : Int32)), .val (.int i7), .val (.int i8), .unset, .unset, .unset, .unset] [(.int (1 : Int32))])) (fun t kt => ?_) ?_
    · show Steps p.tables e below (T0.setTop (mkF m 69 #[.val (.int i0), .val (.int i1), .val (.int i2), .val (.int i3), .val (.int i4), .val (.int i5), .val (.int (1 : Int32)), .val (.int i7), .val (.int i8), .unset, .unset, .unset, .unset] [])) _
      refine XS.iload X0.here hx rfl (hb hby at_69) rfl ?_
      exact kt
    obtain ⟨T18, h18, b18, X18, e18, Ex18, gb18, g18, Z18, Aq18, st18⟩ := own_new X0 hx hZ (aty := .int) (hw _ (List.mem_of_getElem? (i := 0) rfl)) e0 (g := (mkF m 71 #[.val (.int i0), .val (.int i1), .val (.int i2), .val (.int i3), .val (.int i4), .val (.int i5), .val (.int (1 : Int32)), .val (.int i7), .val (.int i8), .unset, .unset, .unset, .unset] [(.int (1 : Int32))])) rfl (hb hby at_71) rfl (by decide) (k := 1) (by decide) (by decide) (by decide) (by decide) Z0
    have Ab18_18 : own_A Z h18 b18 .int [(.int (0 : Int32))] := Aq18
    refine own_step (T' := T18) (f' := (mkF m 73 #[.val (.int i0), .val (.int i1), .val (.int i2), .val (.int i3), .val (.int i4), .val (.int i5), .val (.int (1 : Int32)), .val (.int i7), .val (.int i8), .unset, .unset, .unset, .unset] [(.ref b18)])) st18 ?_
    refine own_step (T' := T18) (f' := (mkF m 77 #[.val (.int i0), .val (.int i1), .val (.int i2), .val (.int i3), .val (.int i4), .val (.int i5), .val (.int (1 : Int32)), .val (.int i7), .val (.int i8), .val (.ref b18), .unset, .unset, .unset] [(.int (1 : Int32))])) (fun t kt => ?_) ?_
    · show Steps p.tables e below (T18.setTop (mkF m 73 #[.val (.int i0), .val (.int i1), .val (.int i2), .val (.int i3), .val (.int i4), .val (.int i5), .val (.int (1 : Int32)), .val (.int i7), .val (.int i8), .unset, .unset, .unset, .unset] [(.ref b18)])) _
      refine XS.astore X18.here hx rfl (hb hby at_73) rfl rfl (l' := #[.val (.int i0), .val (.int i1), .val (.int i2), .val (.int i3), .val (.int i4), .val (.int i5), .val (.int (1 : Int32)), .val (.int i7), .val (.int i8), .val (.ref b18), .unset, .unset, .unset]) rfl ?_
      show Steps p.tables e below (T18.setTop (mkF m 75 #[.val (.int i0), .val (.int i1), .val (.int i2), .val (.int i3), .val (.int i4), .val (.int i5), .val (.int (1 : Int32)), .val (.int i7), .val (.int i8), .val (.ref b18), .unset, .unset, .unset] [])) _
      refine XS.iload X18.here hx rfl (hb hby at_75) rfl ?_
      exact kt
    refine own_step (T' := T18) (f' := (mkF m 80 #[.val (.int i0), .val (.int i1), .val (.int i2), .val (.int i3), .val (.int i4), .val (.int i5), .val (.int (1 : Int32)), .val (.int i7), .val (.int i8), .val (.ref b18), .unset, .unset, .unset] [])) (fun t kt => ?_) ?_
    · show Steps p.tables e below (T18.setTop (mkF m 77 #[.val (.int i0), .val (.int i1), .val (.int i2), .val (.int i3), .val (.int i4), .val (.int i5), .val (.int (1 : Int32)), .val (.int i7), .val (.int i8), .val (.ref b18), .unset, .unset, .unset] [(.int (1 : Int32))])) _
      refine XS.ifNo X18.here hx rfl (hb hby at_77) rfl ((if0 _ _).trans (tlt (by decide : ((0 : Int32) < (1 : Int32)))).2.2.2) kt
    refine own_step (T' := T18) (f' := (mkF m 84 #[.val (.int i0), .val (.int i1), .val (.int i2), .val (.int i3), .val (.int i4), .val (.int i5), .val (.int (1 : Int32)), .val (.int i7), .val (.int i8), .val (.ref b18), .unset, .unset, .unset] [(.int i0), (.int (0 : Int32)), (.ref b18)])) (fun t kt => ?_) ?_
    · show Steps p.tables e below (T18.setTop (mkF m 80 #[.val (.int i0), .val (.int i1), .val (.int i2), .val (.int i3), .val (.int i4), .val (.int i5), .val (.int (1 : Int32)), .val (.int i7), .val (.int i8), .val (.ref b18), .unset, .unset, .unset] [])) _
      refine XS.aload X18.here hx rfl (hb hby at_80) rfl rfl ?_
      show Steps p.tables e below (T18.setTop (mkF m 82 #[.val (.int i0), .val (.int i1), .val (.int i2), .val (.int i3), .val (.int i4), .val (.int i5), .val (.int (1 : Int32)), .val (.int i7), .val (.int i8), .val (.ref b18), .unset, .unset, .unset] [(.ref b18)])) _
      refine XS.iconst X18.here hx rfl (hb hby at_82) ?_
      show Steps p.tables e below (T18.setTop (mkF m 83 #[.val (.int i0), .val (.int i1), .val (.int i2), .val (.int i3), .val (.int i4), .val (.int i5), .val (.int (1 : Int32)), .val (.int i7), .val (.int i8), .val (.ref b18), .unset, .unset, .unset] [(.int (0 : Int32)), (.ref b18)])) _
      refine XS.iloadN X18.here hx rfl (hb hby at_83) rfl ?_
      exact kt
    obtain ⟨T20, h20, Lq20, X20, N20, e20, W20, Z20, Aq20, st20⟩ := own_stI X18 hx hZ e18 Ab18_18 (j := (0 : Int32)) (by decide) (k := 0) (by decide) (Nat.le_of_ble_eq_true rfl) N0 g18 Z18 (g := (mkF m 84 #[.val (.int i0), .val (.int i1), .val (.int i2), .val (.int i3), .val (.int i4), .val (.int i5), .val (.int (1 : Int32)), .val (.int i7), .val (.int i8), .val (.ref b18), .unset, .unset, .unset] [(.int i0), (.int (0 : Int32)), (.ref b18)])) rfl rfl (hb hby at_84)
    have Ab18_20 : own_A Z h20 b18 .int [(.int i0)] := Aq20
    refine own_step (T' := T20) (f' := (mkF m 85 #[.val (.int i0), .val (.int i1), .val (.int i2), .val (.int i3), .val (.int i4), .val (.int i5), .val (.int (1 : Int32)), .val (.int i7), .val (.int i8), .val (.ref b18), .unset, .unset, .unset] [])) st20 ?_
    refine own_step (T' := T20) (f' := (mkF m 88 #[.val (.int i0), .val (.int i1), .val (.int i2), .val (.int i3), .val (.int i4), .val (.int i5), .val (.int (1 : Int32)), .val (.int i7), .val (.int i8), .val (.ref b18), .unset, .unset, .unset] [(.int (1 : Int32)), (.int (1 : Int32))])) (fun t kt => ?_) ?_
    · show Steps p.tables e below (T20.setTop (mkF m 85 #[.val (.int i0), .val (.int i1), .val (.int i2), .val (.int i3), .val (.int i4), .val (.int i5), .val (.int (1 : Int32)), .val (.int i7), .val (.int i8), .val (.ref b18), .unset, .unset, .unset] [])) _
      refine XS.iload X20.here hx rfl (hb hby at_85) rfl ?_
      show Steps p.tables e below (T20.setTop (mkF m 87 #[.val (.int i0), .val (.int i1), .val (.int i2), .val (.int i3), .val (.int i4), .val (.int i5), .val (.int (1 : Int32)), .val (.int i7), .val (.int i8), .val (.ref b18), .unset, .unset, .unset] [(.int (1 : Int32))])) _
      refine XS.iconst X20.here hx rfl (hb hby at_87) ?_
      exact kt
    refine own_step (T' := T20) (f' := (mkF m 96 #[.val (.int i0), .val (.int i1), .val (.int i2), .val (.int i3), .val (.int i4), .val (.int i5), .val (.int (1 : Int32)), .val (.int i7), .val (.int i8), .val (.ref b18), .unset, .unset, .unset] [])) (fun t kt => ?_) ?_
    · show Steps p.tables e below (T20.setTop (mkF m 88 #[.val (.int i0), .val (.int i1), .val (.int i2), .val (.int i3), .val (.int i4), .val (.int i5), .val (.int (1 : Int32)), .val (.int i7), .val (.int i8), .val (.ref b18), .unset, .unset, .unset] [(.int (1 : Int32)), (.int (1 : Int32))])) _
      refine XS.icmpYes X20.here hx rfl (pc0 := 88) (pc' := 96) rfl (hb hby at_88) rfl (flt (by decide : ¬ ((1 : Int32) < (1 : Int32)))).2.2.2 (by decide) (by decide) kt
    refine own_step (T' := T20) (f' := (mkF m 99 #[.val (.int i0), .val (.int i1), .val (.int i2), .val (.int i3), .val (.int i4), .val (.int i5), .val (.int (1 : Int32)), .val (.int i7), .val (.int i8), .val (.ref b18), .unset, .unset, .unset] [(.int (2 : Int32)), (.int (1 : Int32))])) (fun t kt => ?_) ?_
    · show Steps p.tables e below (T20.setTop (mkF m 96 #[.val (.int i0), .val (.int i1), .val (.int i2), .val (.int i3), .val (.int i4), .val (.int i5), .val (.int (1 : Int32)), .val (.int i7), .val (.int i8), .val (.ref b18), .unset, .unset, .unset] [])) _
      refine XS.iload X20.here hx rfl (hb hby at_96) rfl ?_
      show Steps p.tables e below (T20.setTop (mkF m 98 #[.val (.int i0), .val (.int i1), .val (.int i2), .val (.int i3), .val (.int i4), .val (.int i5), .val (.int (1 : Int32)), .val (.int i7), .val (.int i8), .val (.ref b18), .unset, .unset, .unset] [(.int (1 : Int32))])) _
      refine XS.iconst X20.here hx rfl (hb hby at_98) ?_
      exact kt
    refine own_step (T' := T20) (f' := (mkF m 107 #[.val (.int i0), .val (.int i1), .val (.int i2), .val (.int i3), .val (.int i4), .val (.int i5), .val (.int (1 : Int32)), .val (.int i7), .val (.int i8), .val (.ref b18), .unset, .unset, .unset] [])) (fun t kt => ?_) ?_
    · show Steps p.tables e below (T20.setTop (mkF m 99 #[.val (.int i0), .val (.int i1), .val (.int i2), .val (.int i3), .val (.int i4), .val (.int i5), .val (.int (1 : Int32)), .val (.int i7), .val (.int i8), .val (.ref b18), .unset, .unset, .unset] [(.int (2 : Int32)), (.int (1 : Int32))])) _
      refine XS.icmpYes X20.here hx rfl (pc0 := 99) (pc' := 107) rfl (hb hby at_99) rfl (flt (by decide : ¬ ((2 : Int32) < (1 : Int32)))).2.2.2 (by decide) (by decide) kt
    refine own_step (T' := T20) (f' := (mkF m 110 #[.val (.int i0), .val (.int i1), .val (.int i2), .val (.int i3), .val (.int i4), .val (.int i5), .val (.int (1 : Int32)), .val (.int i7), .val (.int i8), .val (.ref b18), .unset, .unset, .unset] [(.int (3 : Int32)), (.int (1 : Int32))])) (fun t kt => ?_) ?_
    · show Steps p.tables e below (T20.setTop (mkF m 107 #[.val (.int i0), .val (.int i1), .val (.int i2), .val (.int i3), .val (.int i4), .val (.int i5), .val (.int (1 : Int32)), .val (.int i7), .val (.int i8), .val (.ref b18), .unset, .unset, .unset] [])) _
      refine XS.iload X20.here hx rfl (hb hby at_107) rfl ?_
      show Steps p.tables e below (T20.setTop (mkF m 109 #[.val (.int i0), .val (.int i1), .val (.int i2), .val (.int i3), .val (.int i4), .val (.int i5), .val (.int (1 : Int32)), .val (.int i7), .val (.int i8), .val (.ref b18), .unset, .unset, .unset] [(.int (1 : Int32))])) _
      refine XS.iconst X20.here hx rfl (hb hby at_109) ?_
      exact kt
    refine own_step (T' := T20) (f' := (mkF m 118 #[.val (.int i0), .val (.int i1), .val (.int i2), .val (.int i3), .val (.int i4), .val (.int i5), .val (.int (1 : Int32)), .val (.int i7), .val (.int i8), .val (.ref b18), .unset, .unset, .unset] [])) (fun t kt => ?_) ?_
    · show Steps p.tables e below (T20.setTop (mkF m 110 #[.val (.int i0), .val (.int i1), .val (.int i2), .val (.int i3), .val (.int i4), .val (.int i5), .val (.int (1 : Int32)), .val (.int i7), .val (.int i8), .val (.ref b18), .unset, .unset, .unset] [(.int (3 : Int32)), (.int (1 : Int32))])) _
      refine XS.icmpYes X20.here hx rfl (pc0 := 110) (pc' := 118) rfl (hb hby at_110) rfl (flt (by decide : ¬ ((3 : Int32) < (1 : Int32)))).2.2.2 (by decide) (by decide) kt
    refine own_step (T' := T20) (f' := (mkF m 120 #[.val (.int i0), .val (.int i1), .val (.int i2), .val (.int i3), .val (.int i4), .val (.int i5), .val (.int (1 : Int32)), .val (.int i7), .val (.int i8), .val (.ref b18), .unset, .unset, .unset] [(.int (1 : Int32))])) (fun t kt => ?_) ?_
    · show Steps p.tables e below (T20.setTop (mkF m 118 #[.val (.int i0), .val (.int i1), .val (.int i2), .val (.int i3), .val (.int i4), .val (.int i5), .val (.int (1 : Int32)), .val (.int i7), .val (.int i8), .val (.ref b18), .unset, .unset, .unset] [])) _
      refine XS.iload X20.here hx rfl (hb hby at_118) rfl ?_
      exact kt
    refine own_step (T' := T20) (f' := (mkF m 123 #[.val (.int i0), .val (.int i1), .val (.int i2), .val (.int i3), .val (.int i4), .val (.int i5), .val (.int (1 : Int32)), .val (.int i7), .val (.int i8), .val (.ref b18), .unset, .unset, .unset] [])) (fun t kt => ?_) ?_
    · show Steps p.tables e below (T20.setTop (mkF m 120 #[.val (.int i0), .val (.int i1), .val (.int i2), .val (.int i3), .val (.int i4), .val (.int i5), .val (.int (1 : Int32)), .val (.int i7), .val (.int i8), .val (.ref b18), .unset, .unset, .unset] [(.int (1 : Int32))])) _
      refine XS.ifNo X20.here hx rfl (hb hby at_120) rfl ((if0 _ _).trans (tlt (by decide : ((0 : Int32) < (1 : Int32)))).2.2.2) kt
    refine own_step (T' := T20) (f' := (mkF m 126 #[.val (.int i0), .val (.int i1), .val (.int i2), .val (.int i3), .val (.int i4), .val (.int i5), .val (.int (1 : Int32)), .val (.int i7), .val (.int i8), .val (.ref b18), .unset, .unset, .unset] [(.int i8), (.int i0)])) (fun t kt => ?_) ?_
    · show Steps p.tables e below (T20.setTop (mkF m 123 #[.val (.int i0), .val (.int i1), .val (.int i2), .val (.int i3), .val (.int i4), .val (.int i5), .val (.int (1 : Int32)), .val (.int i7), .val (.int i8), .val (.ref b18), .unset, .unset, .unset] [])) _
      refine XS.iloadN X20.here hx rfl (hb hby at_123) rfl ?_
      show Steps p.tables e below (T20.setTop (mkF m 124 #[.val (.int i0), .val (.int i1), .val (.int i2), .val (.int i3), .val (.int i4), .val (.int i5), .val (.int (1 : Int32)), .val (.int i7), .val (.int i8), .val (.ref b18), .unset, .unset, .unset] [(.int i0)])) _
      refine XS.iload X20.here hx rfl (hb hby at_124) rfl ?_
      exact kt
    by_cases hc126_25 : i0 = i8
    · rw [if_pos hc126_25] at hr
      refine own_step (T' := T20) (f' := (mkF m 165 #[.val (.int i0), .val (.int i1), .val (.int i2), .val (.int i3), .val (.int i4), .val (.int i5), .val (.int (1 : Int32)), .val (.int i7), .val (.int i8), .val (.ref b18), .unset, .unset, .unset] [])) (fun t kt => ?_) ?_
      · show Steps p.tables e below (T20.setTop (mkF m 126 #[.val (.int i0), .val (.int i1), .val (.int i2), .val (.int i3), .val (.int i4), .val (.int i5), .val (.int (1 : Int32)), .val (.int i7), .val (.int i8), .val (.ref b18), .unset, .unset, .unset] [(.int i8), (.int i0)])) _
        refine XS.icmpYes X20.here hx rfl (pc0 := 126) (pc' := 165) rfl (hb hby at_126) rfl (teq hc126_25).1 (by decide) (by decide) kt
      refine own_step (T' := T20) (f' := (mkF m 176 #[.val (.int i0), .val (.int i1), .val (.int i2), .val (.int i3), .val (.int i4), .val (.int i5), .val (.int (1 : Int32)), .val (.int i7), .val (.int i8), .val (.ref b18), .val (.int (1 : Int32)), .unset, .unset] [(.int i8), (.ref b18)])) (fun t kt => ?_) ?_
      · show Steps p.tables e below (T20.setTop (mkF m 165 #[.val (.int i0), .val (.int i1), .val (.int i2), .val (.int i3), .val (.int i4), .val (.int i5), .val (.int (1 : Int32)), .val (.int i7), .val (.int i8), .val (.ref b18), .unset, .unset, .unset] [])) _
        refine XS.iconst X20.here hx rfl (hb hby at_165) ?_
        show Steps p.tables e below (T20.setTop (mkF m 166 #[.val (.int i0), .val (.int i1), .val (.int i2), .val (.int i3), .val (.int i4), .val (.int i5), .val (.int (1 : Int32)), .val (.int i7), .val (.int i8), .val (.ref b18), .unset, .unset, .unset] [(.int (1 : Int32))])) _
        refine XS.goto X20.here hx rfl (pc0 := 166) (pc' := 170) rfl (hb hby at_166) (by decide) (by decide) ?_
        show Steps p.tables e below (T20.setTop (mkF m 170 #[.val (.int i0), .val (.int i1), .val (.int i2), .val (.int i3), .val (.int i4), .val (.int i5), .val (.int (1 : Int32)), .val (.int i7), .val (.int i8), .val (.ref b18), .unset, .unset, .unset] [(.int (1 : Int32))])) _
        refine XS.istore X20.here hx rfl (hb hby at_170) rfl (l' := #[.val (.int i0), .val (.int i1), .val (.int i2), .val (.int i3), .val (.int i4), .val (.int i5), .val (.int (1 : Int32)), .val (.int i7), .val (.int i8), .val (.ref b18), .val (.int (1 : Int32)), .unset, .unset]) rfl ?_
        show Steps p.tables e below (T20.setTop (mkF m 172 #[.val (.int i0), .val (.int i1), .val (.int i2), .val (.int i3), .val (.int i4), .val (.int i5), .val (.int (1 : Int32)), .val (.int i7), .val (.int i8), .val (.ref b18), .val (.int (1 : Int32)), .unset, .unset] [])) _
        refine XS.aload X20.here hx rfl (hb hby at_172) rfl rfl ?_
        show Steps p.tables e below (T20.setTop (mkF m 174 #[.val (.int i0), .val (.int i1), .val (.int i2), .val (.int i3), .val (.int i4), .val (.int i5), .val (.int (1 : Int32)), .val (.int i7), .val (.int i8), .val (.ref b18), .val (.int (1 : Int32)), .unset, .unset] [(.ref b18)])) _
        refine XS.iload X20.here hx rfl (hb hby at_174) rfl ?_
        exact kt
      obtain ⟨_, _, ⟨T26, L26, k26, n26⟩, -, X26, ⟨Lc26, hQ26, l26, y26, z26⟩, st26⟩ := Jvm.LawKit.callS X20 hx (y := (⟨"com/example/conceal/conceal/SensitiveHolders", "contains", "([II)Z"⟩ : MethodName)) hown (mvT hZ (hw _ (List.mem_of_getElem? (i := 1) rfl))) (mvT hZ (hw _ (List.mem_of_getElem? (i := 2) rfl))) (mvT hZ (hw _ (List.mem_of_getElem? (i := 3) rfl))) (mvT hZ (hw _ (List.mem_of_getElem? (i := 4) rfl))) (by decide) (backOf (W := 0) (rm1n1 l Z a0 hw [] b18 i8 i0 h20 n0 Ab18_20) hZ (hw _ (List.mem_of_getElem? (i := 4) rfl)) (hw _ (List.mem_of_getElem? (i := 3) rfl)) (by decide) (by decide)) (g := (mkF m 176 #[.val (.int i0), .val (.int i1), .val (.int i2), .val (.int i3), .val (.int i4), .val (.int i5), .val (.int (1 : Int32)), .val (.int i7), .val (.int i8), .val (.ref b18), .val (.int (1 : Int32)), .unset, .unset] [(.int i8), (.ref b18)])) rfl (by rw [hml]; rfl) (argsL := [(.ref b18), (.int i8)]) (rest := []) (lenOf pd1 rfl) rfl (by show 2 * 0 + _ ≤ _; exact Nat.le_of_eq rfl) (hb hby at_176) (fun _ _ => ⟨rfl, e20, (by decide : 1 + 0 ≤ _), (by decide : 1 + 0 ≤ _)⟩)
      dsimp only [Pt.U, Pt.locs, Pt.cells, Pt.slots] at X26 l26 y26 z26 st26 hQ26
      subst l26 y26 z26
      obtain ⟨rfl, Nq26, e26⟩ := hQ26
      have N26 := Fr.app N20 Nq26
      refine own_step (T' := T26) (f' := (mkF m 179 #[.val (.int i0), .val (.int i1), .val (.int i2), .val (.int i3), .val (.int i4), .val (.int i5), .val (.int (1 : Int32)), .val (.int i7), .val (.int i8), .val (.ref b18), .val (.int (1 : Int32)), .unset, .unset] [(.int (f1n1_0 i8 i0))])) st26 ?_
      refine own_step (T' := T26) (f' := (mkF m 183 #[.val (.int i0), .val (.int i1), .val (.int i2), .val (.int i3), .val (.int i4), .val (.int i5), .val (.int (1 : Int32)), .val (.int i7), .val (.int i8), .val (.ref b18), .val (.int (1 : Int32)), .val (.int (f1n1_0 i8 i0)), .unset] [(.int (1 : Int32))])) (fun t kt => ?_) ?_
      · show Steps p.tables e below (T26.setTop (mkF m 179 #[.val (.int i0), .val (.int i1), .val (.int i2), .val (.int i3), .val (.int i4), .val (.int i5), .val (.int (1 : Int32)), .val (.int i7), .val (.int i8), .val (.ref b18), .val (.int (1 : Int32)), .unset, .unset] [(.int (f1n1_0 i8 i0))])) _
        refine XS.istore X26.here hx rfl (hb hby at_179) rfl (l' := #[.val (.int i0), .val (.int i1), .val (.int i2), .val (.int i3), .val (.int i4), .val (.int i5), .val (.int (1 : Int32)), .val (.int i7), .val (.int i8), .val (.ref b18), .val (.int (1 : Int32)), .val (.int (f1n1_0 i8 i0)), .unset]) rfl ?_
        show Steps p.tables e below (T26.setTop (mkF m 181 #[.val (.int i0), .val (.int i1), .val (.int i2), .val (.int i3), .val (.int i4), .val (.int i5), .val (.int (1 : Int32)), .val (.int i7), .val (.int i8), .val (.ref b18), .val (.int (1 : Int32)), .val (.int (f1n1_0 i8 i0)), .unset] [])) _
        refine XS.iload X26.here hx rfl (hb hby at_181) rfl ?_
        exact kt
      refine own_step (T' := T26) (f' := (mkF m 186 #[.val (.int i0), .val (.int i1), .val (.int i2), .val (.int i3), .val (.int i4), .val (.int i5), .val (.int (1 : Int32)), .val (.int i7), .val (.int i8), .val (.ref b18), .val (.int (1 : Int32)), .val (.int (f1n1_0 i8 i0)), .unset] [])) (fun t kt => ?_) ?_
      · show Steps p.tables e below (T26.setTop (mkF m 183 #[.val (.int i0), .val (.int i1), .val (.int i2), .val (.int i3), .val (.int i4), .val (.int i5), .val (.int (1 : Int32)), .val (.int i7), .val (.int i8), .val (.ref b18), .val (.int (1 : Int32)), .val (.int (f1n1_0 i8 i0)), .unset] [(.int (1 : Int32))])) _
        refine XS.ifNo X26.here hx rfl (hb hby at_183) rfl ((if0 _ _).trans (tlt (by decide : ((0 : Int32) < (1 : Int32)))).2.2.2) kt
      refine own_step (T' := T26) (f' := (mkF m 191 #[.val (.int i0), .val (.int i1), .val (.int i2), .val (.int i3), .val (.int i4), .val (.int i5), .val (.int (1 : Int32)), .val (.int i7), .val (.int i8), .val (.ref b18), .val (.int (1 : Int32)), .val (.int (f1n1_0 i8 i0)), .unset] [(.int i0), (.int i0)])) (fun t kt => ?_) ?_
      · show Steps p.tables e below (T26.setTop (mkF m 186 #[.val (.int i0), .val (.int i1), .val (.int i2), .val (.int i3), .val (.int i4), .val (.int i5), .val (.int (1 : Int32)), .val (.int i7), .val (.int i8), .val (.ref b18), .val (.int (1 : Int32)), .val (.int (f1n1_0 i8 i0)), .unset] [])) _
        refine XS.aload X26.here hx rfl (hb hby at_186) rfl rfl ?_
        show Steps p.tables e below (T26.setTop (mkF m 188 #[.val (.int i0), .val (.int i1), .val (.int i2), .val (.int i3), .val (.int i4), .val (.int i5), .val (.int (1 : Int32)), .val (.int i7), .val (.int i8), .val (.ref b18), .val (.int (1 : Int32)), .val (.int (f1n1_0 i8 i0)), .unset] [(.ref b18)])) _
        refine XS.iconst X26.here hx rfl (hb hby at_188) ?_
        show Steps p.tables e below (T26.setTop (mkF m 189 #[.val (.int i0), .val (.int i1), .val (.int i2), .val (.int i3), .val (.int i4), .val (.int i5), .val (.int (1 : Int32)), .val (.int i7), .val (.int i8), .val (.ref b18), .val (.int (1 : Int32)), .val (.int (f1n1_0 i8 i0)), .unset] [(.int (0 : Int32)), (.ref b18)])) _
        refine own_ldI X26 hx hZ e26 Ab18_20 (j := (0 : Int32)) (by decide) (k := 0) (by decide) (v := (.int i0)) rfl (g := (mkF m 189 #[.val (.int i0), .val (.int i1), .val (.int i2), .val (.int i3), .val (.int i4), .val (.int i5), .val (.int (1 : Int32)), .val (.int i7), .val (.int i8), .val (.ref b18), .val (.int (1 : Int32)), .val (.int (f1n1_0 i8 i0)), .unset] [(.int (0 : Int32)), (.ref b18)])) rfl rfl (hb hby at_189) _ ?_
        show Steps p.tables e below (T26.setTop (mkF m 190 #[.val (.int i0), .val (.int i1), .val (.int i2), .val (.int i3), .val (.int i4), .val (.int i5), .val (.int (1 : Int32)), .val (.int i7), .val (.int i8), .val (.ref b18), .val (.int (1 : Int32)), .val (.int (f1n1_0 i8 i0)), .unset] [(.int i0)])) _
        refine XS.iloadN X26.here hx rfl (hb hby at_190) rfl ?_
        exact kt
      refine own_step (T' := T26) (f' := (mkF m 194 #[.val (.int i0), .val (.int i1), .val (.int i2), .val (.int i3), .val (.int i4), .val (.int i5), .val (.int (1 : Int32)), .val (.int i7), .val (.int i8), .val (.ref b18), .val (.int (1 : Int32)), .val (.int (f1n1_0 i8 i0)), .unset] [])) (fun t kt => ?_) ?_
      · show Steps p.tables e below (T26.setTop (mkF m 191 #[.val (.int i0), .val (.int i1), .val (.int i2), .val (.int i3), .val (.int i4), .val (.int i5), .val (.int (1 : Int32)), .val (.int i7), .val (.int i8), .val (.ref b18), .val (.int (1 : Int32)), .val (.int (f1n1_0 i8 i0)), .unset] [(.int i0), (.int i0)])) _
        refine XS.icmpNo X26.here hx rfl (hb hby at_191) rfl (teq (rfl : i0 = i0)).2 kt
      refine own_step (T' := T26) (f' := (mkF m 197 #[.val (.int i0), .val (.int i1), .val (.int i2), .val (.int i3), .val (.int i4), .val (.int i5), .val (.int (1 : Int32)), .val (.int i7), .val (.int i8), .val (.ref b18), .val (.int (1 : Int32)), .val (.int (f1n1_0 i8 i0)), .unset] [(.int (1 : Int32)), (.int (1 : Int32))])) (fun t kt => ?_) ?_
      · show Steps p.tables e below (T26.setTop (mkF m 194 #[.val (.int i0), .val (.int i1), .val (.int i2), .val (.int i3), .val (.int i4), .val (.int i5), .val (.int (1 : Int32)), .val (.int i7), .val (.int i8), .val (.ref b18), .val (.int (1 : Int32)), .val (.int (f1n1_0 i8 i0)), .unset] [])) _
        refine XS.iload X26.here hx rfl (hb hby at_194) rfl ?_
        show Steps p.tables e below (T26.setTop (mkF m 196 #[.val (.int i0), .val (.int i1), .val (.int i2), .val (.int i3), .val (.int i4), .val (.int i5), .val (.int (1 : Int32)), .val (.int i7), .val (.int i8), .val (.ref b18), .val (.int (1 : Int32)), .val (.int (f1n1_0 i8 i0)), .unset] [(.int (1 : Int32))])) _
        refine XS.iconst X26.here hx rfl (hb hby at_196) ?_
        exact kt
      refine own_step (T' := T26) (f' := (mkF m 208 #[.val (.int i0), .val (.int i1), .val (.int i2), .val (.int i3), .val (.int i4), .val (.int i5), .val (.int (1 : Int32)), .val (.int i7), .val (.int i8), .val (.ref b18), .val (.int (1 : Int32)), .val (.int (f1n1_0 i8 i0)), .unset] [])) (fun t kt => ?_) ?_
      · show Steps p.tables e below (T26.setTop (mkF m 197 #[.val (.int i0), .val (.int i1), .val (.int i2), .val (.int i3), .val (.int i4), .val (.int i5), .val (.int (1 : Int32)), .val (.int i7), .val (.int i8), .val (.ref b18), .val (.int (1 : Int32)), .val (.int (f1n1_0 i8 i0)), .unset] [(.int (1 : Int32)), (.int (1 : Int32))])) _
        refine XS.icmpYes X26.here hx rfl (pc0 := 197) (pc' := 208) rfl (hb hby at_197) rfl (flt (by decide : ¬ ((1 : Int32) < (1 : Int32)))).2.2.2 (by decide) (by decide) kt
      refine own_step (T' := T26) (f' := (mkF m 211 #[.val (.int i0), .val (.int i1), .val (.int i2), .val (.int i3), .val (.int i4), .val (.int i5), .val (.int (1 : Int32)), .val (.int i7), .val (.int i8), .val (.ref b18), .val (.int (1 : Int32)), .val (.int (f1n1_0 i8 i0)), .unset] [(.int (2 : Int32)), (.int (1 : Int32))])) (fun t kt => ?_) ?_
      · show Steps p.tables e below (T26.setTop (mkF m 208 #[.val (.int i0), .val (.int i1), .val (.int i2), .val (.int i3), .val (.int i4), .val (.int i5), .val (.int (1 : Int32)), .val (.int i7), .val (.int i8), .val (.ref b18), .val (.int (1 : Int32)), .val (.int (f1n1_0 i8 i0)), .unset] [])) _
        refine XS.iload X26.here hx rfl (hb hby at_208) rfl ?_
        show Steps p.tables e below (T26.setTop (mkF m 210 #[.val (.int i0), .val (.int i1), .val (.int i2), .val (.int i3), .val (.int i4), .val (.int i5), .val (.int (1 : Int32)), .val (.int i7), .val (.int i8), .val (.ref b18), .val (.int (1 : Int32)), .val (.int (f1n1_0 i8 i0)), .unset] [(.int (1 : Int32))])) _
        refine XS.iconst X26.here hx rfl (hb hby at_210) ?_
        exact kt
      refine own_step (T' := T26) (f' := (mkF m 222 #[.val (.int i0), .val (.int i1), .val (.int i2), .val (.int i3), .val (.int i4), .val (.int i5), .val (.int (1 : Int32)), .val (.int i7), .val (.int i8), .val (.ref b18), .val (.int (1 : Int32)), .val (.int (f1n1_0 i8 i0)), .unset] [])) (fun t kt => ?_) ?_
      · show Steps p.tables e below (T26.setTop (mkF m 211 #[.val (.int i0), .val (.int i1), .val (.int i2), .val (.int i3), .val (.int i4), .val (.int i5), .val (.int (1 : Int32)), .val (.int i7), .val (.int i8), .val (.ref b18), .val (.int (1 : Int32)), .val (.int (f1n1_0 i8 i0)), .unset] [(.int (2 : Int32)), (.int (1 : Int32))])) _
        refine XS.icmpYes X26.here hx rfl (pc0 := 211) (pc' := 222) rfl (hb hby at_211) rfl (flt (by decide : ¬ ((2 : Int32) < (1 : Int32)))).2.2.2 (by decide) (by decide) kt
      refine own_step (T' := T26) (f' := (mkF m 225 #[.val (.int i0), .val (.int i1), .val (.int i2), .val (.int i3), .val (.int i4), .val (.int i5), .val (.int (1 : Int32)), .val (.int i7), .val (.int i8), .val (.ref b18), .val (.int (1 : Int32)), .val (.int (f1n1_0 i8 i0)), .unset] [(.int (3 : Int32)), (.int (1 : Int32))])) (fun t kt => ?_) ?_
      · show Steps p.tables e below (T26.setTop (mkF m 222 #[.val (.int i0), .val (.int i1), .val (.int i2), .val (.int i3), .val (.int i4), .val (.int i5), .val (.int (1 : Int32)), .val (.int i7), .val (.int i8), .val (.ref b18), .val (.int (1 : Int32)), .val (.int (f1n1_0 i8 i0)), .unset] [])) _
        refine XS.iload X26.here hx rfl (hb hby at_222) rfl ?_
        show Steps p.tables e below (T26.setTop (mkF m 224 #[.val (.int i0), .val (.int i1), .val (.int i2), .val (.int i3), .val (.int i4), .val (.int i5), .val (.int (1 : Int32)), .val (.int i7), .val (.int i8), .val (.ref b18), .val (.int (1 : Int32)), .val (.int (f1n1_0 i8 i0)), .unset] [(.int (1 : Int32))])) _
        refine XS.iconst X26.here hx rfl (hb hby at_224) ?_
        exact kt
      refine own_step (T' := T26) (f' := (mkF m 236 #[.val (.int i0), .val (.int i1), .val (.int i2), .val (.int i3), .val (.int i4), .val (.int i5), .val (.int (1 : Int32)), .val (.int i7), .val (.int i8), .val (.ref b18), .val (.int (1 : Int32)), .val (.int (f1n1_0 i8 i0)), .unset] [])) (fun t kt => ?_) ?_
      · show Steps p.tables e below (T26.setTop (mkF m 225 #[.val (.int i0), .val (.int i1), .val (.int i2), .val (.int i3), .val (.int i4), .val (.int i5), .val (.int (1 : Int32)), .val (.int i7), .val (.int i8), .val (.ref b18), .val (.int (1 : Int32)), .val (.int (f1n1_0 i8 i0)), .unset] [(.int (3 : Int32)), (.int (1 : Int32))])) _
        refine XS.icmpYes X26.here hx rfl (pc0 := 225) (pc' := 236) rfl (hb hby at_225) rfl (flt (by decide : ¬ ((3 : Int32) < (1 : Int32)))).2.2.2 (by decide) (by decide) kt
      refine own_step (T' := T26) (f' := (mkF m 247 #[.val (.int i0), .val (.int i1), .val (.int i2), .val (.int i3), .val (.int i4), .val (.int i5), .val (.int (1 : Int32)), .val (.int i7), .val (.int i8), .val (.ref b18), .val (.int (1 : Int32)), .val (.int (f1n1_0 i8 i0)), .val (.int (1 : Int32))] [(.int (1 : Int32)), (.int (f1n1_0 i8 i0))])) (fun t kt => ?_) ?_
      · show Steps p.tables e below (T26.setTop (mkF m 236 #[.val (.int i0), .val (.int i1), .val (.int i2), .val (.int i3), .val (.int i4), .val (.int i5), .val (.int (1 : Int32)), .val (.int i7), .val (.int i8), .val (.ref b18), .val (.int (1 : Int32)), .val (.int (f1n1_0 i8 i0)), .unset] [])) _
        refine XS.iconst X26.here hx rfl (hb hby at_236) ?_
        show Steps p.tables e below (T26.setTop (mkF m 237 #[.val (.int i0), .val (.int i1), .val (.int i2), .val (.int i3), .val (.int i4), .val (.int i5), .val (.int (1 : Int32)), .val (.int i7), .val (.int i8), .val (.ref b18), .val (.int (1 : Int32)), .val (.int (f1n1_0 i8 i0)), .unset] [(.int (1 : Int32))])) _
        refine XS.goto X26.here hx rfl (pc0 := 237) (pc' := 241) rfl (hb hby at_237) (by decide) (by decide) ?_
        show Steps p.tables e below (T26.setTop (mkF m 241 #[.val (.int i0), .val (.int i1), .val (.int i2), .val (.int i3), .val (.int i4), .val (.int i5), .val (.int (1 : Int32)), .val (.int i7), .val (.int i8), .val (.ref b18), .val (.int (1 : Int32)), .val (.int (f1n1_0 i8 i0)), .unset] [(.int (1 : Int32))])) _
        refine XS.istore X26.here hx rfl (hb hby at_241) rfl (l' := #[.val (.int i0), .val (.int i1), .val (.int i2), .val (.int i3), .val (.int i4), .val (.int i5), .val (.int (1 : Int32)), .val (.int i7), .val (.int i8), .val (.ref b18), .val (.int (1 : Int32)), .val (.int (f1n1_0 i8 i0)), .val (.int (1 : Int32))]) rfl ?_
        show Steps p.tables e below (T26.setTop (mkF m 243 #[.val (.int i0), .val (.int i1), .val (.int i2), .val (.int i3), .val (.int i4), .val (.int i5), .val (.int (1 : Int32)), .val (.int i7), .val (.int i8), .val (.ref b18), .val (.int (1 : Int32)), .val (.int (f1n1_0 i8 i0)), .val (.int (1 : Int32))] [])) _
        refine XS.iload X26.here hx rfl (hb hby at_243) rfl ?_
        show Steps p.tables e below (T26.setTop (mkF m 245 #[.val (.int i0), .val (.int i1), .val (.int i2), .val (.int i3), .val (.int i4), .val (.int i5), .val (.int (1 : Int32)), .val (.int i7), .val (.int i8), .val (.ref b18), .val (.int (1 : Int32)), .val (.int (f1n1_0 i8 i0)), .val (.int (1 : Int32))] [(.int (f1n1_0 i8 i0))])) _
        refine XS.iload X26.here hx rfl (hb hby at_245) rfl ?_
        exact kt
      by_cases hc247_32 : (f1n1_0 i8 i0) = (1 : Int32)
      · rw [if_pos hc247_32] at hr
        refine own_step (T' := T26) (f' := (mkF m 250 #[.val (.int i0), .val (.int i1), .val (.int i2), .val (.int i3), .val (.int i4), .val (.int i5), .val (.int (1 : Int32)), .val (.int i7), .val (.int i8), .val (.ref b18), .val (.int (1 : Int32)), .val (.int (f1n1_0 i8 i0)), .val (.int (1 : Int32))] [])) (fun t kt => ?_) ?_
        · show Steps p.tables e below (T26.setTop (mkF m 247 #[.val (.int i0), .val (.int i1), .val (.int i2), .val (.int i3), .val (.int i4), .val (.int i5), .val (.int (1 : Int32)), .val (.int i7), .val (.int i8), .val (.ref b18), .val (.int (1 : Int32)), .val (.int (f1n1_0 i8 i0)), .val (.int (1 : Int32))] [(.int (1 : Int32)), (.int (f1n1_0 i8 i0))])) _
          refine XS.icmpNo X26.here hx rfl (hb hby at_247) rfl (teq hc247_32).2 kt
        refine own_step (T' := T26) (f' := (mkF m 252 #[.val (.int i0), .val (.int i1), .val (.int i2), .val (.int i3), .val (.int i4), .val (.int i5), .val (.int (1 : Int32)), .val (.int i7), .val (.int i8), .val (.ref b18), .val (.int (1 : Int32)), .val (.int (f1n1_0 i8 i0)), .val (.int (1 : Int32))] [(.int (1 : Int32))])) (fun t kt => ?_) ?_
        · show Steps p.tables e below (T26.setTop (mkF m 250 #[.val (.int i0), .val (.int i1), .val (.int i2), .val (.int i3), .val (.int i4), .val (.int i5), .val (.int (1 : Int32)), .val (.int i7), .val (.int i8), .val (.ref b18), .val (.int (1 : Int32)), .val (.int (f1n1_0 i8 i0)), .val (.int (1 : Int32))] [])) _
          refine XS.iload X26.here hx rfl (hb hby at_250) rfl ?_
          exact kt
        refine own_step (T' := T26) (f' := (mkF m 255 #[.val (.int i0), .val (.int i1), .val (.int i2), .val (.int i3), .val (.int i4), .val (.int i5), .val (.int (1 : Int32)), .val (.int i7), .val (.int i8), .val (.ref b18), .val (.int (1 : Int32)), .val (.int (f1n1_0 i8 i0)), .val (.int (1 : Int32))] [])) (fun t kt => ?_) ?_
        · show Steps p.tables e below (T26.setTop (mkF m 252 #[.val (.int i0), .val (.int i1), .val (.int i2), .val (.int i3), .val (.int i4), .val (.int i5), .val (.int (1 : Int32)), .val (.int i7), .val (.int i8), .val (.ref b18), .val (.int (1 : Int32)), .val (.int (f1n1_0 i8 i0)), .val (.int (1 : Int32))] [(.int (1 : Int32))])) _
          refine XS.ifNo X26.here hx rfl (hb hby at_252) rfl ((if0 _ _).trans (feq (by decide : ¬ ((1 : Int32) = (0 : Int32)))).1) kt
        refine own_step (T' := T26) (f' := (mkF m 260 #[.val (.int i0), .val (.int i1), .val (.int i2), .val (.int i3), .val (.int i4), .val (.int i5), .val (.int (1 : Int32)), .val (.int i7), .val (.int i8), .val (.ref b18), .val (.int (1 : Int32)), .val (.int (f1n1_0 i8 i0)), .val (.int (1 : Int32))] [(.int (1 : Int32))])) (fun t kt => ?_) ?_
        · show Steps p.tables e below (T26.setTop (mkF m 255 #[.val (.int i0), .val (.int i1), .val (.int i2), .val (.int i3), .val (.int i4), .val (.int i5), .val (.int (1 : Int32)), .val (.int i7), .val (.int i8), .val (.ref b18), .val (.int (1 : Int32)), .val (.int (f1n1_0 i8 i0)), .val (.int (1 : Int32))] [])) _
          refine XS.iconst X26.here hx rfl (hb hby at_255) ?_
          show Steps p.tables e below (T26.setTop (mkF m 256 #[.val (.int i0), .val (.int i1), .val (.int i2), .val (.int i3), .val (.int i4), .val (.int i5), .val (.int (1 : Int32)), .val (.int i7), .val (.int i8), .val (.ref b18), .val (.int (1 : Int32)), .val (.int (f1n1_0 i8 i0)), .val (.int (1 : Int32))] [(.int (1 : Int32))])) _
          refine XS.goto X26.here hx rfl (pc0 := 256) (pc' := 260) rfl (hb hby at_256) (by decide) (by decide) ?_
          exact kt
        exact own_retZ X26 hx hret (by simp) hlk (hb hby at_260) (by decide) (by decide) ⟨congrArg (fun z => some (Value.int z)) hr.symm, N26⟩
      · rw [if_neg hc247_32] at hr
        refine own_step (T' := T26) (f' := (mkF m 259 #[.val (.int i0), .val (.int i1), .val (.int i2), .val (.int i3), .val (.int i4), .val (.int i5), .val (.int (1 : Int32)), .val (.int i7), .val (.int i8), .val (.ref b18), .val (.int (1 : Int32)), .val (.int (f1n1_0 i8 i0)), .val (.int (1 : Int32))] [])) (fun t kt => ?_) ?_
        · show Steps p.tables e below (T26.setTop (mkF m 247 #[.val (.int i0), .val (.int i1), .val (.int i2), .val (.int i3), .val (.int i4), .val (.int i5), .val (.int (1 : Int32)), .val (.int i7), .val (.int i8), .val (.ref b18), .val (.int (1 : Int32)), .val (.int (f1n1_0 i8 i0)), .val (.int (1 : Int32))] [(.int (1 : Int32)), (.int (f1n1_0 i8 i0))])) _
          refine XS.icmpYes X26.here hx rfl (pc0 := 247) (pc' := 259) rfl (hb hby at_247) rfl (feq hc247_32).2 (by decide) (by decide) kt
        refine own_step (T' := T26) (f' := (mkF m 260 #[.val (.int i0), .val (.int i1), .val (.int i2), .val (.int i3), .val (.int i4), .val (.int i5), .val (.int (1 : Int32)), .val (.int i7), .val (.int i8), .val (.ref b18), .val (.int (1 : Int32)), .val (.int (f1n1_0 i8 i0)), .val (.int (1 : Int32))] [(.int (0 : Int32))])) (fun t kt => ?_) ?_
        · show Steps p.tables e below (T26.setTop (mkF m 259 #[.val (.int i0), .val (.int i1), .val (.int i2), .val (.int i3), .val (.int i4), .val (.int i5), .val (.int (1 : Int32)), .val (.int i7), .val (.int i8), .val (.ref b18), .val (.int (1 : Int32)), .val (.int (f1n1_0 i8 i0)), .val (.int (1 : Int32))] [])) _
          refine XS.iconst X26.here hx rfl (hb hby at_259) ?_
          exact kt
        exact own_retZ X26 hx hret (by simp) hlk (hb hby at_260) (by decide) (by decide) ⟨congrArg (fun z => some (Value.int z)) hr.symm, N26⟩
    · rw [if_neg hc126_25] at hr
      refine own_step (T' := T20) (f' := (mkF m 129 #[.val (.int i0), .val (.int i1), .val (.int i2), .val (.int i3), .val (.int i4), .val (.int i5), .val (.int (1 : Int32)), .val (.int i7), .val (.int i8), .val (.ref b18), .unset, .unset, .unset] [])) (fun t kt => ?_) ?_
      · show Steps p.tables e below (T20.setTop (mkF m 126 #[.val (.int i0), .val (.int i1), .val (.int i2), .val (.int i3), .val (.int i4), .val (.int i5), .val (.int (1 : Int32)), .val (.int i7), .val (.int i8), .val (.ref b18), .unset, .unset, .unset] [(.int i8), (.int i0)])) _
        refine XS.icmpNo X20.here hx rfl (hb hby at_126) rfl (feq hc126_25).1 kt
      refine own_step (T' := T20) (f' := (mkF m 132 #[.val (.int i0), .val (.int i1), .val (.int i2), .val (.int i3), .val (.int i4), .val (.int i5), .val (.int (1 : Int32)), .val (.int i7), .val (.int i8), .val (.ref b18), .unset, .unset, .unset] [(.int (1 : Int32)), (.int (1 : Int32))])) (fun t kt => ?_) ?_
      · show Steps p.tables e below (T20.setTop (mkF m 129 #[.val (.int i0), .val (.int i1), .val (.int i2), .val (.int i3), .val (.int i4), .val (.int i5), .val (.int (1 : Int32)), .val (.int i7), .val (.int i8), .val (.ref b18), .unset, .unset, .unset] [])) _
        refine XS.iload X20.here hx rfl (hb hby at_129) rfl ?_
        show Steps p.tables e below (T20.setTop (mkF m 131 #[.val (.int i0), .val (.int i1), .val (.int i2), .val (.int i3), .val (.int i4), .val (.int i5), .val (.int (1 : Int32)), .val (.int i7), .val (.int i8), .val (.ref b18), .unset, .unset, .unset] [(.int (1 : Int32))])) _
        refine XS.iconst X20.here hx rfl (hb hby at_131) ?_
        exact kt
      refine own_step (T' := T20) (f' := (mkF m 141 #[.val (.int i0), .val (.int i1), .val (.int i2), .val (.int i3), .val (.int i4), .val (.int i5), .val (.int (1 : Int32)), .val (.int i7), .val (.int i8), .val (.ref b18), .unset, .unset, .unset] [])) (fun t kt => ?_) ?_
      · show Steps p.tables e below (T20.setTop (mkF m 132 #[.val (.int i0), .val (.int i1), .val (.int i2), .val (.int i3), .val (.int i4), .val (.int i5), .val (.int (1 : Int32)), .val (.int i7), .val (.int i8), .val (.ref b18), .unset, .unset, .unset] [(.int (1 : Int32)), (.int (1 : Int32))])) _
        refine XS.icmpYes X20.here hx rfl (pc0 := 132) (pc' := 141) rfl (hb hby at_132) rfl (flt (by decide : ¬ ((1 : Int32) < (1 : Int32)))).2.2.2 (by decide) (by decide) kt
      refine own_step (T' := T20) (f' := (mkF m 144 #[.val (.int i0), .val (.int i1), .val (.int i2), .val (.int i3), .val (.int i4), .val (.int i5), .val (.int (1 : Int32)), .val (.int i7), .val (.int i8), .val (.ref b18), .unset, .unset, .unset] [(.int (2 : Int32)), (.int (1 : Int32))])) (fun t kt => ?_) ?_
      · show Steps p.tables e below (T20.setTop (mkF m 141 #[.val (.int i0), .val (.int i1), .val (.int i2), .val (.int i3), .val (.int i4), .val (.int i5), .val (.int (1 : Int32)), .val (.int i7), .val (.int i8), .val (.ref b18), .unset, .unset, .unset] [])) _
        refine XS.iload X20.here hx rfl (hb hby at_141) rfl ?_
        show Steps p.tables e below (T20.setTop (mkF m 143 #[.val (.int i0), .val (.int i1), .val (.int i2), .val (.int i3), .val (.int i4), .val (.int i5), .val (.int (1 : Int32)), .val (.int i7), .val (.int i8), .val (.ref b18), .unset, .unset, .unset] [(.int (1 : Int32))])) _
        refine XS.iconst X20.here hx rfl (hb hby at_143) ?_
        exact kt
      refine own_step (T' := T20) (f' := (mkF m 153 #[.val (.int i0), .val (.int i1), .val (.int i2), .val (.int i3), .val (.int i4), .val (.int i5), .val (.int (1 : Int32)), .val (.int i7), .val (.int i8), .val (.ref b18), .unset, .unset, .unset] [])) (fun t kt => ?_) ?_
      · show Steps p.tables e below (T20.setTop (mkF m 144 #[.val (.int i0), .val (.int i1), .val (.int i2), .val (.int i3), .val (.int i4), .val (.int i5), .val (.int (1 : Int32)), .val (.int i7), .val (.int i8), .val (.ref b18), .unset, .unset, .unset] [(.int (2 : Int32)), (.int (1 : Int32))])) _
        refine XS.icmpYes X20.here hx rfl (pc0 := 144) (pc' := 153) rfl (hb hby at_144) rfl (flt (by decide : ¬ ((2 : Int32) < (1 : Int32)))).2.2.2 (by decide) (by decide) kt
      refine own_step (T' := T20) (f' := (mkF m 156 #[.val (.int i0), .val (.int i1), .val (.int i2), .val (.int i3), .val (.int i4), .val (.int i5), .val (.int (1 : Int32)), .val (.int i7), .val (.int i8), .val (.ref b18), .unset, .unset, .unset] [(.int (3 : Int32)), (.int (1 : Int32))])) (fun t kt => ?_) ?_
      · show Steps p.tables e below (T20.setTop (mkF m 153 #[.val (.int i0), .val (.int i1), .val (.int i2), .val (.int i3), .val (.int i4), .val (.int i5), .val (.int (1 : Int32)), .val (.int i7), .val (.int i8), .val (.ref b18), .unset, .unset, .unset] [])) _
        refine XS.iload X20.here hx rfl (hb hby at_153) rfl ?_
        show Steps p.tables e below (T20.setTop (mkF m 155 #[.val (.int i0), .val (.int i1), .val (.int i2), .val (.int i3), .val (.int i4), .val (.int i5), .val (.int (1 : Int32)), .val (.int i7), .val (.int i8), .val (.ref b18), .unset, .unset, .unset] [(.int (1 : Int32))])) _
        refine XS.iconst X20.here hx rfl (hb hby at_155) ?_
        exact kt
      refine own_step (T' := T20) (f' := (mkF m 169 #[.val (.int i0), .val (.int i1), .val (.int i2), .val (.int i3), .val (.int i4), .val (.int i5), .val (.int (1 : Int32)), .val (.int i7), .val (.int i8), .val (.ref b18), .unset, .unset, .unset] [])) (fun t kt => ?_) ?_
      · show Steps p.tables e below (T20.setTop (mkF m 156 #[.val (.int i0), .val (.int i1), .val (.int i2), .val (.int i3), .val (.int i4), .val (.int i5), .val (.int (1 : Int32)), .val (.int i7), .val (.int i8), .val (.ref b18), .unset, .unset, .unset] [(.int (3 : Int32)), (.int (1 : Int32))])) _
        refine XS.icmpYes X20.here hx rfl (pc0 := 156) (pc' := 169) rfl (hb hby at_156) rfl (flt (by decide : ¬ ((3 : Int32) < (1 : Int32)))).2.2.2 (by decide) (by decide) kt
      refine own_step (T' := T20) (f' := (mkF m 176 #[.val (.int i0), .val (.int i1), .val (.int i2), .val (.int i3), .val (.int i4), .val (.int i5), .val (.int (1 : Int32)), .val (.int i7), .val (.int i8), .val (.ref b18), .val (.int (0 : Int32)), .unset, .unset] [(.int i8), (.ref b18)])) (fun t kt => ?_) ?_
      · show Steps p.tables e below (T20.setTop (mkF m 169 #[.val (.int i0), .val (.int i1), .val (.int i2), .val (.int i3), .val (.int i4), .val (.int i5), .val (.int (1 : Int32)), .val (.int i7), .val (.int i8), .val (.ref b18), .unset, .unset, .unset] [])) _
        refine XS.iconst X20.here hx rfl (hb hby at_169) ?_
        show Steps p.tables e below (T20.setTop (mkF m 170 #[.val (.int i0), .val (.int i1), .val (.int i2), .val (.int i3), .val (.int i4), .val (.int i5), .val (.int (1 : Int32)), .val (.int i7), .val (.int i8), .val (.ref b18), .unset, .unset, .unset] [(.int (0 : Int32))])) _
        refine XS.istore X20.here hx rfl (hb hby at_170) rfl (l' := #[.val (.int i0), .val (.int i1), .val (.int i2), .val (.int i3), .val (.int i4), .val (.int i5), .val (.int (1 : Int32)), .val (.int i7), .val (.int i8), .val (.ref b18), .val (.int (0 : Int32)), .unset, .unset]) rfl ?_
        show Steps p.tables e below (T20.setTop (mkF m 172 #[.val (.int i0), .val (.int i1), .val (.int i2), .val (.int i3), .val (.int i4), .val (.int i5), .val (.int (1 : Int32)), .val (.int i7), .val (.int i8), .val (.ref b18), .val (.int (0 : Int32)), .unset, .unset] [])) _
        refine XS.aload X20.here hx rfl (hb hby at_172) rfl rfl ?_
        show Steps p.tables e below (T20.setTop (mkF m 174 #[.val (.int i0), .val (.int i1), .val (.int i2), .val (.int i3), .val (.int i4), .val (.int i5), .val (.int (1 : Int32)), .val (.int i7), .val (.int i8), .val (.ref b18), .val (.int (0 : Int32)), .unset, .unset] [(.ref b18)])) _
        refine XS.iload X20.here hx rfl (hb hby at_174) rfl ?_
        exact kt
      obtain ⟨_, _, ⟨T37, L37, k37, n37⟩, -, X37, ⟨Lc37, hQ37, l37, y37, z37⟩, st37⟩ := Jvm.LawKit.callS X20 hx (y := (⟨"com/example/conceal/conceal/SensitiveHolders", "contains", "([II)Z"⟩ : MethodName)) hown (mvT hZ (hw _ (List.mem_of_getElem? (i := 1) rfl))) (mvT hZ (hw _ (List.mem_of_getElem? (i := 2) rfl))) (mvT hZ (hw _ (List.mem_of_getElem? (i := 3) rfl))) (mvT hZ (hw _ (List.mem_of_getElem? (i := 4) rfl))) (by decide) (backOf (W := 0) (rm1n1 l Z a0 hw [] b18 i8 i0 h20 n0 Ab18_20) hZ (hw _ (List.mem_of_getElem? (i := 4) rfl)) (hw _ (List.mem_of_getElem? (i := 3) rfl)) (by decide) (by decide)) (g := (mkF m 176 #[.val (.int i0), .val (.int i1), .val (.int i2), .val (.int i3), .val (.int i4), .val (.int i5), .val (.int (1 : Int32)), .val (.int i7), .val (.int i8), .val (.ref b18), .val (.int (0 : Int32)), .unset, .unset] [(.int i8), (.ref b18)])) rfl (by rw [hml]; rfl) (argsL := [(.ref b18), (.int i8)]) (rest := []) (lenOf pd1 rfl) rfl (by show 2 * 0 + _ ≤ _; exact Nat.le_of_eq rfl) (hb hby at_176) (fun _ _ => ⟨rfl, e20, (by decide : 1 + 0 ≤ _), (by decide : 1 + 0 ≤ _)⟩)
      dsimp only [Pt.U, Pt.locs, Pt.cells, Pt.slots] at X37 l37 y37 z37 st37 hQ37
      subst l37 y37 z37
      obtain ⟨rfl, Nq37, e37⟩ := hQ37
      have N37 := Fr.app N20 Nq37
      refine own_step (T' := T37) (f' := (mkF m 179 #[.val (.int i0), .val (.int i1), .val (.int i2), .val (.int i3), .val (.int i4), .val (.int i5), .val (.int (1 : Int32)), .val (.int i7), .val (.int i8), .val (.ref b18), .val (.int (0 : Int32)), .unset, .unset] [(.int (f1n1_0 i8 i0))])) st37 ?_
      refine own_step (T' := T37) (f' := (mkF m 183 #[.val (.int i0), .val (.int i1), .val (.int i2), .val (.int i3), .val (.int i4), .val (.int i5), .val (.int (1 : Int32)), .val (.int i7), .val (.int i8), .val (.ref b18), .val (.int (0 : Int32)), .val (.int (f1n1_0 i8 i0)), .unset] [(.int (1 : Int32))])) (fun t kt => ?_) ?_
      · show Steps p.tables e below (T37.setTop (mkF m 179 #[.val (.int i0), .val (.int i1), .val (.int i2), .val (.int i3), .val (.int i4), .val (.int i5), .val (.int (1 : Int32)), .val (.int i7), .val (.int i8), .val (.ref b18), .val (.int (0 : Int32)), .unset, .unset] [(.int (f1n1_0 i8 i0))])) _
        refine XS.istore X37.here hx rfl (hb hby at_179) rfl (l' := #[.val (.int i0), .val (.int i1), .val (.int i2), .val (.int i3), .val (.int i4), .val (.int i5), .val (.int (1 : Int32)), .val (.int i7), .val (.int i8), .val (.ref b18), .val (.int (0 : Int32)), .val (.int (f1n1_0 i8 i0)), .unset]) rfl ?_
        show Steps p.tables e below (T37.setTop (mkF m 181 #[.val (.int i0), .val (.int i1), .val (.int i2), .val (.int i3), .val (.int i4), .val (.int i5), .val (.int (1 : Int32)), .val (.int i7), .val (.int i8), .val (.ref b18), .val (.int (0 : Int32)), .val (.int (f1n1_0 i8 i0)), .unset] [])) _
        refine XS.iload X37.here hx rfl (hb hby at_181) rfl ?_
        exact kt
      refine own_step (T' := T37) (f' := (mkF m 186 #[.val (.int i0), .val (.int i1), .val (.int i2), .val (.int i3), .val (.int i4), .val (.int i5), .val (.int (1 : Int32)), .val (.int i7), .val (.int i8), .val (.ref b18), .val (.int (0 : Int32)), .val (.int (f1n1_0 i8 i0)), .unset] [])) (fun t kt => ?_) ?_
      · show Steps p.tables e below (T37.setTop (mkF m 183 #[.val (.int i0), .val (.int i1), .val (.int i2), .val (.int i3), .val (.int i4), .val (.int i5), .val (.int (1 : Int32)), .val (.int i7), .val (.int i8), .val (.ref b18), .val (.int (0 : Int32)), .val (.int (f1n1_0 i8 i0)), .unset] [(.int (1 : Int32))])) _
        refine XS.ifNo X37.here hx rfl (hb hby at_183) rfl ((if0 _ _).trans (tlt (by decide : ((0 : Int32) < (1 : Int32)))).2.2.2) kt
      refine own_step (T' := T37) (f' := (mkF m 191 #[.val (.int i0), .val (.int i1), .val (.int i2), .val (.int i3), .val (.int i4), .val (.int i5), .val (.int (1 : Int32)), .val (.int i7), .val (.int i8), .val (.ref b18), .val (.int (0 : Int32)), .val (.int (f1n1_0 i8 i0)), .unset] [(.int i0), (.int i0)])) (fun t kt => ?_) ?_
      · show Steps p.tables e below (T37.setTop (mkF m 186 #[.val (.int i0), .val (.int i1), .val (.int i2), .val (.int i3), .val (.int i4), .val (.int i5), .val (.int (1 : Int32)), .val (.int i7), .val (.int i8), .val (.ref b18), .val (.int (0 : Int32)), .val (.int (f1n1_0 i8 i0)), .unset] [])) _
        refine XS.aload X37.here hx rfl (hb hby at_186) rfl rfl ?_
        show Steps p.tables e below (T37.setTop (mkF m 188 #[.val (.int i0), .val (.int i1), .val (.int i2), .val (.int i3), .val (.int i4), .val (.int i5), .val (.int (1 : Int32)), .val (.int i7), .val (.int i8), .val (.ref b18), .val (.int (0 : Int32)), .val (.int (f1n1_0 i8 i0)), .unset] [(.ref b18)])) _
        refine XS.iconst X37.here hx rfl (hb hby at_188) ?_
        show Steps p.tables e below (T37.setTop (mkF m 189 #[.val (.int i0), .val (.int i1), .val (.int i2), .val (.int i3), .val (.int i4), .val (.int i5), .val (.int (1 : Int32)), .val (.int i7), .val (.int i8), .val (.ref b18), .val (.int (0 : Int32)), .val (.int (f1n1_0 i8 i0)), .unset] [(.int (0 : Int32)), (.ref b18)])) _
        refine own_ldI X37 hx hZ e37 Ab18_20 (j := (0 : Int32)) (by decide) (k := 0) (by decide) (v := (.int i0)) rfl (g := (mkF m 189 #[.val (.int i0), .val (.int i1), .val (.int i2), .val (.int i3), .val (.int i4), .val (.int i5), .val (.int (1 : Int32)), .val (.int i7), .val (.int i8), .val (.ref b18), .val (.int (0 : Int32)), .val (.int (f1n1_0 i8 i0)), .unset] [(.int (0 : Int32)), (.ref b18)])) rfl rfl (hb hby at_189) _ ?_
        show Steps p.tables e below (T37.setTop (mkF m 190 #[.val (.int i0), .val (.int i1), .val (.int i2), .val (.int i3), .val (.int i4), .val (.int i5), .val (.int (1 : Int32)), .val (.int i7), .val (.int i8), .val (.ref b18), .val (.int (0 : Int32)), .val (.int (f1n1_0 i8 i0)), .unset] [(.int i0)])) _
        refine XS.iloadN X37.here hx rfl (hb hby at_190) rfl ?_
        exact kt
      refine own_step (T' := T37) (f' := (mkF m 194 #[.val (.int i0), .val (.int i1), .val (.int i2), .val (.int i3), .val (.int i4), .val (.int i5), .val (.int (1 : Int32)), .val (.int i7), .val (.int i8), .val (.ref b18), .val (.int (0 : Int32)), .val (.int (f1n1_0 i8 i0)), .unset] [])) (fun t kt => ?_) ?_
      · show Steps p.tables e below (T37.setTop (mkF m 191 #[.val (.int i0), .val (.int i1), .val (.int i2), .val (.int i3), .val (.int i4), .val (.int i5), .val (.int (1 : Int32)), .val (.int i7), .val (.int i8), .val (.ref b18), .val (.int (0 : Int32)), .val (.int (f1n1_0 i8 i0)), .unset] [(.int i0), (.int i0)])) _
        refine XS.icmpNo X37.here hx rfl (hb hby at_191) rfl (teq (rfl : i0 = i0)).2 kt
      refine own_step (T' := T37) (f' := (mkF m 197 #[.val (.int i0), .val (.int i1), .val (.int i2), .val (.int i3), .val (.int i4), .val (.int i5), .val (.int (1 : Int32)), .val (.int i7), .val (.int i8), .val (.ref b18), .val (.int (0 : Int32)), .val (.int (f1n1_0 i8 i0)), .unset] [(.int (1 : Int32)), (.int (1 : Int32))])) (fun t kt => ?_) ?_
      · show Steps p.tables e below (T37.setTop (mkF m 194 #[.val (.int i0), .val (.int i1), .val (.int i2), .val (.int i3), .val (.int i4), .val (.int i5), .val (.int (1 : Int32)), .val (.int i7), .val (.int i8), .val (.ref b18), .val (.int (0 : Int32)), .val (.int (f1n1_0 i8 i0)), .unset] [])) _
        refine XS.iload X37.here hx rfl (hb hby at_194) rfl ?_
        show Steps p.tables e below (T37.setTop (mkF m 196 #[.val (.int i0), .val (.int i1), .val (.int i2), .val (.int i3), .val (.int i4), .val (.int i5), .val (.int (1 : Int32)), .val (.int i7), .val (.int i8), .val (.ref b18), .val (.int (0 : Int32)), .val (.int (f1n1_0 i8 i0)), .unset] [(.int (1 : Int32))])) _
        refine XS.iconst X37.here hx rfl (hb hby at_196) ?_
        exact kt
      refine own_step (T' := T37) (f' := (mkF m 208 #[.val (.int i0), .val (.int i1), .val (.int i2), .val (.int i3), .val (.int i4), .val (.int i5), .val (.int (1 : Int32)), .val (.int i7), .val (.int i8), .val (.ref b18), .val (.int (0 : Int32)), .val (.int (f1n1_0 i8 i0)), .unset] [])) (fun t kt => ?_) ?_
      · show Steps p.tables e below (T37.setTop (mkF m 197 #[.val (.int i0), .val (.int i1), .val (.int i2), .val (.int i3), .val (.int i4), .val (.int i5), .val (.int (1 : Int32)), .val (.int i7), .val (.int i8), .val (.ref b18), .val (.int (0 : Int32)), .val (.int (f1n1_0 i8 i0)), .unset] [(.int (1 : Int32)), (.int (1 : Int32))])) _
        refine XS.icmpYes X37.here hx rfl (pc0 := 197) (pc' := 208) rfl (hb hby at_197) rfl (flt (by decide : ¬ ((1 : Int32) < (1 : Int32)))).2.2.2 (by decide) (by decide) kt
      refine own_step (T' := T37) (f' := (mkF m 211 #[.val (.int i0), .val (.int i1), .val (.int i2), .val (.int i3), .val (.int i4), .val (.int i5), .val (.int (1 : Int32)), .val (.int i7), .val (.int i8), .val (.ref b18), .val (.int (0 : Int32)), .val (.int (f1n1_0 i8 i0)), .unset] [(.int (2 : Int32)), (.int (1 : Int32))])) (fun t kt => ?_) ?_
      · show Steps p.tables e below (T37.setTop (mkF m 208 #[.val (.int i0), .val (.int i1), .val (.int i2), .val (.int i3), .val (.int i4), .val (.int i5), .val (.int (1 : Int32)), .val (.int i7), .val (.int i8), .val (.ref b18), .val (.int (0 : Int32)), .val (.int (f1n1_0 i8 i0)), .unset] [])) _
        refine XS.iload X37.here hx rfl (hb hby at_208) rfl ?_
        show Steps p.tables e below (T37.setTop (mkF m 210 #[.val (.int i0), .val (.int i1), .val (.int i2), .val (.int i3), .val (.int i4), .val (.int i5), .val (.int (1 : Int32)), .val (.int i7), .val (.int i8), .val (.ref b18), .val (.int (0 : Int32)), .val (.int (f1n1_0 i8 i0)), .unset] [(.int (1 : Int32))])) _
        refine XS.iconst X37.here hx rfl (hb hby at_210) ?_
        exact kt
      refine own_step (T' := T37) (f' := (mkF m 222 #[.val (.int i0), .val (.int i1), .val (.int i2), .val (.int i3), .val (.int i4), .val (.int i5), .val (.int (1 : Int32)), .val (.int i7), .val (.int i8), .val (.ref b18), .val (.int (0 : Int32)), .val (.int (f1n1_0 i8 i0)), .unset] [])) (fun t kt => ?_) ?_
      · show Steps p.tables e below (T37.setTop (mkF m 211 #[.val (.int i0), .val (.int i1), .val (.int i2), .val (.int i3), .val (.int i4), .val (.int i5), .val (.int (1 : Int32)), .val (.int i7), .val (.int i8), .val (.ref b18), .val (.int (0 : Int32)), .val (.int (f1n1_0 i8 i0)), .unset] [(.int (2 : Int32)), (.int (1 : Int32))])) _
        refine XS.icmpYes X37.here hx rfl (pc0 := 211) (pc' := 222) rfl (hb hby at_211) rfl (flt (by decide : ¬ ((2 : Int32) < (1 : Int32)))).2.2.2 (by decide) (by decide) kt
      refine own_step (T' := T37) (f' := (mkF m 225 #[.val (.int i0), .val (.int i1), .val (.int i2), .val (.int i3), .val (.int i4), .val (.int i5), .val (.int (1 : Int32)), .val (.int i7), .val (.int i8), .val (.ref b18), .val (.int (0 : Int32)), .val (.int (f1n1_0 i8 i0)), .unset] [(.int (3 : Int32)), (.int (1 : Int32))])) (fun t kt => ?_) ?_
      · show Steps p.tables e below (T37.setTop (mkF m 222 #[.val (.int i0), .val (.int i1), .val (.int i2), .val (.int i3), .val (.int i4), .val (.int i5), .val (.int (1 : Int32)), .val (.int i7), .val (.int i8), .val (.ref b18), .val (.int (0 : Int32)), .val (.int (f1n1_0 i8 i0)), .unset] [])) _
        refine XS.iload X37.here hx rfl (hb hby at_222) rfl ?_
        show Steps p.tables e below (T37.setTop (mkF m 224 #[.val (.int i0), .val (.int i1), .val (.int i2), .val (.int i3), .val (.int i4), .val (.int i5), .val (.int (1 : Int32)), .val (.int i7), .val (.int i8), .val (.ref b18), .val (.int (0 : Int32)), .val (.int (f1n1_0 i8 i0)), .unset] [(.int (1 : Int32))])) _
        refine XS.iconst X37.here hx rfl (hb hby at_224) ?_
        exact kt
      refine own_step (T' := T37) (f' := (mkF m 236 #[.val (.int i0), .val (.int i1), .val (.int i2), .val (.int i3), .val (.int i4), .val (.int i5), .val (.int (1 : Int32)), .val (.int i7), .val (.int i8), .val (.ref b18), .val (.int (0 : Int32)), .val (.int (f1n1_0 i8 i0)), .unset] [])) (fun t kt => ?_) ?_
      · show Steps p.tables e below (T37.setTop (mkF m 225 #[.val (.int i0), .val (.int i1), .val (.int i2), .val (.int i3), .val (.int i4), .val (.int i5), .val (.int (1 : Int32)), .val (.int i7), .val (.int i8), .val (.ref b18), .val (.int (0 : Int32)), .val (.int (f1n1_0 i8 i0)), .unset] [(.int (3 : Int32)), (.int (1 : Int32))])) _
        refine XS.icmpYes X37.here hx rfl (pc0 := 225) (pc' := 236) rfl (hb hby at_225) rfl (flt (by decide : ¬ ((3 : Int32) < (1 : Int32)))).2.2.2 (by decide) (by decide) kt
      refine own_step (T' := T37) (f' := (mkF m 247 #[.val (.int i0), .val (.int i1), .val (.int i2), .val (.int i3), .val (.int i4), .val (.int i5), .val (.int (1 : Int32)), .val (.int i7), .val (.int i8), .val (.ref b18), .val (.int (0 : Int32)), .val (.int (f1n1_0 i8 i0)), .val (.int (1 : Int32))] [(.int (0 : Int32)), (.int (f1n1_0 i8 i0))])) (fun t kt => ?_) ?_
      · show Steps p.tables e below (T37.setTop (mkF m 236 #[.val (.int i0), .val (.int i1), .val (.int i2), .val (.int i3), .val (.int i4), .val (.int i5), .val (.int (1 : Int32)), .val (.int i7), .val (.int i8), .val (.ref b18), .val (.int (0 : Int32)), .val (.int (f1n1_0 i8 i0)), .unset] [])) _
        refine XS.iconst X37.here hx rfl (hb hby at_236) ?_
        show Steps p.tables e below (T37.setTop (mkF m 237 #[.val (.int i0), .val (.int i1), .val (.int i2), .val (.int i3), .val (.int i4), .val (.int i5), .val (.int (1 : Int32)), .val (.int i7), .val (.int i8), .val (.ref b18), .val (.int (0 : Int32)), .val (.int (f1n1_0 i8 i0)), .unset] [(.int (1 : Int32))])) _
        refine XS.goto X37.here hx rfl (pc0 := 237) (pc' := 241) rfl (hb hby at_237) (by decide) (by decide) ?_
        show Steps p.tables e below (T37.setTop (mkF m 241 #[.val (.int i0), .val (.int i1), .val (.int i2), .val (.int i3), .val (.int i4), .val (.int i5), .val (.int (1 : Int32)), .val (.int i7), .val (.int i8), .val (.ref b18), .val (.int (0 : Int32)), .val (.int (f1n1_0 i8 i0)), .unset] [(.int (1 : Int32))])) _
        refine XS.istore X37.here hx rfl (hb hby at_241) rfl (l' := #[.val (.int i0), .val (.int i1), .val (.int i2), .val (.int i3), .val (.int i4), .val (.int i5), .val (.int (1 : Int32)), .val (.int i7), .val (.int i8), .val (.ref b18), .val (.int (0 : Int32)), .val (.int (f1n1_0 i8 i0)), .val (.int (1 : Int32))]) rfl ?_
        show Steps p.tables e below (T37.setTop (mkF m 243 #[.val (.int i0), .val (.int i1), .val (.int i2), .val (.int i3), .val (.int i4), .val (.int i5), .val (.int (1 : Int32)), .val (.int i7), .val (.int i8), .val (.ref b18), .val (.int (0 : Int32)), .val (.int (f1n1_0 i8 i0)), .val (.int (1 : Int32))] [])) _
        refine XS.iload X37.here hx rfl (hb hby at_243) rfl ?_
        show Steps p.tables e below (T37.setTop (mkF m 245 #[.val (.int i0), .val (.int i1), .val (.int i2), .val (.int i3), .val (.int i4), .val (.int i5), .val (.int (1 : Int32)), .val (.int i7), .val (.int i8), .val (.ref b18), .val (.int (0 : Int32)), .val (.int (f1n1_0 i8 i0)), .val (.int (1 : Int32))] [(.int (f1n1_0 i8 i0))])) _
        refine XS.iload X37.here hx rfl (hb hby at_245) rfl ?_
        exact kt
      by_cases hc247_43 : (f1n1_0 i8 i0) = (0 : Int32)
      · rw [if_pos hc247_43] at hr
        refine own_step (T' := T37) (f' := (mkF m 250 #[.val (.int i0), .val (.int i1), .val (.int i2), .val (.int i3), .val (.int i4), .val (.int i5), .val (.int (1 : Int32)), .val (.int i7), .val (.int i8), .val (.ref b18), .val (.int (0 : Int32)), .val (.int (f1n1_0 i8 i0)), .val (.int (1 : Int32))] [])) (fun t kt => ?_) ?_
        · show Steps p.tables e below (T37.setTop (mkF m 247 #[.val (.int i0), .val (.int i1), .val (.int i2), .val (.int i3), .val (.int i4), .val (.int i5), .val (.int (1 : Int32)), .val (.int i7), .val (.int i8), .val (.ref b18), .val (.int (0 : Int32)), .val (.int (f1n1_0 i8 i0)), .val (.int (1 : Int32))] [(.int (0 : Int32)), (.int (f1n1_0 i8 i0))])) _
          refine XS.icmpNo X37.here hx rfl (hb hby at_247) rfl (teq hc247_43).2 kt
        refine own_step (T' := T37) (f' := (mkF m 252 #[.val (.int i0), .val (.int i1), .val (.int i2), .val (.int i3), .val (.int i4), .val (.int i5), .val (.int (1 : Int32)), .val (.int i7), .val (.int i8), .val (.ref b18), .val (.int (0 : Int32)), .val (.int (f1n1_0 i8 i0)), .val (.int (1 : Int32))] [(.int (1 : Int32))])) (fun t kt => ?_) ?_
        · show Steps p.tables e below (T37.setTop (mkF m 250 #[.val (.int i0), .val (.int i1), .val (.int i2), .val (.int i3), .val (.int i4), .val (.int i5), .val (.int (1 : Int32)), .val (.int i7), .val (.int i8), .val (.ref b18), .val (.int (0 : Int32)), .val (.int (f1n1_0 i8 i0)), .val (.int (1 : Int32))] [])) _
          refine XS.iload X37.here hx rfl (hb hby at_250) rfl ?_
          exact kt
        refine own_step (T' := T37) (f' := (mkF m 255 #[.val (.int i0), .val (.int i1), .val (.int i2), .val (.int i3), .val (.int i4), .val (.int i5), .val (.int (1 : Int32)), .val (.int i7), .val (.int i8), .val (.ref b18), .val (.int (0 : Int32)), .val (.int (f1n1_0 i8 i0)), .val (.int (1 : Int32))] [])) (fun t kt => ?_) ?_
        · show Steps p.tables e below (T37.setTop (mkF m 252 #[.val (.int i0), .val (.int i1), .val (.int i2), .val (.int i3), .val (.int i4), .val (.int i5), .val (.int (1 : Int32)), .val (.int i7), .val (.int i8), .val (.ref b18), .val (.int (0 : Int32)), .val (.int (f1n1_0 i8 i0)), .val (.int (1 : Int32))] [(.int (1 : Int32))])) _
          refine XS.ifNo X37.here hx rfl (hb hby at_252) rfl ((if0 _ _).trans (feq (by decide : ¬ ((1 : Int32) = (0 : Int32)))).1) kt
        refine own_step (T' := T37) (f' := (mkF m 260 #[.val (.int i0), .val (.int i1), .val (.int i2), .val (.int i3), .val (.int i4), .val (.int i5), .val (.int (1 : Int32)), .val (.int i7), .val (.int i8), .val (.ref b18), .val (.int (0 : Int32)), .val (.int (f1n1_0 i8 i0)), .val (.int (1 : Int32))] [(.int (1 : Int32))])) (fun t kt => ?_) ?_
        · show Steps p.tables e below (T37.setTop (mkF m 255 #[.val (.int i0), .val (.int i1), .val (.int i2), .val (.int i3), .val (.int i4), .val (.int i5), .val (.int (1 : Int32)), .val (.int i7), .val (.int i8), .val (.ref b18), .val (.int (0 : Int32)), .val (.int (f1n1_0 i8 i0)), .val (.int (1 : Int32))] [])) _
          refine XS.iconst X37.here hx rfl (hb hby at_255) ?_
          show Steps p.tables e below (T37.setTop (mkF m 256 #[.val (.int i0), .val (.int i1), .val (.int i2), .val (.int i3), .val (.int i4), .val (.int i5), .val (.int (1 : Int32)), .val (.int i7), .val (.int i8), .val (.ref b18), .val (.int (0 : Int32)), .val (.int (f1n1_0 i8 i0)), .val (.int (1 : Int32))] [(.int (1 : Int32))])) _
          refine XS.goto X37.here hx rfl (pc0 := 256) (pc' := 260) rfl (hb hby at_256) (by decide) (by decide) ?_
          exact kt
        exact own_retZ X37 hx hret (by simp) hlk (hb hby at_260) (by decide) (by decide) ⟨congrArg (fun z => some (Value.int z)) hr.symm, N37⟩
      · rw [if_neg hc247_43] at hr
        refine own_step (T' := T37) (f' := (mkF m 259 #[.val (.int i0), .val (.int i1), .val (.int i2), .val (.int i3), .val (.int i4), .val (.int i5), .val (.int (1 : Int32)), .val (.int i7), .val (.int i8), .val (.ref b18), .val (.int (0 : Int32)), .val (.int (f1n1_0 i8 i0)), .val (.int (1 : Int32))] [])) (fun t kt => ?_) ?_
        · show Steps p.tables e below (T37.setTop (mkF m 247 #[.val (.int i0), .val (.int i1), .val (.int i2), .val (.int i3), .val (.int i4), .val (.int i5), .val (.int (1 : Int32)), .val (.int i7), .val (.int i8), .val (.ref b18), .val (.int (0 : Int32)), .val (.int (f1n1_0 i8 i0)), .val (.int (1 : Int32))] [(.int (0 : Int32)), (.int (f1n1_0 i8 i0))])) _
          refine XS.icmpYes X37.here hx rfl (pc0 := 247) (pc' := 259) rfl (hb hby at_247) rfl (feq hc247_43).2 (by decide) (by decide) kt
        refine own_step (T' := T37) (f' := (mkF m 260 #[.val (.int i0), .val (.int i1), .val (.int i2), .val (.int i3), .val (.int i4), .val (.int i5), .val (.int (1 : Int32)), .val (.int i7), .val (.int i8), .val (.ref b18), .val (.int (0 : Int32)), .val (.int (f1n1_0 i8 i0)), .val (.int (1 : Int32))] [(.int (0 : Int32))])) (fun t kt => ?_) ?_
        · show Steps p.tables e below (T37.setTop (mkF m 259 #[.val (.int i0), .val (.int i1), .val (.int i2), .val (.int i3), .val (.int i4), .val (.int i5), .val (.int (1 : Int32)), .val (.int i7), .val (.int i8), .val (.ref b18), .val (.int (0 : Int32)), .val (.int (f1n1_0 i8 i0)), .val (.int (1 : Int32))] [])) _
          refine XS.iconst X37.here hx rfl (hb hby at_259) ?_
          exact kt
        exact own_retZ X37 hx hret (by simp) hlk (hb hby at_260) (by decide) (by decide) ⟨congrArg (fun z => some (Value.int z)) hr.symm, N37⟩
  · rw [if_neg (by decide), if_neg (by decide), if_pos rfl] at hr
    refine own_step (T' := T0) (f' := (mkF m 71 #[.val (.int i0), .val (.int i1), .val (.int i2), .val (.int i3), .val (.int i4), .val (.int i5), .val (.int (2 : Int32)), .val (.int i7), .val (.int i8), .unset, .unset, .unset, .unset] [(.int (2 : Int32))])) (fun t kt => ?_) ?_
    · show Steps p.tables e below (T0.setTop (mkF m 69 #[.val (.int i0), .val (.int i1), .val (.int i2), .val (.int i3), .val (.int i4), .val (.int i5), .val (.int (2 : Int32)), .val (.int i7), .val (.int i8), .unset, .unset, .unset, .unset] [])) _
      refine XS.iload X0.here hx rfl (hb hby at_69) rfl ?_
      exact kt
    obtain ⟨T45, h45, b45, X45, e45, Ex45, gb45, g45, Z45, Aq45, st45⟩ := own_new X0 hx hZ (aty := .int) (hw _ (List.mem_of_getElem? (i := 0) rfl)) e0 (g := (mkF m 71 #[.val (.int i0), .val (.int i1), .val (.int i2), .val (.int i3), .val (.int i4), .val (.int i5), .val (.int (2 : Int32)), .val (.int i7), .val (.int i8), .unset, .unset, .unset, .unset] [(.int (2 : Int32))])) rfl (hb hby at_71) rfl (by decide) (k := 2) (by decide) (by decide) (by decide) (by decide) Z0
    have Ab45_45 : own_A Z h45 b45 .int [(.int (0 : Int32)), (.int (0 : Int32))] := Aq45
    refine own_step (T' := T45) (f' := (mkF m 73 #[.val (.int i0), .val (.int i1), .val (.int i2), .val (.int i3), .val (.int i4), .val (.int i5), .val (.int (2 : Int32)), .val (.int i7), .val (.int i8), .unset, .unset, .unset, .unset] [(.ref b45)])) st45 ?_
    refine own_step (T' := T45) (f' := (mkF m 77 #[.val (.int i0), .val (.int i1), .val (.int i2), .val (.int i3), .val (.int i4), .val (.int i5), .val (.int (2 : Int32)), .val (.int i7), .val (.int i8), .val (.ref b45), .unset, .unset, .unset] [(.int (2 : Int32))])) (fun t kt => ?_) ?_
    · show Steps p.tables e below (T45.setTop (mkF m 73 #[.val (.int i0), .val (.int i1), .val (.int i2), .val (.int i3), .val (.int i4), .val (.int i5), .val (.int (2 : Int32)), .val (.int i7), .val (.int i8), .unset, .unset, .unset, .unset] [(.ref b45)])) _
      refine XS.astore X45.here hx rfl (hb hby at_73) rfl rfl (l' := #[.val (.int i0), .val (.int i1), .val (.int i2), .val (.int i3), .val (.int i4), .val (.int i5), .val (.int (2 : Int32)), .val (.int i7), .val (.int i8), .val (.ref b45), .unset, .unset, .unset]) rfl ?_
      show Steps p.tables e below (T45.setTop (mkF m 75 #[.val (.int i0), .val (.int i1), .val (.int i2), .val (.int i3), .val (.int i4), .val (.int i5), .val (.int (2 : Int32)), .val (.int i7), .val (.int i8), .val (.ref b45), .unset, .unset, .unset] [])) _
      refine XS.iload X45.here hx rfl (hb hby at_75) rfl ?_
      exact kt
    refine own_step (T' := T45) (f' := (mkF m 80 #[.val (.int i0), .val (.int i1), .val (.int i2), .val (.int i3), .val (.int i4), .val (.int i5), .val (.int (2 : Int32)), .val (.int i7), .val (.int i8), .val (.ref b45), .unset, .unset, .unset] [])) (fun t kt => ?_) ?_
    · show Steps p.tables e below (T45.setTop (mkF m 77 #[.val (.int i0), .val (.int i1), .val (.int i2), .val (.int i3), .val (.int i4), .val (.int i5), .val (.int (2 : Int32)), .val (.int i7), .val (.int i8), .val (.ref b45), .unset, .unset, .unset] [(.int (2 : Int32))])) _
      refine XS.ifNo X45.here hx rfl (hb hby at_77) rfl ((if0 _ _).trans (tlt (by decide : ((0 : Int32) < (2 : Int32)))).2.2.2) kt
    refine own_step (T' := T45) (f' := (mkF m 84 #[.val (.int i0), .val (.int i1), .val (.int i2), .val (.int i3), .val (.int i4), .val (.int i5), .val (.int (2 : Int32)), .val (.int i7), .val (.int i8), .val (.ref b45), .unset, .unset, .unset] [(.int i0), (.int (0 : Int32)), (.ref b45)])) (fun t kt => ?_) ?_
    · show Steps p.tables e below (T45.setTop (mkF m 80 #[.val (.int i0), .val (.int i1), .val (.int i2), .val (.int i3), .val (.int i4), .val (.int i5), .val (.int (2 : Int32)), .val (.int i7), .val (.int i8), .val (.ref b45), .unset, .unset, .unset] [])) _
      refine XS.aload X45.here hx rfl (hb hby at_80) rfl rfl ?_
      show Steps p.tables e below (T45.setTop (mkF m 82 #[.val (.int i0), .val (.int i1), .val (.int i2), .val (.int i3), .val (.int i4), .val (.int i5), .val (.int (2 : Int32)), .val (.int i7), .val (.int i8), .val (.ref b45), .unset, .unset, .unset] [(.ref b45)])) _
      refine XS.iconst X45.here hx rfl (hb hby at_82) ?_
      show Steps p.tables e below (T45.setTop (mkF m 83 #[.val (.int i0), .val (.int i1), .val (.int i2), .val (.int i3), .val (.int i4), .val (.int i5), .val (.int (2 : Int32)), .val (.int i7), .val (.int i8), .val (.ref b45), .unset, .unset, .unset] [(.int (0 : Int32)), (.ref b45)])) _
      refine XS.iloadN X45.here hx rfl (hb hby at_83) rfl ?_
      exact kt
    obtain ⟨T47, h47, Lq47, X47, N47, e47, W47, Z47, Aq47, st47⟩ := own_stI X45 hx hZ e45 Ab45_45 (j := (0 : Int32)) (by decide) (k := 0) (by decide) (Nat.le_of_ble_eq_true rfl) N0 g45 Z45 (g := (mkF m 84 #[.val (.int i0), .val (.int i1), .val (.int i2), .val (.int i3), .val (.int i4), .val (.int i5), .val (.int (2 : Int32)), .val (.int i7), .val (.int i8), .val (.ref b45), .unset, .unset, .unset] [(.int i0), (.int (0 : Int32)), (.ref b45)])) rfl rfl (hb hby at_84)
    have Ab45_47 : own_A Z h47 b45 .int [(.int i0), (.int (0 : Int32))] := Aq47
    refine own_step (T' := T47) (f' := (mkF m 85 #[.val (.int i0), .val (.int i1), .val (.int i2), .val (.int i3), .val (.int i4), .val (.int i5), .val (.int (2 : Int32)), .val (.int i7), .val (.int i8), .val (.ref b45), .unset, .unset, .unset] [])) st47 ?_
    refine own_step (T' := T47) (f' := (mkF m 88 #[.val (.int i0), .val (.int i1), .val (.int i2), .val (.int i3), .val (.int i4), .val (.int i5), .val (.int (2 : Int32)), .val (.int i7), .val (.int i8), .val (.ref b45), .unset, .unset, .unset] [(.int (1 : Int32)), (.int (2 : Int32))])) (fun t kt => ?_) ?_
    · show Steps p.tables e below (T47.setTop (mkF m 85 #[.val (.int i0), .val (.int i1), .val (.int i2), .val (.int i3), .val (.int i4), .val (.int i5), .val (.int (2 : Int32)), .val (.int i7), .val (.int i8), .val (.ref b45), .unset, .unset, .unset] [])) _
      refine XS.iload X47.here hx rfl (hb hby at_85) rfl ?_
      show Steps p.tables e below (T47.setTop (mkF m 87 #[.val (.int i0), .val (.int i1), .val (.int i2), .val (.int i3), .val (.int i4), .val (.int i5), .val (.int (2 : Int32)), .val (.int i7), .val (.int i8), .val (.ref b45), .unset, .unset, .unset] [(.int (2 : Int32))])) _
      refine XS.iconst X47.here hx rfl (hb hby at_87) ?_
      exact kt
    refine own_step (T' := T47) (f' := (mkF m 91 #[.val (.int i0), .val (.int i1), .val (.int i2), .val (.int i3), .val (.int i4), .val (.int i5), .val (.int (2 : Int32)), .val (.int i7), .val (.int i8), .val (.ref b45), .unset, .unset, .unset] [])) (fun t kt => ?_) ?_
    · show Steps p.tables e below (T47.setTop (mkF m 88 #[.val (.int i0), .val (.int i1), .val (.int i2), .val (.int i3), .val (.int i4), .val (.int i5), .val (.int (2 : Int32)), .val (.int i7), .val (.int i8), .val (.ref b45), .unset, .unset, .unset] [(.int (1 : Int32)), (.int (2 : Int32))])) _
      refine XS.icmpNo X47.here hx rfl (hb hby at_88) rfl (tlt (by decide : ((1 : Int32) < (2 : Int32)))).2.2.2 kt
    refine own_step (T' := T47) (f' := (mkF m 95 #[.val (.int i0), .val (.int i1), .val (.int i2), .val (.int i3), .val (.int i4), .val (.int i5), .val (.int (2 : Int32)), .val (.int i7), .val (.int i8), .val (.ref b45), .unset, .unset, .unset] [(.int i1), (.int (1 : Int32)), (.ref b45)])) (fun t kt => ?_) ?_
    · show Steps p.tables e below (T47.setTop (mkF m 91 #[.val (.int i0), .val (.int i1), .val (.int i2), .val (.int i3), .val (.int i4), .val (.int i5), .val (.int (2 : Int32)), .val (.int i7), .val (.int i8), .val (.ref b45), .unset, .unset, .unset] [])) _
      refine XS.aload X47.here hx rfl (hb hby at_91) rfl rfl ?_
      show Steps p.tables e below (T47.setTop (mkF m 93 #[.val (.int i0), .val (.int i1), .val (.int i2), .val (.int i3), .val (.int i4), .val (.int i5), .val (.int (2 : Int32)), .val (.int i7), .val (.int i8), .val (.ref b45), .unset, .unset, .unset] [(.ref b45)])) _
      refine XS.iconst X47.here hx rfl (hb hby at_93) ?_
      show Steps p.tables e below (T47.setTop (mkF m 94 #[.val (.int i0), .val (.int i1), .val (.int i2), .val (.int i3), .val (.int i4), .val (.int i5), .val (.int (2 : Int32)), .val (.int i7), .val (.int i8), .val (.ref b45), .unset, .unset, .unset] [(.int (1 : Int32)), (.ref b45)])) _
      refine XS.iloadN X47.here hx rfl (hb hby at_94) rfl ?_
      exact kt
    obtain ⟨T49, h49, Lq49, X49, N49, e49, W49, Z49, Aq49, st49⟩ := own_stI X47 hx hZ e47 Ab45_47 (j := (1 : Int32)) (by decide) (k := 1) (by decide) (Nat.le_of_ble_eq_true rfl) N47 g45 Z47 (g := (mkF m 95 #[.val (.int i0), .val (.int i1), .val (.int i2), .val (.int i3), .val (.int i4), .val (.int i5), .val (.int (2 : Int32)), .val (.int i7), .val (.int i8), .val (.ref b45), .unset, .unset, .unset] [(.int i1), (.int (1 : Int32)), (.ref b45)])) rfl rfl (hb hby at_95)
    have Ab45_49 : own_A Z h49 b45 .int [(.int i0), (.int i1)] := Aq49
    refine own_step (T' := T49) (f' := (mkF m 96 #[.val (.int i0), .val (.int i1), .val (.int i2), .val (.int i3), .val (.int i4), .val (.int i5), .val (.int (2 : Int32)), .val (.int i7), .val (.int i8), .val (.ref b45), .unset, .unset, .unset] [])) st49 ?_
    refine own_step (T' := T49) (f' := (mkF m 99 #[.val (.int i0), .val (.int i1), .val (.int i2), .val (.int i3), .val (.int i4), .val (.int i5), .val (.int (2 : Int32)), .val (.int i7), .val (.int i8), .val (.ref b45), .unset, .unset, .unset] [(.int (2 : Int32)), (.int (2 : Int32))])) (fun t kt => ?_) ?_
    · show Steps p.tables e below (T49.setTop (mkF m 96 #[.val (.int i0), .val (.int i1), .val (.int i2), .val (.int i3), .val (.int i4), .val (.int i5), .val (.int (2 : Int32)), .val (.int i7), .val (.int i8), .val (.ref b45), .unset, .unset, .unset] [])) _
      refine XS.iload X49.here hx rfl (hb hby at_96) rfl ?_
      show Steps p.tables e below (T49.setTop (mkF m 98 #[.val (.int i0), .val (.int i1), .val (.int i2), .val (.int i3), .val (.int i4), .val (.int i5), .val (.int (2 : Int32)), .val (.int i7), .val (.int i8), .val (.ref b45), .unset, .unset, .unset] [(.int (2 : Int32))])) _
      refine XS.iconst X49.here hx rfl (hb hby at_98) ?_
      exact kt
    refine own_step (T' := T49) (f' := (mkF m 107 #[.val (.int i0), .val (.int i1), .val (.int i2), .val (.int i3), .val (.int i4), .val (.int i5), .val (.int (2 : Int32)), .val (.int i7), .val (.int i8), .val (.ref b45), .unset, .unset, .unset] [])) (fun t kt => ?_) ?_
    · show Steps p.tables e below (T49.setTop (mkF m 99 #[.val (.int i0), .val (.int i1), .val (.int i2), .val (.int i3), .val (.int i4), .val (.int i5), .val (.int (2 : Int32)), .val (.int i7), .val (.int i8), .val (.ref b45), .unset, .unset, .unset] [(.int (2 : Int32)), (.int (2 : Int32))])) _
      refine XS.icmpYes X49.here hx rfl (pc0 := 99) (pc' := 107) rfl (hb hby at_99) rfl (flt (by decide : ¬ ((2 : Int32) < (2 : Int32)))).2.2.2 (by decide) (by decide) kt
    refine own_step (T' := T49) (f' := (mkF m 110 #[.val (.int i0), .val (.int i1), .val (.int i2), .val (.int i3), .val (.int i4), .val (.int i5), .val (.int (2 : Int32)), .val (.int i7), .val (.int i8), .val (.ref b45), .unset, .unset, .unset] [(.int (3 : Int32)), (.int (2 : Int32))])) (fun t kt => ?_) ?_
    · show Steps p.tables e below (T49.setTop (mkF m 107 #[.val (.int i0), .val (.int i1), .val (.int i2), .val (.int i3), .val (.int i4), .val (.int i5), .val (.int (2 : Int32)), .val (.int i7), .val (.int i8), .val (.ref b45), .unset, .unset, .unset] [])) _
      refine XS.iload X49.here hx rfl (hb hby at_107) rfl ?_
      show Steps p.tables e below (T49.setTop (mkF m 109 #[.val (.int i0), .val (.int i1), .val (.int i2), .val (.int i3), .val (.int i4), .val (.int i5), .val (.int (2 : Int32)), .val (.int i7), .val (.int i8), .val (.ref b45), .unset, .unset, .unset] [(.int (2 : Int32))])) _
      refine XS.iconst X49.here hx rfl (hb hby at_109) ?_
      exact kt
    refine own_step (T' := T49) (f' := (mkF m 118 #[.val (.int i0), .val (.int i1), .val (.int i2), .val (.int i3), .val (.int i4), .val (.int i5), .val (.int (2 : Int32)), .val (.int i7), .val (.int i8), .val (.ref b45), .unset, .unset, .unset] [])) (fun t kt => ?_) ?_
    · show Steps p.tables e below (T49.setTop (mkF m 110 #[.val (.int i0), .val (.int i1), .val (.int i2), .val (.int i3), .val (.int i4), .val (.int i5), .val (.int (2 : Int32)), .val (.int i7), .val (.int i8), .val (.ref b45), .unset, .unset, .unset] [(.int (3 : Int32)), (.int (2 : Int32))])) _
      refine XS.icmpYes X49.here hx rfl (pc0 := 110) (pc' := 118) rfl (hb hby at_110) rfl (flt (by decide : ¬ ((3 : Int32) < (2 : Int32)))).2.2.2 (by decide) (by decide) kt
    refine own_step (T' := T49) (f' := (mkF m 120 #[.val (.int i0), .val (.int i1), .val (.int i2), .val (.int i3), .val (.int i4), .val (.int i5), .val (.int (2 : Int32)), .val (.int i7), .val (.int i8), .val (.ref b45), .unset, .unset, .unset] [(.int (2 : Int32))])) (fun t kt => ?_) ?_
    · show Steps p.tables e below (T49.setTop (mkF m 118 #[.val (.int i0), .val (.int i1), .val (.int i2), .val (.int i3), .val (.int i4), .val (.int i5), .val (.int (2 : Int32)), .val (.int i7), .val (.int i8), .val (.ref b45), .unset, .unset, .unset] [])) _
      refine XS.iload X49.here hx rfl (hb hby at_118) rfl ?_
      exact kt
    refine own_step (T' := T49) (f' := (mkF m 123 #[.val (.int i0), .val (.int i1), .val (.int i2), .val (.int i3), .val (.int i4), .val (.int i5), .val (.int (2 : Int32)), .val (.int i7), .val (.int i8), .val (.ref b45), .unset, .unset, .unset] [])) (fun t kt => ?_) ?_
    · show Steps p.tables e below (T49.setTop (mkF m 120 #[.val (.int i0), .val (.int i1), .val (.int i2), .val (.int i3), .val (.int i4), .val (.int i5), .val (.int (2 : Int32)), .val (.int i7), .val (.int i8), .val (.ref b45), .unset, .unset, .unset] [(.int (2 : Int32))])) _
      refine XS.ifNo X49.here hx rfl (hb hby at_120) rfl ((if0 _ _).trans (tlt (by decide : ((0 : Int32) < (2 : Int32)))).2.2.2) kt
    refine own_step (T' := T49) (f' := (mkF m 126 #[.val (.int i0), .val (.int i1), .val (.int i2), .val (.int i3), .val (.int i4), .val (.int i5), .val (.int (2 : Int32)), .val (.int i7), .val (.int i8), .val (.ref b45), .unset, .unset, .unset] [(.int i8), (.int i0)])) (fun t kt => ?_) ?_
    · show Steps p.tables e below (T49.setTop (mkF m 123 #[.val (.int i0), .val (.int i1), .val (.int i2), .val (.int i3), .val (.int i4), .val (.int i5), .val (.int (2 : Int32)), .val (.int i7), .val (.int i8), .val (.ref b45), .unset, .unset, .unset] [])) _
      refine XS.iloadN X49.here hx rfl (hb hby at_123) rfl ?_
      show Steps p.tables e below (T49.setTop (mkF m 124 #[.val (.int i0), .val (.int i1), .val (.int i2), .val (.int i3), .val (.int i4), .val (.int i5), .val (.int (2 : Int32)), .val (.int i7), .val (.int i8), .val (.ref b45), .unset, .unset, .unset] [(.int i0)])) _
      refine XS.iload X49.here hx rfl (hb hby at_124) rfl ?_
      exact kt
    by_cases hc126_53 : i0 = i8
    · rw [if_pos hc126_53] at hr
      refine own_step (T' := T49) (f' := (mkF m 165 #[.val (.int i0), .val (.int i1), .val (.int i2), .val (.int i3), .val (.int i4), .val (.int i5), .val (.int (2 : Int32)), .val (.int i7), .val (.int i8), .val (.ref b45), .unset, .unset, .unset] [])) (fun t kt => ?_) ?_
      · show Steps p.tables e below (T49.setTop (mkF m 126 #[.val (.int i0), .val (.int i1), .val (.int i2), .val (.int i3), .val (.int i4), .val (.int i5), .val (.int (2 : Int32)), .val (.int i7), .val (.int i8), .val (.ref b45), .unset, .unset, .unset] [(.int i8), (.int i0)])) _
        refine XS.icmpYes X49.here hx rfl (pc0 := 126) (pc' := 165) rfl (hb hby at_126) rfl (teq hc126_53).1 (by decide) (by decide) kt
      refine own_step (T' := T49) (f' := (mkF m 176 #[.val (.int i0), .val (.int i1), .val (.int i2), .val (.int i3), .val (.int i4), .val (.int i5), .val (.int (2 : Int32)), .val (.int i7), .val (.int i8), .val (.ref b45), .val (.int (1 : Int32)), .unset, .unset] [(.int i8), (.ref b45)])) (fun t kt => ?_) ?_
      · show Steps p.tables e below (T49.setTop (mkF m 165 #[.val (.int i0), .val (.int i1), .val (.int i2), .val (.int i3), .val (.int i4), .val (.int i5), .val (.int (2 : Int32)), .val (.int i7), .val (.int i8), .val (.ref b45), .unset, .unset, .unset] [])) _
        refine XS.iconst X49.here hx rfl (hb hby at_165) ?_
        show Steps p.tables e below (T49.setTop (mkF m 166 #[.val (.int i0), .val (.int i1), .val (.int i2), .val (.int i3), .val (.int i4), .val (.int i5), .val (.int (2 : Int32)), .val (.int i7), .val (.int i8), .val (.ref b45), .unset, .unset, .unset] [(.int (1 : Int32))])) _
        refine XS.goto X49.here hx rfl (pc0 := 166) (pc' := 170) rfl (hb hby at_166) (by decide) (by decide) ?_
        show Steps p.tables e below (T49.setTop (mkF m 170 #[.val (.int i0), .val (.int i1), .val (.int i2), .val (.int i3), .val (.int i4), .val (.int i5), .val (.int (2 : Int32)), .val (.int i7), .val (.int i8), .val (.ref b45), .unset, .unset, .unset] [(.int (1 : Int32))])) _
        refine XS.istore X49.here hx rfl (hb hby at_170) rfl (l' := #[.val (.int i0), .val (.int i1), .val (.int i2), .val (.int i3), .val (.int i4), .val (.int i5), .val (.int (2 : Int32)), .val (.int i7), .val (.int i8), .val (.ref b45), .val (.int (1 : Int32)), .unset, .unset]) rfl ?_
        show Steps p.tables e below (T49.setTop (mkF m 172 #[.val (.int i0), .val (.int i1), .val (.int i2), .val (.int i3), .val (.int i4), .val (.int i5), .val (.int (2 : Int32)), .val (.int i7), .val (.int i8), .val (.ref b45), .val (.int (1 : Int32)), .unset, .unset] [])) _
        refine XS.aload X49.here hx rfl (hb hby at_172) rfl rfl ?_
        show Steps p.tables e below (T49.setTop (mkF m 174 #[.val (.int i0), .val (.int i1), .val (.int i2), .val (.int i3), .val (.int i4), .val (.int i5), .val (.int (2 : Int32)), .val (.int i7), .val (.int i8), .val (.ref b45), .val (.int (1 : Int32)), .unset, .unset] [(.ref b45)])) _
        refine XS.iload X49.here hx rfl (hb hby at_174) rfl ?_
        exact kt
      obtain ⟨_, _, ⟨T54, L54, k54, n54⟩, -, X54, ⟨Lc54, hQ54, l54, y54, z54⟩, st54⟩ := Jvm.LawKit.callS X49 hx (y := (⟨"com/example/conceal/conceal/SensitiveHolders", "contains", "([II)Z"⟩ : MethodName)) hown (mvT hZ (hw _ (List.mem_of_getElem? (i := 1) rfl))) (mvT hZ (hw _ (List.mem_of_getElem? (i := 2) rfl))) (mvT hZ (hw _ (List.mem_of_getElem? (i := 3) rfl))) (mvT hZ (hw _ (List.mem_of_getElem? (i := 4) rfl))) (by decide) (backOf (W := 0) (rm1n2 l Z a0 hw [] b45 i8 i0 i1 h49 n0 Ab45_49) hZ (hw _ (List.mem_of_getElem? (i := 4) rfl)) (hw _ (List.mem_of_getElem? (i := 3) rfl)) (by decide) (by decide)) (g := (mkF m 176 #[.val (.int i0), .val (.int i1), .val (.int i2), .val (.int i3), .val (.int i4), .val (.int i5), .val (.int (2 : Int32)), .val (.int i7), .val (.int i8), .val (.ref b45), .val (.int (1 : Int32)), .unset, .unset] [(.int i8), (.ref b45)])) rfl (by rw [hml]; rfl) (argsL := [(.ref b45), (.int i8)]) (rest := []) (lenOf pd1 rfl) rfl (by show 2 * 0 + _ ≤ _; exact Nat.le_of_eq rfl) (hb hby at_176) (fun _ _ => ⟨rfl, e49, (by decide : 1 + 0 ≤ _), (by decide : 2 + 0 ≤ _)⟩)
      dsimp only [Pt.U, Pt.locs, Pt.cells, Pt.slots] at X54 l54 y54 z54 st54 hQ54
      subst l54 y54 z54
      obtain ⟨rfl, Nq54, e54⟩ := hQ54
      have N54 := Fr.app N49 Nq54
      refine own_step (T' := T54) (f' := (mkF m 179 #[.val (.int i0), .val (.int i1), .val (.int i2), .val (.int i3), .val (.int i4), .val (.int i5), .val (.int (2 : Int32)), .val (.int i7), .val (.int i8), .val (.ref b45), .val (.int (1 : Int32)), .unset, .unset] [(.int (f1n2_0 i8 i0 i1))])) st54 ?_
      refine own_step (T' := T54) (f' := (mkF m 183 #[.val (.int i0), .val (.int i1), .val (.int i2), .val (.int i3), .val (.int i4), .val (.int i5), .val (.int (2 : Int32)), .val (.int i7), .val (.int i8), .val (.ref b45), .val (.int (1 : Int32)), .val (.int (f1n2_0 i8 i0 i1)), .unset] [(.int (2 : Int32))])) (fun t kt => ?_) ?_
      · show Steps p.tables e below (T54.setTop (mkF m 179 #[.val (.int i0), .val (.int i1), .val (.int i2), .val (.int i3), .val (.int i4), .val (.int i5), .val (.int (2 : Int32)), .val (.int i7), .val (.int i8), .val (.ref b45), .val (.int (1 : Int32)), .unset, .unset] [(.int (f1n2_0 i8 i0 i1))])) _
        refine XS.istore X54.here hx rfl (hb hby at_179) rfl (l' := #[.val (.int i0), .val (.int i1), .val (.int i2), .val (.int i3), .val (.int i4), .val (.int i5), .val (.int (2 : Int32)), .val (.int i7), .val (.int i8), .val (.ref b45), .val (.int (1 : Int32)), .val (.int (f1n2_0 i8 i0 i1)), .unset]) rfl ?_
        show Steps p.tables e below (T54.setTop (mkF m 181 #[.val (.int i0), .val (.int i1), .val (.int i2), .val (.int i3), .val (.int i4), .val (.int i5), .val (.int (2 : Int32)), .val (.int i7), .val (.int i8), .val (.ref b45), .val (.int (1 : Int32)), .val (.int (f1n2_0 i8 i0 i1)), .unset] [])) _
        refine XS.iload X54.here hx rfl (hb hby at_181) rfl ?_
        exact kt
      refine own_step (T' := T54) (f' := (mkF m 186 #[.val (.int i0), .val (.int i1), .val (.int i2), .val (.int i3), .val (.int i4), .val (.int i5), .val (.int (2 : Int32)), .val (.int i7), .val (.int i8), .val (.ref b45), .val (.int (1 : Int32)), .val (.int (f1n2_0 i8 i0 i1)), .unset] [])) (fun t kt => ?_) ?_
      · show Steps p.tables e below (T54.setTop (mkF m 183 #[.val (.int i0), .val (.int i1), .val (.int i2), .val (.int i3), .val (.int i4), .val (.int i5), .val (.int (2 : Int32)), .val (.int i7), .val (.int i8), .val (.ref b45), .val (.int (1 : Int32)), .val (.int (f1n2_0 i8 i0 i1)), .unset] [(.int (2 : Int32))])) _
        refine XS.ifNo X54.here hx rfl (hb hby at_183) rfl ((if0 _ _).trans (tlt (by decide : ((0 : Int32) < (2 : Int32)))).2.2.2) kt
      refine own_step (T' := T54) (f' := (mkF m 191 #[.val (.int i0), .val (.int i1), .val (.int i2), .val (.int i3), .val (.int i4), .val (.int i5), .val (.int (2 : Int32)), .val (.int i7), .val (.int i8), .val (.ref b45), .val (.int (1 : Int32)), .val (.int (f1n2_0 i8 i0 i1)), .unset] [(.int i0), (.int i0)])) (fun t kt => ?_) ?_
      · show Steps p.tables e below (T54.setTop (mkF m 186 #[.val (.int i0), .val (.int i1), .val (.int i2), .val (.int i3), .val (.int i4), .val (.int i5), .val (.int (2 : Int32)), .val (.int i7), .val (.int i8), .val (.ref b45), .val (.int (1 : Int32)), .val (.int (f1n2_0 i8 i0 i1)), .unset] [])) _
        refine XS.aload X54.here hx rfl (hb hby at_186) rfl rfl ?_
        show Steps p.tables e below (T54.setTop (mkF m 188 #[.val (.int i0), .val (.int i1), .val (.int i2), .val (.int i3), .val (.int i4), .val (.int i5), .val (.int (2 : Int32)), .val (.int i7), .val (.int i8), .val (.ref b45), .val (.int (1 : Int32)), .val (.int (f1n2_0 i8 i0 i1)), .unset] [(.ref b45)])) _
        refine XS.iconst X54.here hx rfl (hb hby at_188) ?_
        show Steps p.tables e below (T54.setTop (mkF m 189 #[.val (.int i0), .val (.int i1), .val (.int i2), .val (.int i3), .val (.int i4), .val (.int i5), .val (.int (2 : Int32)), .val (.int i7), .val (.int i8), .val (.ref b45), .val (.int (1 : Int32)), .val (.int (f1n2_0 i8 i0 i1)), .unset] [(.int (0 : Int32)), (.ref b45)])) _
        refine own_ldI X54 hx hZ e54 Ab45_49 (j := (0 : Int32)) (by decide) (k := 0) (by decide) (v := (.int i0)) rfl (g := (mkF m 189 #[.val (.int i0), .val (.int i1), .val (.int i2), .val (.int i3), .val (.int i4), .val (.int i5), .val (.int (2 : Int32)), .val (.int i7), .val (.int i8), .val (.ref b45), .val (.int (1 : Int32)), .val (.int (f1n2_0 i8 i0 i1)), .unset] [(.int (0 : Int32)), (.ref b45)])) rfl rfl (hb hby at_189) _ ?_
        show Steps p.tables e below (T54.setTop (mkF m 190 #[.val (.int i0), .val (.int i1), .val (.int i2), .val (.int i3), .val (.int i4), .val (.int i5), .val (.int (2 : Int32)), .val (.int i7), .val (.int i8), .val (.ref b45), .val (.int (1 : Int32)), .val (.int (f1n2_0 i8 i0 i1)), .unset] [(.int i0)])) _
        refine XS.iloadN X54.here hx rfl (hb hby at_190) rfl ?_
        exact kt
      refine own_step (T' := T54) (f' := (mkF m 194 #[.val (.int i0), .val (.int i1), .val (.int i2), .val (.int i3), .val (.int i4), .val (.int i5), .val (.int (2 : Int32)), .val (.int i7), .val (.int i8), .val (.ref b45), .val (.int (1 : Int32)), .val (.int (f1n2_0 i8 i0 i1)), .unset] [])) (fun t kt => ?_) ?_
      · show Steps p.tables e below (T54.setTop (mkF m 191 #[.val (.int i0), .val (.int i1), .val (.int i2), .val (.int i3), .val (.int i4), .val (.int i5), .val (.int (2 : Int32)), .val (.int i7), .val (.int i8), .val (.ref b45), .val (.int (1 : Int32)), .val (.int (f1n2_0 i8 i0 i1)), .unset] [(.int i0), (.int i0)])) _
        refine XS.icmpNo X54.here hx rfl (hb hby at_191) rfl (teq (rfl : i0 = i0)).2 kt
      refine own_step (T' := T54) (f' := (mkF m 197 #[.val (.int i0), .val (.int i1), .val (.int i2), .val (.int i3), .val (.int i4), .val (.int i5), .val (.int (2 : Int32)), .val (.int i7), .val (.int i8), .val (.ref b45), .val (.int (1 : Int32)), .val (.int (f1n2_0 i8 i0 i1)), .unset] [(.int (1 : Int32)), (.int (2 : Int32))])) (fun t kt => ?_) ?_
      · show Steps p.tables e below (T54.setTop (mkF m 194 #[.val (.int i0), .val (.int i1), .val (.int i2), .val (.int i3), .val (.int i4), .val (.int i5), .val (.int (2 : Int32)), .val (.int i7), .val (.int i8), .val (.ref b45), .val (.int (1 : Int32)), .val (.int (f1n2_0 i8 i0 i1)), .unset] [])) _
        refine XS.iload X54.here hx rfl (hb hby at_194) rfl ?_
        show Steps p.tables e below (T54.setTop (mkF m 196 #[.val (.int i0), .val (.int i1), .val (.int i2), .val (.int i3), .val (.int i4), .val (.int i5), .val (.int (2 : Int32)), .val (.int i7), .val (.int i8), .val (.ref b45), .val (.int (1 : Int32)), .val (.int (f1n2_0 i8 i0 i1)), .unset] [(.int (2 : Int32))])) _
        refine XS.iconst X54.here hx rfl (hb hby at_196) ?_
        exact kt
      refine own_step (T' := T54) (f' := (mkF m 200 #[.val (.int i0), .val (.int i1), .val (.int i2), .val (.int i3), .val (.int i4), .val (.int i5), .val (.int (2 : Int32)), .val (.int i7), .val (.int i8), .val (.ref b45), .val (.int (1 : Int32)), .val (.int (f1n2_0 i8 i0 i1)), .unset] [])) (fun t kt => ?_) ?_
      · show Steps p.tables e below (T54.setTop (mkF m 197 #[.val (.int i0), .val (.int i1), .val (.int i2), .val (.int i3), .val (.int i4), .val (.int i5), .val (.int (2 : Int32)), .val (.int i7), .val (.int i8), .val (.ref b45), .val (.int (1 : Int32)), .val (.int (f1n2_0 i8 i0 i1)), .unset] [(.int (1 : Int32)), (.int (2 : Int32))])) _
        refine XS.icmpNo X54.here hx rfl (hb hby at_197) rfl (tlt (by decide : ((1 : Int32) < (2 : Int32)))).2.2.2 kt
      refine own_step (T' := T54) (f' := (mkF m 205 #[.val (.int i0), .val (.int i1), .val (.int i2), .val (.int i3), .val (.int i4), .val (.int i5), .val (.int (2 : Int32)), .val (.int i7), .val (.int i8), .val (.ref b45), .val (.int (1 : Int32)), .val (.int (f1n2_0 i8 i0 i1)), .unset] [(.int i1), (.int i1)])) (fun t kt => ?_) ?_
      · show Steps p.tables e below (T54.setTop (mkF m 200 #[.val (.int i0), .val (.int i1), .val (.int i2), .val (.int i3), .val (.int i4), .val (.int i5), .val (.int (2 : Int32)), .val (.int i7), .val (.int i8), .val (.ref b45), .val (.int (1 : Int32)), .val (.int (f1n2_0 i8 i0 i1)), .unset] [])) _
        refine XS.aload X54.here hx rfl (hb hby at_200) rfl rfl ?_
        show Steps p.tables e below (T54.setTop (mkF m 202 #[.val (.int i0), .val (.int i1), .val (.int i2), .val (.int i3), .val (.int i4), .val (.int i5), .val (.int (2 : Int32)), .val (.int i7), .val (.int i8), .val (.ref b45), .val (.int (1 : Int32)), .val (.int (f1n2_0 i8 i0 i1)), .unset] [(.ref b45)])) _
        refine XS.iconst X54.here hx rfl (hb hby at_202) ?_
        show Steps p.tables e below (T54.setTop (mkF m 203 #[.val (.int i0), .val (.int i1), .val (.int i2), .val (.int i3), .val (.int i4), .val (.int i5), .val (.int (2 : Int32)), .val (.int i7), .val (.int i8), .val (.ref b45), .val (.int (1 : Int32)), .val (.int (f1n2_0 i8 i0 i1)), .unset] [(.int (1 : Int32)), (.ref b45)])) _
        refine own_ldI X54 hx hZ e54 Ab45_49 (j := (1 : Int32)) (by decide) (k := 1) (by decide) (v := (.int i1)) rfl (g := (mkF m 203 #[.val (.int i0), .val (.int i1), .val (.int i2), .val (.int i3), .val (.int i4), .val (.int i5), .val (.int (2 : Int32)), .val (.int i7), .val (.int i8), .val (.ref b45), .val (.int (1 : Int32)), .val (.int (f1n2_0 i8 i0 i1)), .unset] [(.int (1 : Int32)), (.ref b45)])) rfl rfl (hb hby at_203) _ ?_
        show Steps p.tables e below (T54.setTop (mkF m 204 #[.val (.int i0), .val (.int i1), .val (.int i2), .val (.int i3), .val (.int i4), .val (.int i5), .val (.int (2 : Int32)), .val (.int i7), .val (.int i8), .val (.ref b45), .val (.int (1 : Int32)), .val (.int (f1n2_0 i8 i0 i1)), .unset] [(.int i1)])) _
        refine XS.iloadN X54.here hx rfl (hb hby at_204) rfl ?_
        exact kt
      refine own_step (T' := T54) (f' := (mkF m 208 #[.val (.int i0), .val (.int i1), .val (.int i2), .val (.int i3), .val (.int i4), .val (.int i5), .val (.int (2 : Int32)), .val (.int i7), .val (.int i8), .val (.ref b45), .val (.int (1 : Int32)), .val (.int (f1n2_0 i8 i0 i1)), .unset] [])) (fun t kt => ?_) ?_
      · show Steps p.tables e below (T54.setTop (mkF m 205 #[.val (.int i0), .val (.int i1), .val (.int i2), .val (.int i3), .val (.int i4), .val (.int i5), .val (.int (2 : Int32)), .val (.int i7), .val (.int i8), .val (.ref b45), .val (.int (1 : Int32)), .val (.int (f1n2_0 i8 i0 i1)), .unset] [(.int i1), (.int i1)])) _
        refine XS.icmpNo X54.here hx rfl (hb hby at_205) rfl (teq (rfl : i1 = i1)).2 kt
      refine own_step (T' := T54) (f' := (mkF m 211 #[.val (.int i0), .val (.int i1), .val (.int i2), .val (.int i3), .val (.int i4), .val (.int i5), .val (.int (2 : Int32)), .val (.int i7), .val (.int i8), .val (.ref b45), .val (.int (1 : Int32)), .val (.int (f1n2_0 i8 i0 i1)), .unset] [(.int (2 : Int32)), (.int (2 : Int32))])) (fun t kt => ?_) ?_
      · show Steps p.tables e below (T54.setTop (mkF m 208 #[.val (.int i0), .val (.int i1), .val (.int i2), .val (.int i3), .val (.int i4), .val (.int i5), .val (.int (2 : Int32)), .val (.int i7), .val (.int i8), .val (.ref b45), .val (.int (1 : Int32)), .val (.int (f1n2_0 i8 i0 i1)), .unset] [])) _
        refine XS.iload X54.here hx rfl (hb hby at_208) rfl ?_
        show Steps p.tables e below (T54.setTop (mkF m 210 #[.val (.int i0), .val (.int i1), .val (.int i2), .val (.int i3), .val (.int i4), .val (.int i5), .val (.int (2 : Int32)), .val (.int i7), .val (.int i8), .val (.ref b45), .val (.int (1 : Int32)), .val (.int (f1n2_0 i8 i0 i1)), .unset] [(.int (2 : Int32))])) _
        refine XS.iconst X54.here hx rfl (hb hby at_210) ?_
        exact kt
      refine own_step (T' := T54) (f' := (mkF m 222 #[.val (.int i0), .val (.int i1), .val (.int i2), .val (.int i3), .val (.int i4), .val (.int i5), .val (.int (2 : Int32)), .val (.int i7), .val (.int i8), .val (.ref b45), .val (.int (1 : Int32)), .val (.int (f1n2_0 i8 i0 i1)), .unset] [])) (fun t kt => ?_) ?_
      · show Steps p.tables e below (T54.setTop (mkF m 211 #[.val (.int i0), .val (.int i1), .val (.int i2), .val (.int i3), .val (.int i4), .val (.int i5), .val (.int (2 : Int32)), .val (.int i7), .val (.int i8), .val (.ref b45), .val (.int (1 : Int32)), .val (.int (f1n2_0 i8 i0 i1)), .unset] [(.int (2 : Int32)), (.int (2 : Int32))])) _
        refine XS.icmpYes X54.here hx rfl (pc0 := 211) (pc' := 222) rfl (hb hby at_211) rfl (flt (by decide : ¬ ((2 : Int32) < (2 : Int32)))).2.2.2 (by decide) (by decide) kt
      refine own_step (T' := T54) (f' := (mkF m 225 #[.val (.int i0), .val (.int i1), .val (.int i2), .val (.int i3), .val (.int i4), .val (.int i5), .val (.int (2 : Int32)), .val (.int i7), .val (.int i8), .val (.ref b45), .val (.int (1 : Int32)), .val (.int (f1n2_0 i8 i0 i1)), .unset] [(.int (3 : Int32)), (.int (2 : Int32))])) (fun t kt => ?_) ?_
      · show Steps p.tables e below (T54.setTop (mkF m 222 #[.val (.int i0), .val (.int i1), .val (.int i2), .val (.int i3), .val (.int i4), .val (.int i5), .val (.int (2 : Int32)), .val (.int i7), .val (.int i8), .val (.ref b45), .val (.int (1 : Int32)), .val (.int (f1n2_0 i8 i0 i1)), .unset] [])) _
        refine XS.iload X54.here hx rfl (hb hby at_222) rfl ?_
        show Steps p.tables e below (T54.setTop (mkF m 224 #[.val (.int i0), .val (.int i1), .val (.int i2), .val (.int i3), .val (.int i4), .val (.int i5), .val (.int (2 : Int32)), .val (.int i7), .val (.int i8), .val (.ref b45), .val (.int (1 : Int32)), .val (.int (f1n2_0 i8 i0 i1)), .unset] [(.int (2 : Int32))])) _
        refine XS.iconst X54.here hx rfl (hb hby at_224) ?_
        exact kt
      refine own_step (T' := T54) (f' := (mkF m 236 #[.val (.int i0), .val (.int i1), .val (.int i2), .val (.int i3), .val (.int i4), .val (.int i5), .val (.int (2 : Int32)), .val (.int i7), .val (.int i8), .val (.ref b45), .val (.int (1 : Int32)), .val (.int (f1n2_0 i8 i0 i1)), .unset] [])) (fun t kt => ?_) ?_
      · show Steps p.tables e below (T54.setTop (mkF m 225 #[.val (.int i0), .val (.int i1), .val (.int i2), .val (.int i3), .val (.int i4), .val (.int i5), .val (.int (2 : Int32)), .val (.int i7), .val (.int i8), .val (.ref b45), .val (.int (1 : Int32)), .val (.int (f1n2_0 i8 i0 i1)), .unset] [(.int (3 : Int32)), (.int (2 : Int32))])) _
        refine XS.icmpYes X54.here hx rfl (pc0 := 225) (pc' := 236) rfl (hb hby at_225) rfl (flt (by decide : ¬ ((3 : Int32) < (2 : Int32)))).2.2.2 (by decide) (by decide) kt
      refine own_step (T' := T54) (f' := (mkF m 247 #[.val (.int i0), .val (.int i1), .val (.int i2), .val (.int i3), .val (.int i4), .val (.int i5), .val (.int (2 : Int32)), .val (.int i7), .val (.int i8), .val (.ref b45), .val (.int (1 : Int32)), .val (.int (f1n2_0 i8 i0 i1)), .val (.int (1 : Int32))] [(.int (1 : Int32)), (.int (f1n2_0 i8 i0 i1))])) (fun t kt => ?_) ?_
      · show Steps p.tables e below (T54.setTop (mkF m 236 #[.val (.int i0), .val (.int i1), .val (.int i2), .val (.int i3), .val (.int i4), .val (.int i5), .val (.int (2 : Int32)), .val (.int i7), .val (.int i8), .val (.ref b45), .val (.int (1 : Int32)), .val (.int (f1n2_0 i8 i0 i1)), .unset] [])) _
        refine XS.iconst X54.here hx rfl (hb hby at_236) ?_
        show Steps p.tables e below (T54.setTop (mkF m 237 #[.val (.int i0), .val (.int i1), .val (.int i2), .val (.int i3), .val (.int i4), .val (.int i5), .val (.int (2 : Int32)), .val (.int i7), .val (.int i8), .val (.ref b45), .val (.int (1 : Int32)), .val (.int (f1n2_0 i8 i0 i1)), .unset] [(.int (1 : Int32))])) _
        refine XS.goto X54.here hx rfl (pc0 := 237) (pc' := 241) rfl (hb hby at_237) (by decide) (by decide) ?_
        show Steps p.tables e below (T54.setTop (mkF m 241 #[.val (.int i0), .val (.int i1), .val (.int i2), .val (.int i3), .val (.int i4), .val (.int i5), .val (.int (2 : Int32)), .val (.int i7), .val (.int i8), .val (.ref b45), .val (.int (1 : Int32)), .val (.int (f1n2_0 i8 i0 i1)), .unset] [(.int (1 : Int32))])) _
        refine XS.istore X54.here hx rfl (hb hby at_241) rfl (l' := #[.val (.int i0), .val (.int i1), .val (.int i2), .val (.int i3), .val (.int i4), .val (.int i5), .val (.int (2 : Int32)), .val (.int i7), .val (.int i8), .val (.ref b45), .val (.int (1 : Int32)), .val (.int (f1n2_0 i8 i0 i1)), .val (.int (1 : Int32))]) rfl ?_
        show Steps p.tables e below (T54.setTop (mkF m 243 #[.val (.int i0), .val (.int i1), .val (.int i2), .val (.int i3), .val (.int i4), .val (.int i5), .val (.int (2 : Int32)), .val (.int i7), .val (.int i8), .val (.ref b45), .val (.int (1 : Int32)), .val (.int (f1n2_0 i8 i0 i1)), .val (.int (1 : Int32))] [])) _
        refine XS.iload X54.here hx rfl (hb hby at_243) rfl ?_
        show Steps p.tables e below (T54.setTop (mkF m 245 #[.val (.int i0), .val (.int i1), .val (.int i2), .val (.int i3), .val (.int i4), .val (.int i5), .val (.int (2 : Int32)), .val (.int i7), .val (.int i8), .val (.ref b45), .val (.int (1 : Int32)), .val (.int (f1n2_0 i8 i0 i1)), .val (.int (1 : Int32))] [(.int (f1n2_0 i8 i0 i1))])) _
        refine XS.iload X54.here hx rfl (hb hby at_245) rfl ?_
        exact kt
      by_cases hc247_61 : (f1n2_0 i8 i0 i1) = (1 : Int32)
      · rw [if_pos hc247_61] at hr
        refine own_step (T' := T54) (f' := (mkF m 250 #[.val (.int i0), .val (.int i1), .val (.int i2), .val (.int i3), .val (.int i4), .val (.int i5), .val (.int (2 : Int32)), .val (.int i7), .val (.int i8), .val (.ref b45), .val (.int (1 : Int32)), .val (.int (f1n2_0 i8 i0 i1)), .val (.int (1 : Int32))] [])) (fun t kt => ?_) ?_
        · show Steps p.tables e below (T54.setTop (mkF m 247 #[.val (.int i0), .val (.int i1), .val (.int i2), .val (.int i3), .val (.int i4), .val (.int i5), .val (.int (2 : Int32)), .val (.int i7), .val (.int i8), .val (.ref b45), .val (.int (1 : Int32)), .val (.int (f1n2_0 i8 i0 i1)), .val (.int (1 : Int32))] [(.int (1 : Int32)), (.int (f1n2_0 i8 i0 i1))])) _
          refine XS.icmpNo X54.here hx rfl (hb hby at_247) rfl (teq hc247_61).2 kt
        refine own_step (T' := T54) (f' := (mkF m 252 #[.val (.int i0), .val (.int i1), .val (.int i2), .val (.int i3), .val (.int i4), .val (.int i5), .val (.int (2 : Int32)), .val (.int i7), .val (.int i8), .val (.ref b45), .val (.int (1 : Int32)), .val (.int (f1n2_0 i8 i0 i1)), .val (.int (1 : Int32))] [(.int (1 : Int32))])) (fun t kt => ?_) ?_
        · show Steps p.tables e below (T54.setTop (mkF m 250 #[.val (.int i0), .val (.int i1), .val (.int i2), .val (.int i3), .val (.int i4), .val (.int i5), .val (.int (2 : Int32)), .val (.int i7), .val (.int i8), .val (.ref b45), .val (.int (1 : Int32)), .val (.int (f1n2_0 i8 i0 i1)), .val (.int (1 : Int32))] [])) _
          refine XS.iload X54.here hx rfl (hb hby at_250) rfl ?_
          exact kt
        refine own_step (T' := T54) (f' := (mkF m 255 #[.val (.int i0), .val (.int i1), .val (.int i2), .val (.int i3), .val (.int i4), .val (.int i5), .val (.int (2 : Int32)), .val (.int i7), .val (.int i8), .val (.ref b45), .val (.int (1 : Int32)), .val (.int (f1n2_0 i8 i0 i1)), .val (.int (1 : Int32))] [])) (fun t kt => ?_) ?_
        · show Steps p.tables e below (T54.setTop (mkF m 252 #[.val (.int i0), .val (.int i1), .val (.int i2), .val (.int i3), .val (.int i4), .val (.int i5), .val (.int (2 : Int32)), .val (.int i7), .val (.int i8), .val (.ref b45), .val (.int (1 : Int32)), .val (.int (f1n2_0 i8 i0 i1)), .val (.int (1 : Int32))] [(.int (1 : Int32))])) _
          refine XS.ifNo X54.here hx rfl (hb hby at_252) rfl ((if0 _ _).trans (feq (by decide : ¬ ((1 : Int32) = (0 : Int32)))).1) kt
        refine own_step (T' := T54) (f' := (mkF m 260 #[.val (.int i0), .val (.int i1), .val (.int i2), .val (.int i3), .val (.int i4), .val (.int i5), .val (.int (2 : Int32)), .val (.int i7), .val (.int i8), .val (.ref b45), .val (.int (1 : Int32)), .val (.int (f1n2_0 i8 i0 i1)), .val (.int (1 : Int32))] [(.int (1 : Int32))])) (fun t kt => ?_) ?_
        · show Steps p.tables e below (T54.setTop (mkF m 255 #[.val (.int i0), .val (.int i1), .val (.int i2), .val (.int i3), .val (.int i4), .val (.int i5), .val (.int (2 : Int32)), .val (.int i7), .val (.int i8), .val (.ref b45), .val (.int (1 : Int32)), .val (.int (f1n2_0 i8 i0 i1)), .val (.int (1 : Int32))] [])) _
          refine XS.iconst X54.here hx rfl (hb hby at_255) ?_
          show Steps p.tables e below (T54.setTop (mkF m 256 #[.val (.int i0), .val (.int i1), .val (.int i2), .val (.int i3), .val (.int i4), .val (.int i5), .val (.int (2 : Int32)), .val (.int i7), .val (.int i8), .val (.ref b45), .val (.int (1 : Int32)), .val (.int (f1n2_0 i8 i0 i1)), .val (.int (1 : Int32))] [(.int (1 : Int32))])) _
          refine XS.goto X54.here hx rfl (pc0 := 256) (pc' := 260) rfl (hb hby at_256) (by decide) (by decide) ?_
          exact kt
        exact own_retZ X54 hx hret (by simp) hlk (hb hby at_260) (by decide) (by decide) ⟨congrArg (fun z => some (Value.int z)) hr.symm, N54⟩
      · rw [if_neg hc247_61] at hr
        refine own_step (T' := T54) (f' := (mkF m 259 #[.val (.int i0), .val (.int i1), .val (.int i2), .val (.int i3), .val (.int i4), .val (.int i5), .val (.int (2 : Int32)), .val (.int i7), .val (.int i8), .val (.ref b45), .val (.int (1 : Int32)), .val (.int (f1n2_0 i8 i0 i1)), .val (.int (1 : Int32))] [])) (fun t kt => ?_) ?_
        · show Steps p.tables e below (T54.setTop (mkF m 247 #[.val (.int i0), .val (.int i1), .val (.int i2), .val (.int i3), .val (.int i4), .val (.int i5), .val (.int (2 : Int32)), .val (.int i7), .val (.int i8), .val (.ref b45), .val (.int (1 : Int32)), .val (.int (f1n2_0 i8 i0 i1)), .val (.int (1 : Int32))] [(.int (1 : Int32)), (.int (f1n2_0 i8 i0 i1))])) _
          refine XS.icmpYes X54.here hx rfl (pc0 := 247) (pc' := 259) rfl (hb hby at_247) rfl (feq hc247_61).2 (by decide) (by decide) kt
        refine own_step (T' := T54) (f' := (mkF m 260 #[.val (.int i0), .val (.int i1), .val (.int i2), .val (.int i3), .val (.int i4), .val (.int i5), .val (.int (2 : Int32)), .val (.int i7), .val (.int i8), .val (.ref b45), .val (.int (1 : Int32)), .val (.int (f1n2_0 i8 i0 i1)), .val (.int (1 : Int32))] [(.int (0 : Int32))])) (fun t kt => ?_) ?_
        · show Steps p.tables e below (T54.setTop (mkF m 259 #[.val (.int i0), .val (.int i1), .val (.int i2), .val (.int i3), .val (.int i4), .val (.int i5), .val (.int (2 : Int32)), .val (.int i7), .val (.int i8), .val (.ref b45), .val (.int (1 : Int32)), .val (.int (f1n2_0 i8 i0 i1)), .val (.int (1 : Int32))] [])) _
          refine XS.iconst X54.here hx rfl (hb hby at_259) ?_
          exact kt
        exact own_retZ X54 hx hret (by simp) hlk (hb hby at_260) (by decide) (by decide) ⟨congrArg (fun z => some (Value.int z)) hr.symm, N54⟩
    · rw [if_neg hc126_53] at hr
      refine own_step (T' := T49) (f' := (mkF m 129 #[.val (.int i0), .val (.int i1), .val (.int i2), .val (.int i3), .val (.int i4), .val (.int i5), .val (.int (2 : Int32)), .val (.int i7), .val (.int i8), .val (.ref b45), .unset, .unset, .unset] [])) (fun t kt => ?_) ?_
      · show Steps p.tables e below (T49.setTop (mkF m 126 #[.val (.int i0), .val (.int i1), .val (.int i2), .val (.int i3), .val (.int i4), .val (.int i5), .val (.int (2 : Int32)), .val (.int i7), .val (.int i8), .val (.ref b45), .unset, .unset, .unset] [(.int i8), (.int i0)])) _
        refine XS.icmpNo X49.here hx rfl (hb hby at_126) rfl (feq hc126_53).1 kt
      refine own_step (T' := T49) (f' := (mkF m 132 #[.val (.int i0), .val (.int i1), .val (.int i2), .val (.int i3), .val (.int i4), .val (.int i5), .val (.int (2 : Int32)), .val (.int i7), .val (.int i8), .val (.ref b45), .unset, .unset, .unset] [(.int (1 : Int32)), (.int (2 : Int32))])) (fun t kt => ?_) ?_
      · show Steps p.tables e below (T49.setTop (mkF m 129 #[.val (.int i0), .val (.int i1), .val (.int i2), .val (.int i3), .val (.int i4), .val (.int i5), .val (.int (2 : Int32)), .val (.int i7), .val (.int i8), .val (.ref b45), .unset, .unset, .unset] [])) _
        refine XS.iload X49.here hx rfl (hb hby at_129) rfl ?_
        show Steps p.tables e below (T49.setTop (mkF m 131 #[.val (.int i0), .val (.int i1), .val (.int i2), .val (.int i3), .val (.int i4), .val (.int i5), .val (.int (2 : Int32)), .val (.int i7), .val (.int i8), .val (.ref b45), .unset, .unset, .unset] [(.int (2 : Int32))])) _
        refine XS.iconst X49.here hx rfl (hb hby at_131) ?_
        exact kt
      refine own_step (T' := T49) (f' := (mkF m 135 #[.val (.int i0), .val (.int i1), .val (.int i2), .val (.int i3), .val (.int i4), .val (.int i5), .val (.int (2 : Int32)), .val (.int i7), .val (.int i8), .val (.ref b45), .unset, .unset, .unset] [])) (fun t kt => ?_) ?_
      · show Steps p.tables e below (T49.setTop (mkF m 132 #[.val (.int i0), .val (.int i1), .val (.int i2), .val (.int i3), .val (.int i4), .val (.int i5), .val (.int (2 : Int32)), .val (.int i7), .val (.int i8), .val (.ref b45), .unset, .unset, .unset] [(.int (1 : Int32)), (.int (2 : Int32))])) _
        refine XS.icmpNo X49.here hx rfl (hb hby at_132) rfl (tlt (by decide : ((1 : Int32) < (2 : Int32)))).2.2.2 kt
      refine own_step (T' := T49) (f' := (mkF m 138 #[.val (.int i0), .val (.int i1), .val (.int i2), .val (.int i3), .val (.int i4), .val (.int i5), .val (.int (2 : Int32)), .val (.int i7), .val (.int i8), .val (.ref b45), .unset, .unset, .unset] [(.int i8), (.int i1)])) (fun t kt => ?_) ?_
      · show Steps p.tables e below (T49.setTop (mkF m 135 #[.val (.int i0), .val (.int i1), .val (.int i2), .val (.int i3), .val (.int i4), .val (.int i5), .val (.int (2 : Int32)), .val (.int i7), .val (.int i8), .val (.ref b45), .unset, .unset, .unset] [])) _
        refine XS.iloadN X49.here hx rfl (hb hby at_135) rfl ?_
        show Steps p.tables e below (T49.setTop (mkF m 136 #[.val (.int i0), .val (.int i1), .val (.int i2), .val (.int i3), .val (.int i4), .val (.int i5), .val (.int (2 : Int32)), .val (.int i7), .val (.int i8), .val (.ref b45), .unset, .unset, .unset] [(.int i1)])) _
        refine XS.iload X49.here hx rfl (hb hby at_136) rfl ?_
        exact kt
      by_cases hc138_64 : i1 = i8
      · rw [if_pos hc138_64] at hr
        refine own_step (T' := T49) (f' := (mkF m 165 #[.val (.int i0), .val (.int i1), .val (.int i2), .val (.int i3), .val (.int i4), .val (.int i5), .val (.int (2 : Int32)), .val (.int i7), .val (.int i8), .val (.ref b45), .unset, .unset, .unset] [])) (fun t kt => ?_) ?_
        · show Steps p.tables e below (T49.setTop (mkF m 138 #[.val (.int i0), .val (.int i1), .val (.int i2), .val (.int i3), .val (.int i4), .val (.int i5), .val (.int (2 : Int32)), .val (.int i7), .val (.int i8), .val (.ref b45), .unset, .unset, .unset] [(.int i8), (.int i1)])) _
          refine XS.icmpYes X49.here hx rfl (pc0 := 138) (pc' := 165) rfl (hb hby at_138) rfl (teq hc138_64).1 (by decide) (by decide) kt
        refine own_step (T' := T49) (f' := (mkF m 176 #[.val (.int i0), .val (.int i1), .val (.int i2), .val (.int i3), .val (.int i4), .val (.int i5), .val (.int (2 : Int32)), .val (.int i7), .val (.int i8), .val (.ref b45), .val (.int (1 : Int32)), .unset, .unset] [(.int i8), (.ref b45)])) (fun t kt => ?_) ?_
        · show Steps p.tables e below (T49.setTop (mkF m 165 #[.val (.int i0), .val (.int i1), .val (.int i2), .val (.int i3), .val (.int i4), .val (.int i5), .val (.int (2 : Int32)), .val (.int i7), .val (.int i8), .val (.ref b45), .unset, .unset, .unset] [])) _
          refine XS.iconst X49.here hx rfl (hb hby at_165) ?_
          show Steps p.tables e below (T49.setTop (mkF m 166 #[.val (.int i0), .val (.int i1), .val (.int i2), .val (.int i3), .val (.int i4), .val (.int i5), .val (.int (2 : Int32)), .val (.int i7), .val (.int i8), .val (.ref b45), .unset, .unset, .unset] [(.int (1 : Int32))])) _
          refine XS.goto X49.here hx rfl (pc0 := 166) (pc' := 170) rfl (hb hby at_166) (by decide) (by decide) ?_
          show Steps p.tables e below (T49.setTop (mkF m 170 #[.val (.int i0), .val (.int i1), .val (.int i2), .val (.int i3), .val (.int i4), .val (.int i5), .val (.int (2 : Int32)), .val (.int i7), .val (.int i8), .val (.ref b45), .unset, .unset, .unset] [(.int (1 : Int32))])) _
          refine XS.istore X49.here hx rfl (hb hby at_170) rfl (l' := #[.val (.int i0), .val (.int i1), .val (.int i2), .val (.int i3), .val (.int i4), .val (.int i5), .val (.int (2 : Int32)), .val (.int i7), .val (.int i8), .val (.ref b45), .val (.int (1 : Int32)), .unset, .unset]) rfl ?_
          show Steps p.tables e below (T49.setTop (mkF m 172 #[.val (.int i0), .val (.int i1), .val (.int i2), .val (.int i3), .val (.int i4), .val (.int i5), .val (.int (2 : Int32)), .val (.int i7), .val (.int i8), .val (.ref b45), .val (.int (1 : Int32)), .unset, .unset] [])) _
          refine XS.aload X49.here hx rfl (hb hby at_172) rfl rfl ?_
          show Steps p.tables e below (T49.setTop (mkF m 174 #[.val (.int i0), .val (.int i1), .val (.int i2), .val (.int i3), .val (.int i4), .val (.int i5), .val (.int (2 : Int32)), .val (.int i7), .val (.int i8), .val (.ref b45), .val (.int (1 : Int32)), .unset, .unset] [(.ref b45)])) _
          refine XS.iload X49.here hx rfl (hb hby at_174) rfl ?_
          exact kt
        obtain ⟨_, _, ⟨T65, L65, k65, n65⟩, -, X65, ⟨Lc65, hQ65, l65, y65, z65⟩, st65⟩ := Jvm.LawKit.callS X49 hx (y := (⟨"com/example/conceal/conceal/SensitiveHolders", "contains", "([II)Z"⟩ : MethodName)) hown (mvT hZ (hw _ (List.mem_of_getElem? (i := 1) rfl))) (mvT hZ (hw _ (List.mem_of_getElem? (i := 2) rfl))) (mvT hZ (hw _ (List.mem_of_getElem? (i := 3) rfl))) (mvT hZ (hw _ (List.mem_of_getElem? (i := 4) rfl))) (by decide) (backOf (W := 0) (rm1n2 l Z a0 hw [] b45 i8 i0 i1 h49 n0 Ab45_49) hZ (hw _ (List.mem_of_getElem? (i := 4) rfl)) (hw _ (List.mem_of_getElem? (i := 3) rfl)) (by decide) (by decide)) (g := (mkF m 176 #[.val (.int i0), .val (.int i1), .val (.int i2), .val (.int i3), .val (.int i4), .val (.int i5), .val (.int (2 : Int32)), .val (.int i7), .val (.int i8), .val (.ref b45), .val (.int (1 : Int32)), .unset, .unset] [(.int i8), (.ref b45)])) rfl (by rw [hml]; rfl) (argsL := [(.ref b45), (.int i8)]) (rest := []) (lenOf pd1 rfl) rfl (by show 2 * 0 + _ ≤ _; exact Nat.le_of_eq rfl) (hb hby at_176) (fun _ _ => ⟨rfl, e49, (by decide : 1 + 0 ≤ _), (by decide : 2 + 0 ≤ _)⟩)
        dsimp only [Pt.U, Pt.locs, Pt.cells, Pt.slots] at X65 l65 y65 z65 st65 hQ65
        subst l65 y65 z65
        obtain ⟨rfl, Nq65, e65⟩ := hQ65
        have N65 := Fr.app N49 Nq65
        refine own_step (T' := T65) (f' := (mkF m 179 #[.val (.int i0), .val (.int i1), .val (.int i2), .val (.int i3), .val (.int i4), .val (.int i5), .val (.int (2 : Int32)), .val (.int i7), .val (.int i8), .val (.ref b45), .val (.int (1 : Int32)), .unset, .unset] [(.int (f1n2_0 i8 i0 i1))])) st65 ?_
        refine own_step (T' := T65) (f' := (mkF m 183 #[.val (.int i0), .val (.int i1), .val (.int i2), .val (.int i3), .val (.int i4), .val (.int i5), .val (.int (2 : Int32)), .val (.int i7), .val (.int i8), .val (.ref b45), .val (.int (1 : Int32)), .val (.int (f1n2_0 i8 i0 i1)), .unset] [(.int (2 : Int32))])) (fun t kt => ?_) ?_
        · show Steps p.tables e below (T65.setTop (mkF m 179 #[.val (.int i0), .val (.int i1), .val (.int i2), .val (.int i3), .val (.int i4), .val (.int i5), .val (.int (2 : Int32)), .val (.int i7), .val (.int i8), .val (.ref b45), .val (.int (1 : Int32)), .unset, .unset] [(.int (f1n2_0 i8 i0 i1))])) _
          refine XS.istore X65.here hx rfl (hb hby at_179) rfl (l' := #[.val (.int i0), .val (.int i1), .val (.int i2), .val (.int i3), .val (.int i4), .val (.int i5), .val (.int (2 : Int32)), .val (.int i7), .val (.int i8), .val (.ref b45), .val (.int (1 : Int32)), .val (.int (f1n2_0 i8 i0 i1)), .unset]) rfl ?_
          show Steps p.tables e below (T65.setTop (mkF m 181 #[.val (.int i0), .val (.int i1), .val (.int i2), .val (.int i3), .val (.int i4), .val (.int i5), .val (.int (2 : Int32)), .val (.int i7), .val (.int i8), .val (.ref b45), .val (.int (1 : Int32)), .val (.int (f1n2_0 i8 i0 i1)), .unset] [])) _
          refine XS.iload X65.here hx rfl (hb hby at_181) rfl ?_
          exact kt
        refine own_step (T' := T65) (f' := (mkF m 186 #[.val (.int i0), .val (.int i1), .val (.int i2), .val (.int i3), .val (.int i4), .val (.int i5), .val (.int (2 : Int32)), .val (.int i7), .val (.int i8), .val (.ref b45), .val (.int (1 : Int32)), .val (.int (f1n2_0 i8 i0 i1)), .unset] [])) (fun t kt => ?_) ?_
        · show Steps p.tables e below (T65.setTop (mkF m 183 #[.val (.int i0), .val (.int i1), .val (.int i2), .val (.int i3), .val (.int i4), .val (.int i5), .val (.int (2 : Int32)), .val (.int i7), .val (.int i8), .val (.ref b45), .val (.int (1 : Int32)), .val (.int (f1n2_0 i8 i0 i1)), .unset] [(.int (2 : Int32))])) _
          refine XS.ifNo X65.here hx rfl (hb hby at_183) rfl ((if0 _ _).trans (tlt (by decide : ((0 : Int32) < (2 : Int32)))).2.2.2) kt
        refine own_step (T' := T65) (f' := (mkF m 191 #[.val (.int i0), .val (.int i1), .val (.int i2), .val (.int i3), .val (.int i4), .val (.int i5), .val (.int (2 : Int32)), .val (.int i7), .val (.int i8), .val (.ref b45), .val (.int (1 : Int32)), .val (.int (f1n2_0 i8 i0 i1)), .unset] [(.int i0), (.int i0)])) (fun t kt => ?_) ?_
        · show Steps p.tables e below (T65.setTop (mkF m 186 #[.val (.int i0), .val (.int i1), .val (.int i2), .val (.int i3), .val (.int i4), .val (.int i5), .val (.int (2 : Int32)), .val (.int i7), .val (.int i8), .val (.ref b45), .val (.int (1 : Int32)), .val (.int (f1n2_0 i8 i0 i1)), .unset] [])) _
          refine XS.aload X65.here hx rfl (hb hby at_186) rfl rfl ?_
          show Steps p.tables e below (T65.setTop (mkF m 188 #[.val (.int i0), .val (.int i1), .val (.int i2), .val (.int i3), .val (.int i4), .val (.int i5), .val (.int (2 : Int32)), .val (.int i7), .val (.int i8), .val (.ref b45), .val (.int (1 : Int32)), .val (.int (f1n2_0 i8 i0 i1)), .unset] [(.ref b45)])) _
          refine XS.iconst X65.here hx rfl (hb hby at_188) ?_
          show Steps p.tables e below (T65.setTop (mkF m 189 #[.val (.int i0), .val (.int i1), .val (.int i2), .val (.int i3), .val (.int i4), .val (.int i5), .val (.int (2 : Int32)), .val (.int i7), .val (.int i8), .val (.ref b45), .val (.int (1 : Int32)), .val (.int (f1n2_0 i8 i0 i1)), .unset] [(.int (0 : Int32)), (.ref b45)])) _
          refine own_ldI X65 hx hZ e65 Ab45_49 (j := (0 : Int32)) (by decide) (k := 0) (by decide) (v := (.int i0)) rfl (g := (mkF m 189 #[.val (.int i0), .val (.int i1), .val (.int i2), .val (.int i3), .val (.int i4), .val (.int i5), .val (.int (2 : Int32)), .val (.int i7), .val (.int i8), .val (.ref b45), .val (.int (1 : Int32)), .val (.int (f1n2_0 i8 i0 i1)), .unset] [(.int (0 : Int32)), (.ref b45)])) rfl rfl (hb hby at_189) _ ?_
          show Steps p.tables e below (T65.setTop (mkF m 190 #[.val (.int i0), .val (.int i1), .val (.int i2), .val (.int i3), .val (.int i4), .val (.int i5), .val (.int (2 : Int32)), .val (.int i7), .val (.int i8), .val (.ref b45), .val (.int (1 : Int32)), .val (.int (f1n2_0 i8 i0 i1)), .unset] [(.int i0)])) _
          refine XS.iloadN X65.here hx rfl (hb hby at_190) rfl ?_
          exact kt
        refine own_step (T' := T65) (f' := (mkF m 194 #[.val (.int i0), .val (.int i1), .val (.int i2), .val (.int i3), .val (.int i4), .val (.int i5), .val (.int (2 : Int32)), .val (.int i7), .val (.int i8), .val (.ref b45), .val (.int (1 : Int32)), .val (.int (f1n2_0 i8 i0 i1)), .unset] [])) (fun t kt => ?_) ?_
        · show Steps p.tables e below (T65.setTop (mkF m 191 #[.val (.int i0), .val (.int i1), .val (.int i2), .val (.int i3), .val (.int i4), .val (.int i5), .val (.int (2 : Int32)), .val (.int i7), .val (.int i8), .val (.ref b45), .val (.int (1 : Int32)), .val (.int (f1n2_0 i8 i0 i1)), .unset] [(.int i0), (.int i0)])) _
          refine XS.icmpNo X65.here hx rfl (hb hby at_191) rfl (teq (rfl : i0 = i0)).2 kt
        refine own_step (T' := T65) (f' := (mkF m 197 #[.val (.int i0), .val (.int i1), .val (.int i2), .val (.int i3), .val (.int i4), .val (.int i5), .val (.int (2 : Int32)), .val (.int i7), .val (.int i8), .val (.ref b45), .val (.int (1 : Int32)), .val (.int (f1n2_0 i8 i0 i1)), .unset] [(.int (1 : Int32)), (.int (2 : Int32))])) (fun t kt => ?_) ?_
        · show Steps p.tables e below (T65.setTop (mkF m 194 #[.val (.int i0), .val (.int i1), .val (.int i2), .val (.int i3), .val (.int i4), .val (.int i5), .val (.int (2 : Int32)), .val (.int i7), .val (.int i8), .val (.ref b45), .val (.int (1 : Int32)), .val (.int (f1n2_0 i8 i0 i1)), .unset] [])) _
          refine XS.iload X65.here hx rfl (hb hby at_194) rfl ?_
          show Steps p.tables e below (T65.setTop (mkF m 196 #[.val (.int i0), .val (.int i1), .val (.int i2), .val (.int i3), .val (.int i4), .val (.int i5), .val (.int (2 : Int32)), .val (.int i7), .val (.int i8), .val (.ref b45), .val (.int (1 : Int32)), .val (.int (f1n2_0 i8 i0 i1)), .unset] [(.int (2 : Int32))])) _
          refine XS.iconst X65.here hx rfl (hb hby at_196) ?_
          exact kt
        refine own_step (T' := T65) (f' := (mkF m 200 #[.val (.int i0), .val (.int i1), .val (.int i2), .val (.int i3), .val (.int i4), .val (.int i5), .val (.int (2 : Int32)), .val (.int i7), .val (.int i8), .val (.ref b45), .val (.int (1 : Int32)), .val (.int (f1n2_0 i8 i0 i1)), .unset] [])) (fun t kt => ?_) ?_
        · show Steps p.tables e below (T65.setTop (mkF m 197 #[.val (.int i0), .val (.int i1), .val (.int i2), .val (.int i3), .val (.int i4), .val (.int i5), .val (.int (2 : Int32)), .val (.int i7), .val (.int i8), .val (.ref b45), .val (.int (1 : Int32)), .val (.int (f1n2_0 i8 i0 i1)), .unset] [(.int (1 : Int32)), (.int (2 : Int32))])) _
          refine XS.icmpNo X65.here hx rfl (hb hby at_197) rfl (tlt (by decide : ((1 : Int32) < (2 : Int32)))).2.2.2 kt
        refine own_step (T' := T65) (f' := (mkF m 205 #[.val (.int i0), .val (.int i1), .val (.int i2), .val (.int i3), .val (.int i4), .val (.int i5), .val (.int (2 : Int32)), .val (.int i7), .val (.int i8), .val (.ref b45), .val (.int (1 : Int32)), .val (.int (f1n2_0 i8 i0 i1)), .unset] [(.int i1), (.int i1)])) (fun t kt => ?_) ?_
        · show Steps p.tables e below (T65.setTop (mkF m 200 #[.val (.int i0), .val (.int i1), .val (.int i2), .val (.int i3), .val (.int i4), .val (.int i5), .val (.int (2 : Int32)), .val (.int i7), .val (.int i8), .val (.ref b45), .val (.int (1 : Int32)), .val (.int (f1n2_0 i8 i0 i1)), .unset] [])) _
          refine XS.aload X65.here hx rfl (hb hby at_200) rfl rfl ?_
          show Steps p.tables e below (T65.setTop (mkF m 202 #[.val (.int i0), .val (.int i1), .val (.int i2), .val (.int i3), .val (.int i4), .val (.int i5), .val (.int (2 : Int32)), .val (.int i7), .val (.int i8), .val (.ref b45), .val (.int (1 : Int32)), .val (.int (f1n2_0 i8 i0 i1)), .unset] [(.ref b45)])) _
          refine XS.iconst X65.here hx rfl (hb hby at_202) ?_
          show Steps p.tables e below (T65.setTop (mkF m 203 #[.val (.int i0), .val (.int i1), .val (.int i2), .val (.int i3), .val (.int i4), .val (.int i5), .val (.int (2 : Int32)), .val (.int i7), .val (.int i8), .val (.ref b45), .val (.int (1 : Int32)), .val (.int (f1n2_0 i8 i0 i1)), .unset] [(.int (1 : Int32)), (.ref b45)])) _
          refine own_ldI X65 hx hZ e65 Ab45_49 (j := (1 : Int32)) (by decide) (k := 1) (by decide) (v := (.int i1)) rfl (g := (mkF m 203 #[.val (.int i0), .val (.int i1), .val (.int i2), .val (.int i3), .val (.int i4), .val (.int i5), .val (.int (2 : Int32)), .val (.int i7), .val (.int i8), .val (.ref b45), .val (.int (1 : Int32)), .val (.int (f1n2_0 i8 i0 i1)), .unset] [(.int (1 : Int32)), (.ref b45)])) rfl rfl (hb hby at_203) _ ?_
          show Steps p.tables e below (T65.setTop (mkF m 204 #[.val (.int i0), .val (.int i1), .val (.int i2), .val (.int i3), .val (.int i4), .val (.int i5), .val (.int (2 : Int32)), .val (.int i7), .val (.int i8), .val (.ref b45), .val (.int (1 : Int32)), .val (.int (f1n2_0 i8 i0 i1)), .unset] [(.int i1)])) _
          refine XS.iloadN X65.here hx rfl (hb hby at_204) rfl ?_
          exact kt
        refine own_step (T' := T65) (f' := (mkF m 208 #[.val (.int i0), .val (.int i1), .val (.int i2), .val (.int i3), .val (.int i4), .val (.int i5), .val (.int (2 : Int32)), .val (.int i7), .val (.int i8), .val (.ref b45), .val (.int (1 : Int32)), .val (.int (f1n2_0 i8 i0 i1)), .unset] [])) (fun t kt => ?_) ?_
        · show Steps p.tables e below (T65.setTop (mkF m 205 #[.val (.int i0), .val (.int i1), .val (.int i2), .val (.int i3), .val (.int i4), .val (.int i5), .val (.int (2 : Int32)), .val (.int i7), .val (.int i8), .val (.ref b45), .val (.int (1 : Int32)), .val (.int (f1n2_0 i8 i0 i1)), .unset] [(.int i1), (.int i1)])) _
          refine XS.icmpNo X65.here hx rfl (hb hby at_205) rfl (teq (rfl : i1 = i1)).2 kt
        refine own_step (T' := T65) (f' := (mkF m 211 #[.val (.int i0), .val (.int i1), .val (.int i2), .val (.int i3), .val (.int i4), .val (.int i5), .val (.int (2 : Int32)), .val (.int i7), .val (.int i8), .val (.ref b45), .val (.int (1 : Int32)), .val (.int (f1n2_0 i8 i0 i1)), .unset] [(.int (2 : Int32)), (.int (2 : Int32))])) (fun t kt => ?_) ?_
        · show Steps p.tables e below (T65.setTop (mkF m 208 #[.val (.int i0), .val (.int i1), .val (.int i2), .val (.int i3), .val (.int i4), .val (.int i5), .val (.int (2 : Int32)), .val (.int i7), .val (.int i8), .val (.ref b45), .val (.int (1 : Int32)), .val (.int (f1n2_0 i8 i0 i1)), .unset] [])) _
          refine XS.iload X65.here hx rfl (hb hby at_208) rfl ?_
          show Steps p.tables e below (T65.setTop (mkF m 210 #[.val (.int i0), .val (.int i1), .val (.int i2), .val (.int i3), .val (.int i4), .val (.int i5), .val (.int (2 : Int32)), .val (.int i7), .val (.int i8), .val (.ref b45), .val (.int (1 : Int32)), .val (.int (f1n2_0 i8 i0 i1)), .unset] [(.int (2 : Int32))])) _
          refine XS.iconst X65.here hx rfl (hb hby at_210) ?_
          exact kt
        refine own_step (T' := T65) (f' := (mkF m 222 #[.val (.int i0), .val (.int i1), .val (.int i2), .val (.int i3), .val (.int i4), .val (.int i5), .val (.int (2 : Int32)), .val (.int i7), .val (.int i8), .val (.ref b45), .val (.int (1 : Int32)), .val (.int (f1n2_0 i8 i0 i1)), .unset] [])) (fun t kt => ?_) ?_
        · show Steps p.tables e below (T65.setTop (mkF m 211 #[.val (.int i0), .val (.int i1), .val (.int i2), .val (.int i3), .val (.int i4), .val (.int i5), .val (.int (2 : Int32)), .val (.int i7), .val (.int i8), .val (.ref b45), .val (.int (1 : Int32)), .val (.int (f1n2_0 i8 i0 i1)), .unset] [(.int (2 : Int32)), (.int (2 : Int32))])) _
          refine XS.icmpYes X65.here hx rfl (pc0 := 211) (pc' := 222) rfl (hb hby at_211) rfl (flt (by decide : ¬ ((2 : Int32) < (2 : Int32)))).2.2.2 (by decide) (by decide) kt
        refine own_step (T' := T65) (f' := (mkF m 225 #[.val (.int i0), .val (.int i1), .val (.int i2), .val (.int i3), .val (.int i4), .val (.int i5), .val (.int (2 : Int32)), .val (.int i7), .val (.int i8), .val (.ref b45), .val (.int (1 : Int32)), .val (.int (f1n2_0 i8 i0 i1)), .unset] [(.int (3 : Int32)), (.int (2 : Int32))])) (fun t kt => ?_) ?_
        · show Steps p.tables e below (T65.setTop (mkF m 222 #[.val (.int i0), .val (.int i1), .val (.int i2), .val (.int i3), .val (.int i4), .val (.int i5), .val (.int (2 : Int32)), .val (.int i7), .val (.int i8), .val (.ref b45), .val (.int (1 : Int32)), .val (.int (f1n2_0 i8 i0 i1)), .unset] [])) _
          refine XS.iload X65.here hx rfl (hb hby at_222) rfl ?_
          show Steps p.tables e below (T65.setTop (mkF m 224 #[.val (.int i0), .val (.int i1), .val (.int i2), .val (.int i3), .val (.int i4), .val (.int i5), .val (.int (2 : Int32)), .val (.int i7), .val (.int i8), .val (.ref b45), .val (.int (1 : Int32)), .val (.int (f1n2_0 i8 i0 i1)), .unset] [(.int (2 : Int32))])) _
          refine XS.iconst X65.here hx rfl (hb hby at_224) ?_
          exact kt
        refine own_step (T' := T65) (f' := (mkF m 236 #[.val (.int i0), .val (.int i1), .val (.int i2), .val (.int i3), .val (.int i4), .val (.int i5), .val (.int (2 : Int32)), .val (.int i7), .val (.int i8), .val (.ref b45), .val (.int (1 : Int32)), .val (.int (f1n2_0 i8 i0 i1)), .unset] [])) (fun t kt => ?_) ?_
        · show Steps p.tables e below (T65.setTop (mkF m 225 #[.val (.int i0), .val (.int i1), .val (.int i2), .val (.int i3), .val (.int i4), .val (.int i5), .val (.int (2 : Int32)), .val (.int i7), .val (.int i8), .val (.ref b45), .val (.int (1 : Int32)), .val (.int (f1n2_0 i8 i0 i1)), .unset] [(.int (3 : Int32)), (.int (2 : Int32))])) _
          refine XS.icmpYes X65.here hx rfl (pc0 := 225) (pc' := 236) rfl (hb hby at_225) rfl (flt (by decide : ¬ ((3 : Int32) < (2 : Int32)))).2.2.2 (by decide) (by decide) kt
        refine own_step (T' := T65) (f' := (mkF m 247 #[.val (.int i0), .val (.int i1), .val (.int i2), .val (.int i3), .val (.int i4), .val (.int i5), .val (.int (2 : Int32)), .val (.int i7), .val (.int i8), .val (.ref b45), .val (.int (1 : Int32)), .val (.int (f1n2_0 i8 i0 i1)), .val (.int (1 : Int32))] [(.int (1 : Int32)), (.int (f1n2_0 i8 i0 i1))])) (fun t kt => ?_) ?_
        · show Steps p.tables e below (T65.setTop (mkF m 236 #[.val (.int i0), .val (.int i1), .val (.int i2), .val (.int i3), .val (.int i4), .val (.int i5), .val (.int (2 : Int32)), .val (.int i7), .val (.int i8), .val (.ref b45), .val (.int (1 : Int32)), .val (.int (f1n2_0 i8 i0 i1)), .unset] [])) _
          refine XS.iconst X65.here hx rfl (hb hby at_236) ?_
          show Steps p.tables e below (T65.setTop (mkF m 237 #[.val (.int i0), .val (.int i1), .val (.int i2), .val (.int i3), .val (.int i4), .val (.int i5), .val (.int (2 : Int32)), .val (.int i7), .val (.int i8), .val (.ref b45), .val (.int (1 : Int32)), .val (.int (f1n2_0 i8 i0 i1)), .unset] [(.int (1 : Int32))])) _
          refine XS.goto X65.here hx rfl (pc0 := 237) (pc' := 241) rfl (hb hby at_237) (by decide) (by decide) ?_
          show Steps p.tables e below (T65.setTop (mkF m 241 #[.val (.int i0), .val (.int i1), .val (.int i2), .val (.int i3), .val (.int i4), .val (.int i5), .val (.int (2 : Int32)), .val (.int i7), .val (.int i8), .val (.ref b45), .val (.int (1 : Int32)), .val (.int (f1n2_0 i8 i0 i1)), .unset] [(.int (1 : Int32))])) _
          refine XS.istore X65.here hx rfl (hb hby at_241) rfl (l' := #[.val (.int i0), .val (.int i1), .val (.int i2), .val (.int i3), .val (.int i4), .val (.int i5), .val (.int (2 : Int32)), .val (.int i7), .val (.int i8), .val (.ref b45), .val (.int (1 : Int32)), .val (.int (f1n2_0 i8 i0 i1)), .val (.int (1 : Int32))]) rfl ?_
          show Steps p.tables e below (T65.setTop (mkF m 243 #[.val (.int i0), .val (.int i1), .val (.int i2), .val (.int i3), .val (.int i4), .val (.int i5), .val (.int (2 : Int32)), .val (.int i7), .val (.int i8), .val (.ref b45), .val (.int (1 : Int32)), .val (.int (f1n2_0 i8 i0 i1)), .val (.int (1 : Int32))] [])) _
          refine XS.iload X65.here hx rfl (hb hby at_243) rfl ?_
          show Steps p.tables e below (T65.setTop (mkF m 245 #[.val (.int i0), .val (.int i1), .val (.int i2), .val (.int i3), .val (.int i4), .val (.int i5), .val (.int (2 : Int32)), .val (.int i7), .val (.int i8), .val (.ref b45), .val (.int (1 : Int32)), .val (.int (f1n2_0 i8 i0 i1)), .val (.int (1 : Int32))] [(.int (f1n2_0 i8 i0 i1))])) _
          refine XS.iload X65.here hx rfl (hb hby at_245) rfl ?_
          exact kt
        by_cases hc247_72 : (f1n2_0 i8 i0 i1) = (1 : Int32)
        · rw [if_pos hc247_72] at hr
          refine own_step (T' := T65) (f' := (mkF m 250 #[.val (.int i0), .val (.int i1), .val (.int i2), .val (.int i3), .val (.int i4), .val (.int i5), .val (.int (2 : Int32)), .val (.int i7), .val (.int i8), .val (.ref b45), .val (.int (1 : Int32)), .val (.int (f1n2_0 i8 i0 i1)), .val (.int (1 : Int32))] [])) (fun t kt => ?_) ?_
          · show Steps p.tables e below (T65.setTop (mkF m 247 #[.val (.int i0), .val (.int i1), .val (.int i2), .val (.int i3), .val (.int i4), .val (.int i5), .val (.int (2 : Int32)), .val (.int i7), .val (.int i8), .val (.ref b45), .val (.int (1 : Int32)), .val (.int (f1n2_0 i8 i0 i1)), .val (.int (1 : Int32))] [(.int (1 : Int32)), (.int (f1n2_0 i8 i0 i1))])) _
            refine XS.icmpNo X65.here hx rfl (hb hby at_247) rfl (teq hc247_72).2 kt
          refine own_step (T' := T65) (f' := (mkF m 252 #[.val (.int i0), .val (.int i1), .val (.int i2), .val (.int i3), .val (.int i4), .val (.int i5), .val (.int (2 : Int32)), .val (.int i7), .val (.int i8), .val (.ref b45), .val (.int (1 : Int32)), .val (.int (f1n2_0 i8 i0 i1)), .val (.int (1 : Int32))] [(.int (1 : Int32))])) (fun t kt => ?_) ?_
          · show Steps p.tables e below (T65.setTop (mkF m 250 #[.val (.int i0), .val (.int i1), .val (.int i2), .val (.int i3), .val (.int i4), .val (.int i5), .val (.int (2 : Int32)), .val (.int i7), .val (.int i8), .val (.ref b45), .val (.int (1 : Int32)), .val (.int (f1n2_0 i8 i0 i1)), .val (.int (1 : Int32))] [])) _
            refine XS.iload X65.here hx rfl (hb hby at_250) rfl ?_
            exact kt
          refine own_step (T' := T65) (f' := (mkF m 255 #[.val (.int i0), .val (.int i1), .val (.int i2), .val (.int i3), .val (.int i4), .val (.int i5), .val (.int (2 : Int32)), .val (.int i7), .val (.int i8), .val (.ref b45), .val (.int (1 : Int32)), .val (.int (f1n2_0 i8 i0 i1)), .val (.int (1 : Int32))] [])) (fun t kt => ?_) ?_
          · show Steps p.tables e below (T65.setTop (mkF m 252 #[.val (.int i0), .val (.int i1), .val (.int i2), .val (.int i3), .val (.int i4), .val (.int i5), .val (.int (2 : Int32)), .val (.int i7), .val (.int i8), .val (.ref b45), .val (.int (1 : Int32)), .val (.int (f1n2_0 i8 i0 i1)), .val (.int (1 : Int32))] [(.int (1 : Int32))])) _
            refine XS.ifNo X65.here hx rfl (hb hby at_252) rfl ((if0 _ _).trans (feq (by decide : ¬ ((1 : Int32) = (0 : Int32)))).1) kt
          refine own_step (T' := T65) (f' := (mkF m 260 #[.val (.int i0), .val (.int i1), .val (.int i2), .val (.int i3), .val (.int i4), .val (.int i5), .val (.int (2 : Int32)), .val (.int i7), .val (.int i8), .val (.ref b45), .val (.int (1 : Int32)), .val (.int (f1n2_0 i8 i0 i1)), .val (.int (1 : Int32))] [(.int (1 : Int32))])) (fun t kt => ?_) ?_
          · show Steps p.tables e below (T65.setTop (mkF m 255 #[.val (.int i0), .val (.int i1), .val (.int i2), .val (.int i3), .val (.int i4), .val (.int i5), .val (.int (2 : Int32)), .val (.int i7), .val (.int i8), .val (.ref b45), .val (.int (1 : Int32)), .val (.int (f1n2_0 i8 i0 i1)), .val (.int (1 : Int32))] [])) _
            refine XS.iconst X65.here hx rfl (hb hby at_255) ?_
            show Steps p.tables e below (T65.setTop (mkF m 256 #[.val (.int i0), .val (.int i1), .val (.int i2), .val (.int i3), .val (.int i4), .val (.int i5), .val (.int (2 : Int32)), .val (.int i7), .val (.int i8), .val (.ref b45), .val (.int (1 : Int32)), .val (.int (f1n2_0 i8 i0 i1)), .val (.int (1 : Int32))] [(.int (1 : Int32))])) _
            refine XS.goto X65.here hx rfl (pc0 := 256) (pc' := 260) rfl (hb hby at_256) (by decide) (by decide) ?_
            exact kt
          exact own_retZ X65 hx hret (by simp) hlk (hb hby at_260) (by decide) (by decide) ⟨congrArg (fun z => some (Value.int z)) hr.symm, N65⟩
        · rw [if_neg hc247_72] at hr
          refine own_step (T' := T65) (f' := (mkF m 259 #[.val (.int i0), .val (.int i1), .val (.int i2), .val (.int i3), .val (.int i4), .val (.int i5), .val (.int (2 : Int32)), .val (.int i7), .val (.int i8), .val (.ref b45), .val (.int (1 : Int32)), .val (.int (f1n2_0 i8 i0 i1)), .val (.int (1 : Int32))] [])) (fun t kt => ?_) ?_
          · show Steps p.tables e below (T65.setTop (mkF m 247 #[.val (.int i0), .val (.int i1), .val (.int i2), .val (.int i3), .val (.int i4), .val (.int i5), .val (.int (2 : Int32)), .val (.int i7), .val (.int i8), .val (.ref b45), .val (.int (1 : Int32)), .val (.int (f1n2_0 i8 i0 i1)), .val (.int (1 : Int32))] [(.int (1 : Int32)), (.int (f1n2_0 i8 i0 i1))])) _
            refine XS.icmpYes X65.here hx rfl (pc0 := 247) (pc' := 259) rfl (hb hby at_247) rfl (feq hc247_72).2 (by decide) (by decide) kt
          refine own_step (T' := T65) (f' := (mkF m 260 #[.val (.int i0), .val (.int i1), .val (.int i2), .val (.int i3), .val (.int i4), .val (.int i5), .val (.int (2 : Int32)), .val (.int i7), .val (.int i8), .val (.ref b45), .val (.int (1 : Int32)), .val (.int (f1n2_0 i8 i0 i1)), .val (.int (1 : Int32))] [(.int (0 : Int32))])) (fun t kt => ?_) ?_
          · show Steps p.tables e below (T65.setTop (mkF m 259 #[.val (.int i0), .val (.int i1), .val (.int i2), .val (.int i3), .val (.int i4), .val (.int i5), .val (.int (2 : Int32)), .val (.int i7), .val (.int i8), .val (.ref b45), .val (.int (1 : Int32)), .val (.int (f1n2_0 i8 i0 i1)), .val (.int (1 : Int32))] [])) _
            refine XS.iconst X65.here hx rfl (hb hby at_259) ?_
            exact kt
          exact own_retZ X65 hx hret (by simp) hlk (hb hby at_260) (by decide) (by decide) ⟨congrArg (fun z => some (Value.int z)) hr.symm, N65⟩
      · rw [if_neg hc138_64] at hr
        refine own_step (T' := T49) (f' := (mkF m 141 #[.val (.int i0), .val (.int i1), .val (.int i2), .val (.int i3), .val (.int i4), .val (.int i5), .val (.int (2 : Int32)), .val (.int i7), .val (.int i8), .val (.ref b45), .unset, .unset, .unset] [])) (fun t kt => ?_) ?_
        · show Steps p.tables e below (T49.setTop (mkF m 138 #[.val (.int i0), .val (.int i1), .val (.int i2), .val (.int i3), .val (.int i4), .val (.int i5), .val (.int (2 : Int32)), .val (.int i7), .val (.int i8), .val (.ref b45), .unset, .unset, .unset] [(.int i8), (.int i1)])) _
          refine XS.icmpNo X49.here hx rfl (hb hby at_138) rfl (feq hc138_64).1 kt
        refine own_step (T' := T49) (f' := (mkF m 144 #[.val (.int i0), .val (.int i1), .val (.int i2), .val (.int i3), .val (.int i4), .val (.int i5), .val (.int (2 : Int32)), .val (.int i7), .val (.int i8), .val (.ref b45), .unset, .unset, .unset] [(.int (2 : Int32)), (.int (2 : Int32))])) (fun t kt => ?_) ?_
        · show Steps p.tables e below (T49.setTop (mkF m 141 #[.val (.int i0), .val (.int i1), .val (.int i2), .val (.int i3), .val (.int i4), .val (.int i5), .val (.int (2 : Int32)), .val (.int i7), .val (.int i8), .val (.ref b45), .unset, .unset, .unset] [])) _
          refine XS.iload X49.here hx rfl (hb hby at_141) rfl ?_
          show Steps p.tables e below (T49.setTop (mkF m 143 #[.val (.int i0), .val (.int i1), .val (.int i2), .val (.int i3), .val (.int i4), .val (.int i5), .val (.int (2 : Int32)), .val (.int i7), .val (.int i8), .val (.ref b45), .unset, .unset, .unset] [(.int (2 : Int32))])) _
          refine XS.iconst X49.here hx rfl (hb hby at_143) ?_
          exact kt
        refine own_step (T' := T49) (f' := (mkF m 153 #[.val (.int i0), .val (.int i1), .val (.int i2), .val (.int i3), .val (.int i4), .val (.int i5), .val (.int (2 : Int32)), .val (.int i7), .val (.int i8), .val (.ref b45), .unset, .unset, .unset] [])) (fun t kt => ?_) ?_
        · show Steps p.tables e below (T49.setTop (mkF m 144 #[.val (.int i0), .val (.int i1), .val (.int i2), .val (.int i3), .val (.int i4), .val (.int i5), .val (.int (2 : Int32)), .val (.int i7), .val (.int i8), .val (.ref b45), .unset, .unset, .unset] [(.int (2 : Int32)), (.int (2 : Int32))])) _
          refine XS.icmpYes X49.here hx rfl (pc0 := 144) (pc' := 153) rfl (hb hby at_144) rfl (flt (by decide : ¬ ((2 : Int32) < (2 : Int32)))).2.2.2 (by decide) (by decide) kt
        refine own_step (T' := T49) (f' := (mkF m 156 #[.val (.int i0), .val (.int i1), .val (.int i2), .val (.int i3), .val (.int i4), .val (.int i5), .val (.int (2 : Int32)), .val (.int i7), .val (.int i8), .val (.ref b45), .unset, .unset, .unset] [(.int (3 : Int32)), (.int (2 : Int32))])) (fun t kt => ?_) ?_
        · show Steps p.tables e below (T49.setTop (mkF m 153 #[.val (.int i0), .val (.int i1), .val (.int i2), .val (.int i3), .val (.int i4), .val (.int i5), .val (.int (2 : Int32)), .val (.int i7), .val (.int i8), .val (.ref b45), .unset, .unset, .unset] [])) _
          refine XS.iload X49.here hx rfl (hb hby at_153) rfl ?_
          show Steps p.tables e below (T49.setTop (mkF m 155 #[.val (.int i0), .val (.int i1), .val (.int i2), .val (.int i3), .val (.int i4), .val (.int i5), .val (.int (2 : Int32)), .val (.int i7), .val (.int i8), .val (.ref b45), .unset, .unset, .unset] [(.int (2 : Int32))])) _
          refine XS.iconst X49.here hx rfl (hb hby at_155) ?_
          exact kt
        refine own_step (T' := T49) (f' := (mkF m 169 #[.val (.int i0), .val (.int i1), .val (.int i2), .val (.int i3), .val (.int i4), .val (.int i5), .val (.int (2 : Int32)), .val (.int i7), .val (.int i8), .val (.ref b45), .unset, .unset, .unset] [])) (fun t kt => ?_) ?_
        · show Steps p.tables e below (T49.setTop (mkF m 156 #[.val (.int i0), .val (.int i1), .val (.int i2), .val (.int i3), .val (.int i4), .val (.int i5), .val (.int (2 : Int32)), .val (.int i7), .val (.int i8), .val (.ref b45), .unset, .unset, .unset] [(.int (3 : Int32)), (.int (2 : Int32))])) _
          refine XS.icmpYes X49.here hx rfl (pc0 := 156) (pc' := 169) rfl (hb hby at_156) rfl (flt (by decide : ¬ ((3 : Int32) < (2 : Int32)))).2.2.2 (by decide) (by decide) kt
        refine own_step (T' := T49) (f' := (mkF m 176 #[.val (.int i0), .val (.int i1), .val (.int i2), .val (.int i3), .val (.int i4), .val (.int i5), .val (.int (2 : Int32)), .val (.int i7), .val (.int i8), .val (.ref b45), .val (.int (0 : Int32)), .unset, .unset] [(.int i8), (.ref b45)])) (fun t kt => ?_) ?_
        · show Steps p.tables e below (T49.setTop (mkF m 169 #[.val (.int i0), .val (.int i1), .val (.int i2), .val (.int i3), .val (.int i4), .val (.int i5), .val (.int (2 : Int32)), .val (.int i7), .val (.int i8), .val (.ref b45), .unset, .unset, .unset] [])) _
          refine XS.iconst X49.here hx rfl (hb hby at_169) ?_
          show Steps p.tables e below (T49.setTop (mkF m 170 #[.val (.int i0), .val (.int i1), .val (.int i2), .val (.int i3), .val (.int i4), .val (.int i5), .val (.int (2 : Int32)), .val (.int i7), .val (.int i8), .val (.ref b45), .unset, .unset, .unset] [(.int (0 : Int32))])) _
          refine XS.istore X49.here hx rfl (hb hby at_170) rfl (l' := #[.val (.int i0), .val (.int i1), .val (.int i2), .val (.int i3), .val (.int i4), .val (.int i5), .val (.int (2 : Int32)), .val (.int i7), .val (.int i8), .val (.ref b45), .val (.int (0 : Int32)), .unset, .unset]) rfl ?_
          show Steps p.tables e below (T49.setTop (mkF m 172 #[.val (.int i0), .val (.int i1), .val (.int i2), .val (.int i3), .val (.int i4), .val (.int i5), .val (.int (2 : Int32)), .val (.int i7), .val (.int i8), .val (.ref b45), .val (.int (0 : Int32)), .unset, .unset] [])) _
          refine XS.aload X49.here hx rfl (hb hby at_172) rfl rfl ?_
          show Steps p.tables e below (T49.setTop (mkF m 174 #[.val (.int i0), .val (.int i1), .val (.int i2), .val (.int i3), .val (.int i4), .val (.int i5), .val (.int (2 : Int32)), .val (.int i7), .val (.int i8), .val (.ref b45), .val (.int (0 : Int32)), .unset, .unset] [(.ref b45)])) _
          refine XS.iload X49.here hx rfl (hb hby at_174) rfl ?_
          exact kt
        obtain ⟨_, _, ⟨T76, L76, k76, n76⟩, -, X76, ⟨Lc76, hQ76, l76, y76, z76⟩, st76⟩ := Jvm.LawKit.callS X49 hx (y := (⟨"com/example/conceal/conceal/SensitiveHolders", "contains", "([II)Z"⟩ : MethodName)) hown (mvT hZ (hw _ (List.mem_of_getElem? (i := 1) rfl))) (mvT hZ (hw _ (List.mem_of_getElem? (i := 2) rfl))) (mvT hZ (hw _ (List.mem_of_getElem? (i := 3) rfl))) (mvT hZ (hw _ (List.mem_of_getElem? (i := 4) rfl))) (by decide) (backOf (W := 0) (rm1n2 l Z a0 hw [] b45 i8 i0 i1 h49 n0 Ab45_49) hZ (hw _ (List.mem_of_getElem? (i := 4) rfl)) (hw _ (List.mem_of_getElem? (i := 3) rfl)) (by decide) (by decide)) (g := (mkF m 176 #[.val (.int i0), .val (.int i1), .val (.int i2), .val (.int i3), .val (.int i4), .val (.int i5), .val (.int (2 : Int32)), .val (.int i7), .val (.int i8), .val (.ref b45), .val (.int (0 : Int32)), .unset, .unset] [(.int i8), (.ref b45)])) rfl (by rw [hml]; rfl) (argsL := [(.ref b45), (.int i8)]) (rest := []) (lenOf pd1 rfl) rfl (by show 2 * 0 + _ ≤ _; exact Nat.le_of_eq rfl) (hb hby at_176) (fun _ _ => ⟨rfl, e49, (by decide : 1 + 0 ≤ _), (by decide : 2 + 0 ≤ _)⟩)
        dsimp only [Pt.U, Pt.locs, Pt.cells, Pt.slots] at X76 l76 y76 z76 st76 hQ76
        subst l76 y76 z76
        obtain ⟨rfl, Nq76, e76⟩ := hQ76
        have N76 := Fr.app N49 Nq76
        refine own_step (T' := T76) (f' := (mkF m 179 #[.val (.int i0), .val (.int i1), .val (.int i2), .val (.int i3), .val (.int i4), .val (.int i5), .val (.int (2 : Int32)), .val (.int i7), .val (.int i8), .val (.ref b45), .val (.int (0 : Int32)), .unset, .unset] [(.int (f1n2_0 i8 i0 i1))])) st76 ?_
        refine own_step (T' := T76) (f' := (mkF m 183 #[.val (.int i0), .val (.int i1), .val (.int i2), .val (.int i3), .val (.int i4), .val (.int i5), .val (.int (2 : Int32)), .val (.int i7), .val (.int i8), .val (.ref b45), .val (.int (0 : Int32)), .val (.int (f1n2_0 i8 i0 i1)), .unset] [(.int (2 : Int32))])) (fun t kt => ?_) ?_
        · show Steps p.tables e below (T76.setTop (mkF m 179 #[.val (.int i0), .val (.int i1), .val (.int i2), .val (.int i3), .val (.int i4), .val (.int i5), .val (.int (2 : Int32)), .val (.int i7), .val (.int i8), .val (.ref b45), .val (.int (0 : Int32)), .unset, .unset] [(.int (f1n2_0 i8 i0 i1))])) _
          refine XS.istore X76.here hx rfl (hb hby at_179) rfl (l' := #[.val (.int i0), .val (.int i1), .val (.int i2), .val (.int i3), .val (.int i4), .val (.int i5), .val (.int (2 : Int32)), .val (.int i7), .val (.int i8), .val (.ref b45), .val (.int (0 : Int32)), .val (.int (f1n2_0 i8 i0 i1)), .unset]) rfl ?_
          show Steps p.tables e below (T76.setTop (mkF m 181 #[.val (.int i0), .val (.int i1), .val (.int i2), .val (.int i3), .val (.int i4), .val (.int i5), .val (.int (2 : Int32)), .val (.int i7), .val (.int i8), .val (.ref b45), .val (.int (0 : Int32)), .val (.int (f1n2_0 i8 i0 i1)), .unset] [])) _
          refine XS.iload X76.here hx rfl (hb hby at_181) rfl ?_
          exact kt
        refine own_step (T' := T76) (f' := (mkF m 186 #[.val (.int i0), .val (.int i1), .val (.int i2), .val (.int i3), .val (.int i4), .val (.int i5), .val (.int (2 : Int32)), .val (.int i7), .val (.int i8), .val (.ref b45), .val (.int (0 : Int32)), .val (.int (f1n2_0 i8 i0 i1)), .unset] [])) (fun t kt => ?_) ?_
        · show Steps p.tables e below (T76.setTop (mkF m 183 #[.val (.int i0), .val (.int i1), .val (.int i2), .val (.int i3), .val (.int i4), .val (.int i5), .val (.int (2 : Int32)), .val (.int i7), .val (.int i8), .val (.ref b45), .val (.int (0 : Int32)), .val (.int (f1n2_0 i8 i0 i1)), .unset] [(.int (2 : Int32))])) _
          refine XS.ifNo X76.here hx rfl (hb hby at_183) rfl ((if0 _ _).trans (tlt (by decide : ((0 : Int32) < (2 : Int32)))).2.2.2) kt
        refine own_step (T' := T76) (f' := (mkF m 191 #[.val (.int i0), .val (.int i1), .val (.int i2), .val (.int i3), .val (.int i4), .val (.int i5), .val (.int (2 : Int32)), .val (.int i7), .val (.int i8), .val (.ref b45), .val (.int (0 : Int32)), .val (.int (f1n2_0 i8 i0 i1)), .unset] [(.int i0), (.int i0)])) (fun t kt => ?_) ?_
        · show Steps p.tables e below (T76.setTop (mkF m 186 #[.val (.int i0), .val (.int i1), .val (.int i2), .val (.int i3), .val (.int i4), .val (.int i5), .val (.int (2 : Int32)), .val (.int i7), .val (.int i8), .val (.ref b45), .val (.int (0 : Int32)), .val (.int (f1n2_0 i8 i0 i1)), .unset] [])) _
          refine XS.aload X76.here hx rfl (hb hby at_186) rfl rfl ?_
          show Steps p.tables e below (T76.setTop (mkF m 188 #[.val (.int i0), .val (.int i1), .val (.int i2), .val (.int i3), .val (.int i4), .val (.int i5), .val (.int (2 : Int32)), .val (.int i7), .val (.int i8), .val (.ref b45), .val (.int (0 : Int32)), .val (.int (f1n2_0 i8 i0 i1)), .unset] [(.ref b45)])) _
          refine XS.iconst X76.here hx rfl (hb hby at_188) ?_
          show Steps p.tables e below (T76.setTop (mkF m 189 #[.val (.int i0), .val (.int i1), .val (.int i2), .val (.int i3), .val (.int i4), .val (.int i5), .val (.int (2 : Int32)), .val (.int i7), .val (.int i8), .val (.ref b45), .val (.int (0 : Int32)), .val (.int (f1n2_0 i8 i0 i1)), .unset] [(.int (0 : Int32)), (.ref b45)])) _
          refine own_ldI X76 hx hZ e76 Ab45_49 (j := (0 : Int32)) (by decide) (k := 0) (by decide) (v := (.int i0)) rfl (g := (mkF m 189 #[.val (.int i0), .val (.int i1), .val (.int i2), .val (.int i3), .val (.int i4), .val (.int i5), .val (.int (2 : Int32)), .val (.int i7), .val (.int i8), .val (.ref b45), .val (.int (0 : Int32)), .val (.int (f1n2_0 i8 i0 i1)), .unset] [(.int (0 : Int32)), (.ref b45)])) rfl rfl (hb hby at_189) _ ?_
          show Steps p.tables e below (T76.setTop (mkF m 190 #[.val (.int i0), .val (.int i1), .val (.int i2), .val (.int i3), .val (.int i4), .val (.int i5), .val (.int (2 : Int32)), .val (.int i7), .val (.int i8), .val (.ref b45), .val (.int (0 : Int32)), .val (.int (f1n2_0 i8 i0 i1)), .unset] [(.int i0)])) _
          refine XS.iloadN X76.here hx rfl (hb hby at_190) rfl ?_
          exact kt
        refine own_step (T' := T76) (f' := (mkF m 194 #[.val (.int i0), .val (.int i1), .val (.int i2), .val (.int i3), .val (.int i4), .val (.int i5), .val (.int (2 : Int32)), .val (.int i7), .val (.int i8), .val (.ref b45), .val (.int (0 : Int32)), .val (.int (f1n2_0 i8 i0 i1)), .unset] [])) (fun t kt => ?_) ?_
        · show Steps p.tables e below (T76.setTop (mkF m 191 #[.val (.int i0), .val (.int i1), .val (.int i2), .val (.int i3), .val (.int i4), .val (.int i5), .val (.int (2 : Int32)), .val (.int i7), .val (.int i8), .val (.ref b45), .val (.int (0 : Int32)), .val (.int (f1n2_0 i8 i0 i1)), .unset] [(.int i0), (.int i0)])) _
          refine XS.icmpNo X76.here hx rfl (hb hby at_191) rfl (teq (rfl : i0 = i0)).2 kt
        refine own_step (T' := T76) (f' := (mkF m 197 #[.val (.int i0), .val (.int i1), .val (.int i2), .val (.int i3), .val (.int i4), .val (.int i5), .val (.int (2 : Int32)), .val (.int i7), .val (.int i8), .val (.ref b45), .val (.int (0 : Int32)), .val (.int (f1n2_0 i8 i0 i1)), .unset] [(.int (1 : Int32)), (.int (2 : Int32))])) (fun t kt => ?_) ?_
        · show Steps p.tables e below (T76.setTop (mkF m 194 #[.val (.int i0), .val (.int i1), .val (.int i2), .val (.int i3), .val (.int i4), .val (.int i5), .val (.int (2 : Int32)), .val (.int i7), .val (.int i8), .val (.ref b45), .val (.int (0 : Int32)), .val (.int (f1n2_0 i8 i0 i1)), .unset] [])) _
          refine XS.iload X76.here hx rfl (hb hby at_194) rfl ?_
          show Steps p.tables e below (T76.setTop (mkF m 196 #[.val (.int i0), .val (.int i1), .val (.int i2), .val (.int i3), .val (.int i4), .val (.int i5), .val (.int (2 : Int32)), .val (.int i7), .val (.int i8), .val (.ref b45), .val (.int (0 : Int32)), .val (.int (f1n2_0 i8 i0 i1)), .unset] [(.int (2 : Int32))])) _
          refine XS.iconst X76.here hx rfl (hb hby at_196) ?_
          exact kt
        refine own_step (T' := T76) (f' := (mkF m 200 #[.val (.int i0), .val (.int i1), .val (.int i2), .val (.int i3), .val (.int i4), .val (.int i5), .val (.int (2 : Int32)), .val (.int i7), .val (.int i8), .val (.ref b45), .val (.int (0 : Int32)), .val (.int (f1n2_0 i8 i0 i1)), .unset] [])) (fun t kt => ?_) ?_
        · show Steps p.tables e below (T76.setTop (mkF m 197 #[.val (.int i0), .val (.int i1), .val (.int i2), .val (.int i3), .val (.int i4), .val (.int i5), .val (.int (2 : Int32)), .val (.int i7), .val (.int i8), .val (.ref b45), .val (.int (0 : Int32)), .val (.int (f1n2_0 i8 i0 i1)), .unset] [(.int (1 : Int32)), (.int (2 : Int32))])) _
          refine XS.icmpNo X76.here hx rfl (hb hby at_197) rfl (tlt (by decide : ((1 : Int32) < (2 : Int32)))).2.2.2 kt
        refine own_step (T' := T76) (f' := (mkF m 205 #[.val (.int i0), .val (.int i1), .val (.int i2), .val (.int i3), .val (.int i4), .val (.int i5), .val (.int (2 : Int32)), .val (.int i7), .val (.int i8), .val (.ref b45), .val (.int (0 : Int32)), .val (.int (f1n2_0 i8 i0 i1)), .unset] [(.int i1), (.int i1)])) (fun t kt => ?_) ?_
        · show Steps p.tables e below (T76.setTop (mkF m 200 #[.val (.int i0), .val (.int i1), .val (.int i2), .val (.int i3), .val (.int i4), .val (.int i5), .val (.int (2 : Int32)), .val (.int i7), .val (.int i8), .val (.ref b45), .val (.int (0 : Int32)), .val (.int (f1n2_0 i8 i0 i1)), .unset] [])) _
          refine XS.aload X76.here hx rfl (hb hby at_200) rfl rfl ?_
          show Steps p.tables e below (T76.setTop (mkF m 202 #[.val (.int i0), .val (.int i1), .val (.int i2), .val (.int i3), .val (.int i4), .val (.int i5), .val (.int (2 : Int32)), .val (.int i7), .val (.int i8), .val (.ref b45), .val (.int (0 : Int32)), .val (.int (f1n2_0 i8 i0 i1)), .unset] [(.ref b45)])) _
          refine XS.iconst X76.here hx rfl (hb hby at_202) ?_
          show Steps p.tables e below (T76.setTop (mkF m 203 #[.val (.int i0), .val (.int i1), .val (.int i2), .val (.int i3), .val (.int i4), .val (.int i5), .val (.int (2 : Int32)), .val (.int i7), .val (.int i8), .val (.ref b45), .val (.int (0 : Int32)), .val (.int (f1n2_0 i8 i0 i1)), .unset] [(.int (1 : Int32)), (.ref b45)])) _
          refine own_ldI X76 hx hZ e76 Ab45_49 (j := (1 : Int32)) (by decide) (k := 1) (by decide) (v := (.int i1)) rfl (g := (mkF m 203 #[.val (.int i0), .val (.int i1), .val (.int i2), .val (.int i3), .val (.int i4), .val (.int i5), .val (.int (2 : Int32)), .val (.int i7), .val (.int i8), .val (.ref b45), .val (.int (0 : Int32)), .val (.int (f1n2_0 i8 i0 i1)), .unset] [(.int (1 : Int32)), (.ref b45)])) rfl rfl (hb hby at_203) _ ?_
          show Steps p.tables e below (T76.setTop (mkF m 204 #[.val (.int i0), .val (.int i1), .val (.int i2), .val (.int i3), .val (.int i4), .val (.int i5), .val (.int (2 : Int32)), .val (.int i7), .val (.int i8), .val (.ref b45), .val (.int (0 : Int32)), .val (.int (f1n2_0 i8 i0 i1)), .unset] [(.int i1)])) _
          refine XS.iloadN X76.here hx rfl (hb hby at_204) rfl ?_
          exact kt
        refine own_step (T' := T76) (f' := (mkF m 208 #[.val (.int i0), .val (.int i1), .val (.int i2), .val (.int i3), .val (.int i4), .val (.int i5), .val (.int (2 : Int32)), .val (.int i7), .val (.int i8), .val (.ref b45), .val (.int (0 : Int32)), .val (.int (f1n2_0 i8 i0 i1)), .unset] [])) (fun t kt => ?_) ?_
        · show Steps p.tables e below (T76.setTop (mkF m 205 #[.val (.int i0), .val (.int i1), .val (.int i2), .val (.int i3), .val (.int i4), .val (.int i5), .val (.int (2 : Int32)), .val (.int i7), .val (.int i8), .val (.ref b45), .val (.int (0 : Int32)), .val (.int (f1n2_0 i8 i0 i1)), .unset] [(.int i1), (.int i1)])) _
          refine XS.icmpNo X76.here hx rfl (hb hby at_205) rfl (teq (rfl : i1 = i1)).2 kt
        refine own_step (T' := T76) (f' := (mkF m 211 #[.val (.int i0), .val (.int i1), .val (.int i2), .val (.int i3), .val (.int i4), .val (.int i5), .val (.int (2 : Int32)), .val (.int i7), .val (.int i8), .val (.ref b45), .val (.int (0 : Int32)), .val (.int (f1n2_0 i8 i0 i1)), .unset] [(.int (2 : Int32)), (.int (2 : Int32))])) (fun t kt => ?_) ?_
        · show Steps p.tables e below (T76.setTop (mkF m 208 #[.val (.int i0), .val (.int i1), .val (.int i2), .val (.int i3), .val (.int i4), .val (.int i5), .val (.int (2 : Int32)), .val (.int i7), .val (.int i8), .val (.ref b45), .val (.int (0 : Int32)), .val (.int (f1n2_0 i8 i0 i1)), .unset] [])) _
          refine XS.iload X76.here hx rfl (hb hby at_208) rfl ?_
          show Steps p.tables e below (T76.setTop (mkF m 210 #[.val (.int i0), .val (.int i1), .val (.int i2), .val (.int i3), .val (.int i4), .val (.int i5), .val (.int (2 : Int32)), .val (.int i7), .val (.int i8), .val (.ref b45), .val (.int (0 : Int32)), .val (.int (f1n2_0 i8 i0 i1)), .unset] [(.int (2 : Int32))])) _
          refine XS.iconst X76.here hx rfl (hb hby at_210) ?_
          exact kt
        refine own_step (T' := T76) (f' := (mkF m 222 #[.val (.int i0), .val (.int i1), .val (.int i2), .val (.int i3), .val (.int i4), .val (.int i5), .val (.int (2 : Int32)), .val (.int i7), .val (.int i8), .val (.ref b45), .val (.int (0 : Int32)), .val (.int (f1n2_0 i8 i0 i1)), .unset] [])) (fun t kt => ?_) ?_
        · show Steps p.tables e below (T76.setTop (mkF m 211 #[.val (.int i0), .val (.int i1), .val (.int i2), .val (.int i3), .val (.int i4), .val (.int i5), .val (.int (2 : Int32)), .val (.int i7), .val (.int i8), .val (.ref b45), .val (.int (0 : Int32)), .val (.int (f1n2_0 i8 i0 i1)), .unset] [(.int (2 : Int32)), (.int (2 : Int32))])) _
          refine XS.icmpYes X76.here hx rfl (pc0 := 211) (pc' := 222) rfl (hb hby at_211) rfl (flt (by decide : ¬ ((2 : Int32) < (2 : Int32)))).2.2.2 (by decide) (by decide) kt
        refine own_step (T' := T76) (f' := (mkF m 225 #[.val (.int i0), .val (.int i1), .val (.int i2), .val (.int i3), .val (.int i4), .val (.int i5), .val (.int (2 : Int32)), .val (.int i7), .val (.int i8), .val (.ref b45), .val (.int (0 : Int32)), .val (.int (f1n2_0 i8 i0 i1)), .unset] [(.int (3 : Int32)), (.int (2 : Int32))])) (fun t kt => ?_) ?_
        · show Steps p.tables e below (T76.setTop (mkF m 222 #[.val (.int i0), .val (.int i1), .val (.int i2), .val (.int i3), .val (.int i4), .val (.int i5), .val (.int (2 : Int32)), .val (.int i7), .val (.int i8), .val (.ref b45), .val (.int (0 : Int32)), .val (.int (f1n2_0 i8 i0 i1)), .unset] [])) _
          refine XS.iload X76.here hx rfl (hb hby at_222) rfl ?_
          show Steps p.tables e below (T76.setTop (mkF m 224 #[.val (.int i0), .val (.int i1), .val (.int i2), .val (.int i3), .val (.int i4), .val (.int i5), .val (.int (2 : Int32)), .val (.int i7), .val (.int i8), .val (.ref b45), .val (.int (0 : Int32)), .val (.int (f1n2_0 i8 i0 i1)), .unset] [(.int (2 : Int32))])) _
          refine XS.iconst X76.here hx rfl (hb hby at_224) ?_
          exact kt
        refine own_step (T' := T76) (f' := (mkF m 236 #[.val (.int i0), .val (.int i1), .val (.int i2), .val (.int i3), .val (.int i4), .val (.int i5), .val (.int (2 : Int32)), .val (.int i7), .val (.int i8), .val (.ref b45), .val (.int (0 : Int32)), .val (.int (f1n2_0 i8 i0 i1)), .unset] [])) (fun t kt => ?_) ?_
        · show Steps p.tables e below (T76.setTop (mkF m 225 #[.val (.int i0), .val (.int i1), .val (.int i2), .val (.int i3), .val (.int i4), .val (.int i5), .val (.int (2 : Int32)), .val (.int i7), .val (.int i8), .val (.ref b45), .val (.int (0 : Int32)), .val (.int (f1n2_0 i8 i0 i1)), .unset] [(.int (3 : Int32)), (.int (2 : Int32))])) _
          refine XS.icmpYes X76.here hx rfl (pc0 := 225) (pc' := 236) rfl (hb hby at_225) rfl (flt (by decide : ¬ ((3 : Int32) < (2 : Int32)))).2.2.2 (by decide) (by decide) kt
        refine own_step (T' := T76) (f' := (mkF m 247 #[.val (.int i0), .val (.int i1), .val (.int i2), .val (.int i3), .val (.int i4), .val (.int i5), .val (.int (2 : Int32)), .val (.int i7), .val (.int i8), .val (.ref b45), .val (.int (0 : Int32)), .val (.int (f1n2_0 i8 i0 i1)), .val (.int (1 : Int32))] [(.int (0 : Int32)), (.int (f1n2_0 i8 i0 i1))])) (fun t kt => ?_) ?_
        · show Steps p.tables e below (T76.setTop (mkF m 236 #[.val (.int i0), .val (.int i1), .val (.int i2), .val (.int i3), .val (.int i4), .val (.int i5), .val (.int (2 : Int32)), .val (.int i7), .val (.int i8), .val (.ref b45), .val (.int (0 : Int32)), .val (.int (f1n2_0 i8 i0 i1)), .unset] [])) _
          refine XS.iconst X76.here hx rfl (hb hby at_236) ?_
          show Steps p.tables e below (T76.setTop (mkF m 237 #[.val (.int i0), .val (.int i1), .val (.int i2), .val (.int i3), .val (.int i4), .val (.int i5), .val (.int (2 : Int32)), .val (.int i7), .val (.int i8), .val (.ref b45), .val (.int (0 : Int32)), .val (.int (f1n2_0 i8 i0 i1)), .unset] [(.int (1 : Int32))])) _
          refine XS.goto X76.here hx rfl (pc0 := 237) (pc' := 241) rfl (hb hby at_237) (by decide) (by decide) ?_
          show Steps p.tables e below (T76.setTop (mkF m 241 #[.val (.int i0), .val (.int i1), .val (.int i2), .val (.int i3), .val (.int i4), .val (.int i5), .val (.int (2 : Int32)), .val (.int i7), .val (.int i8), .val (.ref b45), .val (.int (0 : Int32)), .val (.int (f1n2_0 i8 i0 i1)), .unset] [(.int (1 : Int32))])) _
          refine XS.istore X76.here hx rfl (hb hby at_241) rfl (l' := #[.val (.int i0), .val (.int i1), .val (.int i2), .val (.int i3), .val (.int i4), .val (.int i5), .val (.int (2 : Int32)), .val (.int i7), .val (.int i8), .val (.ref b45), .val (.int (0 : Int32)), .val (.int (f1n2_0 i8 i0 i1)), .val (.int (1 : Int32))]) rfl ?_
          show Steps p.tables e below (T76.setTop (mkF m 243 #[.val (.int i0), .val (.int i1), .val (.int i2), .val (.int i3), .val (.int i4), .val (.int i5), .val (.int (2 : Int32)), .val (.int i7), .val (.int i8), .val (.ref b45), .val (.int (0 : Int32)), .val (.int (f1n2_0 i8 i0 i1)), .val (.int (1 : Int32))] [])) _
          refine XS.iload X76.here hx rfl (hb hby at_243) rfl ?_
          show Steps p.tables e below (T76.setTop (mkF m 245 #[.val (.int i0), .val (.int i1), .val (.int i2), .val (.int i3), .val (.int i4), .val (.int i5), .val (.int (2 : Int32)), .val (.int i7), .val (.int i8), .val (.ref b45), .val (.int (0 : Int32)), .val (.int (f1n2_0 i8 i0 i1)), .val (.int (1 : Int32))] [(.int (f1n2_0 i8 i0 i1))])) _
          refine XS.iload X76.here hx rfl (hb hby at_245) rfl ?_
          exact kt
        by_cases hc247_83 : (f1n2_0 i8 i0 i1) = (0 : Int32)
        · rw [if_pos hc247_83] at hr
          refine own_step (T' := T76) (f' := (mkF m 250 #[.val (.int i0), .val (.int i1), .val (.int i2), .val (.int i3), .val (.int i4), .val (.int i5), .val (.int (2 : Int32)), .val (.int i7), .val (.int i8), .val (.ref b45), .val (.int (0 : Int32)), .val (.int (f1n2_0 i8 i0 i1)), .val (.int (1 : Int32))] [])) (fun t kt => ?_) ?_
          · show Steps p.tables e below (T76.setTop (mkF m 247 #[.val (.int i0), .val (.int i1), .val (.int i2), .val (.int i3), .val (.int i4), .val (.int i5), .val (.int (2 : Int32)), .val (.int i7), .val (.int i8), .val (.ref b45), .val (.int (0 : Int32)), .val (.int (f1n2_0 i8 i0 i1)), .val (.int (1 : Int32))] [(.int (0 : Int32)), (.int (f1n2_0 i8 i0 i1))])) _
            refine XS.icmpNo X76.here hx rfl (hb hby at_247) rfl (teq hc247_83).2 kt
          refine own_step (T' := T76) (f' := (mkF m 252 #[.val (.int i0), .val (.int i1), .val (.int i2), .val (.int i3), .val (.int i4), .val (.int i5), .val (.int (2 : Int32)), .val (.int i7), .val (.int i8), .val (.ref b45), .val (.int (0 : Int32)), .val (.int (f1n2_0 i8 i0 i1)), .val (.int (1 : Int32))] [(.int (1 : Int32))])) (fun t kt => ?_) ?_
          · show Steps p.tables e below (T76.setTop (mkF m 250 #[.val (.int i0), .val (.int i1), .val (.int i2), .val (.int i3), .val (.int i4), .val (.int i5), .val (.int (2 : Int32)), .val (.int i7), .val (.int i8), .val (.ref b45), .val (.int (0 : Int32)), .val (.int (f1n2_0 i8 i0 i1)), .val (.int (1 : Int32))] [])) _
            refine XS.iload X76.here hx rfl (hb hby at_250) rfl ?_
            exact kt
          refine own_step (T' := T76) (f' := (mkF m 255 #[.val (.int i0), .val (.int i1), .val (.int i2), .val (.int i3), .val (.int i4), .val (.int i5), .val (.int (2 : Int32)), .val (.int i7), .val (.int i8), .val (.ref b45), .val (.int (0 : Int32)), .val (.int (f1n2_0 i8 i0 i1)), .val (.int (1 : Int32))] [])) (fun t kt => ?_) ?_
          · show Steps p.tables e below (T76.setTop (mkF m 252 #[.val (.int i0), .val (.int i1), .val (.int i2), .val (.int i3), .val (.int i4), .val (.int i5), .val (.int (2 : Int32)), .val (.int i7), .val (.int i8), .val (.ref b45), .val (.int (0 : Int32)), .val (.int (f1n2_0 i8 i0 i1)), .val (.int (1 : Int32))] [(.int (1 : Int32))])) _
            refine XS.ifNo X76.here hx rfl (hb hby at_252) rfl ((if0 _ _).trans (feq (by decide : ¬ ((1 : Int32) = (0 : Int32)))).1) kt
          refine own_step (T' := T76) (f' := (mkF m 260 #[.val (.int i0), .val (.int i1), .val (.int i2), .val (.int i3), .val (.int i4), .val (.int i5), .val (.int (2 : Int32)), .val (.int i7), .val (.int i8), .val (.ref b45), .val (.int (0 : Int32)), .val (.int (f1n2_0 i8 i0 i1)), .val (.int (1 : Int32))] [(.int (1 : Int32))])) (fun t kt => ?_) ?_
          · show Steps p.tables e below (T76.setTop (mkF m 255 #[.val (.int i0), .val (.int i1), .val (.int i2), .val (.int i3), .val (.int i4), .val (.int i5), .val (.int (2 : Int32)), .val (.int i7), .val (.int i8), .val (.ref b45), .val (.int (0 : Int32)), .val (.int (f1n2_0 i8 i0 i1)), .val (.int (1 : Int32))] [])) _
            refine XS.iconst X76.here hx rfl (hb hby at_255) ?_
            show Steps p.tables e below (T76.setTop (mkF m 256 #[.val (.int i0), .val (.int i1), .val (.int i2), .val (.int i3), .val (.int i4), .val (.int i5), .val (.int (2 : Int32)), .val (.int i7), .val (.int i8), .val (.ref b45), .val (.int (0 : Int32)), .val (.int (f1n2_0 i8 i0 i1)), .val (.int (1 : Int32))] [(.int (1 : Int32))])) _
            refine XS.goto X76.here hx rfl (pc0 := 256) (pc' := 260) rfl (hb hby at_256) (by decide) (by decide) ?_
            exact kt
          exact own_retZ X76 hx hret (by simp) hlk (hb hby at_260) (by decide) (by decide) ⟨congrArg (fun z => some (Value.int z)) hr.symm, N76⟩
        · rw [if_neg hc247_83] at hr
          refine own_step (T' := T76) (f' := (mkF m 259 #[.val (.int i0), .val (.int i1), .val (.int i2), .val (.int i3), .val (.int i4), .val (.int i5), .val (.int (2 : Int32)), .val (.int i7), .val (.int i8), .val (.ref b45), .val (.int (0 : Int32)), .val (.int (f1n2_0 i8 i0 i1)), .val (.int (1 : Int32))] [])) (fun t kt => ?_) ?_
          · show Steps p.tables e below (T76.setTop (mkF m 247 #[.val (.int i0), .val (.int i1), .val (.int i2), .val (.int i3), .val (.int i4), .val (.int i5), .val (.int (2 : Int32)), .val (.int i7), .val (.int i8), .val (.ref b45), .val (.int (0 : Int32)), .val (.int (f1n2_0 i8 i0 i1)), .val (.int (1 : Int32))] [(.int (0 : Int32)), (.int (f1n2_0 i8 i0 i1))])) _
            refine XS.icmpYes X76.here hx rfl (pc0 := 247) (pc' := 259) rfl (hb hby at_247) rfl (feq hc247_83).2 (by decide) (by decide) kt
          refine own_step (T' := T76) (f' := (mkF m 260 #[.val (.int i0), .val (.int i1), .val (.int i2), .val (.int i3), .val (.int i4), .val (.int i5), .val (.int (2 : Int32)), .val (.int i7), .val (.int i8), .val (.ref b45), .val (.int (0 : Int32)), .val (.int (f1n2_0 i8 i0 i1)), .val (.int (1 : Int32))] [(.int (0 : Int32))])) (fun t kt => ?_) ?_
          · show Steps p.tables e below (T76.setTop (mkF m 259 #[.val (.int i0), .val (.int i1), .val (.int i2), .val (.int i3), .val (.int i4), .val (.int i5), .val (.int (2 : Int32)), .val (.int i7), .val (.int i8), .val (.ref b45), .val (.int (0 : Int32)), .val (.int (f1n2_0 i8 i0 i1)), .val (.int (1 : Int32))] [])) _
            refine XS.iconst X76.here hx rfl (hb hby at_259) ?_
            exact kt
          exact own_retZ X76 hx hret (by simp) hlk (hb hby at_260) (by decide) (by decide) ⟨congrArg (fun z => some (Value.int z)) hr.symm, N76⟩
  · rw [if_neg (by decide), if_neg (by decide), if_neg (by decide), if_pos rfl] at hr
    refine own_step (T' := T0) (f' := (mkF m 71 #[.val (.int i0), .val (.int i1), .val (.int i2), .val (.int i3), .val (.int i4), .val (.int i5), .val (.int (3 : Int32)), .val (.int i7), .val (.int i8), .unset, .unset, .unset, .unset] [(.int (3 : Int32))])) (fun t kt => ?_) ?_
    · show Steps p.tables e below (T0.setTop (mkF m 69 #[.val (.int i0), .val (.int i1), .val (.int i2), .val (.int i3), .val (.int i4), .val (.int i5), .val (.int (3 : Int32)), .val (.int i7), .val (.int i8), .unset, .unset, .unset, .unset] [])) _
      refine XS.iload X0.here hx rfl (hb hby at_69) rfl ?_
      exact kt
    obtain ⟨T85, h85, b85, X85, e85, Ex85, gb85, g85, Z85, Aq85, st85⟩ := own_new X0 hx hZ (aty := .int) (hw _ (List.mem_of_getElem? (i := 0) rfl)) e0 (g := (mkF m 71 #[.val (.int i0), .val (.int i1), .val (.int i2), .val (.int i3), .val (.int i4), .val (.int i5), .val (.int (3 : Int32)), .val (.int i7), .val (.int i8), .unset, .unset, .unset, .unset] [(.int (3 : Int32))])) rfl (hb hby at_71) rfl (by decide) (k := 3) (by decide) (by decide) (by decide) (by decide) Z0
    have Ab85_85 : own_A Z h85 b85 .int [(.int (0 : Int32)), (.int (0 : Int32)), (.int (0 : Int32))] := Aq85
    refine own_step (T' := T85) (f' := (mkF m 73 #[.val (.int i0), .val (.int i1), .val (.int i2), .val (.int i3), .val (.int i4), .val (.int i5), .val (.int (3 : Int32)), .val (.int i7), .val (.int i8), .unset, .unset, .unset, .unset] [(.ref b85)])) st85 ?_
    refine own_step (T' := T85) (f' := (mkF m 77 #[.val (.int i0), .val (.int i1), .val (.int i2), .val (.int i3), .val (.int i4), .val (.int i5), .val (.int (3 : Int32)), .val (.int i7), .val (.int i8), .val (.ref b85), .unset, .unset, .unset] [(.int (3 : Int32))])) (fun t kt => ?_) ?_
    · show Steps p.tables e below (T85.setTop (mkF m 73 #[.val (.int i0), .val (.int i1), .val (.int i2), .val (.int i3), .val (.int i4), .val (.int i5), .val (.int (3 : Int32)), .val (.int i7), .val (.int i8), .unset, .unset, .unset, .unset] [(.ref b85)])) _
      refine XS.astore X85.here hx rfl (hb hby at_73) rfl rfl (l' := #[.val (.int i0), .val (.int i1), .val (.int i2), .val (.int i3), .val (.int i4), .val (.int i5), .val (.int (3 : Int32)), .val (.int i7), .val (.int i8), .val (.ref b85), .unset, .unset, .unset]) rfl ?_
      show Steps p.tables e below (T85.setTop (mkF m 75 #[.val (.int i0), .val (.int i1), .val (.int i2), .val (.int i3), .val (.int i4), .val (.int i5), .val (.int (3 : Int32)), .val (.int i7), .val (.int i8), .val (.ref b85), .unset, .unset, .unset] [])) _
      refine XS.iload X85.here hx rfl (hb hby at_75) rfl ?_
      exact kt
    refine own_step (T' := T85) (f' := (mkF m 80 #[.val (.int i0), .val (.int i1), .val (.int i2), .val (.int i3), .val (.int i4), .val (.int i5), .val (.int (3 : Int32)), .val (.int i7), .val (.int i8), .val (.ref b85), .unset, .unset, .unset] [])) (fun t kt => ?_) ?_
    · show Steps p.tables e below (T85.setTop (mkF m 77 #[.val (.int i0), .val (.int i1), .val (.int i2), .val (.int i3), .val (.int i4), .val (.int i5), .val (.int (3 : Int32)), .val (.int i7), .val (.int i8), .val (.ref b85), .unset, .unset, .unset] [(.int (3 : Int32))])) _
      refine XS.ifNo X85.here hx rfl (hb hby at_77) rfl ((if0 _ _).trans (tlt (by decide : ((0 : Int32) < (3 : Int32)))).2.2.2) kt
    refine own_step (T' := T85) (f' := (mkF m 84 #[.val (.int i0), .val (.int i1), .val (.int i2), .val (.int i3), .val (.int i4), .val (.int i5), .val (.int (3 : Int32)), .val (.int i7), .val (.int i8), .val (.ref b85), .unset, .unset, .unset] [(.int i0), (.int (0 : Int32)), (.ref b85)])) (fun t kt => ?_) ?_
    · show Steps p.tables e below (T85.setTop (mkF m 80 #[.val (.int i0), .val (.int i1), .val (.int i2), .val (.int i3), .val (.int i4), .val (.int i5), .val (.int (3 : Int32)), .val (.int i7), .val (.int i8), .val (.ref b85), .unset, .unset, .unset] [])) _
      refine XS.aload X85.here hx rfl (hb hby at_80) rfl rfl ?_
      show Steps p.tables e below (T85.setTop (mkF m 82 #[.val (.int i0), .val (.int i1), .val (.int i2), .val (.int i3), .val (.int i4), .val (.int i5), .val (.int (3 : Int32)), .val (.int i7), .val (.int i8), .val (.ref b85), .unset, .unset, .unset] [(.ref b85)])) _
      refine XS.iconst X85.here hx rfl (hb hby at_82) ?_
      show Steps p.tables e below (T85.setTop (mkF m 83 #[.val (.int i0), .val (.int i1), .val (.int i2), .val (.int i3), .val (.int i4), .val (.int i5), .val (.int (3 : Int32)), .val (.int i7), .val (.int i8), .val (.ref b85), .unset, .unset, .unset] [(.int (0 : Int32)), (.ref b85)])) _
      refine XS.iloadN X85.here hx rfl (hb hby at_83) rfl ?_
      exact kt
    obtain ⟨T87, h87, Lq87, X87, N87, e87, W87, Z87, Aq87, st87⟩ := own_stI X85 hx hZ e85 Ab85_85 (j := (0 : Int32)) (by decide) (k := 0) (by decide) (Nat.le_of_ble_eq_true rfl) N0 g85 Z85 (g := (mkF m 84 #[.val (.int i0), .val (.int i1), .val (.int i2), .val (.int i3), .val (.int i4), .val (.int i5), .val (.int (3 : Int32)), .val (.int i7), .val (.int i8), .val (.ref b85), .unset, .unset, .unset] [(.int i0), (.int (0 : Int32)), (.ref b85)])) rfl rfl (hb hby at_84)
    have Ab85_87 : own_A Z h87 b85 .int [(.int i0), (.int (0 : Int32)), (.int (0 : Int32))] := Aq87
    refine own_step (T' := T87) (f' := (mkF m 85 #[.val (.int i0), .val (.int i1), .val (.int i2), .val (.int i3), .val (.int i4), .val (.int i5), .val (.int (3 : Int32)), .val (.int i7), .val (.int i8), .val (.ref b85), .unset, .unset, .unset] [])) st87 ?_
    refine own_step (T' := T87) (f' := (mkF m 88 #[.val (.int i0), .val (.int i1), .val (.int i2), .val (.int i3), .val (.int i4), .val (.int i5), .val (.int (3 : Int32)), .val (.int i7), .val (.int i8), .val (.ref b85), .unset, .unset, .unset] [(.int (1 : Int32)), (.int (3 : Int32))])) (fun t kt => ?_) ?_
    · show Steps p.tables e below (T87.setTop (mkF m 85 #[.val (.int i0), .val (.int i1), .val (.int i2), .val (.int i3), .val (.int i4), .val (.int i5), .val (.int (3 : Int32)), .val (.int i7), .val (.int i8), .val (.ref b85), .unset, .unset, .unset] [])) _
      refine XS.iload X87.here hx rfl (hb hby at_85) rfl ?_
      show Steps p.tables e below (T87.setTop (mkF m 87 #[.val (.int i0), .val (.int i1), .val (.int i2), .val (.int i3), .val (.int i4), .val (.int i5), .val (.int (3 : Int32)), .val (.int i7), .val (.int i8), .val (.ref b85), .unset, .unset, .unset] [(.int (3 : Int32))])) _
      refine XS.iconst X87.here hx rfl (hb hby at_87) ?_
      exact kt
    refine own_step (T' := T87) (f' := (mkF m 91 #[.val (.int i0), .val (.int i1), .val (.int i2), .val (.int i3), .val (.int i4), .val (.int i5), .val (.int (3 : Int32)), .val (.int i7), .val (.int i8), .val (.ref b85), .unset, .unset, .unset] [])) (fun t kt => ?_) ?_
    · show Steps p.tables e below (T87.setTop (mkF m 88 #[.val (.int i0), .val (.int i1), .val (.int i2), .val (.int i3), .val (.int i4), .val (.int i5), .val (.int (3 : Int32)), .val (.int i7), .val (.int i8), .val (.ref b85), .unset, .unset, .unset] [(.int (1 : Int32)), (.int (3 : Int32))])) _
      refine XS.icmpNo X87.here hx rfl (hb hby at_88) rfl (tlt (by decide : ((1 : Int32) < (3 : Int32)))).2.2.2 kt
    refine own_step (T' := T87) (f' := (mkF m 95 #[.val (.int i0), .val (.int i1), .val (.int i2), .val (.int i3), .val (.int i4), .val (.int i5), .val (.int (3 : Int32)), .val (.int i7), .val (.int i8), .val (.ref b85), .unset, .unset, .unset] [(.int i1), (.int (1 : Int32)), (.ref b85)])) (fun t kt => ?_) ?_
    · show Steps p.tables e below (T87.setTop (mkF m 91 #[.val (.int i0), .val (.int i1), .val (.int i2), .val (.int i3), .val (.int i4), .val (.int i5), .val (.int (3 : Int32)), .val (.int i7), .val (.int i8), .val (.ref b85), .unset, .unset, .unset] [])) _
      refine XS.aload X87.here hx rfl (hb hby at_91) rfl rfl ?_
      show Steps p.tables e below (T87.setTop (mkF m 93 #[.val (.int i0), .val (.int i1), .val (.int i2), .val (.int i3), .val (.int i4), .val (.int i5), .val (.int (3 : Int32)), .val (.int i7), .val (.int i8), .val (.ref b85), .unset, .unset, .unset] [(.ref b85)])) _
      refine XS.iconst X87.here hx rfl (hb hby at_93) ?_
      show Steps p.tables e below (T87.setTop (mkF m 94 #[.val (.int i0), .val (.int i1), .val (.int i2), .val (.int i3), .val (.int i4), .val (.int i5), .val (.int (3 : Int32)), .val (.int i7), .val (.int i8), .val (.ref b85), .unset, .unset, .unset] [(.int (1 : Int32)), (.ref b85)])) _
      refine XS.iloadN X87.here hx rfl (hb hby at_94) rfl ?_
      exact kt
    obtain ⟨T89, h89, Lq89, X89, N89, e89, W89, Z89, Aq89, st89⟩ := own_stI X87 hx hZ e87 Ab85_87 (j := (1 : Int32)) (by decide) (k := 1) (by decide) (Nat.le_of_ble_eq_true rfl) N87 g85 Z87 (g := (mkF m 95 #[.val (.int i0), .val (.int i1), .val (.int i2), .val (.int i3), .val (.int i4), .val (.int i5), .val (.int (3 : Int32)), .val (.int i7), .val (.int i8), .val (.ref b85), .unset, .unset, .unset] [(.int i1), (.int (1 : Int32)), (.ref b85)])) rfl rfl (hb hby at_95)
    have Ab85_89 : own_A Z h89 b85 .int [(.int i0), (.int i1), (.int (0 : Int32))] := Aq89
    refine own_step (T' := T89) (f' := (mkF m 96 #[.val (.int i0), .val (.int i1), .val (.int i2), .val (.int i3), .val (.int i4), .val (.int i5), .val (.int (3 : Int32)), .val (.int i7), .val (.int i8), .val (.ref b85), .unset, .unset, .unset] [])) st89 ?_
    refine own_step (T' := T89) (f' := (mkF m 99 #[.val (.int i0), .val (.int i1), .val (.int i2), .val (.int i3), .val (.int i4), .val (.int i5), .val (.int (3 : Int32)), .val (.int i7), .val (.int i8), .val (.ref b85), .unset, .unset, .unset] [(.int (2 : Int32)), (.int (3 : Int32))])) (fun t kt => ?_) ?_
    · show Steps p.tables e below (T89.setTop (mkF m 96 #[.val (.int i0), .val (.int i1), .val (.int i2), .val (.int i3), .val (.int i4), .val (.int i5), .val (.int (3 : Int32)), .val (.int i7), .val (.int i8), .val (.ref b85), .unset, .unset, .unset] [])) _
      refine XS.iload X89.here hx rfl (hb hby at_96) rfl ?_
      show Steps p.tables e below (T89.setTop (mkF m 98 #[.val (.int i0), .val (.int i1), .val (.int i2), .val (.int i3), .val (.int i4), .val (.int i5), .val (.int (3 : Int32)), .val (.int i7), .val (.int i8), .val (.ref b85), .unset, .unset, .unset] [(.int (3 : Int32))])) _
      refine XS.iconst X89.here hx rfl (hb hby at_98) ?_
      exact kt
    refine own_step (T' := T89) (f' := (mkF m 102 #[.val (.int i0), .val (.int i1), .val (.int i2), .val (.int i3), .val (.int i4), .val (.int i5), .val (.int (3 : Int32)), .val (.int i7), .val (.int i8), .val (.ref b85), .unset, .unset, .unset] [])) (fun t kt => ?_) ?_
    · show Steps p.tables e below (T89.setTop (mkF m 99 #[.val (.int i0), .val (.int i1), .val (.int i2), .val (.int i3), .val (.int i4), .val (.int i5), .val (.int (3 : Int32)), .val (.int i7), .val (.int i8), .val (.ref b85), .unset, .unset, .unset] [(.int (2 : Int32)), (.int (3 : Int32))])) _
      refine XS.icmpNo X89.here hx rfl (hb hby at_99) rfl (tlt (by decide : ((2 : Int32) < (3 : Int32)))).2.2.2 kt
    refine own_step (T' := T89) (f' := (mkF m 106 #[.val (.int i0), .val (.int i1), .val (.int i2), .val (.int i3), .val (.int i4), .val (.int i5), .val (.int (3 : Int32)), .val (.int i7), .val (.int i8), .val (.ref b85), .unset, .unset, .unset] [(.int i2), (.int (2 : Int32)), (.ref b85)])) (fun t kt => ?_) ?_
    · show Steps p.tables e below (T89.setTop (mkF m 102 #[.val (.int i0), .val (.int i1), .val (.int i2), .val (.int i3), .val (.int i4), .val (.int i5), .val (.int (3 : Int32)), .val (.int i7), .val (.int i8), .val (.ref b85), .unset, .unset, .unset] [])) _
      refine XS.aload X89.here hx rfl (hb hby at_102) rfl rfl ?_
      show Steps p.tables e below (T89.setTop (mkF m 104 #[.val (.int i0), .val (.int i1), .val (.int i2), .val (.int i3), .val (.int i4), .val (.int i5), .val (.int (3 : Int32)), .val (.int i7), .val (.int i8), .val (.ref b85), .unset, .unset, .unset] [(.ref b85)])) _
      refine XS.iconst X89.here hx rfl (hb hby at_104) ?_
      show Steps p.tables e below (T89.setTop (mkF m 105 #[.val (.int i0), .val (.int i1), .val (.int i2), .val (.int i3), .val (.int i4), .val (.int i5), .val (.int (3 : Int32)), .val (.int i7), .val (.int i8), .val (.ref b85), .unset, .unset, .unset] [(.int (2 : Int32)), (.ref b85)])) _
      refine XS.iloadN X89.here hx rfl (hb hby at_105) rfl ?_
      exact kt
    obtain ⟨T91, h91, Lq91, X91, N91, e91, W91, Z91, Aq91, st91⟩ := own_stI X89 hx hZ e89 Ab85_89 (j := (2 : Int32)) (by decide) (k := 2) (by decide) (Nat.le_of_ble_eq_true rfl) N89 g85 Z89 (g := (mkF m 106 #[.val (.int i0), .val (.int i1), .val (.int i2), .val (.int i3), .val (.int i4), .val (.int i5), .val (.int (3 : Int32)), .val (.int i7), .val (.int i8), .val (.ref b85), .unset, .unset, .unset] [(.int i2), (.int (2 : Int32)), (.ref b85)])) rfl rfl (hb hby at_106)
    have Ab85_91 : own_A Z h91 b85 .int [(.int i0), (.int i1), (.int i2)] := Aq91
    refine own_step (T' := T91) (f' := (mkF m 107 #[.val (.int i0), .val (.int i1), .val (.int i2), .val (.int i3), .val (.int i4), .val (.int i5), .val (.int (3 : Int32)), .val (.int i7), .val (.int i8), .val (.ref b85), .unset, .unset, .unset] [])) st91 ?_
    refine own_step (T' := T91) (f' := (mkF m 110 #[.val (.int i0), .val (.int i1), .val (.int i2), .val (.int i3), .val (.int i4), .val (.int i5), .val (.int (3 : Int32)), .val (.int i7), .val (.int i8), .val (.ref b85), .unset, .unset, .unset] [(.int (3 : Int32)), (.int (3 : Int32))])) (fun t kt => ?_) ?_
    · show Steps p.tables e below (T91.setTop (mkF m 107 #[.val (.int i0), .val (.int i1), .val (.int i2), .val (.int i3), .val (.int i4), .val (.int i5), .val (.int (3 : Int32)), .val (.int i7), .val (.int i8), .val (.ref b85), .unset, .unset, .unset] [])) _
      refine XS.iload X91.here hx rfl (hb hby at_107) rfl ?_
      show Steps p.tables e below (T91.setTop (mkF m 109 #[.val (.int i0), .val (.int i1), .val (.int i2), .val (.int i3), .val (.int i4), .val (.int i5), .val (.int (3 : Int32)), .val (.int i7), .val (.int i8), .val (.ref b85), .unset, .unset, .unset] [(.int (3 : Int32))])) _
      refine XS.iconst X91.here hx rfl (hb hby at_109) ?_
      exact kt
    refine own_step (T' := T91) (f' := (mkF m 118 #[.val (.int i0), .val (.int i1), .val (.int i2), .val (.int i3), .val (.int i4), .val (.int i5), .val (.int (3 : Int32)), .val (.int i7), .val (.int i8), .val (.ref b85), .unset, .unset, .unset] [])) (fun t kt => ?_) ?_
    · show Steps p.tables e below (T91.setTop (mkF m 110 #[.val (.int i0), .val (.int i1), .val (.int i2), .val (.int i3), .val (.int i4), .val (.int i5), .val (.int (3 : Int32)), .val (.int i7), .val (.int i8), .val (.ref b85), .unset, .unset, .unset] [(.int (3 : Int32)), (.int (3 : Int32))])) _
      refine XS.icmpYes X91.here hx rfl (pc0 := 110) (pc' := 118) rfl (hb hby at_110) rfl (flt (by decide : ¬ ((3 : Int32) < (3 : Int32)))).2.2.2 (by decide) (by decide) kt
    refine own_step (T' := T91) (f' := (mkF m 120 #[.val (.int i0), .val (.int i1), .val (.int i2), .val (.int i3), .val (.int i4), .val (.int i5), .val (.int (3 : Int32)), .val (.int i7), .val (.int i8), .val (.ref b85), .unset, .unset, .unset] [(.int (3 : Int32))])) (fun t kt => ?_) ?_
    · show Steps p.tables e below (T91.setTop (mkF m 118 #[.val (.int i0), .val (.int i1), .val (.int i2), .val (.int i3), .val (.int i4), .val (.int i5), .val (.int (3 : Int32)), .val (.int i7), .val (.int i8), .val (.ref b85), .unset, .unset, .unset] [])) _
      refine XS.iload X91.here hx rfl (hb hby at_118) rfl ?_
      exact kt
    refine own_step (T' := T91) (f' := (mkF m 123 #[.val (.int i0), .val (.int i1), .val (.int i2), .val (.int i3), .val (.int i4), .val (.int i5), .val (.int (3 : Int32)), .val (.int i7), .val (.int i8), .val (.ref b85), .unset, .unset, .unset] [])) (fun t kt => ?_) ?_
    · show Steps p.tables e below (T91.setTop (mkF m 120 #[.val (.int i0), .val (.int i1), .val (.int i2), .val (.int i3), .val (.int i4), .val (.int i5), .val (.int (3 : Int32)), .val (.int i7), .val (.int i8), .val (.ref b85), .unset, .unset, .unset] [(.int (3 : Int32))])) _
      refine XS.ifNo X91.here hx rfl (hb hby at_120) rfl ((if0 _ _).trans (tlt (by decide : ((0 : Int32) < (3 : Int32)))).2.2.2) kt
    refine own_step (T' := T91) (f' := (mkF m 126 #[.val (.int i0), .val (.int i1), .val (.int i2), .val (.int i3), .val (.int i4), .val (.int i5), .val (.int (3 : Int32)), .val (.int i7), .val (.int i8), .val (.ref b85), .unset, .unset, .unset] [(.int i8), (.int i0)])) (fun t kt => ?_) ?_
    · show Steps p.tables e below (T91.setTop (mkF m 123 #[.val (.int i0), .val (.int i1), .val (.int i2), .val (.int i3), .val (.int i4), .val (.int i5), .val (.int (3 : Int32)), .val (.int i7), .val (.int i8), .val (.ref b85), .unset, .unset, .unset] [])) _
      refine XS.iloadN X91.here hx rfl (hb hby at_123) rfl ?_
      show Steps p.tables e below (T91.setTop (mkF m 124 #[.val (.int i0), .val (.int i1), .val (.int i2), .val (.int i3), .val (.int i4), .val (.int i5), .val (.int (3 : Int32)), .val (.int i7), .val (.int i8), .val (.ref b85), .unset, .unset, .unset] [(.int i0)])) _
      refine XS.iload X91.here hx rfl (hb hby at_124) rfl ?_
      exact kt
    by_cases hc126_94 : i0 = i8
    · rw [if_pos hc126_94] at hr
      refine own_step (T' := T91) (f' := (mkF m 165 #[.val (.int i0), .val (.int i1), .val (.int i2), .val (.int i3), .val (.int i4), .val (.int i5), .val (.int (3 : Int32)), .val (.int i7), .val (.int i8), .val (.ref b85), .unset, .unset, .unset] [])) (fun t kt => ?_) ?_
      · show Steps p.tables e below (T91.setTop (mkF m 126 #[.val (.int i0), .val (.int i1), .val (.int i2), .val (.int i3), .val (.int i4), .val (.int i5), .val (.int (3 : Int32)), .val (.int i7), .val (.int i8), .val (.ref b85), .unset, .unset, .unset] [(.int i8), (.int i0)])) _
        refine XS.icmpYes X91.here hx rfl (pc0 := 126) (pc' := 165) rfl (hb hby at_126) rfl (teq hc126_94).1 (by decide) (by decide) kt
      refine own_step (T' := T91) (f' := (mkF m 176 #[.val (.int i0), .val (.int i1), .val (.int i2), .val (.int i3), .val (.int i4), .val (.int i5), .val (.int (3 : Int32)), .val (.int i7), .val (.int i8), .val (.ref b85), .val (.int (1 : Int32)), .unset, .unset] [(.int i8), (.ref b85)])) (fun t kt => ?_) ?_
      · show Steps p.tables e below (T91.setTop (mkF m 165 #[.val (.int i0), .val (.int i1), .val (.int i2), .val (.int i3), .val (.int i4), .val (.int i5), .val (.int (3 : Int32)), .val (.int i7), .val (.int i8), .val (.ref b85), .unset, .unset, .unset] [])) _
        refine XS.iconst X91.here hx rfl (hb hby at_165) ?_
        show Steps p.tables e below (T91.setTop (mkF m 166 #[.val (.int i0), .val (.int i1), .val (.int i2), .val (.int i3), .val (.int i4), .val (.int i5), .val (.int (3 : Int32)), .val (.int i7), .val (.int i8), .val (.ref b85), .unset, .unset, .unset] [(.int (1 : Int32))])) _
        refine XS.goto X91.here hx rfl (pc0 := 166) (pc' := 170) rfl (hb hby at_166) (by decide) (by decide) ?_
        show Steps p.tables e below (T91.setTop (mkF m 170 #[.val (.int i0), .val (.int i1), .val (.int i2), .val (.int i3), .val (.int i4), .val (.int i5), .val (.int (3 : Int32)), .val (.int i7), .val (.int i8), .val (.ref b85), .unset, .unset, .unset] [(.int (1 : Int32))])) _
        refine XS.istore X91.here hx rfl (hb hby at_170) rfl (l' := #[.val (.int i0), .val (.int i1), .val (.int i2), .val (.int i3), .val (.int i4), .val (.int i5), .val (.int (3 : Int32)), .val (.int i7), .val (.int i8), .val (.ref b85), .val (.int (1 : Int32)), .unset, .unset]) rfl ?_
        show Steps p.tables e below (T91.setTop (mkF m 172 #[.val (.int i0), .val (.int i1), .val (.int i2), .val (.int i3), .val (.int i4), .val (.int i5), .val (.int (3 : Int32)), .val (.int i7), .val (.int i8), .val (.ref b85), .val (.int (1 : Int32)), .unset, .unset] [])) _
        refine XS.aload X91.here hx rfl (hb hby at_172) rfl rfl ?_
        show Steps p.tables e below (T91.setTop (mkF m 174 #[.val (.int i0), .val (.int i1), .val (.int i2), .val (.int i3), .val (.int i4), .val (.int i5), .val (.int (3 : Int32)), .val (.int i7), .val (.int i8), .val (.ref b85), .val (.int (1 : Int32)), .unset, .unset] [(.ref b85)])) _
        refine XS.iload X91.here hx rfl (hb hby at_174) rfl ?_
        exact kt
      obtain ⟨_, _, ⟨T95, L95, k95, n95⟩, -, X95, ⟨Lc95, hQ95, l95, y95, z95⟩, st95⟩ := Jvm.LawKit.callS X91 hx (y := (⟨"com/example/conceal/conceal/SensitiveHolders", "contains", "([II)Z"⟩ : MethodName)) hown (mvT hZ (hw _ (List.mem_of_getElem? (i := 1) rfl))) (mvT hZ (hw _ (List.mem_of_getElem? (i := 2) rfl))) (mvT hZ (hw _ (List.mem_of_getElem? (i := 3) rfl))) (mvT hZ (hw _ (List.mem_of_getElem? (i := 4) rfl))) (by decide) (backOf (W := 0) (rm1n3 l Z a0 hw [] b85 i8 i0 i1 i2 h91 n0 Ab85_91) hZ (hw _ (List.mem_of_getElem? (i := 4) rfl)) (hw _ (List.mem_of_getElem? (i := 3) rfl)) (by decide) (by decide)) (g := (mkF m 176 #[.val (.int i0), .val (.int i1), .val (.int i2), .val (.int i3), .val (.int i4), .val (.int i5), .val (.int (3 : Int32)), .val (.int i7), .val (.int i8), .val (.ref b85), .val (.int (1 : Int32)), .unset, .unset] [(.int i8), (.ref b85)])) rfl (by rw [hml]; rfl) (argsL := [(.ref b85), (.int i8)]) (rest := []) (lenOf pd1 rfl) rfl (by show 2 * 0 + _ ≤ _; exact Nat.le_of_eq rfl) (hb hby at_176) (fun _ _ => ⟨rfl, e91, (by decide : 1 + 0 ≤ _), (by decide : 3 + 0 ≤ _)⟩)
      dsimp only [Pt.U, Pt.locs, Pt.cells, Pt.slots] at X95 l95 y95 z95 st95 hQ95
      subst l95 y95 z95
      obtain ⟨rfl, Nq95, e95⟩ := hQ95
      have N95 := Fr.app N91 Nq95
      refine own_step (T' := T95) (f' := (mkF m 179 #[.val (.int i0), .val (.int i1), .val (.int i2), .val (.int i3), .val (.int i4), .val (.int i5), .val (.int (3 : Int32)), .val (.int i7), .val (.int i8), .val (.ref b85), .val (.int (1 : Int32)), .unset, .unset] [(.int (f1n3_0 i8 i0 i1 i2))])) st95 ?_
      refine own_step (T' := T95) (f' := (mkF m 183 #[.val (.int i0), .val (.int i1), .val (.int i2), .val (.int i3), .val (.int i4), .val (.int i5), .val (.int (3 : Int32)), .val (.int i7), .val (.int i8), .val (.ref b85), .val (.int (1 : Int32)), .val (.int (f1n3_0 i8 i0 i1 i2)), .unset] [(.int (3 : Int32))])) (fun t kt => ?_) ?_
      · show Steps p.tables e below (T95.setTop (mkF m 179 #[.val (.int i0), .val (.int i1), .val (.int i2), .val (.int i3), .val (.int i4), .val (.int i5), .val (.int (3 : Int32)), .val (.int i7), .val (.int i8), .val (.ref b85), .val (.int (1 : Int32)), .unset, .unset] [(.int (f1n3_0 i8 i0 i1 i2))])) _
        refine XS.istore X95.here hx rfl (hb hby at_179) rfl (l' := #[.val (.int i0), .val (.int i1), .val (.int i2), .val (.int i3), .val (.int i4), .val (.int i5), .val (.int (3 : Int32)), .val (.int i7), .val (.int i8), .val (.ref b85), .val (.int (1 : Int32)), .val (.int (f1n3_0 i8 i0 i1 i2)), .unset]) rfl ?_
        show Steps p.tables e below (T95.setTop (mkF m 181 #[.val (.int i0), .val (.int i1), .val (.int i2), .val (.int i3), .val (.int i4), .val (.int i5), .val (.int (3 : Int32)), .val (.int i7), .val (.int i8), .val (.ref b85), .val (.int (1 : Int32)), .val (.int (f1n3_0 i8 i0 i1 i2)), .unset] [])) _
        refine XS.iload X95.here hx rfl (hb hby at_181) rfl ?_
        exact kt
      refine own_step (T' := T95) (f' := (mkF m 186 #[.val (.int i0), .val (.int i1), .val (.int i2), .val (.int i3), .val (.int i4), .val (.int i5), .val (.int (3 : Int32)), .val (.int i7), .val (.int i8), .val (.ref b85), .val (.int (1 : Int32)), .val (.int (f1n3_0 i8 i0 i1 i2)), .unset] [])) (fun t kt => ?_) ?_
      · show Steps p.tables e below (T95.setTop (mkF m 183 #[.val (.int i0), .val (.int i1), .val (.int i2), .val (.int i3), .val (.int i4), .val (.int i5), .val (.int (3 : Int32)), .val (.int i7), .val (.int i8), .val (.ref b85), .val (.int (1 : Int32)), .val (.int (f1n3_0 i8 i0 i1 i2)), .unset] [(.int (3 : Int32))])) _
        refine XS.ifNo X95.here hx rfl (hb hby at_183) rfl ((if0 _ _).trans (tlt (by decide : ((0 : Int32) < (3 : Int32)))).2.2.2) kt
      refine own_step (T' := T95) (f' := (mkF m 191 #[.val (.int i0), .val (.int i1), .val (.int i2), .val (.int i3), .val (.int i4), .val (.int i5), .val (.int (3 : Int32)), .val (.int i7), .val (.int i8), .val (.ref b85), .val (.int (1 : Int32)), .val (.int (f1n3_0 i8 i0 i1 i2)), .unset] [(.int i0), (.int i0)])) (fun t kt => ?_) ?_
      · show Steps p.tables e below (T95.setTop (mkF m 186 #[.val (.int i0), .val (.int i1), .val (.int i2), .val (.int i3), .val (.int i4), .val (.int i5), .val (.int (3 : Int32)), .val (.int i7), .val (.int i8), .val (.ref b85), .val (.int (1 : Int32)), .val (.int (f1n3_0 i8 i0 i1 i2)), .unset] [])) _
        refine XS.aload X95.here hx rfl (hb hby at_186) rfl rfl ?_
        show Steps p.tables e below (T95.setTop (mkF m 188 #[.val (.int i0), .val (.int i1), .val (.int i2), .val (.int i3), .val (.int i4), .val (.int i5), .val (.int (3 : Int32)), .val (.int i7), .val (.int i8), .val (.ref b85), .val (.int (1 : Int32)), .val (.int (f1n3_0 i8 i0 i1 i2)), .unset] [(.ref b85)])) _
        refine XS.iconst X95.here hx rfl (hb hby at_188) ?_
        show Steps p.tables e below (T95.setTop (mkF m 189 #[.val (.int i0), .val (.int i1), .val (.int i2), .val (.int i3), .val (.int i4), .val (.int i5), .val (.int (3 : Int32)), .val (.int i7), .val (.int i8), .val (.ref b85), .val (.int (1 : Int32)), .val (.int (f1n3_0 i8 i0 i1 i2)), .unset] [(.int (0 : Int32)), (.ref b85)])) _
        refine own_ldI X95 hx hZ e95 Ab85_91 (j := (0 : Int32)) (by decide) (k := 0) (by decide) (v := (.int i0)) rfl (g := (mkF m 189 #[.val (.int i0), .val (.int i1), .val (.int i2), .val (.int i3), .val (.int i4), .val (.int i5), .val (.int (3 : Int32)), .val (.int i7), .val (.int i8), .val (.ref b85), .val (.int (1 : Int32)), .val (.int (f1n3_0 i8 i0 i1 i2)), .unset] [(.int (0 : Int32)), (.ref b85)])) rfl rfl (hb hby at_189) _ ?_
        show Steps p.tables e below (T95.setTop (mkF m 190 #[.val (.int i0), .val (.int i1), .val (.int i2), .val (.int i3), .val (.int i4), .val (.int i5), .val (.int (3 : Int32)), .val (.int i7), .val (.int i8), .val (.ref b85), .val (.int (1 : Int32)), .val (.int (f1n3_0 i8 i0 i1 i2)), .unset] [(.int i0)])) _
        refine XS.iloadN X95.here hx rfl (hb hby at_190) rfl ?_
        exact kt
      refine own_step (T' := T95) (f' := (mkF m 194 #[.val (.int i0), .val (.int i1), .val (.int i2), .val (.int i3), .val (.int i4), .val (.int i5), .val (.int (3 : Int32)), .val (.int i7), .val (.int i8), .val (.ref b85), .val (.int (1 : Int32)), .val (.int (f1n3_0 i8 i0 i1 i2)), .unset] [])) (fun t kt => ?_) ?_
      · show Steps p.tables e below (T95.setTop (mkF m 191 #[.val (.int i0), .val (.int i1), .val (.int i2), .val (.int i3), .val (.int i4), .val (.int i5), .val (.int (3 : Int32)), .val (.int i7), .val (.int i8), .val (.ref b85), .val (.int (1 : Int32)), .val (.int (f1n3_0 i8 i0 i1 i2)), .unset] [(.int i0), (.int i0)])) _
        refine XS.icmpNo X95.here hx rfl (hb hby at_191) rfl (teq (rfl : i0 = i0)).2 kt
      refine own_step (T' := T95) (f' := (mkF m 197 #[.val (.int i0), .val (.int i1), .val (.int i2), .val (.int i3), .val (.int i4), .val (.int i5), .val (.int (3 : Int32)), .val (.int i7), .val (.int i8), .val (.ref b85), .val (.int (1 : Int32)), .val (.int (f1n3_0 i8 i0 i1 i2)), .unset] [(.int (1 : Int32)), (.int (3 : Int32))])) (fun t kt => ?_) ?_
      · show Steps p.tables e below (T95.setTop (mkF m 194 #[.val (.int i0), .val (.int i1), .val (.int i2), .val (.int i3), .val (.int i4), .val (.int i5), .val (.int (3 : Int32)), .val (.int i7), .val (.int i8), .val (.ref b85), .val (.int (1 : Int32)), .val (.int (f1n3_0 i8 i0 i1 i2)), .unset] [])) _
        refine XS.iload X95.here hx rfl (hb hby at_194) rfl ?_
        show Steps p.tables e below (T95.setTop (mkF m 196 #[.val (.int i0), .val (.int i1), .val (.int i2), .val (.int i3), .val (.int i4), .val (.int i5), .val (.int (3 : Int32)), .val (.int i7), .val (.int i8), .val (.ref b85), .val (.int (1 : Int32)), .val (.int (f1n3_0 i8 i0 i1 i2)), .unset] [(.int (3 : Int32))])) _
        refine XS.iconst X95.here hx rfl (hb hby at_196) ?_
        exact kt
      refine own_step (T' := T95) (f' := (mkF m 200 #[.val (.int i0), .val (.int i1), .val (.int i2), .val (.int i3), .val (.int i4), .val (.int i5), .val (.int (3 : Int32)), .val (.int i7), .val (.int i8), .val (.ref b85), .val (.int (1 : Int32)), .val (.int (f1n3_0 i8 i0 i1 i2)), .unset] [])) (fun t kt => ?_) ?_
      · show Steps p.tables e below (T95.setTop (mkF m 197 #[.val (.int i0), .val (.int i1), .val (.int i2), .val (.int i3), .val (.int i4), .val (.int i5), .val (.int (3 : Int32)), .val (.int i7), .val (.int i8), .val (.ref b85), .val (.int (1 : Int32)), .val (.int (f1n3_0 i8 i0 i1 i2)), .unset] [(.int (1 : Int32)), (.int (3 : Int32))])) _
        refine XS.icmpNo X95.here hx rfl (hb hby at_197) rfl (tlt (by decide : ((1 : Int32) < (3 : Int32)))).2.2.2 kt
      refine own_step (T' := T95) (f' := (mkF m 205 #[.val (.int i0), .val (.int i1), .val (.int i2), .val (.int i3), .val (.int i4), .val (.int i5), .val (.int (3 : Int32)), .val (.int i7), .val (.int i8), .val (.ref b85), .val (.int (1 : Int32)), .val (.int (f1n3_0 i8 i0 i1 i2)), .unset] [(.int i1), (.int i1)])) (fun t kt => ?_) ?_
      · show Steps p.tables e below (T95.setTop (mkF m 200 #[.val (.int i0), .val (.int i1), .val (.int i2), .val (.int i3), .val (.int i4), .val (.int i5), .val (.int (3 : Int32)), .val (.int i7), .val (.int i8), .val (.ref b85), .val (.int (1 : Int32)), .val (.int (f1n3_0 i8 i0 i1 i2)), .unset] [])) _
        refine XS.aload X95.here hx rfl (hb hby at_200) rfl rfl ?_
        show Steps p.tables e below (T95.setTop (mkF m 202 #[.val (.int i0), .val (.int i1), .val (.int i2), .val (.int i3), .val (.int i4), .val (.int i5), .val (.int (3 : Int32)), .val (.int i7), .val (.int i8), .val (.ref b85), .val (.int (1 : Int32)), .val (.int (f1n3_0 i8 i0 i1 i2)), .unset] [(.ref b85)])) _
        refine XS.iconst X95.here hx rfl (hb hby at_202) ?_
        show Steps p.tables e below (T95.setTop (mkF m 203 #[.val (.int i0), .val (.int i1), .val (.int i2), .val (.int i3), .val (.int i4), .val (.int i5), .val (.int (3 : Int32)), .val (.int i7), .val (.int i8), .val (.ref b85), .val (.int (1 : Int32)), .val (.int (f1n3_0 i8 i0 i1 i2)), .unset] [(.int (1 : Int32)), (.ref b85)])) _
        refine own_ldI X95 hx hZ e95 Ab85_91 (j := (1 : Int32)) (by decide) (k := 1) (by decide) (v := (.int i1)) rfl (g := (mkF m 203 #[.val (.int i0), .val (.int i1), .val (.int i2), .val (.int i3), .val (.int i4), .val (.int i5), .val (.int (3 : Int32)), .val (.int i7), .val (.int i8), .val (.ref b85), .val (.int (1 : Int32)), .val (.int (f1n3_0 i8 i0 i1 i2)), .unset] [(.int (1 : Int32)), (.ref b85)])) rfl rfl (hb hby at_203) _ ?_
        show Steps p.tables e below (T95.setTop (mkF m 204 #[.val (.int i0), .val (.int i1), .val (.int i2), .val (.int i3), .val (.int i4), .val (.int i5), .val (.int (3 : Int32)), .val (.int i7), .val (.int i8), .val (.ref b85), .val (.int (1 : Int32)), .val (.int (f1n3_0 i8 i0 i1 i2)), .unset] [(.int i1)])) _
        refine XS.iloadN X95.here hx rfl (hb hby at_204) rfl ?_
        exact kt
      refine own_step (T' := T95) (f' := (mkF m 208 #[.val (.int i0), .val (.int i1), .val (.int i2), .val (.int i3), .val (.int i4), .val (.int i5), .val (.int (3 : Int32)), .val (.int i7), .val (.int i8), .val (.ref b85), .val (.int (1 : Int32)), .val (.int (f1n3_0 i8 i0 i1 i2)), .unset] [])) (fun t kt => ?_) ?_
      · show Steps p.tables e below (T95.setTop (mkF m 205 #[.val (.int i0), .val (.int i1), .val (.int i2), .val (.int i3), .val (.int i4), .val (.int i5), .val (.int (3 : Int32)), .val (.int i7), .val (.int i8), .val (.ref b85), .val (.int (1 : Int32)), .val (.int (f1n3_0 i8 i0 i1 i2)), .unset] [(.int i1), (.int i1)])) _
        refine XS.icmpNo X95.here hx rfl (hb hby at_205) rfl (teq (rfl : i1 = i1)).2 kt
      refine own_step (T' := T95) (f' := (mkF m 211 #[.val (.int i0), .val (.int i1), .val (.int i2), .val (.int i3), .val (.int i4), .val (.int i5), .val (.int (3 : Int32)), .val (.int i7), .val (.int i8), .val (.ref b85), .val (.int (1 : Int32)), .val (.int (f1n3_0 i8 i0 i1 i2)), .unset] [(.int (2 : Int32)), (.int (3 : Int32))])) (fun t kt => ?_) ?_
      · show Steps p.tables e below (T95.setTop (mkF m 208 #[.val (.int i0), .val (.int i1), .val (.int i2), .val (.int i3), .val (.int i4), .val (.int i5), .val (.int (3 : Int32)), .val (.int i7), .val (.int i8), .val (.ref b85), .val (.int (1 : Int32)), .val (.int (f1n3_0 i8 i0 i1 i2)), .unset] [])) _
        refine XS.iload X95.here hx rfl (hb hby at_208) rfl ?_
        show Steps p.tables e below (T95.setTop (mkF m 210 #[.val (.int i0), .val (.int i1), .val (.int i2), .val (.int i3), .val (.int i4), .val (.int i5), .val (.int (3 : Int32)), .val (.int i7), .val (.int i8), .val (.ref b85), .val (.int (1 : Int32)), .val (.int (f1n3_0 i8 i0 i1 i2)), .unset] [(.int (3 : Int32))])) _
        refine XS.iconst X95.here hx rfl (hb hby at_210) ?_
        exact kt
      refine own_step (T' := T95) (f' := (mkF m 214 #[.val (.int i0), .val (.int i1), .val (.int i2), .val (.int i3), .val (.int i4), .val (.int i5), .val (.int (3 : Int32)), .val (.int i7), .val (.int i8), .val (.ref b85), .val (.int (1 : Int32)), .val (.int (f1n3_0 i8 i0 i1 i2)), .unset] [])) (fun t kt => ?_) ?_
      · show Steps p.tables e below (T95.setTop (mkF m 211 #[.val (.int i0), .val (.int i1), .val (.int i2), .val (.int i3), .val (.int i4), .val (.int i5), .val (.int (3 : Int32)), .val (.int i7), .val (.int i8), .val (.ref b85), .val (.int (1 : Int32)), .val (.int (f1n3_0 i8 i0 i1 i2)), .unset] [(.int (2 : Int32)), (.int (3 : Int32))])) _
        refine XS.icmpNo X95.here hx rfl (hb hby at_211) rfl (tlt (by decide : ((2 : Int32) < (3 : Int32)))).2.2.2 kt
      refine own_step (T' := T95) (f' := (mkF m 219 #[.val (.int i0), .val (.int i1), .val (.int i2), .val (.int i3), .val (.int i4), .val (.int i5), .val (.int (3 : Int32)), .val (.int i7), .val (.int i8), .val (.ref b85), .val (.int (1 : Int32)), .val (.int (f1n3_0 i8 i0 i1 i2)), .unset] [(.int i2), (.int i2)])) (fun t kt => ?_) ?_
      · show Steps p.tables e below (T95.setTop (mkF m 214 #[.val (.int i0), .val (.int i1), .val (.int i2), .val (.int i3), .val (.int i4), .val (.int i5), .val (.int (3 : Int32)), .val (.int i7), .val (.int i8), .val (.ref b85), .val (.int (1 : Int32)), .val (.int (f1n3_0 i8 i0 i1 i2)), .unset] [])) _
        refine XS.aload X95.here hx rfl (hb hby at_214) rfl rfl ?_
        show Steps p.tables e below (T95.setTop (mkF m 216 #[.val (.int i0), .val (.int i1), .val (.int i2), .val (.int i3), .val (.int i4), .val (.int i5), .val (.int (3 : Int32)), .val (.int i7), .val (.int i8), .val (.ref b85), .val (.int (1 : Int32)), .val (.int (f1n3_0 i8 i0 i1 i2)), .unset] [(.ref b85)])) _
        refine XS.iconst X95.here hx rfl (hb hby at_216) ?_
        show Steps p.tables e below (T95.setTop (mkF m 217 #[.val (.int i0), .val (.int i1), .val (.int i2), .val (.int i3), .val (.int i4), .val (.int i5), .val (.int (3 : Int32)), .val (.int i7), .val (.int i8), .val (.ref b85), .val (.int (1 : Int32)), .val (.int (f1n3_0 i8 i0 i1 i2)), .unset] [(.int (2 : Int32)), (.ref b85)])) _
        refine own_ldI X95 hx hZ e95 Ab85_91 (j := (2 : Int32)) (by decide) (k := 2) (by decide) (v := (.int i2)) rfl (g := (mkF m 217 #[.val (.int i0), .val (.int i1), .val (.int i2), .val (.int i3), .val (.int i4), .val (.int i5), .val (.int (3 : Int32)), .val (.int i7), .val (.int i8), .val (.ref b85), .val (.int (1 : Int32)), .val (.int (f1n3_0 i8 i0 i1 i2)), .unset] [(.int (2 : Int32)), (.ref b85)])) rfl rfl (hb hby at_217) _ ?_
        show Steps p.tables e below (T95.setTop (mkF m 218 #[.val (.int i0), .val (.int i1), .val (.int i2), .val (.int i3), .val (.int i4), .val (.int i5), .val (.int (3 : Int32)), .val (.int i7), .val (.int i8), .val (.ref b85), .val (.int (1 : Int32)), .val (.int (f1n3_0 i8 i0 i1 i2)), .unset] [(.int i2)])) _
        refine XS.iloadN X95.here hx rfl (hb hby at_218) rfl ?_
        exact kt
      refine own_step (T' := T95) (f' := (mkF m 222 #[.val (.int i0), .val (.int i1), .val (.int i2), .val (.int i3), .val (.int i4), .val (.int i5), .val (.int (3 : Int32)), .val (.int i7), .val (.int i8), .val (.ref b85), .val (.int (1 : Int32)), .val (.int (f1n3_0 i8 i0 i1 i2)), .unset] [])) (fun t kt => ?_) ?_
      · show Steps p.tables e below (T95.setTop (mkF m 219 #[.val (.int i0), .val (.int i1), .val (.int i2), .val (.int i3), .val (.int i4), .val (.int i5), .val (.int (3 : Int32)), .val (.int i7), .val (.int i8), .val (.ref b85), .val (.int (1 : Int32)), .val (.int (f1n3_0 i8 i0 i1 i2)), .unset] [(.int i2), (.int i2)])) _
        refine XS.icmpNo X95.here hx rfl (hb hby at_219) rfl (teq (rfl : i2 = i2)).2 kt
      refine own_step (T' := T95) (f' := (mkF m 225 #[.val (.int i0), .val (.int i1), .val (.int i2), .val (.int i3), .val (.int i4), .val (.int i5), .val (.int (3 : Int32)), .val (.int i7), .val (.int i8), .val (.ref b85), .val (.int (1 : Int32)), .val (.int (f1n3_0 i8 i0 i1 i2)), .unset] [(.int (3 : Int32)), (.int (3 : Int32))])) (fun t kt => ?_) ?_
      · show Steps p.tables e below (T95.setTop (mkF m 222 #[.val (.int i0), .val (.int i1), .val (.int i2), .val (.int i3), .val (.int i4), .val (.int i5), .val (.int (3 : Int32)), .val (.int i7), .val (.int i8), .val (.ref b85), .val (.int (1 : Int32)), .val (.int (f1n3_0 i8 i0 i1 i2)), .unset] [])) _
        refine XS.iload X95.here hx rfl (hb hby at_222) rfl ?_
        show Steps p.tables e below (T95.setTop (mkF m 224 #[.val (.int i0), .val (.int i1), .val (.int i2), .val (.int i3), .val (.int i4), .val (.int i5), .val (.int (3 : Int32)), .val (.int i7), .val (.int i8), .val (.ref b85), .val (.int (1 : Int32)), .val (.int (f1n3_0 i8 i0 i1 i2)), .unset] [(.int (3 : Int32))])) _
        refine XS.iconst X95.here hx rfl (hb hby at_224) ?_
        exact kt
      refine own_step (T' := T95) (f' := (mkF m 236 #[.val (.int i0), .val (.int i1), .val (.int i2), .val (.int i3), .val (.int i4), .val (.int i5), .val (.int (3 : Int32)), .val (.int i7), .val (.int i8), .val (.ref b85), .val (.int (1 : Int32)), .val (.int (f1n3_0 i8 i0 i1 i2)), .unset] [])) (fun t kt => ?_) ?_
      · show Steps p.tables e below (T95.setTop (mkF m 225 #[.val (.int i0), .val (.int i1), .val (.int i2), .val (.int i3), .val (.int i4), .val (.int i5), .val (.int (3 : Int32)), .val (.int i7), .val (.int i8), .val (.ref b85), .val (.int (1 : Int32)), .val (.int (f1n3_0 i8 i0 i1 i2)), .unset] [(.int (3 : Int32)), (.int (3 : Int32))])) _
        refine XS.icmpYes X95.here hx rfl (pc0 := 225) (pc' := 236) rfl (hb hby at_225) rfl (flt (by decide : ¬ ((3 : Int32) < (3 : Int32)))).2.2.2 (by decide) (by decide) kt
      refine own_step (T' := T95) (f' := (mkF m 247 #[.val (.int i0), .val (.int i1), .val (.int i2), .val (.int i3), .val (.int i4), .val (.int i5), .val (.int (3 : Int32)), .val (.int i7), .val (.int i8), .val (.ref b85), .val (.int (1 : Int32)), .val (.int (f1n3_0 i8 i0 i1 i2)), .val (.int (1 : Int32))] [(.int (1 : Int32)), (.int (f1n3_0 i8 i0 i1 i2))])) (fun t kt => ?_) ?_
      · show Steps p.tables e below (T95.setTop (mkF m 236 #[.val (.int i0), .val (.int i1), .val (.int i2), .val (.int i3), .val (.int i4), .val (.int i5), .val (.int (3 : Int32)), .val (.int i7), .val (.int i8), .val (.ref b85), .val (.int (1 : Int32)), .val (.int (f1n3_0 i8 i0 i1 i2)), .unset] [])) _
        refine XS.iconst X95.here hx rfl (hb hby at_236) ?_
        show Steps p.tables e below (T95.setTop (mkF m 237 #[.val (.int i0), .val (.int i1), .val (.int i2), .val (.int i3), .val (.int i4), .val (.int i5), .val (.int (3 : Int32)), .val (.int i7), .val (.int i8), .val (.ref b85), .val (.int (1 : Int32)), .val (.int (f1n3_0 i8 i0 i1 i2)), .unset] [(.int (1 : Int32))])) _
        refine XS.goto X95.here hx rfl (pc0 := 237) (pc' := 241) rfl (hb hby at_237) (by decide) (by decide) ?_
        show Steps p.tables e below (T95.setTop (mkF m 241 #[.val (.int i0), .val (.int i1), .val (.int i2), .val (.int i3), .val (.int i4), .val (.int i5), .val (.int (3 : Int32)), .val (.int i7), .val (.int i8), .val (.ref b85), .val (.int (1 : Int32)), .val (.int (f1n3_0 i8 i0 i1 i2)), .unset] [(.int (1 : Int32))])) _
        refine XS.istore X95.here hx rfl (hb hby at_241) rfl (l' := #[.val (.int i0), .val (.int i1), .val (.int i2), .val (.int i3), .val (.int i4), .val (.int i5), .val (.int (3 : Int32)), .val (.int i7), .val (.int i8), .val (.ref b85), .val (.int (1 : Int32)), .val (.int (f1n3_0 i8 i0 i1 i2)), .val (.int (1 : Int32))]) rfl ?_
        show Steps p.tables e below (T95.setTop (mkF m 243 #[.val (.int i0), .val (.int i1), .val (.int i2), .val (.int i3), .val (.int i4), .val (.int i5), .val (.int (3 : Int32)), .val (.int i7), .val (.int i8), .val (.ref b85), .val (.int (1 : Int32)), .val (.int (f1n3_0 i8 i0 i1 i2)), .val (.int (1 : Int32))] [])) _
        refine XS.iload X95.here hx rfl (hb hby at_243) rfl ?_
        show Steps p.tables e below (T95.setTop (mkF m 245 #[.val (.int i0), .val (.int i1), .val (.int i2), .val (.int i3), .val (.int i4), .val (.int i5), .val (.int (3 : Int32)), .val (.int i7), .val (.int i8), .val (.ref b85), .val (.int (1 : Int32)), .val (.int (f1n3_0 i8 i0 i1 i2)), .val (.int (1 : Int32))] [(.int (f1n3_0 i8 i0 i1 i2))])) _
        refine XS.iload X95.here hx rfl (hb hby at_245) rfl ?_
        exact kt
      by_cases hc247_103 : (f1n3_0 i8 i0 i1 i2) = (1 : Int32)
      · rw [if_pos hc247_103] at hr
        refine own_step (T' := T95) (f' := (mkF m 250 #[.val (.int i0), .val (.int i1), .val (.int i2), .val (.int i3), .val (.int i4), .val (.int i5), .val (.int (3 : Int32)), .val (.int i7), .val (.int i8), .val (.ref b85), .val (.int (1 : Int32)), .val (.int (f1n3_0 i8 i0 i1 i2)), .val (.int (1 : Int32))] [])) (fun t kt => ?_) ?_
        · show Steps p.tables e below (T95.setTop (mkF m 247 #[.val (.int i0), .val (.int i1), .val (.int i2), .val (.int i3), .val (.int i4), .val (.int i5), .val (.int (3 : Int32)), .val (.int i7), .val (.int i8), .val (.ref b85), .val (.int (1 : Int32)), .val (.int (f1n3_0 i8 i0 i1 i2)), .val (.int (1 : Int32))] [(.int (1 : Int32)), (.int (f1n3_0 i8 i0 i1 i2))])) _
          refine XS.icmpNo X95.here hx rfl (hb hby at_247) rfl (teq hc247_103).2 kt
        refine own_step (T' := T95) (f' := (mkF m 252 #[.val (.int i0), .val (.int i1), .val (.int i2), .val (.int i3), .val (.int i4), .val (.int i5), .val (.int (3 : Int32)), .val (.int i7), .val (.int i8), .val (.ref b85), .val (.int (1 : Int32)), .val (.int (f1n3_0 i8 i0 i1 i2)), .val (.int (1 : Int32))] [(.int (1 : Int32))])) (fun t kt => ?_) ?_
        · show Steps p.tables e below (T95.setTop (mkF m 250 #[.val (.int i0), .val (.int i1), .val (.int i2), .val (.int i3), .val (.int i4), .val (.int i5), .val (.int (3 : Int32)), .val (.int i7), .val (.int i8), .val (.ref b85), .val (.int (1 : Int32)), .val (.int (f1n3_0 i8 i0 i1 i2)), .val (.int (1 : Int32))] [])) _
          refine XS.iload X95.here hx rfl (hb hby at_250) rfl ?_
          exact kt
        refine own_step (T' := T95) (f' := (mkF m 255 #[.val (.int i0), .val (.int i1), .val (.int i2), .val (.int i3), .val (.int i4), .val (.int i5), .val (.int (3 : Int32)), .val (.int i7), .val (.int i8), .val (.ref b85), .val (.int (1 : Int32)), .val (.int (f1n3_0 i8 i0 i1 i2)), .val (.int (1 : Int32))] [])) (fun t kt => ?_) ?_
        · show Steps p.tables e below (T95.setTop (mkF m 252 #[.val (.int i0), .val (.int i1), .val (.int i2), .val (.int i3), .val (.int i4), .val (.int i5), .val (.int (3 : Int32)), .val (.int i7), .val (.int i8), .val (.ref b85), .val (.int (1 : Int32)), .val (.int (f1n3_0 i8 i0 i1 i2)), .val (.int (1 : Int32))] [(.int (1 : Int32))])) _
          refine XS.ifNo X95.here hx rfl (hb hby at_252) rfl ((if0 _ _).trans (feq (by decide : ¬ ((1 : Int32) = (0 : Int32)))).1) kt
        refine own_step (T' := T95) (f' := (mkF m 260 #[.val (.int i0), .val (.int i1), .val (.int i2), .val (.int i3), .val (.int i4), .val (.int i5), .val (.int (3 : Int32)), .val (.int i7), .val (.int i8), .val (.ref b85), .val (.int (1 : Int32)), .val (.int (f1n3_0 i8 i0 i1 i2)), .val (.int (1 : Int32))] [(.int (1 : Int32))])) (fun t kt => ?_) ?_
        · show Steps p.tables e below (T95.setTop (mkF m 255 #[.val (.int i0), .val (.int i1), .val (.int i2), .val (.int i3), .val (.int i4), .val (.int i5), .val (.int (3 : Int32)), .val (.int i7), .val (.int i8), .val (.ref b85), .val (.int (1 : Int32)), .val (.int (f1n3_0 i8 i0 i1 i2)), .val (.int (1 : Int32))] [])) _
          refine XS.iconst X95.here hx rfl (hb hby at_255) ?_
          show Steps p.tables e below (T95.setTop (mkF m 256 #[.val (.int i0), .val (.int i1), .val (.int i2), .val (.int i3), .val (.int i4), .val (.int i5), .val (.int (3 : Int32)), .val (.int i7), .val (.int i8), .val (.ref b85), .val (.int (1 : Int32)), .val (.int (f1n3_0 i8 i0 i1 i2)), .val (.int (1 : Int32))] [(.int (1 : Int32))])) _
          refine XS.goto X95.here hx rfl (pc0 := 256) (pc' := 260) rfl (hb hby at_256) (by decide) (by decide) ?_
          exact kt
        exact own_retZ X95 hx hret (by simp) hlk (hb hby at_260) (by decide) (by decide) ⟨congrArg (fun z => some (Value.int z)) hr.symm, N95⟩
      · rw [if_neg hc247_103] at hr
        refine own_step (T' := T95) (f' := (mkF m 259 #[.val (.int i0), .val (.int i1), .val (.int i2), .val (.int i3), .val (.int i4), .val (.int i5), .val (.int (3 : Int32)), .val (.int i7), .val (.int i8), .val (.ref b85), .val (.int (1 : Int32)), .val (.int (f1n3_0 i8 i0 i1 i2)), .val (.int (1 : Int32))] [])) (fun t kt => ?_) ?_
        · show Steps p.tables e below (T95.setTop (mkF m 247 #[.val (.int i0), .val (.int i1), .val (.int i2), .val (.int i3), .val (.int i4), .val (.int i5), .val (.int (3 : Int32)), .val (.int i7), .val (.int i8), .val (.ref b85), .val (.int (1 : Int32)), .val (.int (f1n3_0 i8 i0 i1 i2)), .val (.int (1 : Int32))] [(.int (1 : Int32)), (.int (f1n3_0 i8 i0 i1 i2))])) _
          refine XS.icmpYes X95.here hx rfl (pc0 := 247) (pc' := 259) rfl (hb hby at_247) rfl (feq hc247_103).2 (by decide) (by decide) kt
        refine own_step (T' := T95) (f' := (mkF m 260 #[.val (.int i0), .val (.int i1), .val (.int i2), .val (.int i3), .val (.int i4), .val (.int i5), .val (.int (3 : Int32)), .val (.int i7), .val (.int i8), .val (.ref b85), .val (.int (1 : Int32)), .val (.int (f1n3_0 i8 i0 i1 i2)), .val (.int (1 : Int32))] [(.int (0 : Int32))])) (fun t kt => ?_) ?_
        · show Steps p.tables e below (T95.setTop (mkF m 259 #[.val (.int i0), .val (.int i1), .val (.int i2), .val (.int i3), .val (.int i4), .val (.int i5), .val (.int (3 : Int32)), .val (.int i7), .val (.int i8), .val (.ref b85), .val (.int (1 : Int32)), .val (.int (f1n3_0 i8 i0 i1 i2)), .val (.int (1 : Int32))] [])) _
          refine XS.iconst X95.here hx rfl (hb hby at_259) ?_
          exact kt
        exact own_retZ X95 hx hret (by simp) hlk (hb hby at_260) (by decide) (by decide) ⟨congrArg (fun z => some (Value.int z)) hr.symm, N95⟩
    · rw [if_neg hc126_94] at hr
      refine own_step (T' := T91) (f' := (mkF m 129 #[.val (.int i0), .val (.int i1), .val (.int i2), .val (.int i3), .val (.int i4), .val (.int i5), .val (.int (3 : Int32)), .val (.int i7), .val (.int i8), .val (.ref b85), .unset, .unset, .unset] [])) (fun t kt => ?_) ?_
      · show Steps p.tables e below (T91.setTop (mkF m 126 #[.val (.int i0), .val (.int i1), .val (.int i2), .val (.int i3), .val (.int i4), .val (.int i5), .val (.int (3 : Int32)), .val (.int i7), .val (.int i8), .val (.ref b85), .unset, .unset, .unset] [(.int i8), (.int i0)])) _
        refine XS.icmpNo X91.here hx rfl (hb hby at_126) rfl (feq hc126_94).1 kt
      refine own_step (T' := T91) (f' := (mkF m 132 #[.val (.int i0), .val (.int i1), .val (.int i2), .val (.int i3), .val (.int i4), .val (.int i5), .val (.int (3 : Int32)), .val (.int i7), .val (.int i8), .val (.ref b85), .unset, .unset, .unset] [(.int (1 : Int32)), (.int (3 : Int32))])) (fun t kt => ?_) ?_
      · show Steps p.tables e below (T91.setTop (mkF m 129 #[.val (.int i0), .val (.int i1), .val (.int i2), .val (.int i3), .val (.int i4), .val (.int i5), .val (.int (3 : Int32)), .val (.int i7), .val (.int i8), .val (.ref b85), .unset, .unset, .unset] [])) _
        refine XS.iload X91.here hx rfl (hb hby at_129) rfl ?_
        show Steps p.tables e below (T91.setTop (mkF m 131 #[.val (.int i0), .val (.int i1), .val (.int i2), .val (.int i3), .val (.int i4), .val (.int i5), .val (.int (3 : Int32)), .val (.int i7), .val (.int i8), .val (.ref b85), .unset, .unset, .unset] [(.int (3 : Int32))])) _
        refine XS.iconst X91.here hx rfl (hb hby at_131) ?_
        exact kt
      refine own_step (T' := T91) (f' := (mkF m 135 #[.val (.int i0), .val (.int i1), .val (.int i2), .val (.int i3), .val (.int i4), .val (.int i5), .val (.int (3 : Int32)), .val (.int i7), .val (.int i8), .val (.ref b85), .unset, .unset, .unset] [])) (fun t kt => ?_) ?_
      · show Steps p.tables e below (T91.setTop (mkF m 132 #[.val (.int i0), .val (.int i1), .val (.int i2), .val (.int i3), .val (.int i4), .val (.int i5), .val (.int (3 : Int32)), .val (.int i7), .val (.int i8), .val (.ref b85), .unset, .unset, .unset] [(.int (1 : Int32)), (.int (3 : Int32))])) _
        refine XS.icmpNo X91.here hx rfl (hb hby at_132) rfl (tlt (by decide : ((1 : Int32) < (3 : Int32)))).2.2.2 kt
      refine own_step (T' := T91) (f' := (mkF m 138 #[.val (.int i0), .val (.int i1), .val (.int i2), .val (.int i3), .val (.int i4), .val (.int i5), .val (.int (3 : Int32)), .val (.int i7), .val (.int i8), .val (.ref b85), .unset, .unset, .unset] [(.int i8), (.int i1)])) (fun t kt => ?_) ?_
      · show Steps p.tables e below (T91.setTop (mkF m 135 #[.val (.int i0), .val (.int i1), .val (.int i2), .val (.int i3), .val (.int i4), .val (.int i5), .val (.int (3 : Int32)), .val (.int i7), .val (.int i8), .val (.ref b85), .unset, .unset, .unset] [])) _
        refine XS.iloadN X91.here hx rfl (hb hby at_135) rfl ?_
        show Steps p.tables e below (T91.setTop (mkF m 136 #[.val (.int i0), .val (.int i1), .val (.int i2), .val (.int i3), .val (.int i4), .val (.int i5), .val (.int (3 : Int32)), .val (.int i7), .val (.int i8), .val (.ref b85), .unset, .unset, .unset] [(.int i1)])) _
        refine XS.iload X91.here hx rfl (hb hby at_136) rfl ?_
        exact kt
      by_cases hc138_106 : i1 = i8
      · rw [if_pos hc138_106] at hr
        refine own_step (T' := T91) (f' := (mkF m 165 #[.val (.int i0), .val (.int i1), .val (.int i2), .val (.int i3), .val (.int i4), .val (.int i5), .val (.int (3 : Int32)), .val (.int i7), .val (.int i8), .val (.ref b85), .unset, .unset, .unset] [])) (fun t kt => ?_) ?_
        · show Steps p.tables e below (T91.setTop (mkF m 138 #[.val (.int i0), .val (.int i1), .val (.int i2), .val (.int i3), .val (.int i4), .val (.int i5), .val (.int (3 : Int32)), .val (.int i7), .val (.int i8), .val (.ref b85), .unset, .unset, .unset] [(.int i8), (.int i1)])) _
          refine XS.icmpYes X91.here hx rfl (pc0 := 138) (pc' := 165) rfl (hb hby at_138) rfl (teq hc138_106).1 (by decide) (by decide) kt
        refine own_step (T' := T91) (f' := (mkF m 176 #[.val (.int i0), .val (.int i1), .val (.int i2), .val (.int i3), .val (.int i4), .val (.int i5), .val (.int (3 : Int32)), .val (.int i7), .val (.int i8), .val (.ref b85), .val (.int (1 : Int32)), .unset, .unset] [(.int i8), (.ref b85)])) (fun t kt => ?_) ?_
        · show Steps p.tables e below (T91.setTop (mkF m 165 #[.val (.int i0), .val (.int i1), .val (.int i2), .val (.int i3), .val (.int i4), .val (.int i5), .val (.int (3 : Int32)), .val (.int i7), .val (.int i8), .val (.ref b85), .unset, .unset, .unset] [])) _
          refine XS.iconst X91.here hx rfl (hb hby at_165) ?_
          show Steps p.tables e below (T91.setTop (mkF m 166 #[.val (.int i0), .val (.int i1), .val (.int i2), .val (.int i3), .val (.int i4), .val (.int i5), .val (.int (3 : Int32)), .val (.int i7), .val (.int i8), .val (.ref b85), .unset, .unset, .unset] [(.int (1 : Int32))])) _
          refine XS.goto X91.here hx rfl (pc0 := 166) (pc' := 170) rfl (hb hby at_166) (by decide) (by decide) ?_
          show Steps p.tables e below (T91.setTop (mkF m 170 #[.val (.int i0), .val (.int i1), .val (.int i2), .val (.int i3), .val (.int i4), .val (.int i5), .val (.int (3 : Int32)), .val (.int i7), .val (.int i8), .val (.ref b85), .unset, .unset, .unset] [(.int (1 : Int32))])) _
          refine XS.istore X91.here hx rfl (hb hby at_170) rfl (l' := #[.val (.int i0), .val (.int i1), .val (.int i2), .val (.int i3), .val (.int i4), .val (.int i5), .val (.int (3 : Int32)), .val (.int i7), .val (.int i8), .val (.ref b85), .val (.int (1 : Int32)), .unset, .unset]) rfl ?_
          show Steps p.tables e below (T91.setTop (mkF m 172 #[.val (.int i0), .val (.int i1), .val (.int i2), .val (.int i3), .val (.int i4), .val (.int i5), .val (.int (3 : Int32)), .val (.int i7), .val (.int i8), .val (.ref b85), .val (.int (1 : Int32)), .unset, .unset] [])) _
          refine XS.aload X91.here hx rfl (hb hby at_172) rfl rfl ?_
          show Steps p.tables e below (T91.setTop (mkF m 174 #[.val (.int i0), .val (.int i1), .val (.int i2), .val (.int i3), .val (.int i4), .val (.int i5), .val (.int (3 : Int32)), .val (.int i7), .val (.int i8), .val (.ref b85), .val (.int (1 : Int32)), .unset, .unset] [(.ref b85)])) _
          refine XS.iload X91.here hx rfl (hb hby at_174) rfl ?_
          exact kt
        obtain ⟨_, _, ⟨T107, L107, k107, n107⟩, -, X107, ⟨Lc107, hQ107, l107, y107, z107⟩, st107⟩ := Jvm.LawKit.callS X91 hx (y := (⟨"com/example/conceal/conceal/SensitiveHolders", "contains", "([II)Z"⟩ : MethodName)) hown (mvT hZ (hw _ (List.mem_of_getElem? (i := 1) rfl))) (mvT hZ (hw _ (List.mem_of_getElem? (i := 2) rfl))) (mvT hZ (hw _ (List.mem_of_getElem? (i := 3) rfl))) (mvT hZ (hw _ (List.mem_of_getElem? (i := 4) rfl))) (by decide) (backOf (W := 0) (rm1n3 l Z a0 hw [] b85 i8 i0 i1 i2 h91 n0 Ab85_91) hZ (hw _ (List.mem_of_getElem? (i := 4) rfl)) (hw _ (List.mem_of_getElem? (i := 3) rfl)) (by decide) (by decide)) (g := (mkF m 176 #[.val (.int i0), .val (.int i1), .val (.int i2), .val (.int i3), .val (.int i4), .val (.int i5), .val (.int (3 : Int32)), .val (.int i7), .val (.int i8), .val (.ref b85), .val (.int (1 : Int32)), .unset, .unset] [(.int i8), (.ref b85)])) rfl (by rw [hml]; rfl) (argsL := [(.ref b85), (.int i8)]) (rest := []) (lenOf pd1 rfl) rfl (by show 2 * 0 + _ ≤ _; exact Nat.le_of_eq rfl) (hb hby at_176) (fun _ _ => ⟨rfl, e91, (by decide : 1 + 0 ≤ _), (by decide : 3 + 0 ≤ _)⟩)
        dsimp only [Pt.U, Pt.locs, Pt.cells, Pt.slots] at X107 l107 y107 z107 st107 hQ107
        subst l107 y107 z107
        obtain ⟨rfl, Nq107, e107⟩ := hQ107
        have N107 := Fr.app N91 Nq107
        refine own_step (T' := T107) (f' := (mkF m 179 #[.val (.int i0), .val (.int i1), .val (.int i2), .val (.int i3), .val (.int i4), .val (.int i5), .val (.int (3 : Int32)), .val (.int i7), .val (.int i8), .val (.ref b85), .val (.int (1 : Int32)), .unset, .unset] [(.int (f1n3_0 i8 i0 i1 i2))])) st107 ?_
        refine own_step (T' := T107) (f' := (mkF m 183 #[.val (.int i0), .val (.int i1), .val (.int i2), .val (.int i3), .val (.int i4), .val (.int i5), .val (.int (3 : Int32)), .val (.int i7), .val (.int i8), .val (.ref b85), .val (.int (1 : Int32)), .val (.int (f1n3_0 i8 i0 i1 i2)), .unset] [(.int (3 : Int32))])) (fun t kt => ?_) ?_
        · show Steps p.tables e below (T107.setTop (mkF m 179 #[.val (.int i0), .val (.int i1), .val (.int i2), .val (.int i3), .val (.int i4), .val (.int i5), .val (.int (3 : Int32)), .val (.int i7), .val (.int i8), .val (.ref b85), .val (.int (1 : Int32)), .unset, .unset] [(.int (f1n3_0 i8 i0 i1 i2))])) _
          refine XS.istore X107.here hx rfl (hb hby at_179) rfl (l' := #[.val (.int i0), .val (.int i1), .val (.int i2), .val (.int i3), .val (.int i4), .val (.int i5), .val (.int (3 : Int32)), .val (.int i7), .val (.int i8), .val (.ref b85), .val (.int (1 : Int32)), .val (.int (f1n3_0 i8 i0 i1 i2)), .unset]) rfl ?_
          show Steps p.tables e below (T107.setTop (mkF m 181 #[.val (.int i0), .val (.int i1), .val (.int i2), .val (.int i3), .val (.int i4), .val (.int i5), .val (.int (3 : Int32)), .val (.int i7), .val (.int i8), .val (.ref b85), .val (.int (1 : Int32)), .val (.int (f1n3_0 i8 i0 i1 i2)), .unset] [])) _
          refine XS.iload X107.here hx rfl (hb hby at_181) rfl ?_
          exact kt
        refine own_step (T' := T107) (f' := (mkF m 186 #[.val (.int i0), .val (.int i1), .val (.int i2), .val (.int i3), .val (.int i4), .val (.int i5), .val (.int (3 : Int32)), .val (.int i7), .val (.int i8), .val (.ref b85), .val (.int (1 : Int32)), .val (.int (f1n3_0 i8 i0 i1 i2)), .unset] [])) (fun t kt => ?_) ?_
        · show Steps p.tables e below (T107.setTop (mkF m 183 #[.val (.int i0), .val (.int i1), .val (.int i2), .val (.int i3), .val (.int i4), .val (.int i5), .val (.int (3 : Int32)), .val (.int i7), .val (.int i8), .val (.ref b85), .val (.int (1 : Int32)), .val (.int (f1n3_0 i8 i0 i1 i2)), .unset] [(.int (3 : Int32))])) _
          refine XS.ifNo X107.here hx rfl (hb hby at_183) rfl ((if0 _ _).trans (tlt (by decide : ((0 : Int32) < (3 : Int32)))).2.2.2) kt
        refine own_step (T' := T107) (f' := (mkF m 191 #[.val (.int i0), .val (.int i1), .val (.int i2), .val (.int i3), .val (.int i4), .val (.int i5), .val (.int (3 : Int32)), .val (.int i7), .val (.int i8), .val (.ref b85), .val (.int (1 : Int32)), .val (.int (f1n3_0 i8 i0 i1 i2)), .unset] [(.int i0), (.int i0)])) (fun t kt => ?_) ?_
        · show Steps p.tables e below (T107.setTop (mkF m 186 #[.val (.int i0), .val (.int i1), .val (.int i2), .val (.int i3), .val (.int i4), .val (.int i5), .val (.int (3 : Int32)), .val (.int i7), .val (.int i8), .val (.ref b85), .val (.int (1 : Int32)), .val (.int (f1n3_0 i8 i0 i1 i2)), .unset] [])) _
          refine XS.aload X107.here hx rfl (hb hby at_186) rfl rfl ?_
          show Steps p.tables e below (T107.setTop (mkF m 188 #[.val (.int i0), .val (.int i1), .val (.int i2), .val (.int i3), .val (.int i4), .val (.int i5), .val (.int (3 : Int32)), .val (.int i7), .val (.int i8), .val (.ref b85), .val (.int (1 : Int32)), .val (.int (f1n3_0 i8 i0 i1 i2)), .unset] [(.ref b85)])) _
          refine XS.iconst X107.here hx rfl (hb hby at_188) ?_
          show Steps p.tables e below (T107.setTop (mkF m 189 #[.val (.int i0), .val (.int i1), .val (.int i2), .val (.int i3), .val (.int i4), .val (.int i5), .val (.int (3 : Int32)), .val (.int i7), .val (.int i8), .val (.ref b85), .val (.int (1 : Int32)), .val (.int (f1n3_0 i8 i0 i1 i2)), .unset] [(.int (0 : Int32)), (.ref b85)])) _
          refine own_ldI X107 hx hZ e107 Ab85_91 (j := (0 : Int32)) (by decide) (k := 0) (by decide) (v := (.int i0)) rfl (g := (mkF m 189 #[.val (.int i0), .val (.int i1), .val (.int i2), .val (.int i3), .val (.int i4), .val (.int i5), .val (.int (3 : Int32)), .val (.int i7), .val (.int i8), .val (.ref b85), .val (.int (1 : Int32)), .val (.int (f1n3_0 i8 i0 i1 i2)), .unset] [(.int (0 : Int32)), (.ref b85)])) rfl rfl (hb hby at_189) _ ?_
          show Steps p.tables e below (T107.setTop (mkF m 190 #[.val (.int i0), .val (.int i1), .val (.int i2), .val (.int i3), .val (.int i4), .val (.int i5), .val (.int (3 : Int32)), .val (.int i7), .val (.int i8), .val (.ref b85), .val (.int (1 : Int32)), .val (.int (f1n3_0 i8 i0 i1 i2)), .unset] [(.int i0)])) _
          refine XS.iloadN X107.here hx rfl (hb hby at_190) rfl ?_
          exact kt
        refine own_step (T' := T107) (f' := (mkF m 194 #[.val (.int i0), .val (.int i1), .val (.int i2), .val (.int i3), .val (.int i4), .val (.int i5), .val (.int (3 : Int32)), .val (.int i7), .val (.int i8), .val (.ref b85), .val (.int (1 : Int32)), .val (.int (f1n3_0 i8 i0 i1 i2)), .unset] [])) (fun t kt => ?_) ?_
        · show Steps p.tables e below (T107.setTop (mkF m 191 #[.val (.int i0), .val (.int i1), .val (.int i2), .val (.int i3), .val (.int i4), .val (.int i5), .val (.int (3 : Int32)), .val (.int i7), .val (.int i8), .val (.ref b85), .val (.int (1 : Int32)), .val (.int (f1n3_0 i8 i0 i1 i2)), .unset] [(.int i0), (.int i0)])) _
          refine XS.icmpNo X107.here hx rfl (hb hby at_191) rfl (teq (rfl : i0 = i0)).2 kt
        refine own_step (T' := T107) (f' := (mkF m 197 #[.val (.int i0), .val (.int i1), .val (.int i2), .val (.int i3), .val (.int i4), .val (.int i5), .val (.int (3 : Int32)), .val (.int i7), .val (.int i8), .val (.ref b85), .val (.int (1 : Int32)), .val (.int (f1n3_0 i8 i0 i1 i2)), .unset] [(.int (1 : Int32)), (.int (3 : Int32))])) (fun t kt => ?_) ?_
        · show Steps p.tables e below (T107.setTop (mkF m 194 #[.val (.int i0), .val (.int i1), .val (.int i2), .val (.int i3), .val (.int i4), .val (.int i5), .val (.int (3 : Int32)), .val (.int i7), .val (.int i8), .val (.ref b85), .val (.int (1 : Int32)), .val (.int (f1n3_0 i8 i0 i1 i2)), .unset] [])) _
          refine XS.iload X107.here hx rfl (hb hby at_194) rfl ?_
          show Steps p.tables e below (T107.setTop (mkF m 196 #[.val (.int i0), .val (.int i1), .val (.int i2), .val (.int i3), .val (.int i4), .val (.int i5), .val (.int (3 : Int32)), .val (.int i7), .val (.int i8), .val (.ref b85), .val (.int (1 : Int32)), .val (.int (f1n3_0 i8 i0 i1 i2)), .unset] [(.int (3 : Int32))])) _
          refine XS.iconst X107.here hx rfl (hb hby at_196) ?_
          exact kt
        refine own_step (T' := T107) (f' := (mkF m 200 #[.val (.int i0), .val (.int i1), .val (.int i2), .val (.int i3), .val (.int i4), .val (.int i5), .val (.int (3 : Int32)), .val (.int i7), .val (.int i8), .val (.ref b85), .val (.int (1 : Int32)), .val (.int (f1n3_0 i8 i0 i1 i2)), .unset] [])) (fun t kt => ?_) ?_
        · show Steps p.tables e below (T107.setTop (mkF m 197 #[.val (.int i0), .val (.int i1), .val (.int i2), .val (.int i3), .val (.int i4), .val (.int i5), .val (.int (3 : Int32)), .val (.int i7), .val (.int i8), .val (.ref b85), .val (.int (1 : Int32)), .val (.int (f1n3_0 i8 i0 i1 i2)), .unset] [(.int (1 : Int32)), (.int (3 : Int32))])) _
          refine XS.icmpNo X107.here hx rfl (hb hby at_197) rfl (tlt (by decide : ((1 : Int32) < (3 : Int32)))).2.2.2 kt
        refine own_step (T' := T107) (f' := (mkF m 205 #[.val (.int i0), .val (.int i1), .val (.int i2), .val (.int i3), .val (.int i4), .val (.int i5), .val (.int (3 : Int32)), .val (.int i7), .val (.int i8), .val (.ref b85), .val (.int (1 : Int32)), .val (.int (f1n3_0 i8 i0 i1 i2)), .unset] [(.int i1), (.int i1)])) (fun t kt => ?_) ?_
        · show Steps p.tables e below (T107.setTop (mkF m 200 #[.val (.int i0), .val (.int i1), .val (.int i2), .val (.int i3), .val (.int i4), .val (.int i5), .val (.int (3 : Int32)), .val (.int i7), .val (.int i8), .val (.ref b85), .val (.int (1 : Int32)), .val (.int (f1n3_0 i8 i0 i1 i2)), .unset] [])) _
          refine XS.aload X107.here hx rfl (hb hby at_200) rfl rfl ?_
          show Steps p.tables e below (T107.setTop (mkF m 202 #[.val (.int i0), .val (.int i1), .val (.int i2), .val (.int i3), .val (.int i4), .val (.int i5), .val (.int (3 : Int32)), .val (.int i7), .val (.int i8), .val (.ref b85), .val (.int (1 : Int32)), .val (.int (f1n3_0 i8 i0 i1 i2)), .unset] [(.ref b85)])) _
          refine XS.iconst X107.here hx rfl (hb hby at_202) ?_
          show Steps p.tables e below (T107.setTop (mkF m 203 #[.val (.int i0), .val (.int i1), .val (.int i2), .val (.int i3), .val (.int i4), .val (.int i5), .val (.int (3 : Int32)), .val (.int i7), .val (.int i8), .val (.ref b85), .val (.int (1 : Int32)), .val (.int (f1n3_0 i8 i0 i1 i2)), .unset] [(.int (1 : Int32)), (.ref b85)])) _
          refine own_ldI X107 hx hZ e107 Ab85_91 (j := (1 : Int32)) (by decide) (k := 1) (by decide) (v := (.int i1)) rfl (g := (mkF m 203 #[.val (.int i0), .val (.int i1), .val (.int i2), .val (.int i3), .val (.int i4), .val (.int i5), .val (.int (3 : Int32)), .val (.int i7), .val (.int i8), .val (.ref b85), .val (.int (1 : Int32)), .val (.int (f1n3_0 i8 i0 i1 i2)), .unset] [(.int (1 : Int32)), (.ref b85)])) rfl rfl (hb hby at_203) _ ?_
          show Steps p.tables e below (T107.setTop (mkF m 204 #[.val (.int i0), .val (.int i1), .val (.int i2), .val (.int i3), .val (.int i4), .val (.int i5), .val (.int (3 : Int32)), .val (.int i7), .val (.int i8), .val (.ref b85), .val (.int (1 : Int32)), .val (.int (f1n3_0 i8 i0 i1 i2)), .unset] [(.int i1)])) _
          refine XS.iloadN X107.here hx rfl (hb hby at_204) rfl ?_
          exact kt
        refine own_step (T' := T107) (f' := (mkF m 208 #[.val (.int i0), .val (.int i1), .val (.int i2), .val (.int i3), .val (.int i4), .val (.int i5), .val (.int (3 : Int32)), .val (.int i7), .val (.int i8), .val (.ref b85), .val (.int (1 : Int32)), .val (.int (f1n3_0 i8 i0 i1 i2)), .unset] [])) (fun t kt => ?_) ?_
        · show Steps p.tables e below (T107.setTop (mkF m 205 #[.val (.int i0), .val (.int i1), .val (.int i2), .val (.int i3), .val (.int i4), .val (.int i5), .val (.int (3 : Int32)), .val (.int i7), .val (.int i8), .val (.ref b85), .val (.int (1 : Int32)), .val (.int (f1n3_0 i8 i0 i1 i2)), .unset] [(.int i1), (.int i1)])) _
          refine XS.icmpNo X107.here hx rfl (hb hby at_205) rfl (teq (rfl : i1 = i1)).2 kt
        refine own_step (T' := T107) (f' := (mkF m 211 #[.val (.int i0), .val (.int i1), .val (.int i2), .val (.int i3), .val (.int i4), .val (.int i5), .val (.int (3 : Int32)), .val (.int i7), .val (.int i8), .val (.ref b85), .val (.int (1 : Int32)), .val (.int (f1n3_0 i8 i0 i1 i2)), .unset] [(.int (2 : Int32)), (.int (3 : Int32))])) (fun t kt => ?_) ?_
        · show Steps p.tables e below (T107.setTop (mkF m 208 #[.val (.int i0), .val (.int i1), .val (.int i2), .val (.int i3), .val (.int i4), .val (.int i5), .val (.int (3 : Int32)), .val (.int i7), .val (.int i8), .val (.ref b85), .val (.int (1 : Int32)), .val (.int (f1n3_0 i8 i0 i1 i2)), .unset] [])) _
          refine XS.iload X107.here hx rfl (hb hby at_208) rfl ?_
          show Steps p.tables e below (T107.setTop (mkF m 210 #[.val (.int i0), .val (.int i1), .val (.int i2), .val (.int i3), .val (.int i4), .val (.int i5), .val (.int (3 : Int32)), .val (.int i7), .val (.int i8), .val (.ref b85), .val (.int (1 : Int32)), .val (.int (f1n3_0 i8 i0 i1 i2)), .unset] [(.int (3 : Int32))])) _
          refine XS.iconst X107.here hx rfl (hb hby at_210) ?_
          exact kt
        refine own_step (T' := T107) (f' := (mkF m 214 #[.val (.int i0), .val (.int i1), .val (.int i2), .val (.int i3), .val (.int i4), .val (.int i5), .val (.int (3 : Int32)), .val (.int i7), .val (.int i8), .val (.ref b85), .val (.int (1 : Int32)), .val (.int (f1n3_0 i8 i0 i1 i2)), .unset] [])) (fun t kt => ?_) ?_
        · show Steps p.tables e below (T107.setTop (mkF m 211 #[.val (.int i0), .val (.int i1), .val (.int i2), .val (.int i3), .val (.int i4), .val (.int i5), .val (.int (3 : Int32)), .val (.int i7), .val (.int i8), .val (.ref b85), .val (.int (1 : Int32)), .val (.int (f1n3_0 i8 i0 i1 i2)), .unset] [(.int (2 : Int32)), (.int (3 : Int32))])) _
          refine XS.icmpNo X107.here hx rfl (hb hby at_211) rfl (tlt (by decide : ((2 : Int32) < (3 : Int32)))).2.2.2 kt
        refine own_step (T' := T107) (f' := (mkF m 219 #[.val (.int i0), .val (.int i1), .val (.int i2), .val (.int i3), .val (.int i4), .val (.int i5), .val (.int (3 : Int32)), .val (.int i7), .val (.int i8), .val (.ref b85), .val (.int (1 : Int32)), .val (.int (f1n3_0 i8 i0 i1 i2)), .unset] [(.int i2), (.int i2)])) (fun t kt => ?_) ?_
        · show Steps p.tables e below (T107.setTop (mkF m 214 #[.val (.int i0), .val (.int i1), .val (.int i2), .val (.int i3), .val (.int i4), .val (.int i5), .val (.int (3 : Int32)), .val (.int i7), .val (.int i8), .val (.ref b85), .val (.int (1 : Int32)), .val (.int (f1n3_0 i8 i0 i1 i2)), .unset] [])) _
          refine XS.aload X107.here hx rfl (hb hby at_214) rfl rfl ?_
          show Steps p.tables e below (T107.setTop (mkF m 216 #[.val (.int i0), .val (.int i1), .val (.int i2), .val (.int i3), .val (.int i4), .val (.int i5), .val (.int (3 : Int32)), .val (.int i7), .val (.int i8), .val (.ref b85), .val (.int (1 : Int32)), .val (.int (f1n3_0 i8 i0 i1 i2)), .unset] [(.ref b85)])) _
          refine XS.iconst X107.here hx rfl (hb hby at_216) ?_
          show Steps p.tables e below (T107.setTop (mkF m 217 #[.val (.int i0), .val (.int i1), .val (.int i2), .val (.int i3), .val (.int i4), .val (.int i5), .val (.int (3 : Int32)), .val (.int i7), .val (.int i8), .val (.ref b85), .val (.int (1 : Int32)), .val (.int (f1n3_0 i8 i0 i1 i2)), .unset] [(.int (2 : Int32)), (.ref b85)])) _
          refine own_ldI X107 hx hZ e107 Ab85_91 (j := (2 : Int32)) (by decide) (k := 2) (by decide) (v := (.int i2)) rfl (g := (mkF m 217 #[.val (.int i0), .val (.int i1), .val (.int i2), .val (.int i3), .val (.int i4), .val (.int i5), .val (.int (3 : Int32)), .val (.int i7), .val (.int i8), .val (.ref b85), .val (.int (1 : Int32)), .val (.int (f1n3_0 i8 i0 i1 i2)), .unset] [(.int (2 : Int32)), (.ref b85)])) rfl rfl (hb hby at_217) _ ?_
          show Steps p.tables e below (T107.setTop (mkF m 218 #[.val (.int i0), .val (.int i1), .val (.int i2), .val (.int i3), .val (.int i4), .val (.int i5), .val (.int (3 : Int32)), .val (.int i7), .val (.int i8), .val (.ref b85), .val (.int (1 : Int32)), .val (.int (f1n3_0 i8 i0 i1 i2)), .unset] [(.int i2)])) _
          refine XS.iloadN X107.here hx rfl (hb hby at_218) rfl ?_
          exact kt
        refine own_step (T' := T107) (f' := (mkF m 222 #[.val (.int i0), .val (.int i1), .val (.int i2), .val (.int i3), .val (.int i4), .val (.int i5), .val (.int (3 : Int32)), .val (.int i7), .val (.int i8), .val (.ref b85), .val (.int (1 : Int32)), .val (.int (f1n3_0 i8 i0 i1 i2)), .unset] [])) (fun t kt => ?_) ?_
        · show Steps p.tables e below (T107.setTop (mkF m 219 #[.val (.int i0), .val (.int i1), .val (.int i2), .val (.int i3), .val (.int i4), .val (.int i5), .val (.int (3 : Int32)), .val (.int i7), .val (.int i8), .val (.ref b85), .val (.int (1 : Int32)), .val (.int (f1n3_0 i8 i0 i1 i2)), .unset] [(.int i2), (.int i2)])) _
          refine XS.icmpNo X107.here hx rfl (hb hby at_219) rfl (teq (rfl : i2 = i2)).2 kt
        refine own_step (T' := T107) (f' := (mkF m 225 #[.val (.int i0), .val (.int i1), .val (.int i2), .val (.int i3), .val (.int i4), .val (.int i5), .val (.int (3 : Int32)), .val (.int i7), .val (.int i8), .val (.ref b85), .val (.int (1 : Int32)), .val (.int (f1n3_0 i8 i0 i1 i2)), .unset] [(.int (3 : Int32)), (.int (3 : Int32))])) (fun t kt => ?_) ?_
        · show Steps p.tables e below (T107.setTop (mkF m 222 #[.val (.int i0), .val (.int i1), .val (.int i2), .val (.int i3), .val (.int i4), .val (.int i5), .val (.int (3 : Int32)), .val (.int i7), .val (.int i8), .val (.ref b85), .val (.int (1 : Int32)), .val (.int (f1n3_0 i8 i0 i1 i2)), .unset] [])) _
          refine XS.iload X107.here hx rfl (hb hby at_222) rfl ?_
          show Steps p.tables e below (T107.setTop (mkF m 224 #[.val (.int i0), .val (.int i1), .val (.int i2), .val (.int i3), .val (.int i4), .val (.int i5), .val (.int (3 : Int32)), .val (.int i7), .val (.int i8), .val (.ref b85), .val (.int (1 : Int32)), .val (.int (f1n3_0 i8 i0 i1 i2)), .unset] [(.int (3 : Int32))])) _
          refine XS.iconst X107.here hx rfl (hb hby at_224) ?_
          exact kt
        refine own_step (T' := T107) (f' := (mkF m 236 #[.val (.int i0), .val (.int i1), .val (.int i2), .val (.int i3), .val (.int i4), .val (.int i5), .val (.int (3 : Int32)), .val (.int i7), .val (.int i8), .val (.ref b85), .val (.int (1 : Int32)), .val (.int (f1n3_0 i8 i0 i1 i2)), .unset] [])) (fun t kt => ?_) ?_
        · show Steps p.tables e below (T107.setTop (mkF m 225 #[.val (.int i0), .val (.int i1), .val (.int i2), .val (.int i3), .val (.int i4), .val (.int i5), .val (.int (3 : Int32)), .val (.int i7), .val (.int i8), .val (.ref b85), .val (.int (1 : Int32)), .val (.int (f1n3_0 i8 i0 i1 i2)), .unset] [(.int (3 : Int32)), (.int (3 : Int32))])) _
          refine XS.icmpYes X107.here hx rfl (pc0 := 225) (pc' := 236) rfl (hb hby at_225) rfl (flt (by decide : ¬ ((3 : Int32) < (3 : Int32)))).2.2.2 (by decide) (by decide) kt
        refine own_step (T' := T107) (f' := (mkF m 247 #[.val (.int i0), .val (.int i1), .val (.int i2), .val (.int i3), .val (.int i4), .val (.int i5), .val (.int (3 : Int32)), .val (.int i7), .val (.int i8), .val (.ref b85), .val (.int (1 : Int32)), .val (.int (f1n3_0 i8 i0 i1 i2)), .val (.int (1 : Int32))] [(.int (1 : Int32)), (.int (f1n3_0 i8 i0 i1 i2))])) (fun t kt => ?_) ?_
        · show Steps p.tables e below (T107.setTop (mkF m 236 #[.val (.int i0), .val (.int i1), .val (.int i2), .val (.int i3), .val (.int i4), .val (.int i5), .val (.int (3 : Int32)), .val (.int i7), .val (.int i8), .val (.ref b85), .val (.int (1 : Int32)), .val (.int (f1n3_0 i8 i0 i1 i2)), .unset] [])) _
          refine XS.iconst X107.here hx rfl (hb hby at_236) ?_
          show Steps p.tables e below (T107.setTop (mkF m 237 #[.val (.int i0), .val (.int i1), .val (.int i2), .val (.int i3), .val (.int i4), .val (.int i5), .val (.int (3 : Int32)), .val (.int i7), .val (.int i8), .val (.ref b85), .val (.int (1 : Int32)), .val (.int (f1n3_0 i8 i0 i1 i2)), .unset] [(.int (1 : Int32))])) _
          refine XS.goto X107.here hx rfl (pc0 := 237) (pc' := 241) rfl (hb hby at_237) (by decide) (by decide) ?_
          show Steps p.tables e below (T107.setTop (mkF m 241 #[.val (.int i0), .val (.int i1), .val (.int i2), .val (.int i3), .val (.int i4), .val (.int i5), .val (.int (3 : Int32)), .val (.int i7), .val (.int i8), .val (.ref b85), .val (.int (1 : Int32)), .val (.int (f1n3_0 i8 i0 i1 i2)), .unset] [(.int (1 : Int32))])) _
          refine XS.istore X107.here hx rfl (hb hby at_241) rfl (l' := #[.val (.int i0), .val (.int i1), .val (.int i2), .val (.int i3), .val (.int i4), .val (.int i5), .val (.int (3 : Int32)), .val (.int i7), .val (.int i8), .val (.ref b85), .val (.int (1 : Int32)), .val (.int (f1n3_0 i8 i0 i1 i2)), .val (.int (1 : Int32))]) rfl ?_
          show Steps p.tables e below (T107.setTop (mkF m 243 #[.val (.int i0), .val (.int i1), .val (.int i2), .val (.int i3), .val (.int i4), .val (.int i5), .val (.int (3 : Int32)), .val (.int i7), .val (.int i8), .val (.ref b85), .val (.int (1 : Int32)), .val (.int (f1n3_0 i8 i0 i1 i2)), .val (.int (1 : Int32))] [])) _
          refine XS.iload X107.here hx rfl (hb hby at_243) rfl ?_
          show Steps p.tables e below (T107.setTop (mkF m 245 #[.val (.int i0), .val (.int i1), .val (.int i2), .val (.int i3), .val (.int i4), .val (.int i5), .val (.int (3 : Int32)), .val (.int i7), .val (.int i8), .val (.ref b85), .val (.int (1 : Int32)), .val (.int (f1n3_0 i8 i0 i1 i2)), .val (.int (1 : Int32))] [(.int (f1n3_0 i8 i0 i1 i2))])) _
          refine XS.iload X107.here hx rfl (hb hby at_245) rfl ?_
          exact kt
        by_cases hc247_115 : (f1n3_0 i8 i0 i1 i2) = (1 : Int32)
        · rw [if_pos hc247_115] at hr
          refine own_step (T' := T107) (f' := (mkF m 250 #[.val (.int i0), .val (.int i1), .val (.int i2), .val (.int i3), .val (.int i4), .val (.int i5), .val (.int (3 : Int32)), .val (.int i7), .val (.int i8), .val (.ref b85), .val (.int (1 : Int32)), .val (.int (f1n3_0 i8 i0 i1 i2)), .val (.int (1 : Int32))] [])) (fun t kt => ?_) ?_
          · show Steps p.tables e below (T107.setTop (mkF m 247 #[.val (.int i0), .val (.int i1), .val (.int i2), .val (.int i3), .val (.int i4), .val (.int i5), .val (.int (3 : Int32)), .val (.int i7), .val (.int i8), .val (.ref b85), .val (.int (1 : Int32)), .val (.int (f1n3_0 i8 i0 i1 i2)), .val (.int (1 : Int32))] [(.int (1 : Int32)), (.int (f1n3_0 i8 i0 i1 i2))])) _
            refine XS.icmpNo X107.here hx rfl (hb hby at_247) rfl (teq hc247_115).2 kt
          refine own_step (T' := T107) (f' := (mkF m 252 #[.val (.int i0), .val (.int i1), .val (.int i2), .val (.int i3), .val (.int i4), .val (.int i5), .val (.int (3 : Int32)), .val (.int i7), .val (.int i8), .val (.ref b85), .val (.int (1 : Int32)), .val (.int (f1n3_0 i8 i0 i1 i2)), .val (.int (1 : Int32))] [(.int (1 : Int32))])) (fun t kt => ?_) ?_
          · show Steps p.tables e below (T107.setTop (mkF m 250 #[.val (.int i0), .val (.int i1), .val (.int i2), .val (.int i3), .val (.int i4), .val (.int i5), .val (.int (3 : Int32)), .val (.int i7), .val (.int i8), .val (.ref b85), .val (.int (1 : Int32)), .val (.int (f1n3_0 i8 i0 i1 i2)), .val (.int (1 : Int32))] [])) _
            refine XS.iload X107.here hx rfl (hb hby at_250) rfl ?_
            exact kt
          refine own_step (T' := T107) (f' := (mkF m 255 #[.val (.int i0), .val (.int i1), .val (.int i2), .val (.int i3), .val (.int i4), .val (.int i5), .val (.int (3 : Int32)), .val (.int i7), .val (.int i8), .val (.ref b85), .val (.int (1 : Int32)), .val (.int (f1n3_0 i8 i0 i1 i2)), .val (.int (1 : Int32))] [])) (fun t kt => ?_) ?_
          · show Steps p.tables e below (T107.setTop (mkF m 252 #[.val (.int i0), .val (.int i1), .val (.int i2), .val (.int i3), .val (.int i4), .val (.int i5), .val (.int (3 : Int32)), .val (.int i7), .val (.int i8), .val (.ref b85), .val (.int (1 : Int32)), .val (.int (f1n3_0 i8 i0 i1 i2)), .val (.int (1 : Int32))] [(.int (1 : Int32))])) _
            refine XS.ifNo X107.here hx rfl (hb hby at_252) rfl ((if0 _ _).trans (feq (by decide : ¬ ((1 : Int32) = (0 : Int32)))).1) kt
          refine own_step (T' := T107) (f' := (mkF m 260 #[.val (.int i0), .val (.int i1), .val (.int i2), .val (.int i3), .val (.int i4), .val (.int i5), .val (.int (3 : Int32)), .val (.int i7), .val (.int i8), .val (.ref b85), .val (.int (1 : Int32)), .val (.int (f1n3_0 i8 i0 i1 i2)), .val (.int (1 : Int32))] [(.int (1 : Int32))])) (fun t kt => ?_) ?_
          · show Steps p.tables e below (T107.setTop (mkF m 255 #[.val (.int i0), .val (.int i1), .val (.int i2), .val (.int i3), .val (.int i4), .val (.int i5), .val (.int (3 : Int32)), .val (.int i7), .val (.int i8), .val (.ref b85), .val (.int (1 : Int32)), .val (.int (f1n3_0 i8 i0 i1 i2)), .val (.int (1 : Int32))] [])) _
            refine XS.iconst X107.here hx rfl (hb hby at_255) ?_
            show Steps p.tables e below (T107.setTop (mkF m 256 #[.val (.int i0), .val (.int i1), .val (.int i2), .val (.int i3), .val (.int i4), .val (.int i5), .val (.int (3 : Int32)), .val (.int i7), .val (.int i8), .val (.ref b85), .val (.int (1 : Int32)), .val (.int (f1n3_0 i8 i0 i1 i2)), .val (.int (1 : Int32))] [(.int (1 : Int32))])) _
            refine XS.goto X107.here hx rfl (pc0 := 256) (pc' := 260) rfl (hb hby at_256) (by decide) (by decide) ?_
            exact kt
          exact own_retZ X107 hx hret (by simp) hlk (hb hby at_260) (by decide) (by decide) ⟨congrArg (fun z => some (Value.int z)) hr.symm, N107⟩
        · rw [if_neg hc247_115] at hr
          refine own_step (T' := T107) (f' := (mkF m 259 #[.val (.int i0), .val (.int i1), .val (.int i2), .val (.int i3), .val (.int i4), .val (.int i5), .val (.int (3 : Int32)), .val (.int i7), .val (.int i8), .val (.ref b85), .val (.int (1 : Int32)), .val (.int (f1n3_0 i8 i0 i1 i2)), .val (.int (1 : Int32))] [])) (fun t kt => ?_) ?_
          · show Steps p.tables e below (T107.setTop (mkF m 247 #[.val (.int i0), .val (.int i1), .val (.int i2), .val (.int i3), .val (.int i4), .val (.int i5), .val (.int (3 : Int32)), .val (.int i7), .val (.int i8), .val (.ref b85), .val (.int (1 : Int32)), .val (.int (f1n3_0 i8 i0 i1 i2)), .val (.int (1 : Int32))] [(.int (1 : Int32)), (.int (f1n3_0 i8 i0 i1 i2))])) _
            refine XS.icmpYes X107.here hx rfl (pc0 := 247) (pc' := 259) rfl (hb hby at_247) rfl (feq hc247_115).2 (by decide) (by decide) kt
          refine own_step (T' := T107) (f' := (mkF m 260 #[.val (.int i0), .val (.int i1), .val (.int i2), .val (.int i3), .val (.int i4), .val (.int i5), .val (.int (3 : Int32)), .val (.int i7), .val (.int i8), .val (.ref b85), .val (.int (1 : Int32)), .val (.int (f1n3_0 i8 i0 i1 i2)), .val (.int (1 : Int32))] [(.int (0 : Int32))])) (fun t kt => ?_) ?_
          · show Steps p.tables e below (T107.setTop (mkF m 259 #[.val (.int i0), .val (.int i1), .val (.int i2), .val (.int i3), .val (.int i4), .val (.int i5), .val (.int (3 : Int32)), .val (.int i7), .val (.int i8), .val (.ref b85), .val (.int (1 : Int32)), .val (.int (f1n3_0 i8 i0 i1 i2)), .val (.int (1 : Int32))] [])) _
            refine XS.iconst X107.here hx rfl (hb hby at_259) ?_
            exact kt
          exact own_retZ X107 hx hret (by simp) hlk (hb hby at_260) (by decide) (by decide) ⟨congrArg (fun z => some (Value.int z)) hr.symm, N107⟩
      · rw [if_neg hc138_106] at hr
        refine own_step (T' := T91) (f' := (mkF m 141 #[.val (.int i0), .val (.int i1), .val (.int i2), .val (.int i3), .val (.int i4), .val (.int i5), .val (.int (3 : Int32)), .val (.int i7), .val (.int i8), .val (.ref b85), .unset, .unset, .unset] [])) (fun t kt => ?_) ?_
        · show Steps p.tables e below (T91.setTop (mkF m 138 #[.val (.int i0), .val (.int i1), .val (.int i2), .val (.int i3), .val (.int i4), .val (.int i5), .val (.int (3 : Int32)), .val (.int i7), .val (.int i8), .val (.ref b85), .unset, .unset, .unset] [(.int i8), (.int i1)])) _
          refine XS.icmpNo X91.here hx rfl (hb hby at_138) rfl (feq hc138_106).1 kt
        refine own_step (T' := T91) (f' := (mkF m 144 #[.val (.int i0), .val (.int i1), .val (.int i2), .val (.int i3), .val (.int i4), .val (.int i5), .val (.int (3 : Int32)), .val (.int i7), .val (.int i8), .val (.ref b85), .unset, .unset, .unset] [(.int (2 : Int32)), (.int (3 : Int32))])) (fun t kt => ?_) ?_
        · show Steps p.tables e below (T91.setTop (mkF m 141 #[.val (.int i0), .val (.int i1), .val (.int i2), .val (.int i3), .val (.int i4), .val (.int i5), .val (.int (3 : Int32)), .val (.int i7), .val (.int i8), .val (.ref b85), .unset, .unset, .unset] [])) _
          refine XS.iload X91.here hx rfl (hb hby at_141) rfl ?_
          show Steps p.tables e below (T91.setTop (mkF m 143 #[.val (.int i0), .val (.int i1), .val (.int i2), .val (.int i3), .val (.int i4), .val (.int i5), .val (.int (3 : Int32)), .val (.int i7), .val (.int i8), .val (.ref b85), .unset, .unset, .unset] [(.int (3 : Int32))])) _
          refine XS.iconst X91.here hx rfl (hb hby at_143) ?_
          exact kt
        refine own_step (T' := T91) (f' := (mkF m 147 #[.val (.int i0), .val (.int i1), .val (.int i2), .val (.int i3), .val (.int i4), .val (.int i5), .val (.int (3 : Int32)), .val (.int i7), .val (.int i8), .val (.ref b85), .unset, .unset, .unset] [])) (fun t kt => ?_) ?_
        · show Steps p.tables e below (T91.setTop (mkF m 144 #[.val (.int i0), .val (.int i1), .val (.int i2), .val (.int i3), .val (.int i4), .val (.int i5), .val (.int (3 : Int32)), .val (.int i7), .val (.int i8), .val (.ref b85), .unset, .unset, .unset] [(.int (2 : Int32)), (.int (3 : Int32))])) _
          refine XS.icmpNo X91.here hx rfl (hb hby at_144) rfl (tlt (by decide : ((2 : Int32) < (3 : Int32)))).2.2.2 kt
        refine own_step (T' := T91) (f' := (mkF m 150 #[.val (.int i0), .val (.int i1), .val (.int i2), .val (.int i3), .val (.int i4), .val (.int i5), .val (.int (3 : Int32)), .val (.int i7), .val (.int i8), .val (.ref b85), .unset, .unset, .unset] [(.int i8), (.int i2)])) (fun t kt => ?_) ?_
        · show Steps p.tables e below (T91.setTop (mkF m 147 #[.val (.int i0), .val (.int i1), .val (.int i2), .val (.int i3), .val (.int i4), .val (.int i5), .val (.int (3 : Int32)), .val (.int i7), .val (.int i8), .val (.ref b85), .unset, .unset, .unset] [])) _
          refine XS.iloadN X91.here hx rfl (hb hby at_147) rfl ?_
          show Steps p.tables e below (T91.setTop (mkF m 148 #[.val (.int i0), .val (.int i1), .val (.int i2), .val (.int i3), .val (.int i4), .val (.int i5), .val (.int (3 : Int32)), .val (.int i7), .val (.int i8), .val (.ref b85), .unset, .unset, .unset] [(.int i2)])) _
          refine XS.iload X91.here hx rfl (hb hby at_148) rfl ?_
          exact kt
        by_cases hc150_118 : i2 = i8
        · rw [if_pos hc150_118] at hr
          refine own_step (T' := T91) (f' := (mkF m 165 #[.val (.int i0), .val (.int i1), .val (.int i2), .val (.int i3), .val (.int i4), .val (.int i5), .val (.int (3 : Int32)), .val (.int i7), .val (.int i8), .val (.ref b85), .unset, .unset, .unset] [])) (fun t kt => ?_) ?_
          · show Steps p.tables e below (T91.setTop (mkF m 150 #[.val (.int i0), .val (.int i1), .val (.int i2), .val (.int i3), .val (.int i4), .val (.int i5), .val (.int (3 : Int32)), .val (.int i7), .val (.int i8), .val (.ref b85), .unset, .unset, .unset] [(.int i8), (.int i2)])) _
            refine XS.icmpYes X91.here hx rfl (pc0 := 150) (pc' := 165) rfl (hb hby at_150) rfl (teq hc150_118).1 (by decide) (by decide) kt
          refine own_step (T' := T91) (f' := (mkF m 176 #[.val (.int i0), .val (.int i1), .val (.int i2), .val (.int i3), .val (.int i4), .val (.int i5), .val (.int (3 : Int32)), .val (.int i7), .val (.int i8), .val (.ref b85), .val (.int (1 : Int32)), .unset, .unset] [(.int i8), (.ref b85)])) (fun t kt => ?_) ?_
          · show Steps p.tables e below (T91.setTop (mkF m 165 #[.val (.int i0), .val (.int i1), .val (.int i2), .val (.int i3), .val (.int i4), .val (.int i5), .val (.int (3 : Int32)), .val (.int i7), .val (.int i8), .val (.ref b85), .unset, .unset, .unset] [])) _
            refine XS.iconst X91.here hx rfl (hb hby at_165) ?_
            show Steps p.tables e below (T91.setTop (mkF m 166 #[.val (.int i0), .val (.int i1), .val (.int i2), .val (.int i3), .val (.int i4), .val (.int i5), .val (.int (3 : Int32)), .val (.int i7), .val (.int i8), .val (.ref b85), .unset, .unset, .unset] [(.int (1 : Int32))])) _
            refine XS.goto X91.here hx rfl (pc0 := 166) (pc' := 170) rfl (hb hby at_166) (by decide) (by decide) ?_
            show Steps p.tables e below (T91.setTop (mkF m 170 #[.val (.int i0), .val (.int i1), .val (.int i2), .val (.int i3), .val (.int i4), .val (.int i5), .val (.int (3 : Int32)), .val (.int i7), .val (.int i8), .val (.ref b85), .unset, .unset, .unset] [(.int (1 : Int32))])) _
            refine XS.istore X91.here hx rfl (hb hby at_170) rfl (l' := #[.val (.int i0), .val (.int i1), .val (.int i2), .val (.int i3), .val (.int i4), .val (.int i5), .val (.int (3 : Int32)), .val (.int i7), .val (.int i8), .val (.ref b85), .val (.int (1 : Int32)), .unset, .unset]) rfl ?_
            show Steps p.tables e below (T91.setTop (mkF m 172 #[.val (.int i0), .val (.int i1), .val (.int i2), .val (.int i3), .val (.int i4), .val (.int i5), .val (.int (3 : Int32)), .val (.int i7), .val (.int i8), .val (.ref b85), .val (.int (1 : Int32)), .unset, .unset] [])) _
            refine XS.aload X91.here hx rfl (hb hby at_172) rfl rfl ?_
            show Steps p.tables e below (T91.setTop (mkF m 174 #[.val (.int i0), .val (.int i1), .val (.int i2), .val (.int i3), .val (.int i4), .val (.int i5), .val (.int (3 : Int32)), .val (.int i7), .val (.int i8), .val (.ref b85), .val (.int (1 : Int32)), .unset, .unset] [(.ref b85)])) _
            refine XS.iload X91.here hx rfl (hb hby at_174) rfl ?_
            exact kt
          obtain ⟨_, _, ⟨T119, L119, k119, n119⟩, -, X119, ⟨Lc119, hQ119, l119, y119, z119⟩, st119⟩ := Jvm.LawKit.callS X91 hx (y := (⟨"com/example/conceal/conceal/SensitiveHolders", "contains", "([II)Z"⟩ : MethodName)) hown (mvT hZ (hw _ (List.mem_of_getElem? (i := 1) rfl))) (mvT hZ (hw _ (List.mem_of_getElem? (i := 2) rfl))) (mvT hZ (hw _ (List.mem_of_getElem? (i := 3) rfl))) (mvT hZ (hw _ (List.mem_of_getElem? (i := 4) rfl))) (by decide) (backOf (W := 0) (rm1n3 l Z a0 hw [] b85 i8 i0 i1 i2 h91 n0 Ab85_91) hZ (hw _ (List.mem_of_getElem? (i := 4) rfl)) (hw _ (List.mem_of_getElem? (i := 3) rfl)) (by decide) (by decide)) (g := (mkF m 176 #[.val (.int i0), .val (.int i1), .val (.int i2), .val (.int i3), .val (.int i4), .val (.int i5), .val (.int (3 : Int32)), .val (.int i7), .val (.int i8), .val (.ref b85), .val (.int (1 : Int32)), .unset, .unset] [(.int i8), (.ref b85)])) rfl (by rw [hml]; rfl) (argsL := [(.ref b85), (.int i8)]) (rest := []) (lenOf pd1 rfl) rfl (by show 2 * 0 + _ ≤ _; exact Nat.le_of_eq rfl) (hb hby at_176) (fun _ _ => ⟨rfl, e91, (by decide : 1 + 0 ≤ _), (by decide : 3 + 0 ≤ _)⟩)
          dsimp only [Pt.U, Pt.locs, Pt.cells, Pt.slots] at X119 l119 y119 z119 st119 hQ119
          subst l119 y119 z119
          obtain ⟨rfl, Nq119, e119⟩ := hQ119
          have N119 := Fr.app N91 Nq119
          refine own_step (T' := T119) (f' := (mkF m 179 #[.val (.int i0), .val (.int i1), .val (.int i2), .val (.int i3), .val (.int i4), .val (.int i5), .val (.int (3 : Int32)), .val (.int i7), .val (.int i8), .val (.ref b85), .val (.int (1 : Int32)), .unset, .unset] [(.int (f1n3_0 i8 i0 i1 i2))])) st119 ?_
          refine own_step (T' := T119) (f' := (mkF m 183 #[.val (.int i0), .val (.int i1), .val (.int i2), .val (.int i3), .val (.int i4), .val (.int i5), .val (.int (3 : Int32)), .val (.int i7), .val (.int i8), .val (.ref b85), .val (.int (1 : Int32)), .val (.int (f1n3_0 i8 i0 i1 i2)), .unset] [(.int (3 : Int32))])) (fun t kt => ?_) ?_
          · show Steps p.tables e below (T119.setTop (mkF m 179 #[.val (.int i0), .val (.int i1), .val (.int i2), .val (.int i3), .val (.int i4), .val (.int i5), .val (.int (3 : Int32)), .val (.int i7), .val (.int i8), .val (.ref b85), .val (.int (1 : Int32)), .unset, .unset] [(.int (f1n3_0 i8 i0 i1 i2))])) _
            refine XS.istore X119.here hx rfl (hb hby at_179) rfl (l' := #[.val (.int i0), .val (.int i1), .val (.int i2), .val (.int i3), .val (.int i4), .val (.int i5), .val (.int (3 : Int32)), .val (.int i7), .val (.int i8), .val (.ref b85), .val (.int (1 : Int32)), .val (.int (f1n3_0 i8 i0 i1 i2)), .unset]) rfl ?_
            show Steps p.tables e below (T119.setTop (mkF m 181 #[.val (.int i0), .val (.int i1), .val (.int i2), .val (.int i3), .val (.int i4), .val (.int i5), .val (.int (3 : Int32)), .val (.int i7), .val (.int i8), .val (.ref b85), .val (.int (1 : Int32)), .val (.int (f1n3_0 i8 i0 i1 i2)), .unset] [])) _
            refine XS.iload X119.here hx rfl (hb hby at_181) rfl ?_
            exact kt
          refine own_step (T' := T119) (f' := (mkF m 186 #[.val (.int i0), .val (.int i1), .val (.int i2), .val (.int i3), .val (.int i4), .val (.int i5), .val (.int (3 : Int32)), .val (.int i7), .val (.int i8), .val (.ref b85), .val (.int (1 : Int32)), .val (.int (f1n3_0 i8 i0 i1 i2)), .unset] [])) (fun t kt => ?_) ?_
          · show Steps p.tables e below (T119.setTop (mkF m 183 #[.val (.int i0), .val (.int i1), .val (.int i2), .val (.int i3), .val (.int i4), .val (.int i5), .val (.int (3 : Int32)), .val (.int i7), .val (.int i8), .val (.ref b85), .val (.int (1 : Int32)), .val (.int (f1n3_0 i8 i0 i1 i2)), .unset] [(.int (3 : Int32))])) _
            refine XS.ifNo X119.here hx rfl (hb hby at_183) rfl ((if0 _ _).trans (tlt (by decide : ((0 : Int32) < (3 : Int32)))).2.2.2) kt
          refine own_step (T' := T119) (f' := (mkF m 191 #[.val (.int i0), .val (.int i1), .val (.int i2), .val (.int i3), .val (.int i4), .val (.int i5), .val (.int (3 : Int32)), .val (.int i7), .val (.int i8), .val (.ref b85), .val (.int (1 : Int32)), .val (.int (f1n3_0 i8 i0 i1 i2)), .unset] [(.int i0), (.int i0)])) (fun t kt => ?_) ?_
          · show Steps p.tables e below (T119.setTop (mkF m 186 #[.val (.int i0), .val (.int i1), .val (.int i2), .val (.int i3), .val (.int i4), .val (.int i5), .val (.int (3 : Int32)), .val (.int i7), .val (.int i8), .val (.ref b85), .val (.int (1 : Int32)), .val (.int (f1n3_0 i8 i0 i1 i2)), .unset] [])) _
            refine XS.aload X119.here hx rfl (hb hby at_186) rfl rfl ?_
            show Steps p.tables e below (T119.setTop (mkF m 188 #[.val (.int i0), .val (.int i1), .val (.int i2), .val (.int i3), .val (.int i4), .val (.int i5), .val (.int (3 : Int32)), .val (.int i7), .val (.int i8), .val (.ref b85), .val (.int (1 : Int32)), .val (.int (f1n3_0 i8 i0 i1 i2)), .unset] [(.ref b85)])) _
            refine XS.iconst X119.here hx rfl (hb hby at_188) ?_
            show Steps p.tables e below (T119.setTop (mkF m 189 #[.val (.int i0), .val (.int i1), .val (.int i2), .val (.int i3), .val (.int i4), .val (.int i5), .val (.int (3 : Int32)), .val (.int i7), .val (.int i8), .val (.ref b85), .val (.int (1 : Int32)), .val (.int (f1n3_0 i8 i0 i1 i2)), .unset] [(.int (0 : Int32)), (.ref b85)])) _
            refine own_ldI X119 hx hZ e119 Ab85_91 (j := (0 : Int32)) (by decide) (k := 0) (by decide) (v := (.int i0)) rfl (g := (mkF m 189 #[.val (.int i0), .val (.int i1), .val (.int i2), .val (.int i3), .val (.int i4), .val (.int i5), .val (.int (3 : Int32)), .val (.int i7), .val (.int i8), .val (.ref b85), .val (.int (1 : Int32)), .val (.int (f1n3_0 i8 i0 i1 i2)), .unset] [(.int (0 : Int32)), (.ref b85)])) rfl rfl (hb hby at_189) _ ?_
            show Steps p.tables e below (T119.setTop (mkF m 190 #[.val (.int i0), .val (.int i1), .val (.int i2), .val (.int i3), .val (.int i4), .val (.int i5), .val (.int (3 : Int32)), .val (.int i7), .val (.int i8), .val (.ref b85), .val (.int (1 : Int32)), .val (.int (f1n3_0 i8 i0 i1 i2)), .unset] [(.int i0)])) _
            refine XS.iloadN X119.here hx rfl (hb hby at_190) rfl ?_
            exact kt
          refine own_step (T' := T119) (f' := (mkF m 194 #[.val (.int i0), .val (.int i1), .val (.int i2), .val (.int i3), .val (.int i4), .val (.int i5), .val (.int (3 : Int32)), .val (.int i7), .val (.int i8), .val (.ref b85), .val (.int (1 : Int32)), .val (.int (f1n3_0 i8 i0 i1 i2)), .unset] [])) (fun t kt => ?_) ?_
          · show Steps p.tables e below (T119.setTop (mkF m 191 #[.val (.int i0), .val (.int i1), .val (.int i2), .val (.int i3), .val (.int i4), .val (.int i5), .val (.int (3 : Int32)), .val (.int i7), .val (.int i8), .val (.ref b85), .val (.int (1 : Int32)), .val (.int (f1n3_0 i8 i0 i1 i2)), .unset] [(.int i0), (.int i0)])) _
            refine XS.icmpNo X119.here hx rfl (hb hby at_191) rfl (teq (rfl : i0 = i0)).2 kt
          refine own_step (T' := T119) (f' := (mkF m 197 #[.val (.int i0), .val (.int i1), .val (.int i2), .val (.int i3), .val (.int i4), .val (.int i5), .val (.int (3 : Int32)), .val (.int i7), .val (.int i8), .val (.ref b85), .val (.int (1 : Int32)), .val (.int (f1n3_0 i8 i0 i1 i2)), .unset] [(.int (1 : Int32)), (.int (3 : Int32))])) (fun t kt => ?_) ?_
          · show Steps p.tables e below (T119.setTop (mkF m 194 #[.val (.int i0), .val (.int i1), .val (.int i2), .val (.int i3), .val (.int i4), .val (.int i5), .val (.int (3 : Int32)), .val (.int i7), .val (.int i8), .val (.ref b85), .val (.int (1 : Int32)), .val (.int (f1n3_0 i8 i0 i1 i2)), .unset] [])) _
            refine XS.iload X119.here hx rfl (hb hby at_194) rfl ?_
            show Steps p.tables e below (T119.setTop (mkF m 196 #[.val (.int i0), .val (.int i1), .val (.int i2), .val (.int i3), .val (.int i4), .val (.int i5), .val (.int (3 : Int32)), .val (.int i7), .val (.int i8), .val (.ref b85), .val (.int (1 : Int32)), .val (.int (f1n3_0 i8 i0 i1 i2)), .unset] [(.int (3 : Int32))])) _
            refine XS.iconst X119.here hx rfl (hb hby at_196) ?_
            exact kt
          refine own_step (T' := T119) (f' := (mkF m 200 #[.val (.int i0), .val (.int i1), .val (.int i2), .val (.int i3), .val (.int i4), .val (.int i5), .val (.int (3 : Int32)), .val (.int i7), .val (.int i8), .val (.ref b85), .val (.int (1 : Int32)), .val (.int (f1n3_0 i8 i0 i1 i2)), .unset] [])) (fun t kt => ?_) ?_
          · show Steps p.tables e below (T119.setTop (mkF m 197 #[.val (.int i0), .val (.int i1), .val (.int i2), .val (.int i3), .val (.int i4), .val (.int i5), .val (.int (3 : Int32)), .val (.int i7), .val (.int i8), .val (.ref b85), .val (.int (1 : Int32)), .val (.int (f1n3_0 i8 i0 i1 i2)), .unset] [(.int (1 : Int32)), (.int (3 : Int32))])) _
            refine XS.icmpNo X119.here hx rfl (hb hby at_197) rfl (tlt (by decide : ((1 : Int32) < (3 : Int32)))).2.2.2 kt
          refine own_step (T' := T119) (f' := (mkF m 205 #[.val (.int i0), .val (.int i1), .val (.int i2), .val (.int i3), .val (.int i4), .val (.int i5), .val (.int (3 : Int32)), .val (.int i7), .val (.int i8), .val (.ref b85), .val (.int (1 : Int32)), .val (.int (f1n3_0 i8 i0 i1 i2)), .unset] [(.int i1), (.int i1)])) (fun t kt => ?_) ?_
          · show Steps p.tables e below (T119.setTop (mkF m 200 #[.val (.int i0), .val (.int i1), .val (.int i2), .val (.int i3), .val (.int i4), .val (.int i5), .val (.int (3 : Int32)), .val (.int i7), .val (.int i8), .val (.ref b85), .val (.int (1 : Int32)), .val (.int (f1n3_0 i8 i0 i1 i2)), .unset] [])) _
            refine XS.aload X119.here hx rfl (hb hby at_200) rfl rfl ?_
            show Steps p.tables e below (T119.setTop (mkF m 202 #[.val (.int i0), .val (.int i1), .val (.int i2), .val (.int i3), .val (.int i4), .val (.int i5), .val (.int (3 : Int32)), .val (.int i7), .val (.int i8), .val (.ref b85), .val (.int (1 : Int32)), .val (.int (f1n3_0 i8 i0 i1 i2)), .unset] [(.ref b85)])) _
            refine XS.iconst X119.here hx rfl (hb hby at_202) ?_
            show Steps p.tables e below (T119.setTop (mkF m 203 #[.val (.int i0), .val (.int i1), .val (.int i2), .val (.int i3), .val (.int i4), .val (.int i5), .val (.int (3 : Int32)), .val (.int i7), .val (.int i8), .val (.ref b85), .val (.int (1 : Int32)), .val (.int (f1n3_0 i8 i0 i1 i2)), .unset] [(.int (1 : Int32)), (.ref b85)])) _
            refine own_ldI X119 hx hZ e119 Ab85_91 (j := (1 : Int32)) (by decide) (k := 1) (by decide) (v := (.int i1)) rfl (g := (mkF m 203 #[.val (.int i0), .val (.int i1), .val (.int i2), .val (.int i3), .val (.int i4), .val (.int i5), .val (.int (3 : Int32)), .val (.int i7), .val (.int i8), .val (.ref b85), .val (.int (1 : Int32)), .val (.int (f1n3_0 i8 i0 i1 i2)), .unset] [(.int (1 : Int32)), (.ref b85)])) rfl rfl (hb hby at_203) _ ?_
            show Steps p.tables e below (T119.setTop (mkF m 204 #[.val (.int i0), .val (.int i1), .val (.int i2), .val (.int i3), .val (.int i4), .val (.int i5), .val (.int (3 : Int32)), .val (.int i7), .val (.int i8), .val (.ref b85), .val (.int (1 : Int32)), .val (.int (f1n3_0 i8 i0 i1 i2)), .unset] [(.int i1)])) _
            refine XS.iloadN X119.here hx rfl (hb hby at_204) rfl ?_
            exact kt
          refine own_step (T' := T119) (f' := (mkF m 208 #[.val (.int i0), .val (.int i1), .val (.int i2), .val (.int i3), .val (.int i4), .val (.int i5), .val (.int (3 : Int32)), .val (.int i7), .val (.int i8), .val (.ref b85), .val (.int (1 : Int32)), .val (.int (f1n3_0 i8 i0 i1 i2)), .unset] [])) (fun t kt => ?_) ?_
          · show Steps p.tables e below (T119.setTop (mkF m 205 #[.val (.int i0), .val (.int i1), .val (.int i2), .val (.int i3), .val (.int i4), .val (.int i5), .val (.int (3 : Int32)), .val (.int i7), .val (.int i8), .val (.ref b85), .val (.int (1 : Int32)), .val (.int (f1n3_0 i8 i0 i1 i2)), .unset] [(.int i1), (.int i1)])) _
            refine XS.icmpNo X119.here hx rfl (hb hby at_205) rfl (teq (rfl : i1 = i1)).2 kt
          refine own_step (T' := T119) (f' := (mkF m 211 #[.val (.int i0), .val (.int i1), .val (.int i2), .val (.int i3), .val (.int i4), .val (.int i5), .val (.int (3 : Int32)), .val (.int i7), .val (.int i8), .val (.ref b85), .val (.int (1 : Int32)), .val (.int (f1n3_0 i8 i0 i1 i2)), .unset] [(.int (2 : Int32)), (.int (3 : Int32))])) (fun t kt => ?_) ?_
          · show Steps p.tables e below (T119.setTop (mkF m 208 #[.val (.int i0), .val (.int i1), .val (.int i2), .val (.int i3), .val (.int i4), .val (.int i5), .val (.int (3 : Int32)), .val (.int i7), .val (.int i8), .val (.ref b85), .val (.int (1 : Int32)), .val (.int (f1n3_0 i8 i0 i1 i2)), .unset] [])) _
            refine XS.iload X119.here hx rfl (hb hby at_208) rfl ?_
            show Steps p.tables e below (T119.setTop (mkF m 210 #[.val (.int i0), .val (.int i1), .val (.int i2), .val (.int i3), .val (.int i4), .val (.int i5), .val (.int (3 : Int32)), .val (.int i7), .val (.int i8), .val (.ref b85), .val (.int (1 : Int32)), .val (.int (f1n3_0 i8 i0 i1 i2)), .unset] [(.int (3 : Int32))])) _
            refine XS.iconst X119.here hx rfl (hb hby at_210) ?_
            exact kt
          refine own_step (T' := T119) (f' := (mkF m 214 #[.val (.int i0), .val (.int i1), .val (.int i2), .val (.int i3), .val (.int i4), .val (.int i5), .val (.int (3 : Int32)), .val (.int i7), .val (.int i8), .val (.ref b85), .val (.int (1 : Int32)), .val (.int (f1n3_0 i8 i0 i1 i2)), .unset] [])) (fun t kt => ?_) ?_
          · show Steps p.tables e below (T119.setTop (mkF m 211 #[.val (.int i0), .val (.int i1), .val (.int i2), .val (.int i3), .val (.int i4), .val (.int i5), .val (.int (3 : Int32)), .val (.int i7), .val (.int i8), .val (.ref b85), .val (.int (1 : Int32)), .val (.int (f1n3_0 i8 i0 i1 i2)), .unset] [(.int (2 : Int32)), (.int (3 : Int32))])) _
            refine XS.icmpNo X119.here hx rfl (hb hby at_211) rfl (tlt (by decide : ((2 : Int32) < (3 : Int32)))).2.2.2 kt
          refine own_step (T' := T119) (f' := (mkF m 219 #[.val (.int i0), .val (.int i1), .val (.int i2), .val (.int i3), .val (.int i4), .val (.int i5), .val (.int (3 : Int32)), .val (.int i7), .val (.int i8), .val (.ref b85), .val (.int (1 : Int32)), .val (.int (f1n3_0 i8 i0 i1 i2)), .unset] [(.int i2), (.int i2)])) (fun t kt => ?_) ?_
          · show Steps p.tables e below (T119.setTop (mkF m 214 #[.val (.int i0), .val (.int i1), .val (.int i2), .val (.int i3), .val (.int i4), .val (.int i5), .val (.int (3 : Int32)), .val (.int i7), .val (.int i8), .val (.ref b85), .val (.int (1 : Int32)), .val (.int (f1n3_0 i8 i0 i1 i2)), .unset] [])) _
            refine XS.aload X119.here hx rfl (hb hby at_214) rfl rfl ?_
            show Steps p.tables e below (T119.setTop (mkF m 216 #[.val (.int i0), .val (.int i1), .val (.int i2), .val (.int i3), .val (.int i4), .val (.int i5), .val (.int (3 : Int32)), .val (.int i7), .val (.int i8), .val (.ref b85), .val (.int (1 : Int32)), .val (.int (f1n3_0 i8 i0 i1 i2)), .unset] [(.ref b85)])) _
            refine XS.iconst X119.here hx rfl (hb hby at_216) ?_
            show Steps p.tables e below (T119.setTop (mkF m 217 #[.val (.int i0), .val (.int i1), .val (.int i2), .val (.int i3), .val (.int i4), .val (.int i5), .val (.int (3 : Int32)), .val (.int i7), .val (.int i8), .val (.ref b85), .val (.int (1 : Int32)), .val (.int (f1n3_0 i8 i0 i1 i2)), .unset] [(.int (2 : Int32)), (.ref b85)])) _
            refine own_ldI X119 hx hZ e119 Ab85_91 (j := (2 : Int32)) (by decide) (k := 2) (by decide) (v := (.int i2)) rfl (g := (mkF m 217 #[.val (.int i0), .val (.int i1), .val (.int i2), .val (.int i3), .val (.int i4), .val (.int i5), .val (.int (3 : Int32)), .val (.int i7), .val (.int i8), .val (.ref b85), .val (.int (1 : Int32)), .val (.int (f1n3_0 i8 i0 i1 i2)), .unset] [(.int (2 : Int32)), (.ref b85)])) rfl rfl (hb hby at_217) _ ?_
            show Steps p.tables e below (T119.setTop (mkF m 218 #[.val (.int i0), .val (.int i1), .val (.int i2), .val (.int i3), .val (.int i4), .val (.int i5), .val (.int (3 : Int32)), .val (.int i7), .val (.int i8), .val (.ref b85), .val (.int (1 : Int32)), .val (.int (f1n3_0 i8 i0 i1 i2)), .unset] [(.int i2)])) _
            refine XS.iloadN X119.here hx rfl (hb hby at_218) rfl ?_
            exact kt
          refine own_step (T' := T119) (f' := (mkF m 222 #[.val (.int i0), .val (.int i1), .val (.int i2), .val (.int i3), .val (.int i4), .val (.int i5), .val (.int (3 : Int32)), .val (.int i7), .val (.int i8), .val (.ref b85), .val (.int (1 : Int32)), .val (.int (f1n3_0 i8 i0 i1 i2)), .unset] [])) (fun t kt => ?_) ?_
          · show Steps p.tables e below (T119.setTop (mkF m 219 #[.val (.int i0), .val (.int i1), .val (.int i2), .val (.int i3), .val (.int i4), .val (.int i5), .val (.int (3 : Int32)), .val (.int i7), .val (.int i8), .val (.ref b85), .val (.int (1 : Int32)), .val (.int (f1n3_0 i8 i0 i1 i2)), .unset] [(.int i2), (.int i2)])) _
            refine XS.icmpNo X119.here hx rfl (hb hby at_219) rfl (teq (rfl : i2 = i2)).2 kt
          refine own_step (T' := T119) (f' := (mkF m 225 #[.val (.int i0), .val (.int i1), .val (.int i2), .val (.int i3), .val (.int i4), .val (.int i5), .val (.int (3 : Int32)), .val (.int i7), .val (.int i8), .val (.ref b85), .val (.int (1 : Int32)), .val (.int (f1n3_0 i8 i0 i1 i2)), .unset] [(.int (3 : Int32)), (.int (3 : Int32))])) (fun t kt => ?_) ?_
          · show Steps p.tables e below (T119.setTop (mkF m 222 #[.val (.int i0), .val (.int i1), .val (.int i2), .val (.int i3), .val (.int i4), .val (.int i5), .val (.int (3 : Int32)), .val (.int i7), .val (.int i8), .val (.ref b85), .val (.int (1 : Int32)), .val (.int (f1n3_0 i8 i0 i1 i2)), .unset] [])) _
            refine XS.iload X119.here hx rfl (hb hby at_222) rfl ?_
            show Steps p.tables e below (T119.setTop (mkF m 224 #[.val (.int i0), .val (.int i1), .val (.int i2), .val (.int i3), .val (.int i4), .val (.int i5), .val (.int (3 : Int32)), .val (.int i7), .val (.int i8), .val (.ref b85), .val (.int (1 : Int32)), .val (.int (f1n3_0 i8 i0 i1 i2)), .unset] [(.int (3 : Int32))])) _
            refine XS.iconst X119.here hx rfl (hb hby at_224) ?_
            exact kt
          refine own_step (T' := T119) (f' := (mkF m 236 #[.val (.int i0), .val (.int i1), .val (.int i2), .val (.int i3), .val (.int i4), .val (.int i5), .val (.int (3 : Int32)), .val (.int i7), .val (.int i8), .val (.ref b85), .val (.int (1 : Int32)), .val (.int (f1n3_0 i8 i0 i1 i2)), .unset] [])) (fun t kt => ?_) ?_
          · show Steps p.tables e below (T119.setTop (mkF m 225 #[.val (.int i0), .val (.int i1), .val (.int i2), .val (.int i3), .val (.int i4), .val (.int i5), .val (.int (3 : Int32)), .val (.int i7), .val (.int i8), .val (.ref b85), .val (.int (1 : Int32)), .val (.int (f1n3_0 i8 i0 i1 i2)), .unset] [(.int (3 : Int32)), (.int (3 : Int32))])) _
            refine XS.icmpYes X119.here hx rfl (pc0 := 225) (pc' := 236) rfl (hb hby at_225) rfl (flt (by decide : ¬ ((3 : Int32) < (3 : Int32)))).2.2.2 (by decide) (by decide) kt
          refine own_step (T' := T119) (f' := (mkF m 247 #[.val (.int i0), .val (.int i1), .val (.int i2), .val (.int i3), .val (.int i4), .val (.int i5), .val (.int (3 : Int32)), .val (.int i7), .val (.int i8), .val (.ref b85), .val (.int (1 : Int32)), .val (.int (f1n3_0 i8 i0 i1 i2)), .val (.int (1 : Int32))] [(.int (1 : Int32)), (.int (f1n3_0 i8 i0 i1 i2))])) (fun t kt => ?_) ?_
          · show Steps p.tables e below (T119.setTop (mkF m 236 #[.val (.int i0), .val (.int i1), .val (.int i2), .val (.int i3), .val (.int i4), .val (.int i5), .val (.int (3 : Int32)), .val (.int i7), .val (.int i8), .val (.ref b85), .val (.int (1 : Int32)), .val (.int (f1n3_0 i8 i0 i1 i2)), .unset] [])) _
            refine XS.iconst X119.here hx rfl (hb hby at_236) ?_
            show Steps p.tables e below (T119.setTop (mkF m 237 #[.val (.int i0), .val (.int i1), .val (.int i2), .val (.int i3), .val (.int i4), .val (.int i5), .val (.int (3 : Int32)), .val (.int i7), .val (.int i8), .val (.ref b85), .val (.int (1 : Int32)), .val (.int (f1n3_0 i8 i0 i1 i2)), .unset] [(.int (1 : Int32))])) _
            refine XS.goto X119.here hx rfl (pc0 := 237) (pc' := 241) rfl (hb hby at_237) (by decide) (by decide) ?_
            show Steps p.tables e below (T119.setTop (mkF m 241 #[.val (.int i0), .val (.int i1), .val (.int i2), .val (.int i3), .val (.int i4), .val (.int i5), .val (.int (3 : Int32)), .val (.int i7), .val (.int i8), .val (.ref b85), .val (.int (1 : Int32)), .val (.int (f1n3_0 i8 i0 i1 i2)), .unset] [(.int (1 : Int32))])) _
            refine XS.istore X119.here hx rfl (hb hby at_241) rfl (l' := #[.val (.int i0), .val (.int i1), .val (.int i2), .val (.int i3), .val (.int i4), .val (.int i5), .val (.int (3 : Int32)), .val (.int i7), .val (.int i8), .val (.ref b85), .val (.int (1 : Int32)), .val (.int (f1n3_0 i8 i0 i1 i2)), .val (.int (1 : Int32))]) rfl ?_
            show Steps p.tables e below (T119.setTop (mkF m 243 #[.val (.int i0), .val (.int i1), .val (.int i2), .val (.int i3), .val (.int i4), .val (.int i5), .val (.int (3 : Int32)), .val (.int i7), .val (.int i8), .val (.ref b85), .val (.int (1 : Int32)), .val (.int (f1n3_0 i8 i0 i1 i2)), .val (.int (1 : Int32))] [])) _
            refine XS.iload X119.here hx rfl (hb hby at_243) rfl ?_
            show Steps p.tables e below (T119.setTop (mkF m 245 #[.val (.int i0), .val (.int i1), .val (.int i2), .val (.int i3), .val (.int i4), .val (.int i5), .val (.int (3 : Int32)), .val (.int i7), .val (.int i8), .val (.ref b85), .val (.int (1 : Int32)), .val (.int (f1n3_0 i8 i0 i1 i2)), .val (.int (1 : Int32))] [(.int (f1n3_0 i8 i0 i1 i2))])) _
            refine XS.iload X119.here hx rfl (hb hby at_245) rfl ?_
            exact kt
          by_cases hc247_127 : (f1n3_0 i8 i0 i1 i2) = (1 : Int32)
          · rw [if_pos hc247_127] at hr
            refine own_step (T' := T119) (f' := (mkF m 250 #[.val (.int i0), .val (.int i1), .val (.int i2), .val (.int i3), .val (.int i4), .val (.int i5), .val (.int (3 : Int32)), .val (.int i7), .val (.int i8), .val (.ref b85), .val (.int (1 : Int32)), .val (.int (f1n3_0 i8 i0 i1 i2)), .val (.int (1 : Int32))] [])) (fun t kt => ?_) ?_
            · show Steps p.tables e below (T119.setTop (mkF m 247 #[.val (.int i0), .val (.int i1), .val (.int i2), .val (.int i3), .val (.int i4), .val (.int i5), .val (.int (3 : Int32)), .val (.int i7), .val (.int i8), .val (.ref b85), .val (.int (1 : Int32)), .val (.int (f1n3_0 i8 i0 i1 i2)), .val (.int (1 : Int32))] [(.int (1 : Int32)), (.int (f1n3_0 i8 i0 i1 i2))])) _
              refine XS.icmpNo X119.here hx rfl (hb hby at_247) rfl (teq hc247_127).2 kt
            refine own_step (T' := T119) (f' := (mkF m 252 #[.val (.int i0), .val (.int i1), .val (.int i2), .val (.int i3), .val (.int i4), .val (.int i5), .val (.int (3 : Int32)), .val (.int i7), .val (.int i8), .val (.ref b85), .val (.int (1 : Int32)), .val (.int (f1n3_0 i8 i0 i1 i2)), .val (.int (1 : Int32))] [(.int (1 : Int32))])) (fun t kt => ?_) ?_
            · show Steps p.tables e below (T119.setTop (mkF m 250 #[.val (.int i0), .val (.int i1), .val (.int i2), .val (.int i3), .val (.int i4), .val (.int i5), .val (.int (3 : Int32)), .val (.int i7), .val (.int i8), .val (.ref b85), .val (.int (1 : Int32)), .val (.int (f1n3_0 i8 i0 i1 i2)), .val (.int (1 : Int32))] [])) _
              refine XS.iload X119.here hx rfl (hb hby at_250) rfl ?_
              exact kt
            refine own_step (T' := T119) (f' := (mkF m 255 #[.val (.int i0), .val (.int i1), .val (.int i2), .val (.int i3), .val (.int i4), .val (.int i5), .val (.int (3 : Int32)), .val (.int i7), .val (.int i8), .val (.ref b85), .val (.int (1 : Int32)), .val (.int (f1n3_0 i8 i0 i1 i2)), .val (.int (1 : Int32))] [])) (fun t kt => ?_) ?_
            · show Steps p.tables e below (T119.setTop (mkF m 252 #[.val (.int i0), .val (.int i1), .val (.int i2), .val (.int i3), .val (.int i4), .val (.int i5), .val (.int (3 : Int32)), .val (.int i7), .val (.int i8), .val (.ref b85), .val (.int (1 : Int32)), .val (.int (f1n3_0 i8 i0 i1 i2)), .val (.int (1 : Int32))] [(.int (1 : Int32))])) _
              refine XS.ifNo X119.here hx rfl (hb hby at_252) rfl ((if0 _ _).trans (feq (by decide : ¬ ((1 : Int32) = (0 : Int32)))).1) kt
            refine own_step (T' := T119) (f' := (mkF m 260 #[.val (.int i0), .val (.int i1), .val (.int i2), .val (.int i3), .val (.int i4), .val (.int i5), .val (.int (3 : Int32)), .val (.int i7), .val (.int i8), .val (.ref b85), .val (.int (1 : Int32)), .val (.int (f1n3_0 i8 i0 i1 i2)), .val (.int (1 : Int32))] [(.int (1 : Int32))])) (fun t kt => ?_) ?_
            · show Steps p.tables e below (T119.setTop (mkF m 255 #[.val (.int i0), .val (.int i1), .val (.int i2), .val (.int i3), .val (.int i4), .val (.int i5), .val (.int (3 : Int32)), .val (.int i7), .val (.int i8), .val (.ref b85), .val (.int (1 : Int32)), .val (.int (f1n3_0 i8 i0 i1 i2)), .val (.int (1 : Int32))] [])) _
              refine XS.iconst X119.here hx rfl (hb hby at_255) ?_
              show Steps p.tables e below (T119.setTop (mkF m 256 #[.val (.int i0), .val (.int i1), .val (.int i2), .val (.int i3), .val (.int i4), .val (.int i5), .val (.int (3 : Int32)), .val (.int i7), .val (.int i8), .val (.ref b85), .val (.int (1 : Int32)), .val (.int (f1n3_0 i8 i0 i1 i2)), .val (.int (1 : Int32))] [(.int (1 : Int32))])) _
              refine XS.goto X119.here hx rfl (pc0 := 256) (pc' := 260) rfl (hb hby at_256) (by decide) (by decide) ?_
              exact kt
            exact own_retZ X119 hx hret (by simp) hlk (hb hby at_260) (by decide) (by decide) ⟨congrArg (fun z => some (Value.int z)) hr.symm, N119⟩
          · rw [if_neg hc247_127] at hr
            refine own_step (T' := T119) (f' := (mkF m 259 #[.val (.int i0), .val (.int i1), .val (.int i2), .val (.int i3), .val (.int i4), .val (.int i5), .val (.int (3 : Int32)), .val (.int i7), .val (.int i8), .val (.ref b85), .val (.int (1 : Int32)), .val (.int (f1n3_0 i8 i0 i1 i2)), .val (.int (1 : Int32))] [])) (fun t kt => ?_) ?_
            · show Steps p.tables e below (T119.setTop (mkF m 247 #[.val (.int i0), .val (.int i1), .val (.int i2), .val (.int i3), .val (.int i4), .val (.int i5), .val (.int (3 : Int32)), .val (.int i7), .val (.int i8), .val (.ref b85), .val (.int (1 : Int32)), .val (.int (f1n3_0 i8 i0 i1 i2)), .val (.int (1 : Int32))] [(.int (1 : Int32)), (.int (f1n3_0 i8 i0 i1 i2))])) _
              refine XS.icmpYes X119.here hx rfl (pc0 := 247) (pc' := 259) rfl (hb hby at_247) rfl (feq hc247_127).2 (by decide) (by decide) kt
            refine own_step (T' := T119) (f' := (mkF m 260 #[.val (.int i0), .val (.int i1), .val (.int i2), .val (.int i3), .val (.int i4), .val (.int i5), .val (.int (3 : Int32)), .val (.int i7), .val (.int i8), .val (.ref b85), .val (.int (1 : Int32)), .val (.int (f1n3_0 i8 i0 i1 i2)), .val (.int (1 : Int32))] [(.int (0 : Int32))])) (fun t kt => ?_) ?_
            · show Steps p.tables e below (T119.setTop (mkF m 259 #[.val (.int i0), .val (.int i1), .val (.int i2), .val (.int i3), .val (.int i4), .val (.int i5), .val (.int (3 : Int32)), .val (.int i7), .val (.int i8), .val (.ref b85), .val (.int (1 : Int32)), .val (.int (f1n3_0 i8 i0 i1 i2)), .val (.int (1 : Int32))] [])) _
              refine XS.iconst X119.here hx rfl (hb hby at_259) ?_
              exact kt
            exact own_retZ X119 hx hret (by simp) hlk (hb hby at_260) (by decide) (by decide) ⟨congrArg (fun z => some (Value.int z)) hr.symm, N119⟩
        · rw [if_neg hc150_118] at hr
          refine own_step (T' := T91) (f' := (mkF m 153 #[.val (.int i0), .val (.int i1), .val (.int i2), .val (.int i3), .val (.int i4), .val (.int i5), .val (.int (3 : Int32)), .val (.int i7), .val (.int i8), .val (.ref b85), .unset, .unset, .unset] [])) (fun t kt => ?_) ?_
          · show Steps p.tables e below (T91.setTop (mkF m 150 #[.val (.int i0), .val (.int i1), .val (.int i2), .val (.int i3), .val (.int i4), .val (.int i5), .val (.int (3 : Int32)), .val (.int i7), .val (.int i8), .val (.ref b85), .unset, .unset, .unset] [(.int i8), (.int i2)])) _
            refine XS.icmpNo X91.here hx rfl (hb hby at_150) rfl (feq hc150_118).1 kt
          refine own_step (T' := T91) (f' := (mkF m 156 #[.val (.int i0), .val (.int i1), .val (.int i2), .val (.int i3), .val (.int i4), .val (.int i5), .val (.int (3 : Int32)), .val (.int i7), .val (.int i8), .val (.ref b85), .unset, .unset, .unset] [(.int (3 : Int32)), (.int (3 : Int32))])) (fun t kt => ?_) ?_
          · show Steps p.tables e below (T91.setTop (mkF m 153 #[.val (.int i0), .val (.int i1), .val (.int i2), .val (.int i3), .val (.int i4), .val (.int i5), .val (.int (3 : Int32)), .val (.int i7), .val (.int i8), .val (.ref b85), .unset, .unset, .unset] [])) _
            refine XS.iload X91.here hx rfl (hb hby at_153) rfl ?_
            show Steps p.tables e below (T91.setTop (mkF m 155 #[.val (.int i0), .val (.int i1), .val (.int i2), .val (.int i3), .val (.int i4), .val (.int i5), .val (.int (3 : Int32)), .val (.int i7), .val (.int i8), .val (.ref b85), .unset, .unset, .unset] [(.int (3 : Int32))])) _
            refine XS.iconst X91.here hx rfl (hb hby at_155) ?_
            exact kt
          refine own_step (T' := T91) (f' := (mkF m 169 #[.val (.int i0), .val (.int i1), .val (.int i2), .val (.int i3), .val (.int i4), .val (.int i5), .val (.int (3 : Int32)), .val (.int i7), .val (.int i8), .val (.ref b85), .unset, .unset, .unset] [])) (fun t kt => ?_) ?_
          · show Steps p.tables e below (T91.setTop (mkF m 156 #[.val (.int i0), .val (.int i1), .val (.int i2), .val (.int i3), .val (.int i4), .val (.int i5), .val (.int (3 : Int32)), .val (.int i7), .val (.int i8), .val (.ref b85), .unset, .unset, .unset] [(.int (3 : Int32)), (.int (3 : Int32))])) _
            refine XS.icmpYes X91.here hx rfl (pc0 := 156) (pc' := 169) rfl (hb hby at_156) rfl (flt (by decide : ¬ ((3 : Int32) < (3 : Int32)))).2.2.2 (by decide) (by decide) kt
          refine own_step (T' := T91) (f' := (mkF m 176 #[.val (.int i0), .val (.int i1), .val (.int i2), .val (.int i3), .val (.int i4), .val (.int i5), .val (.int (3 : Int32)), .val (.int i7), .val (.int i8), .val (.ref b85), .val (.int (0 : Int32)), .unset, .unset] [(.int i8), (.ref b85)])) (fun t kt => ?_) ?_
          · show Steps p.tables e below (T91.setTop (mkF m 169 #[.val (.int i0), .val (.int i1), .val (.int i2), .val (.int i3), .val (.int i4), .val (.int i5), .val (.int (3 : Int32)), .val (.int i7), .val (.int i8), .val (.ref b85), .unset, .unset, .unset] [])) _
            refine XS.iconst X91.here hx rfl (hb hby at_169) ?_
            show Steps p.tables e below (T91.setTop (mkF m 170 #[.val (.int i0), .val (.int i1), .val (.int i2), .val (.int i3), .val (.int i4), .val (.int i5), .val (.int (3 : Int32)), .val (.int i7), .val (.int i8), .val (.ref b85), .unset, .unset, .unset] [(.int (0 : Int32))])) _
            refine XS.istore X91.here hx rfl (hb hby at_170) rfl (l' := #[.val (.int i0), .val (.int i1), .val (.int i2), .val (.int i3), .val (.int i4), .val (.int i5), .val (.int (3 : Int32)), .val (.int i7), .val (.int i8), .val (.ref b85), .val (.int (0 : Int32)), .unset, .unset]) rfl ?_
            show Steps p.tables e below (T91.setTop (mkF m 172 #[.val (.int i0), .val (.int i1), .val (.int i2), .val (.int i3), .val (.int i4), .val (.int i5), .val (.int (3 : Int32)), .val (.int i7), .val (.int i8), .val (.ref b85), .val (.int (0 : Int32)), .unset, .unset] [])) _
            refine XS.aload X91.here hx rfl (hb hby at_172) rfl rfl ?_
            show Steps p.tables e below (T91.setTop (mkF m 174 #[.val (.int i0), .val (.int i1), .val (.int i2), .val (.int i3), .val (.int i4), .val (.int i5), .val (.int (3 : Int32)), .val (.int i7), .val (.int i8), .val (.ref b85), .val (.int (0 : Int32)), .unset, .unset] [(.ref b85)])) _
            refine XS.iload X91.here hx rfl (hb hby at_174) rfl ?_
            exact kt
          obtain ⟨_, _, ⟨T130, L130, k130, n130⟩, -, X130, ⟨Lc130, hQ130, l130, y130, z130⟩, st130⟩ := Jvm.LawKit.callS X91 hx (y := (⟨"com/example/conceal/conceal/SensitiveHolders", "contains", "([II)Z"⟩ : MethodName)) hown (mvT hZ (hw _ (List.mem_of_getElem? (i := 1) rfl))) (mvT hZ (hw _ (List.mem_of_getElem? (i := 2) rfl))) (mvT hZ (hw _ (List.mem_of_getElem? (i := 3) rfl))) (mvT hZ (hw _ (List.mem_of_getElem? (i := 4) rfl))) (by decide) (backOf (W := 0) (rm1n3 l Z a0 hw [] b85 i8 i0 i1 i2 h91 n0 Ab85_91) hZ (hw _ (List.mem_of_getElem? (i := 4) rfl)) (hw _ (List.mem_of_getElem? (i := 3) rfl)) (by decide) (by decide)) (g := (mkF m 176 #[.val (.int i0), .val (.int i1), .val (.int i2), .val (.int i3), .val (.int i4), .val (.int i5), .val (.int (3 : Int32)), .val (.int i7), .val (.int i8), .val (.ref b85), .val (.int (0 : Int32)), .unset, .unset] [(.int i8), (.ref b85)])) rfl (by rw [hml]; rfl) (argsL := [(.ref b85), (.int i8)]) (rest := []) (lenOf pd1 rfl) rfl (by show 2 * 0 + _ ≤ _; exact Nat.le_of_eq rfl) (hb hby at_176) (fun _ _ => ⟨rfl, e91, (by decide : 1 + 0 ≤ _), (by decide : 3 + 0 ≤ _)⟩)
          dsimp only [Pt.U, Pt.locs, Pt.cells, Pt.slots] at X130 l130 y130 z130 st130 hQ130
          subst l130 y130 z130
          obtain ⟨rfl, Nq130, e130⟩ := hQ130
          have N130 := Fr.app N91 Nq130
          refine own_step (T' := T130) (f' := (mkF m 179 #[.val (.int i0), .val (.int i1), .val (.int i2), .val (.int i3), .val (.int i4), .val (.int i5), .val (.int (3 : Int32)), .val (.int i7), .val (.int i8), .val (.ref b85), .val (.int (0 : Int32)), .unset, .unset] [(.int (f1n3_0 i8 i0 i1 i2))])) st130 ?_
          refine own_step (T' := T130) (f' := (mkF m 183 #[.val (.int i0), .val (.int i1), .val (.int i2), .val (.int i3), .val (.int i4), .val (.int i5), .val (.int (3 : Int32)), .val (.int i7), .val (.int i8), .val (.ref b85), .val (.int (0 : Int32)), .val (.int (f1n3_0 i8 i0 i1 i2)), .unset] [(.int (3 : Int32))])) (fun t kt => ?_) ?_
          · show Steps p.tables e below (T130.setTop (mkF m 179 #[.val (.int i0), .val (.int i1), .val (.int i2), .val (.int i3), .val (.int i4), .val (.int i5), .val (.int (3 : Int32)), .val (.int i7), .val (.int i8), .val (.ref b85), .val (.int (0 : Int32)), .unset, .unset] [(.int (f1n3_0 i8 i0 i1 i2))])) _
            refine XS.istore X130.here hx rfl (hb hby at_179) rfl (l' := #[.val (.int i0), .val (.int i1), .val (.int i2), .val (.int i3), .val (.int i4), .val (.int i5), .val (.int (3 : Int32)), .val (.int i7), .val (.int i8), .val (.ref b85), .val (.int (0 : Int32)), .val (.int (f1n3_0 i8 i0 i1 i2)), .unset]) rfl ?_
            show Steps p.tables e below (T130.setTop (mkF m 181 #[.val (.int i0), .val (.int i1), .val (.int i2), .val (.int i3), .val (.int i4), .val (.int i5), .val (.int (3 : Int32)), .val (.int i7), .val (.int i8), .val (.ref b85), .val (.int (0 : Int32)), .val (.int (f1n3_0 i8 i0 i1 i2)), .unset] [])) _
            refine XS.iload X130.here hx rfl (hb hby at_181) rfl ?_
            exact kt
          refine own_step (T' := T130) (f' := (mkF m 186 #[.val (.int i0), .val (.int i1), .val (.int i2), .val (.int i3), .val (.int i4), .val (.int i5), .val (.int (3 : Int32)), .val (.int i7), .val (.int i8), .val (.ref b85), .val (.int (0 : Int32)), .val (.int (f1n3_0 i8 i0 i1 i2)), .unset] [])) (fun t kt => ?_) ?_
          · show Steps p.tables e below (T130.setTop (mkF m 183 #[.val (.int i0), .val (.int i1), .val (.int i2), .val (.int i3), .val (.int i4), .val (.int i5), .val (.int (3 : Int32)), .val (.int i7), .val (.int i8), .val (.ref b85), .val (.int (0 : Int32)), .val (.int (f1n3_0 i8 i0 i1 i2)), .unset] [(.int (3 : Int32))])) _
            refine XS.ifNo X130.here hx rfl (hb hby at_183) rfl ((if0 _ _).trans (tlt (by decide : ((0 : Int32) < (3 : Int32)))).2.2.2) kt
          refine own_step (T' := T130) (f' := (mkF m 191 #[.val (.int i0), .val (.int i1), .val (.int i2), .val (.int i3), .val (.int i4), .val (.int i5), .val (.int (3 : Int32)), .val (.int i7), .val (.int i8), .val (.ref b85), .val (.int (0 : Int32)), .val (.int (f1n3_0 i8 i0 i1 i2)), .unset] [(.int i0), (.int i0)])) (fun t kt => ?_) ?_
          · show Steps p.tables e below (T130.setTop (mkF m 186 #[.val (.int i0), .val (.int i1), .val (.int i2), .val (.int i3), .val (.int i4), .val (.int i5), .val (.int (3 : Int32)), .val (.int i7), .val (.int i8), .val (.ref b85), .val (.int (0 : Int32)), .val (.int (f1n3_0 i8 i0 i1 i2)), .unset] [])) _
            refine XS.aload X130.here hx rfl (hb hby at_186) rfl rfl ?_
            show Steps p.tables e below (T130.setTop (mkF m 188 #[.val (.int i0), .val (.int i1), .val (.int i2), .val (.int i3), .val (.int i4), .val (.int i5), .val (.int (3 : Int32)), .val (.int i7), .val (.int i8), .val (.ref b85), .val (.int (0 : Int32)), .val (.int (f1n3_0 i8 i0 i1 i2)), .unset] [(.ref b85)])) _
            refine XS.iconst X130.here hx rfl (hb hby at_188) ?_
            show Steps p.tables e below (T130.setTop (mkF m 189 #[.val (.int i0), .val (.int i1), .val (.int i2), .val (.int i3), .val (.int i4), .val (.int i5), .val (.int (3 : Int32)), .val (.int i7), .val (.int i8), .val (.ref b85), .val (.int (0 : Int32)), .val (.int (f1n3_0 i8 i0 i1 i2)), .unset] [(.int (0 : Int32)), (.ref b85)])) _
            refine own_ldI X130 hx hZ e130 Ab85_91 (j := (0 : Int32)) (by decide) (k := 0) (by decide) (v := (.int i0)) rfl (g := (mkF m 189 #[.val (.int i0), .val (.int i1), .val (.int i2), .val (.int i3), .val (.int i4), .val (.int i5), .val (.int (3 : Int32)), .val (.int i7), .val (.int i8), .val (.ref b85), .val (.int (0 : Int32)), .val (.int (f1n3_0 i8 i0 i1 i2)), .unset] [(.int (0 : Int32)), (.ref b85)])) rfl rfl (hb hby at_189) _ ?_
            show Steps p.tables e below (T130.setTop (mkF m 190 #[.val (.int i0), .val (.int i1), .val (.int i2), .val (.int i3), .val (.int i4), .val (.int i5), .val (.int (3 : Int32)), .val (.int i7), .val (.int i8), .val (.ref b85), .val (.int (0 : Int32)), .val (.int (f1n3_0 i8 i0 i1 i2)), .unset] [(.int i0)])) _
            refine XS.iloadN X130.here hx rfl (hb hby at_190) rfl ?_
            exact kt
          refine own_step (T' := T130) (f' := (mkF m 194 #[.val (.int i0), .val (.int i1), .val (.int i2), .val (.int i3), .val (.int i4), .val (.int i5), .val (.int (3 : Int32)), .val (.int i7), .val (.int i8), .val (.ref b85), .val (.int (0 : Int32)), .val (.int (f1n3_0 i8 i0 i1 i2)), .unset] [])) (fun t kt => ?_) ?_
          · show Steps p.tables e below (T130.setTop (mkF m 191 #[.val (.int i0), .val (.int i1), .val (.int i2), .val (.int i3), .val (.int i4), .val (.int i5), .val (.int (3 : Int32)), .val (.int i7), .val (.int i8), .val (.ref b85), .val (.int (0 : Int32)), .val (.int (f1n3_0 i8 i0 i1 i2)), .unset] [(.int i0), (.int i0)])) _
            refine XS.icmpNo X130.here hx rfl (hb hby at_191) rfl (teq (rfl : i0 = i0)).2 kt
          refine own_step (T' := T130) (f' := (mkF m 197 #[.val (.int i0), .val (.int i1), .val (.int i2), .val (.int i3), .val (.int i4), .val (.int i5), .val (.int (3 : Int32)), .val (.int i7), .val (.int i8), .val (.ref b85), .val (.int (0 : Int32)), .val (.int (f1n3_0 i8 i0 i1 i2)), .unset] [(.int (1 : Int32)), (.int (3 : Int32))])) (fun t kt => ?_) ?_
          · show Steps p.tables e below (T130.setTop (mkF m 194 #[.val (.int i0), .val (.int i1), .val (.int i2), .val (.int i3), .val (.int i4), .val (.int i5), .val (.int (3 : Int32)), .val (.int i7), .val (.int i8), .val (.ref b85), .val (.int (0 : Int32)), .val (.int (f1n3_0 i8 i0 i1 i2)), .unset] [])) _
            refine XS.iload X130.here hx rfl (hb hby at_194) rfl ?_
            show Steps p.tables e below (T130.setTop (mkF m 196 #[.val (.int i0), .val (.int i1), .val (.int i2), .val (.int i3), .val (.int i4), .val (.int i5), .val (.int (3 : Int32)), .val (.int i7), .val (.int i8), .val (.ref b85), .val (.int (0 : Int32)), .val (.int (f1n3_0 i8 i0 i1 i2)), .unset] [(.int (3 : Int32))])) _
            refine XS.iconst X130.here hx rfl (hb hby at_196) ?_
            exact kt
          refine own_step (T' := T130) (f' := (mkF m 200 #[.val (.int i0), .val (.int i1), .val (.int i2), .val (.int i3), .val (.int i4), .val (.int i5), .val (.int (3 : Int32)), .val (.int i7), .val (.int i8), .val (.ref b85), .val (.int (0 : Int32)), .val (.int (f1n3_0 i8 i0 i1 i2)), .unset] [])) (fun t kt => ?_) ?_
          · show Steps p.tables e below (T130.setTop (mkF m 197 #[.val (.int i0), .val (.int i1), .val (.int i2), .val (.int i3), .val (.int i4), .val (.int i5), .val (.int (3 : Int32)), .val (.int i7), .val (.int i8), .val (.ref b85), .val (.int (0 : Int32)), .val (.int (f1n3_0 i8 i0 i1 i2)), .unset] [(.int (1 : Int32)), (.int (3 : Int32))])) _
            refine XS.icmpNo X130.here hx rfl (hb hby at_197) rfl (tlt (by decide : ((1 : Int32) < (3 : Int32)))).2.2.2 kt
          refine own_step (T' := T130) (f' := (mkF m 205 #[.val (.int i0), .val (.int i1), .val (.int i2), .val (.int i3), .val (.int i4), .val (.int i5), .val (.int (3 : Int32)), .val (.int i7), .val (.int i8), .val (.ref b85), .val (.int (0 : Int32)), .val (.int (f1n3_0 i8 i0 i1 i2)), .unset] [(.int i1), (.int i1)])) (fun t kt => ?_) ?_
          · show Steps p.tables e below (T130.setTop (mkF m 200 #[.val (.int i0), .val (.int i1), .val (.int i2), .val (.int i3), .val (.int i4), .val (.int i5), .val (.int (3 : Int32)), .val (.int i7), .val (.int i8), .val (.ref b85), .val (.int (0 : Int32)), .val (.int (f1n3_0 i8 i0 i1 i2)), .unset] [])) _
            refine XS.aload X130.here hx rfl (hb hby at_200) rfl rfl ?_
            show Steps p.tables e below (T130.setTop (mkF m 202 #[.val (.int i0), .val (.int i1), .val (.int i2), .val (.int i3), .val (.int i4), .val (.int i5), .val (.int (3 : Int32)), .val (.int i7), .val (.int i8), .val (.ref b85), .val (.int (0 : Int32)), .val (.int (f1n3_0 i8 i0 i1 i2)), .unset] [(.ref b85)])) _
            refine XS.iconst X130.here hx rfl (hb hby at_202) ?_
            show Steps p.tables e below (T130.setTop (mkF m 203 #[.val (.int i0), .val (.int i1), .val (.int i2), .val (.int i3), .val (.int i4), .val (.int i5), .val (.int (3 : Int32)), .val (.int i7), .val (.int i8), .val (.ref b85), .val (.int (0 : Int32)), .val (.int (f1n3_0 i8 i0 i1 i2)), .unset] [(.int (1 : Int32)), (.ref b85)])) _
            refine own_ldI X130 hx hZ e130 Ab85_91 (j := (1 : Int32)) (by decide) (k := 1) (by decide) (v := (.int i1)) rfl (g := (mkF m 203 #[.val (.int i0), .val (.int i1), .val (.int i2), .val (.int i3), .val (.int i4), .val (.int i5), .val (.int (3 : Int32)), .val (.int i7), .val (.int i8), .val (.ref b85), .val (.int (0 : Int32)), .val (.int (f1n3_0 i8 i0 i1 i2)), .unset] [(.int (1 : Int32)), (.ref b85)])) rfl rfl (hb hby at_203) _ ?_
            show Steps p.tables e below (T130.setTop (mkF m 204 #[.val (.int i0), .val (.int i1), .val (.int i2), .val (.int i3), .val (.int i4), .val (.int i5), .val (.int (3 : Int32)), .val (.int i7), .val (.int i8), .val (.ref b85), .val (.int (0 : Int32)), .val (.int (f1n3_0 i8 i0 i1 i2)), .unset] [(.int i1)])) _
            refine XS.iloadN X130.here hx rfl (hb hby at_204) rfl ?_
            exact kt
          refine own_step (T' := T130) (f' := (mkF m 208 #[.val (.int i0), .val (.int i1), .val (.int i2), .val (.int i3), .val (.int i4), .val (.int i5), .val (.int (3 : Int32)), .val (.int i7), .val (.int i8), .val (.ref b85), .val (.int (0 : Int32)), .val (.int (f1n3_0 i8 i0 i1 i2)), .unset] [])) (fun t kt => ?_) ?_
          · show Steps p.tables e below (T130.setTop (mkF m 205 #[.val (.int i0), .val (.int i1), .val (.int i2), .val (.int i3), .val (.int i4), .val (.int i5), .val (.int (3 : Int32)), .val (.int i7), .val (.int i8), .val (.ref b85), .val (.int (0 : Int32)), .val (.int (f1n3_0 i8 i0 i1 i2)), .unset] [(.int i1), (.int i1)])) _
            refine XS.icmpNo X130.here hx rfl (hb hby at_205) rfl (teq (rfl : i1 = i1)).2 kt
          refine own_step (T' := T130) (f' := (mkF m 211 #[.val (.int i0), .val (.int i1), .val (.int i2), .val (.int i3), .val (.int i4), .val (.int i5), .val (.int (3 : Int32)), .val (.int i7), .val (.int i8), .val (.ref b85), .val (.int (0 : Int32)), .val (.int (f1n3_0 i8 i0 i1 i2)), .unset] [(.int (2 : Int32)), (.int (3 : Int32))])) (fun t kt => ?_) ?_
          · show Steps p.tables e below (T130.setTop (mkF m 208 #[.val (.int i0), .val (.int i1), .val (.int i2), .val (.int i3), .val (.int i4), .val (.int i5), .val (.int (3 : Int32)), .val (.int i7), .val (.int i8), .val (.ref b85), .val (.int (0 : Int32)), .val (.int (f1n3_0 i8 i0 i1 i2)), .unset] [])) _
            refine XS.iload X130.here hx rfl (hb hby at_208) rfl ?_
            show Steps p.tables e below (T130.setTop (mkF m 210 #[.val (.int i0), .val (.int i1), .val (.int i2), .val (.int i3), .val (.int i4), .val (.int i5), .val (.int (3 : Int32)), .val (.int i7), .val (.int i8), .val (.ref b85), .val (.int (0 : Int32)), .val (.int (f1n3_0 i8 i0 i1 i2)), .unset] [(.int (3 : Int32))])) _
            refine XS.iconst X130.here hx rfl (hb hby at_210) ?_
            exact kt
          refine own_step (T' := T130) (f' := (mkF m 214 #[.val (.int i0), .val (.int i1), .val (.int i2), .val (.int i3), .val (.int i4), .val (.int i5), .val (.int (3 : Int32)), .val (.int i7), .val (.int i8), .val (.ref b85), .val (.int (0 : Int32)), .val (.int (f1n3_0 i8 i0 i1 i2)), .unset] [])) (fun t kt => ?_) ?_
          · show Steps p.tables e below (T130.setTop (mkF m 211 #[.val (.int i0), .val (.int i1), .val (.int i2), .val (.int i3), .val (.int i4), .val (.int i5), .val (.int (3 : Int32)), .val (.int i7), .val (.int i8), .val (.ref b85), .val (.int (0 : Int32)), .val (.int (f1n3_0 i8 i0 i1 i2)), .unset] [(.int (2 : Int32)), (.int (3 : Int32))])) _
            refine XS.icmpNo X130.here hx rfl (hb hby at_211) rfl (tlt (by decide : ((2 : Int32) < (3 : Int32)))).2.2.2 kt
          refine own_step (T' := T130) (f' := (mkF m 219 #[.val (.int i0), .val (.int i1), .val (.int i2), .val (.int i3), .val (.int i4), .val (.int i5), .val (.int (3 : Int32)), .val (.int i7), .val (.int i8), .val (.ref b85), .val (.int (0 : Int32)), .val (.int (f1n3_0 i8 i0 i1 i2)), .unset] [(.int i2), (.int i2)])) (fun t kt => ?_) ?_
          · show Steps p.tables e below (T130.setTop (mkF m 214 #[.val (.int i0), .val (.int i1), .val (.int i2), .val (.int i3), .val (.int i4), .val (.int i5), .val (.int (3 : Int32)), .val (.int i7), .val (.int i8), .val (.ref b85), .val (.int (0 : Int32)), .val (.int (f1n3_0 i8 i0 i1 i2)), .unset] [])) _
            refine XS.aload X130.here hx rfl (hb hby at_214) rfl rfl ?_
            show Steps p.tables e below (T130.setTop (mkF m 216 #[.val (.int i0), .val (.int i1), .val (.int i2), .val (.int i3), .val (.int i4), .val (.int i5), .val (.int (3 : Int32)), .val (.int i7), .val (.int i8), .val (.ref b85), .val (.int (0 : Int32)), .val (.int (f1n3_0 i8 i0 i1 i2)), .unset] [(.ref b85)])) _
            refine XS.iconst X130.here hx rfl (hb hby at_216) ?_
            show Steps p.tables e below (T130.setTop (mkF m 217 #[.val (.int i0), .val (.int i1), .val (.int i2), .val (.int i3), .val (.int i4), .val (.int i5), .val (.int (3 : Int32)), .val (.int i7), .val (.int i8), .val (.ref b85), .val (.int (0 : Int32)), .val (.int (f1n3_0 i8 i0 i1 i2)), .unset] [(.int (2 : Int32)), (.ref b85)])) _
            refine own_ldI X130 hx hZ e130 Ab85_91 (j := (2 : Int32)) (by decide) (k := 2) (by decide) (v := (.int i2)) rfl (g := (mkF m 217 #[.val (.int i0), .val (.int i1), .val (.int i2), .val (.int i3), .val (.int i4), .val (.int i5), .val (.int (3 : Int32)), .val (.int i7), .val (.int i8), .val (.ref b85), .val (.int (0 : Int32)), .val (.int (f1n3_0 i8 i0 i1 i2)), .unset] [(.int (2 : Int32)), (.ref b85)])) rfl rfl (hb hby at_217) _ ?_
            show Steps p.tables e below (T130.setTop (mkF m 218 #[.val (.int i0), .val (.int i1), .val (.int i2), .val (.int i3), .val (.int i4), .val (.int i5), .val (.int (3 : Int32)), .val (.int i7), .val (.int i8), .val (.ref b85), .val (.int (0 : Int32)), .val (.int (f1n3_0 i8 i0 i1 i2)), .unset] [(.int i2)])) _
            refine XS.iloadN X130.here hx rfl (hb hby at_218) rfl ?_
            exact kt
          refine own_step (T' := T130) (f' := (mkF m 222 #[.val (.int i0), .val (.int i1), .val (.int i2), .val (.int i3), .val (.int i4), .val (.int i5), .val (.int (3 : Int32)), .val (.int i7), .val (.int i8), .val (.ref b85), .val (.int (0 : Int32)), .val (.int (f1n3_0 i8 i0 i1 i2)), .unset] [])) (fun t kt => ?_) ?_
          · show Steps p.tables e below (T130.setTop (mkF m 219 #[.val (.int i0), .val (.int i1), .val (.int i2), .val (.int i3), .val (.int i4), .val (.int i5), .val (.int (3 : Int32)), .val (.int i7), .val (.int i8), .val (.ref b85), .val (.int (0 : Int32)), .val (.int (f1n3_0 i8 i0 i1 i2)), .unset] [(.int i2), (.int i2)])) _
            refine XS.icmpNo X130.here hx rfl (hb hby at_219) rfl (teq (rfl : i2 = i2)).2 kt
          refine own_step (T' := T130) (f' := (mkF m 225 #[.val (.int i0), .val (.int i1), .val (.int i2), .val (.int i3), .val (.int i4), .val (.int i5), .val (.int (3 : Int32)), .val (.int i7), .val (.int i8), .val (.ref b85), .val (.int (0 : Int32)), .val (.int (f1n3_0 i8 i0 i1 i2)), .unset] [(.int (3 : Int32)), (.int (3 : Int32))])) (fun t kt => ?_) ?_
          · show Steps p.tables e below (T130.setTop (mkF m 222 #[.val (.int i0), .val (.int i1), .val (.int i2), .val (.int i3), .val (.int i4), .val (.int i5), .val (.int (3 : Int32)), .val (.int i7), .val (.int i8), .val (.ref b85), .val (.int (0 : Int32)), .val (.int (f1n3_0 i8 i0 i1 i2)), .unset] [])) _
            refine XS.iload X130.here hx rfl (hb hby at_222) rfl ?_
            show Steps p.tables e below (T130.setTop (mkF m 224 #[.val (.int i0), .val (.int i1), .val (.int i2), .val (.int i3), .val (.int i4), .val (.int i5), .val (.int (3 : Int32)), .val (.int i7), .val (.int i8), .val (.ref b85), .val (.int (0 : Int32)), .val (.int (f1n3_0 i8 i0 i1 i2)), .unset] [(.int (3 : Int32))])) _
            refine XS.iconst X130.here hx rfl (hb hby at_224) ?_
            exact kt
          refine own_step (T' := T130) (f' := (mkF m 236 #[.val (.int i0), .val (.int i1), .val (.int i2), .val (.int i3), .val (.int i4), .val (.int i5), .val (.int (3 : Int32)), .val (.int i7), .val (.int i8), .val (.ref b85), .val (.int (0 : Int32)), .val (.int (f1n3_0 i8 i0 i1 i2)), .unset] [])) (fun t kt => ?_) ?_
          · show Steps p.tables e below (T130.setTop (mkF m 225 #[.val (.int i0), .val (.int i1), .val (.int i2), .val (.int i3), .val (.int i4), .val (.int i5), .val (.int (3 : Int32)), .val (.int i7), .val (.int i8), .val (.ref b85), .val (.int (0 : Int32)), .val (.int (f1n3_0 i8 i0 i1 i2)), .unset] [(.int (3 : Int32)), (.int (3 : Int32))])) _
            refine XS.icmpYes X130.here hx rfl (pc0 := 225) (pc' := 236) rfl (hb hby at_225) rfl (flt (by decide : ¬ ((3 : Int32) < (3 : Int32)))).2.2.2 (by decide) (by decide) kt
          refine own_step (T' := T130) (f' := (mkF m 247 #[.val (.int i0), .val (.int i1), .val (.int i2), .val (.int i3), .val (.int i4), .val (.int i5), .val (.int (3 : Int32)), .val (.int i7), .val (.int i8), .val (.ref b85), .val (.int (0 : Int32)), .val (.int (f1n3_0 i8 i0 i1 i2)), .val (.int (1 : Int32))] [(.int (0 : Int32)), (.int (f1n3_0 i8 i0 i1 i2))])) (fun t kt => ?_) ?_
          · show Steps p.tables e below (T130.setTop (mkF m 236 #[.val (.int i0), .val (.int i1), .val (.int i2), .val (.int i3), .val (.int i4), .val (.int i5), .val (.int (3 : Int32)), .val (.int i7), .val (.int i8), .val (.ref b85), .val (.int (0 : Int32)), .val (.int (f1n3_0 i8 i0 i1 i2)), .unset] [])) _
            refine XS.iconst X130.here hx rfl (hb hby at_236) ?_
            show Steps p.tables e below (T130.setTop (mkF m 237 #[.val (.int i0), .val (.int i1), .val (.int i2), .val (.int i3), .val (.int i4), .val (.int i5), .val (.int (3 : Int32)), .val (.int i7), .val (.int i8), .val (.ref b85), .val (.int (0 : Int32)), .val (.int (f1n3_0 i8 i0 i1 i2)), .unset] [(.int (1 : Int32))])) _
            refine XS.goto X130.here hx rfl (pc0 := 237) (pc' := 241) rfl (hb hby at_237) (by decide) (by decide) ?_
            show Steps p.tables e below (T130.setTop (mkF m 241 #[.val (.int i0), .val (.int i1), .val (.int i2), .val (.int i3), .val (.int i4), .val (.int i5), .val (.int (3 : Int32)), .val (.int i7), .val (.int i8), .val (.ref b85), .val (.int (0 : Int32)), .val (.int (f1n3_0 i8 i0 i1 i2)), .unset] [(.int (1 : Int32))])) _
            refine XS.istore X130.here hx rfl (hb hby at_241) rfl (l' := #[.val (.int i0), .val (.int i1), .val (.int i2), .val (.int i3), .val (.int i4), .val (.int i5), .val (.int (3 : Int32)), .val (.int i7), .val (.int i8), .val (.ref b85), .val (.int (0 : Int32)), .val (.int (f1n3_0 i8 i0 i1 i2)), .val (.int (1 : Int32))]) rfl ?_
            show Steps p.tables e below (T130.setTop (mkF m 243 #[.val (.int i0), .val (.int i1), .val (.int i2), .val (.int i3), .val (.int i4), .val (.int i5), .val (.int (3 : Int32)), .val (.int i7), .val (.int i8), .val (.ref b85), .val (.int (0 : Int32)), .val (.int (f1n3_0 i8 i0 i1 i2)), .val (.int (1 : Int32))] [])) _
            refine XS.iload X130.here hx rfl (hb hby at_243) rfl ?_
            show Steps p.tables e below (T130.setTop (mkF m 245 #[.val (.int i0), .val (.int i1), .val (.int i2), .val (.int i3), .val (.int i4), .val (.int i5), .val (.int (3 : Int32)), .val (.int i7), .val (.int i8), .val (.ref b85), .val (.int (0 : Int32)), .val (.int (f1n3_0 i8 i0 i1 i2)), .val (.int (1 : Int32))] [(.int (f1n3_0 i8 i0 i1 i2))])) _
            refine XS.iload X130.here hx rfl (hb hby at_245) rfl ?_
            exact kt
          by_cases hc247_138 : (f1n3_0 i8 i0 i1 i2) = (0 : Int32)
          · rw [if_pos hc247_138] at hr
            refine own_step (T' := T130) (f' := (mkF m 250 #[.val (.int i0), .val (.int i1), .val (.int i2), .val (.int i3), .val (.int i4), .val (.int i5), .val (.int (3 : Int32)), .val (.int i7), .val (.int i8), .val (.ref b85), .val (.int (0 : Int32)), .val (.int (f1n3_0 i8 i0 i1 i2)), .val (.int (1 : Int32))] [])) (fun t kt => ?_) ?_
            · show Steps p.tables e below (T130.setTop (mkF m 247 #[.val (.int i0), .val (.int i1), .val (.int i2), .val (.int i3), .val (.int i4), .val (.int i5), .val (.int (3 : Int32)), .val (.int i7), .val (.int i8), .val (.ref b85), .val (.int (0 : Int32)), .val (.int (f1n3_0 i8 i0 i1 i2)), .val (.int (1 : Int32))] [(.int (0 : Int32)), (.int (f1n3_0 i8 i0 i1 i2))])) _
              refine XS.icmpNo X130.here hx rfl (hb hby at_247) rfl (teq hc247_138).2 kt
            refine own_step (T' := T130) (f' := (mkF m 252 #[.val (.int i0), .val (.int i1), .val (.int i2), .val (.int i3), .val (.int i4), .val (.int i5), .val (.int (3 : Int32)), .val (.int i7), .val (.int i8), .val (.ref b85), .val (.int (0 : Int32)), .val (.int (f1n3_0 i8 i0 i1 i2)), .val (.int (1 : Int32))] [(.int (1 : Int32))])) (fun t kt => ?_) ?_
            · show Steps p.tables e below (T130.setTop (mkF m 250 #[.val (.int i0), .val (.int i1), .val (.int i2), .val (.int i3), .val (.int i4), .val (.int i5), .val (.int (3 : Int32)), .val (.int i7), .val (.int i8), .val (.ref b85), .val (.int (0 : Int32)), .val (.int (f1n3_0 i8 i0 i1 i2)), .val (.int (1 : Int32))] [])) _
              refine XS.iload X130.here hx rfl (hb hby at_250) rfl ?_
              exact kt
            refine own_step (T' := T130) (f' := (mkF m 255 #[.val (.int i0), .val (.int i1), .val (.int i2), .val (.int i3), .val (.int i4), .val (.int i5), .val (.int (3 : Int32)), .val (.int i7), .val (.int i8), .val (.ref b85), .val (.int (0 : Int32)), .val (.int (f1n3_0 i8 i0 i1 i2)), .val (.int (1 : Int32))] [])) (fun t kt => ?_) ?_
            · show Steps p.tables e below (T130.setTop (mkF m 252 #[.val (.int i0), .val (.int i1), .val (.int i2), .val (.int i3), .val (.int i4), .val (.int i5), .val (.int (3 : Int32)), .val (.int i7), .val (.int i8), .val (.ref b85), .val (.int (0 : Int32)), .val (.int (f1n3_0 i8 i0 i1 i2)), .val (.int (1 : Int32))] [(.int (1 : Int32))])) _
              refine XS.ifNo X130.here hx rfl (hb hby at_252) rfl ((if0 _ _).trans (feq (by decide : ¬ ((1 : Int32) = (0 : Int32)))).1) kt
            refine own_step (T' := T130) (f' := (mkF m 260 #[.val (.int i0), .val (.int i1), .val (.int i2), .val (.int i3), .val (.int i4), .val (.int i5), .val (.int (3 : Int32)), .val (.int i7), .val (.int i8), .val (.ref b85), .val (.int (0 : Int32)), .val (.int (f1n3_0 i8 i0 i1 i2)), .val (.int (1 : Int32))] [(.int (1 : Int32))])) (fun t kt => ?_) ?_
            · show Steps p.tables e below (T130.setTop (mkF m 255 #[.val (.int i0), .val (.int i1), .val (.int i2), .val (.int i3), .val (.int i4), .val (.int i5), .val (.int (3 : Int32)), .val (.int i7), .val (.int i8), .val (.ref b85), .val (.int (0 : Int32)), .val (.int (f1n3_0 i8 i0 i1 i2)), .val (.int (1 : Int32))] [])) _
              refine XS.iconst X130.here hx rfl (hb hby at_255) ?_
              show Steps p.tables e below (T130.setTop (mkF m 256 #[.val (.int i0), .val (.int i1), .val (.int i2), .val (.int i3), .val (.int i4), .val (.int i5), .val (.int (3 : Int32)), .val (.int i7), .val (.int i8), .val (.ref b85), .val (.int (0 : Int32)), .val (.int (f1n3_0 i8 i0 i1 i2)), .val (.int (1 : Int32))] [(.int (1 : Int32))])) _
              refine XS.goto X130.here hx rfl (pc0 := 256) (pc' := 260) rfl (hb hby at_256) (by decide) (by decide) ?_
              exact kt
            exact own_retZ X130 hx hret (by simp) hlk (hb hby at_260) (by decide) (by decide) ⟨congrArg (fun z => some (Value.int z)) hr.symm, N130⟩
          · rw [if_neg hc247_138] at hr
            refine own_step (T' := T130) (f' := (mkF m 259 #[.val (.int i0), .val (.int i1), .val (.int i2), .val (.int i3), .val (.int i4), .val (.int i5), .val (.int (3 : Int32)), .val (.int i7), .val (.int i8), .val (.ref b85), .val (.int (0 : Int32)), .val (.int (f1n3_0 i8 i0 i1 i2)), .val (.int (1 : Int32))] [])) (fun t kt => ?_) ?_
            · show Steps p.tables e below (T130.setTop (mkF m 247 #[.val (.int i0), .val (.int i1), .val (.int i2), .val (.int i3), .val (.int i4), .val (.int i5), .val (.int (3 : Int32)), .val (.int i7), .val (.int i8), .val (.ref b85), .val (.int (0 : Int32)), .val (.int (f1n3_0 i8 i0 i1 i2)), .val (.int (1 : Int32))] [(.int (0 : Int32)), (.int (f1n3_0 i8 i0 i1 i2))])) _
              refine XS.icmpYes X130.here hx rfl (pc0 := 247) (pc' := 259) rfl (hb hby at_247) rfl (feq hc247_138).2 (by decide) (by decide) kt
            refine own_step (T' := T130) (f' := (mkF m 260 #[.val (.int i0), .val (.int i1), .val (.int i2), .val (.int i3), .val (.int i4), .val (.int i5), .val (.int (3 : Int32)), .val (.int i7), .val (.int i8), .val (.ref b85), .val (.int (0 : Int32)), .val (.int (f1n3_0 i8 i0 i1 i2)), .val (.int (1 : Int32))] [(.int (0 : Int32))])) (fun t kt => ?_) ?_
            · show Steps p.tables e below (T130.setTop (mkF m 259 #[.val (.int i0), .val (.int i1), .val (.int i2), .val (.int i3), .val (.int i4), .val (.int i5), .val (.int (3 : Int32)), .val (.int i7), .val (.int i8), .val (.ref b85), .val (.int (0 : Int32)), .val (.int (f1n3_0 i8 i0 i1 i2)), .val (.int (1 : Int32))] [])) _
              refine XS.iconst X130.here hx rfl (hb hby at_259) ?_
              exact kt
            exact own_retZ X130 hx hret (by simp) hlk (hb hby at_260) (by decide) (by decide) ⟨congrArg (fun z => some (Value.int z)) hr.symm, N130⟩
  · rw [if_neg (by decide), if_neg (by decide), if_neg (by decide), if_neg (by decide), if_pos rfl] at hr
    refine own_step (T' := T0) (f' := (mkF m 71 #[.val (.int i0), .val (.int i1), .val (.int i2), .val (.int i3), .val (.int i4), .val (.int i5), .val (.int (4 : Int32)), .val (.int i7), .val (.int i8), .unset, .unset, .unset, .unset] [(.int (4 : Int32))])) (fun t kt => ?_) ?_
    · show Steps p.tables e below (T0.setTop (mkF m 69 #[.val (.int i0), .val (.int i1), .val (.int i2), .val (.int i3), .val (.int i4), .val (.int i5), .val (.int (4 : Int32)), .val (.int i7), .val (.int i8), .unset, .unset, .unset, .unset] [])) _
      refine XS.iload X0.here hx rfl (hb hby at_69) rfl ?_
      exact kt
    obtain ⟨T140, h140, b140, X140, e140, Ex140, gb140, g140, Z140, Aq140, st140⟩ := own_new X0 hx hZ (aty := .int) (hw _ (List.mem_of_getElem? (i := 0) rfl)) e0 (g := (mkF m 71 #[.val (.int i0), .val (.int i1), .val (.int i2), .val (.int i3), .val (.int i4), .val (.int i5), .val (.int (4 : Int32)), .val (.int i7), .val (.int i8), .unset, .unset, .unset, .unset] [(.int (4 : Int32))])) rfl (hb hby at_71) rfl (by decide) (k := 4) (by decide) (by decide) (by decide) (by decide) Z0
    have Ab140_140 : own_A Z h140 b140 .int [(.int (0 : Int32)), (.int (0 : Int32)), (.int (0 : Int32)), (.int (0 : Int32))] := Aq140
    refine own_step (T' := T140) (f' := (mkF m 73 #[.val (.int i0), .val (.int i1), .val (.int i2), .val (.int i3), .val (.int i4), .val (.int i5), .val (.int (4 : Int32)), .val (.int i7), .val (.int i8), .unset, .unset, .unset, .unset] [(.ref b140)])) st140 ?_
    refine own_step (T' := T140) (f' := (mkF m 77 #[.val (.int i0), .val (.int i1), .val (.int i2), .val (.int i3), .val (.int i4), .val (.int i5), .val (.int (4 : Int32)), .val (.int i7), .val (.int i8), .val (.ref b140), .unset, .unset, .unset] [(.int (4 : Int32))])) (fun t kt => ?_) ?_
    · show Steps p.tables e below (T140.setTop (mkF m 73 #[.val (.int i0), .val (.int i1), .val (.int i2), .val (.int i3), .val (.int i4), .val (.int i5), .val (.int (4 : Int32)), .val (.int i7), .val (.int i8), .unset, .unset, .unset, .unset] [(.ref b140)])) _
      refine XS.astore X140.here hx rfl (hb hby at_73) rfl rfl (l' := #[.val (.int i0), .val (.int i1), .val (.int i2), .val (.int i3), .val (.int i4), .val (.int i5), .val (.int (4 : Int32)), .val (.int i7), .val (.int i8), .val (.ref b140), .unset, .unset, .unset]) rfl ?_
      show Steps p.tables e below (T140.setTop (mkF m 75 #[.val (.int i0), .val (.int i1), .val (.int i2), .val (.int i3), .val (.int i4), .val (.int i5), .val (.int (4 : Int32)), .val (.int i7), .val (.int i8), .val (.ref b140), .unset, .unset, .unset] [])) _
      refine XS.iload X140.here hx rfl (hb hby at_75) rfl ?_
      exact kt
    refine own_step (T' := T140) (f' := (mkF m 80 #[.val (.int i0), .val (.int i1), .val (.int i2), .val (.int i3), .val (.int i4), .val (.int i5), .val (.int (4 : Int32)), .val (.int i7), .val (.int i8), .val (.ref b140), .unset, .unset, .unset] [])) (fun t kt => ?_) ?_
    · show Steps p.tables e below (T140.setTop (mkF m 77 #[.val (.int i0), .val (.int i1), .val (.int i2), .val (.int i3), .val (.int i4), .val (.int i5), .val (.int (4 : Int32)), .val (.int i7), .val (.int i8), .val (.ref b140), .unset, .unset, .unset] [(.int (4 : Int32))])) _
      refine XS.ifNo X140.here hx rfl (hb hby at_77) rfl ((if0 _ _).trans (tlt (by decide : ((0 : Int32) < (4 : Int32)))).2.2.2) kt
    refine own_step (T' := T140) (f' := (mkF m 84 #[.val (.int i0), .val (.int i1), .val (.int i2), .val (.int i3), .val (.int i4), .val (.int i5), .val (.int (4 : Int32)), .val (.int i7), .val (.int i8), .val (.ref b140), .unset, .unset, .unset] [(.int i0), (.int (0 : Int32)), (.ref b140)])) (fun t kt => ?_) ?_
    · show Steps p.tables e below (T140.setTop (mkF m 80 #[.val (.int i0), .val (.int i1), .val (.int i2), .val (.int i3), .val (.int i4), .val (.int i5), .val (.int (4 : Int32)), .val (.int i7), .val (.int i8), .val (.ref b140), .unset, .unset, .unset] [])) _
      refine XS.aload X140.here hx rfl (hb hby at_80) rfl rfl ?_
      show Steps p.tables e below (T140.setTop (mkF m 82 #[.val (.int i0), .val (.int i1), .val (.int i2), .val (.int i3), .val (.int i4), .val (.int i5), .val (.int (4 : Int32)), .val (.int i7), .val (.int i8), .val (.ref b140), .unset, .unset, .unset] [(.ref b140)])) _
      refine XS.iconst X140.here hx rfl (hb hby at_82) ?_
      show Steps p.tables e below (T140.setTop (mkF m 83 #[.val (.int i0), .val (.int i1), .val (.int i2), .val (.int i3), .val (.int i4), .val (.int i5), .val (.int (4 : Int32)), .val (.int i7), .val (.int i8), .val (.ref b140), .unset, .unset, .unset] [(.int (0 : Int32)), (.ref b140)])) _
      refine XS.iloadN X140.here hx rfl (hb hby at_83) rfl ?_
      exact kt
    obtain ⟨T142, h142, Lq142, X142, N142, e142, W142, Z142, Aq142, st142⟩ := own_stI X140 hx hZ e140 Ab140_140 (j := (0 : Int32)) (by decide) (k := 0) (by decide) (Nat.le_of_ble_eq_true rfl) N0 g140 Z140 (g := (mkF m 84 #[.val (.int i0), .val (.int i1), .val (.int i2), .val (.int i3), .val (.int i4), .val (.int i5), .val (.int (4 : Int32)), .val (.int i7), .val (.int i8), .val (.ref b140), .unset, .unset, .unset] [(.int i0), (.int (0 : Int32)), (.ref b140)])) rfl rfl (hb hby at_84)
    have Ab140_142 : own_A Z h142 b140 .int [(.int i0), (.int (0 : Int32)), (.int (0 : Int32)), (.int (0 : Int32))] := Aq142
    refine own_step (T' := T142) (f' := (mkF m 85 #[.val (.int i0), .val (.int i1), .val (.int i2), .val (.int i3), .val (.int i4), .val (.int i5), .val (.int (4 : Int32)), .val (.int i7), .val (.int i8), .val (.ref b140), .unset, .unset, .unset] [])) st142 ?_
    refine own_step (T' := T142) (f' := (mkF m 88 #[.val (.int i0), .val (.int i1), .val (.int i2), .val (.int i3), .val (.int i4), .val (.int i5), .val (.int (4 : Int32)), .val (.int i7), .val (.int i8), .val (.ref b140), .unset, .unset, .unset] [(.int (1 : Int32)), (.int (4 : Int32))])) (fun t kt => ?_) ?_
    · show Steps p.tables e below (T142.setTop (mkF m 85 #[.val (.int i0), .val (.int i1), .val (.int i2), .val (.int i3), .val (.int i4), .val (.int i5), .val (.int (4 : Int32)), .val (.int i7), .val (.int i8), .val (.ref b140), .unset, .unset, .unset] [])) _
      refine XS.iload X142.here hx rfl (hb hby at_85) rfl ?_
      show Steps p.tables e below (T142.setTop (mkF m 87 #[.val (.int i0), .val (.int i1), .val (.int i2), .val (.int i3), .val (.int i4), .val (.int i5), .val (.int (4 : Int32)), .val (.int i7), .val (.int i8), .val (.ref b140), .unset, .unset, .unset] [(.int (4 : Int32))])) _
      refine XS.iconst X142.here hx rfl (hb hby at_87) ?_
      exact kt
    refine own_step (T' := T142) (f' := (mkF m 91 #[.val (.int i0), .val (.int i1), .val (.int i2), .val (.int i3), .val (.int i4), .val (.int i5), .val (.int (4 : Int32)), .val (.int i7), .val (.int i8), .val (.ref b140), .unset, .unset, .unset] [])) (fun t kt => ?_) ?_
    · show Steps p.tables e below (T142.setTop (mkF m 88 #[.val (.int i0), .val (.int i1), .val (.int i2), .val (.int i3), .val (.int i4), .val (.int i5), .val (.int (4 : Int32)), .val (.int i7), .val (.int i8), .val (.ref b140), .unset, .unset, .unset] [(.int (1 : Int32)), (.int (4 : Int32))])) _
      refine XS.icmpNo X142.here hx rfl (hb hby at_88) rfl (tlt (by decide : ((1 : Int32) < (4 : Int32)))).2.2.2 kt
    refine own_step (T' := T142) (f' := (mkF m 95 #[.val (.int i0), .val (.int i1), .val (.int i2), .val (.int i3), .val (.int i4), .val (.int i5), .val (.int (4 : Int32)), .val (.int i7), .val (.int i8), .val (.ref b140), .unset, .unset, .unset] [(.int i1), (.int (1 : Int32)), (.ref b140)])) (fun t kt => ?_) ?_
    · show Steps p.tables e below (T142.setTop (mkF m 91 #[.val (.int i0), .val (.int i1), .val (.int i2), .val (.int i3), .val (.int i4), .val (.int i5), .val (.int (4 : Int32)), .val (.int i7), .val (.int i8), .val (.ref b140), .unset, .unset, .unset] [])) _
      refine XS.aload X142.here hx rfl (hb hby at_91) rfl rfl ?_
      show Steps p.tables e below (T142.setTop (mkF m 93 #[.val (.int i0), .val (.int i1), .val (.int i2), .val (.int i3), .val (.int i4), .val (.int i5), .val (.int (4 : Int32)), .val (.int i7), .val (.int i8), .val (.ref b140), .unset, .unset, .unset] [(.ref b140)])) _
      refine XS.iconst X142.here hx rfl (hb hby at_93) ?_
      show Steps p.tables e below (T142.setTop (mkF m 94 #[.val (.int i0), .val (.int i1), .val (.int i2), .val (.int i3), .val (.int i4), .val (.int i5), .val (.int (4 : Int32)), .val (.int i7), .val (.int i8), .val (.ref b140), .unset, .unset, .unset] [(.int (1 : Int32)), (.ref b140)])) _
      refine XS.iloadN X142.here hx rfl (hb hby at_94) rfl ?_
      exact kt
    obtain ⟨T144, h144, Lq144, X144, N144, e144, W144, Z144, Aq144, st144⟩ := own_stI X142 hx hZ e142 Ab140_142 (j := (1 : Int32)) (by decide) (k := 1) (by decide) (Nat.le_of_ble_eq_true rfl) N142 g140 Z142 (g := (mkF m 95 #[.val (.int i0), .val (.int i1), .val (.int i2), .val (.int i3), .val (.int i4), .val (.int i5), .val (.int (4 : Int32)), .val (.int i7), .val (.int i8), .val (.ref b140), .unset, .unset, .unset] [(.int i1), (.int (1 : Int32)), (.ref b140)])) rfl rfl (hb hby at_95)
    have Ab140_144 : own_A Z h144 b140 .int [(.int i0), (.int i1), (.int (0 : Int32)), (.int (0 : Int32))] := Aq144
    refine own_step (T' := T144) (f' := (mkF m 96 #[.val (.int i0), .val (.int i1), .val (.int i2), .val (.int i3), .val (.int i4), .val (.int i5), .val (.int (4 : Int32)), .val (.int i7), .val (.int i8), .val (.ref b140), .unset, .unset, .unset] [])) st144 ?_
    refine own_step (T' := T144) (f' := (mkF m 99 #[.val (.int i0), .val (.int i1), .val (.int i2), .val (.int i3), .val (.int i4), .val (.int i5), .val (.int (4 : Int32)), .val (.int i7), .val (.int i8), .val (.ref b140), .unset, .unset, .unset] [(.int (2 : Int32)), (.int (4 : Int32))])) (fun t kt => ?_) ?_
    · show Steps p.tables e below (T144.setTop (mkF m 96 #[.val (.int i0), .val (.int i1), .val (.int i2), .val (.int i3), .val (.int i4), .val (.int i5), .val (.int (4 : Int32)), .val (.int i7), .val (.int i8), .val (.ref b140), .unset, .unset, .unset] [])) _
      refine XS.iload X144.here hx rfl (hb hby at_96) rfl ?_
      show Steps p.tables e below (T144.setTop (mkF m 98 #[.val (.int i0), .val (.int i1), .val (.int i2), .val (.int i3), .val (.int i4), .val (.int i5), .val (.int (4 : Int32)), .val (.int i7), .val (.int i8), .val (.ref b140), .unset, .unset, .unset] [(.int (4 : Int32))])) _
      refine XS.iconst X144.here hx rfl (hb hby at_98) ?_
      exact kt
    refine own_step (T' := T144) (f' := (mkF m 102 #[.val (.int i0), .val (.int i1), .val (.int i2), .val (.int i3), .val (.int i4), .val (.int i5), .val (.int (4 : Int32)), .val (.int i7), .val (.int i8), .val (.ref b140), .unset, .unset, .unset] [])) (fun t kt => ?_) ?_
    · show Steps p.tables e below (T144.setTop (mkF m 99 #[.val (.int i0), .val (.int i1), .val (.int i2), .val (.int i3), .val (.int i4), .val (.int i5), .val (.int (4 : Int32)), .val (.int i7), .val (.int i8), .val (.ref b140), .unset, .unset, .unset] [(.int (2 : Int32)), (.int (4 : Int32))])) _
      refine XS.icmpNo X144.here hx rfl (hb hby at_99) rfl (tlt (by decide : ((2 : Int32) < (4 : Int32)))).2.2.2 kt
    refine own_step (T' := T144) (f' := (mkF m 106 #[.val (.int i0), .val (.int i1), .val (.int i2), .val (.int i3), .val (.int i4), .val (.int i5), .val (.int (4 : Int32)), .val (.int i7), .val (.int i8), .val (.ref b140), .unset, .unset, .unset] [(.int i2), (.int (2 : Int32)), (.ref b140)])) (fun t kt => ?_) ?_
    · show Steps p.tables e below (T144.setTop (mkF m 102 #[.val (.int i0), .val (.int i1), .val (.int i2), .val (.int i3), .val (.int i4), .val (.int i5), .val (.int (4 : Int32)), .val (.int i7), .val (.int i8), .val (.ref b140), .unset, .unset, .unset] [])) _
      refine XS.aload X144.here hx rfl (hb hby at_102) rfl rfl ?_
      show Steps p.tables e below (T144.setTop (mkF m 104 #[.val (.int i0), .val (.int i1), .val (.int i2), .val (.int i3), .val (.int i4), .val (.int i5), .val (.int (4 : Int32)), .val (.int i7), .val (.int i8), .val (.ref b140), .unset, .unset, .unset] [(.ref b140)])) _
      refine XS.iconst X144.here hx rfl (hb hby at_104) ?_
      show Steps p.tables e below (T144.setTop (mkF m 105 #[.val (.int i0), .val (.int i1), .val (.int i2), .val (.int i3), .val (.int i4), .val (.int i5), .val (.int (4 : Int32)), .val (.int i7), .val (.int i8), .val (.ref b140), .unset, .unset, .unset] [(.int (2 : Int32)), (.ref b140)])) _
      refine XS.iloadN X144.here hx rfl (hb hby at_105) rfl ?_
      exact kt
    obtain ⟨T146, h146, Lq146, X146, N146, e146, W146, Z146, Aq146, st146⟩ := own_stI X144 hx hZ e144 Ab140_144 (j := (2 : Int32)) (by decide) (k := 2) (by decide) (Nat.le_of_ble_eq_true rfl) N144 g140 Z144 (g := (mkF m 106 #[.val (.int i0), .val (.int i1), .val (.int i2), .val (.int i3), .val (.int i4), .val (.int i5), .val (.int (4 : Int32)), .val (.int i7), .val (.int i8), .val (.ref b140), .unset, .unset, .unset] [(.int i2), (.int (2 : Int32)), (.ref b140)])) rfl rfl (hb hby at_106)
    have Ab140_146 : own_A Z h146 b140 .int [(.int i0), (.int i1), (.int i2), (.int (0 : Int32))] := Aq146
    refine own_step (T' := T146) (f' := (mkF m 107 #[.val (.int i0), .val (.int i1), .val (.int i2), .val (.int i3), .val (.int i4), .val (.int i5), .val (.int (4 : Int32)), .val (.int i7), .val (.int i8), .val (.ref b140), .unset, .unset, .unset] [])) st146 ?_
    refine own_step (T' := T146) (f' := (mkF m 110 #[.val (.int i0), .val (.int i1), .val (.int i2), .val (.int i3), .val (.int i4), .val (.int i5), .val (.int (4 : Int32)), .val (.int i7), .val (.int i8), .val (.ref b140), .unset, .unset, .unset] [(.int (3 : Int32)), (.int (4 : Int32))])) (fun t kt => ?_) ?_
    · show Steps p.tables e below (T146.setTop (mkF m 107 #[.val (.int i0), .val (.int i1), .val (.int i2), .val (.int i3), .val (.int i4), .val (.int i5), .val (.int (4 : Int32)), .val (.int i7), .val (.int i8), .val (.ref b140), .unset, .unset, .unset] [])) _
      refine XS.iload X146.here hx rfl (hb hby at_107) rfl ?_
      show Steps p.tables e below (T146.setTop (mkF m 109 #[.val (.int i0), .val (.int i1), .val (.int i2), .val (.int i3), .val (.int i4), .val (.int i5), .val (.int (4 : Int32)), .val (.int i7), .val (.int i8), .val (.ref b140), .unset, .unset, .unset] [(.int (4 : Int32))])) _
      refine XS.iconst X146.here hx rfl (hb hby at_109) ?_
      exact kt
    refine own_step (T' := T146) (f' := (mkF m 113 #[.val (.int i0), .val (.int i1), .val (.int i2), .val (.int i3), .val (.int i4), .val (.int i5), .val (.int (4 : Int32)), .val (.int i7), .val (.int i8), .val (.ref b140), .unset, .unset, .unset] [])) (fun t kt => ?_) ?_
    · show Steps p.tables e below (T146.setTop (mkF m 110 #[.val (.int i0), .val (.int i1), .val (.int i2), .val (.int i3), .val (.int i4), .val (.int i5), .val (.int (4 : Int32)), .val (.int i7), .val (.int i8), .val (.ref b140), .unset, .unset, .unset] [(.int (3 : Int32)), (.int (4 : Int32))])) _
      refine XS.icmpNo X146.here hx rfl (hb hby at_110) rfl (tlt (by decide : ((3 : Int32) < (4 : Int32)))).2.2.2 kt
    refine own_step (T' := T146) (f' := (mkF m 117 #[.val (.int i0), .val (.int i1), .val (.int i2), .val (.int i3), .val (.int i4), .val (.int i5), .val (.int (4 : Int32)), .val (.int i7), .val (.int i8), .val (.ref b140), .unset, .unset, .unset] [(.int i3), (.int (3 : Int32)), (.ref b140)])) (fun t kt => ?_) ?_
    · show Steps p.tables e below (T146.setTop (mkF m 113 #[.val (.int i0), .val (.int i1), .val (.int i2), .val (.int i3), .val (.int i4), .val (.int i5), .val (.int (4 : Int32)), .val (.int i7), .val (.int i8), .val (.ref b140), .unset, .unset, .unset] [])) _
      refine XS.aload X146.here hx rfl (hb hby at_113) rfl rfl ?_
      show Steps p.tables e below (T146.setTop (mkF m 115 #[.val (.int i0), .val (.int i1), .val (.int i2), .val (.int i3), .val (.int i4), .val (.int i5), .val (.int (4 : Int32)), .val (.int i7), .val (.int i8), .val (.ref b140), .unset, .unset, .unset] [(.ref b140)])) _
      refine XS.iconst X146.here hx rfl (hb hby at_115) ?_
      show Steps p.tables e below (T146.setTop (mkF m 116 #[.val (.int i0), .val (.int i1), .val (.int i2), .val (.int i3), .val (.int i4), .val (.int i5), .val (.int (4 : Int32)), .val (.int i7), .val (.int i8), .val (.ref b140), .unset, .unset, .unset] [(.int (3 : Int32)), (.ref b140)])) _
      refine XS.iloadN X146.here hx rfl (hb hby at_116) rfl ?_
      exact kt
    obtain ⟨T148, h148, Lq148, X148, N148, e148, W148, Z148, Aq148, st148⟩ := own_stI X146 hx hZ e146 Ab140_146 (j := (3 : Int32)) (by decide) (k := 3) (by decide) (Nat.le_of_ble_eq_true rfl) N146 g140 Z146 (g := (mkF m 117 #[.val (.int i0), .val (.int i1), .val (.int i2), .val (.int i3), .val (.int i4), .val (.int i5), .val (.int (4 : Int32)), .val (.int i7), .val (.int i8), .val (.ref b140), .unset, .unset, .unset] [(.int i3), (.int (3 : Int32)), (.ref b140)])) rfl rfl (hb hby at_117)
    have Ab140_148 : own_A Z h148 b140 .int [(.int i0), (.int i1), (.int i2), (.int i3)] := Aq148
    refine own_step (T' := T148) (f' := (mkF m 118 #[.val (.int i0), .val (.int i1), .val (.int i2), .val (.int i3), .val (.int i4), .val (.int i5), .val (.int (4 : Int32)), .val (.int i7), .val (.int i8), .val (.ref b140), .unset, .unset, .unset] [])) st148 ?_
    refine own_step (T' := T148) (f' := (mkF m 120 #[.val (.int i0), .val (.int i1), .val (.int i2), .val (.int i3), .val (.int i4), .val (.int i5), .val (.int (4 : Int32)), .val (.int i7), .val (.int i8), .val (.ref b140), .unset, .unset, .unset] [(.int (4 : Int32))])) (fun t kt => ?_) ?_
    · show Steps p.tables e below (T148.setTop (mkF m 118 #[.val (.int i0), .val (.int i1), .val (.int i2), .val (.int i3), .val (.int i4), .val (.int i5), .val (.int (4 : Int32)), .val (.int i7), .val (.int i8), .val (.ref b140), .unset, .unset, .unset] [])) _
      refine XS.iload X148.here hx rfl (hb hby at_118) rfl ?_
      exact kt
    refine own_step (T' := T148) (f' := (mkF m 123 #[.val (.int i0), .val (.int i1), .val (.int i2), .val (.int i3), .val (.int i4), .val (.int i5), .val (.int (4 : Int32)), .val (.int i7), .val (.int i8), .val (.ref b140), .unset, .unset, .unset] [])) (fun t kt => ?_) ?_
    · show Steps p.tables e below (T148.setTop (mkF m 120 #[.val (.int i0), .val (.int i1), .val (.int i2), .val (.int i3), .val (.int i4), .val (.int i5), .val (.int (4 : Int32)), .val (.int i7), .val (.int i8), .val (.ref b140), .unset, .unset, .unset] [(.int (4 : Int32))])) _
      refine XS.ifNo X148.here hx rfl (hb hby at_120) rfl ((if0 _ _).trans (tlt (by decide : ((0 : Int32) < (4 : Int32)))).2.2.2) kt
    refine own_step (T' := T148) (f' := (mkF m 126 #[.val (.int i0), .val (.int i1), .val (.int i2), .val (.int i3), .val (.int i4), .val (.int i5), .val (.int (4 : Int32)), .val (.int i7), .val (.int i8), .val (.ref b140), .unset, .unset, .unset] [(.int i8), (.int i0)])) (fun t kt => ?_) ?_
    · show Steps p.tables e below (T148.setTop (mkF m 123 #[.val (.int i0), .val (.int i1), .val (.int i2), .val (.int i3), .val (.int i4), .val (.int i5), .val (.int (4 : Int32)), .val (.int i7), .val (.int i8), .val (.ref b140), .unset, .unset, .unset] [])) _
      refine XS.iloadN X148.here hx rfl (hb hby at_123) rfl ?_
      show Steps p.tables e below (T148.setTop (mkF m 124 #[.val (.int i0), .val (.int i1), .val (.int i2), .val (.int i3), .val (.int i4), .val (.int i5), .val (.int (4 : Int32)), .val (.int i7), .val (.int i8), .val (.ref b140), .unset, .unset, .unset] [(.int i0)])) _
      refine XS.iload X148.here hx rfl (hb hby at_124) rfl ?_
      exact kt
    by_cases hc126_150 : i0 = i8
    · rw [if_pos hc126_150] at hr
      refine own_step (T' := T148) (f' := (mkF m 165 #[.val (.int i0), .val (.int i1), .val (.int i2), .val (.int i3), .val (.int i4), .val (.int i5), .val (.int (4 : Int32)), .val (.int i7), .val (.int i8), .val (.ref b140), .unset, .unset, .unset] [])) (fun t kt => ?_) ?_
      · show Steps p.tables e below (T148.setTop (mkF m 126 #[.val (.int i0), .val (.int i1), .val (.int i2), .val (.int i3), .val (.int i4), .val (.int i5), .val (.int (4 : Int32)), .val (.int i7), .val (.int i8), .val (.ref b140), .unset, .unset, .unset] [(.int i8), (.int i0)])) _
        refine XS.icmpYes X148.here hx rfl (pc0 := 126) (pc' := 165) rfl (hb hby at_126) rfl (teq hc126_150).1 (by decide) (by decide) kt
      refine own_step (T' := T148) (f' := (mkF m 176 #[.val (.int i0), .val (.int i1), .val (.int i2), .val (.int i3), .val (.int i4), .val (.int i5), .val (.int (4 : Int32)), .val (.int i7), .val (.int i8), .val (.ref b140), .val (.int (1 : Int32)), .unset, .unset] [(.int i8), (.ref b140)])) (fun t kt => ?_) ?_
      · show Steps p.tables e below (T148.setTop (mkF m 165 #[.val (.int i0), .val (.int i1), .val (.int i2), .val (.int i3), .val (.int i4), .val (.int i5), .val (.int (4 : Int32)), .val (.int i7), .val (.int i8), .val (.ref b140), .unset, .unset, .unset] [])) _
        refine XS.iconst X148.here hx rfl (hb hby at_165) ?_
        show Steps p.tables e below (T148.setTop (mkF m 166 #[.val (.int i0), .val (.int i1), .val (.int i2), .val (.int i3), .val (.int i4), .val (.int i5), .val (.int (4 : Int32)), .val (.int i7), .val (.int i8), .val (.ref b140), .unset, .unset, .unset] [(.int (1 : Int32))])) _
        refine XS.goto X148.here hx rfl (pc0 := 166) (pc' := 170) rfl (hb hby at_166) (by decide) (by decide) ?_
        show Steps p.tables e below (T148.setTop (mkF m 170 #[.val (.int i0), .val (.int i1), .val (.int i2), .val (.int i3), .val (.int i4), .val (.int i5), .val (.int (4 : Int32)), .val (.int i7), .val (.int i8), .val (.ref b140), .unset, .unset, .unset] [(.int (1 : Int32))])) _
        refine XS.istore X148.here hx rfl (hb hby at_170) rfl (l' := #[.val (.int i0), .val (.int i1), .val (.int i2), .val (.int i3), .val (.int i4), .val (.int i5), .val (.int (4 : Int32)), .val (.int i7), .val (.int i8), .val (.ref b140), .val (.int (1 : Int32)), .unset, .unset]) rfl ?_
        show Steps p.tables e below (T148.setTop (mkF m 172 #[.val (.int i0), .val (.int i1), .val (.int i2), .val (.int i3), .val (.int i4), .val (.int i5), .val (.int (4 : Int32)), .val (.int i7), .val (.int i8), .val (.ref b140), .val (.int (1 : Int32)), .unset, .unset] [])) _
        refine XS.aload X148.here hx rfl (hb hby at_172) rfl rfl ?_
        show Steps p.tables e below (T148.setTop (mkF m 174 #[.val (.int i0), .val (.int i1), .val (.int i2), .val (.int i3), .val (.int i4), .val (.int i5), .val (.int (4 : Int32)), .val (.int i7), .val (.int i8), .val (.ref b140), .val (.int (1 : Int32)), .unset, .unset] [(.ref b140)])) _
        refine XS.iload X148.here hx rfl (hb hby at_174) rfl ?_
        exact kt
      obtain ⟨_, _, ⟨T151, L151, k151, n151⟩, -, X151, ⟨Lc151, hQ151, l151, y151, z151⟩, st151⟩ := Jvm.LawKit.callS X148 hx (y := (⟨"com/example/conceal/conceal/SensitiveHolders", "contains", "([II)Z"⟩ : MethodName)) hown (mvT hZ (hw _ (List.mem_of_getElem? (i := 1) rfl))) (mvT hZ (hw _ (List.mem_of_getElem? (i := 2) rfl))) (mvT hZ (hw _ (List.mem_of_getElem? (i := 3) rfl))) (mvT hZ (hw _ (List.mem_of_getElem? (i := 4) rfl))) (by decide) (backOf (W := 0) (rm1n4 l Z a0 hw [] b140 i8 i0 i1 i2 i3 h148 n0 Ab140_148) hZ (hw _ (List.mem_of_getElem? (i := 4) rfl)) (hw _ (List.mem_of_getElem? (i := 3) rfl)) (by decide) (by decide)) (g := (mkF m 176 #[.val (.int i0), .val (.int i1), .val (.int i2), .val (.int i3), .val (.int i4), .val (.int i5), .val (.int (4 : Int32)), .val (.int i7), .val (.int i8), .val (.ref b140), .val (.int (1 : Int32)), .unset, .unset] [(.int i8), (.ref b140)])) rfl (by rw [hml]; rfl) (argsL := [(.ref b140), (.int i8)]) (rest := []) (lenOf pd1 rfl) rfl (by show 2 * 0 + _ ≤ _; exact Nat.le_of_eq rfl) (hb hby at_176) (fun _ _ => ⟨rfl, e148, (by decide : 1 + 0 ≤ _), (by decide : 4 + 0 ≤ _)⟩)
      dsimp only [Pt.U, Pt.locs, Pt.cells, Pt.slots] at X151 l151 y151 z151 st151 hQ151
      subst l151 y151 z151
      obtain ⟨rfl, Nq151, e151⟩ := hQ151
      have N151 := Fr.app N148 Nq151
      refine own_step (T' := T151) (f' := (mkF m 179 #[.val (.int i0), .val (.int i1), .val (.int i2), .val (.int i3), .val (.int i4), .val (.int i5), .val (.int (4 : Int32)), .val (.int i7), .val (.int i8), .val (.ref b140), .val (.int (1 : Int32)), .unset, .unset] [(.int (f1n4_0 i8 i0 i1 i2 i3))])) st151 ?_
      refine own_step (T' := T151) (f' := (mkF m 183 #[.val (.int i0), .val (.int i1), .val (.int i2), .val (.int i3), .val (.int i4), .val (.int i5), .val (.int (4 : Int32)), .val (.int i7), .val (.int i8), .val (.ref b140), .val (.int (1 : Int32)), .val (.int (f1n4_0 i8 i0 i1 i2 i3)), .unset] [(.int (4 : Int32))])) (fun t kt => ?_) ?_
      · show Steps p.tables e below (T151.setTop (mkF m 179 #[.val (.int i0), .val (.int i1), .val (.int i2), .val (.int i3), .val (.int i4), .val (.int i5), .val (.int (4 : Int32)), .val (.int i7), .val (.int i8), .val (.ref b140), .val (.int (1 : Int32)), .unset, .unset] [(.int (f1n4_0 i8 i0 i1 i2 i3))])) _
        refine XS.istore X151.here hx rfl (hb hby at_179) rfl (l' := #[.val (.int i0), .val (.int i1), .val (.int i2), .val (.int i3), .val (.int i4), .val (.int i5), .val (.int (4 : Int32)), .val (.int i7), .val (.int i8), .val (.ref b140), .val (.int (1 : Int32)), .val (.int (f1n4_0 i8 i0 i1 i2 i3)), .unset]) rfl ?_
        show Steps p.tables e below (T151.setTop (mkF m 181 #[.val (.int i0), .val (.int i1), .val (.int i2), .val (.int i3), .val (.int i4), .val (.int i5), .val (.int (4 : Int32)), .val (.int i7), .val (.int i8), .val (.ref b140), .val (.int (1 : Int32)), .val (.int (f1n4_0 i8 i0 i1 i2 i3)), .unset] [])) _
        refine XS.iload X151.here hx rfl (hb hby at_181) rfl ?_
        exact kt
      refine own_step (T' := T151) (f' := (mkF m 186 #[.val (.int i0), .val (.int i1), .val (.int i2), .val (.int i3), .val (.int i4), .val (.int i5), .val (.int (4 : Int32)), .val (.int i7), .val (.int i8), .val (.ref b140), .val (.int (1 : Int32)), .val (.int (f1n4_0 i8 i0 i1 i2 i3)), .unset] [])) (fun t kt => ?_) ?_
      · show Steps p.tables e below (T151.setTop (mkF m 183 #[.val (.int i0), .val (.int i1), .val (.int i2), .val (.int i3), .val (.int i4), .val (.int i5), .val (.int (4 : Int32)), .val (.int i7), .val (.int i8), .val (.ref b140), .val (.int (1 : Int32)), .val (.int (f1n4_0 i8 i0 i1 i2 i3)), .unset] [(.int (4 : Int32))])) _
        refine XS.ifNo X151.here hx rfl (hb hby at_183) rfl ((if0 _ _).trans (tlt (by decide : ((0 : Int32) < (4 : Int32)))).2.2.2) kt
      refine own_step (T' := T151) (f' := (mkF m 191 #[.val (.int i0), .val (.int i1), .val (.int i2), .val (.int i3), .val (.int i4), .val (.int i5), .val (.int (4 : Int32)), .val (.int i7), .val (.int i8), .val (.ref b140), .val (.int (1 : Int32)), .val (.int (f1n4_0 i8 i0 i1 i2 i3)), .unset] [(.int i0), (.int i0)])) (fun t kt => ?_) ?_
      · show Steps p.tables e below (T151.setTop (mkF m 186 #[.val (.int i0), .val (.int i1), .val (.int i2), .val (.int i3), .val (.int i4), .val (.int i5), .val (.int (4 : Int32)), .val (.int i7), .val (.int i8), .val (.ref b140), .val (.int (1 : Int32)), .val (.int (f1n4_0 i8 i0 i1 i2 i3)), .unset] [])) _
        refine XS.aload X151.here hx rfl (hb hby at_186) rfl rfl ?_
        show Steps p.tables e below (T151.setTop (mkF m 188 #[.val (.int i0), .val (.int i1), .val (.int i2), .val (.int i3), .val (.int i4), .val (.int i5), .val (.int (4 : Int32)), .val (.int i7), .val (.int i8), .val (.ref b140), .val (.int (1 : Int32)), .val (.int (f1n4_0 i8 i0 i1 i2 i3)), .unset] [(.ref b140)])) _
        refine XS.iconst X151.here hx rfl (hb hby at_188) ?_
        show Steps p.tables e below (T151.setTop (mkF m 189 #[.val (.int i0), .val (.int i1), .val (.int i2), .val (.int i3), .val (.int i4), .val (.int i5), .val (.int (4 : Int32)), .val (.int i7), .val (.int i8), .val (.ref b140), .val (.int (1 : Int32)), .val (.int (f1n4_0 i8 i0 i1 i2 i3)), .unset] [(.int (0 : Int32)), (.ref b140)])) _
        refine own_ldI X151 hx hZ e151 Ab140_148 (j := (0 : Int32)) (by decide) (k := 0) (by decide) (v := (.int i0)) rfl (g := (mkF m 189 #[.val (.int i0), .val (.int i1), .val (.int i2), .val (.int i3), .val (.int i4), .val (.int i5), .val (.int (4 : Int32)), .val (.int i7), .val (.int i8), .val (.ref b140), .val (.int (1 : Int32)), .val (.int (f1n4_0 i8 i0 i1 i2 i3)), .unset] [(.int (0 : Int32)), (.ref b140)])) rfl rfl (hb hby at_189) _ ?_
        show Steps p.tables e below (T151.setTop (mkF m 190 #[.val (.int i0), .val (.int i1), .val (.int i2), .val (.int i3), .val (.int i4), .val (.int i5), .val (.int (4 : Int32)), .val (.int i7), .val (.int i8), .val (.ref b140), .val (.int (1 : Int32)), .val (.int (f1n4_0 i8 i0 i1 i2 i3)), .unset] [(.int i0)])) _
        refine XS.iloadN X151.here hx rfl (hb hby at_190) rfl ?_
        exact kt
      refine own_step (T' := T151) (f' := (mkF m 194 #[.val (.int i0), .val (.int i1), .val (.int i2), .val (.int i3), .val (.int i4), .val (.int i5), .val (.int (4 : Int32)), .val (.int i7), .val (.int i8), .val (.ref b140), .val (.int (1 : Int32)), .val (.int (f1n4_0 i8 i0 i1 i2 i3)), .unset] [])) (fun t kt => ?_) ?_
      · show Steps p.tables e below (T151.setTop (mkF m 191 #[.val (.int i0), .val (.int i1), .val (.int i2), .val (.int i3), .val (.int i4), .val (.int i5), .val (.int (4 : Int32)), .val (.int i7), .val (.int i8), .val (.ref b140), .val (.int (1 : Int32)), .val (.int (f1n4_0 i8 i0 i1 i2 i3)), .unset] [(.int i0), (.int i0)])) _
        refine XS.icmpNo X151.here hx rfl (hb hby at_191) rfl (teq (rfl : i0 = i0)).2 kt
      refine own_step (T' := T151) (f' := (mkF m 197 #[.val (.int i0), .val (.int i1), .val (.int i2), .val (.int i3), .val (.int i4), .val (.int i5), .val (.int (4 : Int32)), .val (.int i7), .val (.int i8), .val (.ref b140), .val (.int (1 : Int32)), .val (.int (f1n4_0 i8 i0 i1 i2 i3)), .unset] [(.int (1 : Int32)), (.int (4 : Int32))])) (fun t kt => ?_) ?_
      · show Steps p.tables e below (T151.setTop (mkF m 194 #[.val (.int i0), .val (.int i1), .val (.int i2), .val (.int i3), .val (.int i4), .val (.int i5), .val (.int (4 : Int32)), .val (.int i7), .val (.int i8), .val (.ref b140), .val (.int (1 : Int32)), .val (.int (f1n4_0 i8 i0 i1 i2 i3)), .unset] [])) _
        refine XS.iload X151.here hx rfl (hb hby at_194) rfl ?_
        show Steps p.tables e below (T151.setTop (mkF m 196 #[.val (.int i0), .val (.int i1), .val (.int i2), .val (.int i3), .val (.int i4), .val (.int i5), .val (.int (4 : Int32)), .val (.int i7), .val (.int i8), .val (.ref b140), .val (.int (1 : Int32)), .val (.int (f1n4_0 i8 i0 i1 i2 i3)), .unset] [(.int (4 : Int32))])) _
        refine XS.iconst X151.here hx rfl (hb hby at_196) ?_
        exact kt
      refine own_step (T' := T151) (f' := (mkF m 200 #[.val (.int i0), .val (.int i1), .val (.int i2), .val (.int i3), .val (.int i4), .val (.int i5), .val (.int (4 : Int32)), .val (.int i7), .val (.int i8), .val (.ref b140), .val (.int (1 : Int32)), .val (.int (f1n4_0 i8 i0 i1 i2 i3)), .unset] [])) (fun t kt => ?_) ?_
      · show Steps p.tables e below (T151.setTop (mkF m 197 #[.val (.int i0), .val (.int i1), .val (.int i2), .val (.int i3), .val (.int i4), .val (.int i5), .val (.int (4 : Int32)), .val (.int i7), .val (.int i8), .val (.ref b140), .val (.int (1 : Int32)), .val (.int (f1n4_0 i8 i0 i1 i2 i3)), .unset] [(.int (1 : Int32)), (.int (4 : Int32))])) _
        refine XS.icmpNo X151.here hx rfl (hb hby at_197) rfl (tlt (by decide : ((1 : Int32) < (4 : Int32)))).2.2.2 kt
      refine own_step (T' := T151) (f' := (mkF m 205 #[.val (.int i0), .val (.int i1), .val (.int i2), .val (.int i3), .val (.int i4), .val (.int i5), .val (.int (4 : Int32)), .val (.int i7), .val (.int i8), .val (.ref b140), .val (.int (1 : Int32)), .val (.int (f1n4_0 i8 i0 i1 i2 i3)), .unset] [(.int i1), (.int i1)])) (fun t kt => ?_) ?_
      · show Steps p.tables e below (T151.setTop (mkF m 200 #[.val (.int i0), .val (.int i1), .val (.int i2), .val (.int i3), .val (.int i4), .val (.int i5), .val (.int (4 : Int32)), .val (.int i7), .val (.int i8), .val (.ref b140), .val (.int (1 : Int32)), .val (.int (f1n4_0 i8 i0 i1 i2 i3)), .unset] [])) _
        refine XS.aload X151.here hx rfl (hb hby at_200) rfl rfl ?_
        show Steps p.tables e below (T151.setTop (mkF m 202 #[.val (.int i0), .val (.int i1), .val (.int i2), .val (.int i3), .val (.int i4), .val (.int i5), .val (.int (4 : Int32)), .val (.int i7), .val (.int i8), .val (.ref b140), .val (.int (1 : Int32)), .val (.int (f1n4_0 i8 i0 i1 i2 i3)), .unset] [(.ref b140)])) _
        refine XS.iconst X151.here hx rfl (hb hby at_202) ?_
        show Steps p.tables e below (T151.setTop (mkF m 203 #[.val (.int i0), .val (.int i1), .val (.int i2), .val (.int i3), .val (.int i4), .val (.int i5), .val (.int (4 : Int32)), .val (.int i7), .val (.int i8), .val (.ref b140), .val (.int (1 : Int32)), .val (.int (f1n4_0 i8 i0 i1 i2 i3)), .unset] [(.int (1 : Int32)), (.ref b140)])) _
        refine own_ldI X151 hx hZ e151 Ab140_148 (j := (1 : Int32)) (by decide) (k := 1) (by decide) (v := (.int i1)) rfl (g := (mkF m 203 #[.val (.int i0), .val (.int i1), .val (.int i2), .val (.int i3), .val (.int i4), .val (.int i5), .val (.int (4 : Int32)), .val (.int i7), .val (.int i8), .val (.ref b140), .val (.int (1 : Int32)), .val (.int (f1n4_0 i8 i0 i1 i2 i3)), .unset] [(.int (1 : Int32)), (.ref b140)])) rfl rfl (hb hby at_203) _ ?_
        show Steps p.tables e below (T151.setTop (mkF m 204 #[.val (.int i0), .val (.int i1), .val (.int i2), .val (.int i3), .val (.int i4), .val (.int i5), .val (.int (4 : Int32)), .val (.int i7), .val (.int i8), .val (.ref b140), .val (.int (1 : Int32)), .val (.int (f1n4_0 i8 i0 i1 i2 i3)), .unset] [(.int i1)])) _
        refine XS.iloadN X151.here hx rfl (hb hby at_204) rfl ?_
        exact kt
      refine own_step (T' := T151) (f' := (mkF m 208 #[.val (.int i0), .val (.int i1), .val (.int i2), .val (.int i3), .val (.int i4), .val (.int i5), .val (.int (4 : Int32)), .val (.int i7), .val (.int i8), .val (.ref b140), .val (.int (1 : Int32)), .val (.int (f1n4_0 i8 i0 i1 i2 i3)), .unset] [])) (fun t kt => ?_) ?_
      · show Steps p.tables e below (T151.setTop (mkF m 205 #[.val (.int i0), .val (.int i1), .val (.int i2), .val (.int i3), .val (.int i4), .val (.int i5), .val (.int (4 : Int32)), .val (.int i7), .val (.int i8), .val (.ref b140), .val (.int (1 : Int32)), .val (.int (f1n4_0 i8 i0 i1 i2 i3)), .unset] [(.int i1), (.int i1)])) _
        refine XS.icmpNo X151.here hx rfl (hb hby at_205) rfl (teq (rfl : i1 = i1)).2 kt
      refine own_step (T' := T151) (f' := (mkF m 211 #[.val (.int i0), .val (.int i1), .val (.int i2), .val (.int i3), .val (.int i4), .val (.int i5), .val (.int (4 : Int32)), .val (.int i7), .val (.int i8), .val (.ref b140), .val (.int (1 : Int32)), .val (.int (f1n4_0 i8 i0 i1 i2 i3)), .unset] [(.int (2 : Int32)), (.int (4 : Int32))])) (fun t kt => ?_) ?_
      · show Steps p.tables e below (T151.setTop (mkF m 208 #[.val (.int i0), .val (.int i1), .val (.int i2), .val (.int i3), .val (.int i4), .val (.int i5), .val (.int (4 : Int32)), .val (.int i7), .val (.int i8), .val (.ref b140), .val (.int (1 : Int32)), .val (.int (f1n4_0 i8 i0 i1 i2 i3)), .unset] [])) _
        refine XS.iload X151.here hx rfl (hb hby at_208) rfl ?_
        show Steps p.tables e below (T151.setTop (mkF m 210 #[.val (.int i0), .val (.int i1), .val (.int i2), .val (.int i3), .val (.int i4), .val (.int i5), .val (.int (4 : Int32)), .val (.int i7), .val (.int i8), .val (.ref b140), .val (.int (1 : Int32)), .val (.int (f1n4_0 i8 i0 i1 i2 i3)), .unset] [(.int (4 : Int32))])) _
        refine XS.iconst X151.here hx rfl (hb hby at_210) ?_
        exact kt
      refine own_step (T' := T151) (f' := (mkF m 214 #[.val (.int i0), .val (.int i1), .val (.int i2), .val (.int i3), .val (.int i4), .val (.int i5), .val (.int (4 : Int32)), .val (.int i7), .val (.int i8), .val (.ref b140), .val (.int (1 : Int32)), .val (.int (f1n4_0 i8 i0 i1 i2 i3)), .unset] [])) (fun t kt => ?_) ?_
      · show Steps p.tables e below (T151.setTop (mkF m 211 #[.val (.int i0), .val (.int i1), .val (.int i2), .val (.int i3), .val (.int i4), .val (.int i5), .val (.int (4 : Int32)), .val (.int i7), .val (.int i8), .val (.ref b140), .val (.int (1 : Int32)), .val (.int (f1n4_0 i8 i0 i1 i2 i3)), .unset] [(.int (2 : Int32)), (.int (4 : Int32))])) _
        refine XS.icmpNo X151.here hx rfl (hb hby at_211) rfl (tlt (by decide : ((2 : Int32) < (4 : Int32)))).2.2.2 kt
      refine own_step (T' := T151) (f' := (mkF m 219 #[.val (.int i0), .val (.int i1), .val (.int i2), .val (.int i3), .val (.int i4), .val (.int i5), .val (.int (4 : Int32)), .val (.int i7), .val (.int i8), .val (.ref b140), .val (.int (1 : Int32)), .val (.int (f1n4_0 i8 i0 i1 i2 i3)), .unset] [(.int i2), (.int i2)])) (fun t kt => ?_) ?_
      · show Steps p.tables e below (T151.setTop (mkF m 214 #[.val (.int i0), .val (.int i1), .val (.int i2), .val (.int i3), .val (.int i4), .val (.int i5), .val (.int (4 : Int32)), .val (.int i7), .val (.int i8), .val (.ref b140), .val (.int (1 : Int32)), .val (.int (f1n4_0 i8 i0 i1 i2 i3)), .unset] [])) _
        refine XS.aload X151.here hx rfl (hb hby at_214) rfl rfl ?_
        show Steps p.tables e below (T151.setTop (mkF m 216 #[.val (.int i0), .val (.int i1), .val (.int i2), .val (.int i3), .val (.int i4), .val (.int i5), .val (.int (4 : Int32)), .val (.int i7), .val (.int i8), .val (.ref b140), .val (.int (1 : Int32)), .val (.int (f1n4_0 i8 i0 i1 i2 i3)), .unset] [(.ref b140)])) _
        refine XS.iconst X151.here hx rfl (hb hby at_216) ?_
        show Steps p.tables e below (T151.setTop (mkF m 217 #[.val (.int i0), .val (.int i1), .val (.int i2), .val (.int i3), .val (.int i4), .val (.int i5), .val (.int (4 : Int32)), .val (.int i7), .val (.int i8), .val (.ref b140), .val (.int (1 : Int32)), .val (.int (f1n4_0 i8 i0 i1 i2 i3)), .unset] [(.int (2 : Int32)), (.ref b140)])) _
        refine own_ldI X151 hx hZ e151 Ab140_148 (j := (2 : Int32)) (by decide) (k := 2) (by decide) (v := (.int i2)) rfl (g := (mkF m 217 #[.val (.int i0), .val (.int i1), .val (.int i2), .val (.int i3), .val (.int i4), .val (.int i5), .val (.int (4 : Int32)), .val (.int i7), .val (.int i8), .val (.ref b140), .val (.int (1 : Int32)), .val (.int (f1n4_0 i8 i0 i1 i2 i3)), .unset] [(.int (2 : Int32)), (.ref b140)])) rfl rfl (hb hby at_217) _ ?_
        show Steps p.tables e below (T151.setTop (mkF m 218 #[.val (.int i0), .val (.int i1), .val (.int i2), .val (.int i3), .val (.int i4), .val (.int i5), .val (.int (4 : Int32)), .val (.int i7), .val (.int i8), .val (.ref b140), .val (.int (1 : Int32)), .val (.int (f1n4_0 i8 i0 i1 i2 i3)), .unset] [(.int i2)])) _
        refine XS.iloadN X151.here hx rfl (hb hby at_218) rfl ?_
        exact kt
      refine own_step (T' := T151) (f' := (mkF m 222 #[.val (.int i0), .val (.int i1), .val (.int i2), .val (.int i3), .val (.int i4), .val (.int i5), .val (.int (4 : Int32)), .val (.int i7), .val (.int i8), .val (.ref b140), .val (.int (1 : Int32)), .val (.int (f1n4_0 i8 i0 i1 i2 i3)), .unset] [])) (fun t kt => ?_) ?_
      · show Steps p.tables e below (T151.setTop (mkF m 219 #[.val (.int i0), .val (.int i1), .val (.int i2), .val (.int i3), .val (.int i4), .val (.int i5), .val (.int (4 : Int32)), .val (.int i7), .val (.int i8), .val (.ref b140), .val (.int (1 : Int32)), .val (.int (f1n4_0 i8 i0 i1 i2 i3)), .unset] [(.int i2), (.int i2)])) _
        refine XS.icmpNo X151.here hx rfl (hb hby at_219) rfl (teq (rfl : i2 = i2)).2 kt
      refine own_step (T' := T151) (f' := (mkF m 225 #[.val (.int i0), .val (.int i1), .val (.int i2), .val (.int i3), .val (.int i4), .val (.int i5), .val (.int (4 : Int32)), .val (.int i7), .val (.int i8), .val (.ref b140), .val (.int (1 : Int32)), .val (.int (f1n4_0 i8 i0 i1 i2 i3)), .unset] [(.int (3 : Int32)), (.int (4 : Int32))])) (fun t kt => ?_) ?_
      · show Steps p.tables e below (T151.setTop (mkF m 222 #[.val (.int i0), .val (.int i1), .val (.int i2), .val (.int i3), .val (.int i4), .val (.int i5), .val (.int (4 : Int32)), .val (.int i7), .val (.int i8), .val (.ref b140), .val (.int (1 : Int32)), .val (.int (f1n4_0 i8 i0 i1 i2 i3)), .unset] [])) _
        refine XS.iload X151.here hx rfl (hb hby at_222) rfl ?_
        show Steps p.tables e below (T151.setTop (mkF m 224 #[.val (.int i0), .val (.int i1), .val (.int i2), .val (.int i3), .val (.int i4), .val (.int i5), .val (.int (4 : Int32)), .val (.int i7), .val (.int i8), .val (.ref b140), .val (.int (1 : Int32)), .val (.int (f1n4_0 i8 i0 i1 i2 i3)), .unset] [(.int (4 : Int32))])) _
        refine XS.iconst X151.here hx rfl (hb hby at_224) ?_
        exact kt
      refine own_step (T' := T151) (f' := (mkF m 228 #[.val (.int i0), .val (.int i1), .val (.int i2), .val (.int i3), .val (.int i4), .val (.int i5), .val (.int (4 : Int32)), .val (.int i7), .val (.int i8), .val (.ref b140), .val (.int (1 : Int32)), .val (.int (f1n4_0 i8 i0 i1 i2 i3)), .unset] [])) (fun t kt => ?_) ?_
      · show Steps p.tables e below (T151.setTop (mkF m 225 #[.val (.int i0), .val (.int i1), .val (.int i2), .val (.int i3), .val (.int i4), .val (.int i5), .val (.int (4 : Int32)), .val (.int i7), .val (.int i8), .val (.ref b140), .val (.int (1 : Int32)), .val (.int (f1n4_0 i8 i0 i1 i2 i3)), .unset] [(.int (3 : Int32)), (.int (4 : Int32))])) _
        refine XS.icmpNo X151.here hx rfl (hb hby at_225) rfl (tlt (by decide : ((3 : Int32) < (4 : Int32)))).2.2.2 kt
      refine own_step (T' := T151) (f' := (mkF m 233 #[.val (.int i0), .val (.int i1), .val (.int i2), .val (.int i3), .val (.int i4), .val (.int i5), .val (.int (4 : Int32)), .val (.int i7), .val (.int i8), .val (.ref b140), .val (.int (1 : Int32)), .val (.int (f1n4_0 i8 i0 i1 i2 i3)), .unset] [(.int i3), (.int i3)])) (fun t kt => ?_) ?_
      · show Steps p.tables e below (T151.setTop (mkF m 228 #[.val (.int i0), .val (.int i1), .val (.int i2), .val (.int i3), .val (.int i4), .val (.int i5), .val (.int (4 : Int32)), .val (.int i7), .val (.int i8), .val (.ref b140), .val (.int (1 : Int32)), .val (.int (f1n4_0 i8 i0 i1 i2 i3)), .unset] [])) _
        refine XS.aload X151.here hx rfl (hb hby at_228) rfl rfl ?_
        show Steps p.tables e below (T151.setTop (mkF m 230 #[.val (.int i0), .val (.int i1), .val (.int i2), .val (.int i3), .val (.int i4), .val (.int i5), .val (.int (4 : Int32)), .val (.int i7), .val (.int i8), .val (.ref b140), .val (.int (1 : Int32)), .val (.int (f1n4_0 i8 i0 i1 i2 i3)), .unset] [(.ref b140)])) _
        refine XS.iconst X151.here hx rfl (hb hby at_230) ?_
        show Steps p.tables e below (T151.setTop (mkF m 231 #[.val (.int i0), .val (.int i1), .val (.int i2), .val (.int i3), .val (.int i4), .val (.int i5), .val (.int (4 : Int32)), .val (.int i7), .val (.int i8), .val (.ref b140), .val (.int (1 : Int32)), .val (.int (f1n4_0 i8 i0 i1 i2 i3)), .unset] [(.int (3 : Int32)), (.ref b140)])) _
        refine own_ldI X151 hx hZ e151 Ab140_148 (j := (3 : Int32)) (by decide) (k := 3) (by decide) (v := (.int i3)) rfl (g := (mkF m 231 #[.val (.int i0), .val (.int i1), .val (.int i2), .val (.int i3), .val (.int i4), .val (.int i5), .val (.int (4 : Int32)), .val (.int i7), .val (.int i8), .val (.ref b140), .val (.int (1 : Int32)), .val (.int (f1n4_0 i8 i0 i1 i2 i3)), .unset] [(.int (3 : Int32)), (.ref b140)])) rfl rfl (hb hby at_231) _ ?_
        show Steps p.tables e below (T151.setTop (mkF m 232 #[.val (.int i0), .val (.int i1), .val (.int i2), .val (.int i3), .val (.int i4), .val (.int i5), .val (.int (4 : Int32)), .val (.int i7), .val (.int i8), .val (.ref b140), .val (.int (1 : Int32)), .val (.int (f1n4_0 i8 i0 i1 i2 i3)), .unset] [(.int i3)])) _
        refine XS.iloadN X151.here hx rfl (hb hby at_232) rfl ?_
        exact kt
      refine own_step (T' := T151) (f' := (mkF m 236 #[.val (.int i0), .val (.int i1), .val (.int i2), .val (.int i3), .val (.int i4), .val (.int i5), .val (.int (4 : Int32)), .val (.int i7), .val (.int i8), .val (.ref b140), .val (.int (1 : Int32)), .val (.int (f1n4_0 i8 i0 i1 i2 i3)), .unset] [])) (fun t kt => ?_) ?_
      · show Steps p.tables e below (T151.setTop (mkF m 233 #[.val (.int i0), .val (.int i1), .val (.int i2), .val (.int i3), .val (.int i4), .val (.int i5), .val (.int (4 : Int32)), .val (.int i7), .val (.int i8), .val (.ref b140), .val (.int (1 : Int32)), .val (.int (f1n4_0 i8 i0 i1 i2 i3)), .unset] [(.int i3), (.int i3)])) _
        refine XS.icmpNo X151.here hx rfl (hb hby at_233) rfl (teq (rfl : i3 = i3)).2 kt
      refine own_step (T' := T151) (f' := (mkF m 247 #[.val (.int i0), .val (.int i1), .val (.int i2), .val (.int i3), .val (.int i4), .val (.int i5), .val (.int (4 : Int32)), .val (.int i7), .val (.int i8), .val (.ref b140), .val (.int (1 : Int32)), .val (.int (f1n4_0 i8 i0 i1 i2 i3)), .val (.int (1 : Int32))] [(.int (1 : Int32)), (.int (f1n4_0 i8 i0 i1 i2 i3))])) (fun t kt => ?_) ?_
      · show Steps p.tables e below (T151.setTop (mkF m 236 #[.val (.int i0), .val (.int i1), .val (.int i2), .val (.int i3), .val (.int i4), .val (.int i5), .val (.int (4 : Int32)), .val (.int i7), .val (.int i8), .val (.ref b140), .val (.int (1 : Int32)), .val (.int (f1n4_0 i8 i0 i1 i2 i3)), .unset] [])) _
        refine XS.iconst X151.here hx rfl (hb hby at_236) ?_
        show Steps p.tables e below (T151.setTop (mkF m 237 #[.val (.int i0), .val (.int i1), .val (.int i2), .val (.int i3), .val (.int i4), .val (.int i5), .val (.int (4 : Int32)), .val (.int i7), .val (.int i8), .val (.ref b140), .val (.int (1 : Int32)), .val (.int (f1n4_0 i8 i0 i1 i2 i3)), .unset] [(.int (1 : Int32))])) _
        refine XS.goto X151.here hx rfl (pc0 := 237) (pc' := 241) rfl (hb hby at_237) (by decide) (by decide) ?_
        show Steps p.tables e below (T151.setTop (mkF m 241 #[.val (.int i0), .val (.int i1), .val (.int i2), .val (.int i3), .val (.int i4), .val (.int i5), .val (.int (4 : Int32)), .val (.int i7), .val (.int i8), .val (.ref b140), .val (.int (1 : Int32)), .val (.int (f1n4_0 i8 i0 i1 i2 i3)), .unset] [(.int (1 : Int32))])) _
        refine XS.istore X151.here hx rfl (hb hby at_241) rfl (l' := #[.val (.int i0), .val (.int i1), .val (.int i2), .val (.int i3), .val (.int i4), .val (.int i5), .val (.int (4 : Int32)), .val (.int i7), .val (.int i8), .val (.ref b140), .val (.int (1 : Int32)), .val (.int (f1n4_0 i8 i0 i1 i2 i3)), .val (.int (1 : Int32))]) rfl ?_
        show Steps p.tables e below (T151.setTop (mkF m 243 #[.val (.int i0), .val (.int i1), .val (.int i2), .val (.int i3), .val (.int i4), .val (.int i5), .val (.int (4 : Int32)), .val (.int i7), .val (.int i8), .val (.ref b140), .val (.int (1 : Int32)), .val (.int (f1n4_0 i8 i0 i1 i2 i3)), .val (.int (1 : Int32))] [])) _
        refine XS.iload X151.here hx rfl (hb hby at_243) rfl ?_
        show Steps p.tables e below (T151.setTop (mkF m 245 #[.val (.int i0), .val (.int i1), .val (.int i2), .val (.int i3), .val (.int i4), .val (.int i5), .val (.int (4 : Int32)), .val (.int i7), .val (.int i8), .val (.ref b140), .val (.int (1 : Int32)), .val (.int (f1n4_0 i8 i0 i1 i2 i3)), .val (.int (1 : Int32))] [(.int (f1n4_0 i8 i0 i1 i2 i3))])) _
        refine XS.iload X151.here hx rfl (hb hby at_245) rfl ?_
        exact kt
      by_cases hc247_160 : (f1n4_0 i8 i0 i1 i2 i3) = (1 : Int32)
      · rw [if_pos hc247_160] at hr
        refine own_step (T' := T151) (f' := (mkF m 250 #[.val (.int i0), .val (.int i1), .val (.int i2), .val (.int i3), .val (.int i4), .val (.int i5), .val (.int (4 : Int32)), .val (.int i7), .val (.int i8), .val (.ref b140), .val (.int (1 : Int32)), .val (.int (f1n4_0 i8 i0 i1 i2 i3)), .val (.int (1 : Int32))] [])) (fun t kt => ?_) ?_
        · show Steps p.tables e below (T151.setTop (mkF m 247 #[.val (.int i0), .val (.int i1), .val (.int i2), .val (.int i3), .val (.int i4), .val (.int i5), .val (.int (4 : Int32)), .val (.int i7), .val (.int i8), .val (.ref b140), .val (.int (1 : Int32)), .val (.int (f1n4_0 i8 i0 i1 i2 i3)), .val (.int (1 : Int32))] [(.int (1 : Int32)), (.int (f1n4_0 i8 i0 i1 i2 i3))])) _
          refine XS.icmpNo X151.here hx rfl (hb hby at_247) rfl (teq hc247_160).2 kt
        refine own_step (T' := T151) (f' := (mkF m 252 #[.val (.int i0), .val (.int i1), .val (.int i2), .val (.int i3), .val (.int i4), .val (.int i5), .val (.int (4 : Int32)), .val (.int i7), .val (.int i8), .val (.ref b140), .val (.int (1 : Int32)), .val (.int (f1n4_0 i8 i0 i1 i2 i3)), .val (.int (1 : Int32))] [(.int (1 : Int32))])) (fun t kt => ?_) ?_
        · show Steps p.tables e below (T151.setTop (mkF m 250 #[.val (.int i0), .val (.int i1), .val (.int i2), .val (.int i3), .val (.int i4), .val (.int i5), .val (.int (4 : Int32)), .val (.int i7), .val (.int i8), .val (.ref b140), .val (.int (1 : Int32)), .val (.int (f1n4_0 i8 i0 i1 i2 i3)), .val (.int (1 : Int32))] [])) _
          refine XS.iload X151.here hx rfl (hb hby at_250) rfl ?_
          exact kt
        refine own_step (T' := T151) (f' := (mkF m 255 #[.val (.int i0), .val (.int i1), .val (.int i2), .val (.int i3), .val (.int i4), .val (.int i5), .val (.int (4 : Int32)), .val (.int i7), .val (.int i8), .val (.ref b140), .val (.int (1 : Int32)), .val (.int (f1n4_0 i8 i0 i1 i2 i3)), .val (.int (1 : Int32))] [])) (fun t kt => ?_) ?_
        · show Steps p.tables e below (T151.setTop (mkF m 252 #[.val (.int i0), .val (.int i1), .val (.int i2), .val (.int i3), .val (.int i4), .val (.int i5), .val (.int (4 : Int32)), .val (.int i7), .val (.int i8), .val (.ref b140), .val (.int (1 : Int32)), .val (.int (f1n4_0 i8 i0 i1 i2 i3)), .val (.int (1 : Int32))] [(.int (1 : Int32))])) _
          refine XS.ifNo X151.here hx rfl (hb hby at_252) rfl ((if0 _ _).trans (feq (by decide : ¬ ((1 : Int32) = (0 : Int32)))).1) kt
        refine own_step (T' := T151) (f' := (mkF m 260 #[.val (.int i0), .val (.int i1), .val (.int i2), .val (.int i3), .val (.int i4), .val (.int i5), .val (.int (4 : Int32)), .val (.int i7), .val (.int i8), .val (.ref b140), .val (.int (1 : Int32)), .val (.int (f1n4_0 i8 i0 i1 i2 i3)), .val (.int (1 : Int32))] [(.int (1 : Int32))])) (fun t kt => ?_) ?_
        · show Steps p.tables e below (T151.setTop (mkF m 255 #[.val (.int i0), .val (.int i1), .val (.int i2), .val (.int i3), .val (.int i4), .val (.int i5), .val (.int (4 : Int32)), .val (.int i7), .val (.int i8), .val (.ref b140), .val (.int (1 : Int32)), .val (.int (f1n4_0 i8 i0 i1 i2 i3)), .val (.int (1 : Int32))] [])) _
          refine XS.iconst X151.here hx rfl (hb hby at_255) ?_
          show Steps p.tables e below (T151.setTop (mkF m 256 #[.val (.int i0), .val (.int i1), .val (.int i2), .val (.int i3), .val (.int i4), .val (.int i5), .val (.int (4 : Int32)), .val (.int i7), .val (.int i8), .val (.ref b140), .val (.int (1 : Int32)), .val (.int (f1n4_0 i8 i0 i1 i2 i3)), .val (.int (1 : Int32))] [(.int (1 : Int32))])) _
          refine XS.goto X151.here hx rfl (pc0 := 256) (pc' := 260) rfl (hb hby at_256) (by decide) (by decide) ?_
          exact kt
        exact own_retZ X151 hx hret (by simp) hlk (hb hby at_260) (by decide) (by decide) ⟨congrArg (fun z => some (Value.int z)) hr.symm, N151⟩
      · rw [if_neg hc247_160] at hr
        refine own_step (T' := T151) (f' := (mkF m 259 #[.val (.int i0), .val (.int i1), .val (.int i2), .val (.int i3), .val (.int i4), .val (.int i5), .val (.int (4 : Int32)), .val (.int i7), .val (.int i8), .val (.ref b140), .val (.int (1 : Int32)), .val (.int (f1n4_0 i8 i0 i1 i2 i3)), .val (.int (1 : Int32))] [])) (fun t kt => ?_) ?_
        · show Steps p.tables e below (T151.setTop (mkF m 247 #[.val (.int i0), .val (.int i1), .val (.int i2), .val (.int i3), .val (.int i4), .val (.int i5), .val (.int (4 : Int32)), .val (.int i7), .val (.int i8), .val (.ref b140), .val (.int (1 : Int32)), .val (.int (f1n4_0 i8 i0 i1 i2 i3)), .val (.int (1 : Int32))] [(.int (1 : Int32)), (.int (f1n4_0 i8 i0 i1 i2 i3))])) _
          refine XS.icmpYes X151.here hx rfl (pc0 := 247) (pc' := 259) rfl (hb hby at_247) rfl (feq hc247_160).2 (by decide) (by decide) kt
        refine own_step (T' := T151) (f' := (mkF m 260 #[.val (.int i0), .val (.int i1), .val (.int i2), .val (.int i3), .val (.int i4), .val (.int i5), .val (.int (4 : Int32)), .val (.int i7), .val (.int i8), .val (.ref b140), .val (.int (1 : Int32)), .val (.int (f1n4_0 i8 i0 i1 i2 i3)), .val (.int (1 : Int32))] [(.int (0 : Int32))])) (fun t kt => ?_) ?_
        · show Steps p.tables e below (T151.setTop (mkF m 259 #[.val (.int i0), .val (.int i1), .val (.int i2), .val (.int i3), .val (.int i4), .val (.int i5), .val (.int (4 : Int32)), .val (.int i7), .val (.int i8), .val (.ref b140), .val (.int (1 : Int32)), .val (.int (f1n4_0 i8 i0 i1 i2 i3)), .val (.int (1 : Int32))] [])) _
          refine XS.iconst X151.here hx rfl (hb hby at_259) ?_
          exact kt
        exact own_retZ X151 hx hret (by simp) hlk (hb hby at_260) (by decide) (by decide) ⟨congrArg (fun z => some (Value.int z)) hr.symm, N151⟩
    · rw [if_neg hc126_150] at hr
      refine own_step (T' := T148) (f' := (mkF m 129 #[.val (.int i0), .val (.int i1), .val (.int i2), .val (.int i3), .val (.int i4), .val (.int i5), .val (.int (4 : Int32)), .val (.int i7), .val (.int i8), .val (.ref b140), .unset, .unset, .unset] [])) (fun t kt => ?_) ?_
      · show Steps p.tables e below (T148.setTop (mkF m 126 #[.val (.int i0), .val (.int i1), .val (.int i2), .val (.int i3), .val (.int i4), .val (.int i5), .val (.int (4 : Int32)), .val (.int i7), .val (.int i8), .val (.ref b140), .unset, .unset, .unset] [(.int i8), (.int i0)])) _
        refine XS.icmpNo X148.here hx rfl (hb hby at_126) rfl (feq hc126_150).1 kt
      refine own_step (T' := T148) (f' := (mkF m 132 #[.val (.int i0), .val (.int i1), .val (.int i2), .val (.int i3), .val (.int i4), .val (.int i5), .val (.int (4 : Int32)), .val (.int i7), .val (.int i8), .val (.ref b140), .unset, .unset, .unset] [(.int (1 : Int32)), (.int (4 : Int32))])) (fun t kt => ?_) ?_
      · show Steps p.tables e below (T148.setTop (mkF m 129 #[.val (.int i0), .val (.int i1), .val (.int i2), .val (.int i3), .val (.int i4), .val (.int i5), .val (.int (4 : Int32)), .val (.int i7), .val (.int i8), .val (.ref b140), .unset, .unset, .unset] [])) _
        refine XS.iload X148.here hx rfl (hb hby at_129) rfl ?_
        show Steps p.tables e below (T148.setTop (mkF m 131 #[.val (.int i0), .val (.int i1), .val (.int i2), .val (.int i3), .val (.int i4), .val (.int i5), .val (.int (4 : Int32)), .val (.int i7), .val (.int i8), .val (.ref b140), .unset, .unset, .unset] [(.int (4 : Int32))])) _
        refine XS.iconst X148.here hx rfl (hb hby at_131) ?_
        exact kt
      refine own_step (T' := T148) (f' := (mkF m 135 #[.val (.int i0), .val (.int i1), .val (.int i2), .val (.int i3), .val (.int i4), .val (.int i5), .val (.int (4 : Int32)), .val (.int i7), .val (.int i8), .val (.ref b140), .unset, .unset, .unset] [])) (fun t kt => ?_) ?_
      · show Steps p.tables e below (T148.setTop (mkF m 132 #[.val (.int i0), .val (.int i1), .val (.int i2), .val (.int i3), .val (.int i4), .val (.int i5), .val (.int (4 : Int32)), .val (.int i7), .val (.int i8), .val (.ref b140), .unset, .unset, .unset] [(.int (1 : Int32)), (.int (4 : Int32))])) _
        refine XS.icmpNo X148.here hx rfl (hb hby at_132) rfl (tlt (by decide : ((1 : Int32) < (4 : Int32)))).2.2.2 kt
      refine own_step (T' := T148) (f' := (mkF m 138 #[.val (.int i0), .val (.int i1), .val (.int i2), .val (.int i3), .val (.int i4), .val (.int i5), .val (.int (4 : Int32)), .val (.int i7), .val (.int i8), .val (.ref b140), .unset, .unset, .unset] [(.int i8), (.int i1)])) (fun t kt => ?_) ?_
      · show Steps p.tables e below (T148.setTop (mkF m 135 #[.val (.int i0), .val (.int i1), .val (.int i2), .val (.int i3), .val (.int i4), .val (.int i5), .val (.int (4 : Int32)), .val (.int i7), .val (.int i8), .val (.ref b140), .unset, .unset, .unset] [])) _
        refine XS.iloadN X148.here hx rfl (hb hby at_135) rfl ?_
        show Steps p.tables e below (T148.setTop (mkF m 136 #[.val (.int i0), .val (.int i1), .val (.int i2), .val (.int i3), .val (.int i4), .val (.int i5), .val (.int (4 : Int32)), .val (.int i7), .val (.int i8), .val (.ref b140), .unset, .unset, .unset] [(.int i1)])) _
        refine XS.iload X148.here hx rfl (hb hby at_136) rfl ?_
        exact kt
      by_cases hc138_163 : i1 = i8
      · rw [if_pos hc138_163] at hr
        refine own_step (T' := T148) (f' := (mkF m 165 #[.val (.int i0), .val (.int i1), .val (.int i2), .val (.int i3), .val (.int i4), .val (.int i5), .val (.int (4 : Int32)), .val (.int i7), .val (.int i8), .val (.ref b140), .unset, .unset, .unset] [])) (fun t kt => ?_) ?_
        · show Steps p.tables e below (T148.setTop (mkF m 138 #[.val (.int i0), .val (.int i1), .val (.int i2), .val (.int i3), .val (.int i4), .val (.int i5), .val (.int (4 : Int32)), .val (.int i7), .val (.int i8), .val (.ref b140), .unset, .unset, .unset] [(.int i8), (.int i1)])) _
          refine XS.icmpYes X148.here hx rfl (pc0 := 138) (pc' := 165) rfl (hb hby at_138) rfl (teq hc138_163).1 (by decide) (by decide) kt
        refine own_step (T' := T148) (f' := (mkF m 176 #[.val (.int i0), .val (.int i1), .val (.int i2), .val (.int i3), .val (.int i4), .val (.int i5), .val (.int (4 : Int32)), .val (.int i7), .val (.int i8), .val (.ref b140), .val (.int (1 : Int32)), .unset, .unset] [(.int i8), (.ref b140)])) (fun t kt => ?_) ?_
        · show Steps p.tables e below (T148.setTop (mkF m 165 #[.val (.int i0), .val (.int i1), .val (.int i2), .val (.int i3), .val (.int i4), .val (.int i5), .val (.int (4 : Int32)), .val (.int i7), .val (.int i8), .val (.ref b140), .unset, .unset, .unset] [])) _
          refine XS.iconst X148.here hx rfl (hb hby at_165) ?_
          show Steps p.tables e below (T148.setTop (mkF m 166 #[.val (.int i0), .val (.int i1), .val (.int i2), .val (.int i3), .val (.int i4), .val (.int i5), .val (.int (4 : Int32)), .val (.int i7), .val (.int i8), .val (.ref b140), .unset, .unset, .unset] [(.int (1 : Int32))])) _
          refine XS.goto X148.here hx rfl (pc0 := 166) (pc' := 170) rfl (hb hby at_166) (by decide) (by decide) ?_
          show Steps p.tables e below (T148.setTop (mkF m 170 #[.val (.int i0), .val (.int i1), .val (.int i2), .val (.int i3), .val (.int i4), .val (.int i5), .val (.int (4 : Int32)), .val (.int i7), .val (.int i8), .val (.ref b140), .unset, .unset, .unset] [(.int (1 : Int32))])) _
          refine XS.istore X148.here hx rfl (hb hby at_170) rfl (l' := #[.val (.int i0), .val (.int i1), .val (.int i2), .val (.int i3), .val (.int i4), .val (.int i5), .val (.int (4 : Int32)), .val (.int i7), .val (.int i8), .val (.ref b140), .val (.int (1 : Int32)), .unset, .unset]) rfl ?_
          show Steps p.tables e below (T148.setTop (mkF m 172 #[.val (.int i0), .val (.int i1), .val (.int i2), .val (.int i3), .val (.int i4), .val (.int i5), .val (.int (4 : Int32)), .val (.int i7), .val (.int i8), .val (.ref b140), .val (.int (1 : Int32)), .unset, .unset] [])) _
          refine XS.aload X148.here hx rfl (hb hby at_172) rfl rfl ?_
          show Steps p.tables e below (T148.setTop (mkF m 174 #[.val (.int i0), .val (.int i1), .val (.int i2), .val (.int i3), .val (.int i4), .val (.int i5), .val (.int (4 : Int32)), .val (.int i7), .val (.int i8), .val (.ref b140), .val (.int (1 : Int32)), .unset, .unset] [(.ref b140)])) _
          refine XS.iload X148.here hx rfl (hb hby at_174) rfl ?_
          exact kt
        obtain ⟨_, _, ⟨T164, L164, k164, n164⟩, -, X164, ⟨Lc164, hQ164, l164, y164, z164⟩, st164⟩ := Jvm.LawKit.callS X148 hx (y := (⟨"com/example/conceal/conceal/SensitiveHolders", "contains", "([II)Z"⟩ : MethodName)) hown (mvT hZ (hw _ (List.mem_of_getElem? (i := 1) rfl))) (mvT hZ (hw _ (List.mem_of_getElem? (i := 2) rfl))) (mvT hZ (hw _ (List.mem_of_getElem? (i := 3) rfl))) (mvT hZ (hw _ (List.mem_of_getElem? (i := 4) rfl))) (by decide) (backOf (W := 0) (rm1n4 l Z a0 hw [] b140 i8 i0 i1 i2 i3 h148 n0 Ab140_148) hZ (hw _ (List.mem_of_getElem? (i := 4) rfl)) (hw _ (List.mem_of_getElem? (i := 3) rfl)) (by decide) (by decide)) (g := (mkF m 176 #[.val (.int i0), .val (.int i1), .val (.int i2), .val (.int i3), .val (.int i4), .val (.int i5), .val (.int (4 : Int32)), .val (.int i7), .val (.int i8), .val (.ref b140), .val (.int (1 : Int32)), .unset, .unset] [(.int i8), (.ref b140)])) rfl (by rw [hml]; rfl) (argsL := [(.ref b140), (.int i8)]) (rest := []) (lenOf pd1 rfl) rfl (by show 2 * 0 + _ ≤ _; exact Nat.le_of_eq rfl) (hb hby at_176) (fun _ _ => ⟨rfl, e148, (by decide : 1 + 0 ≤ _), (by decide : 4 + 0 ≤ _)⟩)
        dsimp only [Pt.U, Pt.locs, Pt.cells, Pt.slots] at X164 l164 y164 z164 st164 hQ164
        subst l164 y164 z164
        obtain ⟨rfl, Nq164, e164⟩ := hQ164
        have N164 := Fr.app N148 Nq164
        refine own_step (T' := T164) (f' := (mkF m 179 #[.val (.int i0), .val (.int i1), .val (.int i2), .val (.int i3), .val (.int i4), .val (.int i5), .val (.int (4 : Int32)), .val (.int i7), .val (.int i8), .val (.ref b140), .val (.int (1 : Int32)), .unset, .unset] [(.int (f1n4_0 i8 i0 i1 i2 i3))])) st164 ?_
        refine own_step (T' := T164) (f' := (mkF m 183 #[.val (.int i0), .val (.int i1), .val (.int i2), .val (.int i3), .val (.int i4), .val (.int i5), .val (.int (4 : Int32)), .val (.int i7), .val (.int i8), .val (.ref b140), .val (.int (1 : Int32)), .val (.int (f1n4_0 i8 i0 i1 i2 i3)), .unset] [(.int (4 : Int32))])) (fun t kt => ?_) ?_
        · show Steps p.tables e below (T164.setTop (mkF m 179 #[.val (.int i0), .val (.int i1), .val (.int i2), .val (.int i3), .val (.int i4), .val (.int i5), .val (.int (4 : Int32)), .val (.int i7), .val (.int i8), .val (.ref b140), .val (.int (1 : Int32)), .unset, .unset] [(.int (f1n4_0 i8 i0 i1 i2 i3))])) _
          refine XS.istore X164.here hx rfl (hb hby at_179) rfl (l' := #[.val (.int i0), .val (.int i1), .val (.int i2), .val (.int i3), .val (.int i4), .val (.int i5), .val (.int (4 : Int32)), .val (.int i7), .val (.int i8), .val (.ref b140), .val (.int (1 : Int32)), .val (.int (f1n4_0 i8 i0 i1 i2 i3)), .unset]) rfl ?_
          show Steps p.tables e below (T164.setTop (mkF m 181 #[.val (.int i0), .val (.int i1), .val (.int i2), .val (.int i3), .val (.int i4), .val (.int i5), .val (.int (4 : Int32)), .val (.int i7), .val (.int i8), .val (.ref b140), .val (.int (1 : Int32)), .val (.int (f1n4_0 i8 i0 i1 i2 i3)), .unset] [])) _
          refine XS.iload X164.here hx rfl (hb hby at_181) rfl ?_
          exact kt
        refine own_step (T' := T164) (f' := (mkF m 186 #[.val (.int i0), .val (.int i1), .val (.int i2), .val (.int i3), .val (.int i4), .val (.int i5), .val (.int (4 : Int32)), .val (.int i7), .val (.int i8), .val (.ref b140), .val (.int (1 : Int32)), .val (.int (f1n4_0 i8 i0 i1 i2 i3)), .unset] [])) (fun t kt => ?_) ?_
        · show Steps p.tables e below (T164.setTop (mkF m 183 #[.val (.int i0), .val (.int i1), .val (.int i2), .val (.int i3), .val (.int i4), .val (.int i5), .val (.int (4 : Int32)), .val (.int i7), .val (.int i8), .val (.ref b140), .val (.int (1 : Int32)), .val (.int (f1n4_0 i8 i0 i1 i2 i3)), .unset] [(.int (4 : Int32))])) _
          refine XS.ifNo X164.here hx rfl (hb hby at_183) rfl ((if0 _ _).trans (tlt (by decide : ((0 : Int32) < (4 : Int32)))).2.2.2) kt
        refine own_step (T' := T164) (f' := (mkF m 191 #[.val (.int i0), .val (.int i1), .val (.int i2), .val (.int i3), .val (.int i4), .val (.int i5), .val (.int (4 : Int32)), .val (.int i7), .val (.int i8), .val (.ref b140), .val (.int (1 : Int32)), .val (.int (f1n4_0 i8 i0 i1 i2 i3)), .unset] [(.int i0), (.int i0)])) (fun t kt => ?_) ?_
        · show Steps p.tables e below (T164.setTop (mkF m 186 #[.val (.int i0), .val (.int i1), .val (.int i2), .val (.int i3), .val (.int i4), .val (.int i5), .val (.int (4 : Int32)), .val (.int i7), .val (.int i8), .val (.ref b140), .val (.int (1 : Int32)), .val (.int (f1n4_0 i8 i0 i1 i2 i3)), .unset] [])) _
          refine XS.aload X164.here hx rfl (hb hby at_186) rfl rfl ?_
          show Steps p.tables e below (T164.setTop (mkF m 188 #[.val (.int i0), .val (.int i1), .val (.int i2), .val (.int i3), .val (.int i4), .val (.int i5), .val (.int (4 : Int32)), .val (.int i7), .val (.int i8), .val (.ref b140), .val (.int (1 : Int32)), .val (.int (f1n4_0 i8 i0 i1 i2 i3)), .unset] [(.ref b140)])) _
          refine XS.iconst X164.here hx rfl (hb hby at_188) ?_
          show Steps p.tables e below (T164.setTop (mkF m 189 #[.val (.int i0), .val (.int i1), .val (.int i2), .val (.int i3), .val (.int i4), .val (.int i5), .val (.int (4 : Int32)), .val (.int i7), .val (.int i8), .val (.ref b140), .val (.int (1 : Int32)), .val (.int (f1n4_0 i8 i0 i1 i2 i3)), .unset] [(.int (0 : Int32)), (.ref b140)])) _
          refine own_ldI X164 hx hZ e164 Ab140_148 (j := (0 : Int32)) (by decide) (k := 0) (by decide) (v := (.int i0)) rfl (g := (mkF m 189 #[.val (.int i0), .val (.int i1), .val (.int i2), .val (.int i3), .val (.int i4), .val (.int i5), .val (.int (4 : Int32)), .val (.int i7), .val (.int i8), .val (.ref b140), .val (.int (1 : Int32)), .val (.int (f1n4_0 i8 i0 i1 i2 i3)), .unset] [(.int (0 : Int32)), (.ref b140)])) rfl rfl (hb hby at_189) _ ?_
          show Steps p.tables e below (T164.setTop (mkF m 190 #[.val (.int i0), .val (.int i1), .val (.int i2), .val (.int i3), .val (.int i4), .val (.int i5), .val (.int (4 : Int32)), .val (.int i7), .val (.int i8), .val (.ref b140), .val (.int (1 : Int32)), .val (.int (f1n4_0 i8 i0 i1 i2 i3)), .unset] [(.int i0)])) _
          refine XS.iloadN X164.here hx rfl (hb hby at_190) rfl ?_
          exact kt
        refine own_step (T' := T164) (f' := (mkF m 194 #[.val (.int i0), .val (.int i1), .val (.int i2), .val (.int i3), .val (.int i4), .val (.int i5), .val (.int (4 : Int32)), .val (.int i7), .val (.int i8), .val (.ref b140), .val (.int (1 : Int32)), .val (.int (f1n4_0 i8 i0 i1 i2 i3)), .unset] [])) (fun t kt => ?_) ?_
        · show Steps p.tables e below (T164.setTop (mkF m 191 #[.val (.int i0), .val (.int i1), .val (.int i2), .val (.int i3), .val (.int i4), .val (.int i5), .val (.int (4 : Int32)), .val (.int i7), .val (.int i8), .val (.ref b140), .val (.int (1 : Int32)), .val (.int (f1n4_0 i8 i0 i1 i2 i3)), .unset] [(.int i0), (.int i0)])) _
          refine XS.icmpNo X164.here hx rfl (hb hby at_191) rfl (teq (rfl : i0 = i0)).2 kt
        refine own_step (T' := T164) (f' := (mkF m 197 #[.val (.int i0), .val (.int i1), .val (.int i2), .val (.int i3), .val (.int i4), .val (.int i5), .val (.int (4 : Int32)), .val (.int i7), .val (.int i8), .val (.ref b140), .val (.int (1 : Int32)), .val (.int (f1n4_0 i8 i0 i1 i2 i3)), .unset] [(.int (1 : Int32)), (.int (4 : Int32))])) (fun t kt => ?_) ?_
        · show Steps p.tables e below (T164.setTop (mkF m 194 #[.val (.int i0), .val (.int i1), .val (.int i2), .val (.int i3), .val (.int i4), .val (.int i5), .val (.int (4 : Int32)), .val (.int i7), .val (.int i8), .val (.ref b140), .val (.int (1 : Int32)), .val (.int (f1n4_0 i8 i0 i1 i2 i3)), .unset] [])) _
          refine XS.iload X164.here hx rfl (hb hby at_194) rfl ?_
          show Steps p.tables e below (T164.setTop (mkF m 196 #[.val (.int i0), .val (.int i1), .val (.int i2), .val (.int i3), .val (.int i4), .val (.int i5), .val (.int (4 : Int32)), .val (.int i7), .val (.int i8), .val (.ref b140), .val (.int (1 : Int32)), .val (.int (f1n4_0 i8 i0 i1 i2 i3)), .unset] [(.int (4 : Int32))])) _
          refine XS.iconst X164.here hx rfl (hb hby at_196) ?_
          exact kt
        refine own_step (T' := T164) (f' := (mkF m 200 #[.val (.int i0), .val (.int i1), .val (.int i2), .val (.int i3), .val (.int i4), .val (.int i5), .val (.int (4 : Int32)), .val (.int i7), .val (.int i8), .val (.ref b140), .val (.int (1 : Int32)), .val (.int (f1n4_0 i8 i0 i1 i2 i3)), .unset] [])) (fun t kt => ?_) ?_
        · show Steps p.tables e below (T164.setTop (mkF m 197 #[.val (.int i0), .val (.int i1), .val (.int i2), .val (.int i3), .val (.int i4), .val (.int i5), .val (.int (4 : Int32)), .val (.int i7), .val (.int i8), .val (.ref b140), .val (.int (1 : Int32)), .val (.int (f1n4_0 i8 i0 i1 i2 i3)), .unset] [(.int (1 : Int32)), (.int (4 : Int32))])) _
          refine XS.icmpNo X164.here hx rfl (hb hby at_197) rfl (tlt (by decide : ((1 : Int32) < (4 : Int32)))).2.2.2 kt
        refine own_step (T' := T164) (f' := (mkF m 205 #[.val (.int i0), .val (.int i1), .val (.int i2), .val (.int i3), .val (.int i4), .val (.int i5), .val (.int (4 : Int32)), .val (.int i7), .val (.int i8), .val (.ref b140), .val (.int (1 : Int32)), .val (.int (f1n4_0 i8 i0 i1 i2 i3)), .unset] [(.int i1), (.int i1)])) (fun t kt => ?_) ?_
        · show Steps p.tables e below (T164.setTop (mkF m 200 #[.val (.int i0), .val (.int i1), .val (.int i2), .val (.int i3), .val (.int i4), .val (.int i5), .val (.int (4 : Int32)), .val (.int i7), .val (.int i8), .val (.ref b140), .val (.int (1 : Int32)), .val (.int (f1n4_0 i8 i0 i1 i2 i3)), .unset] [])) _
          refine XS.aload X164.here hx rfl (hb hby at_200) rfl rfl ?_
          show Steps p.tables e below (T164.setTop (mkF m 202 #[.val (.int i0), .val (.int i1), .val (.int i2), .val (.int i3), .val (.int i4), .val (.int i5), .val (.int (4 : Int32)), .val (.int i7), .val (.int i8), .val (.ref b140), .val (.int (1 : Int32)), .val (.int (f1n4_0 i8 i0 i1 i2 i3)), .unset] [(.ref b140)])) _
          refine XS.iconst X164.here hx rfl (hb hby at_202) ?_
          show Steps p.tables e below (T164.setTop (mkF m 203 #[.val (.int i0), .val (.int i1), .val (.int i2), .val (.int i3), .val (.int i4), .val (.int i5), .val (.int (4 : Int32)), .val (.int i7), .val (.int i8), .val (.ref b140), .val (.int (1 : Int32)), .val (.int (f1n4_0 i8 i0 i1 i2 i3)), .unset] [(.int (1 : Int32)), (.ref b140)])) _
          refine own_ldI X164 hx hZ e164 Ab140_148 (j := (1 : Int32)) (by decide) (k := 1) (by decide) (v := (.int i1)) rfl (g := (mkF m 203 #[.val (.int i0), .val (.int i1), .val (.int i2), .val (.int i3), .val (.int i4), .val (.int i5), .val (.int (4 : Int32)), .val (.int i7), .val (.int i8), .val (.ref b140), .val (.int (1 : Int32)), .val (.int (f1n4_0 i8 i0 i1 i2 i3)), .unset] [(.int (1 : Int32)), (.ref b140)])) rfl rfl (hb hby at_203) _ ?_
          show Steps p.tables e below (T164.setTop (mkF m 204 #[.val (.int i0), .val (.int i1), .val (.int i2), .val (.int i3), .val (.int i4), .val (.int i5), .val (.int (4 : Int32)), .val (.int i7), .val (.int i8), .val (.ref b140), .val (.int (1 : Int32)), .val (.int (f1n4_0 i8 i0 i1 i2 i3)), .unset] [(.int i1)])) _
          refine XS.iloadN X164.here hx rfl (hb hby at_204) rfl ?_
          exact kt
        refine own_step (T' := T164) (f' := (mkF m 208 #[.val (.int i0), .val (.int i1), .val (.int i2), .val (.int i3), .val (.int i4), .val (.int i5), .val (.int (4 : Int32)), .val (.int i7), .val (.int i8), .val (.ref b140), .val (.int (1 : Int32)), .val (.int (f1n4_0 i8 i0 i1 i2 i3)), .unset] [])) (fun t kt => ?_) ?_
        · show Steps p.tables e below (T164.setTop (mkF m 205 #[.val (.int i0), .val (.int i1), .val (.int i2), .val (.int i3), .val (.int i4), .val (.int i5), .val (.int (4 : Int32)), .val (.int i7), .val (.int i8), .val (.ref b140), .val (.int (1 : Int32)), .val (.int (f1n4_0 i8 i0 i1 i2 i3)), .unset] [(.int i1), (.int i1)])) _
          refine XS.icmpNo X164.here hx rfl (hb hby at_205) rfl (teq (rfl : i1 = i1)).2 kt
        refine own_step (T' := T164) (f' := (mkF m 211 #[.val (.int i0), .val (.int i1), .val (.int i2), .val (.int i3), .val (.int i4), .val (.int i5), .val (.int (4 : Int32)), .val (.int i7), .val (.int i8), .val (.ref b140), .val (.int (1 : Int32)), .val (.int (f1n4_0 i8 i0 i1 i2 i3)), .unset] [(.int (2 : Int32)), (.int (4 : Int32))])) (fun t kt => ?_) ?_
        · show Steps p.tables e below (T164.setTop (mkF m 208 #[.val (.int i0), .val (.int i1), .val (.int i2), .val (.int i3), .val (.int i4), .val (.int i5), .val (.int (4 : Int32)), .val (.int i7), .val (.int i8), .val (.ref b140), .val (.int (1 : Int32)), .val (.int (f1n4_0 i8 i0 i1 i2 i3)), .unset] [])) _
          refine XS.iload X164.here hx rfl (hb hby at_208) rfl ?_
          show Steps p.tables e below (T164.setTop (mkF m 210 #[.val (.int i0), .val (.int i1), .val (.int i2), .val (.int i3), .val (.int i4), .val (.int i5), .val (.int (4 : Int32)), .val (.int i7), .val (.int i8), .val (.ref b140), .val (.int (1 : Int32)), .val (.int (f1n4_0 i8 i0 i1 i2 i3)), .unset] [(.int (4 : Int32))])) _
          refine XS.iconst X164.here hx rfl (hb hby at_210) ?_
          exact kt
        refine own_step (T' := T164) (f' := (mkF m 214 #[.val (.int i0), .val (.int i1), .val (.int i2), .val (.int i3), .val (.int i4), .val (.int i5), .val (.int (4 : Int32)), .val (.int i7), .val (.int i8), .val (.ref b140), .val (.int (1 : Int32)), .val (.int (f1n4_0 i8 i0 i1 i2 i3)), .unset] [])) (fun t kt => ?_) ?_
        · show Steps p.tables e below (T164.setTop (mkF m 211 #[.val (.int i0), .val (.int i1), .val (.int i2), .val (.int i3), .val (.int i4), .val (.int i5), .val (.int (4 : Int32)), .val (.int i7), .val (.int i8), .val (.ref b140), .val (.int (1 : Int32)), .val (.int (f1n4_0 i8 i0 i1 i2 i3)), .unset] [(.int (2 : Int32)), (.int (4 : Int32))])) _
          refine XS.icmpNo X164.here hx rfl (hb hby at_211) rfl (tlt (by decide : ((2 : Int32) < (4 : Int32)))).2.2.2 kt
        refine own_step (T' := T164) (f' := (mkF m 219 #[.val (.int i0), .val (.int i1), .val (.int i2), .val (.int i3), .val (.int i4), .val (.int i5), .val (.int (4 : Int32)), .val (.int i7), .val (.int i8), .val (.ref b140), .val (.int (1 : Int32)), .val (.int (f1n4_0 i8 i0 i1 i2 i3)), .unset] [(.int i2), (.int i2)])) (fun t kt => ?_) ?_
        · show Steps p.tables e below (T164.setTop (mkF m 214 #[.val (.int i0), .val (.int i1), .val (.int i2), .val (.int i3), .val (.int i4), .val (.int i5), .val (.int (4 : Int32)), .val (.int i7), .val (.int i8), .val (.ref b140), .val (.int (1 : Int32)), .val (.int (f1n4_0 i8 i0 i1 i2 i3)), .unset] [])) _
          refine XS.aload X164.here hx rfl (hb hby at_214) rfl rfl ?_
          show Steps p.tables e below (T164.setTop (mkF m 216 #[.val (.int i0), .val (.int i1), .val (.int i2), .val (.int i3), .val (.int i4), .val (.int i5), .val (.int (4 : Int32)), .val (.int i7), .val (.int i8), .val (.ref b140), .val (.int (1 : Int32)), .val (.int (f1n4_0 i8 i0 i1 i2 i3)), .unset] [(.ref b140)])) _
          refine XS.iconst X164.here hx rfl (hb hby at_216) ?_
          show Steps p.tables e below (T164.setTop (mkF m 217 #[.val (.int i0), .val (.int i1), .val (.int i2), .val (.int i3), .val (.int i4), .val (.int i5), .val (.int (4 : Int32)), .val (.int i7), .val (.int i8), .val (.ref b140), .val (.int (1 : Int32)), .val (.int (f1n4_0 i8 i0 i1 i2 i3)), .unset] [(.int (2 : Int32)), (.ref b140)])) _
          refine own_ldI X164 hx hZ e164 Ab140_148 (j := (2 : Int32)) (by decide) (k := 2) (by decide) (v := (.int i2)) rfl (g := (mkF m 217 #[.val (.int i0), .val (.int i1), .val (.int i2), .val (.int i3), .val (.int i4), .val (.int i5), .val (.int (4 : Int32)), .val (.int i7), .val (.int i8), .val (.ref b140), .val (.int (1 : Int32)), .val (.int (f1n4_0 i8 i0 i1 i2 i3)), .unset] [(.int (2 : Int32)), (.ref b140)])) rfl rfl (hb hby at_217) _ ?_
          show Steps p.tables e below (T164.setTop (mkF m 218 #[.val (.int i0), .val (.int i1), .val (.int i2), .val (.int i3), .val (.int i4), .val (.int i5), .val (.int (4 : Int32)), .val (.int i7), .val (.int i8), .val (.ref b140), .val (.int (1 : Int32)), .val (.int (f1n4_0 i8 i0 i1 i2 i3)), .unset] [(.int i2)])) _
          refine XS.iloadN X164.here hx rfl (hb hby at_218) rfl ?_
          exact kt
        refine own_step (T' := T164) (f' := (mkF m 222 #[.val (.int i0), .val (.int i1), .val (.int i2), .val (.int i3), .val (.int i4), .val (.int i5), .val (.int (4 : Int32)), .val (.int i7), .val (.int i8), .val (.ref b140), .val (.int (1 : Int32)), .val (.int (f1n4_0 i8 i0 i1 i2 i3)), .unset] [])) (fun t kt => ?_) ?_
        · show Steps p.tables e below (T164.setTop (mkF m 219 #[.val (.int i0), .val (.int i1), .val (.int i2), .val (.int i3), .val (.int i4), .val (.int i5), .val (.int (4 : Int32)), .val (.int i7), .val (.int i8), .val (.ref b140), .val (.int (1 : Int32)), .val (.int (f1n4_0 i8 i0 i1 i2 i3)), .unset] [(.int i2), (.int i2)])) _
          refine XS.icmpNo X164.here hx rfl (hb hby at_219) rfl (teq (rfl : i2 = i2)).2 kt
        refine own_step (T' := T164) (f' := (mkF m 225 #[.val (.int i0), .val (.int i1), .val (.int i2), .val (.int i3), .val (.int i4), .val (.int i5), .val (.int (4 : Int32)), .val (.int i7), .val (.int i8), .val (.ref b140), .val (.int (1 : Int32)), .val (.int (f1n4_0 i8 i0 i1 i2 i3)), .unset] [(.int (3 : Int32)), (.int (4 : Int32))])) (fun t kt => ?_) ?_
        · show Steps p.tables e below (T164.setTop (mkF m 222 #[.val (.int i0), .val (.int i1), .val (.int i2), .val (.int i3), .val (.int i4), .val (.int i5), .val (.int (4 : Int32)), .val (.int i7), .val (.int i8), .val (.ref b140), .val (.int (1 : Int32)), .val (.int (f1n4_0 i8 i0 i1 i2 i3)), .unset] [])) _
          refine XS.iload X164.here hx rfl (hb hby at_222) rfl ?_
          show Steps p.tables e below (T164.setTop (mkF m 224 #[.val (.int i0), .val (.int i1), .val (.int i2), .val (.int i3), .val (.int i4), .val (.int i5), .val (.int (4 : Int32)), .val (.int i7), .val (.int i8), .val (.ref b140), .val (.int (1 : Int32)), .val (.int (f1n4_0 i8 i0 i1 i2 i3)), .unset] [(.int (4 : Int32))])) _
          refine XS.iconst X164.here hx rfl (hb hby at_224) ?_
          exact kt
        refine own_step (T' := T164) (f' := (mkF m 228 #[.val (.int i0), .val (.int i1), .val (.int i2), .val (.int i3), .val (.int i4), .val (.int i5), .val (.int (4 : Int32)), .val (.int i7), .val (.int i8), .val (.ref b140), .val (.int (1 : Int32)), .val (.int (f1n4_0 i8 i0 i1 i2 i3)), .unset] [])) (fun t kt => ?_) ?_
        · show Steps p.tables e below (T164.setTop (mkF m 225 #[.val (.int i0), .val (.int i1), .val (.int i2), .val (.int i3), .val (.int i4), .val (.int i5), .val (.int (4 : Int32)), .val (.int i7), .val (.int i8), .val (.ref b140), .val (.int (1 : Int32)), .val (.int (f1n4_0 i8 i0 i1 i2 i3)), .unset] [(.int (3 : Int32)), (.int (4 : Int32))])) _
          refine XS.icmpNo X164.here hx rfl (hb hby at_225) rfl (tlt (by decide : ((3 : Int32) < (4 : Int32)))).2.2.2 kt
        refine own_step (T' := T164) (f' := (mkF m 233 #[.val (.int i0), .val (.int i1), .val (.int i2), .val (.int i3), .val (.int i4), .val (.int i5), .val (.int (4 : Int32)), .val (.int i7), .val (.int i8), .val (.ref b140), .val (.int (1 : Int32)), .val (.int (f1n4_0 i8 i0 i1 i2 i3)), .unset] [(.int i3), (.int i3)])) (fun t kt => ?_) ?_
        · show Steps p.tables e below (T164.setTop (mkF m 228 #[.val (.int i0), .val (.int i1), .val (.int i2), .val (.int i3), .val (.int i4), .val (.int i5), .val (.int (4 : Int32)), .val (.int i7), .val (.int i8), .val (.ref b140), .val (.int (1 : Int32)), .val (.int (f1n4_0 i8 i0 i1 i2 i3)), .unset] [])) _
          refine XS.aload X164.here hx rfl (hb hby at_228) rfl rfl ?_
          show Steps p.tables e below (T164.setTop (mkF m 230 #[.val (.int i0), .val (.int i1), .val (.int i2), .val (.int i3), .val (.int i4), .val (.int i5), .val (.int (4 : Int32)), .val (.int i7), .val (.int i8), .val (.ref b140), .val (.int (1 : Int32)), .val (.int (f1n4_0 i8 i0 i1 i2 i3)), .unset] [(.ref b140)])) _
          refine XS.iconst X164.here hx rfl (hb hby at_230) ?_
          show Steps p.tables e below (T164.setTop (mkF m 231 #[.val (.int i0), .val (.int i1), .val (.int i2), .val (.int i3), .val (.int i4), .val (.int i5), .val (.int (4 : Int32)), .val (.int i7), .val (.int i8), .val (.ref b140), .val (.int (1 : Int32)), .val (.int (f1n4_0 i8 i0 i1 i2 i3)), .unset] [(.int (3 : Int32)), (.ref b140)])) _
          refine own_ldI X164 hx hZ e164 Ab140_148 (j := (3 : Int32)) (by decide) (k := 3) (by decide) (v := (.int i3)) rfl (g := (mkF m 231 #[.val (.int i0), .val (.int i1), .val (.int i2), .val (.int i3), .val (.int i4), .val (.int i5), .val (.int (4 : Int32)), .val (.int i7), .val (.int i8), .val (.ref b140), .val (.int (1 : Int32)), .val (.int (f1n4_0 i8 i0 i1 i2 i3)), .unset] [(.int (3 : Int32)), (.ref b140)])) rfl rfl (hb hby at_231) _ ?_
          show Steps p.tables e below (T164.setTop (mkF m 232 #[.val (.int i0), .val (.int i1), .val (.int i2), .val (.int i3), .val (.int i4), .val (.int i5), .val (.int (4 : Int32)), .val (.int i7), .val (.int i8), .val (.ref b140), .val (.int (1 : Int32)), .val (.int (f1n4_0 i8 i0 i1 i2 i3)), .unset] [(.int i3)])) _
          refine XS.iloadN X164.here hx rfl (hb hby at_232) rfl ?_
          exact kt
        refine own_step (T' := T164) (f' := (mkF m 236 #[.val (.int i0), .val (.int i1), .val (.int i2), .val (.int i3), .val (.int i4), .val (.int i5), .val (.int (4 : Int32)), .val (.int i7), .val (.int i8), .val (.ref b140), .val (.int (1 : Int32)), .val (.int (f1n4_0 i8 i0 i1 i2 i3)), .unset] [])) (fun t kt => ?_) ?_
        · show Steps p.tables e below (T164.setTop (mkF m 233 #[.val (.int i0), .val (.int i1), .val (.int i2), .val (.int i3), .val (.int i4), .val (.int i5), .val (.int (4 : Int32)), .val (.int i7), .val (.int i8), .val (.ref b140), .val (.int (1 : Int32)), .val (.int (f1n4_0 i8 i0 i1 i2 i3)), .unset] [(.int i3), (.int i3)])) _
          refine XS.icmpNo X164.here hx rfl (hb hby at_233) rfl (teq (rfl : i3 = i3)).2 kt
        refine own_step (T' := T164) (f' := (mkF m 247 #[.val (.int i0), .val (.int i1), .val (.int i2), .val (.int i3), .val (.int i4), .val (.int i5), .val (.int (4 : Int32)), .val (.int i7), .val (.int i8), .val (.ref b140), .val (.int (1 : Int32)), .val (.int (f1n4_0 i8 i0 i1 i2 i3)), .val (.int (1 : Int32))] [(.int (1 : Int32)), (.int (f1n4_0 i8 i0 i1 i2 i3))])) (fun t kt => ?_) ?_
        · show Steps p.tables e below (T164.setTop (mkF m 236 #[.val (.int i0), .val (.int i1), .val (.int i2), .val (.int i3), .val (.int i4), .val (.int i5), .val (.int (4 : Int32)), .val (.int i7), .val (.int i8), .val (.ref b140), .val (.int (1 : Int32)), .val (.int (f1n4_0 i8 i0 i1 i2 i3)), .unset] [])) _
          refine XS.iconst X164.here hx rfl (hb hby at_236) ?_
          show Steps p.tables e below (T164.setTop (mkF m 237 #[.val (.int i0), .val (.int i1), .val (.int i2), .val (.int i3), .val (.int i4), .val (.int i5), .val (.int (4 : Int32)), .val (.int i7), .val (.int i8), .val (.ref b140), .val (.int (1 : Int32)), .val (.int (f1n4_0 i8 i0 i1 i2 i3)), .unset] [(.int (1 : Int32))])) _
          refine XS.goto X164.here hx rfl (pc0 := 237) (pc' := 241) rfl (hb hby at_237) (by decide) (by decide) ?_
          show Steps p.tables e below (T164.setTop (mkF m 241 #[.val (.int i0), .val (.int i1), .val (.int i2), .val (.int i3), .val (.int i4), .val (.int i5), .val (.int (4 : Int32)), .val (.int i7), .val (.int i8), .val (.ref b140), .val (.int (1 : Int32)), .val (.int (f1n4_0 i8 i0 i1 i2 i3)), .unset] [(.int (1 : Int32))])) _
          refine XS.istore X164.here hx rfl (hb hby at_241) rfl (l' := #[.val (.int i0), .val (.int i1), .val (.int i2), .val (.int i3), .val (.int i4), .val (.int i5), .val (.int (4 : Int32)), .val (.int i7), .val (.int i8), .val (.ref b140), .val (.int (1 : Int32)), .val (.int (f1n4_0 i8 i0 i1 i2 i3)), .val (.int (1 : Int32))]) rfl ?_
          show Steps p.tables e below (T164.setTop (mkF m 243 #[.val (.int i0), .val (.int i1), .val (.int i2), .val (.int i3), .val (.int i4), .val (.int i5), .val (.int (4 : Int32)), .val (.int i7), .val (.int i8), .val (.ref b140), .val (.int (1 : Int32)), .val (.int (f1n4_0 i8 i0 i1 i2 i3)), .val (.int (1 : Int32))] [])) _
          refine XS.iload X164.here hx rfl (hb hby at_243) rfl ?_
          show Steps p.tables e below (T164.setTop (mkF m 245 #[.val (.int i0), .val (.int i1), .val (.int i2), .val (.int i3), .val (.int i4), .val (.int i5), .val (.int (4 : Int32)), .val (.int i7), .val (.int i8), .val (.ref b140), .val (.int (1 : Int32)), .val (.int (f1n4_0 i8 i0 i1 i2 i3)), .val (.int (1 : Int32))] [(.int (f1n4_0 i8 i0 i1 i2 i3))])) _
          refine XS.iload X164.here hx rfl (hb hby at_245) rfl ?_
          exact kt
        by_cases hc247_173 : (f1n4_0 i8 i0 i1 i2 i3) = (1 : Int32)
        · rw [if_pos hc247_173] at hr
          refine own_step (T' := T164) (f' := (mkF m 250 #[.val (.int i0), .val (.int i1), .val (.int i2), .val (.int i3), .val (.int i4), .val (.int i5), .val (.int (4 : Int32)), .val (.int i7), .val (.int i8), .val (.ref b140), .val (.int (1 : Int32)), .val (.int (f1n4_0 i8 i0 i1 i2 i3)), .val (.int (1 : Int32))] [])) (fun t kt => ?_) ?_
          · show Steps p.tables e below (T164.setTop (mkF m 247 #[.val (.int i0), .val (.int i1), .val (.int i2), .val (.int i3), .val (.int i4), .val (.int i5), .val (.int (4 : Int32)), .val (.int i7), .val (.int i8), .val (.ref b140), .val (.int (1 : Int32)), .val (.int (f1n4_0 i8 i0 i1 i2 i3)), .val (.int (1 : Int32))] [(.int (1 : Int32)), (.int (f1n4_0 i8 i0 i1 i2 i3))])) _
            refine XS.icmpNo X164.here hx rfl (hb hby at_247) rfl (teq hc247_173).2 kt
          refine own_step (T' := T164) (f' := (mkF m 252 #[.val (.int i0), .val (.int i1), .val (.int i2), .val (.int i3), .val (.int i4), .val (.int i5), .val (.int (4 : Int32)), .val (.int i7), .val (.int i8), .val (.ref b140), .val (.int (1 : Int32)), .val (.int (f1n4_0 i8 i0 i1 i2 i3)), .val (.int (1 : Int32))] [(.int (1 : Int32))])) (fun t kt => ?_) ?_
          · show Steps p.tables e below (T164.setTop (mkF m 250 #[.val (.int i0), .val (.int i1), .val (.int i2), .val (.int i3), .val (.int i4), .val (.int i5), .val (.int (4 : Int32)), .val (.int i7), .val (.int i8), .val (.ref b140), .val (.int (1 : Int32)), .val (.int (f1n4_0 i8 i0 i1 i2 i3)), .val (.int (1 : Int32))] [])) _
            refine XS.iload X164.here hx rfl (hb hby at_250) rfl ?_
            exact kt
          refine own_step (T' := T164) (f' := (mkF m 255 #[.val (.int i0), .val (.int i1), .val (.int i2), .val (.int i3), .val (.int i4), .val (.int i5), .val (.int (4 : Int32)), .val (.int i7), .val (.int i8), .val (.ref b140), .val (.int (1 : Int32)), .val (.int (f1n4_0 i8 i0 i1 i2 i3)), .val (.int (1 : Int32))] [])) (fun t kt => ?_) ?_
          · show Steps p.tables e below (T164.setTop (mkF m 252 #[.val (.int i0), .val (.int i1), .val (.int i2), .val (.int i3), .val (.int i4), .val (.int i5), .val (.int (4 : Int32)), .val (.int i7), .val (.int i8), .val (.ref b140), .val (.int (1 : Int32)), .val (.int (f1n4_0 i8 i0 i1 i2 i3)), .val (.int (1 : Int32))] [(.int (1 : Int32))])) _
            refine XS.ifNo X164.here hx rfl (hb hby at_252) rfl ((if0 _ _).trans (feq (by decide : ¬ ((1 : Int32) = (0 : Int32)))).1) kt
          refine own_step (T' := T164) (f' := (mkF m 260 #[.val (.int i0), .val (.int i1), .val (.int i2), .val (.int i3), .val (.int i4), .val (.int i5), .val (.int (4 : Int32)), .val (.int i7), .val (.int i8), .val (.ref b140), .val (.int (1 : Int32)), .val (.int (f1n4_0 i8 i0 i1 i2 i3)), .val (.int (1 : Int32))] [(.int (1 : Int32))])) (fun t kt => ?_) ?_
          · show Steps p.tables e below (T164.setTop (mkF m 255 #[.val (.int i0), .val (.int i1), .val (.int i2), .val (.int i3), .val (.int i4), .val (.int i5), .val (.int (4 : Int32)), .val (.int i7), .val (.int i8), .val (.ref b140), .val (.int (1 : Int32)), .val (.int (f1n4_0 i8 i0 i1 i2 i3)), .val (.int (1 : Int32))] [])) _
            refine XS.iconst X164.here hx rfl (hb hby at_255) ?_
            show Steps p.tables e below (T164.setTop (mkF m 256 #[.val (.int i0), .val (.int i1), .val (.int i2), .val (.int i3), .val (.int i4), .val (.int i5), .val (.int (4 : Int32)), .val (.int i7), .val (.int i8), .val (.ref b140), .val (.int (1 : Int32)), .val (.int (f1n4_0 i8 i0 i1 i2 i3)), .val (.int (1 : Int32))] [(.int (1 : Int32))])) _
            refine XS.goto X164.here hx rfl (pc0 := 256) (pc' := 260) rfl (hb hby at_256) (by decide) (by decide) ?_
            exact kt
          exact own_retZ X164 hx hret (by simp) hlk (hb hby at_260) (by decide) (by decide) ⟨congrArg (fun z => some (Value.int z)) hr.symm, N164⟩
        · rw [if_neg hc247_173] at hr
          refine own_step (T' := T164) (f' := (mkF m 259 #[.val (.int i0), .val (.int i1), .val (.int i2), .val (.int i3), .val (.int i4), .val (.int i5), .val (.int (4 : Int32)), .val (.int i7), .val (.int i8), .val (.ref b140), .val (.int (1 : Int32)), .val (.int (f1n4_0 i8 i0 i1 i2 i3)), .val (.int (1 : Int32))] [])) (fun t kt => ?_) ?_
          · show Steps p.tables e below (T164.setTop (mkF m 247 #[.val (.int i0), .val (.int i1), .val (.int i2), .val (.int i3), .val (.int i4), .val (.int i5), .val (.int (4 : Int32)), .val (.int i7), .val (.int i8), .val (.ref b140), .val (.int (1 : Int32)), .val (.int (f1n4_0 i8 i0 i1 i2 i3)), .val (.int (1 : Int32))] [(.int (1 : Int32)), (.int (f1n4_0 i8 i0 i1 i2 i3))])) _
            refine XS.icmpYes X164.here hx rfl (pc0 := 247) (pc' := 259) rfl (hb hby at_247) rfl (feq hc247_173).2 (by decide) (by decide) kt
          refine own_step (T' := T164) (f' := (mkF m 260 #[.val (.int i0), .val (.int i1), .val (.int i2), .val (.int i3), .val (.int i4), .val (.int i5), .val (.int (4 : Int32)), .val (.int i7), .val (.int i8), .val (.ref b140), .val (.int (1 : Int32)), .val (.int (f1n4_0 i8 i0 i1 i2 i3)), .val (.int (1 : Int32))] [(.int (0 : Int32))])) (fun t kt => ?_) ?_
          · show Steps p.tables e below (T164.setTop (mkF m 259 #[.val (.int i0), .val (.int i1), .val (.int i2), .val (.int i3), .val (.int i4), .val (.int i5), .val (.int (4 : Int32)), .val (.int i7), .val (.int i8), .val (.ref b140), .val (.int (1 : Int32)), .val (.int (f1n4_0 i8 i0 i1 i2 i3)), .val (.int (1 : Int32))] [])) _
            refine XS.iconst X164.here hx rfl (hb hby at_259) ?_
            exact kt
          exact own_retZ X164 hx hret (by simp) hlk (hb hby at_260) (by decide) (by decide) ⟨congrArg (fun z => some (Value.int z)) hr.symm, N164⟩
      · rw [if_neg hc138_163] at hr
        refine own_step (T' := T148) (f' := (mkF m 141 #[.val (.int i0), .val (.int i1), .val (.int i2), .val (.int i3), .val (.int i4), .val (.int i5), .val (.int (4 : Int32)), .val (.int i7), .val (.int i8), .val (.ref b140), .unset, .unset, .unset] [])) (fun t kt => ?_) ?_
        · show Steps p.tables e below (T148.setTop (mkF m 138 #[.val (.int i0), .val (.int i1), .val (.int i2), .val (.int i3), .val (.int i4), .val (.int i5), .val (.int (4 : Int32)), .val (.int i7), .val (.int i8), .val (.ref b140), .unset, .unset, .unset] [(.int i8), (.int i1)])) _
          refine XS.icmpNo X148.here hx rfl (hb hby at_138) rfl (feq hc138_163).1 kt
        refine own_step (T' := T148) (f' := (mkF m 144 #[.val (.int i0), .val (.int i1), .val (.int i2), .val (.int i3), .val (.int i4), .val (.int i5), .val (.int (4 : Int32)), .val (.int i7), .val (.int i8), .val (.ref b140), .unset, .unset, .unset] [(.int (2 : Int32)), (.int (4 : Int32))])) (fun t kt => ?_) ?_
        · show Steps p.tables e below (T148.setTop (mkF m 141 #[.val (.int i0), .val (.int i1), .val (.int i2), .val (.int i3), .val (.int i4), .val (.int i5), .val (.int (4 : Int32)), .val (.int i7), .val (.int i8), .val (.ref b140), .unset, .unset, .unset] [])) _
          refine XS.iload X148.here hx rfl (hb hby at_141) rfl ?_
          show Steps p.tables e below (T148.setTop (mkF m 143 #[.val (.int i0), .val (.int i1), .val (.int i2), .val (.int i3), .val (.int i4), .val (.int i5), .val (.int (4 : Int32)), .val (.int i7), .val (.int i8), .val (.ref b140), .unset, .unset, .unset] [(.int (4 : Int32))])) _
          refine XS.iconst X148.here hx rfl (hb hby at_143) ?_
          exact kt
        refine own_step (T' := T148) (f' := (mkF m 147 #[.val (.int i0), .val (.int i1), .val (.int i2), .val (.int i3), .val (.int i4), .val (.int i5), .val (.int (4 : Int32)), .val (.int i7), .val (.int i8), .val (.ref b140), .unset, .unset, .unset] [])) (fun t kt => ?_) ?_
        · show Steps p.tables e below (T148.setTop (mkF m 144 #[.val (.int i0), .val (.int i1), .val (.int i2), .val (.int i3), .val (.int i4), .val (.int i5), .val (.int (4 : Int32)), .val (.int i7), .val (.int i8), .val (.ref b140), .unset, .unset, .unset] [(.int (2 : Int32)), (.int (4 : Int32))])) _
          refine XS.icmpNo X148.here hx rfl (hb hby at_144) rfl (tlt (by decide : ((2 : Int32) < (4 : Int32)))).2.2.2 kt
        refine own_step (T' := T148) (f' := (mkF m 150 #[.val (.int i0), .val (.int i1), .val (.int i2), .val (.int i3), .val (.int i4), .val (.int i5), .val (.int (4 : Int32)), .val (.int i7), .val (.int i8), .val (.ref b140), .unset, .unset, .unset] [(.int i8), (.int i2)])) (fun t kt => ?_) ?_
        · show Steps p.tables e below (T148.setTop (mkF m 147 #[.val (.int i0), .val (.int i1), .val (.int i2), .val (.int i3), .val (.int i4), .val (.int i5), .val (.int (4 : Int32)), .val (.int i7), .val (.int i8), .val (.ref b140), .unset, .unset, .unset] [])) _
          refine XS.iloadN X148.here hx rfl (hb hby at_147) rfl ?_
          show Steps p.tables e below (T148.setTop (mkF m 148 #[.val (.int i0), .val (.int i1), .val (.int i2), .val (.int i3), .val (.int i4), .val (.int i5), .val (.int (4 : Int32)), .val (.int i7), .val (.int i8), .val (.ref b140), .unset, .unset, .unset] [(.int i2)])) _
          refine XS.iload X148.here hx rfl (hb hby at_148) rfl ?_
          exact kt
        by_cases hc150_176 : i2 = i8
        · rw [if_pos hc150_176] at hr
          refine own_step (T' := T148) (f' := (mkF m 165 #[.val (.int i0), .val (.int i1), .val (.int i2), .val (.int i3), .val (.int i4), .val (.int i5), .val (.int (4 : Int32)), .val (.int i7), .val (.int i8), .val (.ref b140), .unset, .unset, .unset] [])) (fun t kt => ?_) ?_
          · show Steps p.tables e below (T148.setTop (mkF m 150 #[.val (.int i0), .val (.int i1), .val (.int i2), .val (.int i3), .val (.int i4), .val (.int i5), .val (.int (4 : Int32)), .val (.int i7), .val (.int i8), .val (.ref b140), .unset, .unset, .unset] [(.int i8), (.int i2)])) _
            refine XS.icmpYes X148.here hx rfl (pc0 := 150) (pc' := 165) rfl (hb hby at_150) rfl (teq hc150_176).1 (by decide) (by decide) kt
          refine own_step (T' := T148) (f' := (mkF m 176 #[.val (.int i0), .val (.int i1), .val (.int i2), .val (.int i3), .val (.int i4), .val (.int i5), .val (.int (4 : Int32)), .val (.int i7), .val (.int i8), .val (.ref b140), .val (.int (1 : Int32)), .unset, .unset] [(.int i8), (.ref b140)])) (fun t kt => ?_) ?_
          · show Steps p.tables e below (T148.setTop (mkF m 165 #[.val (.int i0), .val (.int i1), .val (.int i2), .val (.int i3), .val (.int i4), .val (.int i5), .val (.int (4 : Int32)), .val (.int i7), .val (.int i8), .val (.ref b140), .unset, .unset, .unset] [])) _
            refine XS.iconst X148.here hx rfl (hb hby at_165) ?_
            show Steps p.tables e below (T148.setTop (mkF m 166 #[.val (.int i0), .val (.int i1), .val (.int i2), .val (.int i3), .val (.int i4), .val (.int i5), .val (.int (4 : Int32)), .val (.int i7), .val (.int i8), .val (.ref b140), .unset, .unset, .unset] [(.int (1 : Int32))])) _
            refine XS.goto X148.here hx rfl (pc0 := 166) (pc' := 170) rfl (hb hby at_166) (by decide) (by decide) ?_
            show Steps p.tables e below (T148.setTop (mkF m 170 #[.val (.int i0), .val (.int i1), .val (.int i2), .val (.int i3), .val (.int i4), .val (.int i5), .val (.int (4 : Int32)), .val (.int i7), .val (.int i8), .val (.ref b140), .unset, .unset, .unset] [(.int (1 : Int32))])) _
            refine XS.istore X148.here hx rfl (hb hby at_170) rfl (l' := #[.val (.int i0), .val (.int i1), .val (.int i2), .val (.int i3), .val (.int i4), .val (.int i5), .val (.int (4 : Int32)), .val (.int i7), .val (.int i8), .val (.ref b140), .val (.int (1 : Int32)), .unset, .unset]) rfl ?_
            show Steps p.tables e below (T148.setTop (mkF m 172 #[.val (.int i0), .val (.int i1), .val (.int i2), .val (.int i3), .val (.int i4), .val (.int i5), .val (.int (4 : Int32)), .val (.int i7), .val (.int i8), .val (.ref b140), .val (.int (1 : Int32)), .unset, .unset] [])) _
            refine XS.aload X148.here hx rfl (hb hby at_172) rfl rfl ?_
            show Steps p.tables e below (T148.setTop (mkF m 174 #[.val (.int i0), .val (.int i1), .val (.int i2), .val (.int i3), .val (.int i4), .val (.int i5), .val (.int (4 : Int32)), .val (.int i7), .val (.int i8), .val (.ref b140), .val (.int (1 : Int32)), .unset, .unset] [(.ref b140)])) _
            refine XS.iload X148.here hx rfl (hb hby at_174) rfl ?_
            exact kt
          obtain ⟨_, _, ⟨T177, L177, k177, n177⟩, -, X177, ⟨Lc177, hQ177, l177, y177, z177⟩, st177⟩ := Jvm.LawKit.callS X148 hx (y := (⟨"com/example/conceal/conceal/SensitiveHolders", "contains", "([II)Z"⟩ : MethodName)) hown (mvT hZ (hw _ (List.mem_of_getElem? (i := 1) rfl))) (mvT hZ (hw _ (List.mem_of_getElem? (i := 2) rfl))) (mvT hZ (hw _ (List.mem_of_getElem? (i := 3) rfl))) (mvT hZ (hw _ (List.mem_of_getElem? (i := 4) rfl))) (by decide) (backOf (W := 0) (rm1n4 l Z a0 hw [] b140 i8 i0 i1 i2 i3 h148 n0 Ab140_148) hZ (hw _ (List.mem_of_getElem? (i := 4) rfl)) (hw _ (List.mem_of_getElem? (i := 3) rfl)) (by decide) (by decide)) (g := (mkF m 176 #[.val (.int i0), .val (.int i1), .val (.int i2), .val (.int i3), .val (.int i4), .val (.int i5), .val (.int (4 : Int32)), .val (.int i7), .val (.int i8), .val (.ref b140), .val (.int (1 : Int32)), .unset, .unset] [(.int i8), (.ref b140)])) rfl (by rw [hml]; rfl) (argsL := [(.ref b140), (.int i8)]) (rest := []) (lenOf pd1 rfl) rfl (by show 2 * 0 + _ ≤ _; exact Nat.le_of_eq rfl) (hb hby at_176) (fun _ _ => ⟨rfl, e148, (by decide : 1 + 0 ≤ _), (by decide : 4 + 0 ≤ _)⟩)
          dsimp only [Pt.U, Pt.locs, Pt.cells, Pt.slots] at X177 l177 y177 z177 st177 hQ177
          subst l177 y177 z177
          obtain ⟨rfl, Nq177, e177⟩ := hQ177
          have N177 := Fr.app N148 Nq177
          refine own_step (T' := T177) (f' := (mkF m 179 #[.val (.int i0), .val (.int i1), .val (.int i2), .val (.int i3), .val (.int i4), .val (.int i5), .val (.int (4 : Int32)), .val (.int i7), .val (.int i8), .val (.ref b140), .val (.int (1 : Int32)), .unset, .unset] [(.int (f1n4_0 i8 i0 i1 i2 i3))])) st177 ?_
          refine own_step (T' := T177) (f' := (mkF m 183 #[.val (.int i0), .val (.int i1), .val (.int i2), .val (.int i3), .val (.int i4), .val (.int i5), .val (.int (4 : Int32)), .val (.int i7), .val (.int i8), .val (.ref b140), .val (.int (1 : Int32)), .val (.int (f1n4_0 i8 i0 i1 i2 i3)), .unset] [(.int (4 : Int32))])) (fun t kt => ?_) ?_
          · show Steps p.tables e below (T177.setTop (mkF m 179 #[.val (.int i0), .val (.int i1), .val (.int i2), .val (.int i3), .val (.int i4), .val (.int i5), .val (.int (4 : Int32)), .val (.int i7), .val (.int i8), .val (.ref b140), .val (.int (1 : Int32)), .unset, .unset] [(.int (f1n4_0 i8 i0 i1 i2 i3))])) _
            refine XS.istore X177.here hx rfl (hb hby at_179) rfl (l' := #[.val (.int i0), .val (.int i1), .val (.int i2), .val (.int i3), .val (.int i4), .val (.int i5), .val (.int (4 : Int32)), .val (.int i7), .val (.int i8), .val (.ref b140), .val (.int (1 : Int32)), .val (.int (f1n4_0 i8 i0 i1 i2 i3)), .unset]) rfl ?_
            show Steps p.tables e below (T177.setTop (mkF m 181 #[.val (.int i0), .val (.int i1), .val (.int i2), .val (.int i3), .val (.int i4), .val (.int i5), .val (.int (4 : Int32)), .val (.int i7), .val (.int i8), .val (.ref b140), .val (.int (1 : Int32)), .val (.int (f1n4_0 i8 i0 i1 i2 i3)), .unset] [])) _
            refine XS.iload X177.here hx rfl (hb hby at_181) rfl ?_
            exact kt
          refine own_step (T' := T177) (f' := (mkF m 186 #[.val (.int i0), .val (.int i1), .val (.int i2), .val (.int i3), .val (.int i4), .val (.int i5), .val (.int (4 : Int32)), .val (.int i7), .val (.int i8), .val (.ref b140), .val (.int (1 : Int32)), .val (.int (f1n4_0 i8 i0 i1 i2 i3)), .unset] [])) (fun t kt => ?_) ?_
          · show Steps p.tables e below (T177.setTop (mkF m 183 #[.val (.int i0), .val (.int i1), .val (.int i2), .val (.int i3), .val (.int i4), .val (.int i5), .val (.int (4 : Int32)), .val (.int i7), .val (.int i8), .val (.ref b140), .val (.int (1 : Int32)), .val (.int (f1n4_0 i8 i0 i1 i2 i3)), .unset] [(.int (4 : Int32))])) _
            refine XS.ifNo X177.here hx rfl (hb hby at_183) rfl ((if0 _ _).trans (tlt (by decide : ((0 : Int32) < (4 : Int32)))).2.2.2) kt
          refine own_step (T' := T177) (f' := (mkF m 191 #[.val (.int i0), .val (.int i1), .val (.int i2), .val (.int i3), .val (.int i4), .val (.int i5), .val (.int (4 : Int32)), .val (.int i7), .val (.int i8), .val (.ref b140), .val (.int (1 : Int32)), .val (.int (f1n4_0 i8 i0 i1 i2 i3)), .unset] [(.int i0), (.int i0)])) (fun t kt => ?_) ?_
          · show Steps p.tables e below (T177.setTop (mkF m 186 #[.val (.int i0), .val (.int i1), .val (.int i2), .val (.int i3), .val (.int i4), .val (.int i5), .val (.int (4 : Int32)), .val (.int i7), .val (.int i8), .val (.ref b140), .val (.int (1 : Int32)), .val (.int (f1n4_0 i8 i0 i1 i2 i3)), .unset] [])) _
            refine XS.aload X177.here hx rfl (hb hby at_186) rfl rfl ?_
            show Steps p.tables e below (T177.setTop (mkF m 188 #[.val (.int i0), .val (.int i1), .val (.int i2), .val (.int i3), .val (.int i4), .val (.int i5), .val (.int (4 : Int32)), .val (.int i7), .val (.int i8), .val (.ref b140), .val (.int (1 : Int32)), .val (.int (f1n4_0 i8 i0 i1 i2 i3)), .unset] [(.ref b140)])) _
            refine XS.iconst X177.here hx rfl (hb hby at_188) ?_
            show Steps p.tables e below (T177.setTop (mkF m 189 #[.val (.int i0), .val (.int i1), .val (.int i2), .val (.int i3), .val (.int i4), .val (.int i5), .val (.int (4 : Int32)), .val (.int i7), .val (.int i8), .val (.ref b140), .val (.int (1 : Int32)), .val (.int (f1n4_0 i8 i0 i1 i2 i3)), .unset] [(.int (0 : Int32)), (.ref b140)])) _
            refine own_ldI X177 hx hZ e177 Ab140_148 (j := (0 : Int32)) (by decide) (k := 0) (by decide) (v := (.int i0)) rfl (g := (mkF m 189 #[.val (.int i0), .val (.int i1), .val (.int i2), .val (.int i3), .val (.int i4), .val (.int i5), .val (.int (4 : Int32)), .val (.int i7), .val (.int i8), .val (.ref b140), .val (.int (1 : Int32)), .val (.int (f1n4_0 i8 i0 i1 i2 i3)), .unset] [(.int (0 : Int32)), (.ref b140)])) rfl rfl (hb hby at_189) _ ?_
            show Steps p.tables e below (T177.setTop (mkF m 190 #[.val (.int i0), .val (.int i1), .val (.int i2), .val (.int i3), .val (.int i4), .val (.int i5), .val (.int (4 : Int32)), .val (.int i7), .val (.int i8), .val (.ref b140), .val (.int (1 : Int32)), .val (.int (f1n4_0 i8 i0 i1 i2 i3)), .unset] [(.int i0)])) _
            refine XS.iloadN X177.here hx rfl (hb hby at_190) rfl ?_
            exact kt
          refine own_step (T' := T177) (f' := (mkF m 194 #[.val (.int i0), .val (.int i1), .val (.int i2), .val (.int i3), .val (.int i4), .val (.int i5), .val (.int (4 : Int32)), .val (.int i7), .val (.int i8), .val (.ref b140), .val (.int (1 : Int32)), .val (.int (f1n4_0 i8 i0 i1 i2 i3)), .unset] [])) (fun t kt => ?_) ?_
          · show Steps p.tables e below (T177.setTop (mkF m 191 #[.val (.int i0), .val (.int i1), .val (.int i2), .val (.int i3), .val (.int i4), .val (.int i5), .val (.int (4 : Int32)), .val (.int i7), .val (.int i8), .val (.ref b140), .val (.int (1 : Int32)), .val (.int (f1n4_0 i8 i0 i1 i2 i3)), .unset] [(.int i0), (.int i0)])) _
            refine XS.icmpNo X177.here hx rfl (hb hby at_191) rfl (teq (rfl : i0 = i0)).2 kt
          refine own_step (T' := T177) (f' := (mkF m 197 #[.val (.int i0), .val (.int i1), .val (.int i2), .val (.int i3), .val (.int i4), .val (.int i5), .val (.int (4 : Int32)), .val (.int i7), .val (.int i8), .val (.ref b140), .val (.int (1 : Int32)), .val (.int (f1n4_0 i8 i0 i1 i2 i3)), .unset] [(.int (1 : Int32)), (.int (4 : Int32))])) (fun t kt => ?_) ?_
          · show Steps p.tables e below (T177.setTop (mkF m 194 #[.val (.int i0), .val (.int i1), .val (.int i2), .val (.int i3), .val (.int i4), .val (.int i5), .val (.int (4 : Int32)), .val (.int i7), .val (.int i8), .val (.ref b140), .val (.int (1 : Int32)), .val (.int (f1n4_0 i8 i0 i1 i2 i3)), .unset] [])) _
            refine XS.iload X177.here hx rfl (hb hby at_194) rfl ?_
            show Steps p.tables e below (T177.setTop (mkF m 196 #[.val (.int i0), .val (.int i1), .val (.int i2), .val (.int i3), .val (.int i4), .val (.int i5), .val (.int (4 : Int32)), .val (.int i7), .val (.int i8), .val (.ref b140), .val (.int (1 : Int32)), .val (.int (f1n4_0 i8 i0 i1 i2 i3)), .unset] [(.int (4 : Int32))])) _
            refine XS.iconst X177.here hx rfl (hb hby at_196) ?_
            exact kt
          refine own_step (T' := T177) (f' := (mkF m 200 #[.val (.int i0), .val (.int i1), .val (.int i2), .val (.int i3), .val (.int i4), .val (.int i5), .val (.int (4 : Int32)), .val (.int i7), .val (.int i8), .val (.ref b140), .val (.int (1 : Int32)), .val (.int (f1n4_0 i8 i0 i1 i2 i3)), .unset] [])) (fun t kt => ?_) ?_
          · show Steps p.tables e below (T177.setTop (mkF m 197 #[.val (.int i0), .val (.int i1), .val (.int i2), .val (.int i3), .val (.int i4), .val (.int i5), .val (.int (4 : Int32)), .val (.int i7), .val (.int i8), .val (.ref b140), .val (.int (1 : Int32)), .val (.int (f1n4_0 i8 i0 i1 i2 i3)), .unset] [(.int (1 : Int32)), (.int (4 : Int32))])) _
            refine XS.icmpNo X177.here hx rfl (hb hby at_197) rfl (tlt (by decide : ((1 : Int32) < (4 : Int32)))).2.2.2 kt
          refine own_step (T' := T177) (f' := (mkF m 205 #[.val (.int i0), .val (.int i1), .val (.int i2), .val (.int i3), .val (.int i4), .val (.int i5), .val (.int (4 : Int32)), .val (.int i7), .val (.int i8), .val (.ref b140), .val (.int (1 : Int32)), .val (.int (f1n4_0 i8 i0 i1 i2 i3)), .unset] [(.int i1), (.int i1)])) (fun t kt => ?_) ?_
          · show Steps p.tables e below (T177.setTop (mkF m 200 #[.val (.int i0), .val (.int i1), .val (.int i2), .val (.int i3), .val (.int i4), .val (.int i5), .val (.int (4 : Int32)), .val (.int i7), .val (.int i8), .val (.ref b140), .val (.int (1 : Int32)), .val (.int (f1n4_0 i8 i0 i1 i2 i3)), .unset] [])) _
            refine XS.aload X177.here hx rfl (hb hby at_200) rfl rfl ?_
            show Steps p.tables e below (T177.setTop (mkF m 202 #[.val (.int i0), .val (.int i1), .val (.int i2), .val (.int i3), .val (.int i4), .val (.int i5), .val (.int (4 : Int32)), .val (.int i7), .val (.int i8), .val (.ref b140), .val (.int (1 : Int32)), .val (.int (f1n4_0 i8 i0 i1 i2 i3)), .unset] [(.ref b140)])) _
            refine XS.iconst X177.here hx rfl (hb hby at_202) ?_
            show Steps p.tables e below (T177.setTop (mkF m 203 #[.val (.int i0), .val (.int i1), .val (.int i2), .val (.int i3), .val (.int i4), .val (.int i5), .val (.int (4 : Int32)), .val (.int i7), .val (.int i8), .val (.ref b140), .val (.int (1 : Int32)), .val (.int (f1n4_0 i8 i0 i1 i2 i3)), .unset] [(.int (1 : Int32)), (.ref b140)])) _
            refine own_ldI X177 hx hZ e177 Ab140_148 (j := (1 : Int32)) (by decide) (k := 1) (by decide) (v := (.int i1)) rfl (g := (mkF m 203 #[.val (.int i0), .val (.int i1), .val (.int i2), .val (.int i3), .val (.int i4), .val (.int i5), .val (.int (4 : Int32)), .val (.int i7), .val (.int i8), .val (.ref b140), .val (.int (1 : Int32)), .val (.int (f1n4_0 i8 i0 i1 i2 i3)), .unset] [(.int (1 : Int32)), (.ref b140)])) rfl rfl (hb hby at_203) _ ?_
            show Steps p.tables e below (T177.setTop (mkF m 204 #[.val (.int i0), .val (.int i1), .val (.int i2), .val (.int i3), .val (.int i4), .val (.int i5), .val (.int (4 : Int32)), .val (.int i7), .val (.int i8), .val (.ref b140), .val (.int (1 : Int32)), .val (.int (f1n4_0 i8 i0 i1 i2 i3)), .unset] [(.int i1)])) _
            refine XS.iloadN X177.here hx rfl (hb hby at_204) rfl ?_
            exact kt
          refine own_step (T' := T177) (f' := (mkF m 208 #[.val (.int i0), .val (.int i1), .val (.int i2), .val (.int i3), .val (.int i4), .val (.int i5), .val (.int (4 : Int32)), .val (.int i7), .val (.int i8), .val (.ref b140), .val (.int (1 : Int32)), .val (.int (f1n4_0 i8 i0 i1 i2 i3)), .unset] [])) (fun t kt => ?_) ?_
          · show Steps p.tables e below (T177.setTop (mkF m 205 #[.val (.int i0), .val (.int i1), .val (.int i2), .val (.int i3), .val (.int i4), .val (.int i5), .val (.int (4 : Int32)), .val (.int i7), .val (.int i8), .val (.ref b140), .val (.int (1 : Int32)), .val (.int (f1n4_0 i8 i0 i1 i2 i3)), .unset] [(.int i1), (.int i1)])) _
            refine XS.icmpNo X177.here hx rfl (hb hby at_205) rfl (teq (rfl : i1 = i1)).2 kt
          refine own_step (T' := T177) (f' := (mkF m 211 #[.val (.int i0), .val (.int i1), .val (.int i2), .val (.int i3), .val (.int i4), .val (.int i5), .val (.int (4 : Int32)), .val (.int i7), .val (.int i8), .val (.ref b140), .val (.int (1 : Int32)), .val (.int (f1n4_0 i8 i0 i1 i2 i3)), .unset] [(.int (2 : Int32)), (.int (4 : Int32))])) (fun t kt => ?_) ?_
          · show Steps p.tables e below (T177.setTop (mkF m 208 #[.val (.int i0), .val (.int i1), .val (.int i2), .val (.int i3), .val (.int i4), .val (.int i5), .val (.int (4 : Int32)), .val (.int i7), .val (.int i8), .val (.ref b140), .val (.int (1 : Int32)), .val (.int (f1n4_0 i8 i0 i1 i2 i3)), .unset] [])) _
            refine XS.iload X177.here hx rfl (hb hby at_208) rfl ?_
            show Steps p.tables e below (T177.setTop (mkF m 210 #[.val (.int i0), .val (.int i1), .val (.int i2), .val (.int i3), .val (.int i4), .val (.int i5), .val (.int (4 : Int32)), .val (.int i7), .val (.int i8), .val (.ref b140), .val (.int (1 : Int32)), .val (.int (f1n4_0 i8 i0 i1 i2 i3)), .unset] [(.int (4 : Int32))])) _
            refine XS.iconst X177.here hx rfl (hb hby at_210) ?_
            exact kt
          refine own_step (T' := T177) (f' := (mkF m 214 #[.val (.int i0), .val (.int i1), .val (.int i2), .val (.int i3), .val (.int i4), .val (.int i5), .val (.int (4 : Int32)), .val (.int i7), .val (.int i8), .val (.ref b140), .val (.int (1 : Int32)), .val (.int (f1n4_0 i8 i0 i1 i2 i3)), .unset] [])) (fun t kt => ?_) ?_
          · show Steps p.tables e below (T177.setTop (mkF m 211 #[.val (.int i0), .val (.int i1), .val (.int i2), .val (.int i3), .val (.int i4), .val (.int i5), .val (.int (4 : Int32)), .val (.int i7), .val (.int i8), .val (.ref b140), .val (.int (1 : Int32)), .val (.int (f1n4_0 i8 i0 i1 i2 i3)), .unset] [(.int (2 : Int32)), (.int (4 : Int32))])) _
            refine XS.icmpNo X177.here hx rfl (hb hby at_211) rfl (tlt (by decide : ((2 : Int32) < (4 : Int32)))).2.2.2 kt
          refine own_step (T' := T177) (f' := (mkF m 219 #[.val (.int i0), .val (.int i1), .val (.int i2), .val (.int i3), .val (.int i4), .val (.int i5), .val (.int (4 : Int32)), .val (.int i7), .val (.int i8), .val (.ref b140), .val (.int (1 : Int32)), .val (.int (f1n4_0 i8 i0 i1 i2 i3)), .unset] [(.int i2), (.int i2)])) (fun t kt => ?_) ?_
          · show Steps p.tables e below (T177.setTop (mkF m 214 #[.val (.int i0), .val (.int i1), .val (.int i2), .val (.int i3), .val (.int i4), .val (.int i5), .val (.int (4 : Int32)), .val (.int i7), .val (.int i8), .val (.ref b140), .val (.int (1 : Int32)), .val (.int (f1n4_0 i8 i0 i1 i2 i3)), .unset] [])) _
            refine XS.aload X177.here hx rfl (hb hby at_214) rfl rfl ?_
            show Steps p.tables e below (T177.setTop (mkF m 216 #[.val (.int i0), .val (.int i1), .val (.int i2), .val (.int i3), .val (.int i4), .val (.int i5), .val (.int (4 : Int32)), .val (.int i7), .val (.int i8), .val (.ref b140), .val (.int (1 : Int32)), .val (.int (f1n4_0 i8 i0 i1 i2 i3)), .unset] [(.ref b140)])) _
            refine XS.iconst X177.here hx rfl (hb hby at_216) ?_
            show Steps p.tables e below (T177.setTop (mkF m 217 #[.val (.int i0), .val (.int i1), .val (.int i2), .val (.int i3), .val (.int i4), .val (.int i5), .val (.int (4 : Int32)), .val (.int i7), .val (.int i8), .val (.ref b140), .val (.int (1 : Int32)), .val (.int (f1n4_0 i8 i0 i1 i2 i3)), .unset] [(.int (2 : Int32)), (.ref b140)])) _
            refine own_ldI X177 hx hZ e177 Ab140_148 (j := (2 : Int32)) (by decide) (k := 2) (by decide) (v := (.int i2)) rfl (g := (mkF m 217 #[.val (.int i0), .val (.int i1), .val (.int i2), .val (.int i3), .val (.int i4), .val (.int i5), .val (.int (4 : Int32)), .val (.int i7), .val (.int i8), .val (.ref b140), .val (.int (1 : Int32)), .val (.int (f1n4_0 i8 i0 i1 i2 i3)), .unset] [(.int (2 : Int32)), (.ref b140)])) rfl rfl (hb hby at_217) _ ?_
            show Steps p.tables e below (T177.setTop (mkF m 218 #[.val (.int i0), .val (.int i1), .val (.int i2), .val (.int i3), .val (.int i4), .val (.int i5), .val (.int (4 : Int32)), .val (.int i7), .val (.int i8), .val (.ref b140), .val (.int (1 : Int32)), .val (.int (f1n4_0 i8 i0 i1 i2 i3)), .unset] [(.int i2)])) _
            refine XS.iloadN X177.here hx rfl (hb hby at_218) rfl ?_
            exact kt
          refine own_step (T' := T177) (f' := (mkF m 222 #[.val (.int i0), .val (.int i1), .val (.int i2), .val (.int i3), .val (.int i4), .val (.int i5), .val (.int (4 : Int32)), .val (.int i7), .val (.int i8), .val (.ref b140), .val (.int (1 : Int32)), .val (.int (f1n4_0 i8 i0 i1 i2 i3)), .unset] [])) (fun t kt => ?_) ?_
          · show Steps p.tables e below (T177.setTop (mkF m 219 #[.val (.int i0), .val (.int i1), .val (.int i2), .val (.int i3), .val (.int i4), .val (.int i5), .val (.int (4 : Int32)), .val (.int i7), .val (.int i8), .val (.ref b140), .val (.int (1 : Int32)), .val (.int (f1n4_0 i8 i0 i1 i2 i3)), .unset] [(.int i2), (.int i2)])) _
            refine XS.icmpNo X177.here hx rfl (hb hby at_219) rfl (teq (rfl : i2 = i2)).2 kt
          refine own_step (T' := T177) (f' := (mkF m 225 #[.val (.int i0), .val (.int i1), .val (.int i2), .val (.int i3), .val (.int i4), .val (.int i5), .val (.int (4 : Int32)), .val (.int i7), .val (.int i8), .val (.ref b140), .val (.int (1 : Int32)), .val (.int (f1n4_0 i8 i0 i1 i2 i3)), .unset] [(.int (3 : Int32)), (.int (4 : Int32))])) (fun t kt => ?_) ?_
          · show Steps p.tables e below (T177.setTop (mkF m 222 #[.val (.int i0), .val (.int i1), .val (.int i2), .val (.int i3), .val (.int i4), .val (.int i5), .val (.int (4 : Int32)), .val (.int i7), .val (.int i8), .val (.ref b140), .val (.int (1 : Int32)), .val (.int (f1n4_0 i8 i0 i1 i2 i3)), .unset] [])) _
            refine XS.iload X177.here hx rfl (hb hby at_222) rfl ?_
            show Steps p.tables e below (T177.setTop (mkF m 224 #[.val (.int i0), .val (.int i1), .val (.int i2), .val (.int i3), .val (.int i4), .val (.int i5), .val (.int (4 : Int32)), .val (.int i7), .val (.int i8), .val (.ref b140), .val (.int (1 : Int32)), .val (.int (f1n4_0 i8 i0 i1 i2 i3)), .unset] [(.int (4 : Int32))])) _
            refine XS.iconst X177.here hx rfl (hb hby at_224) ?_
            exact kt
          refine own_step (T' := T177) (f' := (mkF m 228 #[.val (.int i0), .val (.int i1), .val (.int i2), .val (.int i3), .val (.int i4), .val (.int i5), .val (.int (4 : Int32)), .val (.int i7), .val (.int i8), .val (.ref b140), .val (.int (1 : Int32)), .val (.int (f1n4_0 i8 i0 i1 i2 i3)), .unset] [])) (fun t kt => ?_) ?_
          · show Steps p.tables e below (T177.setTop (mkF m 225 #[.val (.int i0), .val (.int i1), .val (.int i2), .val (.int i3), .val (.int i4), .val (.int i5), .val (.int (4 : Int32)), .val (.int i7), .val (.int i8), .val (.ref b140), .val (.int (1 : Int32)), .val (.int (f1n4_0 i8 i0 i1 i2 i3)), .unset] [(.int (3 : Int32)), (.int (4 : Int32))])) _
            refine XS.icmpNo X177.here hx rfl (hb hby at_225) rfl (tlt (by decide : ((3 : Int32) < (4 : Int32)))).2.2.2 kt
          refine own_step (T' := T177) (f' := (mkF m 233 #[.val (.int i0), .val (.int i1), .val (.int i2), .val (.int i3), .val (.int i4), .val (.int i5), .val (.int (4 : Int32)), .val (.int i7), .val (.int i8), .val (.ref b140), .val (.int (1 : Int32)), .val (.int (f1n4_0 i8 i0 i1 i2 i3)), .unset] [(.int i3), (.int i3)])) (fun t kt => ?_) ?_
          · show Steps p.tables e below (T177.setTop (mkF m 228 #[.val (.int i0), .val (.int i1), .val (.int i2), .val (.int i3), .val (.int i4), .val (.int i5), .val (.int (4 : Int32)), .val (.int i7), .val (.int i8), .val (.ref b140), .val (.int (1 : Int32)), .val (.int (f1n4_0 i8 i0 i1 i2 i3)), .unset] [])) _
            refine XS.aload X177.here hx rfl (hb hby at_228) rfl rfl ?_
            show Steps p.tables e below (T177.setTop (mkF m 230 #[.val (.int i0), .val (.int i1), .val (.int i2), .val (.int i3), .val (.int i4), .val (.int i5), .val (.int (4 : Int32)), .val (.int i7), .val (.int i8), .val (.ref b140), .val (.int (1 : Int32)), .val (.int (f1n4_0 i8 i0 i1 i2 i3)), .unset] [(.ref b140)])) _
            refine XS.iconst X177.here hx rfl (hb hby at_230) ?_
            show Steps p.tables e below (T177.setTop (mkF m 231 #[.val (.int i0), .val (.int i1), .val (.int i2), .val (.int i3), .val (.int i4), .val (.int i5), .val (.int (4 : Int32)), .val (.int i7), .val (.int i8), .val (.ref b140), .val (.int (1 : Int32)), .val (.int (f1n4_0 i8 i0 i1 i2 i3)), .unset] [(.int (3 : Int32)), (.ref b140)])) _
            refine own_ldI X177 hx hZ e177 Ab140_148 (j := (3 : Int32)) (by decide) (k := 3) (by decide) (v := (.int i3)) rfl (g := (mkF m 231 #[.val (.int i0), .val (.int i1), .val (.int i2), .val (.int i3), .val (.int i4), .val (.int i5), .val (.int (4 : Int32)), .val (.int i7), .val (.int i8), .val (.ref b140), .val (.int (1 : Int32)), .val (.int (f1n4_0 i8 i0 i1 i2 i3)), .unset] [(.int (3 : Int32)), (.ref b140)])) rfl rfl (hb hby at_231) _ ?_
            show Steps p.tables e below (T177.setTop (mkF m 232 #[.val (.int i0), .val (.int i1), .val (.int i2), .val (.int i3), .val (.int i4), .val (.int i5), .val (.int (4 : Int32)), .val (.int i7), .val (.int i8), .val (.ref b140), .val (.int (1 : Int32)), .val (.int (f1n4_0 i8 i0 i1 i2 i3)), .unset] [(.int i3)])) _
            refine XS.iloadN X177.here hx rfl (hb hby at_232) rfl ?_
            exact kt
          refine own_step (T' := T177) (f' := (mkF m 236 #[.val (.int i0), .val (.int i1), .val (.int i2), .val (.int i3), .val (.int i4), .val (.int i5), .val (.int (4 : Int32)), .val (.int i7), .val (.int i8), .val (.ref b140), .val (.int (1 : Int32)), .val (.int (f1n4_0 i8 i0 i1 i2 i3)), .unset] [])) (fun t kt => ?_) ?_
          · show Steps p.tables e below (T177.setTop (mkF m 233 #[.val (.int i0), .val (.int i1), .val (.int i2), .val (.int i3), .val (.int i4), .val (.int i5), .val (.int (4 : Int32)), .val (.int i7), .val (.int i8), .val (.ref b140), .val (.int (1 : Int32)), .val (.int (f1n4_0 i8 i0 i1 i2 i3)), .unset] [(.int i3), (.int i3)])) _
            refine XS.icmpNo X177.here hx rfl (hb hby at_233) rfl (teq (rfl : i3 = i3)).2 kt
          refine own_step (T' := T177) (f' := (mkF m 247 #[.val (.int i0), .val (.int i1), .val (.int i2), .val (.int i3), .val (.int i4), .val (.int i5), .val (.int (4 : Int32)), .val (.int i7), .val (.int i8), .val (.ref b140), .val (.int (1 : Int32)), .val (.int (f1n4_0 i8 i0 i1 i2 i3)), .val (.int (1 : Int32))] [(.int (1 : Int32)), (.int (f1n4_0 i8 i0 i1 i2 i3))])) (fun t kt => ?_) ?_
          · show Steps p.tables e below (T177.setTop (mkF m 236 #[.val (.int i0), .val (.int i1), .val (.int i2), .val (.int i3), .val (.int i4), .val (.int i5), .val (.int (4 : Int32)), .val (.int i7), .val (.int i8), .val (.ref b140), .val (.int (1 : Int32)), .val (.int (f1n4_0 i8 i0 i1 i2 i3)), .unset] [])) _
            refine XS.iconst X177.here hx rfl (hb hby at_236) ?_
            show Steps p.tables e below (T177.setTop (mkF m 237 #[.val (.int i0), .val (.int i1), .val (.int i2), .val (.int i3), .val (.int i4), .val (.int i5), .val (.int (4 : Int32)), .val (.int i7), .val (.int i8), .val (.ref b140), .val (.int (1 : Int32)), .val (.int (f1n4_0 i8 i0 i1 i2 i3)), .unset] [(.int (1 : Int32))])) _
            refine XS.goto X177.here hx rfl (pc0 := 237) (pc' := 241) rfl (hb hby at_237) (by decide) (by decide) ?_
            show Steps p.tables e below (T177.setTop (mkF m 241 #[.val (.int i0), .val (.int i1), .val (.int i2), .val (.int i3), .val (.int i4), .val (.int i5), .val (.int (4 : Int32)), .val (.int i7), .val (.int i8), .val (.ref b140), .val (.int (1 : Int32)), .val (.int (f1n4_0 i8 i0 i1 i2 i3)), .unset] [(.int (1 : Int32))])) _
            refine XS.istore X177.here hx rfl (hb hby at_241) rfl (l' := #[.val (.int i0), .val (.int i1), .val (.int i2), .val (.int i3), .val (.int i4), .val (.int i5), .val (.int (4 : Int32)), .val (.int i7), .val (.int i8), .val (.ref b140), .val (.int (1 : Int32)), .val (.int (f1n4_0 i8 i0 i1 i2 i3)), .val (.int (1 : Int32))]) rfl ?_
            show Steps p.tables e below (T177.setTop (mkF m 243 #[.val (.int i0), .val (.int i1), .val (.int i2), .val (.int i3), .val (.int i4), .val (.int i5), .val (.int (4 : Int32)), .val (.int i7), .val (.int i8), .val (.ref b140), .val (.int (1 : Int32)), .val (.int (f1n4_0 i8 i0 i1 i2 i3)), .val (.int (1 : Int32))] [])) _
            refine XS.iload X177.here hx rfl (hb hby at_243) rfl ?_
            show Steps p.tables e below (T177.setTop (mkF m 245 #[.val (.int i0), .val (.int i1), .val (.int i2), .val (.int i3), .val (.int i4), .val (.int i5), .val (.int (4 : Int32)), .val (.int i7), .val (.int i8), .val (.ref b140), .val (.int (1 : Int32)), .val (.int (f1n4_0 i8 i0 i1 i2 i3)), .val (.int (1 : Int32))] [(.int (f1n4_0 i8 i0 i1 i2 i3))])) _
            refine XS.iload X177.here hx rfl (hb hby at_245) rfl ?_
            exact kt
          by_cases hc247_186 : (f1n4_0 i8 i0 i1 i2 i3) = (1 : Int32)
          · rw [if_pos hc247_186] at hr
            refine own_step (T' := T177) (f' := (mkF m 250 #[.val (.int i0), .val (.int i1), .val (.int i2), .val (.int i3), .val (.int i4), .val (.int i5), .val (.int (4 : Int32)), .val (.int i7), .val (.int i8), .val (.ref b140), .val (.int (1 : Int32)), .val (.int (f1n4_0 i8 i0 i1 i2 i3)), .val (.int (1 : Int32))] [])) (fun t kt => ?_) ?_
            · show Steps p.tables e below (T177.setTop (mkF m 247 #[.val (.int i0), .val (.int i1), .val (.int i2), .val (.int i3), .val (.int i4), .val (.int i5), .val (.int (4 : Int32)), .val (.int i7), .val (.int i8), .val (.ref b140), .val (.int (1 : Int32)), .val (.int (f1n4_0 i8 i0 i1 i2 i3)), .val (.int (1 : Int32))] [(.int (1 : Int32)), (.int (f1n4_0 i8 i0 i1 i2 i3))])) _
              refine XS.icmpNo X177.here hx rfl (hb hby at_247) rfl (teq hc247_186).2 kt
            refine own_step (T' := T177) (f' := (mkF m 252 #[.val (.int i0), .val (.int i1), .val (.int i2), .val (.int i3), .val (.int i4), .val (.int i5), .val (.int (4 : Int32)), .val (.int i7), .val (.int i8), .val (.ref b140), .val (.int (1 : Int32)), .val (.int (f1n4_0 i8 i0 i1 i2 i3)), .val (.int (1 : Int32))] [(.int (1 : Int32))])) (fun t kt => ?_) ?_
            · show Steps p.tables e below (T177.setTop (mkF m 250 #[.val (.int i0), .val (.int i1), .val (.int i2), .val (.int i3), .val (.int i4), .val (.int i5), .val (.int (4 : Int32)), .val (.int i7), .val (.int i8), .val (.ref b140), .val (.int (1 : Int32)), .val (.int (f1n4_0 i8 i0 i1 i2 i3)), .val (.int (1 : Int32))] [])) _
              refine XS.iload X177.here hx rfl (hb hby at_250) rfl ?_
              exact kt
            refine own_step (T' := T177) (f' := (mkF m 255 #[.val (.int i0), .val (.int i1), .val (.int i2), .val (.int i3), .val (.int i4), .val (.int i5), .val (.int (4 : Int32)), .val (.int i7), .val (.int i8), .val (.ref b140), .val (.int (1 : Int32)), .val (.int (f1n4_0 i8 i0 i1 i2 i3)), .val (.int (1 : Int32))] [])) (fun t kt => ?_) ?_
            · show Steps p.tables e below (T177.setTop (mkF m 252 #[.val (.int i0), .val (.int i1), .val (.int i2), .val (.int i3), .val (.int i4), .val (.int i5), .val (.int (4 : Int32)), .val (.int i7), .val (.int i8), .val (.ref b140), .val (.int (1 : Int32)), .val (.int (f1n4_0 i8 i0 i1 i2 i3)), .val (.int (1 : Int32))] [(.int (1 : Int32))])) _
              refine XS.ifNo X177.here hx rfl (hb hby at_252) rfl ((if0 _ _).trans (feq (by decide : ¬ ((1 : Int32) = (0 : Int32)))).1) kt
            refine own_step (T' := T177) (f' := (mkF m 260 #[.val (.int i0), .val (.int i1), .val (.int i2), .val (.int i3), .val (.int i4), .val (.int i5), .val (.int (4 : Int32)), .val (.int i7), .val (.int i8), .val (.ref b140), .val (.int (1 : Int32)), .val (.int (f1n4_0 i8 i0 i1 i2 i3)), .val (.int (1 : Int32))] [(.int (1 : Int32))])) (fun t kt => ?_) ?_
            · show Steps p.tables e below (T177.setTop (mkF m 255 #[.val (.int i0), .val (.int i1), .val (.int i2), .val (.int i3), .val (.int i4), .val (.int i5), .val (.int (4 : Int32)), .val (.int i7), .val (.int i8), .val (.ref b140), .val (.int (1 : Int32)), .val (.int (f1n4_0 i8 i0 i1 i2 i3)), .val (.int (1 : Int32))] [])) _
              refine XS.iconst X177.here hx rfl (hb hby at_255) ?_
              show Steps p.tables e below (T177.setTop (mkF m 256 #[.val (.int i0), .val (.int i1), .val (.int i2), .val (.int i3), .val (.int i4), .val (.int i5), .val (.int (4 : Int32)), .val (.int i7), .val (.int i8), .val (.ref b140), .val (.int (1 : Int32)), .val (.int (f1n4_0 i8 i0 i1 i2 i3)), .val (.int (1 : Int32))] [(.int (1 : Int32))])) _
              refine XS.goto X177.here hx rfl (pc0 := 256) (pc' := 260) rfl (hb hby at_256) (by decide) (by decide) ?_
              exact kt
            exact own_retZ X177 hx hret (by simp) hlk (hb hby at_260) (by decide) (by decide) ⟨congrArg (fun z => some (Value.int z)) hr.symm, N177⟩
          · rw [if_neg hc247_186] at hr
            refine own_step (T' := T177) (f' := (mkF m 259 #[.val (.int i0), .val (.int i1), .val (.int i2), .val (.int i3), .val (.int i4), .val (.int i5), .val (.int (4 : Int32)), .val (.int i7), .val (.int i8), .val (.ref b140), .val (.int (1 : Int32)), .val (.int (f1n4_0 i8 i0 i1 i2 i3)), .val (.int (1 : Int32))] [])) (fun t kt => ?_) ?_
            · show Steps p.tables e below (T177.setTop (mkF m 247 #[.val (.int i0), .val (.int i1), .val (.int i2), .val (.int i3), .val (.int i4), .val (.int i5), .val (.int (4 : Int32)), .val (.int i7), .val (.int i8), .val (.ref b140), .val (.int (1 : Int32)), .val (.int (f1n4_0 i8 i0 i1 i2 i3)), .val (.int (1 : Int32))] [(.int (1 : Int32)), (.int (f1n4_0 i8 i0 i1 i2 i3))])) _
              refine XS.icmpYes X177.here hx rfl (pc0 := 247) (pc' := 259) rfl (hb hby at_247) rfl (feq hc247_186).2 (by decide) (by decide) kt
            refine own_step (T' := T177) (f' := (mkF m 260 #[.val (.int i0), .val (.int i1), .val (.int i2), .val (.int i3), .val (.int i4), .val (.int i5), .val (.int (4 : Int32)), .val (.int i7), .val (.int i8), .val (.ref b140), .val (.int (1 : Int32)), .val (.int (f1n4_0 i8 i0 i1 i2 i3)), .val (.int (1 : Int32))] [(.int (0 : Int32))])) (fun t kt => ?_) ?_
            · show Steps p.tables e below (T177.setTop (mkF m 259 #[.val (.int i0), .val (.int i1), .val (.int i2), .val (.int i3), .val (.int i4), .val (.int i5), .val (.int (4 : Int32)), .val (.int i7), .val (.int i8), .val (.ref b140), .val (.int (1 : Int32)), .val (.int (f1n4_0 i8 i0 i1 i2 i3)), .val (.int (1 : Int32))] [])) _
              refine XS.iconst X177.here hx rfl (hb hby at_259) ?_
              exact kt
            exact own_retZ X177 hx hret (by simp) hlk (hb hby at_260) (by decide) (by decide) ⟨congrArg (fun z => some (Value.int z)) hr.symm, N177⟩
        · rw [if_neg hc150_176] at hr
          refine own_step (T' := T148) (f' := (mkF m 153 #[.val (.int i0), .val (.int i1), .val (.int i2), .val (.int i3), .val (.int i4), .val (.int i5), .val (.int (4 : Int32)), .val (.int i7), .val (.int i8), .val (.ref b140), .unset, .unset, .unset] [])) (fun t kt => ?_) ?_
          · show Steps p.tables e below (T148.setTop (mkF m 150 #[.val (.int i0), .val (.int i1), .val (.int i2), .val (.int i3), .val (.int i4), .val (.int i5), .val (.int (4 : Int32)), .val (.int i7), .val (.int i8), .val (.ref b140), .unset, .unset, .unset] [(.int i8), (.int i2)])) _
            refine XS.icmpNo X148.here hx rfl (hb hby at_150) rfl (feq hc150_176).1 kt
          refine own_step (T' := T148) (f' := (mkF m 156 #[.val (.int i0), .val (.int i1), .val (.int i2), .val (.int i3), .val (.int i4), .val (.int i5), .val (.int (4 : Int32)), .val (.int i7), .val (.int i8), .val (.ref b140), .unset, .unset, .unset] [(.int (3 : Int32)), (.int (4 : Int32))])) (fun t kt => ?_) ?_
          · show Steps p.tables e below (T148.setTop (mkF m 153 #[.val (.int i0), .val (.int i1), .val (.int i2), .val (.int i3), .val (.int i4), .val (.int i5), .val (.int (4 : Int32)), .val (.int i7), .val (.int i8), .val (.ref b140), .unset, .unset, .unset] [])) _
            refine XS.iload X148.here hx rfl (hb hby at_153) rfl ?_
            show Steps p.tables e below (T148.setTop (mkF m 155 #[.val (.int i0), .val (.int i1), .val (.int i2), .val (.int i3), .val (.int i4), .val (.int i5), .val (.int (4 : Int32)), .val (.int i7), .val (.int i8), .val (.ref b140), .unset, .unset, .unset] [(.int (4 : Int32))])) _
            refine XS.iconst X148.here hx rfl (hb hby at_155) ?_
            exact kt
          refine own_step (T' := T148) (f' := (mkF m 159 #[.val (.int i0), .val (.int i1), .val (.int i2), .val (.int i3), .val (.int i4), .val (.int i5), .val (.int (4 : Int32)), .val (.int i7), .val (.int i8), .val (.ref b140), .unset, .unset, .unset] [])) (fun t kt => ?_) ?_
          · show Steps p.tables e below (T148.setTop (mkF m 156 #[.val (.int i0), .val (.int i1), .val (.int i2), .val (.int i3), .val (.int i4), .val (.int i5), .val (.int (4 : Int32)), .val (.int i7), .val (.int i8), .val (.ref b140), .unset, .unset, .unset] [(.int (3 : Int32)), (.int (4 : Int32))])) _
            refine XS.icmpNo X148.here hx rfl (hb hby at_156) rfl (tlt (by decide : ((3 : Int32) < (4 : Int32)))).2.2.2 kt
          refine own_step (T' := T148) (f' := (mkF m 162 #[.val (.int i0), .val (.int i1), .val (.int i2), .val (.int i3), .val (.int i4), .val (.int i5), .val (.int (4 : Int32)), .val (.int i7), .val (.int i8), .val (.ref b140), .unset, .unset, .unset] [(.int i8), (.int i3)])) (fun t kt => ?_) ?_
          · show Steps p.tables e below (T148.setTop (mkF m 159 #[.val (.int i0), .val (.int i1), .val (.int i2), .val (.int i3), .val (.int i4), .val (.int i5), .val (.int (4 : Int32)), .val (.int i7), .val (.int i8), .val (.ref b140), .unset, .unset, .unset] [])) _
            refine XS.iloadN X148.here hx rfl (hb hby at_159) rfl ?_
            show Steps p.tables e below (T148.setTop (mkF m 160 #[.val (.int i0), .val (.int i1), .val (.int i2), .val (.int i3), .val (.int i4), .val (.int i5), .val (.int (4 : Int32)), .val (.int i7), .val (.int i8), .val (.ref b140), .unset, .unset, .unset] [(.int i3)])) _
            refine XS.iload X148.here hx rfl (hb hby at_160) rfl ?_
            exact kt
          by_cases hc162_189 : i3 = i8
          · rw [if_pos hc162_189] at hr
            refine own_step (T' := T148) (f' := (mkF m 165 #[.val (.int i0), .val (.int i1), .val (.int i2), .val (.int i3), .val (.int i4), .val (.int i5), .val (.int (4 : Int32)), .val (.int i7), .val (.int i8), .val (.ref b140), .unset, .unset, .unset] [])) (fun t kt => ?_) ?_
            · show Steps p.tables e below (T148.setTop (mkF m 162 #[.val (.int i0), .val (.int i1), .val (.int i2), .val (.int i3), .val (.int i4), .val (.int i5), .val (.int (4 : Int32)), .val (.int i7), .val (.int i8), .val (.ref b140), .unset, .unset, .unset] [(.int i8), (.int i3)])) _
              refine XS.icmpNo X148.here hx rfl (hb hby at_162) rfl (teq hc162_189).2 kt
            refine own_step (T' := T148) (f' := (mkF m 176 #[.val (.int i0), .val (.int i1), .val (.int i2), .val (.int i3), .val (.int i4), .val (.int i5), .val (.int (4 : Int32)), .val (.int i7), .val (.int i8), .val (.ref b140), .val (.int (1 : Int32)), .unset, .unset] [(.int i8), (.ref b140)])) (fun t kt => ?_) ?_
            · show Steps p.tables e below (T148.setTop (mkF m 165 #[.val (.int i0), .val (.int i1), .val (.int i2), .val (.int i3), .val (.int i4), .val (.int i5), .val (.int (4 : Int32)), .val (.int i7), .val (.int i8), .val (.ref b140), .unset, .unset, .unset] [])) _
              refine XS.iconst X148.here hx rfl (hb hby at_165) ?_
              show Steps p.tables e below (T148.setTop (mkF m 166 #[.val (.int i0), .val (.int i1), .val (.int i2), .val (.int i3), .val (.int i4), .val (.int i5), .val (.int (4 : Int32)), .val (.int i7), .val (.int i8), .val (.ref b140), .unset, .unset, .unset] [(.int (1 : Int32))])) _
              refine XS.goto X148.here hx rfl (pc0 := 166) (pc' := 170) rfl (hb hby at_166) (by decide) (by decide) ?_
              show Steps p.tables e below (T148.setTop (mkF m 170 #[.val (.int i0), .val (.int i1), .val (.int i2), .val (.int i3), .val (.int i4), .val (.int i5), .val (.int (4 : Int32)), .val (.int i7), .val (.int i8), .val (.ref b140), .unset, .unset, .unset] [(.int (1 : Int32))])) _
              refine XS.istore X148.here hx rfl (hb hby at_170) rfl (l' := #[.val (.int i0), .val (.int i1), .val (.int i2), .val (.int i3), .val (.int i4), .val (.int i5), .val (.int (4 : Int32)), .val (.int i7), .val (.int i8), .val (.ref b140), .val (.int (1 : Int32)), .unset, .unset]) rfl ?_
              show Steps p.tables e below (T148.setTop (mkF m 172 #[.val (.int i0), .val (.int i1), .val (.int i2), .val (.int i3), .val (.int i4), .val (.int i5), .val (.int (4 : Int32)), .val (.int i7), .val (.int i8), .val (.ref b140), .val (.int (1 : Int32)), .unset, .unset] [])) _
              refine XS.aload X148.here hx rfl (hb hby at_172) rfl rfl ?_
              show Steps p.tables e below (T148.setTop (mkF m 174 #[.val (.int i0), .val (.int i1), .val (.int i2), .val (.int i3), .val (.int i4), .val (.int i5), .val (.int (4 : Int32)), .val (.int i7), .val (.int i8), .val (.ref b140), .val (.int (1 : Int32)), .unset, .unset] [(.ref b140)])) _
              refine XS.iload X148.here hx rfl (hb hby at_174) rfl ?_
              exact kt
            obtain ⟨_, _, ⟨T190, L190, k190, n190⟩, -, X190, ⟨Lc190, hQ190, l190, y190, z190⟩, st190⟩ := Jvm.LawKit.callS X148 hx (y := (⟨"com/example/conceal/conceal/SensitiveHolders", "contains", "([II)Z"⟩ : MethodName)) hown (mvT hZ (hw _ (List.mem_of_getElem? (i := 1) rfl))) (mvT hZ (hw _ (List.mem_of_getElem? (i := 2) rfl))) (mvT hZ (hw _ (List.mem_of_getElem? (i := 3) rfl))) (mvT hZ (hw _ (List.mem_of_getElem? (i := 4) rfl))) (by decide) (backOf (W := 0) (rm1n4 l Z a0 hw [] b140 i8 i0 i1 i2 i3 h148 n0 Ab140_148) hZ (hw _ (List.mem_of_getElem? (i := 4) rfl)) (hw _ (List.mem_of_getElem? (i := 3) rfl)) (by decide) (by decide)) (g := (mkF m 176 #[.val (.int i0), .val (.int i1), .val (.int i2), .val (.int i3), .val (.int i4), .val (.int i5), .val (.int (4 : Int32)), .val (.int i7), .val (.int i8), .val (.ref b140), .val (.int (1 : Int32)), .unset, .unset] [(.int i8), (.ref b140)])) rfl (by rw [hml]; rfl) (argsL := [(.ref b140), (.int i8)]) (rest := []) (lenOf pd1 rfl) rfl (by show 2 * 0 + _ ≤ _; exact Nat.le_of_eq rfl) (hb hby at_176) (fun _ _ => ⟨rfl, e148, (by decide : 1 + 0 ≤ _), (by decide : 4 + 0 ≤ _)⟩)
            dsimp only [Pt.U, Pt.locs, Pt.cells, Pt.slots] at X190 l190 y190 z190 st190 hQ190
            subst l190 y190 z190
            obtain ⟨rfl, Nq190, e190⟩ := hQ190
            have N190 := Fr.app N148 Nq190
            refine own_step (T' := T190) (f' := (mkF m 179 #[.val (.int i0), .val (.int i1), .val (.int i2), .val (.int i3), .val (.int i4), .val (.int i5), .val (.int (4 : Int32)), .val (.int i7), .val (.int i8), .val (.ref b140), .val (.int (1 : Int32)), .unset, .unset] [(.int (f1n4_0 i8 i0 i1 i2 i3))])) st190 ?_
            refine own_step (T' := T190) (f' := (mkF m 183 #[.val (.int i0), .val (.int i1), .val (.int i2), .val (.int i3), .val (.int i4), .val (.int i5), .val (.int (4 : Int32)), .val (.int i7), .val (.int i8), .val (.ref b140), .val (.int (1 : Int32)), .val (.int (f1n4_0 i8 i0 i1 i2 i3)), .unset] [(.int (4 : Int32))])) (fun t kt => ?_) ?_
            · show Steps p.tables e below (T190.setTop (mkF m 179 #[.val (.int i0), .val (.int i1), .val (.int i2), .val (.int i3), .val (.int i4), .val (.int i5), .val (.int (4 : Int32)), .val (.int i7), .val (.int i8), .val (.ref b140), .val (.int (1 : Int32)), .unset, .unset] [(.int (f1n4_0 i8 i0 i1 i2 i3))])) _
              refine XS.istore X190.here hx rfl (hb hby at_179) rfl (l' := #[.val (.int i0), .val (.int i1), .val (.int i2), .val (.int i3), .val (.int i4), .val (.int i5), .val (.int (4 : Int32)), .val (.int i7), .val (.int i8), .val (.ref b140), .val (.int (1 : Int32)), .val (.int (f1n4_0 i8 i0 i1 i2 i3)), .unset]) rfl ?_
              show Steps p.tables e below (T190.setTop (mkF m 181 #[.val (.int i0), .val (.int i1), .val (.int i2), .val (.int i3), .val (.int i4), .val (.int i5), .val (.int (4 : Int32)), .val (.int i7), .val (.int i8), .val (.ref b140), .val (.int (1 : Int32)), .val (.int (f1n4_0 i8 i0 i1 i2 i3)), .unset] [])) _
              refine XS.iload X190.here hx rfl (hb hby at_181) rfl ?_
              exact kt
            refine own_step (T' := T190) (f' := (mkF m 186 #[.val (.int i0), .val (.int i1), .val (.int i2), .val (.int i3), .val (.int i4), .val (.int i5), .val (.int (4 : Int32)), .val (.int i7), .val (.int i8), .val (.ref b140), .val (.int (1 : Int32)), .val (.int (f1n4_0 i8 i0 i1 i2 i3)), .unset] [])) (fun t kt => ?_) ?_
            · show Steps p.tables e below (T190.setTop (mkF m 183 #[.val (.int i0), .val (.int i1), .val (.int i2), .val (.int i3), .val (.int i4), .val (.int i5), .val (.int (4 : Int32)), .val (.int i7), .val (.int i8), .val (.ref b140), .val (.int (1 : Int32)), .val (.int (f1n4_0 i8 i0 i1 i2 i3)), .unset] [(.int (4 : Int32))])) _
              refine XS.ifNo X190.here hx rfl (hb hby at_183) rfl ((if0 _ _).trans (tlt (by decide : ((0 : Int32) < (4 : Int32)))).2.2.2) kt
            refine own_step (T' := T190) (f' := (mkF m 191 #[.val (.int i0), .val (.int i1), .val (.int i2), .val (.int i3), .val (.int i4), .val (.int i5), .val (.int (4 : Int32)), .val (.int i7), .val (.int i8), .val (.ref b140), .val (.int (1 : Int32)), .val (.int (f1n4_0 i8 i0 i1 i2 i3)), .unset] [(.int i0), (.int i0)])) (fun t kt => ?_) ?_
            · show Steps p.tables e below (T190.setTop (mkF m 186 #[.val (.int i0), .val (.int i1), .val (.int i2), .val (.int i3), .val (.int i4), .val (.int i5), .val (.int (4 : Int32)), .val (.int i7), .val (.int i8), .val (.ref b140), .val (.int (1 : Int32)), .val (.int (f1n4_0 i8 i0 i1 i2 i3)), .unset] [])) _
              refine XS.aload X190.here hx rfl (hb hby at_186) rfl rfl ?_
              show Steps p.tables e below (T190.setTop (mkF m 188 #[.val (.int i0), .val (.int i1), .val (.int i2), .val (.int i3), .val (.int i4), .val (.int i5), .val (.int (4 : Int32)), .val (.int i7), .val (.int i8), .val (.ref b140), .val (.int (1 : Int32)), .val (.int (f1n4_0 i8 i0 i1 i2 i3)), .unset] [(.ref b140)])) _
              refine XS.iconst X190.here hx rfl (hb hby at_188) ?_
              show Steps p.tables e below (T190.setTop (mkF m 189 #[.val (.int i0), .val (.int i1), .val (.int i2), .val (.int i3), .val (.int i4), .val (.int i5), .val (.int (4 : Int32)), .val (.int i7), .val (.int i8), .val (.ref b140), .val (.int (1 : Int32)), .val (.int (f1n4_0 i8 i0 i1 i2 i3)), .unset] [(.int (0 : Int32)), (.ref b140)])) _
              refine own_ldI X190 hx hZ e190 Ab140_148 (j := (0 : Int32)) (by decide) (k := 0) (by decide) (v := (.int i0)) rfl (g := (mkF m 189 #[.val (.int i0), .val (.int i1), .val (.int i2), .val (.int i3), .val (.int i4), .val (.int i5), .val (.int (4 : Int32)), .val (.int i7), .val (.int i8), .val (.ref b140), .val (.int (1 : Int32)), .val (.int (f1n4_0 i8 i0 i1 i2 i3)), .unset] [(.int (0 : Int32)), (.ref b140)])) rfl rfl (hb hby at_189) _ ?_
              show Steps p.tables e below (T190.setTop (mkF m 190 #[.val (.int i0), .val (.int i1), .val (.int i2), .val (.int i3), .val (.int i4), .val (.int i5), .val (.int (4 : Int32)), .val (.int i7), .val (.int i8), .val (.ref b140), .val (.int (1 : Int32)), .val (.int (f1n4_0 i8 i0 i1 i2 i3)), .unset] [(.int i0)])) _
              refine XS.iloadN X190.here hx rfl (hb hby at_190) rfl ?_
              exact kt
            refine own_step (T' := T190) (f' := (mkF m 194 #[.val (.int i0), .val (.int i1), .val (.int i2), .val (.int i3), .val (.int i4), .val (.int i5), .val (.int (4 : Int32)), .val (.int i7), .val (.int i8), .val (.ref b140), .val (.int (1 : Int32)), .val (.int (f1n4_0 i8 i0 i1 i2 i3)), .unset] [])) (fun t kt => ?_) ?_
            · show Steps p.tables e below (T190.setTop (mkF m 191 #[.val (.int i0), .val (.int i1), .val (.int i2), .val (.int i3), .val (.int i4), .val (.int i5), .val (.int (4 : Int32)), .val (.int i7), .val (.int i8), .val (.ref b140), .val (.int (1 : Int32)), .val (.int (f1n4_0 i8 i0 i1 i2 i3)), .unset] [(.int i0), (.int i0)])) _
              refine XS.icmpNo X190.here hx rfl (hb hby at_191) rfl (teq (rfl : i0 = i0)).2 kt
            refine own_step (T' := T190) (f' := (mkF m 197 #[.val (.int i0), .val (.int i1), .val (.int i2), .val (.int i3), .val (.int i4), .val (.int i5), .val (.int (4 : Int32)), .val (.int i7), .val (.int i8), .val (.ref b140), .val (.int (1 : Int32)), .val (.int (f1n4_0 i8 i0 i1 i2 i3)), .unset] [(.int (1 : Int32)), (.int (4 : Int32))])) (fun t kt => ?_) ?_
            · show Steps p.tables e below (T190.setTop (mkF m 194 #[.val (.int i0), .val (.int i1), .val (.int i2), .val (.int i3), .val (.int i4), .val (.int i5), .val (.int (4 : Int32)), .val (.int i7), .val (.int i8), .val (.ref b140), .val (.int (1 : Int32)), .val (.int (f1n4_0 i8 i0 i1 i2 i3)), .unset] [])) _
              refine XS.iload X190.here hx rfl (hb hby at_194) rfl ?_
              show Steps p.tables e below (T190.setTop (mkF m 196 #[.val (.int i0), .val (.int i1), .val (.int i2), .val (.int i3), .val (.int i4), .val (.int i5), .val (.int (4 : Int32)), .val (.int i7), .val (.int i8), .val (.ref b140), .val (.int (1 : Int32)), .val (.int (f1n4_0 i8 i0 i1 i2 i3)), .unset] [(.int (4 : Int32))])) _
              refine XS.iconst X190.here hx rfl (hb hby at_196) ?_
              exact kt
            refine own_step (T' := T190) (f' := (mkF m 200 #[.val (.int i0), .val (.int i1), .val (.int i2), .val (.int i3), .val (.int i4), .val (.int i5), .val (.int (4 : Int32)), .val (.int i7), .val (.int i8), .val (.ref b140), .val (.int (1 : Int32)), .val (.int (f1n4_0 i8 i0 i1 i2 i3)), .unset] [])) (fun t kt => ?_) ?_
            · show Steps p.tables e below (T190.setTop (mkF m 197 #[.val (.int i0), .val (.int i1), .val (.int i2), .val (.int i3), .val (.int i4), .val (.int i5), .val (.int (4 : Int32)), .val (.int i7), .val (.int i8), .val (.ref b140), .val (.int (1 : Int32)), .val (.int (f1n4_0 i8 i0 i1 i2 i3)), .unset] [(.int (1 : Int32)), (.int (4 : Int32))])) _
              refine XS.icmpNo X190.here hx rfl (hb hby at_197) rfl (tlt (by decide : ((1 : Int32) < (4 : Int32)))).2.2.2 kt
            refine own_step (T' := T190) (f' := (mkF m 205 #[.val (.int i0), .val (.int i1), .val (.int i2), .val (.int i3), .val (.int i4), .val (.int i5), .val (.int (4 : Int32)), .val (.int i7), .val (.int i8), .val (.ref b140), .val (.int (1 : Int32)), .val (.int (f1n4_0 i8 i0 i1 i2 i3)), .unset] [(.int i1), (.int i1)])) (fun t kt => ?_) ?_
            · show Steps p.tables e below (T190.setTop (mkF m 200 #[.val (.int i0), .val (.int i1), .val (.int i2), .val (.int i3), .val (.int i4), .val (.int i5), .val (.int (4 : Int32)), .val (.int i7), .val (.int i8), .val (.ref b140), .val (.int (1 : Int32)), .val (.int (f1n4_0 i8 i0 i1 i2 i3)), .unset] [])) _
              refine XS.aload X190.here hx rfl (hb hby at_200) rfl rfl ?_
              show Steps p.tables e below (T190.setTop (mkF m 202 #[.val (.int i0), .val (.int i1), .val (.int i2), .val (.int i3), .val (.int i4), .val (.int i5), .val (.int (4 : Int32)), .val (.int i7), .val (.int i8), .val (.ref b140), .val (.int (1 : Int32)), .val (.int (f1n4_0 i8 i0 i1 i2 i3)), .unset] [(.ref b140)])) _
              refine XS.iconst X190.here hx rfl (hb hby at_202) ?_
              show Steps p.tables e below (T190.setTop (mkF m 203 #[.val (.int i0), .val (.int i1), .val (.int i2), .val (.int i3), .val (.int i4), .val (.int i5), .val (.int (4 : Int32)), .val (.int i7), .val (.int i8), .val (.ref b140), .val (.int (1 : Int32)), .val (.int (f1n4_0 i8 i0 i1 i2 i3)), .unset] [(.int (1 : Int32)), (.ref b140)])) _
              refine own_ldI X190 hx hZ e190 Ab140_148 (j := (1 : Int32)) (by decide) (k := 1) (by decide) (v := (.int i1)) rfl (g := (mkF m 203 #[.val (.int i0), .val (.int i1), .val (.int i2), .val (.int i3), .val (.int i4), .val (.int i5), .val (.int (4 : Int32)), .val (.int i7), .val (.int i8), .val (.ref b140), .val (.int (1 : Int32)), .val (.int (f1n4_0 i8 i0 i1 i2 i3)), .unset] [(.int (1 : Int32)), (.ref b140)])) rfl rfl (hb hby at_203) _ ?_
              show Steps p.tables e below (T190.setTop (mkF m 204 #[.val (.int i0), .val (.int i1), .val (.int i2), .val (.int i3), .val (.int i4), .val (.int i5), .val (.int (4 : Int32)), .val (.int i7), .val (.int i8), .val (.ref b140), .val (.int (1 : Int32)), .val (.int (f1n4_0 i8 i0 i1 i2 i3)), .unset] [(.int i1)])) _
              refine XS.iloadN X190.here hx rfl (hb hby at_204) rfl ?_
              exact kt
            refine own_step (T' := T190) (f' := (mkF m 208 #[.val (.int i0), .val (.int i1), .val (.int i2), .val (.int i3), .val (.int i4), .val (.int i5), .val (.int (4 : Int32)), .val (.int i7), .val (.int i8), .val (.ref b140), .val (.int (1 : Int32)), .val (.int (f1n4_0 i8 i0 i1 i2 i3)), .unset] [])) (fun t kt => ?_) ?_
            · show Steps p.tables e below (T190.setTop (mkF m 205 #[.val (.int i0), .val (.int i1), .val (.int i2), .val (.int i3), .val (.int i4), .val (.int i5), .val (.int (4 : Int32)), .val (.int i7), .val (.int i8), .val (.ref b140), .val (.int (1 : Int32)), .val (.int (f1n4_0 i8 i0 i1 i2 i3)), .unset] [(.int i1), (.int i1)])) _
              refine XS.icmpNo X190.here hx rfl (hb hby at_205) rfl (teq (rfl : i1 = i1)).2 kt
            refine own_step (T' := T190) (f' := (mkF m 211 #[.val (.int i0), .val (.int i1), .val (.int i2), .val (.int i3), .val (.int i4), .val (.int i5), .val (.int (4 : Int32)), .val (.int i7), .val (.int i8), .val (.ref b140), .val (.int (1 : Int32)), .val (.int (f1n4_0 i8 i0 i1 i2 i3)), .unset] [(.int (2 : Int32)), (.int (4 : Int32))])) (fun t kt => ?_) ?_
            · show Steps p.tables e below (T190.setTop (mkF m 208 #[.val (.int i0), .val (.int i1), .val (.int i2), .val (.int i3), .val (.int i4), .val (.int i5), .val (.int (4 : Int32)), .val (.int i7), .val (.int i8), .val (.ref b140), .val (.int (1 : Int32)), .val (.int (f1n4_0 i8 i0 i1 i2 i3)), .unset] [])) _
              refine XS.iload X190.here hx rfl (hb hby at_208) rfl ?_
              show Steps p.tables e below (T190.setTop (mkF m 210 #[.val (.int i0), .val (.int i1), .val (.int i2), .val (.int i3), .val (.int i4), .val (.int i5), .val (.int (4 : Int32)), .val (.int i7), .val (.int i8), .val (.ref b140), .val (.int (1 : Int32)), .val (.int (f1n4_0 i8 i0 i1 i2 i3)), .unset] [(.int (4 : Int32))])) _
              refine XS.iconst X190.here hx rfl (hb hby at_210) ?_
              exact kt
            refine own_step (T' := T190) (f' := (mkF m 214 #[.val (.int i0), .val (.int i1), .val (.int i2), .val (.int i3), .val (.int i4), .val (.int i5), .val (.int (4 : Int32)), .val (.int i7), .val (.int i8), .val (.ref b140), .val (.int (1 : Int32)), .val (.int (f1n4_0 i8 i0 i1 i2 i3)), .unset] [])) (fun t kt => ?_) ?_
            · show Steps p.tables e below (T190.setTop (mkF m 211 #[.val (.int i0), .val (.int i1), .val (.int i2), .val (.int i3), .val (.int i4), .val (.int i5), .val (.int (4 : Int32)), .val (.int i7), .val (.int i8), .val (.ref b140), .val (.int (1 : Int32)), .val (.int (f1n4_0 i8 i0 i1 i2 i3)), .unset] [(.int (2 : Int32)), (.int (4 : Int32))])) _
              refine XS.icmpNo X190.here hx rfl (hb hby at_211) rfl (tlt (by decide : ((2 : Int32) < (4 : Int32)))).2.2.2 kt
            refine own_step (T' := T190) (f' := (mkF m 219 #[.val (.int i0), .val (.int i1), .val (.int i2), .val (.int i3), .val (.int i4), .val (.int i5), .val (.int (4 : Int32)), .val (.int i7), .val (.int i8), .val (.ref b140), .val (.int (1 : Int32)), .val (.int (f1n4_0 i8 i0 i1 i2 i3)), .unset] [(.int i2), (.int i2)])) (fun t kt => ?_) ?_
            · show Steps p.tables e below (T190.setTop (mkF m 214 #[.val (.int i0), .val (.int i1), .val (.int i2), .val (.int i3), .val (.int i4), .val (.int i5), .val (.int (4 : Int32)), .val (.int i7), .val (.int i8), .val (.ref b140), .val (.int (1 : Int32)), .val (.int (f1n4_0 i8 i0 i1 i2 i3)), .unset] [])) _
              refine XS.aload X190.here hx rfl (hb hby at_214) rfl rfl ?_
              show Steps p.tables e below (T190.setTop (mkF m 216 #[.val (.int i0), .val (.int i1), .val (.int i2), .val (.int i3), .val (.int i4), .val (.int i5), .val (.int (4 : Int32)), .val (.int i7), .val (.int i8), .val (.ref b140), .val (.int (1 : Int32)), .val (.int (f1n4_0 i8 i0 i1 i2 i3)), .unset] [(.ref b140)])) _
              refine XS.iconst X190.here hx rfl (hb hby at_216) ?_
              show Steps p.tables e below (T190.setTop (mkF m 217 #[.val (.int i0), .val (.int i1), .val (.int i2), .val (.int i3), .val (.int i4), .val (.int i5), .val (.int (4 : Int32)), .val (.int i7), .val (.int i8), .val (.ref b140), .val (.int (1 : Int32)), .val (.int (f1n4_0 i8 i0 i1 i2 i3)), .unset] [(.int (2 : Int32)), (.ref b140)])) _
              refine own_ldI X190 hx hZ e190 Ab140_148 (j := (2 : Int32)) (by decide) (k := 2) (by decide) (v := (.int i2)) rfl (g := (mkF m 217 #[.val (.int i0), .val (.int i1), .val (.int i2), .val (.int i3), .val (.int i4), .val (.int i5), .val (.int (4 : Int32)), .val (.int i7), .val (.int i8), .val (.ref b140), .val (.int (1 : Int32)), .val (.int (f1n4_0 i8 i0 i1 i2 i3)), .unset] [(.int (2 : Int32)), (.ref b140)])) rfl rfl (hb hby at_217) _ ?_
              show Steps p.tables e below (T190.setTop (mkF m 218 #[.val (.int i0), .val (.int i1), .val (.int i2), .val (.int i3), .val (.int i4), .val (.int i5), .val (.int (4 : Int32)), .val (.int i7), .val (.int i8), .val (.ref b140), .val (.int (1 : Int32)), .val (.int (f1n4_0 i8 i0 i1 i2 i3)), .unset] [(.int i2)])) _
              refine XS.iloadN X190.here hx rfl (hb hby at_218) rfl ?_
              exact kt
            refine own_step (T' := T190) (f' := (mkF m 222 #[.val (.int i0), .val (.int i1), .val (.int i2), .val (.int i3), .val (.int i4), .val (.int i5), .val (.int (4 : Int32)), .val (.int i7), .val (.int i8), .val (.ref b140), .val (.int (1 : Int32)), .val (.int (f1n4_0 i8 i0 i1 i2 i3)), .unset] [])) (fun t kt => ?_) ?_
            · show Steps p.tables e below (T190.setTop (mkF m 219 #[.val (.int i0), .val (.int i1), .val (.int i2), .val (.int i3), .val (.int i4), .val (.int i5), .val (.int (4 : Int32)), .val (.int i7), .val (.int i8), .val (.ref b140), .val (.int (1 : Int32)), .val (.int (f1n4_0 i8 i0 i1 i2 i3)), .unset] [(.int i2), (.int i2)])) _
              refine XS.icmpNo X190.here hx rfl (hb hby at_219) rfl (teq (rfl : i2 = i2)).2 kt
            refine own_step (T' := T190) (f' := (mkF m 225 #[.val (.int i0), .val (.int i1), .val (.int i2), .val (.int i3), .val (.int i4), .val (.int i5), .val (.int (4 : Int32)), .val (.int i7), .val (.int i8), .val (.ref b140), .val (.int (1 : Int32)), .val (.int (f1n4_0 i8 i0 i1 i2 i3)), .unset] [(.int (3 : Int32)), (.int (4 : Int32))])) (fun t kt => ?_) ?_
            · show Steps p.tables e below (T190.setTop (mkF m 222 #[.val (.int i0), .val (.int i1), .val (.int i2), .val (.int i3), .val (.int i4), .val (.int i5), .val (.int (4 : Int32)), .val (.int i7), .val (.int i8), .val (.ref b140), .val (.int (1 : Int32)), .val (.int (f1n4_0 i8 i0 i1 i2 i3)), .unset] [])) _
              refine XS.iload X190.here hx rfl (hb hby at_222) rfl ?_
              show Steps p.tables e below (T190.setTop (mkF m 224 #[.val (.int i0), .val (.int i1), .val (.int i2), .val (.int i3), .val (.int i4), .val (.int i5), .val (.int (4 : Int32)), .val (.int i7), .val (.int i8), .val (.ref b140), .val (.int (1 : Int32)), .val (.int (f1n4_0 i8 i0 i1 i2 i3)), .unset] [(.int (4 : Int32))])) _
              refine XS.iconst X190.here hx rfl (hb hby at_224) ?_
              exact kt
            refine own_step (T' := T190) (f' := (mkF m 228 #[.val (.int i0), .val (.int i1), .val (.int i2), .val (.int i3), .val (.int i4), .val (.int i5), .val (.int (4 : Int32)), .val (.int i7), .val (.int i8), .val (.ref b140), .val (.int (1 : Int32)), .val (.int (f1n4_0 i8 i0 i1 i2 i3)), .unset] [])) (fun t kt => ?_) ?_
            · show Steps p.tables e below (T190.setTop (mkF m 225 #[.val (.int i0), .val (.int i1), .val (.int i2), .val (.int i3), .val (.int i4), .val (.int i5), .val (.int (4 : Int32)), .val (.int i7), .val (.int i8), .val (.ref b140), .val (.int (1 : Int32)), .val (.int (f1n4_0 i8 i0 i1 i2 i3)), .unset] [(.int (3 : Int32)), (.int (4 : Int32))])) _
              refine XS.icmpNo X190.here hx rfl (hb hby at_225) rfl (tlt (by decide : ((3 : Int32) < (4 : Int32)))).2.2.2 kt
            refine own_step (T' := T190) (f' := (mkF m 233 #[.val (.int i0), .val (.int i1), .val (.int i2), .val (.int i3), .val (.int i4), .val (.int i5), .val (.int (4 : Int32)), .val (.int i7), .val (.int i8), .val (.ref b140), .val (.int (1 : Int32)), .val (.int (f1n4_0 i8 i0 i1 i2 i3)), .unset] [(.int i3), (.int i3)])) (fun t kt => ?_) ?_
            · show Steps p.tables e below (T190.setTop (mkF m 228 #[.val (.int i0), .val (.int i1), .val (.int i2), .val (.int i3), .val (.int i4), .val (.int i5), .val (.int (4 : Int32)), .val (.int i7), .val (.int i8), .val (.ref b140), .val (.int (1 : Int32)), .val (.int (f1n4_0 i8 i0 i1 i2 i3)), .unset] [])) _
              refine XS.aload X190.here hx rfl (hb hby at_228) rfl rfl ?_
              show Steps p.tables e below (T190.setTop (mkF m 230 #[.val (.int i0), .val (.int i1), .val (.int i2), .val (.int i3), .val (.int i4), .val (.int i5), .val (.int (4 : Int32)), .val (.int i7), .val (.int i8), .val (.ref b140), .val (.int (1 : Int32)), .val (.int (f1n4_0 i8 i0 i1 i2 i3)), .unset] [(.ref b140)])) _
              refine XS.iconst X190.here hx rfl (hb hby at_230) ?_
              show Steps p.tables e below (T190.setTop (mkF m 231 #[.val (.int i0), .val (.int i1), .val (.int i2), .val (.int i3), .val (.int i4), .val (.int i5), .val (.int (4 : Int32)), .val (.int i7), .val (.int i8), .val (.ref b140), .val (.int (1 : Int32)), .val (.int (f1n4_0 i8 i0 i1 i2 i3)), .unset] [(.int (3 : Int32)), (.ref b140)])) _
              refine own_ldI X190 hx hZ e190 Ab140_148 (j := (3 : Int32)) (by decide) (k := 3) (by decide) (v := (.int i3)) rfl (g := (mkF m 231 #[.val (.int i0), .val (.int i1), .val (.int i2), .val (.int i3), .val (.int i4), .val (.int i5), .val (.int (4 : Int32)), .val (.int i7), .val (.int i8), .val (.ref b140), .val (.int (1 : Int32)), .val (.int (f1n4_0 i8 i0 i1 i2 i3)), .unset] [(.int (3 : Int32)), (.ref b140)])) rfl rfl (hb hby at_231) _ ?_
              show Steps p.tables e below (T190.setTop (mkF m 232 #[.val (.int i0), .val (.int i1), .val (.int i2), .val (.int i3), .val (.int i4), .val (.int i5), .val (.int (4 : Int32)), .val (.int i7), .val (.int i8), .val (.ref b140), .val (.int (1 : Int32)), .val (.int (f1n4_0 i8 i0 i1 i2 i3)), .unset] [(.int i3)])) _
              refine XS.iloadN X190.here hx rfl (hb hby at_232) rfl ?_
              exact kt
            refine own_step (T' := T190) (f' := (mkF m 236 #[.val (.int i0), .val (.int i1), .val (.int i2), .val (.int i3), .val (.int i4), .val (.int i5), .val (.int (4 : Int32)), .val (.int i7), .val (.int i8), .val (.ref b140), .val (.int (1 : Int32)), .val (.int (f1n4_0 i8 i0 i1 i2 i3)), .unset] [])) (fun t kt => ?_) ?_
            · show Steps p.tables e below (T190.setTop (mkF m 233 #[.val (.int i0), .val (.int i1), .val (.int i2), .val (.int i3), .val (.int i4), .val (.int i5), .val (.int (4 : Int32)), .val (.int i7), .val (.int i8), .val (.ref b140), .val (.int (1 : Int32)), .val (.int (f1n4_0 i8 i0 i1 i2 i3)), .unset] [(.int i3), (.int i3)])) _
              refine XS.icmpNo X190.here hx rfl (hb hby at_233) rfl (teq (rfl : i3 = i3)).2 kt
            refine own_step (T' := T190) (f' := (mkF m 247 #[.val (.int i0), .val (.int i1), .val (.int i2), .val (.int i3), .val (.int i4), .val (.int i5), .val (.int (4 : Int32)), .val (.int i7), .val (.int i8), .val (.ref b140), .val (.int (1 : Int32)), .val (.int (f1n4_0 i8 i0 i1 i2 i3)), .val (.int (1 : Int32))] [(.int (1 : Int32)), (.int (f1n4_0 i8 i0 i1 i2 i3))])) (fun t kt => ?_) ?_
            · show Steps p.tables e below (T190.setTop (mkF m 236 #[.val (.int i0), .val (.int i1), .val (.int i2), .val (.int i3), .val (.int i4), .val (.int i5), .val (.int (4 : Int32)), .val (.int i7), .val (.int i8), .val (.ref b140), .val (.int (1 : Int32)), .val (.int (f1n4_0 i8 i0 i1 i2 i3)), .unset] [])) _
              refine XS.iconst X190.here hx rfl (hb hby at_236) ?_
              show Steps p.tables e below (T190.setTop (mkF m 237 #[.val (.int i0), .val (.int i1), .val (.int i2), .val (.int i3), .val (.int i4), .val (.int i5), .val (.int (4 : Int32)), .val (.int i7), .val (.int i8), .val (.ref b140), .val (.int (1 : Int32)), .val (.int (f1n4_0 i8 i0 i1 i2 i3)), .unset] [(.int (1 : Int32))])) _
              refine XS.goto X190.here hx rfl (pc0 := 237) (pc' := 241) rfl (hb hby at_237) (by decide) (by decide) ?_
              show Steps p.tables e below (T190.setTop (mkF m 241 #[.val (.int i0), .val (.int i1), .val (.int i2), .val (.int i3), .val (.int i4), .val (.int i5), .val (.int (4 : Int32)), .val (.int i7), .val (.int i8), .val (.ref b140), .val (.int (1 : Int32)), .val (.int (f1n4_0 i8 i0 i1 i2 i3)), .unset] [(.int (1 : Int32))])) _
              refine XS.istore X190.here hx rfl (hb hby at_241) rfl (l' := #[.val (.int i0), .val (.int i1), .val (.int i2), .val (.int i3), .val (.int i4), .val (.int i5), .val (.int (4 : Int32)), .val (.int i7), .val (.int i8), .val (.ref b140), .val (.int (1 : Int32)), .val (.int (f1n4_0 i8 i0 i1 i2 i3)), .val (.int (1 : Int32))]) rfl ?_
              show Steps p.tables e below (T190.setTop (mkF m 243 #[.val (.int i0), .val (.int i1), .val (.int i2), .val (.int i3), .val (.int i4), .val (.int i5), .val (.int (4 : Int32)), .val (.int i7), .val (.int i8), .val (.ref b140), .val (.int (1 : Int32)), .val (.int (f1n4_0 i8 i0 i1 i2 i3)), .val (.int (1 : Int32))] [])) _
              refine XS.iload X190.here hx rfl (hb hby at_243) rfl ?_
              show Steps p.tables e below (T190.setTop (mkF m 245 #[.val (.int i0), .val (.int i1), .val (.int i2), .val (.int i3), .val (.int i4), .val (.int i5), .val (.int (4 : Int32)), .val (.int i7), .val (.int i8), .val (.ref b140), .val (.int (1 : Int32)), .val (.int (f1n4_0 i8 i0 i1 i2 i3)), .val (.int (1 : Int32))] [(.int (f1n4_0 i8 i0 i1 i2 i3))])) _
              refine XS.iload X190.here hx rfl (hb hby at_245) rfl ?_
              exact kt
            by_cases hc247_199 : (f1n4_0 i8 i0 i1 i2 i3) = (1 : Int32)
            · rw [if_pos hc247_199] at hr
              refine own_step (T' := T190) (f' := (mkF m 250 #[.val (.int i0), .val (.int i1), .val (.int i2), .val (.int i3), .val (.int i4), .val (.int i5), .val (.int (4 : Int32)), .val (.int i7), .val (.int i8), .val (.ref b140), .val (.int (1 : Int32)), .val (.int (f1n4_0 i8 i0 i1 i2 i3)), .val (.int (1 : Int32))] [])) (fun t kt => ?_) ?_
              · show Steps p.tables e below (T190.setTop (mkF m 247 #[.val (.int i0), .val (.int i1), .val (.int i2), .val (.int i3), .val (.int i4), .val (.int i5), .val (.int (4 : Int32)), .val (.int i7), .val (.int i8), .val (.ref b140), .val (.int (1 : Int32)), .val (.int (f1n4_0 i8 i0 i1 i2 i3)), .val (.int (1 : Int32))] [(.int (1 : Int32)), (.int (f1n4_0 i8 i0 i1 i2 i3))])) _
                refine XS.icmpNo X190.here hx rfl (hb hby at_247) rfl (teq hc247_199).2 kt
              refine own_step (T' := T190) (f' := (mkF m 252 #[.val (.int i0), .val (.int i1), .val (.int i2), .val (.int i3), .val (.int i4), .val (.int i5), .val (.int (4 : Int32)), .val (.int i7), .val (.int i8), .val (.ref b140), .val (.int (1 : Int32)), .val (.int (f1n4_0 i8 i0 i1 i2 i3)), .val (.int (1 : Int32))] [(.int (1 : Int32))])) (fun t kt => ?_) ?_
              · show Steps p.tables e below (T190.setTop (mkF m 250 #[.val (.int i0), .val (.int i1), .val (.int i2), .val (.int i3), .val (.int i4), .val (.int i5), .val (.int (4 : Int32)), .val (.int i7), .val (.int i8), .val (.ref b140), .val (.int (1 : Int32)), .val (.int (f1n4_0 i8 i0 i1 i2 i3)), .val (.int (1 : Int32))] [])) _
                refine XS.iload X190.here hx rfl (hb hby at_250) rfl ?_
                exact kt
              refine own_step (T' := T190) (f' := (mkF m 255 #[.val (.int i0), .val (.int i1), .val (.int i2), .val (.int i3), .val (.int i4), .val (.int i5), .val (.int (4 : Int32)), .val (.int i7), .val (.int i8), .val (.ref b140), .val (.int (1 : Int32)), .val (.int (f1n4_0 i8 i0 i1 i2 i3)), .val (.int (1 : Int32))] [])) (fun t kt => ?_) ?_
              · show Steps p.tables e below (T190.setTop (mkF m 252 #[.val (.int i0), .val (.int i1), .val (.int i2), .val (.int i3), .val (.int i4), .val (.int i5), .val (.int (4 : Int32)), .val (.int i7), .val (.int i8), .val (.ref b140), .val (.int (1 : Int32)), .val (.int (f1n4_0 i8 i0 i1 i2 i3)), .val (.int (1 : Int32))] [(.int (1 : Int32))])) _
                refine XS.ifNo X190.here hx rfl (hb hby at_252) rfl ((if0 _ _).trans (feq (by decide : ¬ ((1 : Int32) = (0 : Int32)))).1) kt
              refine own_step (T' := T190) (f' := (mkF m 260 #[.val (.int i0), .val (.int i1), .val (.int i2), .val (.int i3), .val (.int i4), .val (.int i5), .val (.int (4 : Int32)), .val (.int i7), .val (.int i8), .val (.ref b140), .val (.int (1 : Int32)), .val (.int (f1n4_0 i8 i0 i1 i2 i3)), .val (.int (1 : Int32))] [(.int (1 : Int32))])) (fun t kt => ?_) ?_
              · show Steps p.tables e below (T190.setTop (mkF m 255 #[.val (.int i0), .val (.int i1), .val (.int i2), .val (.int i3), .val (.int i4), .val (.int i5), .val (.int (4 : Int32)), .val (.int i7), .val (.int i8), .val (.ref b140), .val (.int (1 : Int32)), .val (.int (f1n4_0 i8 i0 i1 i2 i3)), .val (.int (1 : Int32))] [])) _
                refine XS.iconst X190.here hx rfl (hb hby at_255) ?_
                show Steps p.tables e below (T190.setTop (mkF m 256 #[.val (.int i0), .val (.int i1), .val (.int i2), .val (.int i3), .val (.int i4), .val (.int i5), .val (.int (4 : Int32)), .val (.int i7), .val (.int i8), .val (.ref b140), .val (.int (1 : Int32)), .val (.int (f1n4_0 i8 i0 i1 i2 i3)), .val (.int (1 : Int32))] [(.int (1 : Int32))])) _
                refine XS.goto X190.here hx rfl (pc0 := 256) (pc' := 260) rfl (hb hby at_256) (by decide) (by decide) ?_
                exact kt
              exact own_retZ X190 hx hret (by simp) hlk (hb hby at_260) (by decide) (by decide) ⟨congrArg (fun z => some (Value.int z)) hr.symm, N190⟩
            · rw [if_neg hc247_199] at hr
              refine own_step (T' := T190) (f' := (mkF m 259 #[.val (.int i0), .val (.int i1), .val (.int i2), .val (.int i3), .val (.int i4), .val (.int i5), .val (.int (4 : Int32)), .val (.int i7), .val (.int i8), .val (.ref b140), .val (.int (1 : Int32)), .val (.int (f1n4_0 i8 i0 i1 i2 i3)), .val (.int (1 : Int32))] [])) (fun t kt => ?_) ?_
              · show Steps p.tables e below (T190.setTop (mkF m 247 #[.val (.int i0), .val (.int i1), .val (.int i2), .val (.int i3), .val (.int i4), .val (.int i5), .val (.int (4 : Int32)), .val (.int i7), .val (.int i8), .val (.ref b140), .val (.int (1 : Int32)), .val (.int (f1n4_0 i8 i0 i1 i2 i3)), .val (.int (1 : Int32))] [(.int (1 : Int32)), (.int (f1n4_0 i8 i0 i1 i2 i3))])) _
                refine XS.icmpYes X190.here hx rfl (pc0 := 247) (pc' := 259) rfl (hb hby at_247) rfl (feq hc247_199).2 (by decide) (by decide) kt
              refine own_step (T' := T190) (f' := (mkF m 260 #[.val (.int i0), .val (.int i1), .val (.int i2), .val (.int i3), .val (.int i4), .val (.int i5), .val (.int (4 : Int32)), .val (.int i7), .val (.int i8), .val (.ref b140), .val (.int (1 : Int32)), .val (.int (f1n4_0 i8 i0 i1 i2 i3)), .val (.int (1 : Int32))] [(.int (0 : Int32))])) (fun t kt => ?_) ?_
              · show Steps p.tables e below (T190.setTop (mkF m 259 #[.val (.int i0), .val (.int i1), .val (.int i2), .val (.int i3), .val (.int i4), .val (.int i5), .val (.int (4 : Int32)), .val (.int i7), .val (.int i8), .val (.ref b140), .val (.int (1 : Int32)), .val (.int (f1n4_0 i8 i0 i1 i2 i3)), .val (.int (1 : Int32))] [])) _
                refine XS.iconst X190.here hx rfl (hb hby at_259) ?_
                exact kt
              exact own_retZ X190 hx hret (by simp) hlk (hb hby at_260) (by decide) (by decide) ⟨congrArg (fun z => some (Value.int z)) hr.symm, N190⟩
          · rw [if_neg hc162_189] at hr
            refine own_step (T' := T148) (f' := (mkF m 169 #[.val (.int i0), .val (.int i1), .val (.int i2), .val (.int i3), .val (.int i4), .val (.int i5), .val (.int (4 : Int32)), .val (.int i7), .val (.int i8), .val (.ref b140), .unset, .unset, .unset] [])) (fun t kt => ?_) ?_
            · show Steps p.tables e below (T148.setTop (mkF m 162 #[.val (.int i0), .val (.int i1), .val (.int i2), .val (.int i3), .val (.int i4), .val (.int i5), .val (.int (4 : Int32)), .val (.int i7), .val (.int i8), .val (.ref b140), .unset, .unset, .unset] [(.int i8), (.int i3)])) _
              refine XS.icmpYes X148.here hx rfl (pc0 := 162) (pc' := 169) rfl (hb hby at_162) rfl (feq hc162_189).2 (by decide) (by decide) kt
            refine own_step (T' := T148) (f' := (mkF m 176 #[.val (.int i0), .val (.int i1), .val (.int i2), .val (.int i3), .val (.int i4), .val (.int i5), .val (.int (4 : Int32)), .val (.int i7), .val (.int i8), .val (.ref b140), .val (.int (0 : Int32)), .unset, .unset] [(.int i8), (.ref b140)])) (fun t kt => ?_) ?_
            · show Steps p.tables e below (T148.setTop (mkF m 169 #[.val (.int i0), .val (.int i1), .val (.int i2), .val (.int i3), .val (.int i4), .val (.int i5), .val (.int (4 : Int32)), .val (.int i7), .val (.int i8), .val (.ref b140), .unset, .unset, .unset] [])) _
              refine XS.iconst X148.here hx rfl (hb hby at_169) ?_
              show Steps p.tables e below (T148.setTop (mkF m 170 #[.val (.int i0), .val (.int i1), .val (.int i2), .val (.int i3), .val (.int i4), .val (.int i5), .val (.int (4 : Int32)), .val (.int i7), .val (.int i8), .val (.ref b140), .unset, .unset, .unset] [(.int (0 : Int32))])) _
              refine XS.istore X148.here hx rfl (hb hby at_170) rfl (l' := #[.val (.int i0), .val (.int i1), .val (.int i2), .val (.int i3), .val (.int i4), .val (.int i5), .val (.int (4 : Int32)), .val (.int i7), .val (.int i8), .val (.ref b140), .val (.int (0 : Int32)), .unset, .unset]) rfl ?_
              show Steps p.tables e below (T148.setTop (mkF m 172 #[.val (.int i0), .val (.int i1), .val (.int i2), .val (.int i3), .val (.int i4), .val (.int i5), .val (.int (4 : Int32)), .val (.int i7), .val (.int i8), .val (.ref b140), .val (.int (0 : Int32)), .unset, .unset] [])) _
              refine XS.aload X148.here hx rfl (hb hby at_172) rfl rfl ?_
              show Steps p.tables e below (T148.setTop (mkF m 174 #[.val (.int i0), .val (.int i1), .val (.int i2), .val (.int i3), .val (.int i4), .val (.int i5), .val (.int (4 : Int32)), .val (.int i7), .val (.int i8), .val (.ref b140), .val (.int (0 : Int32)), .unset, .unset] [(.ref b140)])) _
              refine XS.iload X148.here hx rfl (hb hby at_174) rfl ?_
              exact kt
            obtain ⟨_, _, ⟨T201, L201, k201, n201⟩, -, X201, ⟨Lc201, hQ201, l201, y201, z201⟩, st201⟩ := Jvm.LawKit.callS X148 hx (y := (⟨"com/example/conceal/conceal/SensitiveHolders", "contains", "([II)Z"⟩ : MethodName)) hown (mvT hZ (hw _ (List.mem_of_getElem? (i := 1) rfl))) (mvT hZ (hw _ (List.mem_of_getElem? (i := 2) rfl))) (mvT hZ (hw _ (List.mem_of_getElem? (i := 3) rfl))) (mvT hZ (hw _ (List.mem_of_getElem? (i := 4) rfl))) (by decide) (backOf (W := 0) (rm1n4 l Z a0 hw [] b140 i8 i0 i1 i2 i3 h148 n0 Ab140_148) hZ (hw _ (List.mem_of_getElem? (i := 4) rfl)) (hw _ (List.mem_of_getElem? (i := 3) rfl)) (by decide) (by decide)) (g := (mkF m 176 #[.val (.int i0), .val (.int i1), .val (.int i2), .val (.int i3), .val (.int i4), .val (.int i5), .val (.int (4 : Int32)), .val (.int i7), .val (.int i8), .val (.ref b140), .val (.int (0 : Int32)), .unset, .unset] [(.int i8), (.ref b140)])) rfl (by rw [hml]; rfl) (argsL := [(.ref b140), (.int i8)]) (rest := []) (lenOf pd1 rfl) rfl (by show 2 * 0 + _ ≤ _; exact Nat.le_of_eq rfl) (hb hby at_176) (fun _ _ => ⟨rfl, e148, (by decide : 1 + 0 ≤ _), (by decide : 4 + 0 ≤ _)⟩)
            dsimp only [Pt.U, Pt.locs, Pt.cells, Pt.slots] at X201 l201 y201 z201 st201 hQ201
            subst l201 y201 z201
            obtain ⟨rfl, Nq201, e201⟩ := hQ201
            have N201 := Fr.app N148 Nq201
            refine own_step (T' := T201) (f' := (mkF m 179 #[.val (.int i0), .val (.int i1), .val (.int i2), .val (.int i3), .val (.int i4), .val (.int i5), .val (.int (4 : Int32)), .val (.int i7), .val (.int i8), .val (.ref b140), .val (.int (0 : Int32)), .unset, .unset] [(.int (f1n4_0 i8 i0 i1 i2 i3))])) st201 ?_
            refine own_step (T' := T201) (f' := (mkF m 183 #[.val (.int i0), .val (.int i1), .val (.int i2), .val (.int i3), .val (.int i4), .val (.int i5), .val (.int (4 : Int32)), .val (.int i7), .val (.int i8), .val (.ref b140), .val (.int (0 : Int32)), .val (.int (f1n4_0 i8 i0 i1 i2 i3)), .unset] [(.int (4 : Int32))])) (fun t kt => ?_) ?_
            · show Steps p.tables e below (T201.setTop (mkF m 179 #[.val (.int i0), .val (.int i1), .val (.int i2), .val (.int i3), .val (.int i4), .val (.int i5), .val (.int (4 : Int32)), .val (.int i7), .val (.int i8), .val (.ref b140), .val (.int (0 : Int32)), .unset, .unset] [(.int (f1n4_0 i8 i0 i1 i2 i3))])) _
              refine XS.istore X201.here hx rfl (hb hby at_179) rfl (l' := #[.val (.int i0), .val (.int i1), .val (.int i2), .val (.int i3), .val (.int i4), .val (.int i5), .val (.int (4 : Int32)), .val (.int i7), .val (.int i8), .val (.ref b140), .val (.int (0 : Int32)), .val (.int (f1n4_0 i8 i0 i1 i2 i3)), .unset]) rfl ?_
              show Steps p.tables e below (T201.setTop (mkF m 181 #[.val (.int i0), .val (.int i1), .val (.int i2), .val (.int i3), .val (.int i4), .val (.int i5), .val (.int (4 : Int32)), .val (.int i7), .val (.int i8), .val (.ref b140), .val (.int (0 : Int32)), .val (.int (f1n4_0 i8 i0 i1 i2 i3)), .unset] [])) _
              refine XS.iload X201.here hx rfl (hb hby at_181) rfl ?_
              exact kt
            refine own_step (T' := T201) (f' := (mkF m 186 #[.val (.int i0), .val (.int i1), .val (.int i2), .val (.int i3), .val (.int i4), .val (.int i5), .val (.int (4 : Int32)), .val (.int i7), .val (.int i8), .val (.ref b140), .val (.int (0 : Int32)), .val (.int (f1n4_0 i8 i0 i1 i2 i3)), .unset] [])) (fun t kt => ?_) ?_
            · show Steps p.tables e below (T201.setTop (mkF m 183 #[.val (.int i0), .val (.int i1), .val (.int i2), .val (.int i3), .val (.int i4), .val (.int i5), .val (.int (4 : Int32)), .val (.int i7), .val (.int i8), .val (.ref b140), .val (.int (0 : Int32)), .val (.int (f1n4_0 i8 i0 i1 i2 i3)), .unset] [(.int (4 : Int32))])) _
              refine XS.ifNo X201.here hx rfl (hb hby at_183) rfl ((if0 _ _).trans (tlt (by decide : ((0 : Int32) < (4 : Int32)))).2.2.2) kt
            refine own_step (T' := T201) (f' := (mkF m 191 #[.val (.int i0), .val (.int i1), .val (.int i2), .val (.int i3), .val (.int i4), .val (.int i5), .val (.int (4 : Int32)), .val (.int i7), .val (.int i8), .val (.ref b140), .val (.int (0 : Int32)), .val (.int (f1n4_0 i8 i0 i1 i2 i3)), .unset] [(.int i0), (.int i0)])) (fun t kt => ?_) ?_
            · show Steps p.tables e below (T201.setTop (mkF m 186 #[.val (.int i0), .val (.int i1), .val (.int i2), .val (.int i3), .val (.int i4), .val (.int i5), .val (.int (4 : Int32)), .val (.int i7), .val (.int i8), .val (.ref b140), .val (.int (0 : Int32)), .val (.int (f1n4_0 i8 i0 i1 i2 i3)), .unset] [])) _
              refine XS.aload X201.here hx rfl (hb hby at_186) rfl rfl ?_
              show Steps p.tables e below (T201.setTop (mkF m 188 #[.val (.int i0), .val (.int i1), .val (.int i2), .val (.int i3), .val (.int i4), .val (.int i5), .val (.int (4 : Int32)), .val (.int i7), .val (.int i8), .val (.ref b140), .val (.int (0 : Int32)), .val (.int (f1n4_0 i8 i0 i1 i2 i3)), .unset] [(.ref b140)])) _
              refine XS.iconst X201.here hx rfl (hb hby at_188) ?_
              show Steps p.tables e below (T201.setTop (mkF m 189 #[.val (.int i0), .val (.int i1), .val (.int i2), .val (.int i3), .val (.int i4), .val (.int i5), .val (.int (4 : Int32)), .val (.int i7), .val (.int i8), .val (.ref b140), .val (.int (0 : Int32)), .val (.int (f1n4_0 i8 i0 i1 i2 i3)), .unset] [(.int (0 : Int32)), (.ref b140)])) _
              refine own_ldI X201 hx hZ e201 Ab140_148 (j := (0 : Int32)) (by decide) (k := 0) (by decide) (v := (.int i0)) rfl (g := (mkF m 189 #[.val (.int i0), .val (.int i1), .val (.int i2), .val (.int i3), .val (.int i4), .val (.int i5), .val (.int (4 : Int32)), .val (.int i7), .val (.int i8), .val (.ref b140), .val (.int (0 : Int32)), .val (.int (f1n4_0 i8 i0 i1 i2 i3)), .unset] [(.int (0 : Int32)), (.ref b140)])) rfl rfl (hb hby at_189) _ ?_
              show Steps p.tables e below (T201.setTop (mkF m 190 #[.val (.int i0), .val (.int i1), .val (.int i2), .val (.int i3), .val (.int i4), .val (.int i5), .val (.int (4 : Int32)), .val (.int i7), .val (.int i8), .val (.ref b140), .val (.int (0 : Int32)), .val (.int (f1n4_0 i8 i0 i1 i2 i3)), .unset] [(.int i0)])) _
              refine XS.iloadN X201.here hx rfl (hb hby at_190) rfl ?_
              exact kt
            refine own_step (T' := T201) (f' := (mkF m 194 #[.val (.int i0), .val (.int i1), .val (.int i2), .val (.int i3), .val (.int i4), .val (.int i5), .val (.int (4 : Int32)), .val (.int i7), .val (.int i8), .val (.ref b140), .val (.int (0 : Int32)), .val (.int (f1n4_0 i8 i0 i1 i2 i3)), .unset] [])) (fun t kt => ?_) ?_
            · show Steps p.tables e below (T201.setTop (mkF m 191 #[.val (.int i0), .val (.int i1), .val (.int i2), .val (.int i3), .val (.int i4), .val (.int i5), .val (.int (4 : Int32)), .val (.int i7), .val (.int i8), .val (.ref b140), .val (.int (0 : Int32)), .val (.int (f1n4_0 i8 i0 i1 i2 i3)), .unset] [(.int i0), (.int i0)])) _
              refine XS.icmpNo X201.here hx rfl (hb hby at_191) rfl (teq (rfl : i0 = i0)).2 kt
            refine own_step (T' := T201) (f' := (mkF m 197 #[.val (.int i0), .val (.int i1), .val (.int i2), .val (.int i3), .val (.int i4), .val (.int i5), .val (.int (4 : Int32)), .val (.int i7), .val (.int i8), .val (.ref b140), .val (.int (0 : Int32)), .val (.int (f1n4_0 i8 i0 i1 i2 i3)), .unset] [(.int (1 : Int32)), (.int (4 : Int32))])) (fun t kt => ?_) ?_
            · show Steps p.tables e below (T201.setTop (mkF m 194 #[.val (.int i0), .val (.int i1), .val (.int i2), .val (.int i3), .val (.int i4), .val (.int i5), .val (.int (4 : Int32)), .val (.int i7), .val (.int i8), .val (.ref b140), .val (.int (0 : Int32)), .val (.int (f1n4_0 i8 i0 i1 i2 i3)), .unset] [])) _
              refine XS.iload X201.here hx rfl (hb hby at_194) rfl ?_
              show Steps p.tables e below (T201.setTop (mkF m 196 #[.val (.int i0), .val (.int i1), .val (.int i2), .val (.int i3), .val (.int i4), .val (.int i5), .val (.int (4 : Int32)), .val (.int i7), .val (.int i8), .val (.ref b140), .val (.int (0 : Int32)), .val (.int (f1n4_0 i8 i0 i1 i2 i3)), .unset] [(.int (4 : Int32))])) _
              refine XS.iconst X201.here hx rfl (hb hby at_196) ?_
              exact kt
            refine own_step (T' := T201) (f' := (mkF m 200 #[.val (.int i0), .val (.int i1), .val (.int i2), .val (.int i3), .val (.int i4), .val (.int i5), .val (.int (4 : Int32)), .val (.int i7), .val (.int i8), .val (.ref b140), .val (.int (0 : Int32)), .val (.int (f1n4_0 i8 i0 i1 i2 i3)), .unset] [])) (fun t kt => ?_) ?_
            · show Steps p.tables e below (T201.setTop (mkF m 197 #[.val (.int i0), .val (.int i1), .val (.int i2), .val (.int i3), .val (.int i4), .val (.int i5), .val (.int (4 : Int32)), .val (.int i7), .val (.int i8), .val (.ref b140), .val (.int (0 : Int32)), .val (.int (f1n4_0 i8 i0 i1 i2 i3)), .unset] [(.int (1 : Int32)), (.int (4 : Int32))])) _
              refine XS.icmpNo X201.here hx rfl (hb hby at_197) rfl (tlt (by decide : ((1 : Int32) < (4 : Int32)))).2.2.2 kt
            refine own_step (T' := T201) (f' := (mkF m 205 #[.val (.int i0), .val (.int i1), .val (.int i2), .val (.int i3), .val (.int i4), .val (.int i5), .val (.int (4 : Int32)), .val (.int i7), .val (.int i8), .val (.ref b140), .val (.int (0 : Int32)), .val (.int (f1n4_0 i8 i0 i1 i2 i3)), .unset] [(.int i1), (.int i1)])) (fun t kt => ?_) ?_
            · show Steps p.tables e below (T201.setTop (mkF m 200 #[.val (.int i0), .val (.int i1), .val (.int i2), .val (.int i3), .val (.int i4), .val (.int i5), .val (.int (4 : Int32)), .val (.int i7), .val (.int i8), .val (.ref b140), .val (.int (0 : Int32)), .val (.int (f1n4_0 i8 i0 i1 i2 i3)), .unset] [])) _
              refine XS.aload X201.here hx rfl (hb hby at_200) rfl rfl ?_
              show Steps p.tables e below (T201.setTop (mkF m 202 #[.val (.int i0), .val (.int i1), .val (.int i2), .val (.int i3), .val (.int i4), .val (.int i5), .val (.int (4 : Int32)), .val (.int i7), .val (.int i8), .val (.ref b140), .val (.int (0 : Int32)), .val (.int (f1n4_0 i8 i0 i1 i2 i3)), .unset] [(.ref b140)])) _
              refine XS.iconst X201.here hx rfl (hb hby at_202) ?_
              show Steps p.tables e below (T201.setTop (mkF m 203 #[.val (.int i0), .val (.int i1), .val (.int i2), .val (.int i3), .val (.int i4), .val (.int i5), .val (.int (4 : Int32)), .val (.int i7), .val (.int i8), .val (.ref b140), .val (.int (0 : Int32)), .val (.int (f1n4_0 i8 i0 i1 i2 i3)), .unset] [(.int (1 : Int32)), (.ref b140)])) _
              refine own_ldI X201 hx hZ e201 Ab140_148 (j := (1 : Int32)) (by decide) (k := 1) (by decide) (v := (.int i1)) rfl (g := (mkF m 203 #[.val (.int i0), .val (.int i1), .val (.int i2), .val (.int i3), .val (.int i4), .val (.int i5), .val (.int (4 : Int32)), .val (.int i7), .val (.int i8), .val (.ref b140), .val (.int (0 : Int32)), .val (.int (f1n4_0 i8 i0 i1 i2 i3)), .unset] [(.int (1 : Int32)), (.ref b140)])) rfl rfl (hb hby at_203) _ ?_
              show Steps p.tables e below (T201.setTop (mkF m 204 #[.val (.int i0), .val (.int i1), .val (.int i2), .val (.int i3), .val (.int i4), .val (.int i5), .val (.int (4 : Int32)), .val (.int i7), .val (.int i8), .val (.ref b140), .val (.int (0 : Int32)), .val (.int (f1n4_0 i8 i0 i1 i2 i3)), .unset] [(.int i1)])) _
              refine XS.iloadN X201.here hx rfl (hb hby at_204) rfl ?_
              exact kt
            refine own_step (T' := T201) (f' := (mkF m 208 #[.val (.int i0), .val (.int i1), .val (.int i2), .val (.int i3), .val (.int i4), .val (.int i5), .val (.int (4 : Int32)), .val (.int i7), .val (.int i8), .val (.ref b140), .val (.int (0 : Int32)), .val (.int (f1n4_0 i8 i0 i1 i2 i3)), .unset] [])) (fun t kt => ?_) ?_
            · show Steps p.tables e below (T201.setTop (mkF m 205 #[.val (.int i0), .val (.int i1), .val (.int i2), .val (.int i3), .val (.int i4), .val (.int i5), .val (.int (4 : Int32)), .val (.int i7), .val (.int i8), .val (.ref b140), .val (.int (0 : Int32)), .val (.int (f1n4_0 i8 i0 i1 i2 i3)), .unset] [(.int i1), (.int i1)])) _
              refine XS.icmpNo X201.here hx rfl (hb hby at_205) rfl (teq (rfl : i1 = i1)).2 kt
            refine own_step (T' := T201) (f' := (mkF m 211 #[.val (.int i0), .val (.int i1), .val (.int i2), .val (.int i3), .val (.int i4), .val (.int i5), .val (.int (4 : Int32)), .val (.int i7), .val (.int i8), .val (.ref b140), .val (.int (0 : Int32)), .val (.int (f1n4_0 i8 i0 i1 i2 i3)), .unset] [(.int (2 : Int32)), (.int (4 : Int32))])) (fun t kt => ?_) ?_
            · show Steps p.tables e below (T201.setTop (mkF m 208 #[.val (.int i0), .val (.int i1), .val (.int i2), .val (.int i3), .val (.int i4), .val (.int i5), .val (.int (4 : Int32)), .val (.int i7), .val (.int i8), .val (.ref b140), .val (.int (0 : Int32)), .val (.int (f1n4_0 i8 i0 i1 i2 i3)), .unset] [])) _
              refine XS.iload X201.here hx rfl (hb hby at_208) rfl ?_
              show Steps p.tables e below (T201.setTop (mkF m 210 #[.val (.int i0), .val (.int i1), .val (.int i2), .val (.int i3), .val (.int i4), .val (.int i5), .val (.int (4 : Int32)), .val (.int i7), .val (.int i8), .val (.ref b140), .val (.int (0 : Int32)), .val (.int (f1n4_0 i8 i0 i1 i2 i3)), .unset] [(.int (4 : Int32))])) _
              refine XS.iconst X201.here hx rfl (hb hby at_210) ?_
              exact kt
            refine own_step (T' := T201) (f' := (mkF m 214 #[.val (.int i0), .val (.int i1), .val (.int i2), .val (.int i3), .val (.int i4), .val (.int i5), .val (.int (4 : Int32)), .val (.int i7), .val (.int i8), .val (.ref b140), .val (.int (0 : Int32)), .val (.int (f1n4_0 i8 i0 i1 i2 i3)), .unset] [])) (fun t kt => ?_) ?_
            · show Steps p.tables e below (T201.setTop (mkF m 211 #[.val (.int i0), .val (.int i1), .val (.int i2), .val (.int i3), .val (.int i4), .val (.int i5), .val (.int (4 : Int32)), .val (.int i7), .val (.int i8), .val (.ref b140), .val (.int (0 : Int32)), .val (.int (f1n4_0 i8 i0 i1 i2 i3)), .unset] [(.int (2 : Int32)), (.int (4 : Int32))])) _
              refine XS.icmpNo X201.here hx rfl (hb hby at_211) rfl (tlt (by decide : ((2 : Int32) < (4 : Int32)))).2.2.2 kt
            refine own_step (T' := T201) (f' := (mkF m 219 #[.val (.int i0), .val (.int i1), .val (.int i2), .val (.int i3), .val (.int i4), .val (.int i5), .val (.int (4 : Int32)), .val (.int i7), .val (.int i8), .val (.ref b140), .val (.int (0 : Int32)), .val (.int (f1n4_0 i8 i0 i1 i2 i3)), .unset] [(.int i2), (.int i2)])) (fun t kt => ?_) ?_
            · show Steps p.tables e below (T201.setTop (mkF m 214 #[.val (.int i0), .val (.int i1), .val (.int i2), .val (.int i3), .val (.int i4), .val (.int i5), .val (.int (4 : Int32)), .val (.int i7), .val (.int i8), .val (.ref b140), .val (.int (0 : Int32)), .val (.int (f1n4_0 i8 i0 i1 i2 i3)), .unset] [])) _
              refine XS.aload X201.here hx rfl (hb hby at_214) rfl rfl ?_
              show Steps p.tables e below (T201.setTop (mkF m 216 #[.val (.int i0), .val (.int i1), .val (.int i2), .val (.int i3), .val (.int i4), .val (.int i5), .val (.int (4 : Int32)), .val (.int i7), .val (.int i8), .val (.ref b140), .val (.int (0 : Int32)), .val (.int (f1n4_0 i8 i0 i1 i2 i3)), .unset] [(.ref b140)])) _
              refine XS.iconst X201.here hx rfl (hb hby at_216) ?_
              show Steps p.tables e below (T201.setTop (mkF m 217 #[.val (.int i0), .val (.int i1), .val (.int i2), .val (.int i3), .val (.int i4), .val (.int i5), .val (.int (4 : Int32)), .val (.int i7), .val (.int i8), .val (.ref b140), .val (.int (0 : Int32)), .val (.int (f1n4_0 i8 i0 i1 i2 i3)), .unset] [(.int (2 : Int32)), (.ref b140)])) _
              refine own_ldI X201 hx hZ e201 Ab140_148 (j := (2 : Int32)) (by decide) (k := 2) (by decide) (v := (.int i2)) rfl (g := (mkF m 217 #[.val (.int i0), .val (.int i1), .val (.int i2), .val (.int i3), .val (.int i4), .val (.int i5), .val (.int (4 : Int32)), .val (.int i7), .val (.int i8), .val (.ref b140), .val (.int (0 : Int32)), .val (.int (f1n4_0 i8 i0 i1 i2 i3)), .unset] [(.int (2 : Int32)), (.ref b140)])) rfl rfl (hb hby at_217) _ ?_
              show Steps p.tables e below (T201.setTop (mkF m 218 #[.val (.int i0), .val (.int i1), .val (.int i2), .val (.int i3), .val (.int i4), .val (.int i5), .val (.int (4 : Int32)), .val (.int i7), .val (.int i8), .val (.ref b140), .val (.int (0 : Int32)), .val (.int (f1n4_0 i8 i0 i1 i2 i3)), .unset] [(.int i2)])) _
              refine XS.iloadN X201.here hx rfl (hb hby at_218) rfl ?_
              exact kt
            refine own_step (T' := T201) (f' := (mkF m 222 #[.val (.int i0), .val (.int i1), .val (.int i2), .val (.int i3), .val (.int i4), .val (.int i5), .val (.int (4 : Int32)), .val (.int i7), .val (.int i8), .val (.ref b140), .val (.int (0 : Int32)), .val (.int (f1n4_0 i8 i0 i1 i2 i3)), .unset] [])) (fun t kt => ?_) ?_
            · show Steps p.tables e below (T201.setTop (mkF m 219 #[.val (.int i0), .val (.int i1), .val (.int i2), .val (.int i3), .val (.int i4), .val (.int i5), .val (.int (4 : Int32)), .val (.int i7), .val (.int i8), .val (.ref b140), .val (.int (0 : Int32)), .val (.int (f1n4_0 i8 i0 i1 i2 i3)), .unset] [(.int i2), (.int i2)])) _
              refine XS.icmpNo X201.here hx rfl (hb hby at_219) rfl (teq (rfl : i2 = i2)).2 kt
            refine own_step (T' := T201) (f' := (mkF m 225 #[.val (.int i0), .val (.int i1), .val (.int i2), .val (.int i3), .val (.int i4), .val (.int i5), .val (.int (4 : Int32)), .val (.int i7), .val (.int i8), .val (.ref b140), .val (.int (0 : Int32)), .val (.int (f1n4_0 i8 i0 i1 i2 i3)), .unset] [(.int (3 : Int32)), (.int (4 : Int32))])) (fun t kt => ?_) ?_
            · show Steps p.tables e below (T201.setTop (mkF m 222 #[.val (.int i0), .val (.int i1), .val (.int i2), .val (.int i3), .val (.int i4), .val (.int i5), .val (.int (4 : Int32)), .val (.int i7), .val (.int i8), .val (.ref b140), .val (.int (0 : Int32)), .val (.int (f1n4_0 i8 i0 i1 i2 i3)), .unset] [])) _
              refine XS.iload X201.here hx rfl (hb hby at_222) rfl ?_
              show Steps p.tables e below (T201.setTop (mkF m 224 #[.val (.int i0), .val (.int i1), .val (.int i2), .val (.int i3), .val (.int i4), .val (.int i5), .val (.int (4 : Int32)), .val (.int i7), .val (.int i8), .val (.ref b140), .val (.int (0 : Int32)), .val (.int (f1n4_0 i8 i0 i1 i2 i3)), .unset] [(.int (4 : Int32))])) _
              refine XS.iconst X201.here hx rfl (hb hby at_224) ?_
              exact kt
            refine own_step (T' := T201) (f' := (mkF m 228 #[.val (.int i0), .val (.int i1), .val (.int i2), .val (.int i3), .val (.int i4), .val (.int i5), .val (.int (4 : Int32)), .val (.int i7), .val (.int i8), .val (.ref b140), .val (.int (0 : Int32)), .val (.int (f1n4_0 i8 i0 i1 i2 i3)), .unset] [])) (fun t kt => ?_) ?_
            · show Steps p.tables e below (T201.setTop (mkF m 225 #[.val (.int i0), .val (.int i1), .val (.int i2), .val (.int i3), .val (.int i4), .val (.int i5), .val (.int (4 : Int32)), .val (.int i7), .val (.int i8), .val (.ref b140), .val (.int (0 : Int32)), .val (.int (f1n4_0 i8 i0 i1 i2 i3)), .unset] [(.int (3 : Int32)), (.int (4 : Int32))])) _
              refine XS.icmpNo X201.here hx rfl (hb hby at_225) rfl (tlt (by decide : ((3 : Int32) < (4 : Int32)))).2.2.2 kt
            refine own_step (T' := T201) (f' := (mkF m 233 #[.val (.int i0), .val (.int i1), .val (.int i2), .val (.int i3), .val (.int i4), .val (.int i5), .val (.int (4 : Int32)), .val (.int i7), .val (.int i8), .val (.ref b140), .val (.int (0 : Int32)), .val (.int (f1n4_0 i8 i0 i1 i2 i3)), .unset] [(.int i3), (.int i3)])) (fun t kt => ?_) ?_
            · show Steps p.tables e below (T201.setTop (mkF m 228 #[.val (.int i0), .val (.int i1), .val (.int i2), .val (.int i3), .val (.int i4), .val (.int i5), .val (.int (4 : Int32)), .val (.int i7), .val (.int i8), .val (.ref b140), .val (.int (0 : Int32)), .val (.int (f1n4_0 i8 i0 i1 i2 i3)), .unset] [])) _
              refine XS.aload X201.here hx rfl (hb hby at_228) rfl rfl ?_
              show Steps p.tables e below (T201.setTop (mkF m 230 #[.val (.int i0), .val (.int i1), .val (.int i2), .val (.int i3), .val (.int i4), .val (.int i5), .val (.int (4 : Int32)), .val (.int i7), .val (.int i8), .val (.ref b140), .val (.int (0 : Int32)), .val (.int (f1n4_0 i8 i0 i1 i2 i3)), .unset] [(.ref b140)])) _
              refine XS.iconst X201.here hx rfl (hb hby at_230) ?_
              show Steps p.tables e below (T201.setTop (mkF m 231 #[.val (.int i0), .val (.int i1), .val (.int i2), .val (.int i3), .val (.int i4), .val (.int i5), .val (.int (4 : Int32)), .val (.int i7), .val (.int i8), .val (.ref b140), .val (.int (0 : Int32)), .val (.int (f1n4_0 i8 i0 i1 i2 i3)), .unset] [(.int (3 : Int32)), (.ref b140)])) _
              refine own_ldI X201 hx hZ e201 Ab140_148 (j := (3 : Int32)) (by decide) (k := 3) (by decide) (v := (.int i3)) rfl (g := (mkF m 231 #[.val (.int i0), .val (.int i1), .val (.int i2), .val (.int i3), .val (.int i4), .val (.int i5), .val (.int (4 : Int32)), .val (.int i7), .val (.int i8), .val (.ref b140), .val (.int (0 : Int32)), .val (.int (f1n4_0 i8 i0 i1 i2 i3)), .unset] [(.int (3 : Int32)), (.ref b140)])) rfl rfl (hb hby at_231) _ ?_
              show Steps p.tables e below (T201.setTop (mkF m 232 #[.val (.int i0), .val (.int i1), .val (.int i2), .val (.int i3), .val (.int i4), .val (.int i5), .val (.int (4 : Int32)), .val (.int i7), .val (.int i8), .val (.ref b140), .val (.int (0 : Int32)), .val (.int (f1n4_0 i8 i0 i1 i2 i3)), .unset] [(.int i3)])) _
              refine XS.iloadN X201.here hx rfl (hb hby at_232) rfl ?_
              exact kt
            refine own_step (T' := T201) (f' := (mkF m 236 #[.val (.int i0), .val (.int i1), .val (.int i2), .val (.int i3), .val (.int i4), .val (.int i5), .val (.int (4 : Int32)), .val (.int i7), .val (.int i8), .val (.ref b140), .val (.int (0 : Int32)), .val (.int (f1n4_0 i8 i0 i1 i2 i3)), .unset] [])) (fun t kt => ?_) ?_
            · show Steps p.tables e below (T201.setTop (mkF m 233 #[.val (.int i0), .val (.int i1), .val (.int i2), .val (.int i3), .val (.int i4), .val (.int i5), .val (.int (4 : Int32)), .val (.int i7), .val (.int i8), .val (.ref b140), .val (.int (0 : Int32)), .val (.int (f1n4_0 i8 i0 i1 i2 i3)), .unset] [(.int i3), (.int i3)])) _
              refine XS.icmpNo X201.here hx rfl (hb hby at_233) rfl (teq (rfl : i3 = i3)).2 kt
            refine own_step (T' := T201) (f' := (mkF m 247 #[.val (.int i0), .val (.int i1), .val (.int i2), .val (.int i3), .val (.int i4), .val (.int i5), .val (.int (4 : Int32)), .val (.int i7), .val (.int i8), .val (.ref b140), .val (.int (0 : Int32)), .val (.int (f1n4_0 i8 i0 i1 i2 i3)), .val (.int (1 : Int32))] [(.int (0 : Int32)), (.int (f1n4_0 i8 i0 i1 i2 i3))])) (fun t kt => ?_) ?_
            · show Steps p.tables e below (T201.setTop (mkF m 236 #[.val (.int i0), .val (.int i1), .val (.int i2), .val (.int i3), .val (.int i4), .val (.int i5), .val (.int (4 : Int32)), .val (.int i7), .val (.int i8), .val (.ref b140), .val (.int (0 : Int32)), .val (.int (f1n4_0 i8 i0 i1 i2 i3)), .unset] [])) _
              refine XS.iconst X201.here hx rfl (hb hby at_236) ?_
              show Steps p.tables e below (T201.setTop (mkF m 237 #[.val (.int i0), .val (.int i1), .val (.int i2), .val (.int i3), .val (.int i4), .val (.int i5), .val (.int (4 : Int32)), .val (.int i7), .val (.int i8), .val (.ref b140), .val (.int (0 : Int32)), .val (.int (f1n4_0 i8 i0 i1 i2 i3)), .unset] [(.int (1 : Int32))])) _
              refine XS.goto X201.here hx rfl (pc0 := 237) (pc' := 241) rfl (hb hby at_237) (by decide) (by decide) ?_
              show Steps p.tables e below (T201.setTop (mkF m 241 #[.val (.int i0), .val (.int i1), .val (.int i2), .val (.int i3), .val (.int i4), .val (.int i5), .val (.int (4 : Int32)), .val (.int i7), .val (.int i8), .val (.ref b140), .val (.int (0 : Int32)), .val (.int (f1n4_0 i8 i0 i1 i2 i3)), .unset] [(.int (1 : Int32))])) _
              refine XS.istore X201.here hx rfl (hb hby at_241) rfl (l' := #[.val (.int i0), .val (.int i1), .val (.int i2), .val (.int i3), .val (.int i4), .val (.int i5), .val (.int (4 : Int32)), .val (.int i7), .val (.int i8), .val (.ref b140), .val (.int (0 : Int32)), .val (.int (f1n4_0 i8 i0 i1 i2 i3)), .val (.int (1 : Int32))]) rfl ?_
              show Steps p.tables e below (T201.setTop (mkF m 243 #[.val (.int i0), .val (.int i1), .val (.int i2), .val (.int i3), .val (.int i4), .val (.int i5), .val (.int (4 : Int32)), .val (.int i7), .val (.int i8), .val (.ref b140), .val (.int (0 : Int32)), .val (.int (f1n4_0 i8 i0 i1 i2 i3)), .val (.int (1 : Int32))] [])) _
              refine XS.iload X201.here hx rfl (hb hby at_243) rfl ?_
              show Steps p.tables e below (T201.setTop (mkF m 245 #[.val (.int i0), .val (.int i1), .val (.int i2), .val (.int i3), .val (.int i4), .val (.int i5), .val (.int (4 : Int32)), .val (.int i7), .val (.int i8), .val (.ref b140), .val (.int (0 : Int32)), .val (.int (f1n4_0 i8 i0 i1 i2 i3)), .val (.int (1 : Int32))] [(.int (f1n4_0 i8 i0 i1 i2 i3))])) _
              refine XS.iload X201.here hx rfl (hb hby at_245) rfl ?_
              exact kt
            by_cases hc247_210 : (f1n4_0 i8 i0 i1 i2 i3) = (0 : Int32)
            · rw [if_pos hc247_210] at hr
              refine own_step (T' := T201) (f' := (mkF m 250 #[.val (.int i0), .val (.int i1), .val (.int i2), .val (.int i3), .val (.int i4), .val (.int i5), .val (.int (4 : Int32)), .val (.int i7), .val (.int i8), .val (.ref b140), .val (.int (0 : Int32)), .val (.int (f1n4_0 i8 i0 i1 i2 i3)), .val (.int (1 : Int32))] [])) (fun t kt => ?_) ?_
              · show Steps p.tables e below (T201.setTop (mkF m 247 #[.val (.int i0), .val (.int i1), .val (.int i2), .val (.int i3), .val (.int i4), .val (.int i5), .val (.int (4 : Int32)), .val (.int i7), .val (.int i8), .val (.ref b140), .val (.int (0 : Int32)), .val (.int (f1n4_0 i8 i0 i1 i2 i3)), .val (.int (1 : Int32))] [(.int (0 : Int32)), (.int (f1n4_0 i8 i0 i1 i2 i3))])) _
                refine XS.icmpNo X201.here hx rfl (hb hby at_247) rfl (teq hc247_210).2 kt
              refine own_step (T' := T201) (f' := (mkF m 252 #[.val (.int i0), .val (.int i1), .val (.int i2), .val (.int i3), .val (.int i4), .val (.int i5), .val (.int (4 : Int32)), .val (.int i7), .val (.int i8), .val (.ref b140), .val (.int (0 : Int32)), .val (.int (f1n4_0 i8 i0 i1 i2 i3)), .val (.int (1 : Int32))] [(.int (1 : Int32))])) (fun t kt => ?_) ?_
              · show Steps p.tables e below (T201.setTop (mkF m 250 #[.val (.int i0), .val (.int i1), .val (.int i2), .val (.int i3), .val (.int i4), .val (.int i5), .val (.int (4 : Int32)), .val (.int i7), .val (.int i8), .val (.ref b140), .val (.int (0 : Int32)), .val (.int (f1n4_0 i8 i0 i1 i2 i3)), .val (.int (1 : Int32))] [])) _
                refine XS.iload X201.here hx rfl (hb hby at_250) rfl ?_
                exact kt
              refine own_step (T' := T201) (f' := (mkF m 255 #[.val (.int i0), .val (.int i1), .val (.int i2), .val (.int i3), .val (.int i4), .val (.int i5), .val (.int (4 : Int32)), .val (.int i7), .val (.int i8), .val (.ref b140), .val (.int (0 : Int32)), .val (.int (f1n4_0 i8 i0 i1 i2 i3)), .val (.int (1 : Int32))] [])) (fun t kt => ?_) ?_
              · show Steps p.tables e below (T201.setTop (mkF m 252 #[.val (.int i0), .val (.int i1), .val (.int i2), .val (.int i3), .val (.int i4), .val (.int i5), .val (.int (4 : Int32)), .val (.int i7), .val (.int i8), .val (.ref b140), .val (.int (0 : Int32)), .val (.int (f1n4_0 i8 i0 i1 i2 i3)), .val (.int (1 : Int32))] [(.int (1 : Int32))])) _
                refine XS.ifNo X201.here hx rfl (hb hby at_252) rfl ((if0 _ _).trans (feq (by decide : ¬ ((1 : Int32) = (0 : Int32)))).1) kt
              refine own_step (T' := T201) (f' := (mkF m 260 #[.val (.int i0), .val (.int i1), .val (.int i2), .val (.int i3), .val (.int i4), .val (.int i5), .val (.int (4 : Int32)), .val (.int i7), .val (.int i8), .val (.ref b140), .val (.int (0 : Int32)), .val (.int (f1n4_0 i8 i0 i1 i2 i3)), .val (.int (1 : Int32))] [(.int (1 : Int32))])) (fun t kt => ?_) ?_
              · show Steps p.tables e below (T201.setTop (mkF m 255 #[.val (.int i0), .val (.int i1), .val (.int i2), .val (.int i3), .val (.int i4), .val (.int i5), .val (.int (4 : Int32)), .val (.int i7), .val (.int i8), .val (.ref b140), .val (.int (0 : Int32)), .val (.int (f1n4_0 i8 i0 i1 i2 i3)), .val (.int (1 : Int32))] [])) _
                refine XS.iconst X201.here hx rfl (hb hby at_255) ?_
                show Steps p.tables e below (T201.setTop (mkF m 256 #[.val (.int i0), .val (.int i1), .val (.int i2), .val (.int i3), .val (.int i4), .val (.int i5), .val (.int (4 : Int32)), .val (.int i7), .val (.int i8), .val (.ref b140), .val (.int (0 : Int32)), .val (.int (f1n4_0 i8 i0 i1 i2 i3)), .val (.int (1 : Int32))] [(.int (1 : Int32))])) _
                refine XS.goto X201.here hx rfl (pc0 := 256) (pc' := 260) rfl (hb hby at_256) (by decide) (by decide) ?_
                exact kt
              exact own_retZ X201 hx hret (by simp) hlk (hb hby at_260) (by decide) (by decide) ⟨congrArg (fun z => some (Value.int z)) hr.symm, N201⟩
            · rw [if_neg hc247_210] at hr
              refine own_step (T' := T201) (f' := (mkF m 259 #[.val (.int i0), .val (.int i1), .val (.int i2), .val (.int i3), .val (.int i4), .val (.int i5), .val (.int (4 : Int32)), .val (.int i7), .val (.int i8), .val (.ref b140), .val (.int (0 : Int32)), .val (.int (f1n4_0 i8 i0 i1 i2 i3)), .val (.int (1 : Int32))] [])) (fun t kt => ?_) ?_
              · show Steps p.tables e below (T201.setTop (mkF m 247 #[.val (.int i0), .val (.int i1), .val (.int i2), .val (.int i3), .val (.int i4), .val (.int i5), .val (.int (4 : Int32)), .val (.int i7), .val (.int i8), .val (.ref b140), .val (.int (0 : Int32)), .val (.int (f1n4_0 i8 i0 i1 i2 i3)), .val (.int (1 : Int32))] [(.int (0 : Int32)), (.int (f1n4_0 i8 i0 i1 i2 i3))])) _
                refine XS.icmpYes X201.here hx rfl (pc0 := 247) (pc' := 259) rfl (hb hby at_247) rfl (feq hc247_210).2 (by decide) (by decide) kt
              refine own_step (T' := T201) (f' := (mkF m 260 #[.val (.int i0), .val (.int i1), .val (.int i2), .val (.int i3), .val (.int i4), .val (.int i5), .val (.int (4 : Int32)), .val (.int i7), .val (.int i8), .val (.ref b140), .val (.int (0 : Int32)), .val (.int (f1n4_0 i8 i0 i1 i2 i3)), .val (.int (1 : Int32))] [(.int (0 : Int32))])) (fun t kt => ?_) ?_
              · show Steps p.tables e below (T201.setTop (mkF m 259 #[.val (.int i0), .val (.int i1), .val (.int i2), .val (.int i3), .val (.int i4), .val (.int i5), .val (.int (4 : Int32)), .val (.int i7), .val (.int i8), .val (.ref b140), .val (.int (0 : Int32)), .val (.int (f1n4_0 i8 i0 i1 i2 i3)), .val (.int (1 : Int32))] [])) _
                refine XS.iconst X201.here hx rfl (hb hby at_259) ?_
                exact kt
              exact own_retZ X201 hx hret (by simp) hlk (hb hby at_260) (by decide) (by decide) ⟨congrArg (fun z => some (Value.int z)) hr.symm, N201⟩
def f0_0 (p0 : Int32) (p1 : Int32) (p2 : Int32) (p3 : Int32) (p4 : Int32) (p5 : Int32) : Int32 :=
  if (p5 &&& (7 : Int32)) = (0 : Int32) then (f0_69 p0 p1 p2 p3 ((((p5.toUInt32 >>> ((3 : Int32) &&& 31).toUInt32).toInt32) &&& (7 : Int32)) - (((p5.toUInt32 >>> ((3 : Int32) &&& 31).toUInt32).toInt32) &&& (7 : Int32)) / (5 : Int32) * (5 : Int32)) p0) else (if (p5 &&& (7 : Int32)) = (1 : Int32) then (f0_69 p0 p1 p2 p3 ((((p5.toUInt32 >>> ((3 : Int32) &&& 31).toUInt32).toInt32) &&& (7 : Int32)) - (((p5.toUInt32 >>> ((3 : Int32) &&& 31).toUInt32).toInt32) &&& (7 : Int32)) / (5 : Int32) * (5 : Int32)) p1) else (if (p5 &&& (7 : Int32)) = (2 : Int32) then (f0_69 p0 p1 p2 p3 ((((p5.toUInt32 >>> ((3 : Int32) &&& 31).toUInt32).toInt32) &&& (7 : Int32)) - (((p5.toUInt32 >>> ((3 : Int32) &&& 31).toUInt32).toInt32) &&& (7 : Int32)) / (5 : Int32) * (5 : Int32)) p2) else (if (p5 &&& (7 : Int32)) = (3 : Int32) then (f0_69 p0 p1 p2 p3 ((((p5.toUInt32 >>> ((3 : Int32) &&& 31).toUInt32).toInt32) &&& (7 : Int32)) - (((p5.toUInt32 >>> ((3 : Int32) &&& 31).toUInt32).toInt32) &&& (7 : Int32)) / (5 : Int32) * (5 : Int32)) p3) else (f0_69 p0 p1 p2 p3 ((((p5.toUInt32 >>> ((3 : Int32) &&& 31).toUInt32).toInt32) &&& (7 : Int32)) - (((p5.toUInt32 >>> ((3 : Int32) &&& 31).toUInt32).toInt32) &&& (7 : Int32)) / (5 : Int32) * (5 : Int32)) p4))))
set_option maxRecDepth 65536 in
set_option maxHeartbeats 4000000 in
theorem b0_0 {p : Program} {l : Launch} {e : Env} {s : State} {m : MethodId} {args : Array Value} {below : List Frame} {meth : Method} {c : Code} {T0 : State} {locs : List Loc} {Z : State} {a0 : Array Value} {h0 : Heap} {n0 : Nat} (p0 : Int32) (p1 : Int32) (p2 : Int32) (p3 : Int32) (p4 : Int32) (p5 : Int32) {r : Int32} (X0 : Stand p l e room_1 s m args below meth c T0 locs 0 0) (hx : p.tables.exec = Jvm.exec) (hZ : Z.Warmed39 s.vm) (hw : ∀ d ∈ tables_1, d.before a0 Z = true) (hby : c.code = code) (hml : c.maxLocals = 13) (hown : s.vm.findClass "com/example/conceal/conceal/SensitiveHoldersContainsPinLaw" = some m.cls) (hret : meth.sig.returnType = some .boolean) (hlk : meth.locks = false) (e0 : T0.heap = h0) (N0 : Fr n0 locs) (Z0 : n0 ≤ h0.size) (hr : r = f0_0 p0 p1 p2 p3 p4 p5) :
    own_Ends p e below s 16 128 (own_R (.int r) n0) T0 (mkF m 0 #[.val (.int p0), .val (.int p1), .val (.int p2), .val (.int p3), .val (.int p4), .val (.int p5), .unset, .unset, .unset, .unset, .unset, .unset, .unset] []) := by
  unfold f0_0 at hr
  refine own_step (T' := T0) (f' := (mkF m 20 #[.val (.int p0), .val (.int p1), .val (.int p2), .val (.int p3), .val (.int p4), .val (.int p5), .val (.int ((((p5.toUInt32 >>> ((3 : Int32) &&& 31).toUInt32).toInt32) &&& (7 : Int32)) - (((p5.toUInt32 >>> ((3 : Int32) &&& 31).toUInt32).toInt32) &&& (7 : Int32)) / (5 : Int32) * (5 : Int32))), .val (.int (p5 &&& (7 : Int32))), .unset, .unset, .unset, .unset, .unset] [(.int (p5 &&& (7 : Int32)))])) (fun t kt => ?_) ?_
  · show Steps p.tables e below (T0.setTop (mkF m 0 #[.val (.int p0), .val (.int p1), .val (.int p2), .val (.int p3), .val (.int p4), .val (.int p5), .unset, .unset, .unset, .unset, .unset, .unset, .unset] [])) _
    refine XS.iload X0.here hx rfl (hb hby at_0) rfl ?_
    show Steps p.tables e below (T0.setTop (mkF m 2 #[.val (.int p0), .val (.int p1), .val (.int p2), .val (.int p3), .val (.int p4), .val (.int p5), .unset, .unset, .unset, .unset, .unset, .unset, .unset] [(.int p5)])) _
    refine XS.iconst X0.here hx rfl (hb hby at_2) ?_
    show Steps p.tables e below (T0.setTop (mkF m 3 #[.val (.int p0), .val (.int p1), .val (.int p2), .val (.int p3), .val (.int p4), .val (.int p5), .unset, .unset, .unset, .unset, .unset, .unset, .unset] [(.int (3 : Int32)), (.int p5)])) _
    refine XS.iushr X0.here hx rfl (hb hby at_3) rfl ?_
    show Steps p.tables e below (T0.setTop (mkF m 4 #[.val (.int p0), .val (.int p1), .val (.int p2), .val (.int p3), .val (.int p4), .val (.int p5), .unset, .unset, .unset, .unset, .unset, .unset, .unset] [(.int ((p5.toUInt32 >>> ((3 : Int32) &&& 31).toUInt32).toInt32))])) _
    refine XS.bipush X0.here hx rfl (hb hby at_4) ?_
    show Steps p.tables e below (T0.setTop (mkF m 6 #[.val (.int p0), .val (.int p1), .val (.int p2), .val (.int p3), .val (.int p4), .val (.int p5), .unset, .unset, .unset, .unset, .unset, .unset, .unset] [(.int (7 : Int32)), (.int ((p5.toUInt32 >>> ((3 : Int32) &&& 31).toUInt32).toInt32))])) _
    refine XS.iand X0.here hx rfl (hb hby at_6) rfl ?_
    show Steps p.tables e below (T0.setTop (mkF m 7 #[.val (.int p0), .val (.int p1), .val (.int p2), .val (.int p3), .val (.int p4), .val (.int p5), .unset, .unset, .unset, .unset, .unset, .unset, .unset] [(.int (((p5.toUInt32 >>> ((3 : Int32) &&& 31).toUInt32).toInt32) &&& (7 : Int32)))])) _
    refine XS.iconst X0.here hx rfl (hb hby at_7) ?_
    show Steps p.tables e below (T0.setTop (mkF m 8 #[.val (.int p0), .val (.int p1), .val (.int p2), .val (.int p3), .val (.int p4), .val (.int p5), .unset, .unset, .unset, .unset, .unset, .unset, .unset] [(.int (5 : Int32)), (.int (((p5.toUInt32 >>> ((3 : Int32) &&& 31).toUInt32).toInt32) &&& (7 : Int32)))])) _
    refine XS.irem X0.here hx rfl (hb hby at_8) rfl (by decide) ?_
    show Steps p.tables e below (T0.setTop (mkF m 9 #[.val (.int p0), .val (.int p1), .val (.int p2), .val (.int p3), .val (.int p4), .val (.int p5), .unset, .unset, .unset, .unset, .unset, .unset, .unset] [(.int ((((p5.toUInt32 >>> ((3 : Int32) &&& 31).toUInt32).toInt32) &&& (7 : Int32)) - (((p5.toUInt32 >>> ((3 : Int32) &&& 31).toUInt32).toInt32) &&& (7 : Int32)) / (5 : Int32) * (5 : Int32)))])) _
    refine XS.istore X0.here hx rfl (hb hby at_9) rfl (l' := #[.val (.int p0), .val (.int p1), .val (.int p2), .val (.int p3), .val (.int p4), .val (.int p5), .val (.int ((((p5.toUInt32 >>> ((3 : Int32) &&& 31).toUInt32).toInt32) &&& (7 : Int32)) - (((p5.toUInt32 >>> ((3 : Int32) &&& 31).toUInt32).toInt32) &&& (7 : Int32)) / (5 : Int32) * (5 : Int32))), .unset, .unset, .unset, .unset, .unset, .unset]) rfl ?_
    show Steps p.tables e below (T0.setTop (mkF m 11 #[.val (.int p0), .val (.int p1), .val (.int p2), .val (.int p3), .val (.int p4), .val (.int p5), .val (.int ((((p5.toUInt32 >>> ((3 : Int32) &&& 31).toUInt32).toInt32) &&& (7 : Int32)) - (((p5.toUInt32 >>> ((3 : Int32) &&& 31).toUInt32).toInt32) &&& (7 : Int32)) / (5 : Int32) * (5 : Int32))), .unset, .unset, .unset, .unset, .unset, .unset] [])) _
    refine XS.iload X0.here hx rfl (hb hby at_11) rfl ?_
    show Steps p.tables e below (T0.setTop (mkF m 13 #[.val (.int p0), .val (.int p1), .val (.int p2), .val (.int p3), .val (.int p4), .val (.int p5), .val (.int ((((p5.toUInt32 >>> ((3 : Int32) &&& 31).toUInt32).toInt32) &&& (7 : Int32)) - (((p5.toUInt32 >>> ((3 : Int32) &&& 31).toUInt32).toInt32) &&& (7 : Int32)) / (5 : Int32) * (5 : Int32))), .unset, .unset, .unset, .unset, .unset, .unset] [(.int p5)])) _
    refine XS.bipush X0.here hx rfl (hb hby at_13) ?_
    show Steps p.tables e below (T0.setTop (mkF m 15 #[.val (.int p0), .val (.int p1), .val (.int p2), .val (.int p3), .val (.int p4), .val (.int p5), .val (.int ((((p5.toUInt32 >>> ((3 : Int32) &&& 31).toUInt32).toInt32) &&& (7 : Int32)) - (((p5.toUInt32 >>> ((3 : Int32) &&& 31).toUInt32).toInt32) &&& (7 : Int32)) / (5 : Int32) * (5 : Int32))), .unset, .unset, .unset, .unset, .unset, .unset] [(.int (7 : Int32)), (.int p5)])) _
    refine XS.iand X0.here hx rfl (hb hby at_15) rfl ?_
    show Steps p.tables e below (T0.setTop (mkF m 16 #[.val (.int p0), .val (.int p1), .val (.int p2), .val (.int p3), .val (.int p4), .val (.int p5), .val (.int ((((p5.toUInt32 >>> ((3 : Int32) &&& 31).toUInt32).toInt32) &&& (7 : Int32)) - (((p5.toUInt32 >>> ((3 : Int32) &&& 31).toUInt32).toInt32) &&& (7 : Int32)) / (5 : Int32) * (5 : Int32))), .unset, .unset, .unset, .unset, .unset, .unset] [(.int (p5 &&& (7 : Int32)))])) _
    refine XS.istore X0.here hx rfl (hb hby at_16) rfl (l' := #[.val (.int p0), .val (.int p1), .val (.int p2), .val (.int p3), .val (.int p4), .val (.int p5), .val (.int ((((p5.toUInt32 >>> ((3 : Int32) &&& 31).toUInt32).toInt32) &&& (7 : Int32)) - (((p5.toUInt32 >>> ((3 : Int32) &&& 31).toUInt32).toInt32) &&& (7 : Int32)) / (5 : Int32) * (5 : Int32))), .val (.int (p5 &&& (7 : Int32))), .unset, .unset, .unset, .unset, .unset]) rfl ?_
    show Steps p.tables e below (T0.setTop (mkF m 18 #[.val (.int p0), .val (.int p1), .val (.int p2), .val (.int p3), .val (.int p4), .val (.int p5), .val (.int ((((p5.toUInt32 >>> ((3 : Int32) &&& 31).toUInt32).toInt32) &&& (7 : Int32)) - (((p5.toUInt32 >>> ((3 : Int32) &&& 31).toUInt32).toInt32) &&& (7 : Int32)) / (5 : Int32) * (5 : Int32))), .val (.int (p5 &&& (7 : Int32))), .unset, .unset, .unset, .unset, .unset] [])) _
    refine XS.iload X0.here hx rfl (hb hby at_18) rfl ?_
    exact kt
  by_cases hc20_1 : (p5 &&& (7 : Int32)) = (0 : Int32)
  · rw [if_pos hc20_1] at hr
    refine own_step (T' := T0) (f' := (mkF m 23 #[.val (.int p0), .val (.int p1), .val (.int p2), .val (.int p3), .val (.int p4), .val (.int p5), .val (.int ((((p5.toUInt32 >>> ((3 : Int32) &&& 31).toUInt32).toInt32) &&& (7 : Int32)) - (((p5.toUInt32 >>> ((3 : Int32) &&& 31).toUInt32).toInt32) &&& (7 : Int32)) / (5 : Int32) * (5 : Int32))), .val (.int (p5 &&& (7 : Int32))), .unset, .unset, .unset, .unset, .unset] [])) (fun t kt => ?_) ?_
    · show Steps p.tables e below (T0.setTop (mkF m 20 #[.val (.int p0), .val (.int p1), .val (.int p2), .val (.int p3), .val (.int p4), .val (.int p5), .val (.int ((((p5.toUInt32 >>> ((3 : Int32) &&& 31).toUInt32).toInt32) &&& (7 : Int32)) - (((p5.toUInt32 >>> ((3 : Int32) &&& 31).toUInt32).toInt32) &&& (7 : Int32)) / (5 : Int32) * (5 : Int32))), .val (.int (p5 &&& (7 : Int32))), .unset, .unset, .unset, .unset, .unset] [(.int (p5 &&& (7 : Int32)))])) _
      refine XS.ifNo X0.here hx rfl (hb hby at_20) rfl ((if0 _ _).trans (teq hc20_1).2) kt
    refine own_step (T' := T0) (f' := (mkF m 69 #[.val (.int p0), .val (.int p1), .val (.int p2), .val (.int p3), .val (.int p4), .val (.int p5), .val (.int ((((p5.toUInt32 >>> ((3 : Int32) &&& 31).toUInt32).toInt32) &&& (7 : Int32)) - (((p5.toUInt32 >>> ((3 : Int32) &&& 31).toUInt32).toInt32) &&& (7 : Int32)) / (5 : Int32) * (5 : Int32))), .val (.int (p5 &&& (7 : Int32))), .val (.int p0), .unset, .unset, .unset, .unset] [])) (fun t kt => ?_) ?_
    · show Steps p.tables e below (T0.setTop (mkF m 23 #[.val (.int p0), .val (.int p1), .val (.int p2), .val (.int p3), .val (.int p4), .val (.int p5), .val (.int ((((p5.toUInt32 >>> ((3 : Int32) &&& 31).toUInt32).toInt32) &&& (7 : Int32)) - (((p5.toUInt32 >>> ((3 : Int32) &&& 31).toUInt32).toInt32) &&& (7 : Int32)) / (5 : Int32) * (5 : Int32))), .val (.int (p5 &&& (7 : Int32))), .unset, .unset, .unset, .unset, .unset] [])) _
      refine XS.iloadN X0.here hx rfl (hb hby at_23) rfl ?_
      show Steps p.tables e below (T0.setTop (mkF m 24 #[.val (.int p0), .val (.int p1), .val (.int p2), .val (.int p3), .val (.int p4), .val (.int p5), .val (.int ((((p5.toUInt32 >>> ((3 : Int32) &&& 31).toUInt32).toInt32) &&& (7 : Int32)) - (((p5.toUInt32 >>> ((3 : Int32) &&& 31).toUInt32).toInt32) &&& (7 : Int32)) / (5 : Int32) * (5 : Int32))), .val (.int (p5 &&& (7 : Int32))), .unset, .unset, .unset, .unset, .unset] [(.int p0)])) _
      refine XS.istore X0.here hx rfl (hb hby at_24) rfl (l' := #[.val (.int p0), .val (.int p1), .val (.int p2), .val (.int p3), .val (.int p4), .val (.int p5), .val (.int ((((p5.toUInt32 >>> ((3 : Int32) &&& 31).toUInt32).toInt32) &&& (7 : Int32)) - (((p5.toUInt32 >>> ((3 : Int32) &&& 31).toUInt32).toInt32) &&& (7 : Int32)) / (5 : Int32) * (5 : Int32))), .val (.int (p5 &&& (7 : Int32))), .val (.int p0), .unset, .unset, .unset, .unset]) rfl ?_
      show Steps p.tables e below (T0.setTop (mkF m 26 #[.val (.int p0), .val (.int p1), .val (.int p2), .val (.int p3), .val (.int p4), .val (.int p5), .val (.int ((((p5.toUInt32 >>> ((3 : Int32) &&& 31).toUInt32).toInt32) &&& (7 : Int32)) - (((p5.toUInt32 >>> ((3 : Int32) &&& 31).toUInt32).toInt32) &&& (7 : Int32)) / (5 : Int32) * (5 : Int32))), .val (.int (p5 &&& (7 : Int32))), .val (.int p0), .unset, .unset, .unset, .unset] [])) _
      refine XS.goto X0.here hx rfl (pc0 := 26) (pc' := 69) rfl (hb hby at_26) (by decide) (by decide) ?_
      exact kt
    exact b0_69 p0 p1 p2 p3 p4 p5 ((((p5.toUInt32 >>> ((3 : Int32) &&& 31).toUInt32).toInt32) &&& (7 : Int32)) - (((p5.toUInt32 >>> ((3 : Int32) &&& 31).toUInt32).toInt32) &&& (7 : Int32)) / (5 : Int32) * (5 : Int32)) (p5 &&& (7 : Int32)) p0 X0 hx hZ hw hby hml hown hret hlk e0 N0 Z0 (own_sp _) hr
  · rw [if_neg hc20_1] at hr
    refine own_step (T' := T0) (f' := (mkF m 29 #[.val (.int p0), .val (.int p1), .val (.int p2), .val (.int p3), .val (.int p4), .val (.int p5), .val (.int ((((p5.toUInt32 >>> ((3 : Int32) &&& 31).toUInt32).toInt32) &&& (7 : Int32)) - (((p5.toUInt32 >>> ((3 : Int32) &&& 31).toUInt32).toInt32) &&& (7 : Int32)) / (5 : Int32) * (5 : Int32))), .val (.int (p5 &&& (7 : Int32))), .unset, .unset, .unset, .unset, .unset] [])) (fun t kt => ?_) ?_
    · show Steps p.tables e below (T0.setTop (mkF m 20 #[.val (.int p0), .val (.int p1), .val (.int p2), .val (.int p3), .val (.int p4), .val (.int p5), .val (.int ((((p5.toUInt32 >>> ((3 : Int32) &&& 31).toUInt32).toInt32) &&& (7 : Int32)) - (((p5.toUInt32 >>> ((3 : Int32) &&& 31).toUInt32).toInt32) &&& (7 : Int32)) / (5 : Int32) * (5 : Int32))), .val (.int (p5 &&& (7 : Int32))), .unset, .unset, .unset, .unset, .unset] [(.int (p5 &&& (7 : Int32)))])) _
      refine XS.ifYes X0.here hx rfl (pc0 := 20) (pc' := 29) rfl (hb hby at_20) rfl ((if0 _ _).trans (feq hc20_1).2) (by decide) (by decide) kt
    refine own_step (T' := T0) (f' := (mkF m 32 #[.val (.int p0), .val (.int p1), .val (.int p2), .val (.int p3), .val (.int p4), .val (.int p5), .val (.int ((((p5.toUInt32 >>> ((3 : Int32) &&& 31).toUInt32).toInt32) &&& (7 : Int32)) - (((p5.toUInt32 >>> ((3 : Int32) &&& 31).toUInt32).toInt32) &&& (7 : Int32)) / (5 : Int32) * (5 : Int32))), .val (.int (p5 &&& (7 : Int32))), .unset, .unset, .unset, .unset, .unset] [(.int (1 : Int32)), (.int (p5 &&& (7 : Int32)))])) (fun t kt => ?_) ?_
    · show Steps p.tables e below (T0.setTop (mkF m 29 #[.val (.int p0), .val (.int p1), .val (.int p2), .val (.int p3), .val (.int p4), .val (.int p5), .val (.int ((((p5.toUInt32 >>> ((3 : Int32) &&& 31).toUInt32).toInt32) &&& (7 : Int32)) - (((p5.toUInt32 >>> ((3 : Int32) &&& 31).toUInt32).toInt32) &&& (7 : Int32)) / (5 : Int32) * (5 : Int32))), .val (.int (p5 &&& (7 : Int32))), .unset, .unset, .unset, .unset, .unset] [])) _
      refine XS.iload X0.here hx rfl (hb hby at_29) rfl ?_
      show Steps p.tables e below (T0.setTop (mkF m 31 #[.val (.int p0), .val (.int p1), .val (.int p2), .val (.int p3), .val (.int p4), .val (.int p5), .val (.int ((((p5.toUInt32 >>> ((3 : Int32) &&& 31).toUInt32).toInt32) &&& (7 : Int32)) - (((p5.toUInt32 >>> ((3 : Int32) &&& 31).toUInt32).toInt32) &&& (7 : Int32)) / (5 : Int32) * (5 : Int32))), .val (.int (p5 &&& (7 : Int32))), .unset, .unset, .unset, .unset, .unset] [(.int (p5 &&& (7 : Int32)))])) _
      refine XS.iconst X0.here hx rfl (hb hby at_31) ?_
      exact kt
    by_cases hc32_212 : (p5 &&& (7 : Int32)) = (1 : Int32)
    · rw [if_pos hc32_212] at hr
      refine own_step (T' := T0) (f' := (mkF m 35 #[.val (.int p0), .val (.int p1), .val (.int p2), .val (.int p3), .val (.int p4), .val (.int p5), .val (.int ((((p5.toUInt32 >>> ((3 : Int32) &&& 31).toUInt32).toInt32) &&& (7 : Int32)) - (((p5.toUInt32 >>> ((3 : Int32) &&& 31).toUInt32).toInt32) &&& (7 : Int32)) / (5 : Int32) * (5 : Int32))), .val (.int (p5 &&& (7 : Int32))), .unset, .unset, .unset, .unset, .unset] [])) (fun t kt => ?_) ?_
      · show Steps p.tables e below (T0.setTop (mkF m 32 #[.val (.int p0), .val (.int p1), .val (.int p2), .val (.int p3), .val (.int p4), .val (.int p5), .val (.int ((((p5.toUInt32 >>> ((3 : Int32) &&& 31).toUInt32).toInt32) &&& (7 : Int32)) - (((p5.toUInt32 >>> ((3 : Int32) &&& 31).toUInt32).toInt32) &&& (7 : Int32)) / (5 : Int32) * (5 : Int32))), .val (.int (p5 &&& (7 : Int32))), .unset, .unset, .unset, .unset, .unset] [(.int (1 : Int32)), (.int (p5 &&& (7 : Int32)))])) _
        refine XS.icmpNo X0.here hx rfl (hb hby at_32) rfl (teq hc32_212).2 kt
      refine own_step (T' := T0) (f' := (mkF m 69 #[.val (.int p0), .val (.int p1), .val (.int p2), .val (.int p3), .val (.int p4), .val (.int p5), .val (.int ((((p5.toUInt32 >>> ((3 : Int32) &&& 31).toUInt32).toInt32) &&& (7 : Int32)) - (((p5.toUInt32 >>> ((3 : Int32) &&& 31).toUInt32).toInt32) &&& (7 : Int32)) / (5 : Int32) * (5 : Int32))), .val (.int (p5 &&& (7 : Int32))), .val (.int p1), .unset, .unset, .unset, .unset] [])) (fun t kt => ?_) ?_
      · show Steps p.tables e below (T0.setTop (mkF m 35 #[.val (.int p0), .val (.int p1), .val (.int p2), .val (.int p3), .val (.int p4), .val (.int p5), .val (.int ((((p5.toUInt32 >>> ((3 : Int32) &&& 31).toUInt32).toInt32) &&& (7 : Int32)) - (((p5.toUInt32 >>> ((3 : Int32) &&& 31).toUInt32).toInt32) &&& (7 : Int32)) / (5 : Int32) * (5 : Int32))), .val (.int (p5 &&& (7 : Int32))), .unset, .unset, .unset, .unset, .unset] [])) _
        refine XS.iloadN X0.here hx rfl (hb hby at_35) rfl ?_
        show Steps p.tables e below (T0.setTop (mkF m 36 #[.val (.int p0), .val (.int p1), .val (.int p2), .val (.int p3), .val (.int p4), .val (.int p5), .val (.int ((((p5.toUInt32 >>> ((3 : Int32) &&& 31).toUInt32).toInt32) &&& (7 : Int32)) - (((p5.toUInt32 >>> ((3 : Int32) &&& 31).toUInt32).toInt32) &&& (7 : Int32)) / (5 : Int32) * (5 : Int32))), .val (.int (p5 &&& (7 : Int32))), .unset, .unset, .unset, .unset, .unset] [(.int p1)])) _
        refine XS.istore X0.here hx rfl (hb hby at_36) rfl (l' := #[.val (.int p0), .val (.int p1), .val (.int p2), .val (.int p3), .val (.int p4), .val (.int p5), .val (.int ((((p5.toUInt32 >>> ((3 : Int32) &&& 31).toUInt32).toInt32) &&& (7 : Int32)) - (((p5.toUInt32 >>> ((3 : Int32) &&& 31).toUInt32).toInt32) &&& (7 : Int32)) / (5 : Int32) * (5 : Int32))), .val (.int (p5 &&& (7 : Int32))), .val (.int p1), .unset, .unset, .unset, .unset]) rfl ?_
        show Steps p.tables e below (T0.setTop (mkF m 38 #[.val (.int p0), .val (.int p1), .val (.int p2), .val (.int p3), .val (.int p4), .val (.int p5), .val (.int ((((p5.toUInt32 >>> ((3 : Int32) &&& 31).toUInt32).toInt32) &&& (7 : Int32)) - (((p5.toUInt32 >>> ((3 : Int32) &&& 31).toUInt32).toInt32) &&& (7 : Int32)) / (5 : Int32) * (5 : Int32))), .val (.int (p5 &&& (7 : Int32))), .val (.int p1), .unset, .unset, .unset, .unset] [])) _
        refine XS.goto X0.here hx rfl (pc0 := 38) (pc' := 69) rfl (hb hby at_38) (by decide) (by decide) ?_
        exact kt
      exact b0_69 p0 p1 p2 p3 p4 p5 ((((p5.toUInt32 >>> ((3 : Int32) &&& 31).toUInt32).toInt32) &&& (7 : Int32)) - (((p5.toUInt32 >>> ((3 : Int32) &&& 31).toUInt32).toInt32) &&& (7 : Int32)) / (5 : Int32) * (5 : Int32)) (p5 &&& (7 : Int32)) p1 X0 hx hZ hw hby hml hown hret hlk e0 N0 Z0 (own_sp _) hr
    · rw [if_neg hc32_212] at hr
      refine own_step (T' := T0) (f' := (mkF m 41 #[.val (.int p0), .val (.int p1), .val (.int p2), .val (.int p3), .val (.int p4), .val (.int p5), .val (.int ((((p5.toUInt32 >>> ((3 : Int32) &&& 31).toUInt32).toInt32) &&& (7 : Int32)) - (((p5.toUInt32 >>> ((3 : Int32) &&& 31).toUInt32).toInt32) &&& (7 : Int32)) / (5 : Int32) * (5 : Int32))), .val (.int (p5 &&& (7 : Int32))), .unset, .unset, .unset, .unset, .unset] [])) (fun t kt => ?_) ?_
      · show Steps p.tables e below (T0.setTop (mkF m 32 #[.val (.int p0), .val (.int p1), .val (.int p2), .val (.int p3), .val (.int p4), .val (.int p5), .val (.int ((((p5.toUInt32 >>> ((3 : Int32) &&& 31).toUInt32).toInt32) &&& (7 : Int32)) - (((p5.toUInt32 >>> ((3 : Int32) &&& 31).toUInt32).toInt32) &&& (7 : Int32)) / (5 : Int32) * (5 : Int32))), .val (.int (p5 &&& (7 : Int32))), .unset, .unset, .unset, .unset, .unset] [(.int (1 : Int32)), (.int (p5 &&& (7 : Int32)))])) _
        refine XS.icmpYes X0.here hx rfl (pc0 := 32) (pc' := 41) rfl (hb hby at_32) rfl (feq hc32_212).2 (by decide) (by decide) kt
      refine own_step (T' := T0) (f' := (mkF m 44 #[.val (.int p0), .val (.int p1), .val (.int p2), .val (.int p3), .val (.int p4), .val (.int p5), .val (.int ((((p5.toUInt32 >>> ((3 : Int32) &&& 31).toUInt32).toInt32) &&& (7 : Int32)) - (((p5.toUInt32 >>> ((3 : Int32) &&& 31).toUInt32).toInt32) &&& (7 : Int32)) / (5 : Int32) * (5 : Int32))), .val (.int (p5 &&& (7 : Int32))), .unset, .unset, .unset, .unset, .unset] [(.int (2 : Int32)), (.int (p5 &&& (7 : Int32)))])) (fun t kt => ?_) ?_
      · show Steps p.tables e below (T0.setTop (mkF m 41 #[.val (.int p0), .val (.int p1), .val (.int p2), .val (.int p3), .val (.int p4), .val (.int p5), .val (.int ((((p5.toUInt32 >>> ((3 : Int32) &&& 31).toUInt32).toInt32) &&& (7 : Int32)) - (((p5.toUInt32 >>> ((3 : Int32) &&& 31).toUInt32).toInt32) &&& (7 : Int32)) / (5 : Int32) * (5 : Int32))), .val (.int (p5 &&& (7 : Int32))), .unset, .unset, .unset, .unset, .unset] [])) _
        refine XS.iload X0.here hx rfl (hb hby at_41) rfl ?_
        show Steps p.tables e below (T0.setTop (mkF m 43 #[.val (.int p0), .val (.int p1), .val (.int p2), .val (.int p3), .val (.int p4), .val (.int p5), .val (.int ((((p5.toUInt32 >>> ((3 : Int32) &&& 31).toUInt32).toInt32) &&& (7 : Int32)) - (((p5.toUInt32 >>> ((3 : Int32) &&& 31).toUInt32).toInt32) &&& (7 : Int32)) / (5 : Int32) * (5 : Int32))), .val (.int (p5 &&& (7 : Int32))), .unset, .unset, .unset, .unset, .unset] [(.int (p5 &&& (7 : Int32)))])) _
        refine XS.iconst X0.here hx rfl (hb hby at_43) ?_
        exact kt
      by_cases hc44_213 : (p5 &&& (7 : Int32)) = (2 : Int32)
      · rw [if_pos hc44_213] at hr
        refine own_step (T' := T0) (f' := (mkF m 47 #[.val (.int p0), .val (.int p1), .val (.int p2), .val (.int p3), .val (.int p4), .val (.int p5), .val (.int ((((p5.toUInt32 >>> ((3 : Int32) &&& 31).toUInt32).toInt32) &&& (7 : Int32)) - (((p5.toUInt32 >>> ((3 : Int32) &&& 31).toUInt32).toInt32) &&& (7 : Int32)) / (5 : Int32) * (5 : Int32))), .val (.int (p5 &&& (7 : Int32))), .unset, .unset, .unset, .unset, .unset] [])) (fun t kt => ?_) ?_
        · show Steps p.tables e below (T0.setTop (mkF m 44 #[.val (.int p0), .val (.int p1), .val (.int p2), .val (.int p3), .val (.int p4), .val (.int p5), .val (.int ((((p5.toUInt32 >>> ((3 : Int32) &&& 31).toUInt32).toInt32) &&& (7 : Int32)) - (((p5.toUInt32 >>> ((3 : Int32) &&& 31).toUInt32).toInt32) &&& (7 : Int32)) / (5 : Int32) * (5 : Int32))), .val (.int (p5 &&& (7 : Int32))), .unset, .unset, .unset, .unset, .unset] [(.int (2 : Int32)), (.int (p5 &&& (7 : Int32)))])) _
          refine XS.icmpNo X0.here hx rfl (hb hby at_44) rfl (teq hc44_213).2 kt
        refine own_step (T' := T0) (f' := (mkF m 69 #[.val (.int p0), .val (.int p1), .val (.int p2), .val (.int p3), .val (.int p4), .val (.int p5), .val (.int ((((p5.toUInt32 >>> ((3 : Int32) &&& 31).toUInt32).toInt32) &&& (7 : Int32)) - (((p5.toUInt32 >>> ((3 : Int32) &&& 31).toUInt32).toInt32) &&& (7 : Int32)) / (5 : Int32) * (5 : Int32))), .val (.int (p5 &&& (7 : Int32))), .val (.int p2), .unset, .unset, .unset, .unset] [])) (fun t kt => ?_) ?_
        · show Steps p.tables e below (T0.setTop (mkF m 47 #[.val (.int p0), .val (.int p1), .val (.int p2), .val (.int p3), .val (.int p4), .val (.int p5), .val (.int ((((p5.toUInt32 >>> ((3 : Int32) &&& 31).toUInt32).toInt32) &&& (7 : Int32)) - (((p5.toUInt32 >>> ((3 : Int32) &&& 31).toUInt32).toInt32) &&& (7 : Int32)) / (5 : Int32) * (5 : Int32))), .val (.int (p5 &&& (7 : Int32))), .unset, .unset, .unset, .unset, .unset] [])) _
          refine XS.iloadN X0.here hx rfl (hb hby at_47) rfl ?_
          show Steps p.tables e below (T0.setTop (mkF m 48 #[.val (.int p0), .val (.int p1), .val (.int p2), .val (.int p3), .val (.int p4), .val (.int p5), .val (.int ((((p5.toUInt32 >>> ((3 : Int32) &&& 31).toUInt32).toInt32) &&& (7 : Int32)) - (((p5.toUInt32 >>> ((3 : Int32) &&& 31).toUInt32).toInt32) &&& (7 : Int32)) / (5 : Int32) * (5 : Int32))), .val (.int (p5 &&& (7 : Int32))), .unset, .unset, .unset, .unset, .unset] [(.int p2)])) _
          refine XS.istore X0.here hx rfl (hb hby at_48) rfl (l' := #[.val (.int p0), .val (.int p1), .val (.int p2), .val (.int p3), .val (.int p4), .val (.int p5), .val (.int ((((p5.toUInt32 >>> ((3 : Int32) &&& 31).toUInt32).toInt32) &&& (7 : Int32)) - (((p5.toUInt32 >>> ((3 : Int32) &&& 31).toUInt32).toInt32) &&& (7 : Int32)) / (5 : Int32) * (5 : Int32))), .val (.int (p5 &&& (7 : Int32))), .val (.int p2), .unset, .unset, .unset, .unset]) rfl ?_
          show Steps p.tables e below (T0.setTop (mkF m 50 #[.val (.int p0), .val (.int p1), .val (.int p2), .val (.int p3), .val (.int p4), .val (.int p5), .val (.int ((((p5.toUInt32 >>> ((3 : Int32) &&& 31).toUInt32).toInt32) &&& (7 : Int32)) - (((p5.toUInt32 >>> ((3 : Int32) &&& 31).toUInt32).toInt32) &&& (7 : Int32)) / (5 : Int32) * (5 : Int32))), .val (.int (p5 &&& (7 : Int32))), .val (.int p2), .unset, .unset, .unset, .unset] [])) _
          refine XS.goto X0.here hx rfl (pc0 := 50) (pc' := 69) rfl (hb hby at_50) (by decide) (by decide) ?_
          exact kt
        exact b0_69 p0 p1 p2 p3 p4 p5 ((((p5.toUInt32 >>> ((3 : Int32) &&& 31).toUInt32).toInt32) &&& (7 : Int32)) - (((p5.toUInt32 >>> ((3 : Int32) &&& 31).toUInt32).toInt32) &&& (7 : Int32)) / (5 : Int32) * (5 : Int32)) (p5 &&& (7 : Int32)) p2 X0 hx hZ hw hby hml hown hret hlk e0 N0 Z0 (own_sp _) hr
      · rw [if_neg hc44_213] at hr
        refine own_step (T' := T0) (f' := (mkF m 53 #[.val (.int p0), .val (.int p1), .val (.int p2), .val (.int p3), .val (.int p4), .val (.int p5), .val (.int ((((p5.toUInt32 >>> ((3 : Int32) &&& 31).toUInt32).toInt32) &&& (7 : Int32)) - (((p5.toUInt32 >>> ((3 : Int32) &&& 31).toUInt32).toInt32) &&& (7 : Int32)) / (5 : Int32) * (5 : Int32))), .val (.int (p5 &&& (7 : Int32))), .unset, .unset, .unset, .unset, .unset] [])) (fun t kt => ?_) ?_
        · show Steps p.tables e below (T0.setTop (mkF m 44 #[.val (.int p0), .val (.int p1), .val (.int p2), .val (.int p3), .val (.int p4), .val (.int p5), .val (.int ((((p5.toUInt32 >>> ((3 : Int32) &&& 31).toUInt32).toInt32) &&& (7 : Int32)) - (((p5.toUInt32 >>> ((3 : Int32) &&& 31).toUInt32).toInt32) &&& (7 : Int32)) / (5 : Int32) * (5 : Int32))), .val (.int (p5 &&& (7 : Int32))), .unset, .unset, .unset, .unset, .unset] [(.int (2 : Int32)), (.int (p5 &&& (7 : Int32)))])) _
          refine XS.icmpYes X0.here hx rfl (pc0 := 44) (pc' := 53) rfl (hb hby at_44) rfl (feq hc44_213).2 (by decide) (by decide) kt
        refine own_step (T' := T0) (f' := (mkF m 56 #[.val (.int p0), .val (.int p1), .val (.int p2), .val (.int p3), .val (.int p4), .val (.int p5), .val (.int ((((p5.toUInt32 >>> ((3 : Int32) &&& 31).toUInt32).toInt32) &&& (7 : Int32)) - (((p5.toUInt32 >>> ((3 : Int32) &&& 31).toUInt32).toInt32) &&& (7 : Int32)) / (5 : Int32) * (5 : Int32))), .val (.int (p5 &&& (7 : Int32))), .unset, .unset, .unset, .unset, .unset] [(.int (3 : Int32)), (.int (p5 &&& (7 : Int32)))])) (fun t kt => ?_) ?_
        · show Steps p.tables e below (T0.setTop (mkF m 53 #[.val (.int p0), .val (.int p1), .val (.int p2), .val (.int p3), .val (.int p4), .val (.int p5), .val (.int ((((p5.toUInt32 >>> ((3 : Int32) &&& 31).toUInt32).toInt32) &&& (7 : Int32)) - (((p5.toUInt32 >>> ((3 : Int32) &&& 31).toUInt32).toInt32) &&& (7 : Int32)) / (5 : Int32) * (5 : Int32))), .val (.int (p5 &&& (7 : Int32))), .unset, .unset, .unset, .unset, .unset] [])) _
          refine XS.iload X0.here hx rfl (hb hby at_53) rfl ?_
          show Steps p.tables e below (T0.setTop (mkF m 55 #[.val (.int p0), .val (.int p1), .val (.int p2), .val (.int p3), .val (.int p4), .val (.int p5), .val (.int ((((p5.toUInt32 >>> ((3 : Int32) &&& 31).toUInt32).toInt32) &&& (7 : Int32)) - (((p5.toUInt32 >>> ((3 : Int32) &&& 31).toUInt32).toInt32) &&& (7 : Int32)) / (5 : Int32) * (5 : Int32))), .val (.int (p5 &&& (7 : Int32))), .unset, .unset, .unset, .unset, .unset] [(.int (p5 &&& (7 : Int32)))])) _
          refine XS.iconst X0.here hx rfl (hb hby at_55) ?_
          exact kt
        by_cases hc56_214 : (p5 &&& (7 : Int32)) = (3 : Int32)
        · rw [if_pos hc56_214] at hr
          refine own_step (T' := T0) (f' := (mkF m 59 #[.val (.int p0), .val (.int p1), .val (.int p2), .val (.int p3), .val (.int p4), .val (.int p5), .val (.int ((((p5.toUInt32 >>> ((3 : Int32) &&& 31).toUInt32).toInt32) &&& (7 : Int32)) - (((p5.toUInt32 >>> ((3 : Int32) &&& 31).toUInt32).toInt32) &&& (7 : Int32)) / (5 : Int32) * (5 : Int32))), .val (.int (p5 &&& (7 : Int32))), .unset, .unset, .unset, .unset, .unset] [])) (fun t kt => ?_) ?_
          · show Steps p.tables e below (T0.setTop (mkF m 56 #[.val (.int p0), .val (.int p1), .val (.int p2), .val (.int p3), .val (.int p4), .val (.int p5), .val (.int ((((p5.toUInt32 >>> ((3 : Int32) &&& 31).toUInt32).toInt32) &&& (7 : Int32)) - (((p5.toUInt32 >>> ((3 : Int32) &&& 31).toUInt32).toInt32) &&& (7 : Int32)) / (5 : Int32) * (5 : Int32))), .val (.int (p5 &&& (7 : Int32))), .unset, .unset, .unset, .unset, .unset] [(.int (3 : Int32)), (.int (p5 &&& (7 : Int32)))])) _
            refine XS.icmpNo X0.here hx rfl (hb hby at_56) rfl (teq hc56_214).2 kt
          refine own_step (T' := T0) (f' := (mkF m 69 #[.val (.int p0), .val (.int p1), .val (.int p2), .val (.int p3), .val (.int p4), .val (.int p5), .val (.int ((((p5.toUInt32 >>> ((3 : Int32) &&& 31).toUInt32).toInt32) &&& (7 : Int32)) - (((p5.toUInt32 >>> ((3 : Int32) &&& 31).toUInt32).toInt32) &&& (7 : Int32)) / (5 : Int32) * (5 : Int32))), .val (.int (p5 &&& (7 : Int32))), .val (.int p3), .unset, .unset, .unset, .unset] [])) (fun t kt => ?_) ?_
          · show Steps p.tables e below (T0.setTop (mkF m 59 #[.val (.int p0), .val (.int p1), .val (.int p2), .val (.int p3), .val (.int p4), .val (.int p5), .val (.int ((((p5.toUInt32 >>> ((3 : Int32) &&& 31).toUInt32).toInt32) &&& (7 : Int32)) - (((p5.toUInt32 >>> ((3 : Int32) &&& 31).toUInt32).toInt32) &&& (7 : Int32)) / (5 : Int32) * (5 : Int32))), .val (.int (p5 &&& (7 : Int32))), .unset, .unset, .unset, .unset, .unset] [])) _
            refine XS.iloadN X0.here hx rfl (hb hby at_59) rfl ?_
            show Steps p.tables e below (T0.setTop (mkF m 60 #[.val (.int p0), .val (.int p1), .val (.int p2), .val (.int p3), .val (.int p4), .val (.int p5), .val (.int ((((p5.toUInt32 >>> ((3 : Int32) &&& 31).toUInt32).toInt32) &&& (7 : Int32)) - (((p5.toUInt32 >>> ((3 : Int32) &&& 31).toUInt32).toInt32) &&& (7 : Int32)) / (5 : Int32) * (5 : Int32))), .val (.int (p5 &&& (7 : Int32))), .unset, .unset, .unset, .unset, .unset] [(.int p3)])) _
            refine XS.istore X0.here hx rfl (hb hby at_60) rfl (l' := #[.val (.int p0), .val (.int p1), .val (.int p2), .val (.int p3), .val (.int p4), .val (.int p5), .val (.int ((((p5.toUInt32 >>> ((3 : Int32) &&& 31).toUInt32).toInt32) &&& (7 : Int32)) - (((p5.toUInt32 >>> ((3 : Int32) &&& 31).toUInt32).toInt32) &&& (7 : Int32)) / (5 : Int32) * (5 : Int32))), .val (.int (p5 &&& (7 : Int32))), .val (.int p3), .unset, .unset, .unset, .unset]) rfl ?_
            show Steps p.tables e below (T0.setTop (mkF m 62 #[.val (.int p0), .val (.int p1), .val (.int p2), .val (.int p3), .val (.int p4), .val (.int p5), .val (.int ((((p5.toUInt32 >>> ((3 : Int32) &&& 31).toUInt32).toInt32) &&& (7 : Int32)) - (((p5.toUInt32 >>> ((3 : Int32) &&& 31).toUInt32).toInt32) &&& (7 : Int32)) / (5 : Int32) * (5 : Int32))), .val (.int (p5 &&& (7 : Int32))), .val (.int p3), .unset, .unset, .unset, .unset] [])) _
            refine XS.goto X0.here hx rfl (pc0 := 62) (pc' := 69) rfl (hb hby at_62) (by decide) (by decide) ?_
            exact kt
          exact b0_69 p0 p1 p2 p3 p4 p5 ((((p5.toUInt32 >>> ((3 : Int32) &&& 31).toUInt32).toInt32) &&& (7 : Int32)) - (((p5.toUInt32 >>> ((3 : Int32) &&& 31).toUInt32).toInt32) &&& (7 : Int32)) / (5 : Int32) * (5 : Int32)) (p5 &&& (7 : Int32)) p3 X0 hx hZ hw hby hml hown hret hlk e0 N0 Z0 (own_sp _) hr
        · rw [if_neg hc56_214] at hr
          refine own_step (T' := T0) (f' := (mkF m 65 #[.val (.int p0), .val (.int p1), .val (.int p2), .val (.int p3), .val (.int p4), .val (.int p5), .val (.int ((((p5.toUInt32 >>> ((3 : Int32) &&& 31).toUInt32).toInt32) &&& (7 : Int32)) - (((p5.toUInt32 >>> ((3 : Int32) &&& 31).toUInt32).toInt32) &&& (7 : Int32)) / (5 : Int32) * (5 : Int32))), .val (.int (p5 &&& (7 : Int32))), .unset, .unset, .unset, .unset, .unset] [])) (fun t kt => ?_) ?_
          · show Steps p.tables e below (T0.setTop (mkF m 56 #[.val (.int p0), .val (.int p1), .val (.int p2), .val (.int p3), .val (.int p4), .val (.int p5), .val (.int ((((p5.toUInt32 >>> ((3 : Int32) &&& 31).toUInt32).toInt32) &&& (7 : Int32)) - (((p5.toUInt32 >>> ((3 : Int32) &&& 31).toUInt32).toInt32) &&& (7 : Int32)) / (5 : Int32) * (5 : Int32))), .val (.int (p5 &&& (7 : Int32))), .unset, .unset, .unset, .unset, .unset] [(.int (3 : Int32)), (.int (p5 &&& (7 : Int32)))])) _
            refine XS.icmpYes X0.here hx rfl (pc0 := 56) (pc' := 65) rfl (hb hby at_56) rfl (feq hc56_214).2 (by decide) (by decide) kt
          refine own_step (T' := T0) (f' := (mkF m 69 #[.val (.int p0), .val (.int p1), .val (.int p2), .val (.int p3), .val (.int p4), .val (.int p5), .val (.int ((((p5.toUInt32 >>> ((3 : Int32) &&& 31).toUInt32).toInt32) &&& (7 : Int32)) - (((p5.toUInt32 >>> ((3 : Int32) &&& 31).toUInt32).toInt32) &&& (7 : Int32)) / (5 : Int32) * (5 : Int32))), .val (.int (p5 &&& (7 : Int32))), .val (.int p4), .unset, .unset, .unset, .unset] [])) (fun t kt => ?_) ?_
          · show Steps p.tables e below (T0.setTop (mkF m 65 #[.val (.int p0), .val (.int p1), .val (.int p2), .val (.int p3), .val (.int p4), .val (.int p5), .val (.int ((((p5.toUInt32 >>> ((3 : Int32) &&& 31).toUInt32).toInt32) &&& (7 : Int32)) - (((p5.toUInt32 >>> ((3 : Int32) &&& 31).toUInt32).toInt32) &&& (7 : Int32)) / (5 : Int32) * (5 : Int32))), .val (.int (p5 &&& (7 : Int32))), .unset, .unset, .unset, .unset, .unset] [])) _
            refine XS.iload X0.here hx rfl (hb hby at_65) rfl ?_
            show Steps p.tables e below (T0.setTop (mkF m 67 #[.val (.int p0), .val (.int p1), .val (.int p2), .val (.int p3), .val (.int p4), .val (.int p5), .val (.int ((((p5.toUInt32 >>> ((3 : Int32) &&& 31).toUInt32).toInt32) &&& (7 : Int32)) - (((p5.toUInt32 >>> ((3 : Int32) &&& 31).toUInt32).toInt32) &&& (7 : Int32)) / (5 : Int32) * (5 : Int32))), .val (.int (p5 &&& (7 : Int32))), .unset, .unset, .unset, .unset, .unset] [(.int p4)])) _
            refine XS.istore X0.here hx rfl (hb hby at_67) rfl (l' := #[.val (.int p0), .val (.int p1), .val (.int p2), .val (.int p3), .val (.int p4), .val (.int p5), .val (.int ((((p5.toUInt32 >>> ((3 : Int32) &&& 31).toUInt32).toInt32) &&& (7 : Int32)) - (((p5.toUInt32 >>> ((3 : Int32) &&& 31).toUInt32).toInt32) &&& (7 : Int32)) / (5 : Int32) * (5 : Int32))), .val (.int (p5 &&& (7 : Int32))), .val (.int p4), .unset, .unset, .unset, .unset]) rfl ?_
            exact kt
          exact b0_69 p0 p1 p2 p3 p4 p5 ((((p5.toUInt32 >>> ((3 : Int32) &&& 31).toUInt32).toInt32) &&& (7 : Int32)) - (((p5.toUInt32 >>> ((3 : Int32) &&& 31).toUInt32).toInt32) &&& (7 : Int32)) / (5 : Int32) * (5 : Int32)) (p5 &&& (7 : Int32)) p4 X0 hx hZ hw hby hml hown hret hlk e0 N0 Z0 (own_sp _) hr
set_option maxRecDepth 65536 in
set_option maxHeartbeats 4000000 in
theorem rm0 (l : Launch) (Z : State) (a0 : Array Value) (hw : ∀ d ∈ tables_1, d.before a0 Z = true) (ws : List Jvm.Cond) (p0 : Int32) (p1 : Int32) (p2 : Int32) (p3 : Int32) (p4 : Int32) (p5 : Int32) (h0 : Heap) (n0 : Nat) (Z0 : n0 ≤ h0.size) :
    MetFree l x (head1 (Jvm.Cond.code x code maxLocals ret :: ws) room_1) (fun a U => a = #[(.int p0), (.int p1), (.int p2), (.int p3), (.int p4), (.int p5)] ∧ Z.Warmed39 U.vm ∧ U.heap = h0) (fun _ _ _ _ _ => True) (fun _ U o U' => ∃ v L, o = .returned v ∧ (own_R (.int (f0_0 p0 p1 p2 p3 p4 p5)) n0) v U'.heap L ∧ FrameEnd U o U' L 16 128) := by
  refine MetFree.of_bodySF (plainFor_of_name pn0) hisR ?_
  intro p e s m args below meth c s₁ Bd hml0 hP hK
  obtain ⟨rfl, hZ, hh⟩ := hP
  have hown : s.vm.findClass "com/example/conceal/conceal/SensitiveHoldersContainsPinLaw" = some m.cls := findClass_of_methodNamed Bd.named
  have X0 : Stand p l e room_1 s m #[(.int p0), (.int p1), (.int p2), (.int p3), (.int p4), (.int p5)] below meth c s₁ [] 0 0 := Stand.of_body Bd
  have e0 : s₁.heap = h0 := by rw [← hh, Bd.state]; rfl
  show own_Ends p e below s 16 128 (own_R (.int (f0_0 p0 p1 p2 p3 p4 p5)) n0) s₁ (entryFrame m #[(.int p0), (.int p1), (.int p2), (.int p3), (.int p4), (.int p5)] maxLocals)
  refine own_step (fun t k => castTop (ef0 m p0 p1 p2 p3 p4 p5) k) ?_
  exact b0_0 p0 p1 p2 p3 p4 p5 X0 Bd.exec hZ hw Bd.bytes hml0 hown Bd.returns (BodyLoose.notSynchronized Bd) e0 (Fr.nil n0) Z0 rfl
theorem own_69 (a b c d n k : Int32) (h : n = 0 ∨ n = 1 ∨ n = 2 ∨ n = 3 ∨ n = 4) : f0_69 a b c d n k = 1 := by
  unfold f0_69 f1n0_0 f1n1_0 f1n2_0 f1n3_0 f1n4_0
  by_cases h1 : a = k <;> by_cases h2 : b = k <;> by_cases h3 : c = k <;> by_cases h4 : d = k <;> rcases h with rfl | rfl | rfl | rfl | rfl <;> simp [h1, h2, h3, h4]
theorem law_true (p0 p1 p2 p3 p4 p5 : Int32) : f0_0 p0 p1 p2 p3 p4 p5 = 1 := by
  unfold f0_0
  simp only [own_69 _ _ _ _ _ _ (own_sp _), ite_self]

set_option maxRecDepth 65536 in
set_option maxHeartbeats 4000000 in
theorem comes_1 {Post : Tables → Env → Array Value → State → Outcome → State → Prop} (hpost : ∀ tb e args s v u, (limb_1_1.after args s (.returned v) u = true ∧ limb_1_2.after args s (.returned v) u = true ∧ True) → FrameEnd s (.returned v) u (Jvm.fieldLocs frame_1_writes args s ++ Jvm.arrayLocs frame_1_arrays args s ++ Jvm.staticLocs frame_1_statics s) 16 128 → Post tb e args s (.returned v) u) :
    ArmFor flags0 classFile x code maxLocals ret World_1 tables_1 room_1 Calls_1 rest_1 Pre_1 Post := by
  intro l hfl _ _ p e ha hc hk s m args below hf hA hF happ hP
  obtain ⟨hcalls, hrest, hpre⟩ := hP
  obtain ⟨-, -, -, hnamed, -, -, -, hat⟩ := (Spec.applies_iff hf).mp happ
  obtain ⟨hg, hn⟩ := and_e (Cond.before_iff.mp (show (Jvm.Cond.and given_1 narrow_1).before args s = true from hpre))
  obtain ⟨g1, g2⟩ := and_e hg
  obtain ⟨ga0, gb0⟩ := and_e g2
  obtain ⟨ga1, gb1⟩ := and_e gb0
  obtain ⟨ga2, gb2⟩ := and_e gb1
  obtain ⟨ga3, gb3⟩ := and_e gb2
  obtain ⟨ga4, gb4⟩ := and_e gb3
  obtain ⟨w0, w1, w2, w3, w4, w5, rfl⟩ : ∃ w0 w1 w2 w3 w4 w5 : Value, args = #[w0, w1, w2, w3, w4, w5] := by
    have hs : args.size = 6 := by simpa [Cond.value, given_1] using g1
    obtain ⟨L⟩ := args
    match L, hs with
    | [w0, w1, w2, w3, w4, w5], _ => exact ⟨w0, w1, w2, w3, w4, w5, rfl⟩
  have hw := fun d (hd : d ∈ tables_1) => atoms_spec (ws := Jvm.Cond.code x code maxLocals ret :: tables_1) hat d (List.mem_cons_of_mem _ hd)
  obtain ⟨i0, ei0⟩ := is_v ga0
  obtain rfl : w0 = (.int i0) := Option.some.inj ei0
  obtain ⟨i1, ei1⟩ := is_v ga1
  obtain rfl : w1 = (.int i1) := Option.some.inj ei1
  obtain ⟨i2, ei2⟩ := is_v ga2
  obtain rfl : w2 = (.int i2) := Option.some.inj ei2
  obtain ⟨i3, ei3⟩ := is_v ga3
  obtain rfl : w3 = (.int i3) := Option.some.inj ei3
  obtain ⟨i4, ei4⟩ := is_v ga4
  obtain rfl : w4 = (.int i4) := Option.some.inj ei4
  obtain ⟨i5, ei5⟩ := is_v gb4
  obtain rfl : w5 = (.int i5) := Option.some.inj ei5
  obtain ⟨n, o, h1, h2, h3, _, L, rfl, ⟨rfl, N⟩, hq⟩ := rm0 l s _ hw tables_1 i0 i1 i2 i3 i4 i5 s.heap s.heap.size (Nat.le_refl _) p e ha hc hk s m _ below hf ((Spec.applies_iff_loose hf).mp happ).1 ⟨rfl, State.Warmed39.refl s, rfl⟩ trivial
  rw [law_true] at *
  refine ⟨n, _, h1, h2, h3, hpost _ _ _ _ _ _ ⟨Cond.after_iff.mpr rfl, Cond.after_iff.mpr (eq_i res_at (Term.int_eval (1)) rfl), trivial⟩ ⟨hq.1, hq.2.1, (hq.2.2.sift fun y hy => Or.inr (N y hy)).mono (by decide) (by decide)⟩⟩
theorem main_1_1 : Claimed_1_1 := comes_1 fun _ _ _ _ _ _ h hF => ⟨h.1, hF⟩
theorem main_1_2 : Claimed_1_2 := comes_1 fun _ _ _ _ _ _ h hF => ⟨h.2.1, hF⟩
end Jvm.Pilot.@@N@@
namespace Jvm.Pilot.@@N@@
open Jvm Jvm.ClassFile Sem Op Lib Jvm.Free Jvm.Stand Jvm.Pilot.@@N@@.Jvm.D
/-! MADE BY PROGRAM (witnessworld.py) out of the Statement's table words and the real class files: 9 classes; the members and pool entries that the words name. The judged class is class 1, her method 1. -/
namespace start1
open Jvm.ClassFile
def u (s : String) : CpInfo := .utf8 (stringToUtf16 s)
/-- a pool by its gaps: so many unusable entries, then the entry; so many at the end -/
def gap : Nat → List CpInfo → List CpInfo
  | 0, r => r
  | n + 1, r => .unusable :: gap n r
def poolList (es : List (Nat × CpInfo)) (last : Nat) : List CpInfo := es.foldr (fun e r => gap e.1 (e.2 :: r)) (gap last [])
def pool (es : List (Nat × CpInfo)) (last : Nat) : Array CpInfo := ⟨poolList es last⟩
def fileOf (pool : Array CpInfo) (this : Nat) (attrs : Array Attribute := #[]) (ms : Array MethodInfo := #[]) (fl : Nat := 33) (sup : Nat := 0) (ifs : Array Nat := #[]) (fds : Array FieldInfo := #[]) : ClassFile where
  minorVersion := 0
  majorVersion := 65
  constantPool := pool
  accessFlags := fl
  thisClass := this
  superClass := sup
  interfaces := ifs
  fields := fds
  methods := ms
  attributes := attrs
def plain (name : String) (sup : Option ClassId) : Class where
  name := name
  kind := .ordinary
  loader := none
  accessFlags := 33
  super := sup
  interfaces := #[]
  cf := none
  fields := #[]
  methods := #[]
  instanceTypes := #[]
  staticTypes := #[]
  resolved := #[]
  callSites := []
  init := .initialized
  statics := none
  mirror := none

def pool0 : Array CpInfo := pool [(5, u "<init>"), (0, u "()V"), (1, .class_ 10), (1, u "java/lang/Object")] 113

def k0m0 : Method := { name := "<init>", desc := "()V", sig := { parameters := [], returnType := none }, accessFlags := 1, code := none }
/-- java/lang/Object -/
def k0 : Class := { plain "java/lang/Object" none with
  accessFlags := 33
  interfaces := #[]
  cf := some (fileOf pool0 8 #[] #[{ accessFlags := 1, nameIndex := 5, descriptorIndex := 6, attributes := #[] }] 33 0 #[] #[])
  fields := #[]
  methods := #[k0m0]
  instanceTypes := #[]
  staticTypes := #[]
  resolved := Array.replicate 124 none
  statics := none }

def pool1 : Array CpInfo := pool [(2, .class_ 4), (1, u "java/lang/Object"), (0, u "<init>"), (0, u "()V"), (0, .methodref 8 9), (0, .class_ 10), (0, .nameAndType 11 12), (0, u "com/example/conceal/conceal/SensitiveHolders"), (0, u "contains"), (0, u "([II)Z"), (0, .class_ 14), (0, u "com/example/conceal/conceal/SensitiveHoldersContainsPinLaw"), (2, u "law"), (0, u "(IIIIII)Z")] 5

def k1m0 : Method := { name := "<init>", desc := "()V", sig := { parameters := [], returnType := none }, accessFlags := 1, code := none }
def k1c1 : Code := { maxStack := 3, maxLocals := 13, code := code, exceptionTable := #[], attributes := #[] }
def k1m1 : Method := { name := "law", desc := "(IIIIII)Z", sig := { parameters := [.int, .int, .int, .int, .int, .int], returnType := some .boolean }, accessFlags := 9, code := some k1c1 }
/-- com/example/conceal/conceal/SensitiveHoldersContainsPinLaw -/
def k1 : Class := { plain "com/example/conceal/conceal/SensitiveHoldersContainsPinLaw" (some 0) with
  accessFlags := 49
  interfaces := #[]
  cf := some (fileOf pool1 13 #[] #[{ accessFlags := 1, nameIndex := 5, descriptorIndex := 6, attributes := #[] }, { accessFlags := 9, nameIndex := 17, descriptorIndex := 18, attributes := #[] }] 49 2 #[] #[])
  fields := #[]
  methods := #[k1m0, k1m1]
  instanceTypes := #[]
  staticTypes := #[]
  resolved := Array.replicate 24 none
  statics := none }

def pool2 : Array CpInfo := pool [(2, .class_ 4), (1, u "java/lang/Object"), (3, .class_ 10), (1, u "com/example/conceal/conceal/SensitiveHolders"), (0, u "threshold"), (0, u "I"), (7, u "release"), (0, u "Lcom/example/conceal/conceal/Release;"), (8, u "indexOf"), (0, u "[I"), (17, u "itemsets"), (0, u "[[I"), (2, u "supports"), (20, u "items"), (2, u "itemSupports"), (2, u "firstSeen"), (19, u "holders"), (4, u "held"), (0, u "[[J"), (2, u "lengths"), (6, u "contains"), (0, u "([II)Z")] 25

def k2c0 : Code := { maxStack := 2, maxLocals := 6, code := prog_47_method_16_code, exceptionTable := #[], attributes := #[] }
def k2m0 : Method := { name := "contains", desc := "([II)Z", sig := { parameters := [(.array .int), .int], returnType := some .boolean }, accessFlags := 8, code := some k2c0 }
/-- com/example/conceal/conceal/SensitiveHolders -/
def k2 : Class := { plain "com/example/conceal/conceal/SensitiveHolders" (some 0) with
  accessFlags := 32
  interfaces := #[]
  cf := some (fileOf pool2 8 #[] #[{ accessFlags := 8, nameIndex := 116, descriptorIndex := 117, attributes := #[] }] 32 2 #[] #[{ accessFlags := 18, nameIndex := 74, descriptorIndex := 31, attributes := #[] }, { accessFlags := 18, nameIndex := 30, descriptorIndex := 31, attributes := #[] }, { accessFlags := 18, nameIndex := 77, descriptorIndex := 31, attributes := #[] }, { accessFlags := 18, nameIndex := 80, descriptorIndex := 31, attributes := #[] }, { accessFlags := 18, nameIndex := 49, descriptorIndex := 50, attributes := #[] }, { accessFlags := 18, nameIndex := 53, descriptorIndex := 31, attributes := #[] }, { accessFlags := 18, nameIndex := 11, descriptorIndex := 12, attributes := #[] }, { accessFlags := 18, nameIndex := 100, descriptorIndex := 31, attributes := #[] }, { accessFlags := 18, nameIndex := 105, descriptorIndex := 106, attributes := #[] }, { accessFlags := 18, nameIndex := 109, descriptorIndex := 31, attributes := #[] }, { accessFlags := 18, nameIndex := 20, descriptorIndex := 21, attributes := #[] }])
  fields := #[{ name := "items", type := (.array .int), accessFlags := 18, slot := 0, constantValue := 0 }, { name := "indexOf", type := (.array .int), accessFlags := 18, slot := 1, constantValue := 0 }, { name := "itemSupports", type := (.array .int), accessFlags := 18, slot := 2, constantValue := 0 }, { name := "firstSeen", type := (.array .int), accessFlags := 18, slot := 3, constantValue := 0 }, { name := "itemsets", type := (.array (.array .int)), accessFlags := 18, slot := 4, constantValue := 0 }, { name := "supports", type := (.array .int), accessFlags := 18, slot := 5, constantValue := 0 }, { name := "threshold", type := .int, accessFlags := 18, slot := 6, constantValue := 0 }, { name := "holders", type := (.array .int), accessFlags := 18, slot := 7, constantValue := 0 }, { name := "held", type := (.array (.array .long)), accessFlags := 18, slot := 8, constantValue := 0 }, { name := "lengths", type := (.array .int), accessFlags := 18, slot := 9, constantValue := 0 }, { name := "release", type := (.object "com/example/conceal/conceal/Release"), accessFlags := 18, slot := 10, constantValue := 0 }]
  methods := #[k2m0]
  instanceTypes := #[(.array .int), (.array .int), (.array .int), (.array .int), (.array (.array .int)), (.array .int), .int, (.array .int), (.array (.array .long)), (.array .int), (.object "com/example/conceal/conceal/Release")]
  staticTypes := #[]
  resolved := Array.replicate 143 none
  statics := none }

def pool3 : Array CpInfo := pool [(1, u "java/lang/Cloneable"), (0, .class_ 1), (0, u "java/lang/Object"), (0, .class_ 3)] 3

/-- java/lang/Cloneable -/
def k3 : Class := { plain "java/lang/Cloneable" (some 0) with
  accessFlags := 1537
  interfaces := #[]
  cf := some (fileOf pool3 2 #[] #[] 1537 4 #[] #[])
  fields := #[]
  methods := #[]
  instanceTypes := #[]
  staticTypes := #[]
  resolved := Array.replicate 8 none
  statics := none }

def pool4 : Array CpInfo := pool [(1, u "java/io/Serializable"), (0, .class_ 1), (0, u "java/lang/Object"), (0, .class_ 3)] 3

/-- java/io/Serializable -/
def k4 : Class := { plain "java/io/Serializable" (some 0) with
  accessFlags := 1537
  interfaces := #[]
  cf := some (fileOf pool4 2 #[] #[] 1537 4 #[] #[])
  fields := #[]
  methods := #[]
  instanceTypes := #[]
  staticTypes := #[]
  resolved := Array.replicate 8 none
  statics := none }

/-- the primitive byte -/
def k5 : Class := { plain "byte" none with kind := .primitive 'B', accessFlags := 0x411 }
/-- [B -/
def k6 : Class := { plain "[B" (some 0) with kind := .array 5 .byte, interfaces := #[3, 4], accessFlags := 1041 }

/-- the primitive int -/
def k7 : Class := { plain "int" none with kind := .primitive 'I', accessFlags := 0x411 }
/-- [I -/
def k8 : Class := { plain "[I" (some 0) with kind := .array 7 .int, interfaces := #[3, 4], accessFlags := 1041 }

def heap : Heap := #[]
def classes : Array Class := #[k0, k1, k2, k3, k4, k5, k6, k7, k8]
def interned : List (Array UInt16 × Addr) := []
def slotsUsed : Nat := 0
def theMethod : MethodId := ⟨1, 1⟩
def args0 : Array Value := #[.int 1, .int 2, .int 3, .int 4, .int 5, .int 17]
def aboutOver (below : List Frame) : State where
  vm := { classes := classes, interned := interned.toArray }
  heap := heap
  slotsUsed := slotsUsed
  threads := #[{ frames := .invoking theMethod args0 :: below }]
def below0 : List Frame := [.native { method := ⟨0, 0⟩, args := #[] }]
def about1 : State := aboutOver below0
def p0 : Program := .bare "" "" ""
def e0 : Env := launch0.env 0 0 0
theorem w_frames : about1.frames = Frame.invoking theMethod args0 :: below0 := rfl
set_option maxRecDepth 65536 in
theorem w_args : argsFit about1.vm theMethod args0 = true := by decide +kernel
set_option maxRecDepth 65536 in
theorem w_heap : heapFits about1 = true := by decide +kernel
set_option maxRecDepth 65536 in
theorem w_runnable : about1.curStatus? = some .runnable := by decide +kernel
set_option maxRecDepth 65536 in
theorem w_alone : about1.alone = true := by decide +kernel
set_option maxRecDepth 65536 in
theorem w_named : about1.methodNamed? x = some theMethod := by decide +kernel
set_option maxRecDepth 65536 in
theorem w_hears : about1.hears theMethod below0 = true := by decide +kernel
set_option maxRecDepth 65536 in
theorem w_ripe : about1.ripe theMethod args0 below0 = true := by decide +kernel
theorem w_running : about1.status = .running := rfl
set_option maxRecDepth 65536 in
theorem w_room : about1.hasRoom e0.platform room_1 = true :=
  launch0.hasRoom_least _ room_1 (by decide +kernel) (by decide +kernel) (by decide +kernel) (by decide +kernel) (by decide +kernel) (by decide +kernel)
theorem allAtoms_all (ts : List Jvm.Cond) (a : Array Jvm.Value) (st : Jvm.State) : (allAtoms ts).before a st = ts.all (fun c => c.before a st) := by
  induction ts with
  | nil => rfl
  | cons c t ih =>
    show (Jvm.Cond.and c (allAtoms t)).before a st = _
    rw [Jvm.Cond.before_and, ih, List.all_cons]
def words1 : List Jvm.Cond := Jvm.Cond.code x code maxLocals ret :: tables_1
/-- a 'code' word, met by the world's own term for the bytes: nothing is compared byte by byte -/
theorem code_word {y : MethodName} {bytes : ByteArray} {mx : Nat} {rt : Option FieldType} {a : Array Value} {s : State} {m : MethodId} {meth : Method} {c : Code} (h1 : s.methodNamed? y = some m) (h2 : s.vm.method? m = some meth) (h3 : meth.code = some c) (h4 : c.code = bytes)
    (h5 : (c.maxLocals == mx && c.exceptionTable.isEmpty && decide (c.maxStack ≤ mostOperands) && decide (meth.sig.returnType = rt) && !meth.locks && decide (parseMethodDescriptor y.desc = some meth.sig)) = true) : (Jvm.Cond.code y bytes mx rt).before a s = true := by
  simp only [Bool.and_eq_true, beq_iff_eq, Bool.not_eq_true', decide_eq_true_eq] at h5
  obtain ⟨⟨⟨⟨⟨g1, g2⟩, g3⟩, g4⟩, g5⟩, g6⟩ := h5
  simp [Cond.before, Cond.holds, Cond.value, h1, h2, h3, h4, g1, g2, g3, g4, g5, g6]
def isCode : Jvm.Cond → Bool
  | .code _ _ _ _ => true
  | _ => false
theorem all_split {L : List Jvm.Cond} {P : Jvm.Cond → Bool} (h1 : L.all (fun c => isCode c || P c) = true) (h2 : ∀ c ∈ L.filter isCode, P c = true) : L.all P = true := by
  refine List.all_eq_true.mpr fun c hc => ?_
  have h := List.all_eq_true.mp h1 c hc
  rcases Bool.eq_false_or_eq_true (isCode c) with hi | hi
  · exact h2 c (List.mem_filter.mpr ⟨hc, hi⟩)
  · simpa [hi] using h
set_option maxRecDepth 65536 in
theorem w_c0 : (Jvm.Cond.code x code maxLocals ret).before args0 about1 = true := code_word (m := ⟨1, 1⟩) (meth := k1m1) (c := k1c1) (by decide +kernel) rfl rfl rfl (by decide +kernel)
set_option maxRecDepth 65536 in
theorem w_c1 : (Jvm.Cond.code ({ cls := "com/example/conceal/conceal/SensitiveHolders", name := "contains", desc := "([II)Z" } : Jvm.MethodName) prog_47_method_16_code (6 : Nat) (Option.some Jvm.ClassFile.FieldType.boolean)).before args0 about1 = true := code_word (m := ⟨2, 0⟩) (meth := k2m0) (c := k2c0) (by decide +kernel) rfl rfl rfl (by decide +kernel)
def codes1 : List Jvm.Cond := [Jvm.Cond.code x code maxLocals ret, Jvm.Cond.code ({ cls := "com/example/conceal/conceal/SensitiveHolders", name := "contains", desc := "([II)Z" } : Jvm.MethodName) prog_47_method_16_code (6 : Nat) (Option.some Jvm.ClassFile.FieldType.boolean)]
set_option maxRecDepth 65536 in
theorem codes_eq : words1.filter isCode = codes1 := rfl
theorem w_codes : ∀ c ∈ words1.filter isCode, c.before args0 about1 = true := by
  rw [codes_eq]
  intro c hc
  simp only [codes1, List.mem_cons, List.not_mem_nil, or_false] at hc
  rcases hc with rfl | rfl
  · exact w_c0
  · exact w_c1
set_option maxRecDepth 65536 in
theorem w_t1 : words1.all (fun c => isCode c || c.before args0 about1) = true := by decide +kernel
theorem w_tables : (allAtoms (Jvm.Cond.code x code maxLocals ret :: tables_1)).before args0 about1 = true := by
  rw [allAtoms_all]
  show words1.all (fun c => c.before args0 about1) = true
  refine all_split ?_ w_codes
  rw [w_t1]
set_option maxRecDepth 65536 in
theorem w_case : (Jvm.Cond.and given_1 narrow_1).before args0 about1 = true := by decide +kernel
theorem w_applies : (headSpec (Jvm.Cond.code x code maxLocals ret :: tables_1) room_1).applies x e0.platform about1 = true :=
  (Spec.applies_iff w_frames).mpr ⟨w_running, w_runnable, w_alone, w_named, w_hears, w_ripe, w_room, w_tables⟩
theorem atStart : AtStart classFile x code maxLocals ret World_1 tables_1 room_1 Calls_1 rest_1 Pre_1 launch0 p0 e0 about1 theMethod args0 below0 :=
  ⟨lists_1, trivial, launch0.admits_env _ _ _, launch0.least_env, fairChoices_fair.cas, fairChoices_fair.clock, w_frames, w_args, w_heap, w_applies, trivial, trivial, w_case⟩
end start1
theorem witness_1 : WitnessClaimed_1 := ⟨start1.p0, start1.e0, start1.about1, start1.theMethod, start1.args0, start1.below0, start1.atStart⟩
end Jvm.Pilot.@@N@@
