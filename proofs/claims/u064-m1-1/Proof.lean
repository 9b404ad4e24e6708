import JvmDerived
import JvmDerived.Pilot.@@N@@Statement
import JvmDerived.Pilot.@@N@@Code
set_option linter.unusedVariables false
set_option linter.unusedSimpArgs false
namespace Jvm.RoadKit
open Sem ClassFile Op Lib Jvm.Stand Jvm.Free Jvm.LawKit
section New
variable {p : Program} {l : Launch} {e : Env} {R : Room} {s : State} {m : MethodId} {args : Array Value} {below : List Frame} {meth : Method} {c : Code} {T : State} {locs : List Loc} {cells slots : Nat}
theorem retI (X : Stand p l e R s m args below meth c T locs cells slots) (hx : p.tables.exec = Jvm.exec) {pc : Nat} {Ls : Array Slot} {z : Int32} {rest : List Value} (hret : meth.sig.returnType = some .int) (hd : decode c.code pc = .ok (.ireturn, 1)) {fs : List Frame}
    (hl : ∀ (f : JFrame) (acts : List Action), f.method = m → f.locked = none → f.entered = [] → (doReturn e (T.setTop f) acts (some (.int z))).1 = T.setFrames fs) : Steps p.tables e below (T.setTop (mkF m pc Ls (.int z :: rest))) (T.setFrames fs) := by
  have hm' : T.vm.method? m = some meth := X.method'
  have hn : narrow .int (.int z) = .int z := rfl
  show Steps p.tables e below (T.setTop { method := m, pc := pc, locals := Ls, stack := _ :: rest, locked := none }) _
  jvm_step X.here [X.here.top, hx, hd, hm', hret, hn]
  first | (intro acts; rw [hl _ acts rfl rfl rfl]) | rw [hl _ _ rfl rfl rfl]
  exact Steps.refl _
end New
end Jvm.RoadKit
namespace Jvm.Pilot.@@N@@
open Jvm Jvm.ClassFile Sem Op Lib Jvm.Free Jvm.Stand Jvm.LawKit Jvm.RoadKit Bundle Jvm.Pilot.@@N@@.Jvm.D
section Own
variable {p : Program} {l : Launch} {e : Env} {R : Room} {s : State} {m : MethodId} {args : Array Value} {below : List Frame} {meth : Method} {c : Code} {T T' : State} {locs : List Loc} {cells slots : Nat}
/-- what a walk has still to come to: it ends, with an answer of which Q is true -/
def own_Ends (p : Program) (e : Env) (below : List Frame) (U : State) (C S : Nat) (Q : Option Value → Heap → List Loc → Prop) (T : State) (f : JFrame) : Prop :=
  ∃ s₂ o, Steps p.tables e below (T.setTop f) s₂ ∧ s₂.status = .running ∧ Ended s₂ below o ∧ ∃ v L, o = .returned v ∧ Q v s₂.heap L ∧ FrameEnd U o s₂ L C S
theorem own_step {U : State} {C S : Nat} {Q : Option Value → Heap → List Loc → Prop} {f f' : JFrame} (h : ∀ t, Steps p.tables e below (T'.setTop f') t → Steps p.tables e below (T.setTop f) t) (k : own_Ends p e below U C S Q T' f') : own_Ends p e below U C S Q T f := by
  obtain ⟨s₂, o, h1, h2⟩ := k
  exact ⟨s₂, o, h _ h1, h2⟩
/-- a pure answer: that value, nothing old written, the heap as it was -/
def own_P (w : Value) (h0 : Heap) (n0 : Nat) (v : Option Value) (h : Heap) (L : List Loc) : Prop := v = some w ∧ Fr n0 L ∧ h = h0
theorem own_retZ {C S : Nat} {Q : Option Value → Heap → List Loc → Prop} {pc : Nat} {Ls : Array Slot} {z : Int32} {t : FieldType} {rest : List Value} (X : Stand p l e R s m args below meth c T locs cells slots) (hx : p.tables.exec = Jvm.exec) (hret : meth.sig.returnType = some t) (ht : t = .boolean ∨ t = .byte ∨ t = .char ∨ t = .short) (hlk : meth.locks = false)
    (hd : decode c.code pc = .ok (.ireturn, 1)) (hC : cells ≤ C) (hS : slots ≤ S) (hq : Q (some (.int (nar t z))) T.heap locs) : own_Ends p e below s C S Q T (mkF m pc Ls (.int z :: rest)) := by
  obtain ⟨fs, hr, hrun, hended, hW, hsame⟩ := X.leave (v := some (.int (nar t z))) (fun h => by rw [hret] at h; cases h) hlk
  exact ⟨_, _, retN X hx hret ht hd hr, hrun, hended, _, _, rfl, hq, ⟨_, rfl⟩, hW, hsame.mono hC hS⟩
theorem own_retI {C S : Nat} {Q : Option Value → Heap → List Loc → Prop} {pc : Nat} {Ls : Array Slot} {z : Int32} {rest : List Value} (X : Stand p l e R s m args below meth c T locs cells slots) (hx : p.tables.exec = Jvm.exec) (hret : meth.sig.returnType = some .int) (hlk : meth.locks = false)
    (hd : decode c.code pc = .ok (.ireturn, 1)) (hC : cells ≤ C) (hS : slots ≤ S) (hq : Q (some (.int z)) T.heap locs) : own_Ends p e below s C S Q T (mkF m pc Ls (.int z :: rest)) := by
  obtain ⟨fs, hr, hrun, hended, hW, hsame⟩ := X.leave (v := some (.int z)) (fun h => by rw [hret] at h; cases h) hlk
  exact ⟨_, _, retI X hx hret hd hr, hrun, hended, _, _, rfl, hq, ⟨_, rfl⟩, hW, hsame.mono hC hS⟩
def own_V (h0 : Heap) (n0 : Nat) (v : Option Value) (h : Heap) (L : List Loc) : Prop := v = none ∧ Fr n0 L ∧ h = h0
theorem own_retV {C S : Nat} {Q : Option Value → Heap → List Loc → Prop} {pc : Nat} {Ls : Array Slot} (X : Stand p l e R s m args below meth c T locs cells slots) (hx : p.tables.exec = Jvm.exec) (hret : meth.sig.returnType = none) (hlk : meth.locks = false)
    (hd : decode c.code pc = .ok (.return_, 1)) (hC : cells ≤ C) (hS : slots ≤ S) (hq : Q none T.heap locs) : own_Ends p e below s C S Q T (mkF m pc Ls []) := by
  obtain ⟨fs, hr, hrun, hended, hW, hsame⟩ := X.leave (v := none) (fun _ => rfl) hlk
  exact ⟨_, _, X.returnOut hx hret hd hr, hrun, hended, _, _, rfl, hq, ⟨_, rfl⟩, hW, hsame.mono hC hS⟩
theorem own_retJ {C S : Nat} {Q : Option Value → Heap → List Loc → Prop} {pc : Nat} {Ls : Array Slot} {z : Int64} (X : Stand p l e R s m args below meth c T locs cells slots) (hx : p.tables.exec = Jvm.exec) (hret : meth.sig.returnType = some .long) (hlk : meth.locks = false)
    (hd : decode c.code pc = .ok (.lreturn, 1)) (hC : cells ≤ C) (hS : slots ≤ S) (hq : Q (some (.long z)) T.heap locs) : own_Ends p e below s C S Q T (mkF m pc Ls [.long z]) := by
  obtain ⟨fs, hr, hrun, hended, hW, hsame⟩ := X.leave (v := some (.long z)) (fun h => by rw [hret] at h; cases h) hlk
  exact ⟨_, _, X.lreturnOut hx hret hd hr, hrun, hended, _, _, rfl, hq, ⟨_, rfl⟩, hW, hsame.mono hC hS⟩
end Own
section OwnArr
variable {p : Program} {l : Launch} {e : Env} {R : Room} {s : State} {m : MethodId} {args : Array Value} {below : List Frame} {meth : Method} {c : Code} {T : State} {locs : List Loc} {cells slots : Nat} {Z : State} {a0 : Array Value} {h h' : Heap} {a b : Addr} {ty : FieldType} {vs : List Value} {n0 : Nat}
/-- an answer of which the heap isn't said: that value, nothing old written -/
def own_W (Z : State) (w : Value) (a : Addr) (vs : List Value) (n0 : Nat) (v : Option Value) (h : Heap) (L : List Loc) : Prop := v = some w ∧ Fr n0 L ∧ (∃ c : Cell, Arr Z h a c .byte ∧ c.slots.toList = vs) ∧ n0 ≤ h.size
def own_R (w : Value) (n0 : Nat) (v : Option Value) (h : Heap) (L : List Loc) : Prop := v = some w ∧ Fr n0 L
/-- the array at a holds just these -/
def own_A (Z : State) (h : Heap) (a : Addr) (ty : FieldType) (vs : List Value) : Prop := ∃ c : Cell, Arr Z h a c ty ∧ c.slots.toList = vs
theorem own_A.lt (A : own_A Z h a ty vs) : a < h.size := by obtain ⟨c, A, -⟩ := A; exact A.lt
theorem own_A.ext (A : own_A Z h a ty vs) (E : Ext h h') : own_A Z h' a ty vs := by obtain ⟨c, A, q⟩ := A; exact ⟨c, A.ext E, q⟩
theorem own_A.other {sl : Nat} {v : Value} (A : own_A Z h b ty vs) (W : Wr h h' a sl v) (q : b ≠ a) : own_A Z h' b ty vs := by obtain ⟨c, A, r⟩ := A; exact ⟨c, A.other W q, r⟩
theorem own_A.set {k : Nat} {v : Value} (A : own_A Z h a ty vs) (W : Wr h h' a k v) : own_A Z h' a ty (vs.set k v) := by
  obtain ⟨c, A, r⟩ := A
  refine ⟨c.setSlot k v, A.same W, ?_⟩
  subst r
  simp [Cell.setSlot]
theorem own_A.size {c : Cell} (r : c.slots.toList = vs) : c.slots.size = vs.length := by subst r; simp
theorem own_new {aty : ArrayType} (X : Stand p l e R s m args below meth c T locs cells slots) (hx : p.tables.exec = Jvm.exec) (hZ : Z.Warmed39 s.vm) (w : (Cond.arrayClass (newarray.typeOf aty)).before a0 Z = true) (eT : T.heap = h) {g : JFrame} (hg : g.method = m) (hd : decode c.code g.pc = .ok (.newarray aty, 2)) {n : Int32} {rest : List Value} (hs : g.stack = .int n :: rest)
    (hn : ¬ n < 0) {k : Nat} (hk : n.toNatClampNeg = k) (hb : k * 8 ≤ 536870912) (hc : cells + 1 ≤ R.cells) (hl : slots + k ≤ R.slots) (Sz : n0 ≤ h.size) :
    ∃ T' h' b, Stand p l e R s m args below meth c T' locs (cells + 1) (slots + k) ∧ T'.heap = h' ∧ Ext h h' ∧ b = h.size ∧ n0 ≤ b ∧ n0 ≤ h'.size ∧ own_A Z h' b (newarray.typeOf aty) (List.replicate k (defaultValue (newarray.typeOf aty))) ∧
      ∀ target, Steps p.tables e below (T'.setTop { g with pc := g.pc + 2, stack := .ref b :: rest }) target → Steps p.tables e below (T.setTop g) target := by
  obtain ⟨T', h', cA, X', e', E, A, st⟩ := newP X hx hZ w eT hg hd hs hn (cap := k) (Nat.le_of_eq hk) hb hc hl
  exact ⟨T', h', h.size, X', e', E, rfl, Sz, Nat.le_trans Sz E.1, ⟨_, A, by simp [newA, hk]⟩, st⟩
theorem own_stI (X : Stand p l e R s m args below meth c T locs cells slots) (hx : p.tables.exec = Jvm.exec) (hZ : Z.Warmed39 s.vm) (eT : T.heap = h) (A : own_A Z h a .int vs) {j x : Int32} (hj : ¬ j < 0) {k : Nat} (hk : j.toNatClampNeg = k) (hl : k < vs.length) (N : Fr n0 locs) (ga : n0 ≤ a) (Sz : n0 ≤ h.size) {g : JFrame} (hg : g.method = m) {rest : List Value} (hs : g.stack = .int x :: .int j :: .ref a :: rest) (hd : decode c.code g.pc = .ok (.iastore, 1)) :
    ∃ T' h' locs', Stand p l e R s m args below meth c T' locs' cells slots ∧ Fr n0 locs' ∧ T'.heap = h' ∧ Wr h h' a k (.int x) ∧ n0 ≤ h'.size ∧ own_A Z h' a .int (vs.set k (.int x)) ∧ ∀ target, Steps p.tables e below (T'.setTop { g with pc := g.pc + 1, stack := rest }) target → Steps p.tables e below (T.setTop g) target := by
  obtain ⟨cl, Ar, r⟩ := id A
  subst hk
  obtain ⟨T', h', X', e', W, st⟩ := stI X hx hZ eT Ar (j := j) (x := x) (fun q => q.elim hj fun z => absurd hl (by rw [← own_A.size r]; omega)) hg hs hd
  exact ⟨T', h', _, X', Fr.snoc X' N ga, e', W, by rw [W.size]; exact Sz, A.set W, st⟩
theorem own_stJ (X : Stand p l e R s m args below meth c T locs cells slots) (hx : p.tables.exec = Jvm.exec) (hZ : Z.Warmed39 s.vm) (eT : T.heap = h) (A : own_A Z h a .long vs) {j : Int32} {x : Int64} (hj : ¬ j < 0) {k : Nat} (hk : j.toNatClampNeg = k) (hl : k < vs.length) (N : Fr n0 locs) (ga : n0 ≤ a) (Sz : n0 ≤ h.size) {g : JFrame} (hg : g.method = m) {rest : List Value} (hs : g.stack = .long x :: .int j :: .ref a :: rest) (hd : decode c.code g.pc = .ok (.lastore, 1)) :
    ∃ T' h' locs', Stand p l e R s m args below meth c T' locs' cells slots ∧ Fr n0 locs' ∧ T'.heap = h' ∧ Wr h h' a k (.long x) ∧ n0 ≤ h'.size ∧ own_A Z h' a .long (vs.set k (.long x)) ∧ ∀ target, Steps p.tables e below (T'.setTop { g with pc := g.pc + 1, stack := rest }) target → Steps p.tables e below (T.setTop g) target := by
  obtain ⟨cl, Ar, r⟩ := id A
  subst hk
  obtain ⟨T', h', X', e', W, st⟩ := stJ X hx hZ eT Ar (j := j) (x := x) (fun q => q.elim hj fun z => absurd hl (by rw [← own_A.size r]; omega)) hg hs hd
  exact ⟨T', h', _, X', Fr.snoc X' N ga, e', W, by rw [W.size]; exact Sz, A.set W, st⟩
theorem own_stB (X : Stand p l e R s m args below meth c T locs cells slots) (hx : p.tables.exec = Jvm.exec) (hZ : Z.Warmed39 s.vm) (eT : T.heap = h) (A : own_A Z h a .byte vs) {j x : Int32} (hj : ¬ j < 0) {k : Nat} (hk : j.toNatClampNeg = k) (hl : k < vs.length) (N : Fr n0 locs) (ga : n0 ≤ a) (Sz : n0 ≤ h.size) {g : JFrame} (hg : g.method = m) {rest : List Value} (hs : g.stack = .int x :: .int j :: .ref a :: rest) (hd : decode c.code g.pc = .ok (.bastore, 1)) :
    ∃ T' h' locs', Stand p l e R s m args below meth c T' locs' cells slots ∧ Fr n0 locs' ∧ T'.heap = h' ∧ Wr h h' a k (.int (nar .byte x)) ∧ n0 ≤ h'.size ∧ own_A Z h' a .byte (vs.set k (.int (nar .byte x))) ∧ ∀ target, Steps p.tables e below (T'.setTop { g with pc := g.pc + 1, stack := rest }) target → Steps p.tables e below (T.setTop g) target := by
  obtain ⟨cl, Ar, r⟩ := id A
  subst hk
  obtain ⟨T', h', X', e', W, st⟩ := stB X hx hZ eT Ar (j := j) (x := x) (fun q => q.elim hj fun z => absurd hl (by rw [← own_A.size r]; omega)) hg hs hd
  exact ⟨T', h', _, X', Fr.snoc X' N ga, e', W, by rw [W.size]; exact Sz, A.set W, st⟩
theorem own_at {cl : Cell} (r : cl.slots.toList = vs) {k : Nat} {v : Value} (hv : vs[k]? = some v) : cl.slots[k]? = some v ∧ k < cl.slots.size := by
  subst r
  rw [Array.getElem?_toList] at hv
  exact ⟨hv, (Array.getElem?_eq_some_iff.mp hv).1⟩
theorem own_ldI (X : Stand p l e R s m args below meth c T locs cells slots) (hx : p.tables.exec = Jvm.exec) (hZ : Z.Warmed39 s.vm) (eT : T.heap = h) (A : own_A Z h a .int vs) {j : Int32} (hj : ¬ j < 0) {k : Nat} (hk : j.toNatClampNeg = k) {v : Value} (hv : vs[k]? = some v) {g : JFrame} (hg : g.method = m) {rest : List Value} (hs : g.stack = .int j :: .ref a :: rest) (hd : decode c.code g.pc = .ok (.iaload, 1)) (target : State)
    (hr : Steps p.tables e below (T.setTop { g with pc := g.pc + 1, stack := v :: rest }) target) : Steps p.tables e below (T.setTop g) target := by
  obtain ⟨cl, Ar, r⟩ := A
  obtain ⟨q1, q2⟩ := own_at r hv
  subst hk
  exact X.iaload hx (j := j) (v := v) (by rw [eT]; exact Ar.1) (State.isArrayOf_alike hZ.alike Ar.2.1) Ar.2.2 (fun z => z.elim hj fun z => by omega) q1 hg hs hd target hr
theorem own_ldJ (X : Stand p l e R s m args below meth c T locs cells slots) (hx : p.tables.exec = Jvm.exec) (hZ : Z.Warmed39 s.vm) (eT : T.heap = h) (A : own_A Z h a .long vs) {j : Int32} (hj : ¬ j < 0) {k : Nat} (hk : j.toNatClampNeg = k) {v : Value} (hv : vs[k]? = some v) {g : JFrame} (hg : g.method = m) {rest : List Value} (hs : g.stack = .int j :: .ref a :: rest) (hd : decode c.code g.pc = .ok (.laload, 1)) (target : State)
    (hr : Steps p.tables e below (T.setTop { g with pc := g.pc + 1, stack := v :: rest }) target) : Steps p.tables e below (T.setTop g) target := by
  obtain ⟨cl, Ar, r⟩ := A
  obtain ⟨q1, q2⟩ := own_at r hv
  subst hk
  exact X.laload hx (j := j) (v := v) (by rw [eT]; exact Ar.1) (State.isArrayOf_alike hZ.alike Ar.2.1) Ar.2.2 (fun z => z.elim hj fun z => by omega) q1 hg hs hd target hr
theorem own_ldB (X : Stand p l e R s m args below meth c T locs cells slots) (hx : p.tables.exec = Jvm.exec) (hZ : Z.Warmed39 s.vm) (eT : T.heap = h) (A : own_A Z h a .byte vs) {j : Int32} (hj : ¬ j < 0) {k : Nat} (hk : j.toNatClampNeg = k) {v : Value} (hv : vs[k]? = some v) {g : JFrame} (hg : g.method = m) {rest : List Value} (hs : g.stack = .int j :: .ref a :: rest) (hd : decode c.code g.pc = .ok (.baload, 1)) (target : State)
    (hr : Steps p.tables e below (T.setTop { g with pc := g.pc + 1, stack := v :: rest }) target) : Steps p.tables e below (T.setTop g) target := by
  obtain ⟨cl, Ar, r⟩ := A
  obtain ⟨q1, q2⟩ := own_at r hv
  subst hk
  exact X.baloadBytes hx (j := j) (v := v) (by rw [eT]; exact Ar.1) (State.isArrayOf_alike hZ.alike Ar.2.1) Ar.2.2 (fun z => z.elim hj fun z => by omega) q1 hg hs hd target hr
theorem own_len (X : Stand p l e R s m args below meth c T locs cells slots) (hx : p.tables.exec = Jvm.exec) (hZ : Z.Warmed39 s.vm) (eT : T.heap = h) (A : own_A Z h a ty vs) {n : Int32} (hn : vs.length.toInt32 = n) {g : JFrame} (hg : g.method = m) {rest : List Value} (hs : g.stack = .ref a :: rest) (hd : decode c.code g.pc = .ok (.arraylength, 1)) (target : State)
    (hr : Steps p.tables e below (T.setTop { g with pc := g.pc + 1, stack := .int n :: rest }) target) : Steps p.tables e below (T.setTop g) target := by
  obtain ⟨cl, Ar, r⟩ := A
  refine X.arraylength hx (by rw [eT]; exact Ar.1) (State.isArrayOf_alike hZ.alike Ar.2.1) hg hs hd target ?_
  rw [own_A.size r, hn]
  exact hr
end OwnArr
theorem d1_0 : decode prog_112_method_7_code 0 = .ok (.iload_n 0, 1) := by decide +kernel
theorem d1_1 : decode prog_112_method_7_code 1 = .ok (.bipush 58, 2) := by decide +kernel
theorem d1_3 : decode prog_112_method_7_code 3 = .ok (.if_icmp .eq 194, 3) := by decide +kernel
theorem d1_6 : decode prog_112_method_7_code 6 = .ok (.iload_n 0, 1) := by decide +kernel
theorem d1_7 : decode prog_112_method_7_code 7 = .ok (.bipush 65, 2) := by decide +kernel
theorem d1_9 : decode prog_112_method_7_code 9 = .ok (.if_icmp .lt 9, 3) := by decide +kernel
theorem d1_12 : decode prog_112_method_7_code 12 = .ok (.iload_n 0, 1) := by decide +kernel
theorem d1_13 : decode prog_112_method_7_code 13 = .ok (.bipush 90, 2) := by decide +kernel
theorem d1_15 : decode prog_112_method_7_code 15 = .ok (.if_icmp .le 182, 3) := by decide +kernel
theorem d1_18 : decode prog_112_method_7_code 18 = .ok (.iload_n 0, 1) := by decide +kernel
theorem d1_19 : decode prog_112_method_7_code 19 = .ok (.bipush 95, 2) := by decide +kernel
theorem d1_21 : decode prog_112_method_7_code 21 = .ok (.if_icmp .eq 176, 3) := by decide +kernel
theorem d1_24 : decode prog_112_method_7_code 24 = .ok (.iload_n 0, 1) := by decide +kernel
theorem d1_25 : decode prog_112_method_7_code 25 = .ok (.bipush 97, 2) := by decide +kernel
theorem d1_27 : decode prog_112_method_7_code 27 = .ok (.if_icmp .lt 9, 3) := by decide +kernel
theorem d1_30 : decode prog_112_method_7_code 30 = .ok (.iload_n 0, 1) := by decide +kernel
theorem d1_31 : decode prog_112_method_7_code 31 = .ok (.bipush 122, 2) := by decide +kernel
theorem d1_33 : decode prog_112_method_7_code 33 = .ok (.if_icmp .le 164, 3) := by decide +kernel
theorem d1_36 : decode prog_112_method_7_code 36 = .ok (.iload_n 0, 1) := by decide +kernel
theorem d1_37 : decode prog_112_method_7_code 37 = .ok (.sipush 192, 3) := by decide +kernel
theorem d1_40 : decode prog_112_method_7_code 40 = .ok (.if_icmp .lt 10, 3) := by decide +kernel
theorem d1_43 : decode prog_112_method_7_code 43 = .ok (.iload_n 0, 1) := by decide +kernel
theorem d1_44 : decode prog_112_method_7_code 44 = .ok (.sipush 214, 3) := by decide +kernel
theorem d1_47 : decode prog_112_method_7_code 47 = .ok (.if_icmp .le 150, 3) := by decide +kernel
theorem d1_50 : decode prog_112_method_7_code 50 = .ok (.iload_n 0, 1) := by decide +kernel
theorem d1_51 : decode prog_112_method_7_code 51 = .ok (.sipush 216, 3) := by decide +kernel
theorem d1_54 : decode prog_112_method_7_code 54 = .ok (.if_icmp .lt 10, 3) := by decide +kernel
theorem d1_57 : decode prog_112_method_7_code 57 = .ok (.iload_n 0, 1) := by decide +kernel
theorem d1_58 : decode prog_112_method_7_code 58 = .ok (.sipush 246, 3) := by decide +kernel
theorem d1_61 : decode prog_112_method_7_code 61 = .ok (.if_icmp .le 136, 3) := by decide +kernel
theorem d1_64 : decode prog_112_method_7_code 64 = .ok (.iload_n 0, 1) := by decide +kernel
theorem d1_65 : decode prog_112_method_7_code 65 = .ok (.sipush 248, 3) := by decide +kernel
theorem d1_68 : decode prog_112_method_7_code 68 = .ok (.if_icmp .lt 10, 3) := by decide +kernel
theorem d1_71 : decode prog_112_method_7_code 71 = .ok (.iload_n 0, 1) := by decide +kernel
theorem d1_72 : decode prog_112_method_7_code 72 = .ok (.sipush 767, 3) := by decide +kernel
theorem d1_75 : decode prog_112_method_7_code 75 = .ok (.if_icmp .le 122, 3) := by decide +kernel
theorem d1_78 : decode prog_112_method_7_code 78 = .ok (.iload_n 0, 1) := by decide +kernel
theorem d1_79 : decode prog_112_method_7_code 79 = .ok (.sipush 880, 3) := by decide +kernel
theorem d1_82 : decode prog_112_method_7_code 82 = .ok (.if_icmp .lt 10, 3) := by decide +kernel
theorem d1_85 : decode prog_112_method_7_code 85 = .ok (.iload_n 0, 1) := by decide +kernel
theorem d1_86 : decode prog_112_method_7_code 86 = .ok (.sipush 893, 3) := by decide +kernel
theorem d1_89 : decode prog_112_method_7_code 89 = .ok (.if_icmp .le 108, 3) := by decide +kernel
theorem d1_92 : decode prog_112_method_7_code 92 = .ok (.iload_n 0, 1) := by decide +kernel
theorem d1_93 : decode prog_112_method_7_code 93 = .ok (.sipush 895, 3) := by decide +kernel
theorem d1_96 : decode prog_112_method_7_code 96 = .ok (.if_icmp .lt 10, 3) := by decide +kernel
theorem d1_99 : decode prog_112_method_7_code 99 = .ok (.iload_n 0, 1) := by decide +kernel
theorem d1_100 : decode prog_112_method_7_code 100 = .ok (.sipush 8191, 3) := by decide +kernel
theorem d1_103 : decode prog_112_method_7_code 103 = .ok (.if_icmp .le 94, 3) := by decide +kernel
theorem d1_106 : decode prog_112_method_7_code 106 = .ok (.iload_n 0, 1) := by decide +kernel
theorem d1_107 : decode prog_112_method_7_code 107 = .ok (.sipush 8204, 3) := by decide +kernel
theorem d1_110 : decode prog_112_method_7_code 110 = .ok (.if_icmp .lt 10, 3) := by decide +kernel
theorem d1_113 : decode prog_112_method_7_code 113 = .ok (.iload_n 0, 1) := by decide +kernel
theorem d1_114 : decode prog_112_method_7_code 114 = .ok (.sipush 8205, 3) := by decide +kernel
theorem d1_117 : decode prog_112_method_7_code 117 = .ok (.if_icmp .le 80, 3) := by decide +kernel
theorem d1_120 : decode prog_112_method_7_code 120 = .ok (.iload_n 0, 1) := by decide +kernel
theorem d1_121 : decode prog_112_method_7_code 121 = .ok (.sipush 8304, 3) := by decide +kernel
theorem d1_124 : decode prog_112_method_7_code 124 = .ok (.if_icmp .lt 10, 3) := by decide +kernel
theorem d1_127 : decode prog_112_method_7_code 127 = .ok (.iload_n 0, 1) := by decide +kernel
theorem d1_128 : decode prog_112_method_7_code 128 = .ok (.sipush 8591, 3) := by decide +kernel
theorem d1_131 : decode prog_112_method_7_code 131 = .ok (.if_icmp .le 66, 3) := by decide +kernel
theorem d1_134 : decode prog_112_method_7_code 134 = .ok (.iload_n 0, 1) := by decide +kernel
theorem d1_135 : decode prog_112_method_7_code 135 = .ok (.sipush 11264, 3) := by decide +kernel
theorem d1_138 : decode prog_112_method_7_code 138 = .ok (.if_icmp .lt 10, 3) := by decide +kernel
theorem d1_141 : decode prog_112_method_7_code 141 = .ok (.iload_n 0, 1) := by decide +kernel
theorem d1_142 : decode prog_112_method_7_code 142 = .ok (.sipush 12271, 3) := by decide +kernel
theorem d1_145 : decode prog_112_method_7_code 145 = .ok (.if_icmp .le 52, 3) := by decide +kernel
theorem d1_148 : decode prog_112_method_7_code 148 = .ok (.iload_n 0, 1) := by decide +kernel
theorem d1_149 : decode prog_112_method_7_code 149 = .ok (.sipush 12289, 3) := by decide +kernel
theorem d1_152 : decode prog_112_method_7_code 152 = .ok (.if_icmp .lt 9, 3) := by decide +kernel
theorem d1_155 : decode prog_112_method_7_code 155 = .ok (.iload_n 0, 1) := by decide +kernel
theorem d1_156 : decode prog_112_method_7_code 156 = .ok (.ldc 27, 2) := by decide +kernel
theorem d1_158 : decode prog_112_method_7_code 158 = .ok (.if_icmp .le 39, 3) := by decide +kernel
theorem d1_161 : decode prog_112_method_7_code 161 = .ok (.iload_n 0, 1) := by decide +kernel
theorem d1_162 : decode prog_112_method_7_code 162 = .ok (.ldc 28, 2) := by decide +kernel
theorem d1_164 : decode prog_112_method_7_code 164 = .ok (.if_icmp .lt 9, 3) := by decide +kernel
theorem d1_167 : decode prog_112_method_7_code 167 = .ok (.iload_n 0, 1) := by decide +kernel
theorem d1_168 : decode prog_112_method_7_code 168 = .ok (.ldc 29, 2) := by decide +kernel
theorem d1_170 : decode prog_112_method_7_code 170 = .ok (.if_icmp .le 27, 3) := by decide +kernel
theorem d1_173 : decode prog_112_method_7_code 173 = .ok (.iload_n 0, 1) := by decide +kernel
theorem d1_174 : decode prog_112_method_7_code 174 = .ok (.ldc 30, 2) := by decide +kernel
theorem d1_176 : decode prog_112_method_7_code 176 = .ok (.if_icmp .lt 9, 3) := by decide +kernel
theorem d1_179 : decode prog_112_method_7_code 179 = .ok (.iload_n 0, 1) := by decide +kernel
theorem d1_180 : decode prog_112_method_7_code 180 = .ok (.ldc 31, 2) := by decide +kernel
theorem d1_182 : decode prog_112_method_7_code 182 = .ok (.if_icmp .le 15, 3) := by decide +kernel
theorem d1_185 : decode prog_112_method_7_code 185 = .ok (.iload_n 0, 1) := by decide +kernel
theorem d1_186 : decode prog_112_method_7_code 186 = .ok (.ldc 32, 2) := by decide +kernel
theorem d1_188 : decode prog_112_method_7_code 188 = .ok (.if_icmp .lt 13, 3) := by decide +kernel
theorem d1_191 : decode prog_112_method_7_code 191 = .ok (.iload_n 0, 1) := by decide +kernel
theorem d1_192 : decode prog_112_method_7_code 192 = .ok (.ldc 33, 2) := by decide +kernel
theorem d1_194 : decode prog_112_method_7_code 194 = .ok (.if_icmp .gt 7, 3) := by decide +kernel
theorem d1_197 : decode prog_112_method_7_code 197 = .ok (.iconst 1, 1) := by decide +kernel
theorem d1_198 : decode prog_112_method_7_code 198 = .ok (.goto 4, 3) := by decide +kernel
theorem d1_201 : decode prog_112_method_7_code 201 = .ok (.iconst 0, 1) := by decide +kernel
theorem d1_202 : decode prog_112_method_7_code 202 = .ok (.ireturn, 1) := by decide +kernel
theorem pn1 : plainName "com/example/prudent_validator/prudentvalidator/datatypes/XmlNames" = true := by first | (simp [plainName, overriddenIn]; done) | decide +kernel
theorem pd1 : parseMethodDescriptor "(I)Z" = some ⟨[.int], some .boolean⟩ := by decide +kernel
theorem ef1 (m : MethodId) (p0 : Int32) : entryFrame m #[(.int p0)] 1 = mkF m 0 #[.val (.int p0)] [] := by first | (simp [entryFrame, mkF, argsToLocals, Value.category]; done) | rfl
def f1_197  : Int32 :=
  (1 : Int32)
set_option maxRecDepth 65536 in
set_option maxHeartbeats 4000000 in
theorem b1_197 {p : Program} {l : Launch} {e : Env} {s : State} {m : MethodId} {args : Array Value} {below : List Frame} {meth : Method} {c : Code} {T0 : State} {locs : List Loc} {Z : State} {a0 : Array Value} {h0 : Heap} {n0 : Nat} (i0 : Int32) {r : Int32} (X0 : Stand p l e ({ frames := 0, cells := 0, slots := 0, locals := 0 } : Room) s m args below meth c T0 locs 0 0) (hx : p.tables.exec = Jvm.exec) (hZ : Z.Warmed39 s.vm) (hw : ∀ d ∈ tables_1, d.before a0 Z = true) (hby : c.code = prog_112_method_7_code) (hml : c.maxLocals = 1) (hown : s.vm.findClass "com/example/prudent_validator/prudentvalidator/datatypes/XmlNames" = some m.cls) (hret : meth.sig.returnType = some .boolean) (hlk : meth.locks = false) (e0 : T0.heap = h0) (N0 : Fr n0 locs) (hr : r = f1_197 ) :
    own_Ends p e below s 0 0 (own_P (.int r) h0 n0) T0 (mkF m 197 #[.val (.int i0)] []) := by
  unfold f1_197 at hr
  refine own_step (T' := T0) (f' := (mkF m 202 #[.val (.int i0)] [(.int (1 : Int32))])) (fun t kt => ?_) ?_
  · show Steps p.tables e below (T0.setTop (mkF m 197 #[.val (.int i0)] [])) _
    refine XS.iconst X0.here hx rfl (hb hby d1_197) ?_
    show Steps p.tables e below (T0.setTop (mkF m 198 #[.val (.int i0)] [(.int (1 : Int32))])) _
    refine XS.goto X0.here hx rfl (pc0 := 198) (pc' := 202) rfl (hb hby d1_198) (by decide) (by decide) ?_
    exact kt
  exact own_retZ X0 hx hret (by simp) hlk (hb hby d1_202) (Nat.le_refl _) (Nat.le_refl _) ⟨congrArg (fun z => some (Value.int z)) hr.symm, N0, e0⟩
def f1_201  : Int32 :=
  (0 : Int32)
set_option maxRecDepth 65536 in
set_option maxHeartbeats 4000000 in
theorem b1_201 {p : Program} {l : Launch} {e : Env} {s : State} {m : MethodId} {args : Array Value} {below : List Frame} {meth : Method} {c : Code} {T0 : State} {locs : List Loc} {Z : State} {a0 : Array Value} {h0 : Heap} {n0 : Nat} (i0 : Int32) {r : Int32} (X0 : Stand p l e ({ frames := 0, cells := 0, slots := 0, locals := 0 } : Room) s m args below meth c T0 locs 0 0) (hx : p.tables.exec = Jvm.exec) (hZ : Z.Warmed39 s.vm) (hw : ∀ d ∈ tables_1, d.before a0 Z = true) (hby : c.code = prog_112_method_7_code) (hml : c.maxLocals = 1) (hown : s.vm.findClass "com/example/prudent_validator/prudentvalidator/datatypes/XmlNames" = some m.cls) (hret : meth.sig.returnType = some .boolean) (hlk : meth.locks = false) (e0 : T0.heap = h0) (N0 : Fr n0 locs) (hr : r = f1_201 ) :
    own_Ends p e below s 0 0 (own_P (.int r) h0 n0) T0 (mkF m 201 #[.val (.int i0)] []) := by
  unfold f1_201 at hr
  refine own_step (T' := T0) (f' := (mkF m 202 #[.val (.int i0)] [(.int (0 : Int32))])) (fun t kt => ?_) ?_
  · show Steps p.tables e below (T0.setTop (mkF m 201 #[.val (.int i0)] [])) _
    refine XS.iconst X0.here hx rfl (hb hby d1_201) ?_
    exact kt
  exact own_retZ X0 hx hret (by simp) hlk (hb hby d1_202) (Nat.le_refl _) (Nat.le_refl _) ⟨congrArg (fun z => some (Value.int z)) hr.symm, N0, e0⟩
def f1_185 (i0 : Int32) : Int32 :=
  if i0 < (65536 : Int32) then (f1_201 ) else (if (983039 : Int32) < i0 then (f1_201 ) else (f1_197 ))
set_option maxRecDepth 65536 in
set_option maxHeartbeats 4000000 in
theorem b1_185 {p : Program} {l : Launch} {e : Env} {s : State} {m : MethodId} {args : Array Value} {below : List Frame} {meth : Method} {c : Code} {T0 : State} {locs : List Loc} {Z : State} {a0 : Array Value} {h0 : Heap} {n0 : Nat} (i0 : Int32) {r : Int32} (X0 : Stand p l e ({ frames := 0, cells := 0, slots := 0, locals := 0 } : Room) s m args below meth c T0 locs 0 0) (hx : p.tables.exec = Jvm.exec) (hZ : Z.Warmed39 s.vm) (hw : ∀ d ∈ tables_1, d.before a0 Z = true) (hby : c.code = prog_112_method_7_code) (hml : c.maxLocals = 1) (hown : s.vm.findClass "com/example/prudent_validator/prudentvalidator/datatypes/XmlNames" = some m.cls) (hret : meth.sig.returnType = some .boolean) (hlk : meth.locks = false) (e0 : T0.heap = h0) (N0 : Fr n0 locs) (hr : r = f1_185 i0) :
    own_Ends p e below s 0 0 (own_P (.int r) h0 n0) T0 (mkF m 185 #[.val (.int i0)] []) := by
  unfold f1_185 at hr
  refine own_step (T' := T0) (f' := (mkF m 188 #[.val (.int i0)] [(.int (65536 : Int32)), (.int i0)])) (fun t kt => ?_) ?_
  · show Steps p.tables e below (T0.setTop (mkF m 185 #[.val (.int i0)] [])) _
    refine XS.iloadN X0.here hx rfl (hb hby d1_185) rfl ?_
    show Steps p.tables e below (T0.setTop (mkF m 186 #[.val (.int i0)] [(.int i0)])) _
    refine X0.ldcInt hx hown (mvT hZ (hw _ (List.mem_of_getElem? (i := 17) rfl))) (g := (mkF m 186 #[.val (.int i0)] [(.int i0)])) rfl (hb hby d1_186) _ ?_
    exact kt
  by_cases hc188_16 : i0 < (65536 : Int32)
  · replace hr := hr.trans (if_pos hc188_16)
    refine own_step (T' := T0) (f' := (mkF m 201 #[.val (.int i0)] [])) (fun t kt => ?_) ?_
    · show Steps p.tables e below (T0.setTop (mkF m 188 #[.val (.int i0)] [(.int (65536 : Int32)), (.int i0)])) _
      refine XS.icmpYes X0.here hx rfl (pc0 := 188) (pc' := 201) rfl (hb hby d1_188) rfl (tlt hc188_16).1 (by decide) (by decide) kt
    exact b1_201 i0 X0 hx hZ hw hby hml hown hret hlk e0 N0 hr
  · replace hr := hr.trans (if_neg hc188_16)
    refine own_step (T' := T0) (f' := (mkF m 191 #[.val (.int i0)] [])) (fun t kt => ?_) ?_
    · show Steps p.tables e below (T0.setTop (mkF m 188 #[.val (.int i0)] [(.int (65536 : Int32)), (.int i0)])) _
      refine XS.icmpNo X0.here hx rfl (hb hby d1_188) rfl (flt hc188_16).1 kt
    refine own_step (T' := T0) (f' := (mkF m 194 #[.val (.int i0)] [(.int (983039 : Int32)), (.int i0)])) (fun t kt => ?_) ?_
    · show Steps p.tables e below (T0.setTop (mkF m 191 #[.val (.int i0)] [])) _
      refine XS.iloadN X0.here hx rfl (hb hby d1_191) rfl ?_
      show Steps p.tables e below (T0.setTop (mkF m 192 #[.val (.int i0)] [(.int i0)])) _
      refine X0.ldcInt hx hown (mvT hZ (hw _ (List.mem_of_getElem? (i := 21) rfl))) (g := (mkF m 192 #[.val (.int i0)] [(.int i0)])) rfl (hb hby d1_192) _ ?_
      exact kt
    by_cases hc194_17 : (983039 : Int32) < i0
    · replace hr := hr.trans (if_pos hc194_17)
      refine own_step (T' := T0) (f' := (mkF m 201 #[.val (.int i0)] [])) (fun t kt => ?_) ?_
      · show Steps p.tables e below (T0.setTop (mkF m 194 #[.val (.int i0)] [(.int (983039 : Int32)), (.int i0)])) _
        refine XS.icmpYes X0.here hx rfl (pc0 := 194) (pc' := 201) rfl (hb hby d1_194) rfl (tlt hc194_17).2.2.1 (by decide) (by decide) kt
      exact b1_201 i0 X0 hx hZ hw hby hml hown hret hlk e0 N0 hr
    · replace hr := hr.trans (if_neg hc194_17)
      refine own_step (T' := T0) (f' := (mkF m 197 #[.val (.int i0)] [])) (fun t kt => ?_) ?_
      · show Steps p.tables e below (T0.setTop (mkF m 194 #[.val (.int i0)] [(.int (983039 : Int32)), (.int i0)])) _
        refine XS.icmpNo X0.here hx rfl (hb hby d1_194) rfl (flt hc194_17).2.2.1 kt
      exact b1_197 i0 X0 hx hZ hw hby hml hown hret hlk e0 N0 hr
def f1_173 (i0 : Int32) : Int32 :=
  if i0 < (65008 : Int32) then (f1_185 i0) else (if (65533 : Int32) < i0 then (f1_185 i0) else (f1_197 ))
set_option maxRecDepth 65536 in
set_option maxHeartbeats 4000000 in
theorem b1_173 {p : Program} {l : Launch} {e : Env} {s : State} {m : MethodId} {args : Array Value} {below : List Frame} {meth : Method} {c : Code} {T0 : State} {locs : List Loc} {Z : State} {a0 : Array Value} {h0 : Heap} {n0 : Nat} (i0 : Int32) {r : Int32} (X0 : Stand p l e ({ frames := 0, cells := 0, slots := 0, locals := 0 } : Room) s m args below meth c T0 locs 0 0) (hx : p.tables.exec = Jvm.exec) (hZ : Z.Warmed39 s.vm) (hw : ∀ d ∈ tables_1, d.before a0 Z = true) (hby : c.code = prog_112_method_7_code) (hml : c.maxLocals = 1) (hown : s.vm.findClass "com/example/prudent_validator/prudentvalidator/datatypes/XmlNames" = some m.cls) (hret : meth.sig.returnType = some .boolean) (hlk : meth.locks = false) (e0 : T0.heap = h0) (N0 : Fr n0 locs) (hr : r = f1_173 i0) :
    own_Ends p e below s 0 0 (own_P (.int r) h0 n0) T0 (mkF m 173 #[.val (.int i0)] []) := by
  unfold f1_173 at hr
  refine own_step (T' := T0) (f' := (mkF m 176 #[.val (.int i0)] [(.int (65008 : Int32)), (.int i0)])) (fun t kt => ?_) ?_
  · show Steps p.tables e below (T0.setTop (mkF m 173 #[.val (.int i0)] [])) _
    refine XS.iloadN X0.here hx rfl (hb hby d1_173) rfl ?_
    show Steps p.tables e below (T0.setTop (mkF m 174 #[.val (.int i0)] [(.int i0)])) _
    refine X0.ldcInt hx hown (mvT hZ (hw _ (List.mem_of_getElem? (i := 16) rfl))) (g := (mkF m 174 #[.val (.int i0)] [(.int i0)])) rfl (hb hby d1_174) _ ?_
    exact kt
  by_cases hc176_15 : i0 < (65008 : Int32)
  · replace hr := hr.trans (if_pos hc176_15)
    refine own_step (T' := T0) (f' := (mkF m 185 #[.val (.int i0)] [])) (fun t kt => ?_) ?_
    · show Steps p.tables e below (T0.setTop (mkF m 176 #[.val (.int i0)] [(.int (65008 : Int32)), (.int i0)])) _
      refine XS.icmpYes X0.here hx rfl (pc0 := 176) (pc' := 185) rfl (hb hby d1_176) rfl (tlt hc176_15).1 (by decide) (by decide) kt
    exact b1_185 i0 X0 hx hZ hw hby hml hown hret hlk e0 N0 hr
  · replace hr := hr.trans (if_neg hc176_15)
    refine own_step (T' := T0) (f' := (mkF m 179 #[.val (.int i0)] [])) (fun t kt => ?_) ?_
    · show Steps p.tables e below (T0.setTop (mkF m 176 #[.val (.int i0)] [(.int (65008 : Int32)), (.int i0)])) _
      refine XS.icmpNo X0.here hx rfl (hb hby d1_176) rfl (flt hc176_15).1 kt
    refine own_step (T' := T0) (f' := (mkF m 182 #[.val (.int i0)] [(.int (65533 : Int32)), (.int i0)])) (fun t kt => ?_) ?_
    · show Steps p.tables e below (T0.setTop (mkF m 179 #[.val (.int i0)] [])) _
      refine XS.iloadN X0.here hx rfl (hb hby d1_179) rfl ?_
      show Steps p.tables e below (T0.setTop (mkF m 180 #[.val (.int i0)] [(.int i0)])) _
      refine X0.ldcInt hx hown (mvT hZ (hw _ (List.mem_of_getElem? (i := 20) rfl))) (g := (mkF m 180 #[.val (.int i0)] [(.int i0)])) rfl (hb hby d1_180) _ ?_
      exact kt
    by_cases hc182_18 : (65533 : Int32) < i0
    · replace hr := hr.trans (if_pos hc182_18)
      refine own_step (T' := T0) (f' := (mkF m 185 #[.val (.int i0)] [])) (fun t kt => ?_) ?_
      · show Steps p.tables e below (T0.setTop (mkF m 182 #[.val (.int i0)] [(.int (65533 : Int32)), (.int i0)])) _
        refine XS.icmpNo X0.here hx rfl (hb hby d1_182) rfl (tlt hc182_18).2.2.2 kt
      exact b1_185 i0 X0 hx hZ hw hby hml hown hret hlk e0 N0 hr
    · replace hr := hr.trans (if_neg hc182_18)
      refine own_step (T' := T0) (f' := (mkF m 197 #[.val (.int i0)] [])) (fun t kt => ?_) ?_
      · show Steps p.tables e below (T0.setTop (mkF m 182 #[.val (.int i0)] [(.int (65533 : Int32)), (.int i0)])) _
        refine XS.icmpYes X0.here hx rfl (pc0 := 182) (pc' := 197) rfl (hb hby d1_182) rfl (flt hc182_18).2.2.2 (by decide) (by decide) kt
      exact b1_197 i0 X0 hx hZ hw hby hml hown hret hlk e0 N0 hr
def f1_161 (i0 : Int32) : Int32 :=
  if i0 < (63744 : Int32) then (f1_173 i0) else (if (64975 : Int32) < i0 then (f1_173 i0) else (f1_197 ))
set_option maxRecDepth 65536 in
set_option maxHeartbeats 4000000 in
theorem b1_161 {p : Program} {l : Launch} {e : Env} {s : State} {m : MethodId} {args : Array Value} {below : List Frame} {meth : Method} {c : Code} {T0 : State} {locs : List Loc} {Z : State} {a0 : Array Value} {h0 : Heap} {n0 : Nat} (i0 : Int32) {r : Int32} (X0 : Stand p l e ({ frames := 0, cells := 0, slots := 0, locals := 0 } : Room) s m args below meth c T0 locs 0 0) (hx : p.tables.exec = Jvm.exec) (hZ : Z.Warmed39 s.vm) (hw : ∀ d ∈ tables_1, d.before a0 Z = true) (hby : c.code = prog_112_method_7_code) (hml : c.maxLocals = 1) (hown : s.vm.findClass "com/example/prudent_validator/prudentvalidator/datatypes/XmlNames" = some m.cls) (hret : meth.sig.returnType = some .boolean) (hlk : meth.locks = false) (e0 : T0.heap = h0) (N0 : Fr n0 locs) (hr : r = f1_161 i0) :
    own_Ends p e below s 0 0 (own_P (.int r) h0 n0) T0 (mkF m 161 #[.val (.int i0)] []) := by
  unfold f1_161 at hr
  refine own_step (T' := T0) (f' := (mkF m 164 #[.val (.int i0)] [(.int (63744 : Int32)), (.int i0)])) (fun t kt => ?_) ?_
  · show Steps p.tables e below (T0.setTop (mkF m 161 #[.val (.int i0)] [])) _
    refine XS.iloadN X0.here hx rfl (hb hby d1_161) rfl ?_
    show Steps p.tables e below (T0.setTop (mkF m 162 #[.val (.int i0)] [(.int i0)])) _
    refine X0.ldcInt hx hown (mvT hZ (hw _ (List.mem_of_getElem? (i := 15) rfl))) (g := (mkF m 162 #[.val (.int i0)] [(.int i0)])) rfl (hb hby d1_162) _ ?_
    exact kt
  by_cases hc164_14 : i0 < (63744 : Int32)
  · replace hr := hr.trans (if_pos hc164_14)
    refine own_step (T' := T0) (f' := (mkF m 173 #[.val (.int i0)] [])) (fun t kt => ?_) ?_
    · show Steps p.tables e below (T0.setTop (mkF m 164 #[.val (.int i0)] [(.int (63744 : Int32)), (.int i0)])) _
      refine XS.icmpYes X0.here hx rfl (pc0 := 164) (pc' := 173) rfl (hb hby d1_164) rfl (tlt hc164_14).1 (by decide) (by decide) kt
    exact b1_173 i0 X0 hx hZ hw hby hml hown hret hlk e0 N0 hr
  · replace hr := hr.trans (if_neg hc164_14)
    refine own_step (T' := T0) (f' := (mkF m 167 #[.val (.int i0)] [])) (fun t kt => ?_) ?_
    · show Steps p.tables e below (T0.setTop (mkF m 164 #[.val (.int i0)] [(.int (63744 : Int32)), (.int i0)])) _
      refine XS.icmpNo X0.here hx rfl (hb hby d1_164) rfl (flt hc164_14).1 kt
    refine own_step (T' := T0) (f' := (mkF m 170 #[.val (.int i0)] [(.int (64975 : Int32)), (.int i0)])) (fun t kt => ?_) ?_
    · show Steps p.tables e below (T0.setTop (mkF m 167 #[.val (.int i0)] [])) _
      refine XS.iloadN X0.here hx rfl (hb hby d1_167) rfl ?_
      show Steps p.tables e below (T0.setTop (mkF m 168 #[.val (.int i0)] [(.int i0)])) _
      refine X0.ldcInt hx hown (mvT hZ (hw _ (List.mem_of_getElem? (i := 19) rfl))) (g := (mkF m 168 #[.val (.int i0)] [(.int i0)])) rfl (hb hby d1_168) _ ?_
      exact kt
    by_cases hc170_19 : (64975 : Int32) < i0
    · replace hr := hr.trans (if_pos hc170_19)
      refine own_step (T' := T0) (f' := (mkF m 173 #[.val (.int i0)] [])) (fun t kt => ?_) ?_
      · show Steps p.tables e below (T0.setTop (mkF m 170 #[.val (.int i0)] [(.int (64975 : Int32)), (.int i0)])) _
        refine XS.icmpNo X0.here hx rfl (hb hby d1_170) rfl (tlt hc170_19).2.2.2 kt
      exact b1_173 i0 X0 hx hZ hw hby hml hown hret hlk e0 N0 hr
    · replace hr := hr.trans (if_neg hc170_19)
      refine own_step (T' := T0) (f' := (mkF m 197 #[.val (.int i0)] [])) (fun t kt => ?_) ?_
      · show Steps p.tables e below (T0.setTop (mkF m 170 #[.val (.int i0)] [(.int (64975 : Int32)), (.int i0)])) _
        refine XS.icmpYes X0.here hx rfl (pc0 := 170) (pc' := 197) rfl (hb hby d1_170) rfl (flt hc170_19).2.2.2 (by decide) (by decide) kt
      exact b1_197 i0 X0 hx hZ hw hby hml hown hret hlk e0 N0 hr
def f1_148 (i0 : Int32) : Int32 :=
  if i0 < (12289 : Int32) then (f1_161 i0) else (if (55295 : Int32) < i0 then (f1_161 i0) else (f1_197 ))
set_option maxRecDepth 65536 in
set_option maxHeartbeats 4000000 in
theorem b1_148 {p : Program} {l : Launch} {e : Env} {s : State} {m : MethodId} {args : Array Value} {below : List Frame} {meth : Method} {c : Code} {T0 : State} {locs : List Loc} {Z : State} {a0 : Array Value} {h0 : Heap} {n0 : Nat} (i0 : Int32) {r : Int32} (X0 : Stand p l e ({ frames := 0, cells := 0, slots := 0, locals := 0 } : Room) s m args below meth c T0 locs 0 0) (hx : p.tables.exec = Jvm.exec) (hZ : Z.Warmed39 s.vm) (hw : ∀ d ∈ tables_1, d.before a0 Z = true) (hby : c.code = prog_112_method_7_code) (hml : c.maxLocals = 1) (hown : s.vm.findClass "com/example/prudent_validator/prudentvalidator/datatypes/XmlNames" = some m.cls) (hret : meth.sig.returnType = some .boolean) (hlk : meth.locks = false) (e0 : T0.heap = h0) (N0 : Fr n0 locs) (hr : r = f1_148 i0) :
    own_Ends p e below s 0 0 (own_P (.int r) h0 n0) T0 (mkF m 148 #[.val (.int i0)] []) := by
  unfold f1_148 at hr
  refine own_step (T' := T0) (f' := (mkF m 152 #[.val (.int i0)] [(.int (12289 : Int32)), (.int i0)])) (fun t kt => ?_) ?_
  · show Steps p.tables e below (T0.setTop (mkF m 148 #[.val (.int i0)] [])) _
    refine XS.iloadN X0.here hx rfl (hb hby d1_148) rfl ?_
    show Steps p.tables e below (T0.setTop (mkF m 149 #[.val (.int i0)] [(.int i0)])) _
    refine XS.sipush X0.here hx rfl (hb hby d1_149) ?_
    exact kt
  by_cases hc152_13 : i0 < (12289 : Int32)
  · replace hr := hr.trans (if_pos hc152_13)
    refine own_step (T' := T0) (f' := (mkF m 161 #[.val (.int i0)] [])) (fun t kt => ?_) ?_
    · show Steps p.tables e below (T0.setTop (mkF m 152 #[.val (.int i0)] [(.int (12289 : Int32)), (.int i0)])) _
      refine XS.icmpYes X0.here hx rfl (pc0 := 152) (pc' := 161) rfl (hb hby d1_152) rfl (tlt hc152_13).1 (by decide) (by decide) kt
    exact b1_161 i0 X0 hx hZ hw hby hml hown hret hlk e0 N0 hr
  · replace hr := hr.trans (if_neg hc152_13)
    refine own_step (T' := T0) (f' := (mkF m 155 #[.val (.int i0)] [])) (fun t kt => ?_) ?_
    · show Steps p.tables e below (T0.setTop (mkF m 152 #[.val (.int i0)] [(.int (12289 : Int32)), (.int i0)])) _
      refine XS.icmpNo X0.here hx rfl (hb hby d1_152) rfl (flt hc152_13).1 kt
    refine own_step (T' := T0) (f' := (mkF m 158 #[.val (.int i0)] [(.int (55295 : Int32)), (.int i0)])) (fun t kt => ?_) ?_
    · show Steps p.tables e below (T0.setTop (mkF m 155 #[.val (.int i0)] [])) _
      refine XS.iloadN X0.here hx rfl (hb hby d1_155) rfl ?_
      show Steps p.tables e below (T0.setTop (mkF m 156 #[.val (.int i0)] [(.int i0)])) _
      refine X0.ldcInt hx hown (mvT hZ (hw _ (List.mem_of_getElem? (i := 18) rfl))) (g := (mkF m 156 #[.val (.int i0)] [(.int i0)])) rfl (hb hby d1_156) _ ?_
      exact kt
    by_cases hc158_20 : (55295 : Int32) < i0
    · replace hr := hr.trans (if_pos hc158_20)
      refine own_step (T' := T0) (f' := (mkF m 161 #[.val (.int i0)] [])) (fun t kt => ?_) ?_
      · show Steps p.tables e below (T0.setTop (mkF m 158 #[.val (.int i0)] [(.int (55295 : Int32)), (.int i0)])) _
        refine XS.icmpNo X0.here hx rfl (hb hby d1_158) rfl (tlt hc158_20).2.2.2 kt
      exact b1_161 i0 X0 hx hZ hw hby hml hown hret hlk e0 N0 hr
    · replace hr := hr.trans (if_neg hc158_20)
      refine own_step (T' := T0) (f' := (mkF m 197 #[.val (.int i0)] [])) (fun t kt => ?_) ?_
      · show Steps p.tables e below (T0.setTop (mkF m 158 #[.val (.int i0)] [(.int (55295 : Int32)), (.int i0)])) _
        refine XS.icmpYes X0.here hx rfl (pc0 := 158) (pc' := 197) rfl (hb hby d1_158) rfl (flt hc158_20).2.2.2 (by decide) (by decide) kt
      exact b1_197 i0 X0 hx hZ hw hby hml hown hret hlk e0 N0 hr
def f1_134 (i0 : Int32) : Int32 :=
  if i0 < (11264 : Int32) then (f1_148 i0) else (if (12271 : Int32) < i0 then (f1_148 i0) else (f1_197 ))
set_option maxRecDepth 65536 in
set_option maxHeartbeats 4000000 in
theorem b1_134 {p : Program} {l : Launch} {e : Env} {s : State} {m : MethodId} {args : Array Value} {below : List Frame} {meth : Method} {c : Code} {T0 : State} {locs : List Loc} {Z : State} {a0 : Array Value} {h0 : Heap} {n0 : Nat} (i0 : Int32) {r : Int32} (X0 : Stand p l e ({ frames := 0, cells := 0, slots := 0, locals := 0 } : Room) s m args below meth c T0 locs 0 0) (hx : p.tables.exec = Jvm.exec) (hZ : Z.Warmed39 s.vm) (hw : ∀ d ∈ tables_1, d.before a0 Z = true) (hby : c.code = prog_112_method_7_code) (hml : c.maxLocals = 1) (hown : s.vm.findClass "com/example/prudent_validator/prudentvalidator/datatypes/XmlNames" = some m.cls) (hret : meth.sig.returnType = some .boolean) (hlk : meth.locks = false) (e0 : T0.heap = h0) (N0 : Fr n0 locs) (hr : r = f1_134 i0) :
    own_Ends p e below s 0 0 (own_P (.int r) h0 n0) T0 (mkF m 134 #[.val (.int i0)] []) := by
  unfold f1_134 at hr
  refine own_step (T' := T0) (f' := (mkF m 138 #[.val (.int i0)] [(.int (11264 : Int32)), (.int i0)])) (fun t kt => ?_) ?_
  · show Steps p.tables e below (T0.setTop (mkF m 134 #[.val (.int i0)] [])) _
    refine XS.iloadN X0.here hx rfl (hb hby d1_134) rfl ?_
    show Steps p.tables e below (T0.setTop (mkF m 135 #[.val (.int i0)] [(.int i0)])) _
    refine XS.sipush X0.here hx rfl (hb hby d1_135) ?_
    exact kt
  by_cases hc138_12 : i0 < (11264 : Int32)
  · replace hr := hr.trans (if_pos hc138_12)
    refine own_step (T' := T0) (f' := (mkF m 148 #[.val (.int i0)] [])) (fun t kt => ?_) ?_
    · show Steps p.tables e below (T0.setTop (mkF m 138 #[.val (.int i0)] [(.int (11264 : Int32)), (.int i0)])) _
      refine XS.icmpYes X0.here hx rfl (pc0 := 138) (pc' := 148) rfl (hb hby d1_138) rfl (tlt hc138_12).1 (by decide) (by decide) kt
    exact b1_148 i0 X0 hx hZ hw hby hml hown hret hlk e0 N0 hr
  · replace hr := hr.trans (if_neg hc138_12)
    refine own_step (T' := T0) (f' := (mkF m 141 #[.val (.int i0)] [])) (fun t kt => ?_) ?_
    · show Steps p.tables e below (T0.setTop (mkF m 138 #[.val (.int i0)] [(.int (11264 : Int32)), (.int i0)])) _
      refine XS.icmpNo X0.here hx rfl (hb hby d1_138) rfl (flt hc138_12).1 kt
    refine own_step (T' := T0) (f' := (mkF m 145 #[.val (.int i0)] [(.int (12271 : Int32)), (.int i0)])) (fun t kt => ?_) ?_
    · show Steps p.tables e below (T0.setTop (mkF m 141 #[.val (.int i0)] [])) _
      refine XS.iloadN X0.here hx rfl (hb hby d1_141) rfl ?_
      show Steps p.tables e below (T0.setTop (mkF m 142 #[.val (.int i0)] [(.int i0)])) _
      refine XS.sipush X0.here hx rfl (hb hby d1_142) ?_
      exact kt
    by_cases hc145_21 : (12271 : Int32) < i0
    · replace hr := hr.trans (if_pos hc145_21)
      refine own_step (T' := T0) (f' := (mkF m 148 #[.val (.int i0)] [])) (fun t kt => ?_) ?_
      · show Steps p.tables e below (T0.setTop (mkF m 145 #[.val (.int i0)] [(.int (12271 : Int32)), (.int i0)])) _
        refine XS.icmpNo X0.here hx rfl (hb hby d1_145) rfl (tlt hc145_21).2.2.2 kt
      exact b1_148 i0 X0 hx hZ hw hby hml hown hret hlk e0 N0 hr
    · replace hr := hr.trans (if_neg hc145_21)
      refine own_step (T' := T0) (f' := (mkF m 197 #[.val (.int i0)] [])) (fun t kt => ?_) ?_
      · show Steps p.tables e below (T0.setTop (mkF m 145 #[.val (.int i0)] [(.int (12271 : Int32)), (.int i0)])) _
        refine XS.icmpYes X0.here hx rfl (pc0 := 145) (pc' := 197) rfl (hb hby d1_145) rfl (flt hc145_21).2.2.2 (by decide) (by decide) kt
      exact b1_197 i0 X0 hx hZ hw hby hml hown hret hlk e0 N0 hr
def f1_120 (i0 : Int32) : Int32 :=
  if i0 < (8304 : Int32) then (f1_134 i0) else (if (8591 : Int32) < i0 then (f1_134 i0) else (f1_197 ))
set_option maxRecDepth 65536 in
set_option maxHeartbeats 4000000 in
theorem b1_120 {p : Program} {l : Launch} {e : Env} {s : State} {m : MethodId} {args : Array Value} {below : List Frame} {meth : Method} {c : Code} {T0 : State} {locs : List Loc} {Z : State} {a0 : Array Value} {h0 : Heap} {n0 : Nat} (i0 : Int32) {r : Int32} (X0 : Stand p l e ({ frames := 0, cells := 0, slots := 0, locals := 0 } : Room) s m args below meth c T0 locs 0 0) (hx : p.tables.exec = Jvm.exec) (hZ : Z.Warmed39 s.vm) (hw : ∀ d ∈ tables_1, d.before a0 Z = true) (hby : c.code = prog_112_method_7_code) (hml : c.maxLocals = 1) (hown : s.vm.findClass "com/example/prudent_validator/prudentvalidator/datatypes/XmlNames" = some m.cls) (hret : meth.sig.returnType = some .boolean) (hlk : meth.locks = false) (e0 : T0.heap = h0) (N0 : Fr n0 locs) (hr : r = f1_120 i0) :
    own_Ends p e below s 0 0 (own_P (.int r) h0 n0) T0 (mkF m 120 #[.val (.int i0)] []) := by
  unfold f1_120 at hr
  refine own_step (T' := T0) (f' := (mkF m 124 #[.val (.int i0)] [(.int (8304 : Int32)), (.int i0)])) (fun t kt => ?_) ?_
  · show Steps p.tables e below (T0.setTop (mkF m 120 #[.val (.int i0)] [])) _
    refine XS.iloadN X0.here hx rfl (hb hby d1_120) rfl ?_
    show Steps p.tables e below (T0.setTop (mkF m 121 #[.val (.int i0)] [(.int i0)])) _
    refine XS.sipush X0.here hx rfl (hb hby d1_121) ?_
    exact kt
  by_cases hc124_11 : i0 < (8304 : Int32)
  · replace hr := hr.trans (if_pos hc124_11)
    refine own_step (T' := T0) (f' := (mkF m 134 #[.val (.int i0)] [])) (fun t kt => ?_) ?_
    · show Steps p.tables e below (T0.setTop (mkF m 124 #[.val (.int i0)] [(.int (8304 : Int32)), (.int i0)])) _
      refine XS.icmpYes X0.here hx rfl (pc0 := 124) (pc' := 134) rfl (hb hby d1_124) rfl (tlt hc124_11).1 (by decide) (by decide) kt
    exact b1_134 i0 X0 hx hZ hw hby hml hown hret hlk e0 N0 hr
  · replace hr := hr.trans (if_neg hc124_11)
    refine own_step (T' := T0) (f' := (mkF m 127 #[.val (.int i0)] [])) (fun t kt => ?_) ?_
    · show Steps p.tables e below (T0.setTop (mkF m 124 #[.val (.int i0)] [(.int (8304 : Int32)), (.int i0)])) _
      refine XS.icmpNo X0.here hx rfl (hb hby d1_124) rfl (flt hc124_11).1 kt
    refine own_step (T' := T0) (f' := (mkF m 131 #[.val (.int i0)] [(.int (8591 : Int32)), (.int i0)])) (fun t kt => ?_) ?_
    · show Steps p.tables e below (T0.setTop (mkF m 127 #[.val (.int i0)] [])) _
      refine XS.iloadN X0.here hx rfl (hb hby d1_127) rfl ?_
      show Steps p.tables e below (T0.setTop (mkF m 128 #[.val (.int i0)] [(.int i0)])) _
      refine XS.sipush X0.here hx rfl (hb hby d1_128) ?_
      exact kt
    by_cases hc131_22 : (8591 : Int32) < i0
    · replace hr := hr.trans (if_pos hc131_22)
      refine own_step (T' := T0) (f' := (mkF m 134 #[.val (.int i0)] [])) (fun t kt => ?_) ?_
      · show Steps p.tables e below (T0.setTop (mkF m 131 #[.val (.int i0)] [(.int (8591 : Int32)), (.int i0)])) _
        refine XS.icmpNo X0.here hx rfl (hb hby d1_131) rfl (tlt hc131_22).2.2.2 kt
      exact b1_134 i0 X0 hx hZ hw hby hml hown hret hlk e0 N0 hr
    · replace hr := hr.trans (if_neg hc131_22)
      refine own_step (T' := T0) (f' := (mkF m 197 #[.val (.int i0)] [])) (fun t kt => ?_) ?_
      · show Steps p.tables e below (T0.setTop (mkF m 131 #[.val (.int i0)] [(.int (8591 : Int32)), (.int i0)])) _
        refine XS.icmpYes X0.here hx rfl (pc0 := 131) (pc' := 197) rfl (hb hby d1_131) rfl (flt hc131_22).2.2.2 (by decide) (by decide) kt
      exact b1_197 i0 X0 hx hZ hw hby hml hown hret hlk e0 N0 hr
def f1_106 (i0 : Int32) : Int32 :=
  if i0 < (8204 : Int32) then (f1_120 i0) else (if (8205 : Int32) < i0 then (f1_120 i0) else (f1_197 ))
set_option maxRecDepth 65536 in
set_option maxHeartbeats 4000000 in
theorem b1_106 {p : Program} {l : Launch} {e : Env} {s : State} {m : MethodId} {args : Array Value} {below : List Frame} {meth : Method} {c : Code} {T0 : State} {locs : List Loc} {Z : State} {a0 : Array Value} {h0 : Heap} {n0 : Nat} (i0 : Int32) {r : Int32} (X0 : Stand p l e ({ frames := 0, cells := 0, slots := 0, locals := 0 } : Room) s m args below meth c T0 locs 0 0) (hx : p.tables.exec = Jvm.exec) (hZ : Z.Warmed39 s.vm) (hw : ∀ d ∈ tables_1, d.before a0 Z = true) (hby : c.code = prog_112_method_7_code) (hml : c.maxLocals = 1) (hown : s.vm.findClass "com/example/prudent_validator/prudentvalidator/datatypes/XmlNames" = some m.cls) (hret : meth.sig.returnType = some .boolean) (hlk : meth.locks = false) (e0 : T0.heap = h0) (N0 : Fr n0 locs) (hr : r = f1_106 i0) :
    own_Ends p e below s 0 0 (own_P (.int r) h0 n0) T0 (mkF m 106 #[.val (.int i0)] []) := by
  unfold f1_106 at hr
  refine own_step (T' := T0) (f' := (mkF m 110 #[.val (.int i0)] [(.int (8204 : Int32)), (.int i0)])) (fun t kt => ?_) ?_
  · show Steps p.tables e below (T0.setTop (mkF m 106 #[.val (.int i0)] [])) _
    refine XS.iloadN X0.here hx rfl (hb hby d1_106) rfl ?_
    show Steps p.tables e below (T0.setTop (mkF m 107 #[.val (.int i0)] [(.int i0)])) _
    refine XS.sipush X0.here hx rfl (hb hby d1_107) ?_
    exact kt
  by_cases hc110_10 : i0 < (8204 : Int32)
  · replace hr := hr.trans (if_pos hc110_10)
    refine own_step (T' := T0) (f' := (mkF m 120 #[.val (.int i0)] [])) (fun t kt => ?_) ?_
    · show Steps p.tables e below (T0.setTop (mkF m 110 #[.val (.int i0)] [(.int (8204 : Int32)), (.int i0)])) _
      refine XS.icmpYes X0.here hx rfl (pc0 := 110) (pc' := 120) rfl (hb hby d1_110) rfl (tlt hc110_10).1 (by decide) (by decide) kt
    exact b1_120 i0 X0 hx hZ hw hby hml hown hret hlk e0 N0 hr
  · replace hr := hr.trans (if_neg hc110_10)
    refine own_step (T' := T0) (f' := (mkF m 113 #[.val (.int i0)] [])) (fun t kt => ?_) ?_
    · show Steps p.tables e below (T0.setTop (mkF m 110 #[.val (.int i0)] [(.int (8204 : Int32)), (.int i0)])) _
      refine XS.icmpNo X0.here hx rfl (hb hby d1_110) rfl (flt hc110_10).1 kt
    refine own_step (T' := T0) (f' := (mkF m 117 #[.val (.int i0)] [(.int (8205 : Int32)), (.int i0)])) (fun t kt => ?_) ?_
    · show Steps p.tables e below (T0.setTop (mkF m 113 #[.val (.int i0)] [])) _
      refine XS.iloadN X0.here hx rfl (hb hby d1_113) rfl ?_
      show Steps p.tables e below (T0.setTop (mkF m 114 #[.val (.int i0)] [(.int i0)])) _
      refine XS.sipush X0.here hx rfl (hb hby d1_114) ?_
      exact kt
    by_cases hc117_23 : (8205 : Int32) < i0
    · replace hr := hr.trans (if_pos hc117_23)
      refine own_step (T' := T0) (f' := (mkF m 120 #[.val (.int i0)] [])) (fun t kt => ?_) ?_
      · show Steps p.tables e below (T0.setTop (mkF m 117 #[.val (.int i0)] [(.int (8205 : Int32)), (.int i0)])) _
        refine XS.icmpNo X0.here hx rfl (hb hby d1_117) rfl (tlt hc117_23).2.2.2 kt
      exact b1_120 i0 X0 hx hZ hw hby hml hown hret hlk e0 N0 hr
    · replace hr := hr.trans (if_neg hc117_23)
      refine own_step (T' := T0) (f' := (mkF m 197 #[.val (.int i0)] [])) (fun t kt => ?_) ?_
      · show Steps p.tables e below (T0.setTop (mkF m 117 #[.val (.int i0)] [(.int (8205 : Int32)), (.int i0)])) _
        refine XS.icmpYes X0.here hx rfl (pc0 := 117) (pc' := 197) rfl (hb hby d1_117) rfl (flt hc117_23).2.2.2 (by decide) (by decide) kt
      exact b1_197 i0 X0 hx hZ hw hby hml hown hret hlk e0 N0 hr
def f1_92 (i0 : Int32) : Int32 :=
  if i0 < (895 : Int32) then (f1_106 i0) else (if (8191 : Int32) < i0 then (f1_106 i0) else (f1_197 ))
set_option maxRecDepth 65536 in
set_option maxHeartbeats 4000000 in
theorem b1_92 {p : Program} {l : Launch} {e : Env} {s : State} {m : MethodId} {args : Array Value} {below : List Frame} {meth : Method} {c : Code} {T0 : State} {locs : List Loc} {Z : State} {a0 : Array Value} {h0 : Heap} {n0 : Nat} (i0 : Int32) {r : Int32} (X0 : Stand p l e ({ frames := 0, cells := 0, slots := 0, locals := 0 } : Room) s m args below meth c T0 locs 0 0) (hx : p.tables.exec = Jvm.exec) (hZ : Z.Warmed39 s.vm) (hw : ∀ d ∈ tables_1, d.before a0 Z = true) (hby : c.code = prog_112_method_7_code) (hml : c.maxLocals = 1) (hown : s.vm.findClass "com/example/prudent_validator/prudentvalidator/datatypes/XmlNames" = some m.cls) (hret : meth.sig.returnType = some .boolean) (hlk : meth.locks = false) (e0 : T0.heap = h0) (N0 : Fr n0 locs) (hr : r = f1_92 i0) :
    own_Ends p e below s 0 0 (own_P (.int r) h0 n0) T0 (mkF m 92 #[.val (.int i0)] []) := by
  unfold f1_92 at hr
  refine own_step (T' := T0) (f' := (mkF m 96 #[.val (.int i0)] [(.int (895 : Int32)), (.int i0)])) (fun t kt => ?_) ?_
  · show Steps p.tables e below (T0.setTop (mkF m 92 #[.val (.int i0)] [])) _
    refine XS.iloadN X0.here hx rfl (hb hby d1_92) rfl ?_
    show Steps p.tables e below (T0.setTop (mkF m 93 #[.val (.int i0)] [(.int i0)])) _
    refine XS.sipush X0.here hx rfl (hb hby d1_93) ?_
    exact kt
  by_cases hc96_9 : i0 < (895 : Int32)
  · replace hr := hr.trans (if_pos hc96_9)
    refine own_step (T' := T0) (f' := (mkF m 106 #[.val (.int i0)] [])) (fun t kt => ?_) ?_
    · show Steps p.tables e below (T0.setTop (mkF m 96 #[.val (.int i0)] [(.int (895 : Int32)), (.int i0)])) _
      refine XS.icmpYes X0.here hx rfl (pc0 := 96) (pc' := 106) rfl (hb hby d1_96) rfl (tlt hc96_9).1 (by decide) (by decide) kt
    exact b1_106 i0 X0 hx hZ hw hby hml hown hret hlk e0 N0 hr
  · replace hr := hr.trans (if_neg hc96_9)
    refine own_step (T' := T0) (f' := (mkF m 99 #[.val (.int i0)] [])) (fun t kt => ?_) ?_
    · show Steps p.tables e below (T0.setTop (mkF m 96 #[.val (.int i0)] [(.int (895 : Int32)), (.int i0)])) _
      refine XS.icmpNo X0.here hx rfl (hb hby d1_96) rfl (flt hc96_9).1 kt
    refine own_step (T' := T0) (f' := (mkF m 103 #[.val (.int i0)] [(.int (8191 : Int32)), (.int i0)])) (fun t kt => ?_) ?_
    · show Steps p.tables e below (T0.setTop (mkF m 99 #[.val (.int i0)] [])) _
      refine XS.iloadN X0.here hx rfl (hb hby d1_99) rfl ?_
      show Steps p.tables e below (T0.setTop (mkF m 100 #[.val (.int i0)] [(.int i0)])) _
      refine XS.sipush X0.here hx rfl (hb hby d1_100) ?_
      exact kt
    by_cases hc103_24 : (8191 : Int32) < i0
    · replace hr := hr.trans (if_pos hc103_24)
      refine own_step (T' := T0) (f' := (mkF m 106 #[.val (.int i0)] [])) (fun t kt => ?_) ?_
      · show Steps p.tables e below (T0.setTop (mkF m 103 #[.val (.int i0)] [(.int (8191 : Int32)), (.int i0)])) _
        refine XS.icmpNo X0.here hx rfl (hb hby d1_103) rfl (tlt hc103_24).2.2.2 kt
      exact b1_106 i0 X0 hx hZ hw hby hml hown hret hlk e0 N0 hr
    · replace hr := hr.trans (if_neg hc103_24)
      refine own_step (T' := T0) (f' := (mkF m 197 #[.val (.int i0)] [])) (fun t kt => ?_) ?_
      · show Steps p.tables e below (T0.setTop (mkF m 103 #[.val (.int i0)] [(.int (8191 : Int32)), (.int i0)])) _
        refine XS.icmpYes X0.here hx rfl (pc0 := 103) (pc' := 197) rfl (hb hby d1_103) rfl (flt hc103_24).2.2.2 (by decide) (by decide) kt
      exact b1_197 i0 X0 hx hZ hw hby hml hown hret hlk e0 N0 hr
def f1_78 (i0 : Int32) : Int32 :=
  if i0 < (880 : Int32) then (f1_92 i0) else (if (893 : Int32) < i0 then (f1_92 i0) else (f1_197 ))
set_option maxRecDepth 65536 in
set_option maxHeartbeats 4000000 in
theorem b1_78 {p : Program} {l : Launch} {e : Env} {s : State} {m : MethodId} {args : Array Value} {below : List Frame} {meth : Method} {c : Code} {T0 : State} {locs : List Loc} {Z : State} {a0 : Array Value} {h0 : Heap} {n0 : Nat} (i0 : Int32) {r : Int32} (X0 : Stand p l e ({ frames := 0, cells := 0, slots := 0, locals := 0 } : Room) s m args below meth c T0 locs 0 0) (hx : p.tables.exec = Jvm.exec) (hZ : Z.Warmed39 s.vm) (hw : ∀ d ∈ tables_1, d.before a0 Z = true) (hby : c.code = prog_112_method_7_code) (hml : c.maxLocals = 1) (hown : s.vm.findClass "com/example/prudent_validator/prudentvalidator/datatypes/XmlNames" = some m.cls) (hret : meth.sig.returnType = some .boolean) (hlk : meth.locks = false) (e0 : T0.heap = h0) (N0 : Fr n0 locs) (hr : r = f1_78 i0) :
    own_Ends p e below s 0 0 (own_P (.int r) h0 n0) T0 (mkF m 78 #[.val (.int i0)] []) := by
  unfold f1_78 at hr
  refine own_step (T' := T0) (f' := (mkF m 82 #[.val (.int i0)] [(.int (880 : Int32)), (.int i0)])) (fun t kt => ?_) ?_
  · show Steps p.tables e below (T0.setTop (mkF m 78 #[.val (.int i0)] [])) _
    refine XS.iloadN X0.here hx rfl (hb hby d1_78) rfl ?_
    show Steps p.tables e below (T0.setTop (mkF m 79 #[.val (.int i0)] [(.int i0)])) _
    refine XS.sipush X0.here hx rfl (hb hby d1_79) ?_
    exact kt
  by_cases hc82_8 : i0 < (880 : Int32)
  · replace hr := hr.trans (if_pos hc82_8)
    refine own_step (T' := T0) (f' := (mkF m 92 #[.val (.int i0)] [])) (fun t kt => ?_) ?_
    · show Steps p.tables e below (T0.setTop (mkF m 82 #[.val (.int i0)] [(.int (880 : Int32)), (.int i0)])) _
      refine XS.icmpYes X0.here hx rfl (pc0 := 82) (pc' := 92) rfl (hb hby d1_82) rfl (tlt hc82_8).1 (by decide) (by decide) kt
    exact b1_92 i0 X0 hx hZ hw hby hml hown hret hlk e0 N0 hr
  · replace hr := hr.trans (if_neg hc82_8)
    refine own_step (T' := T0) (f' := (mkF m 85 #[.val (.int i0)] [])) (fun t kt => ?_) ?_
    · show Steps p.tables e below (T0.setTop (mkF m 82 #[.val (.int i0)] [(.int (880 : Int32)), (.int i0)])) _
      refine XS.icmpNo X0.here hx rfl (hb hby d1_82) rfl (flt hc82_8).1 kt
    refine own_step (T' := T0) (f' := (mkF m 89 #[.val (.int i0)] [(.int (893 : Int32)), (.int i0)])) (fun t kt => ?_) ?_
    · show Steps p.tables e below (T0.setTop (mkF m 85 #[.val (.int i0)] [])) _
      refine XS.iloadN X0.here hx rfl (hb hby d1_85) rfl ?_
      show Steps p.tables e below (T0.setTop (mkF m 86 #[.val (.int i0)] [(.int i0)])) _
      refine XS.sipush X0.here hx rfl (hb hby d1_86) ?_
      exact kt
    by_cases hc89_25 : (893 : Int32) < i0
    · replace hr := hr.trans (if_pos hc89_25)
      refine own_step (T' := T0) (f' := (mkF m 92 #[.val (.int i0)] [])) (fun t kt => ?_) ?_
      · show Steps p.tables e below (T0.setTop (mkF m 89 #[.val (.int i0)] [(.int (893 : Int32)), (.int i0)])) _
        refine XS.icmpNo X0.here hx rfl (hb hby d1_89) rfl (tlt hc89_25).2.2.2 kt
      exact b1_92 i0 X0 hx hZ hw hby hml hown hret hlk e0 N0 hr
    · replace hr := hr.trans (if_neg hc89_25)
      refine own_step (T' := T0) (f' := (mkF m 197 #[.val (.int i0)] [])) (fun t kt => ?_) ?_
      · show Steps p.tables e below (T0.setTop (mkF m 89 #[.val (.int i0)] [(.int (893 : Int32)), (.int i0)])) _
        refine XS.icmpYes X0.here hx rfl (pc0 := 89) (pc' := 197) rfl (hb hby d1_89) rfl (flt hc89_25).2.2.2 (by decide) (by decide) kt
      exact b1_197 i0 X0 hx hZ hw hby hml hown hret hlk e0 N0 hr
def f1_64 (i0 : Int32) : Int32 :=
  if i0 < (248 : Int32) then (f1_78 i0) else (if (767 : Int32) < i0 then (f1_78 i0) else (f1_197 ))
set_option maxRecDepth 65536 in
set_option maxHeartbeats 4000000 in
theorem b1_64 {p : Program} {l : Launch} {e : Env} {s : State} {m : MethodId} {args : Array Value} {below : List Frame} {meth : Method} {c : Code} {T0 : State} {locs : List Loc} {Z : State} {a0 : Array Value} {h0 : Heap} {n0 : Nat} (i0 : Int32) {r : Int32} (X0 : Stand p l e ({ frames := 0, cells := 0, slots := 0, locals := 0 } : Room) s m args below meth c T0 locs 0 0) (hx : p.tables.exec = Jvm.exec) (hZ : Z.Warmed39 s.vm) (hw : ∀ d ∈ tables_1, d.before a0 Z = true) (hby : c.code = prog_112_method_7_code) (hml : c.maxLocals = 1) (hown : s.vm.findClass "com/example/prudent_validator/prudentvalidator/datatypes/XmlNames" = some m.cls) (hret : meth.sig.returnType = some .boolean) (hlk : meth.locks = false) (e0 : T0.heap = h0) (N0 : Fr n0 locs) (hr : r = f1_64 i0) :
    own_Ends p e below s 0 0 (own_P (.int r) h0 n0) T0 (mkF m 64 #[.val (.int i0)] []) := by
  unfold f1_64 at hr
  refine own_step (T' := T0) (f' := (mkF m 68 #[.val (.int i0)] [(.int (248 : Int32)), (.int i0)])) (fun t kt => ?_) ?_
  · show Steps p.tables e below (T0.setTop (mkF m 64 #[.val (.int i0)] [])) _
    refine XS.iloadN X0.here hx rfl (hb hby d1_64) rfl ?_
    show Steps p.tables e below (T0.setTop (mkF m 65 #[.val (.int i0)] [(.int i0)])) _
    refine XS.sipush X0.here hx rfl (hb hby d1_65) ?_
    exact kt
  by_cases hc68_7 : i0 < (248 : Int32)
  · replace hr := hr.trans (if_pos hc68_7)
    refine own_step (T' := T0) (f' := (mkF m 78 #[.val (.int i0)] [])) (fun t kt => ?_) ?_
    · show Steps p.tables e below (T0.setTop (mkF m 68 #[.val (.int i0)] [(.int (248 : Int32)), (.int i0)])) _
      refine XS.icmpYes X0.here hx rfl (pc0 := 68) (pc' := 78) rfl (hb hby d1_68) rfl (tlt hc68_7).1 (by decide) (by decide) kt
    exact b1_78 i0 X0 hx hZ hw hby hml hown hret hlk e0 N0 hr
  · replace hr := hr.trans (if_neg hc68_7)
    refine own_step (T' := T0) (f' := (mkF m 71 #[.val (.int i0)] [])) (fun t kt => ?_) ?_
    · show Steps p.tables e below (T0.setTop (mkF m 68 #[.val (.int i0)] [(.int (248 : Int32)), (.int i0)])) _
      refine XS.icmpNo X0.here hx rfl (hb hby d1_68) rfl (flt hc68_7).1 kt
    refine own_step (T' := T0) (f' := (mkF m 75 #[.val (.int i0)] [(.int (767 : Int32)), (.int i0)])) (fun t kt => ?_) ?_
    · show Steps p.tables e below (T0.setTop (mkF m 71 #[.val (.int i0)] [])) _
      refine XS.iloadN X0.here hx rfl (hb hby d1_71) rfl ?_
      show Steps p.tables e below (T0.setTop (mkF m 72 #[.val (.int i0)] [(.int i0)])) _
      refine XS.sipush X0.here hx rfl (hb hby d1_72) ?_
      exact kt
    by_cases hc75_26 : (767 : Int32) < i0
    · replace hr := hr.trans (if_pos hc75_26)
      refine own_step (T' := T0) (f' := (mkF m 78 #[.val (.int i0)] [])) (fun t kt => ?_) ?_
      · show Steps p.tables e below (T0.setTop (mkF m 75 #[.val (.int i0)] [(.int (767 : Int32)), (.int i0)])) _
        refine XS.icmpNo X0.here hx rfl (hb hby d1_75) rfl (tlt hc75_26).2.2.2 kt
      exact b1_78 i0 X0 hx hZ hw hby hml hown hret hlk e0 N0 hr
    · replace hr := hr.trans (if_neg hc75_26)
      refine own_step (T' := T0) (f' := (mkF m 197 #[.val (.int i0)] [])) (fun t kt => ?_) ?_
      · show Steps p.tables e below (T0.setTop (mkF m 75 #[.val (.int i0)] [(.int (767 : Int32)), (.int i0)])) _
        refine XS.icmpYes X0.here hx rfl (pc0 := 75) (pc' := 197) rfl (hb hby d1_75) rfl (flt hc75_26).2.2.2 (by decide) (by decide) kt
      exact b1_197 i0 X0 hx hZ hw hby hml hown hret hlk e0 N0 hr
def f1_50 (i0 : Int32) : Int32 :=
  if i0 < (216 : Int32) then (f1_64 i0) else (if (246 : Int32) < i0 then (f1_64 i0) else (f1_197 ))
set_option maxRecDepth 65536 in
set_option maxHeartbeats 4000000 in
theorem b1_50 {p : Program} {l : Launch} {e : Env} {s : State} {m : MethodId} {args : Array Value} {below : List Frame} {meth : Method} {c : Code} {T0 : State} {locs : List Loc} {Z : State} {a0 : Array Value} {h0 : Heap} {n0 : Nat} (i0 : Int32) {r : Int32} (X0 : Stand p l e ({ frames := 0, cells := 0, slots := 0, locals := 0 } : Room) s m args below meth c T0 locs 0 0) (hx : p.tables.exec = Jvm.exec) (hZ : Z.Warmed39 s.vm) (hw : ∀ d ∈ tables_1, d.before a0 Z = true) (hby : c.code = prog_112_method_7_code) (hml : c.maxLocals = 1) (hown : s.vm.findClass "com/example/prudent_validator/prudentvalidator/datatypes/XmlNames" = some m.cls) (hret : meth.sig.returnType = some .boolean) (hlk : meth.locks = false) (e0 : T0.heap = h0) (N0 : Fr n0 locs) (hr : r = f1_50 i0) :
    own_Ends p e below s 0 0 (own_P (.int r) h0 n0) T0 (mkF m 50 #[.val (.int i0)] []) := by
  unfold f1_50 at hr
  refine own_step (T' := T0) (f' := (mkF m 54 #[.val (.int i0)] [(.int (216 : Int32)), (.int i0)])) (fun t kt => ?_) ?_
  · show Steps p.tables e below (T0.setTop (mkF m 50 #[.val (.int i0)] [])) _
    refine XS.iloadN X0.here hx rfl (hb hby d1_50) rfl ?_
    show Steps p.tables e below (T0.setTop (mkF m 51 #[.val (.int i0)] [(.int i0)])) _
    refine XS.sipush X0.here hx rfl (hb hby d1_51) ?_
    exact kt
  by_cases hc54_6 : i0 < (216 : Int32)
  · replace hr := hr.trans (if_pos hc54_6)
    refine own_step (T' := T0) (f' := (mkF m 64 #[.val (.int i0)] [])) (fun t kt => ?_) ?_
    · show Steps p.tables e below (T0.setTop (mkF m 54 #[.val (.int i0)] [(.int (216 : Int32)), (.int i0)])) _
      refine XS.icmpYes X0.here hx rfl (pc0 := 54) (pc' := 64) rfl (hb hby d1_54) rfl (tlt hc54_6).1 (by decide) (by decide) kt
    exact b1_64 i0 X0 hx hZ hw hby hml hown hret hlk e0 N0 hr
  · replace hr := hr.trans (if_neg hc54_6)
    refine own_step (T' := T0) (f' := (mkF m 57 #[.val (.int i0)] [])) (fun t kt => ?_) ?_
    · show Steps p.tables e below (T0.setTop (mkF m 54 #[.val (.int i0)] [(.int (216 : Int32)), (.int i0)])) _
      refine XS.icmpNo X0.here hx rfl (hb hby d1_54) rfl (flt hc54_6).1 kt
    refine own_step (T' := T0) (f' := (mkF m 61 #[.val (.int i0)] [(.int (246 : Int32)), (.int i0)])) (fun t kt => ?_) ?_
    · show Steps p.tables e below (T0.setTop (mkF m 57 #[.val (.int i0)] [])) _
      refine XS.iloadN X0.here hx rfl (hb hby d1_57) rfl ?_
      show Steps p.tables e below (T0.setTop (mkF m 58 #[.val (.int i0)] [(.int i0)])) _
      refine XS.sipush X0.here hx rfl (hb hby d1_58) ?_
      exact kt
    by_cases hc61_27 : (246 : Int32) < i0
    · replace hr := hr.trans (if_pos hc61_27)
      refine own_step (T' := T0) (f' := (mkF m 64 #[.val (.int i0)] [])) (fun t kt => ?_) ?_
      · show Steps p.tables e below (T0.setTop (mkF m 61 #[.val (.int i0)] [(.int (246 : Int32)), (.int i0)])) _
        refine XS.icmpNo X0.here hx rfl (hb hby d1_61) rfl (tlt hc61_27).2.2.2 kt
      exact b1_64 i0 X0 hx hZ hw hby hml hown hret hlk e0 N0 hr
    · replace hr := hr.trans (if_neg hc61_27)
      refine own_step (T' := T0) (f' := (mkF m 197 #[.val (.int i0)] [])) (fun t kt => ?_) ?_
      · show Steps p.tables e below (T0.setTop (mkF m 61 #[.val (.int i0)] [(.int (246 : Int32)), (.int i0)])) _
        refine XS.icmpYes X0.here hx rfl (pc0 := 61) (pc' := 197) rfl (hb hby d1_61) rfl (flt hc61_27).2.2.2 (by decide) (by decide) kt
      exact b1_197 i0 X0 hx hZ hw hby hml hown hret hlk e0 N0 hr
def f1_36 (i0 : Int32) : Int32 :=
  if i0 < (192 : Int32) then (f1_50 i0) else (if (214 : Int32) < i0 then (f1_50 i0) else (f1_197 ))
set_option maxRecDepth 65536 in
set_option maxHeartbeats 4000000 in
theorem b1_36 {p : Program} {l : Launch} {e : Env} {s : State} {m : MethodId} {args : Array Value} {below : List Frame} {meth : Method} {c : Code} {T0 : State} {locs : List Loc} {Z : State} {a0 : Array Value} {h0 : Heap} {n0 : Nat} (i0 : Int32) {r : Int32} (X0 : Stand p l e ({ frames := 0, cells := 0, slots := 0, locals := 0 } : Room) s m args below meth c T0 locs 0 0) (hx : p.tables.exec = Jvm.exec) (hZ : Z.Warmed39 s.vm) (hw : ∀ d ∈ tables_1, d.before a0 Z = true) (hby : c.code = prog_112_method_7_code) (hml : c.maxLocals = 1) (hown : s.vm.findClass "com/example/prudent_validator/prudentvalidator/datatypes/XmlNames" = some m.cls) (hret : meth.sig.returnType = some .boolean) (hlk : meth.locks = false) (e0 : T0.heap = h0) (N0 : Fr n0 locs) (hr : r = f1_36 i0) :
    own_Ends p e below s 0 0 (own_P (.int r) h0 n0) T0 (mkF m 36 #[.val (.int i0)] []) := by
  unfold f1_36 at hr
  refine own_step (T' := T0) (f' := (mkF m 40 #[.val (.int i0)] [(.int (192 : Int32)), (.int i0)])) (fun t kt => ?_) ?_
  · show Steps p.tables e below (T0.setTop (mkF m 36 #[.val (.int i0)] [])) _
    refine XS.iloadN X0.here hx rfl (hb hby d1_36) rfl ?_
    show Steps p.tables e below (T0.setTop (mkF m 37 #[.val (.int i0)] [(.int i0)])) _
    refine XS.sipush X0.here hx rfl (hb hby d1_37) ?_
    exact kt
  by_cases hc40_5 : i0 < (192 : Int32)
  · replace hr := hr.trans (if_pos hc40_5)
    refine own_step (T' := T0) (f' := (mkF m 50 #[.val (.int i0)] [])) (fun t kt => ?_) ?_
    · show Steps p.tables e below (T0.setTop (mkF m 40 #[.val (.int i0)] [(.int (192 : Int32)), (.int i0)])) _
      refine XS.icmpYes X0.here hx rfl (pc0 := 40) (pc' := 50) rfl (hb hby d1_40) rfl (tlt hc40_5).1 (by decide) (by decide) kt
    exact b1_50 i0 X0 hx hZ hw hby hml hown hret hlk e0 N0 hr
  · replace hr := hr.trans (if_neg hc40_5)
    refine own_step (T' := T0) (f' := (mkF m 43 #[.val (.int i0)] [])) (fun t kt => ?_) ?_
    · show Steps p.tables e below (T0.setTop (mkF m 40 #[.val (.int i0)] [(.int (192 : Int32)), (.int i0)])) _
      refine XS.icmpNo X0.here hx rfl (hb hby d1_40) rfl (flt hc40_5).1 kt
    refine own_step (T' := T0) (f' := (mkF m 47 #[.val (.int i0)] [(.int (214 : Int32)), (.int i0)])) (fun t kt => ?_) ?_
    · show Steps p.tables e below (T0.setTop (mkF m 43 #[.val (.int i0)] [])) _
      refine XS.iloadN X0.here hx rfl (hb hby d1_43) rfl ?_
      show Steps p.tables e below (T0.setTop (mkF m 44 #[.val (.int i0)] [(.int i0)])) _
      refine XS.sipush X0.here hx rfl (hb hby d1_44) ?_
      exact kt
    by_cases hc47_28 : (214 : Int32) < i0
    · replace hr := hr.trans (if_pos hc47_28)
      refine own_step (T' := T0) (f' := (mkF m 50 #[.val (.int i0)] [])) (fun t kt => ?_) ?_
      · show Steps p.tables e below (T0.setTop (mkF m 47 #[.val (.int i0)] [(.int (214 : Int32)), (.int i0)])) _
        refine XS.icmpNo X0.here hx rfl (hb hby d1_47) rfl (tlt hc47_28).2.2.2 kt
      exact b1_50 i0 X0 hx hZ hw hby hml hown hret hlk e0 N0 hr
    · replace hr := hr.trans (if_neg hc47_28)
      refine own_step (T' := T0) (f' := (mkF m 197 #[.val (.int i0)] [])) (fun t kt => ?_) ?_
      · show Steps p.tables e below (T0.setTop (mkF m 47 #[.val (.int i0)] [(.int (214 : Int32)), (.int i0)])) _
        refine XS.icmpYes X0.here hx rfl (pc0 := 47) (pc' := 197) rfl (hb hby d1_47) rfl (flt hc47_28).2.2.2 (by decide) (by decide) kt
      exact b1_197 i0 X0 hx hZ hw hby hml hown hret hlk e0 N0 hr
def f1_18 (i0 : Int32) : Int32 :=
  if i0 = (95 : Int32) then (f1_197 ) else (if i0 < (97 : Int32) then (f1_36 i0) else (if (122 : Int32) < i0 then (f1_36 i0) else (f1_197 )))
set_option maxRecDepth 65536 in
set_option maxHeartbeats 4000000 in
theorem b1_18 {p : Program} {l : Launch} {e : Env} {s : State} {m : MethodId} {args : Array Value} {below : List Frame} {meth : Method} {c : Code} {T0 : State} {locs : List Loc} {Z : State} {a0 : Array Value} {h0 : Heap} {n0 : Nat} (i0 : Int32) {r : Int32} (X0 : Stand p l e ({ frames := 0, cells := 0, slots := 0, locals := 0 } : Room) s m args below meth c T0 locs 0 0) (hx : p.tables.exec = Jvm.exec) (hZ : Z.Warmed39 s.vm) (hw : ∀ d ∈ tables_1, d.before a0 Z = true) (hby : c.code = prog_112_method_7_code) (hml : c.maxLocals = 1) (hown : s.vm.findClass "com/example/prudent_validator/prudentvalidator/datatypes/XmlNames" = some m.cls) (hret : meth.sig.returnType = some .boolean) (hlk : meth.locks = false) (e0 : T0.heap = h0) (N0 : Fr n0 locs) (hr : r = f1_18 i0) :
    own_Ends p e below s 0 0 (own_P (.int r) h0 n0) T0 (mkF m 18 #[.val (.int i0)] []) := by
  unfold f1_18 at hr
  refine own_step (T' := T0) (f' := (mkF m 21 #[.val (.int i0)] [(.int (95 : Int32)), (.int i0)])) (fun t kt => ?_) ?_
  · show Steps p.tables e below (T0.setTop (mkF m 18 #[.val (.int i0)] [])) _
    refine XS.iloadN X0.here hx rfl (hb hby d1_18) rfl ?_
    show Steps p.tables e below (T0.setTop (mkF m 19 #[.val (.int i0)] [(.int i0)])) _
    refine XS.bipush X0.here hx rfl (hb hby d1_19) ?_
    exact kt
  by_cases hc21_3 : i0 = (95 : Int32)
  · replace hr := hr.trans (if_pos hc21_3)
    refine own_step (T' := T0) (f' := (mkF m 197 #[.val (.int i0)] [])) (fun t kt => ?_) ?_
    · show Steps p.tables e below (T0.setTop (mkF m 21 #[.val (.int i0)] [(.int (95 : Int32)), (.int i0)])) _
      refine XS.icmpYes X0.here hx rfl (pc0 := 21) (pc' := 197) rfl (hb hby d1_21) rfl (teq hc21_3).1 (by decide) (by decide) kt
    exact b1_197 i0 X0 hx hZ hw hby hml hown hret hlk e0 N0 hr
  · replace hr := hr.trans (if_neg hc21_3)
    refine own_step (T' := T0) (f' := (mkF m 24 #[.val (.int i0)] [])) (fun t kt => ?_) ?_
    · show Steps p.tables e below (T0.setTop (mkF m 21 #[.val (.int i0)] [(.int (95 : Int32)), (.int i0)])) _
      refine XS.icmpNo X0.here hx rfl (hb hby d1_21) rfl (feq hc21_3).1 kt
    refine own_step (T' := T0) (f' := (mkF m 27 #[.val (.int i0)] [(.int (97 : Int32)), (.int i0)])) (fun t kt => ?_) ?_
    · show Steps p.tables e below (T0.setTop (mkF m 24 #[.val (.int i0)] [])) _
      refine XS.iloadN X0.here hx rfl (hb hby d1_24) rfl ?_
      show Steps p.tables e below (T0.setTop (mkF m 25 #[.val (.int i0)] [(.int i0)])) _
      refine XS.bipush X0.here hx rfl (hb hby d1_25) ?_
      exact kt
    by_cases hc27_4 : i0 < (97 : Int32)
    · replace hr := hr.trans (if_pos hc27_4)
      refine own_step (T' := T0) (f' := (mkF m 36 #[.val (.int i0)] [])) (fun t kt => ?_) ?_
      · show Steps p.tables e below (T0.setTop (mkF m 27 #[.val (.int i0)] [(.int (97 : Int32)), (.int i0)])) _
        refine XS.icmpYes X0.here hx rfl (pc0 := 27) (pc' := 36) rfl (hb hby d1_27) rfl (tlt hc27_4).1 (by decide) (by decide) kt
      exact b1_36 i0 X0 hx hZ hw hby hml hown hret hlk e0 N0 hr
    · replace hr := hr.trans (if_neg hc27_4)
      refine own_step (T' := T0) (f' := (mkF m 30 #[.val (.int i0)] [])) (fun t kt => ?_) ?_
      · show Steps p.tables e below (T0.setTop (mkF m 27 #[.val (.int i0)] [(.int (97 : Int32)), (.int i0)])) _
        refine XS.icmpNo X0.here hx rfl (hb hby d1_27) rfl (flt hc27_4).1 kt
      refine own_step (T' := T0) (f' := (mkF m 33 #[.val (.int i0)] [(.int (122 : Int32)), (.int i0)])) (fun t kt => ?_) ?_
      · show Steps p.tables e below (T0.setTop (mkF m 30 #[.val (.int i0)] [])) _
        refine XS.iloadN X0.here hx rfl (hb hby d1_30) rfl ?_
        show Steps p.tables e below (T0.setTop (mkF m 31 #[.val (.int i0)] [(.int i0)])) _
        refine XS.bipush X0.here hx rfl (hb hby d1_31) ?_
        exact kt
      by_cases hc33_29 : (122 : Int32) < i0
      · replace hr := hr.trans (if_pos hc33_29)
        refine own_step (T' := T0) (f' := (mkF m 36 #[.val (.int i0)] [])) (fun t kt => ?_) ?_
        · show Steps p.tables e below (T0.setTop (mkF m 33 #[.val (.int i0)] [(.int (122 : Int32)), (.int i0)])) _
          refine XS.icmpNo X0.here hx rfl (hb hby d1_33) rfl (tlt hc33_29).2.2.2 kt
        exact b1_36 i0 X0 hx hZ hw hby hml hown hret hlk e0 N0 hr
      · replace hr := hr.trans (if_neg hc33_29)
        refine own_step (T' := T0) (f' := (mkF m 197 #[.val (.int i0)] [])) (fun t kt => ?_) ?_
        · show Steps p.tables e below (T0.setTop (mkF m 33 #[.val (.int i0)] [(.int (122 : Int32)), (.int i0)])) _
          refine XS.icmpYes X0.here hx rfl (pc0 := 33) (pc' := 197) rfl (hb hby d1_33) rfl (flt hc33_29).2.2.2 (by decide) (by decide) kt
        exact b1_197 i0 X0 hx hZ hw hby hml hown hret hlk e0 N0 hr
def f1_0 (p0 : Int32) : Int32 :=
  if p0 = (58 : Int32) then (f1_197 ) else (if p0 < (65 : Int32) then (f1_18 p0) else (if (90 : Int32) < p0 then (f1_18 p0) else (f1_197 )))
set_option maxRecDepth 65536 in
set_option maxHeartbeats 4000000 in
theorem b1_0 {p : Program} {l : Launch} {e : Env} {s : State} {m : MethodId} {args : Array Value} {below : List Frame} {meth : Method} {c : Code} {T0 : State} {locs : List Loc} {Z : State} {a0 : Array Value} {h0 : Heap} {n0 : Nat} (p0 : Int32) {r : Int32} (X0 : Stand p l e ({ frames := 0, cells := 0, slots := 0, locals := 0 } : Room) s m args below meth c T0 locs 0 0) (hx : p.tables.exec = Jvm.exec) (hZ : Z.Warmed39 s.vm) (hw : ∀ d ∈ tables_1, d.before a0 Z = true) (hby : c.code = prog_112_method_7_code) (hml : c.maxLocals = 1) (hown : s.vm.findClass "com/example/prudent_validator/prudentvalidator/datatypes/XmlNames" = some m.cls) (hret : meth.sig.returnType = some .boolean) (hlk : meth.locks = false) (e0 : T0.heap = h0) (N0 : Fr n0 locs) (hr : r = f1_0 p0) :
    own_Ends p e below s 0 0 (own_P (.int r) h0 n0) T0 (mkF m 0 #[.val (.int p0)] []) := by
  unfold f1_0 at hr
  refine own_step (T' := T0) (f' := (mkF m 3 #[.val (.int p0)] [(.int (58 : Int32)), (.int p0)])) (fun t kt => ?_) ?_
  · show Steps p.tables e below (T0.setTop (mkF m 0 #[.val (.int p0)] [])) _
    refine XS.iloadN X0.here hx rfl (hb hby d1_0) rfl ?_
    show Steps p.tables e below (T0.setTop (mkF m 1 #[.val (.int p0)] [(.int p0)])) _
    refine XS.bipush X0.here hx rfl (hb hby d1_1) ?_
    exact kt
  by_cases hc3_1 : p0 = (58 : Int32)
  · replace hr := hr.trans (if_pos hc3_1)
    refine own_step (T' := T0) (f' := (mkF m 197 #[.val (.int p0)] [])) (fun t kt => ?_) ?_
    · show Steps p.tables e below (T0.setTop (mkF m 3 #[.val (.int p0)] [(.int (58 : Int32)), (.int p0)])) _
      refine XS.icmpYes X0.here hx rfl (pc0 := 3) (pc' := 197) rfl (hb hby d1_3) rfl (teq hc3_1).1 (by decide) (by decide) kt
    exact b1_197 p0 X0 hx hZ hw hby hml hown hret hlk e0 N0 hr
  · replace hr := hr.trans (if_neg hc3_1)
    refine own_step (T' := T0) (f' := (mkF m 6 #[.val (.int p0)] [])) (fun t kt => ?_) ?_
    · show Steps p.tables e below (T0.setTop (mkF m 3 #[.val (.int p0)] [(.int (58 : Int32)), (.int p0)])) _
      refine XS.icmpNo X0.here hx rfl (hb hby d1_3) rfl (feq hc3_1).1 kt
    refine own_step (T' := T0) (f' := (mkF m 9 #[.val (.int p0)] [(.int (65 : Int32)), (.int p0)])) (fun t kt => ?_) ?_
    · show Steps p.tables e below (T0.setTop (mkF m 6 #[.val (.int p0)] [])) _
      refine XS.iloadN X0.here hx rfl (hb hby d1_6) rfl ?_
      show Steps p.tables e below (T0.setTop (mkF m 7 #[.val (.int p0)] [(.int p0)])) _
      refine XS.bipush X0.here hx rfl (hb hby d1_7) ?_
      exact kt
    by_cases hc9_2 : p0 < (65 : Int32)
    · replace hr := hr.trans (if_pos hc9_2)
      refine own_step (T' := T0) (f' := (mkF m 18 #[.val (.int p0)] [])) (fun t kt => ?_) ?_
      · show Steps p.tables e below (T0.setTop (mkF m 9 #[.val (.int p0)] [(.int (65 : Int32)), (.int p0)])) _
        refine XS.icmpYes X0.here hx rfl (pc0 := 9) (pc' := 18) rfl (hb hby d1_9) rfl (tlt hc9_2).1 (by decide) (by decide) kt
      exact b1_18 p0 X0 hx hZ hw hby hml hown hret hlk e0 N0 hr
    · replace hr := hr.trans (if_neg hc9_2)
      refine own_step (T' := T0) (f' := (mkF m 12 #[.val (.int p0)] [])) (fun t kt => ?_) ?_
      · show Steps p.tables e below (T0.setTop (mkF m 9 #[.val (.int p0)] [(.int (65 : Int32)), (.int p0)])) _
        refine XS.icmpNo X0.here hx rfl (hb hby d1_9) rfl (flt hc9_2).1 kt
      refine own_step (T' := T0) (f' := (mkF m 15 #[.val (.int p0)] [(.int (90 : Int32)), (.int p0)])) (fun t kt => ?_) ?_
      · show Steps p.tables e below (T0.setTop (mkF m 12 #[.val (.int p0)] [])) _
        refine XS.iloadN X0.here hx rfl (hb hby d1_12) rfl ?_
        show Steps p.tables e below (T0.setTop (mkF m 13 #[.val (.int p0)] [(.int p0)])) _
        refine XS.bipush X0.here hx rfl (hb hby d1_13) ?_
        exact kt
      by_cases hc15_30 : (90 : Int32) < p0
      · replace hr := hr.trans (if_pos hc15_30)
        refine own_step (T' := T0) (f' := (mkF m 18 #[.val (.int p0)] [])) (fun t kt => ?_) ?_
        · show Steps p.tables e below (T0.setTop (mkF m 15 #[.val (.int p0)] [(.int (90 : Int32)), (.int p0)])) _
          refine XS.icmpNo X0.here hx rfl (hb hby d1_15) rfl (tlt hc15_30).2.2.2 kt
        exact b1_18 p0 X0 hx hZ hw hby hml hown hret hlk e0 N0 hr
      · replace hr := hr.trans (if_neg hc15_30)
        refine own_step (T' := T0) (f' := (mkF m 197 #[.val (.int p0)] [])) (fun t kt => ?_) ?_
        · show Steps p.tables e below (T0.setTop (mkF m 15 #[.val (.int p0)] [(.int (90 : Int32)), (.int p0)])) _
          refine XS.icmpYes X0.here hx rfl (pc0 := 15) (pc' := 197) rfl (hb hby d1_15) rfl (flt hc15_30).2.2.2 (by decide) (by decide) kt
        exact b1_197 p0 X0 hx hZ hw hby hml hown hret hlk e0 N0 hr
set_option maxRecDepth 65536 in
set_option maxHeartbeats 4000000 in
theorem rm1 (l : Launch) (Z : State) (a0 : Array Value) (hw : ∀ d ∈ tables_1, d.before a0 Z = true) (ws : List Jvm.Cond) (p0 : Int32) (h0 : Heap) (n0 : Nat) :
    MetFree l (⟨"com/example/prudent_validator/prudentvalidator/datatypes/XmlNames", "isNameStart", "(I)Z"⟩ : MethodName) (head1 (Jvm.Cond.code (⟨"com/example/prudent_validator/prudentvalidator/datatypes/XmlNames", "isNameStart", "(I)Z"⟩ : MethodName) prog_112_method_7_code 1 (some .boolean) :: ws) ({ frames := 0, cells := 0, slots := 0, locals := 0 } : Room)) (fun a U => a = #[(.int p0)] ∧ Z.Warmed39 U.vm ∧ U.heap = h0) (fun _ _ _ _ _ => True) (fun _ U o U' => ∃ v L, o = .returned v ∧ (own_P (.int (f1_0 p0)) h0 n0) v U'.heap L ∧ FrameEnd U o U' L ({ frames := 0, cells := 0, slots := 0, locals := 0 } : Room).cells ({ frames := 0, cells := 0, slots := 0, locals := 0 } : Room).slots) := by
  refine MetFree.of_bodySF (plainFor_of_name pn1) hisR ?_
  intro p e s m args below meth c s₁ Bd hml0 hP hK
  obtain ⟨rfl, hZ, hh⟩ := hP
  have hown : s.vm.findClass "com/example/prudent_validator/prudentvalidator/datatypes/XmlNames" = some m.cls := findClass_of_methodNamed Bd.named
  have X0 : Stand p l e ({ frames := 0, cells := 0, slots := 0, locals := 0 } : Room) s m #[(.int p0)] below meth c s₁ [] 0 0 := Stand.of_body Bd
  have e0 : s₁.heap = h0 := by rw [← hh, Bd.state]; rfl
  show own_Ends p e below s 0 0 (own_P (.int (f1_0 p0)) h0 n0) s₁ (entryFrame m #[(.int p0)] 1)
  refine own_step (fun t k => castTop (ef1 m p0) k) ?_
  exact b1_0 p0 X0 Bd.exec hZ hw Bd.bytes hml0 hown Bd.returns (BodyLoose.notSynchronized Bd) e0 (Fr.nil n0) rfl
def own_ints : List Int32 := [(-2147483648 : Int32), (58 : Int32), (59 : Int32), (65 : Int32), (91 : Int32), (95 : Int32), (96 : Int32), (97 : Int32), (123 : Int32), (192 : Int32), (215 : Int32), (216 : Int32), (247 : Int32), (248 : Int32), (768 : Int32), (880 : Int32), (894 : Int32), (895 : Int32), (8192 : Int32), (8204 : Int32), (8206 : Int32), (8304 : Int32), (8592 : Int32), (11264 : Int32), (12272 : Int32), (12289 : Int32), (55296 : Int32), (63744 : Int32), (64976 : Int32), (65008 : Int32), (65534 : Int32), (65536 : Int32), (983040 : Int32)]
def own_vals : List Value := [(.int (-2147483648 : Int32)), (.int (58 : Int32)), (.int (59 : Int32)), (.int (65 : Int32)), (.int (91 : Int32)), (.int (95 : Int32)), (.int (96 : Int32)), (.int (97 : Int32)), (.int (123 : Int32)), (.int (192 : Int32)), (.int (215 : Int32)), (.int (216 : Int32)), (.int (247 : Int32)), (.int (248 : Int32)), (.int (768 : Int32)), (.int (880 : Int32)), (.int (894 : Int32)), (.int (895 : Int32)), (.int (8192 : Int32)), (.int (8204 : Int32)), (.int (8206 : Int32)), (.int (8304 : Int32)), (.int (8592 : Int32)), (.int (11264 : Int32)), (.int (12272 : Int32)), (.int (12289 : Int32)), (.int (55296 : Int32)), (.int (63744 : Int32)), (.int (64976 : Int32)), (.int (65008 : Int32)), (.int (65534 : Int32)), (.int (65536 : Int32)), (.int (983040 : Int32))]
def own_tab (j : Int32) : Int32 := own_ints.getD j.toNatClampNeg 0
theorem own_vals_eq : own_vals = own_ints.map Value.int := rfl
theorem own_nat {j : Int32} (h0 : ¬ j < 0) (h1 : j < 33) : ∃ k : Fin 33, j = Int32.ofNat k.val := by
  rw [Int32.lt_iff_toInt_lt] at h0 h1
  have z0 : (0 : Int32).toInt = 0 := rfl
  have z33 : (33 : Int32).toInt = 33 := rfl
  refine ⟨⟨j.toInt.toNat, by omega⟩, Int32.toInt_inj.mp ?_⟩
  rw [Int32.toInt_ofNat_of_lt (by show j.toInt.toNat < 2 ^ 31; omega)]
  show j.toInt = (j.toInt.toNat : Int)
  omega
theorem own_tabv (j : Int32) (h0 : ¬ j < 0) (h1 : j < 33) : own_vals[j.toNatClampNeg]? = some (.int (own_tab j)) := by
  obtain ⟨k, rfl⟩ := own_nat h0 h1
  have key : ∀ k : Fin 33, (Int32.ofNat k.val).toNatClampNeg < own_ints.length := by decide +kernel
  have hk := key k
  unfold own_tab
  rw [own_vals_eq, List.getElem?_map, List.getElem?_eq_getElem hk, List.getD_eq_getElem?_getD, List.getElem?_eq_getElem hk]
  rfl
theorem own_ix (y : Int32) : ¬ ((y &&& (2147483647 : Int32)) - (y &&& (2147483647 : Int32)) / (33 : Int32) * (33 : Int32)) < 0 ∧ ((y &&& (2147483647 : Int32)) - (y &&& (2147483647 : Int32)) / (33 : Int32) * (33 : Int32)) < 33 := by
  have h := c_mask y 2147483647 31 (by decide) (by decide)
  have r := (c_irem (y &&& (2147483647 : Int32)) 33 33 rfl).1 (by rw [h]; omega)
  rw [irem_eq_mod, Int32.lt_iff_toInt_lt, Int32.lt_iff_toInt_lt, r]
  have z0 : (0 : Int32).toInt = 0 := rfl
  have z33 : (33 : Int32).toInt = 33 := rfl
  omega
theorem own_up (j : Int32) (h0 : ¬ j < 0) (h1 : j < 33) (h2 : ¬ j = 32) : ¬ (j + 1) < 0 ∧ (j + 1) < 33 := by
  obtain ⟨k, rfl⟩ := own_nat h0 h1
  have key : ∀ k : Fin 33, ¬ Int32.ofNat k.val = 32 → ¬ (Int32.ofNat k.val + 1) < 0 ∧ (Int32.ofNat k.val + 1) < 33 := by decide +kernel
  exact key k h2
theorem own_ix1 (y : Int32) (h : ¬ ((y &&& (2147483647 : Int32)) - (y &&& (2147483647 : Int32)) / (33 : Int32) * (33 : Int32)) = (32 : Int32)) : ¬ (((y &&& (2147483647 : Int32)) - (y &&& (2147483647 : Int32)) / (33 : Int32) * (33 : Int32)) + (1 : Int32)) < 0 ∧ (((y &&& (2147483647 : Int32)) - (y &&& (2147483647 : Int32)) / (33 : Int32) * (33 : Int32)) + (1 : Int32)) < 33 :=
  own_up _ (own_ix y).1 (own_ix y).2 h
theorem own_nz (j : Int32) (h0 : ¬ j < 0) (h1 : j < 33) (h2 : ¬ j = 32) : ¬ ((((own_tab (j + (1 : Int32)) - (1 : Int32)).toInt64) - ((own_tab j).toInt64)) + (1 : Int64)) = (0 : Int64) := by
  obtain ⟨k, rfl⟩ := own_nat h0 h1
  have key : ∀ k : Fin 33, ¬ Int32.ofNat k.val = 32 → ¬ ((((own_tab (Int32.ofNat k.val + (1 : Int32)) - (1 : Int32)).toInt64) - ((own_tab (Int32.ofNat k.val)).toInt64)) + (1 : Int64)) = (0 : Int64) := by decide +kernel
  exact key k h2
theorem own_ne (y : Int32) (h : ¬ ((y &&& (2147483647 : Int32)) - (y &&& (2147483647 : Int32)) / (33 : Int32) * (33 : Int32)) = (32 : Int32)) : ¬ ((((own_tab (((y &&& (2147483647 : Int32)) - (y &&& (2147483647 : Int32)) / (33 : Int32) * (33 : Int32)) + (1 : Int32)) - (1 : Int32)).toInt64) - ((own_tab ((y &&& (2147483647 : Int32)) - (y &&& (2147483647 : Int32)) / (33 : Int32) * (33 : Int32))).toInt64)) + (1 : Int64)) = (0 : Int64) :=
  own_nz _ (own_ix y).1 (own_ix y).2 h
theorem own_ne32 (y : Int32) (h : ((y &&& (2147483647 : Int32)) - (y &&& (2147483647 : Int32)) / (33 : Int32) * (33 : Int32)) = (32 : Int32)) : ¬ ((((2147483647 : Int32).toInt64) - ((own_tab ((y &&& (2147483647 : Int32)) - (y &&& (2147483647 : Int32)) / (33 : Int32) * (33 : Int32))).toInt64)) + (1 : Int64)) = (0 : Int64) := by
  rw [h]; decide +kernel

theorem pn0 : plainName "com/example/prudent_validator/prudentvalidator/datatypes/XmlNamesIsNameStartPinLaw" = true := by first | (simp [plainName, overriddenIn]; done) | decide +kernel
theorem ef0 (m : MethodId) (p0 : Int32) (p1 : Int32) : entryFrame m #[(.int p0), (.int p1)] maxLocals = mkF m 0 #[.val (.int p0), .val (.int p1), .unset, .unset, .unset, .unset, .unset, .unset, .unset, .unset, .unset, .unset] [] := by first | (simp [entryFrame, mkF, argsToLocals, Value.category, maxLocals]; done) | rfl
def f0_326  : Int32 :=
  (0 : Int32)
set_option maxRecDepth 65536 in
set_option maxHeartbeats 4000000 in
theorem b0_326 {p : Program} {l : Launch} {e : Env} {s : State} {m : MethodId} {args : Array Value} {below : List Frame} {meth : Method} {c : Code} {T0 : State} {locs : List Loc} {Z : State} {a0 : Array Value} {h0 : Heap} {n0 : Nat} (i0 : Int32) (i1 : Int32) (o2 : Addr) (i3 : Int32) (i4 : Int32) (i5 : Int32) (i6 : Int32) (j7 : Int64) (j9 : Int64) (i11 : Int32) {r : Int32} (X0 : Stand p l e room_1 s m args below meth c T0 locs 1 33) (hx : p.tables.exec = Jvm.exec) (hZ : Z.Warmed39 s.vm) (hw : ∀ d ∈ tables_1, d.before a0 Z = true) (hby : c.code = code) (hml : c.maxLocals = 12) (hown : s.vm.findClass "com/example/prudent_validator/prudentvalidator/datatypes/XmlNamesIsNameStartPinLaw" = some m.cls) (hret : meth.sig.returnType = some .boolean) (hlk : meth.locks = false) (e0 : T0.heap = h0) (N0 : Fr n0 locs) (Z0 : n0 ≤ h0.size) (hr : r = f0_326 ) :
    own_Ends p e below s 16 192 (own_R (.int r) n0) T0 (mkF m 326 #[.val (.int i0), .val (.int i1), .val (.ref o2), .val (.int i3), .val (.int i4), .val (.int i5), .val (.int i6), .val (.long j7), .second, .val (.long j9), .second, .val (.int i11)] []) := by
  unfold f0_326 at hr
  refine own_step (T' := T0) (f' := (mkF m 327 #[.val (.int i0), .val (.int i1), .val (.ref o2), .val (.int i3), .val (.int i4), .val (.int i5), .val (.int i6), .val (.long j7), .second, .val (.long j9), .second, .val (.int i11)] [(.int (0 : Int32))])) (fun t kt => ?_) ?_
  · show Steps p.tables e below (T0.setTop (mkF m 326 #[.val (.int i0), .val (.int i1), .val (.ref o2), .val (.int i3), .val (.int i4), .val (.int i5), .val (.int i6), .val (.long j7), .second, .val (.long j9), .second, .val (.int i11)] [])) _
    refine XS.iconst X0.here hx rfl (hb hby at_326) ?_
    exact kt
  exact own_retZ X0 hx hret (by simp) hlk (hb hby at_327) (by decide) (by decide) ⟨congrArg (fun z => some (Value.int z)) hr.symm, N0⟩
def f0_292 (i4 : Int32) (i5 : Int32) (i6 : Int32) (i11 : Int32) : Int32 :=
  if (f1_0 i11) = i6 then (if (f1_0 i4) = i6 then (if (f1_0 i5) = i6 then ((1 : Int32)) else (f0_326 )) else (f0_326 )) else (f0_326 )
set_option maxRecDepth 65536 in
set_option maxHeartbeats 4000000 in
theorem b0_292 {p : Program} {l : Launch} {e : Env} {s : State} {m : MethodId} {args : Array Value} {below : List Frame} {meth : Method} {c : Code} {T0 : State} {locs : List Loc} {Z : State} {a0 : Array Value} {h0 : Heap} {n0 : Nat} (i0 : Int32) (i1 : Int32) (o2 : Addr) (i3 : Int32) (i4 : Int32) (i5 : Int32) (i6 : Int32) (j7 : Int64) (j9 : Int64) (i11 : Int32) {r : Int32} (X0 : Stand p l e room_1 s m args below meth c T0 locs 1 33) (hx : p.tables.exec = Jvm.exec) (hZ : Z.Warmed39 s.vm) (hw : ∀ d ∈ tables_1, d.before a0 Z = true) (hby : c.code = code) (hml : c.maxLocals = 12) (hown : s.vm.findClass "com/example/prudent_validator/prudentvalidator/datatypes/XmlNamesIsNameStartPinLaw" = some m.cls) (hret : meth.sig.returnType = some .boolean) (hlk : meth.locks = false) (e0 : T0.heap = h0) (N0 : Fr n0 locs) (Z0 : n0 ≤ h0.size) (hr : r = f0_292 i4 i5 i6 i11) :
    own_Ends p e below s 16 192 (own_R (.int r) n0) T0 (mkF m 292 #[.val (.int i0), .val (.int i1), .val (.ref o2), .val (.int i3), .val (.int i4), .val (.int i5), .val (.int i6), .val (.long j7), .second, .val (.long j9), .second, .val (.int i11)] []) := by
  unfold f0_292 at hr
  refine own_step (T' := T0) (f' := (mkF m 294 #[.val (.int i0), .val (.int i1), .val (.ref o2), .val (.int i3), .val (.int i4), .val (.int i5), .val (.int i6), .val (.long j7), .second, .val (.long j9), .second, .val (.int i11)] [(.int i11)])) (fun t kt => ?_) ?_
  · show Steps p.tables e below (T0.setTop (mkF m 292 #[.val (.int i0), .val (.int i1), .val (.ref o2), .val (.int i3), .val (.int i4), .val (.int i5), .val (.int i6), .val (.long j7), .second, .val (.long j9), .second, .val (.int i11)] [])) _
    refine XS.iload X0.here hx rfl (hb hby at_292) rfl ?_
    exact kt
  obtain ⟨_, _, ⟨T37, L37, k37, n37⟩, -, X37, ⟨Lc37, hQ37, l37, y37, z37⟩, st37⟩ := Jvm.LawKit.callS X0 hx (y := (⟨"com/example/prudent_validator/prudentvalidator/datatypes/XmlNames", "isNameStart", "(I)Z"⟩ : MethodName)) hown (mvT hZ (hw _ (List.mem_of_getElem? (i := 11) rfl))) (mvT hZ (hw _ (List.mem_of_getElem? (i := 12) rfl))) (mvT hZ (hw _ (List.mem_of_getElem? (i := 13) rfl))) (mvT hZ (hw _ (List.mem_of_getElem? (i := 14) rfl))) (by decide) (backOf (W := 0) (rm1 l Z a0 hw [] i11  h0 n0 ) hZ (hw _ (List.mem_of_getElem? (i := 14) rfl)) (hw _ (List.mem_of_getElem? (i := 13) rfl)) (by decide) (by decide)) (g := (mkF m 294 #[.val (.int i0), .val (.int i1), .val (.ref o2), .val (.int i3), .val (.int i4), .val (.int i5), .val (.int i6), .val (.long j7), .second, .val (.long j9), .second, .val (.int i11)] [(.int i11)])) rfl (by rw [hml]; rfl) (argsL := [(.int i11)]) (rest := []) (lenOf pd1 rfl) rfl (by show 2 * 0 + _ ≤ _; exact Nat.le_of_eq rfl) (hb hby at_294) (fun _ _ => ⟨rfl, e0, (by decide : 1 + 0 ≤ _), (by decide : 33 + 0 ≤ _)⟩)
  dsimp only [Pt.U, Pt.locs, Pt.cells, Pt.slots] at X37 l37 y37 z37 st37 hQ37
  subst l37 y37 z37
  obtain ⟨rfl, Nq37, e37⟩ := hQ37
  have N37 := Fr.app N0 Nq37
  refine own_step (T' := T37) (f' := (mkF m 297 #[.val (.int i0), .val (.int i1), .val (.ref o2), .val (.int i3), .val (.int i4), .val (.int i5), .val (.int i6), .val (.long j7), .second, .val (.long j9), .second, .val (.int i11)] [(.int (f1_0 i11))])) st37 ?_
  refine own_step (T' := T37) (f' := (mkF m 299 #[.val (.int i0), .val (.int i1), .val (.ref o2), .val (.int i3), .val (.int i4), .val (.int i5), .val (.int i6), .val (.long j7), .second, .val (.long j9), .second, .val (.int i11)] [(.int i6), (.int (f1_0 i11))])) (fun t kt => ?_) ?_
  · show Steps p.tables e below (T37.setTop (mkF m 297 #[.val (.int i0), .val (.int i1), .val (.ref o2), .val (.int i3), .val (.int i4), .val (.int i5), .val (.int i6), .val (.long j7), .second, .val (.long j9), .second, .val (.int i11)] [(.int (f1_0 i11))])) _
    refine XS.iload X37.here hx rfl (hb hby at_297) rfl ?_
    exact kt
  by_cases hc299_38 : (f1_0 i11) = i6
  · replace hr := hr.trans (if_pos hc299_38)
    refine own_step (T' := T37) (f' := (mkF m 302 #[.val (.int i0), .val (.int i1), .val (.ref o2), .val (.int i3), .val (.int i4), .val (.int i5), .val (.int i6), .val (.long j7), .second, .val (.long j9), .second, .val (.int i11)] [])) (fun t kt => ?_) ?_
    · show Steps p.tables e below (T37.setTop (mkF m 299 #[.val (.int i0), .val (.int i1), .val (.ref o2), .val (.int i3), .val (.int i4), .val (.int i5), .val (.int i6), .val (.long j7), .second, .val (.long j9), .second, .val (.int i11)] [(.int i6), (.int (f1_0 i11))])) _
      refine XS.icmpNo X37.here hx rfl (hb hby at_299) rfl (teq hc299_38).2 kt
    refine own_step (T' := T37) (f' := (mkF m 304 #[.val (.int i0), .val (.int i1), .val (.ref o2), .val (.int i3), .val (.int i4), .val (.int i5), .val (.int i6), .val (.long j7), .second, .val (.long j9), .second, .val (.int i11)] [(.int i4)])) (fun t kt => ?_) ?_
    · show Steps p.tables e below (T37.setTop (mkF m 302 #[.val (.int i0), .val (.int i1), .val (.ref o2), .val (.int i3), .val (.int i4), .val (.int i5), .val (.int i6), .val (.long j7), .second, .val (.long j9), .second, .val (.int i11)] [])) _
      refine XS.iload X37.here hx rfl (hb hby at_302) rfl ?_
      exact kt
    obtain ⟨_, _, ⟨T39, L39, k39, n39⟩, -, X39, ⟨Lc39, hQ39, l39, y39, z39⟩, st39⟩ := Jvm.LawKit.callS X37 hx (y := (⟨"com/example/prudent_validator/prudentvalidator/datatypes/XmlNames", "isNameStart", "(I)Z"⟩ : MethodName)) hown (mvT hZ (hw _ (List.mem_of_getElem? (i := 11) rfl))) (mvT hZ (hw _ (List.mem_of_getElem? (i := 12) rfl))) (mvT hZ (hw _ (List.mem_of_getElem? (i := 13) rfl))) (mvT hZ (hw _ (List.mem_of_getElem? (i := 14) rfl))) (by decide) (backOf (W := 0) (rm1 l Z a0 hw [] i4  h0 n0 ) hZ (hw _ (List.mem_of_getElem? (i := 14) rfl)) (hw _ (List.mem_of_getElem? (i := 13) rfl)) (by decide) (by decide)) (g := (mkF m 304 #[.val (.int i0), .val (.int i1), .val (.ref o2), .val (.int i3), .val (.int i4), .val (.int i5), .val (.int i6), .val (.long j7), .second, .val (.long j9), .second, .val (.int i11)] [(.int i4)])) rfl (by rw [hml]; rfl) (argsL := [(.int i4)]) (rest := []) (lenOf pd1 rfl) rfl (by show 2 * 0 + _ ≤ _; exact Nat.le_of_eq rfl) (hb hby at_304) (fun _ _ => ⟨rfl, e37, (by decide : 1 + 0 ≤ _), (by decide : 33 + 0 ≤ _)⟩)
    dsimp only [Pt.U, Pt.locs, Pt.cells, Pt.slots] at X39 l39 y39 z39 st39 hQ39
    subst l39 y39 z39
    obtain ⟨rfl, Nq39, e39⟩ := hQ39
    have N39 := Fr.app N37 Nq39
    refine own_step (T' := T39) (f' := (mkF m 307 #[.val (.int i0), .val (.int i1), .val (.ref o2), .val (.int i3), .val (.int i4), .val (.int i5), .val (.int i6), .val (.long j7), .second, .val (.long j9), .second, .val (.int i11)] [(.int (f1_0 i4))])) st39 ?_
    refine own_step (T' := T39) (f' := (mkF m 309 #[.val (.int i0), .val (.int i1), .val (.ref o2), .val (.int i3), .val (.int i4), .val (.int i5), .val (.int i6), .val (.long j7), .second, .val (.long j9), .second, .val (.int i11)] [(.int i6), (.int (f1_0 i4))])) (fun t kt => ?_) ?_
    · show Steps p.tables e below (T39.setTop (mkF m 307 #[.val (.int i0), .val (.int i1), .val (.ref o2), .val (.int i3), .val (.int i4), .val (.int i5), .val (.int i6), .val (.long j7), .second, .val (.long j9), .second, .val (.int i11)] [(.int (f1_0 i4))])) _
      refine XS.iload X39.here hx rfl (hb hby at_307) rfl ?_
      exact kt
    by_cases hc309_40 : (f1_0 i4) = i6
    · replace hr := hr.trans (if_pos hc309_40)
      refine own_step (T' := T39) (f' := (mkF m 312 #[.val (.int i0), .val (.int i1), .val (.ref o2), .val (.int i3), .val (.int i4), .val (.int i5), .val (.int i6), .val (.long j7), .second, .val (.long j9), .second, .val (.int i11)] [])) (fun t kt => ?_) ?_
      · show Steps p.tables e below (T39.setTop (mkF m 309 #[.val (.int i0), .val (.int i1), .val (.ref o2), .val (.int i3), .val (.int i4), .val (.int i5), .val (.int i6), .val (.long j7), .second, .val (.long j9), .second, .val (.int i11)] [(.int i6), (.int (f1_0 i4))])) _
        refine XS.icmpNo X39.here hx rfl (hb hby at_309) rfl (teq hc309_40).2 kt
      refine own_step (T' := T39) (f' := (mkF m 314 #[.val (.int i0), .val (.int i1), .val (.ref o2), .val (.int i3), .val (.int i4), .val (.int i5), .val (.int i6), .val (.long j7), .second, .val (.long j9), .second, .val (.int i11)] [(.int i5)])) (fun t kt => ?_) ?_
      · show Steps p.tables e below (T39.setTop (mkF m 312 #[.val (.int i0), .val (.int i1), .val (.ref o2), .val (.int i3), .val (.int i4), .val (.int i5), .val (.int i6), .val (.long j7), .second, .val (.long j9), .second, .val (.int i11)] [])) _
        refine XS.iload X39.here hx rfl (hb hby at_312) rfl ?_
        exact kt
      obtain ⟨_, _, ⟨T41, L41, k41, n41⟩, -, X41, ⟨Lc41, hQ41, l41, y41, z41⟩, st41⟩ := Jvm.LawKit.callS X39 hx (y := (⟨"com/example/prudent_validator/prudentvalidator/datatypes/XmlNames", "isNameStart", "(I)Z"⟩ : MethodName)) hown (mvT hZ (hw _ (List.mem_of_getElem? (i := 11) rfl))) (mvT hZ (hw _ (List.mem_of_getElem? (i := 12) rfl))) (mvT hZ (hw _ (List.mem_of_getElem? (i := 13) rfl))) (mvT hZ (hw _ (List.mem_of_getElem? (i := 14) rfl))) (by decide) (backOf (W := 0) (rm1 l Z a0 hw [] i5  h0 n0 ) hZ (hw _ (List.mem_of_getElem? (i := 14) rfl)) (hw _ (List.mem_of_getElem? (i := 13) rfl)) (by decide) (by decide)) (g := (mkF m 314 #[.val (.int i0), .val (.int i1), .val (.ref o2), .val (.int i3), .val (.int i4), .val (.int i5), .val (.int i6), .val (.long j7), .second, .val (.long j9), .second, .val (.int i11)] [(.int i5)])) rfl (by rw [hml]; rfl) (argsL := [(.int i5)]) (rest := []) (lenOf pd1 rfl) rfl (by show 2 * 0 + _ ≤ _; exact Nat.le_of_eq rfl) (hb hby at_314) (fun _ _ => ⟨rfl, e39, (by decide : 1 + 0 ≤ _), (by decide : 33 + 0 ≤ _)⟩)
      dsimp only [Pt.U, Pt.locs, Pt.cells, Pt.slots] at X41 l41 y41 z41 st41 hQ41
      subst l41 y41 z41
      obtain ⟨rfl, Nq41, e41⟩ := hQ41
      have N41 := Fr.app N39 Nq41
      refine own_step (T' := T41) (f' := (mkF m 317 #[.val (.int i0), .val (.int i1), .val (.ref o2), .val (.int i3), .val (.int i4), .val (.int i5), .val (.int i6), .val (.long j7), .second, .val (.long j9), .second, .val (.int i11)] [(.int (f1_0 i5))])) st41 ?_
      refine own_step (T' := T41) (f' := (mkF m 319 #[.val (.int i0), .val (.int i1), .val (.ref o2), .val (.int i3), .val (.int i4), .val (.int i5), .val (.int i6), .val (.long j7), .second, .val (.long j9), .second, .val (.int i11)] [(.int i6), (.int (f1_0 i5))])) (fun t kt => ?_) ?_
      · show Steps p.tables e below (T41.setTop (mkF m 317 #[.val (.int i0), .val (.int i1), .val (.ref o2), .val (.int i3), .val (.int i4), .val (.int i5), .val (.int i6), .val (.long j7), .second, .val (.long j9), .second, .val (.int i11)] [(.int (f1_0 i5))])) _
        refine XS.iload X41.here hx rfl (hb hby at_317) rfl ?_
        exact kt
      by_cases hc319_42 : (f1_0 i5) = i6
      · replace hr := hr.trans (if_pos hc319_42)
        refine own_step (T' := T41) (f' := (mkF m 322 #[.val (.int i0), .val (.int i1), .val (.ref o2), .val (.int i3), .val (.int i4), .val (.int i5), .val (.int i6), .val (.long j7), .second, .val (.long j9), .second, .val (.int i11)] [])) (fun t kt => ?_) ?_
        · show Steps p.tables e below (T41.setTop (mkF m 319 #[.val (.int i0), .val (.int i1), .val (.ref o2), .val (.int i3), .val (.int i4), .val (.int i5), .val (.int i6), .val (.long j7), .second, .val (.long j9), .second, .val (.int i11)] [(.int i6), (.int (f1_0 i5))])) _
          refine XS.icmpNo X41.here hx rfl (hb hby at_319) rfl (teq hc319_42).2 kt
        refine own_step (T' := T41) (f' := (mkF m 327 #[.val (.int i0), .val (.int i1), .val (.ref o2), .val (.int i3), .val (.int i4), .val (.int i5), .val (.int i6), .val (.long j7), .second, .val (.long j9), .second, .val (.int i11)] [(.int (1 : Int32))])) (fun t kt => ?_) ?_
        · show Steps p.tables e below (T41.setTop (mkF m 322 #[.val (.int i0), .val (.int i1), .val (.ref o2), .val (.int i3), .val (.int i4), .val (.int i5), .val (.int i6), .val (.long j7), .second, .val (.long j9), .second, .val (.int i11)] [])) _
          refine XS.iconst X41.here hx rfl (hb hby at_322) ?_
          show Steps p.tables e below (T41.setTop (mkF m 323 #[.val (.int i0), .val (.int i1), .val (.ref o2), .val (.int i3), .val (.int i4), .val (.int i5), .val (.int i6), .val (.long j7), .second, .val (.long j9), .second, .val (.int i11)] [(.int (1 : Int32))])) _
          refine XS.goto X41.here hx rfl (pc0 := 323) (pc' := 327) rfl (hb hby at_323) (by decide) (by decide) ?_
          exact kt
        exact own_retZ X41 hx hret (by simp) hlk (hb hby at_327) (by decide) (by decide) ⟨congrArg (fun z => some (Value.int z)) hr.symm, N41⟩
      · replace hr := hr.trans (if_neg hc319_42)
        refine own_step (T' := T41) (f' := (mkF m 326 #[.val (.int i0), .val (.int i1), .val (.ref o2), .val (.int i3), .val (.int i4), .val (.int i5), .val (.int i6), .val (.long j7), .second, .val (.long j9), .second, .val (.int i11)] [])) (fun t kt => ?_) ?_
        · show Steps p.tables e below (T41.setTop (mkF m 319 #[.val (.int i0), .val (.int i1), .val (.ref o2), .val (.int i3), .val (.int i4), .val (.int i5), .val (.int i6), .val (.long j7), .second, .val (.long j9), .second, .val (.int i11)] [(.int i6), (.int (f1_0 i5))])) _
          refine XS.icmpYes X41.here hx rfl (pc0 := 319) (pc' := 326) rfl (hb hby at_319) rfl (feq hc319_42).2 (by decide) (by decide) kt
        exact b0_326 i0 i1 o2 i3 i4 i5 i6 j7 j9 i11 X41 hx hZ hw hby hml hown hret hlk e41 N41 Z0 hr
    · replace hr := hr.trans (if_neg hc309_40)
      refine own_step (T' := T39) (f' := (mkF m 326 #[.val (.int i0), .val (.int i1), .val (.ref o2), .val (.int i3), .val (.int i4), .val (.int i5), .val (.int i6), .val (.long j7), .second, .val (.long j9), .second, .val (.int i11)] [])) (fun t kt => ?_) ?_
      · show Steps p.tables e below (T39.setTop (mkF m 309 #[.val (.int i0), .val (.int i1), .val (.ref o2), .val (.int i3), .val (.int i4), .val (.int i5), .val (.int i6), .val (.long j7), .second, .val (.long j9), .second, .val (.int i11)] [(.int i6), (.int (f1_0 i4))])) _
        refine XS.icmpYes X39.here hx rfl (pc0 := 309) (pc' := 326) rfl (hb hby at_309) rfl (feq hc309_40).2 (by decide) (by decide) kt
      exact b0_326 i0 i1 o2 i3 i4 i5 i6 j7 j9 i11 X39 hx hZ hw hby hml hown hret hlk e39 N39 Z0 hr
  · replace hr := hr.trans (if_neg hc299_38)
    refine own_step (T' := T37) (f' := (mkF m 326 #[.val (.int i0), .val (.int i1), .val (.ref o2), .val (.int i3), .val (.int i4), .val (.int i5), .val (.int i6), .val (.long j7), .second, .val (.long j9), .second, .val (.int i11)] [])) (fun t kt => ?_) ?_
    · show Steps p.tables e below (T37.setTop (mkF m 299 #[.val (.int i0), .val (.int i1), .val (.ref o2), .val (.int i3), .val (.int i4), .val (.int i5), .val (.int i6), .val (.long j7), .second, .val (.long j9), .second, .val (.int i11)] [(.int i6), (.int (f1_0 i11))])) _
      refine XS.icmpYes X37.here hx rfl (pc0 := 299) (pc' := 326) rfl (hb hby at_299) rfl (feq hc299_38).2 (by decide) (by decide) kt
    exact b0_326 i0 i1 o2 i3 i4 i5 i6 j7 j9 i11 X37 hx hZ hw hby hml hown hret hlk e37 N37 Z0 hr
def f0_285 (i4 : Int32) (i5 : Int32) (i6 : Int32) (k0 : Int64) : Int32 :=
  f0_292 i4 i5 i6 (k0.toInt32)
set_option maxRecDepth 65536 in
set_option maxHeartbeats 4000000 in
theorem b0_285 {p : Program} {l : Launch} {e : Env} {s : State} {m : MethodId} {args : Array Value} {below : List Frame} {meth : Method} {c : Code} {T0 : State} {locs : List Loc} {Z : State} {a0 : Array Value} {h0 : Heap} {n0 : Nat} (i0 : Int32) (i1 : Int32) (o2 : Addr) (i3 : Int32) (i4 : Int32) (i5 : Int32) (i6 : Int32) (j7 : Int64) (k0 : Int64) {r : Int32} (X0 : Stand p l e room_1 s m args below meth c T0 locs 1 33) (hx : p.tables.exec = Jvm.exec) (hZ : Z.Warmed39 s.vm) (hw : ∀ d ∈ tables_1, d.before a0 Z = true) (hby : c.code = code) (hml : c.maxLocals = 12) (hown : s.vm.findClass "com/example/prudent_validator/prudentvalidator/datatypes/XmlNamesIsNameStartPinLaw" = some m.cls) (hret : meth.sig.returnType = some .boolean) (hlk : meth.locks = false) (e0 : T0.heap = h0) (N0 : Fr n0 locs) (Z0 : n0 ≤ h0.size) (hr : r = f0_285 i4 i5 i6 k0) :
    own_Ends p e below s 16 192 (own_R (.int r) n0) T0 (mkF m 285 #[.val (.int i0), .val (.int i1), .val (.ref o2), .val (.int i3), .val (.int i4), .val (.int i5), .val (.int i6), .val (.long j7), .second, .unset, .unset, .unset] [(.long k0)]) := by
  unfold f0_285 at hr
  refine own_step (T' := T0) (f' := (mkF m 292 #[.val (.int i0), .val (.int i1), .val (.ref o2), .val (.int i3), .val (.int i4), .val (.int i5), .val (.int i6), .val (.long j7), .second, .val (.long k0), .second, .val (.int (k0.toInt32))] [])) (fun t kt => ?_) ?_
  · show Steps p.tables e below (T0.setTop (mkF m 285 #[.val (.int i0), .val (.int i1), .val (.ref o2), .val (.int i3), .val (.int i4), .val (.int i5), .val (.int i6), .val (.long j7), .second, .unset, .unset, .unset] [(.long k0)])) _
    refine XS.lstore X0.here hx rfl (hb hby at_285) rfl (l' := #[.val (.int i0), .val (.int i1), .val (.ref o2), .val (.int i3), .val (.int i4), .val (.int i5), .val (.int i6), .val (.long j7), .second, .val (.long k0), .second, .unset]) rfl ?_
    show Steps p.tables e below (T0.setTop (mkF m 287 #[.val (.int i0), .val (.int i1), .val (.ref o2), .val (.int i3), .val (.int i4), .val (.int i5), .val (.int i6), .val (.long j7), .second, .val (.long k0), .second, .unset] [])) _
    refine XS.lload X0.here hx rfl (hb hby at_287) rfl ?_
    show Steps p.tables e below (T0.setTop (mkF m 289 #[.val (.int i0), .val (.int i1), .val (.ref o2), .val (.int i3), .val (.int i4), .val (.int i5), .val (.int i6), .val (.long j7), .second, .val (.long k0), .second, .unset] [(.long k0)])) _
    refine XS.l2i X0.here hx rfl (hb hby at_289) rfl ?_
    show Steps p.tables e below (T0.setTop (mkF m 290 #[.val (.int i0), .val (.int i1), .val (.ref o2), .val (.int i3), .val (.int i4), .val (.int i5), .val (.int i6), .val (.long j7), .second, .val (.long k0), .second, .unset] [(.int (k0.toInt32))])) _
    refine XS.istore X0.here hx rfl (hb hby at_290) rfl (l' := #[.val (.int i0), .val (.int i1), .val (.ref o2), .val (.int i3), .val (.int i4), .val (.int i5), .val (.int i6), .val (.long j7), .second, .val (.long k0), .second, .val (.int (k0.toInt32))]) rfl ?_
    exact kt
  exact b0_292 i0 i1 o2 i3 i4 i5 i6 j7 k0 (k0.toInt32) X0 hx hZ hw hby hml hown hret hlk e0 N0 Z0 hr
def f0_259 (i1 : Int32) (i4 : Int32) (i5 : Int32) (k0 : Int32) : Int32 :=
  f0_285 i4 i5 k0 ((i4.toInt64) + (((i1.toInt64) &&& (4294967295 : Int64)) - ((i1.toInt64) &&& (4294967295 : Int64)) / (((i5.toInt64) - (i4.toInt64)) + (1 : Int64)) * (((i5.toInt64) - (i4.toInt64)) + (1 : Int64))))
set_option maxRecDepth 65536 in
set_option maxHeartbeats 4000000 in
theorem b0_259 {p : Program} {l : Launch} {e : Env} {s : State} {m : MethodId} {args : Array Value} {below : List Frame} {meth : Method} {c : Code} {T0 : State} {locs : List Loc} {Z : State} {a0 : Array Value} {h0 : Heap} {n0 : Nat} (i0 : Int32) (i1 : Int32) (o2 : Addr) (i3 : Int32) (i4 : Int32) (i5 : Int32) (k0 : Int32) {r : Int32} (X0 : Stand p l e room_1 s m args below meth c T0 locs 1 33) (hx : p.tables.exec = Jvm.exec) (hZ : Z.Warmed39 s.vm) (hw : ∀ d ∈ tables_1, d.before a0 Z = true) (hby : c.code = code) (hml : c.maxLocals = 12) (hown : s.vm.findClass "com/example/prudent_validator/prudentvalidator/datatypes/XmlNamesIsNameStartPinLaw" = some m.cls) (hret : meth.sig.returnType = some .boolean) (hlk : meth.locks = false) (e0 : T0.heap = h0) (N0 : Fr n0 locs) (Z0 : n0 ≤ h0.size) (hne : ¬ (((i5.toInt64) - (i4.toInt64)) + (1 : Int64)) = (0 : Int64)) (hr : r = f0_259 i1 i4 i5 k0) :
    own_Ends p e below s 16 192 (own_R (.int r) n0) T0 (mkF m 259 #[.val (.int i0), .val (.int i1), .val (.ref o2), .val (.int i3), .val (.int i4), .val (.int i5), .unset, .unset, .unset, .unset, .unset, .unset] [(.int k0)]) := by
  unfold f0_259 at hr
  refine own_step (T' := T0) (f' := (mkF m 285 #[.val (.int i0), .val (.int i1), .val (.ref o2), .val (.int i3), .val (.int i4), .val (.int i5), .val (.int k0), .val (.long (((i5.toInt64) - (i4.toInt64)) + (1 : Int64))), .second, .unset, .unset, .unset] [(.long ((i4.toInt64) + (((i1.toInt64) &&& (4294967295 : Int64)) - ((i1.toInt64) &&& (4294967295 : Int64)) / (((i5.toInt64) - (i4.toInt64)) + (1 : Int64)) * (((i5.toInt64) - (i4.toInt64)) + (1 : Int64)))))])) (fun t kt => ?_) ?_
  · show Steps p.tables e below (T0.setTop (mkF m 259 #[.val (.int i0), .val (.int i1), .val (.ref o2), .val (.int i3), .val (.int i4), .val (.int i5), .unset, .unset, .unset, .unset, .unset, .unset] [(.int k0)])) _
    refine XS.istore X0.here hx rfl (hb hby at_259) rfl (l' := #[.val (.int i0), .val (.int i1), .val (.ref o2), .val (.int i3), .val (.int i4), .val (.int i5), .val (.int k0), .unset, .unset, .unset, .unset, .unset]) rfl ?_
    show Steps p.tables e below (T0.setTop (mkF m 261 #[.val (.int i0), .val (.int i1), .val (.ref o2), .val (.int i3), .val (.int i4), .val (.int i5), .val (.int k0), .unset, .unset, .unset, .unset, .unset] [])) _
    refine XS.iload X0.here hx rfl (hb hby at_261) rfl ?_
    show Steps p.tables e below (T0.setTop (mkF m 263 #[.val (.int i0), .val (.int i1), .val (.ref o2), .val (.int i3), .val (.int i4), .val (.int i5), .val (.int k0), .unset, .unset, .unset, .unset, .unset] [(.int i5)])) _
    refine XS.i2l X0.here hx rfl (hb hby at_263) rfl ?_
    show Steps p.tables e below (T0.setTop (mkF m 264 #[.val (.int i0), .val (.int i1), .val (.ref o2), .val (.int i3), .val (.int i4), .val (.int i5), .val (.int k0), .unset, .unset, .unset, .unset, .unset] [(.long (i5.toInt64))])) _
    refine XS.iload X0.here hx rfl (hb hby at_264) rfl ?_
    show Steps p.tables e below (T0.setTop (mkF m 266 #[.val (.int i0), .val (.int i1), .val (.ref o2), .val (.int i3), .val (.int i4), .val (.int i5), .val (.int k0), .unset, .unset, .unset, .unset, .unset] [(.int i4), (.long (i5.toInt64))])) _
    refine XS.i2l X0.here hx rfl (hb hby at_266) rfl ?_
    show Steps p.tables e below (T0.setTop (mkF m 267 #[.val (.int i0), .val (.int i1), .val (.ref o2), .val (.int i3), .val (.int i4), .val (.int i5), .val (.int k0), .unset, .unset, .unset, .unset, .unset] [(.long (i4.toInt64)), (.long (i5.toInt64))])) _
    refine XS.lsub X0.here hx rfl (hb hby at_267) rfl ?_
    show Steps p.tables e below (T0.setTop (mkF m 268 #[.val (.int i0), .val (.int i1), .val (.ref o2), .val (.int i3), .val (.int i4), .val (.int i5), .val (.int k0), .unset, .unset, .unset, .unset, .unset] [(.long ((i5.toInt64) - (i4.toInt64)))])) _
    refine XS.lconst X0.here hx rfl (hb hby at_268) ?_
    show Steps p.tables e below (T0.setTop (mkF m 269 #[.val (.int i0), .val (.int i1), .val (.ref o2), .val (.int i3), .val (.int i4), .val (.int i5), .val (.int k0), .unset, .unset, .unset, .unset, .unset] [(.long (1 : Int64)), (.long ((i5.toInt64) - (i4.toInt64)))])) _
    refine XS.ladd X0.here hx rfl (hb hby at_269) rfl ?_
    show Steps p.tables e below (T0.setTop (mkF m 270 #[.val (.int i0), .val (.int i1), .val (.ref o2), .val (.int i3), .val (.int i4), .val (.int i5), .val (.int k0), .unset, .unset, .unset, .unset, .unset] [(.long (((i5.toInt64) - (i4.toInt64)) + (1 : Int64)))])) _
    refine XS.lstore X0.here hx rfl (hb hby at_270) rfl (l' := #[.val (.int i0), .val (.int i1), .val (.ref o2), .val (.int i3), .val (.int i4), .val (.int i5), .val (.int k0), .val (.long (((i5.toInt64) - (i4.toInt64)) + (1 : Int64))), .second, .unset, .unset, .unset]) rfl ?_
    show Steps p.tables e below (T0.setTop (mkF m 272 #[.val (.int i0), .val (.int i1), .val (.ref o2), .val (.int i3), .val (.int i4), .val (.int i5), .val (.int k0), .val (.long (((i5.toInt64) - (i4.toInt64)) + (1 : Int64))), .second, .unset, .unset, .unset] [])) _
    refine XS.iload X0.here hx rfl (hb hby at_272) rfl ?_
    show Steps p.tables e below (T0.setTop (mkF m 274 #[.val (.int i0), .val (.int i1), .val (.ref o2), .val (.int i3), .val (.int i4), .val (.int i5), .val (.int k0), .val (.long (((i5.toInt64) - (i4.toInt64)) + (1 : Int64))), .second, .unset, .unset, .unset] [(.int i4)])) _
    refine XS.i2l X0.here hx rfl (hb hby at_274) rfl ?_
    show Steps p.tables e below (T0.setTop (mkF m 275 #[.val (.int i0), .val (.int i1), .val (.ref o2), .val (.int i3), .val (.int i4), .val (.int i5), .val (.int k0), .val (.long (((i5.toInt64) - (i4.toInt64)) + (1 : Int64))), .second, .unset, .unset, .unset] [(.long (i4.toInt64))])) _
    refine XS.iloadN X0.here hx rfl (hb hby at_275) rfl ?_
    show Steps p.tables e below (T0.setTop (mkF m 276 #[.val (.int i0), .val (.int i1), .val (.ref o2), .val (.int i3), .val (.int i4), .val (.int i5), .val (.int k0), .val (.long (((i5.toInt64) - (i4.toInt64)) + (1 : Int64))), .second, .unset, .unset, .unset] [(.int i1), (.long (i4.toInt64))])) _
    refine XS.i2l X0.here hx rfl (hb hby at_276) rfl ?_
    show Steps p.tables e below (T0.setTop (mkF m 277 #[.val (.int i0), .val (.int i1), .val (.ref o2), .val (.int i3), .val (.int i4), .val (.int i5), .val (.int k0), .val (.long (((i5.toInt64) - (i4.toInt64)) + (1 : Int64))), .second, .unset, .unset, .unset] [(.long (i1.toInt64)), (.long (i4.toInt64))])) _
    refine X0.ldc2Long hx hown (mvT hZ (hw _ (List.mem_of_getElem? (i := 10) rfl))) (g := (mkF m 277 #[.val (.int i0), .val (.int i1), .val (.ref o2), .val (.int i3), .val (.int i4), .val (.int i5), .val (.int k0), .val (.long (((i5.toInt64) - (i4.toInt64)) + (1 : Int64))), .second, .unset, .unset, .unset] [(.long (i1.toInt64)), (.long (i4.toInt64))])) rfl (hb hby at_277) _ ?_
    show Steps p.tables e below (T0.setTop (mkF m 280 #[.val (.int i0), .val (.int i1), .val (.ref o2), .val (.int i3), .val (.int i4), .val (.int i5), .val (.int k0), .val (.long (((i5.toInt64) - (i4.toInt64)) + (1 : Int64))), .second, .unset, .unset, .unset] [(.long (4294967295 : Int64)), (.long (i1.toInt64)), (.long (i4.toInt64))])) _
    refine XS.land X0.here hx rfl (hb hby at_280) rfl ?_
    show Steps p.tables e below (T0.setTop (mkF m 281 #[.val (.int i0), .val (.int i1), .val (.ref o2), .val (.int i3), .val (.int i4), .val (.int i5), .val (.int k0), .val (.long (((i5.toInt64) - (i4.toInt64)) + (1 : Int64))), .second, .unset, .unset, .unset] [(.long ((i1.toInt64) &&& (4294967295 : Int64))), (.long (i4.toInt64))])) _
    refine XS.lload X0.here hx rfl (hb hby at_281) rfl ?_
    show Steps p.tables e below (T0.setTop (mkF m 283 #[.val (.int i0), .val (.int i1), .val (.ref o2), .val (.int i3), .val (.int i4), .val (.int i5), .val (.int k0), .val (.long (((i5.toInt64) - (i4.toInt64)) + (1 : Int64))), .second, .unset, .unset, .unset] [(.long (((i5.toInt64) - (i4.toInt64)) + (1 : Int64))), (.long ((i1.toInt64) &&& (4294967295 : Int64))), (.long (i4.toInt64))])) _
    refine XS.lrem X0.here hx rfl (hb hby at_283) rfl hne ?_
    show Steps p.tables e below (T0.setTop (mkF m 284 #[.val (.int i0), .val (.int i1), .val (.ref o2), .val (.int i3), .val (.int i4), .val (.int i5), .val (.int k0), .val (.long (((i5.toInt64) - (i4.toInt64)) + (1 : Int64))), .second, .unset, .unset, .unset] [(.long (((i1.toInt64) &&& (4294967295 : Int64)) - ((i1.toInt64) &&& (4294967295 : Int64)) / (((i5.toInt64) - (i4.toInt64)) + (1 : Int64)) * (((i5.toInt64) - (i4.toInt64)) + (1 : Int64)))), (.long (i4.toInt64))])) _
    refine XS.ladd X0.here hx rfl (hb hby at_284) rfl ?_
    exact kt
  exact b0_285 i0 i1 o2 i3 i4 i5 k0 (((i5.toInt64) - (i4.toInt64)) + (1 : Int64)) ((i4.toInt64) + (((i1.toInt64) &&& (4294967295 : Int64)) - ((i1.toInt64) &&& (4294967295 : Int64)) / (((i5.toInt64) - (i4.toInt64)) + (1 : Int64)) * (((i5.toInt64) - (i4.toInt64)) + (1 : Int64)))) X0 hx hZ hw hby hml hown hret hlk e0 N0 Z0 hr
def f0_245 (i1 : Int32) (i3 : Int32) (i4 : Int32) (k0 : Int32) : Int32 :=
  if (i3 &&& (1 : Int32)) = (1 : Int32) then (f0_259 i1 i4 k0 (1 : Int32)) else (f0_259 i1 i4 k0 (0 : Int32))
set_option maxRecDepth 65536 in
set_option maxHeartbeats 4000000 in
theorem b0_245 {p : Program} {l : Launch} {e : Env} {s : State} {m : MethodId} {args : Array Value} {below : List Frame} {meth : Method} {c : Code} {T0 : State} {locs : List Loc} {Z : State} {a0 : Array Value} {h0 : Heap} {n0 : Nat} (i0 : Int32) (i1 : Int32) (o2 : Addr) (i3 : Int32) (i4 : Int32) (k0 : Int32) {r : Int32} (X0 : Stand p l e room_1 s m args below meth c T0 locs 1 33) (hx : p.tables.exec = Jvm.exec) (hZ : Z.Warmed39 s.vm) (hw : ∀ d ∈ tables_1, d.before a0 Z = true) (hby : c.code = code) (hml : c.maxLocals = 12) (hown : s.vm.findClass "com/example/prudent_validator/prudentvalidator/datatypes/XmlNamesIsNameStartPinLaw" = some m.cls) (hret : meth.sig.returnType = some .boolean) (hlk : meth.locks = false) (e0 : T0.heap = h0) (N0 : Fr n0 locs) (Z0 : n0 ≤ h0.size) (hne : ¬ (((k0.toInt64) - (i4.toInt64)) + (1 : Int64)) = (0 : Int64)) (hr : r = f0_245 i1 i3 i4 k0) :
    own_Ends p e below s 16 192 (own_R (.int r) n0) T0 (mkF m 245 #[.val (.int i0), .val (.int i1), .val (.ref o2), .val (.int i3), .val (.int i4), .unset, .unset, .unset, .unset, .unset, .unset, .unset] [(.int k0)]) := by
  unfold f0_245 at hr
  refine own_step (T' := T0) (f' := (mkF m 251 #[.val (.int i0), .val (.int i1), .val (.ref o2), .val (.int i3), .val (.int i4), .val (.int k0), .unset, .unset, .unset, .unset, .unset, .unset] [(.int (1 : Int32)), (.int (i3 &&& (1 : Int32)))])) (fun t kt => ?_) ?_
  · show Steps p.tables e below (T0.setTop (mkF m 245 #[.val (.int i0), .val (.int i1), .val (.ref o2), .val (.int i3), .val (.int i4), .unset, .unset, .unset, .unset, .unset, .unset, .unset] [(.int k0)])) _
    refine XS.istore X0.here hx rfl (hb hby at_245) rfl (l' := #[.val (.int i0), .val (.int i1), .val (.ref o2), .val (.int i3), .val (.int i4), .val (.int k0), .unset, .unset, .unset, .unset, .unset, .unset]) rfl ?_
    show Steps p.tables e below (T0.setTop (mkF m 247 #[.val (.int i0), .val (.int i1), .val (.ref o2), .val (.int i3), .val (.int i4), .val (.int k0), .unset, .unset, .unset, .unset, .unset, .unset] [])) _
    refine XS.iloadN X0.here hx rfl (hb hby at_247) rfl ?_
    show Steps p.tables e below (T0.setTop (mkF m 248 #[.val (.int i0), .val (.int i1), .val (.ref o2), .val (.int i3), .val (.int i4), .val (.int k0), .unset, .unset, .unset, .unset, .unset, .unset] [(.int i3)])) _
    refine XS.iconst X0.here hx rfl (hb hby at_248) ?_
    show Steps p.tables e below (T0.setTop (mkF m 249 #[.val (.int i0), .val (.int i1), .val (.ref o2), .val (.int i3), .val (.int i4), .val (.int k0), .unset, .unset, .unset, .unset, .unset, .unset] [(.int (1 : Int32)), (.int i3)])) _
    refine XS.iand X0.here hx rfl (hb hby at_249) rfl ?_
    show Steps p.tables e below (T0.setTop (mkF m 250 #[.val (.int i0), .val (.int i1), .val (.ref o2), .val (.int i3), .val (.int i4), .val (.int k0), .unset, .unset, .unset, .unset, .unset, .unset] [(.int (i3 &&& (1 : Int32)))])) _
    refine XS.iconst X0.here hx rfl (hb hby at_250) ?_
    exact kt
  by_cases hc251_36 : (i3 &&& (1 : Int32)) = (1 : Int32)
  · replace hr := hr.trans (if_pos hc251_36)
    refine own_step (T' := T0) (f' := (mkF m 254 #[.val (.int i0), .val (.int i1), .val (.ref o2), .val (.int i3), .val (.int i4), .val (.int k0), .unset, .unset, .unset, .unset, .unset, .unset] [])) (fun t kt => ?_) ?_
    · show Steps p.tables e below (T0.setTop (mkF m 251 #[.val (.int i0), .val (.int i1), .val (.ref o2), .val (.int i3), .val (.int i4), .val (.int k0), .unset, .unset, .unset, .unset, .unset, .unset] [(.int (1 : Int32)), (.int (i3 &&& (1 : Int32)))])) _
      refine XS.icmpNo X0.here hx rfl (hb hby at_251) rfl (teq hc251_36).2 kt
    refine own_step (T' := T0) (f' := (mkF m 259 #[.val (.int i0), .val (.int i1), .val (.ref o2), .val (.int i3), .val (.int i4), .val (.int k0), .unset, .unset, .unset, .unset, .unset, .unset] [(.int (1 : Int32))])) (fun t kt => ?_) ?_
    · show Steps p.tables e below (T0.setTop (mkF m 254 #[.val (.int i0), .val (.int i1), .val (.ref o2), .val (.int i3), .val (.int i4), .val (.int k0), .unset, .unset, .unset, .unset, .unset, .unset] [])) _
      refine XS.iconst X0.here hx rfl (hb hby at_254) ?_
      show Steps p.tables e below (T0.setTop (mkF m 255 #[.val (.int i0), .val (.int i1), .val (.ref o2), .val (.int i3), .val (.int i4), .val (.int k0), .unset, .unset, .unset, .unset, .unset, .unset] [(.int (1 : Int32))])) _
      refine XS.goto X0.here hx rfl (pc0 := 255) (pc' := 259) rfl (hb hby at_255) (by decide) (by decide) ?_
      exact kt
    exact b0_259 i0 i1 o2 i3 i4 k0 (1 : Int32) X0 hx hZ hw hby hml hown hret hlk e0 N0 Z0 hne hr
  · replace hr := hr.trans (if_neg hc251_36)
    refine own_step (T' := T0) (f' := (mkF m 258 #[.val (.int i0), .val (.int i1), .val (.ref o2), .val (.int i3), .val (.int i4), .val (.int k0), .unset, .unset, .unset, .unset, .unset, .unset] [])) (fun t kt => ?_) ?_
    · show Steps p.tables e below (T0.setTop (mkF m 251 #[.val (.int i0), .val (.int i1), .val (.ref o2), .val (.int i3), .val (.int i4), .val (.int k0), .unset, .unset, .unset, .unset, .unset, .unset] [(.int (1 : Int32)), (.int (i3 &&& (1 : Int32)))])) _
      refine XS.icmpYes X0.here hx rfl (pc0 := 251) (pc' := 258) rfl (hb hby at_251) rfl (feq hc251_36).2 (by decide) (by decide) kt
    refine own_step (T' := T0) (f' := (mkF m 259 #[.val (.int i0), .val (.int i1), .val (.ref o2), .val (.int i3), .val (.int i4), .val (.int k0), .unset, .unset, .unset, .unset, .unset, .unset] [(.int (0 : Int32))])) (fun t kt => ?_) ?_
    · show Steps p.tables e below (T0.setTop (mkF m 258 #[.val (.int i0), .val (.int i1), .val (.ref o2), .val (.int i3), .val (.int i4), .val (.int k0), .unset, .unset, .unset, .unset, .unset, .unset] [])) _
      refine XS.iconst X0.here hx rfl (hb hby at_258) ?_
      exact kt
    exact b0_259 i0 i1 o2 i3 i4 k0 (0 : Int32) X0 hx hZ hw hby hml hown hret hlk e0 N0 Z0 hne hr
def f0_0 (p0 : Int32) (p1 : Int32) : Int32 :=
  if ((p0 &&& (2147483647 : Int32)) - (p0 &&& (2147483647 : Int32)) / (33 : Int32) * (33 : Int32)) = (32 : Int32) then (f0_245 p1 ((p0 &&& (2147483647 : Int32)) - (p0 &&& (2147483647 : Int32)) / (33 : Int32) * (33 : Int32)) (own_tab ((p0 &&& (2147483647 : Int32)) - (p0 &&& (2147483647 : Int32)) / (33 : Int32) * (33 : Int32))) (2147483647 : Int32)) else (f0_245 p1 ((p0 &&& (2147483647 : Int32)) - (p0 &&& (2147483647 : Int32)) / (33 : Int32) * (33 : Int32)) (own_tab ((p0 &&& (2147483647 : Int32)) - (p0 &&& (2147483647 : Int32)) / (33 : Int32) * (33 : Int32))) ((own_tab (((p0 &&& (2147483647 : Int32)) - (p0 &&& (2147483647 : Int32)) / (33 : Int32) * (33 : Int32)) + (1 : Int32))) - (1 : Int32)))
set_option maxRecDepth 65536 in
set_option maxHeartbeats 4000000 in
theorem b0_0 {p : Program} {l : Launch} {e : Env} {s : State} {m : MethodId} {args : Array Value} {below : List Frame} {meth : Method} {c : Code} {T0 : State} {locs : List Loc} {Z : State} {a0 : Array Value} {h0 : Heap} {n0 : Nat} (p0 : Int32) (p1 : Int32) {r : Int32} (X0 : Stand p l e room_1 s m args below meth c T0 locs 0 0) (hx : p.tables.exec = Jvm.exec) (hZ : Z.Warmed39 s.vm) (hw : ∀ d ∈ tables_1, d.before a0 Z = true) (hby : c.code = code) (hml : c.maxLocals = 12) (hown : s.vm.findClass "com/example/prudent_validator/prudentvalidator/datatypes/XmlNamesIsNameStartPinLaw" = some m.cls) (hret : meth.sig.returnType = some .boolean) (hlk : meth.locks = false) (e0 : T0.heap = h0) (N0 : Fr n0 locs) (Z0 : n0 ≤ h0.size) (hr : r = f0_0 p0 p1) :
    own_Ends p e below s 16 192 (own_R (.int r) n0) T0 (mkF m 0 #[.val (.int p0), .val (.int p1), .unset, .unset, .unset, .unset, .unset, .unset, .unset, .unset, .unset, .unset] []) := by
  unfold f0_0 at hr
  refine own_step (T' := T0) (f' := (mkF m 2 #[.val (.int p0), .val (.int p1), .unset, .unset, .unset, .unset, .unset, .unset, .unset, .unset, .unset, .unset] [(.int (33 : Int32))])) (fun t kt => ?_) ?_
  · show Steps p.tables e below (T0.setTop (mkF m 0 #[.val (.int p0), .val (.int p1), .unset, .unset, .unset, .unset, .unset, .unset, .unset, .unset, .unset, .unset] [])) _
    refine XS.bipush X0.here hx rfl (hb hby at_0) ?_
    exact kt
  obtain ⟨T1, h1, b1, X1, e1, Ex1, gb1, g1, Z1, Aq1, st1⟩ := own_new X0 hx hZ (aty := .int) (hw _ (List.mem_of_getElem? (i := 0) rfl)) e0 (g := (mkF m 2 #[.val (.int p0), .val (.int p1), .unset, .unset, .unset, .unset, .unset, .unset, .unset, .unset, .unset, .unset] [(.int (33 : Int32))])) rfl (hb hby at_2) rfl (by decide) (k := 33) (by decide) (by decide) (by decide) (by decide) Z0
  have Ab1_1 : own_A Z h1 b1 .int [(.int (0 : Int32)), (.int (0 : Int32)), (.int (0 : Int32)), (.int (0 : Int32)), (.int (0 : Int32)), (.int (0 : Int32)), (.int (0 : Int32)), (.int (0 : Int32)), (.int (0 : Int32)), (.int (0 : Int32)), (.int (0 : Int32)), (.int (0 : Int32)), (.int (0 : Int32)), (.int (0 : Int32)), (.int (0 : Int32)), (.int (0 : Int32)), (.int (0 : Int32)), (.int (0 : Int32)), (.int (0 : Int32)), (.int (0 : Int32)), (.int (0 : Int32)), (.int (0 : Int32)), (.int (0 : Int32)), (.int (0 : Int32)), (.int (0 : Int32)), (.int (0 : Int32)), (.int (0 : Int32)), (.int (0 : Int32)), (.int (0 : Int32)), (.int (0 : Int32)), (.int (0 : Int32)), (.int (0 : Int32)), (.int (0 : Int32))] := Aq1
  refine own_step (T' := T1) (f' := (mkF m 4 #[.val (.int p0), .val (.int p1), .unset, .unset, .unset, .unset, .unset, .unset, .unset, .unset, .unset, .unset] [(.ref b1)])) st1 ?_
  refine own_step (T' := T1) (f' := (mkF m 8 #[.val (.int p0), .val (.int p1), .unset, .unset, .unset, .unset, .unset, .unset, .unset, .unset, .unset, .unset] [(.int (-2147483648 : Int32)), (.int (0 : Int32)), (.ref b1), (.ref b1)])) (fun t kt => ?_) ?_
  · show Steps p.tables e below (T1.setTop (mkF m 4 #[.val (.int p0), .val (.int p1), .unset, .unset, .unset, .unset, .unset, .unset, .unset, .unset, .unset, .unset] [(.ref b1)])) _
    refine XS.dup X1.here hx rfl (hb hby at_4) rfl rfl ?_
    show Steps p.tables e below (T1.setTop (mkF m 5 #[.val (.int p0), .val (.int p1), .unset, .unset, .unset, .unset, .unset, .unset, .unset, .unset, .unset, .unset] [(.ref b1), (.ref b1)])) _
    refine XS.iconst X1.here hx rfl (hb hby at_5) ?_
    show Steps p.tables e below (T1.setTop (mkF m 6 #[.val (.int p0), .val (.int p1), .unset, .unset, .unset, .unset, .unset, .unset, .unset, .unset, .unset, .unset] [(.int (0 : Int32)), (.ref b1), (.ref b1)])) _
    refine X1.ldcInt hx hown (mvT hZ (hw _ (List.mem_of_getElem? (i := 1) rfl))) (g := (mkF m 6 #[.val (.int p0), .val (.int p1), .unset, .unset, .unset, .unset, .unset, .unset, .unset, .unset, .unset, .unset] [(.int (0 : Int32)), (.ref b1), (.ref b1)])) rfl (hb hby at_6) _ ?_
    exact kt
  obtain ⟨T2, h2, Lq2, X2, N2, e2, W2, Z2, Aq2, st2⟩ := own_stI X1 hx hZ e1 Ab1_1 (j := (0 : Int32)) (by decide) (k := 0) (by decide) (Nat.le_of_ble_eq_true rfl) N0 g1 Z1 (g := (mkF m 8 #[.val (.int p0), .val (.int p1), .unset, .unset, .unset, .unset, .unset, .unset, .unset, .unset, .unset, .unset] [(.int (-2147483648 : Int32)), (.int (0 : Int32)), (.ref b1), (.ref b1)])) rfl rfl (hb hby at_8)
  have Ab1_2 : own_A Z h2 b1 .int [(.int (-2147483648 : Int32)), (.int (0 : Int32)), (.int (0 : Int32)), (.int (0 : Int32)), (.int (0 : Int32)), (.int (0 : Int32)), (.int (0 : Int32)), (.int (0 : Int32)), (.int (0 : Int32)), (.int (0 : Int32)), (.int (0 : Int32)), (.int (0 : Int32)), (.int (0 : Int32)), (.int (0 : Int32)), (.int (0 : Int32)), (.int (0 : Int32)), (.int (0 : Int32)), (.int (0 : Int32)), (.int (0 : Int32)), (.int (0 : Int32)), (.int (0 : Int32)), (.int (0 : Int32)), (.int (0 : Int32)), (.int (0 : Int32)), (.int (0 : Int32)), (.int (0 : Int32)), (.int (0 : Int32)), (.int (0 : Int32)), (.int (0 : Int32)), (.int (0 : Int32)), (.int (0 : Int32)), (.int (0 : Int32)), (.int (0 : Int32))] := Aq2
  refine own_step (T' := T2) (f' := (mkF m 9 #[.val (.int p0), .val (.int p1), .unset, .unset, .unset, .unset, .unset, .unset, .unset, .unset, .unset, .unset] [(.ref b1)])) st2 ?_
  refine own_step (T' := T2) (f' := (mkF m 13 #[.val (.int p0), .val (.int p1), .unset, .unset, .unset, .unset, .unset, .unset, .unset, .unset, .unset, .unset] [(.int (58 : Int32)), (.int (1 : Int32)), (.ref b1), (.ref b1)])) (fun t kt => ?_) ?_
  · show Steps p.tables e below (T2.setTop (mkF m 9 #[.val (.int p0), .val (.int p1), .unset, .unset, .unset, .unset, .unset, .unset, .unset, .unset, .unset, .unset] [(.ref b1)])) _
    refine XS.dup X2.here hx rfl (hb hby at_9) rfl rfl ?_
    show Steps p.tables e below (T2.setTop (mkF m 10 #[.val (.int p0), .val (.int p1), .unset, .unset, .unset, .unset, .unset, .unset, .unset, .unset, .unset, .unset] [(.ref b1), (.ref b1)])) _
    refine XS.iconst X2.here hx rfl (hb hby at_10) ?_
    show Steps p.tables e below (T2.setTop (mkF m 11 #[.val (.int p0), .val (.int p1), .unset, .unset, .unset, .unset, .unset, .unset, .unset, .unset, .unset, .unset] [(.int (1 : Int32)), (.ref b1), (.ref b1)])) _
    refine XS.bipush X2.here hx rfl (hb hby at_11) ?_
    exact kt
  obtain ⟨T3, h3, Lq3, X3, N3, e3, W3, Z3, Aq3, st3⟩ := own_stI X2 hx hZ e2 Ab1_2 (j := (1 : Int32)) (by decide) (k := 1) (by decide) (Nat.le_of_ble_eq_true rfl) N2 g1 Z2 (g := (mkF m 13 #[.val (.int p0), .val (.int p1), .unset, .unset, .unset, .unset, .unset, .unset, .unset, .unset, .unset, .unset] [(.int (58 : Int32)), (.int (1 : Int32)), (.ref b1), (.ref b1)])) rfl rfl (hb hby at_13)
  have Ab1_3 : own_A Z h3 b1 .int [(.int (-2147483648 : Int32)), (.int (58 : Int32)), (.int (0 : Int32)), (.int (0 : Int32)), (.int (0 : Int32)), (.int (0 : Int32)), (.int (0 : Int32)), (.int (0 : Int32)), (.int (0 : Int32)), (.int (0 : Int32)), (.int (0 : Int32)), (.int (0 : Int32)), (.int (0 : Int32)), (.int (0 : Int32)), (.int (0 : Int32)), (.int (0 : Int32)), (.int (0 : Int32)), (.int (0 : Int32)), (.int (0 : Int32)), (.int (0 : Int32)), (.int (0 : Int32)), (.int (0 : Int32)), (.int (0 : Int32)), (.int (0 : Int32)), (.int (0 : Int32)), (.int (0 : Int32)), (.int (0 : Int32)), (.int (0 : Int32)), (.int (0 : Int32)), (.int (0 : Int32)), (.int (0 : Int32)), (.int (0 : Int32)), (.int (0 : Int32))] := Aq3
  refine own_step (T' := T3) (f' := (mkF m 14 #[.val (.int p0), .val (.int p1), .unset, .unset, .unset, .unset, .unset, .unset, .unset, .unset, .unset, .unset] [(.ref b1)])) st3 ?_
  refine own_step (T' := T3) (f' := (mkF m 18 #[.val (.int p0), .val (.int p1), .unset, .unset, .unset, .unset, .unset, .unset, .unset, .unset, .unset, .unset] [(.int (59 : Int32)), (.int (2 : Int32)), (.ref b1), (.ref b1)])) (fun t kt => ?_) ?_
  · show Steps p.tables e below (T3.setTop (mkF m 14 #[.val (.int p0), .val (.int p1), .unset, .unset, .unset, .unset, .unset, .unset, .unset, .unset, .unset, .unset] [(.ref b1)])) _
    refine XS.dup X3.here hx rfl (hb hby at_14) rfl rfl ?_
    show Steps p.tables e below (T3.setTop (mkF m 15 #[.val (.int p0), .val (.int p1), .unset, .unset, .unset, .unset, .unset, .unset, .unset, .unset, .unset, .unset] [(.ref b1), (.ref b1)])) _
    refine XS.iconst X3.here hx rfl (hb hby at_15) ?_
    show Steps p.tables e below (T3.setTop (mkF m 16 #[.val (.int p0), .val (.int p1), .unset, .unset, .unset, .unset, .unset, .unset, .unset, .unset, .unset, .unset] [(.int (2 : Int32)), (.ref b1), (.ref b1)])) _
    refine XS.bipush X3.here hx rfl (hb hby at_16) ?_
    exact kt
  obtain ⟨T4, h4, Lq4, X4, N4, e4, W4, Z4, Aq4, st4⟩ := own_stI X3 hx hZ e3 Ab1_3 (j := (2 : Int32)) (by decide) (k := 2) (by decide) (Nat.le_of_ble_eq_true rfl) N3 g1 Z3 (g := (mkF m 18 #[.val (.int p0), .val (.int p1), .unset, .unset, .unset, .unset, .unset, .unset, .unset, .unset, .unset, .unset] [(.int (59 : Int32)), (.int (2 : Int32)), (.ref b1), (.ref b1)])) rfl rfl (hb hby at_18)
  have Ab1_4 : own_A Z h4 b1 .int [(.int (-2147483648 : Int32)), (.int (58 : Int32)), (.int (59 : Int32)), (.int (0 : Int32)), (.int (0 : Int32)), (.int (0 : Int32)), (.int (0 : Int32)), (.int (0 : Int32)), (.int (0 : Int32)), (.int (0 : Int32)), (.int (0 : Int32)), (.int (0 : Int32)), (.int (0 : Int32)), (.int (0 : Int32)), (.int (0 : Int32)), (.int (0 : Int32)), (.int (0 : Int32)), (.int (0 : Int32)), (.int (0 : Int32)), (.int (0 : Int32)), (.int (0 : Int32)), (.int (0 : Int32)), (.int (0 : Int32)), (.int (0 : Int32)), (.int (0 : Int32)), (.int (0 : Int32)), (.int (0 : Int32)), (.int (0 : Int32)), (.int (0 : Int32)), (.int (0 : Int32)), (.int (0 : Int32)), (.int (0 : Int32)), (.int (0 : Int32))] := Aq4
  refine own_step (T' := T4) (f' := (mkF m 19 #[.val (.int p0), .val (.int p1), .unset, .unset, .unset, .unset, .unset, .unset, .unset, .unset, .unset, .unset] [(.ref b1)])) st4 ?_
  refine own_step (T' := T4) (f' := (mkF m 23 #[.val (.int p0), .val (.int p1), .unset, .unset, .unset, .unset, .unset, .unset, .unset, .unset, .unset, .unset] [(.int (65 : Int32)), (.int (3 : Int32)), (.ref b1), (.ref b1)])) (fun t kt => ?_) ?_
  · show Steps p.tables e below (T4.setTop (mkF m 19 #[.val (.int p0), .val (.int p1), .unset, .unset, .unset, .unset, .unset, .unset, .unset, .unset, .unset, .unset] [(.ref b1)])) _
    refine XS.dup X4.here hx rfl (hb hby at_19) rfl rfl ?_
    show Steps p.tables e below (T4.setTop (mkF m 20 #[.val (.int p0), .val (.int p1), .unset, .unset, .unset, .unset, .unset, .unset, .unset, .unset, .unset, .unset] [(.ref b1), (.ref b1)])) _
    refine XS.iconst X4.here hx rfl (hb hby at_20) ?_
    show Steps p.tables e below (T4.setTop (mkF m 21 #[.val (.int p0), .val (.int p1), .unset, .unset, .unset, .unset, .unset, .unset, .unset, .unset, .unset, .unset] [(.int (3 : Int32)), (.ref b1), (.ref b1)])) _
    refine XS.bipush X4.here hx rfl (hb hby at_21) ?_
    exact kt
  obtain ⟨T5, h5, Lq5, X5, N5, e5, W5, Z5, Aq5, st5⟩ := own_stI X4 hx hZ e4 Ab1_4 (j := (3 : Int32)) (by decide) (k := 3) (by decide) (Nat.le_of_ble_eq_true rfl) N4 g1 Z4 (g := (mkF m 23 #[.val (.int p0), .val (.int p1), .unset, .unset, .unset, .unset, .unset, .unset, .unset, .unset, .unset, .unset] [(.int (65 : Int32)), (.int (3 : Int32)), (.ref b1), (.ref b1)])) rfl rfl (hb hby at_23)
  have Ab1_5 : own_A Z h5 b1 .int [(.int (-2147483648 : Int32)), (.int (58 : Int32)), (.int (59 : Int32)), (.int (65 : Int32)), (.int (0 : Int32)), (.int (0 : Int32)), (.int (0 : Int32)), (.int (0 : Int32)), (.int (0 : Int32)), (.int (0 : Int32)), (.int (0 : Int32)), (.int (0 : Int32)), (.int (0 : Int32)), (.int (0 : Int32)), (.int (0 : Int32)), (.int (0 : Int32)), (.int (0 : Int32)), (.int (0 : Int32)), (.int (0 : Int32)), (.int (0 : Int32)), (.int (0 : Int32)), (.int (0 : Int32)), (.int (0 : Int32)), (.int (0 : Int32)), (.int (0 : Int32)), (.int (0 : Int32)), (.int (0 : Int32)), (.int (0 : Int32)), (.int (0 : Int32)), (.int (0 : Int32)), (.int (0 : Int32)), (.int (0 : Int32)), (.int (0 : Int32))] := Aq5
  refine own_step (T' := T5) (f' := (mkF m 24 #[.val (.int p0), .val (.int p1), .unset, .unset, .unset, .unset, .unset, .unset, .unset, .unset, .unset, .unset] [(.ref b1)])) st5 ?_
  refine own_step (T' := T5) (f' := (mkF m 28 #[.val (.int p0), .val (.int p1), .unset, .unset, .unset, .unset, .unset, .unset, .unset, .unset, .unset, .unset] [(.int (91 : Int32)), (.int (4 : Int32)), (.ref b1), (.ref b1)])) (fun t kt => ?_) ?_
  · show Steps p.tables e below (T5.setTop (mkF m 24 #[.val (.int p0), .val (.int p1), .unset, .unset, .unset, .unset, .unset, .unset, .unset, .unset, .unset, .unset] [(.ref b1)])) _
    refine XS.dup X5.here hx rfl (hb hby at_24) rfl rfl ?_
    show Steps p.tables e below (T5.setTop (mkF m 25 #[.val (.int p0), .val (.int p1), .unset, .unset, .unset, .unset, .unset, .unset, .unset, .unset, .unset, .unset] [(.ref b1), (.ref b1)])) _
    refine XS.iconst X5.here hx rfl (hb hby at_25) ?_
    show Steps p.tables e below (T5.setTop (mkF m 26 #[.val (.int p0), .val (.int p1), .unset, .unset, .unset, .unset, .unset, .unset, .unset, .unset, .unset, .unset] [(.int (4 : Int32)), (.ref b1), (.ref b1)])) _
    refine XS.bipush X5.here hx rfl (hb hby at_26) ?_
    exact kt
  obtain ⟨T6, h6, Lq6, X6, N6, e6, W6, Z6, Aq6, st6⟩ := own_stI X5 hx hZ e5 Ab1_5 (j := (4 : Int32)) (by decide) (k := 4) (by decide) (Nat.le_of_ble_eq_true rfl) N5 g1 Z5 (g := (mkF m 28 #[.val (.int p0), .val (.int p1), .unset, .unset, .unset, .unset, .unset, .unset, .unset, .unset, .unset, .unset] [(.int (91 : Int32)), (.int (4 : Int32)), (.ref b1), (.ref b1)])) rfl rfl (hb hby at_28)
  have Ab1_6 : own_A Z h6 b1 .int [(.int (-2147483648 : Int32)), (.int (58 : Int32)), (.int (59 : Int32)), (.int (65 : Int32)), (.int (91 : Int32)), (.int (0 : Int32)), (.int (0 : Int32)), (.int (0 : Int32)), (.int (0 : Int32)), (.int (0 : Int32)), (.int (0 : Int32)), (.int (0 : Int32)), (.int (0 : Int32)), (.int (0 : Int32)), (.int (0 : Int32)), (.int (0 : Int32)), (.int (0 : Int32)), (.int (0 : Int32)), (.int (0 : Int32)), (.int (0 : Int32)), (.int (0 : Int32)), (.int (0 : Int32)), (.int (0 : Int32)), (.int (0 : Int32)), (.int (0 : Int32)), (.int (0 : Int32)), (.int (0 : Int32)), (.int (0 : Int32)), (.int (0 : Int32)), (.int (0 : Int32)), (.int (0 : Int32)), (.int (0 : Int32)), (.int (0 : Int32))] := Aq6
  refine own_step (T' := T6) (f' := (mkF m 29 #[.val (.int p0), .val (.int p1), .unset, .unset, .unset, .unset, .unset, .unset, .unset, .unset, .unset, .unset] [(.ref b1)])) st6 ?_
  refine own_step (T' := T6) (f' := (mkF m 33 #[.val (.int p0), .val (.int p1), .unset, .unset, .unset, .unset, .unset, .unset, .unset, .unset, .unset, .unset] [(.int (95 : Int32)), (.int (5 : Int32)), (.ref b1), (.ref b1)])) (fun t kt => ?_) ?_
  · show Steps p.tables e below (T6.setTop (mkF m 29 #[.val (.int p0), .val (.int p1), .unset, .unset, .unset, .unset, .unset, .unset, .unset, .unset, .unset, .unset] [(.ref b1)])) _
    refine XS.dup X6.here hx rfl (hb hby at_29) rfl rfl ?_
    show Steps p.tables e below (T6.setTop (mkF m 30 #[.val (.int p0), .val (.int p1), .unset, .unset, .unset, .unset, .unset, .unset, .unset, .unset, .unset, .unset] [(.ref b1), (.ref b1)])) _
    refine XS.iconst X6.here hx rfl (hb hby at_30) ?_
    show Steps p.tables e below (T6.setTop (mkF m 31 #[.val (.int p0), .val (.int p1), .unset, .unset, .unset, .unset, .unset, .unset, .unset, .unset, .unset, .unset] [(.int (5 : Int32)), (.ref b1), (.ref b1)])) _
    refine XS.bipush X6.here hx rfl (hb hby at_31) ?_
    exact kt
  obtain ⟨T7, h7, Lq7, X7, N7, e7, W7, Z7, Aq7, st7⟩ := own_stI X6 hx hZ e6 Ab1_6 (j := (5 : Int32)) (by decide) (k := 5) (by decide) (Nat.le_of_ble_eq_true rfl) N6 g1 Z6 (g := (mkF m 33 #[.val (.int p0), .val (.int p1), .unset, .unset, .unset, .unset, .unset, .unset, .unset, .unset, .unset, .unset] [(.int (95 : Int32)), (.int (5 : Int32)), (.ref b1), (.ref b1)])) rfl rfl (hb hby at_33)
  have Ab1_7 : own_A Z h7 b1 .int [(.int (-2147483648 : Int32)), (.int (58 : Int32)), (.int (59 : Int32)), (.int (65 : Int32)), (.int (91 : Int32)), (.int (95 : Int32)), (.int (0 : Int32)), (.int (0 : Int32)), (.int (0 : Int32)), (.int (0 : Int32)), (.int (0 : Int32)), (.int (0 : Int32)), (.int (0 : Int32)), (.int (0 : Int32)), (.int (0 : Int32)), (.int (0 : Int32)), (.int (0 : Int32)), (.int (0 : Int32)), (.int (0 : Int32)), (.int (0 : Int32)), (.int (0 : Int32)), (.int (0 : Int32)), (.int (0 : Int32)), (.int (0 : Int32)), (.int (0 : Int32)), (.int (0 : Int32)), (.int (0 : Int32)), (.int (0 : Int32)), (.int (0 : Int32)), (.int (0 : Int32)), (.int (0 : Int32)), (.int (0 : Int32)), (.int (0 : Int32))] := Aq7
  refine own_step (T' := T7) (f' := (mkF m 34 #[.val (.int p0), .val (.int p1), .unset, .unset, .unset, .unset, .unset, .unset, .unset, .unset, .unset, .unset] [(.ref b1)])) st7 ?_
  refine own_step (T' := T7) (f' := (mkF m 39 #[.val (.int p0), .val (.int p1), .unset, .unset, .unset, .unset, .unset, .unset, .unset, .unset, .unset, .unset] [(.int (96 : Int32)), (.int (6 : Int32)), (.ref b1), (.ref b1)])) (fun t kt => ?_) ?_
  · show Steps p.tables e below (T7.setTop (mkF m 34 #[.val (.int p0), .val (.int p1), .unset, .unset, .unset, .unset, .unset, .unset, .unset, .unset, .unset, .unset] [(.ref b1)])) _
    refine XS.dup X7.here hx rfl (hb hby at_34) rfl rfl ?_
    show Steps p.tables e below (T7.setTop (mkF m 35 #[.val (.int p0), .val (.int p1), .unset, .unset, .unset, .unset, .unset, .unset, .unset, .unset, .unset, .unset] [(.ref b1), (.ref b1)])) _
    refine XS.bipush X7.here hx rfl (hb hby at_35) ?_
    show Steps p.tables e below (T7.setTop (mkF m 37 #[.val (.int p0), .val (.int p1), .unset, .unset, .unset, .unset, .unset, .unset, .unset, .unset, .unset, .unset] [(.int (6 : Int32)), (.ref b1), (.ref b1)])) _
    refine XS.bipush X7.here hx rfl (hb hby at_37) ?_
    exact kt
  obtain ⟨T8, h8, Lq8, X8, N8, e8, W8, Z8, Aq8, st8⟩ := own_stI X7 hx hZ e7 Ab1_7 (j := (6 : Int32)) (by decide) (k := 6) (by decide) (Nat.le_of_ble_eq_true rfl) N7 g1 Z7 (g := (mkF m 39 #[.val (.int p0), .val (.int p1), .unset, .unset, .unset, .unset, .unset, .unset, .unset, .unset, .unset, .unset] [(.int (96 : Int32)), (.int (6 : Int32)), (.ref b1), (.ref b1)])) rfl rfl (hb hby at_39)
  have Ab1_8 : own_A Z h8 b1 .int [(.int (-2147483648 : Int32)), (.int (58 : Int32)), (.int (59 : Int32)), (.int (65 : Int32)), (.int (91 : Int32)), (.int (95 : Int32)), (.int (96 : Int32)), (.int (0 : Int32)), (.int (0 : Int32)), (.int (0 : Int32)), (.int (0 : Int32)), (.int (0 : Int32)), (.int (0 : Int32)), (.int (0 : Int32)), (.int (0 : Int32)), (.int (0 : Int32)), (.int (0 : Int32)), (.int (0 : Int32)), (.int (0 : Int32)), (.int (0 : Int32)), (.int (0 : Int32)), (.int (0 : Int32)), (.int (0 : Int32)), (.int (0 : Int32)), (.int (0 : Int32)), (.int (0 : Int32)), (.int (0 : Int32)), (.int (0 : Int32)), (.int (0 : Int32)), (.int (0 : Int32)), (.int (0 : Int32)), (.int (0 : Int32)), (.int (0 : Int32))] := Aq8
  refine own_step (T' := T8) (f' := (mkF m 40 #[.val (.int p0), .val (.int p1), .unset, .unset, .unset, .unset, .unset, .unset, .unset, .unset, .unset, .unset] [(.ref b1)])) st8 ?_
  refine own_step (T' := T8) (f' := (mkF m 45 #[.val (.int p0), .val (.int p1), .unset, .unset, .unset, .unset, .unset, .unset, .unset, .unset, .unset, .unset] [(.int (97 : Int32)), (.int (7 : Int32)), (.ref b1), (.ref b1)])) (fun t kt => ?_) ?_
  · show Steps p.tables e below (T8.setTop (mkF m 40 #[.val (.int p0), .val (.int p1), .unset, .unset, .unset, .unset, .unset, .unset, .unset, .unset, .unset, .unset] [(.ref b1)])) _
    refine XS.dup X8.here hx rfl (hb hby at_40) rfl rfl ?_
    show Steps p.tables e below (T8.setTop (mkF m 41 #[.val (.int p0), .val (.int p1), .unset, .unset, .unset, .unset, .unset, .unset, .unset, .unset, .unset, .unset] [(.ref b1), (.ref b1)])) _
    refine XS.bipush X8.here hx rfl (hb hby at_41) ?_
    show Steps p.tables e below (T8.setTop (mkF m 43 #[.val (.int p0), .val (.int p1), .unset, .unset, .unset, .unset, .unset, .unset, .unset, .unset, .unset, .unset] [(.int (7 : Int32)), (.ref b1), (.ref b1)])) _
    refine XS.bipush X8.here hx rfl (hb hby at_43) ?_
    exact kt
  obtain ⟨T9, h9, Lq9, X9, N9, e9, W9, Z9, Aq9, st9⟩ := own_stI X8 hx hZ e8 Ab1_8 (j := (7 : Int32)) (by decide) (k := 7) (by decide) (Nat.le_of_ble_eq_true rfl) N8 g1 Z8 (g := (mkF m 45 #[.val (.int p0), .val (.int p1), .unset, .unset, .unset, .unset, .unset, .unset, .unset, .unset, .unset, .unset] [(.int (97 : Int32)), (.int (7 : Int32)), (.ref b1), (.ref b1)])) rfl rfl (hb hby at_45)
  have Ab1_9 : own_A Z h9 b1 .int [(.int (-2147483648 : Int32)), (.int (58 : Int32)), (.int (59 : Int32)), (.int (65 : Int32)), (.int (91 : Int32)), (.int (95 : Int32)), (.int (96 : Int32)), (.int (97 : Int32)), (.int (0 : Int32)), (.int (0 : Int32)), (.int (0 : Int32)), (.int (0 : Int32)), (.int (0 : Int32)), (.int (0 : Int32)), (.int (0 : Int32)), (.int (0 : Int32)), (.int (0 : Int32)), (.int (0 : Int32)), (.int (0 : Int32)), (.int (0 : Int32)), (.int (0 : Int32)), (.int (0 : Int32)), (.int (0 : Int32)), (.int (0 : Int32)), (.int (0 : Int32)), (.int (0 : Int32)), (.int (0 : Int32)), (.int (0 : Int32)), (.int (0 : Int32)), (.int (0 : Int32)), (.int (0 : Int32)), (.int (0 : Int32)), (.int (0 : Int32))] := Aq9
  refine own_step (T' := T9) (f' := (mkF m 46 #[.val (.int p0), .val (.int p1), .unset, .unset, .unset, .unset, .unset, .unset, .unset, .unset, .unset, .unset] [(.ref b1)])) st9 ?_
  refine own_step (T' := T9) (f' := (mkF m 51 #[.val (.int p0), .val (.int p1), .unset, .unset, .unset, .unset, .unset, .unset, .unset, .unset, .unset, .unset] [(.int (123 : Int32)), (.int (8 : Int32)), (.ref b1), (.ref b1)])) (fun t kt => ?_) ?_
  · show Steps p.tables e below (T9.setTop (mkF m 46 #[.val (.int p0), .val (.int p1), .unset, .unset, .unset, .unset, .unset, .unset, .unset, .unset, .unset, .unset] [(.ref b1)])) _
    refine XS.dup X9.here hx rfl (hb hby at_46) rfl rfl ?_
    show Steps p.tables e below (T9.setTop (mkF m 47 #[.val (.int p0), .val (.int p1), .unset, .unset, .unset, .unset, .unset, .unset, .unset, .unset, .unset, .unset] [(.ref b1), (.ref b1)])) _
    refine XS.bipush X9.here hx rfl (hb hby at_47) ?_
    show Steps p.tables e below (T9.setTop (mkF m 49 #[.val (.int p0), .val (.int p1), .unset, .unset, .unset, .unset, .unset, .unset, .unset, .unset, .unset, .unset] [(.int (8 : Int32)), (.ref b1), (.ref b1)])) _
    refine XS.bipush X9.here hx rfl (hb hby at_49) ?_
    exact kt
  obtain ⟨T10, h10, Lq10, X10, N10, e10, W10, Z10, Aq10, st10⟩ := own_stI X9 hx hZ e9 Ab1_9 (j := (8 : Int32)) (by decide) (k := 8) (by decide) (Nat.le_of_ble_eq_true rfl) N9 g1 Z9 (g := (mkF m 51 #[.val (.int p0), .val (.int p1), .unset, .unset, .unset, .unset, .unset, .unset, .unset, .unset, .unset, .unset] [(.int (123 : Int32)), (.int (8 : Int32)), (.ref b1), (.ref b1)])) rfl rfl (hb hby at_51)
  have Ab1_10 : own_A Z h10 b1 .int [(.int (-2147483648 : Int32)), (.int (58 : Int32)), (.int (59 : Int32)), (.int (65 : Int32)), (.int (91 : Int32)), (.int (95 : Int32)), (.int (96 : Int32)), (.int (97 : Int32)), (.int (123 : Int32)), (.int (0 : Int32)), (.int (0 : Int32)), (.int (0 : Int32)), (.int (0 : Int32)), (.int (0 : Int32)), (.int (0 : Int32)), (.int (0 : Int32)), (.int (0 : Int32)), (.int (0 : Int32)), (.int (0 : Int32)), (.int (0 : Int32)), (.int (0 : Int32)), (.int (0 : Int32)), (.int (0 : Int32)), (.int (0 : Int32)), (.int (0 : Int32)), (.int (0 : Int32)), (.int (0 : Int32)), (.int (0 : Int32)), (.int (0 : Int32)), (.int (0 : Int32)), (.int (0 : Int32)), (.int (0 : Int32)), (.int (0 : Int32))] := Aq10
  refine own_step (T' := T10) (f' := (mkF m 52 #[.val (.int p0), .val (.int p1), .unset, .unset, .unset, .unset, .unset, .unset, .unset, .unset, .unset, .unset] [(.ref b1)])) st10 ?_
  refine own_step (T' := T10) (f' := (mkF m 58 #[.val (.int p0), .val (.int p1), .unset, .unset, .unset, .unset, .unset, .unset, .unset, .unset, .unset, .unset] [(.int (192 : Int32)), (.int (9 : Int32)), (.ref b1), (.ref b1)])) (fun t kt => ?_) ?_
  · show Steps p.tables e below (T10.setTop (mkF m 52 #[.val (.int p0), .val (.int p1), .unset, .unset, .unset, .unset, .unset, .unset, .unset, .unset, .unset, .unset] [(.ref b1)])) _
    refine XS.dup X10.here hx rfl (hb hby at_52) rfl rfl ?_
    show Steps p.tables e below (T10.setTop (mkF m 53 #[.val (.int p0), .val (.int p1), .unset, .unset, .unset, .unset, .unset, .unset, .unset, .unset, .unset, .unset] [(.ref b1), (.ref b1)])) _
    refine XS.bipush X10.here hx rfl (hb hby at_53) ?_
    show Steps p.tables e below (T10.setTop (mkF m 55 #[.val (.int p0), .val (.int p1), .unset, .unset, .unset, .unset, .unset, .unset, .unset, .unset, .unset, .unset] [(.int (9 : Int32)), (.ref b1), (.ref b1)])) _
    refine XS.sipush X10.here hx rfl (hb hby at_55) ?_
    exact kt
  obtain ⟨T11, h11, Lq11, X11, N11, e11, W11, Z11, Aq11, st11⟩ := own_stI X10 hx hZ e10 Ab1_10 (j := (9 : Int32)) (by decide) (k := 9) (by decide) (Nat.le_of_ble_eq_true rfl) N10 g1 Z10 (g := (mkF m 58 #[.val (.int p0), .val (.int p1), .unset, .unset, .unset, .unset, .unset, .unset, .unset, .unset, .unset, .unset] [(.int (192 : Int32)), (.int (9 : Int32)), (.ref b1), (.ref b1)])) rfl rfl (hb hby at_58)
  have Ab1_11 : own_A Z h11 b1 .int [(.int (-2147483648 : Int32)), (.int (58 : Int32)), (.int (59 : Int32)), (.int (65 : Int32)), (.int (91 : Int32)), (.int (95 : Int32)), (.int (96 : Int32)), (.int (97 : Int32)), (.int (123 : Int32)), (.int (192 : Int32)), (.int (0 : Int32)), (.int (0 : Int32)), (.int (0 : Int32)), (.int (0 : Int32)), (.int (0 : Int32)), (.int (0 : Int32)), (.int (0 : Int32)), (.int (0 : Int32)), (.int (0 : Int32)), (.int (0 : Int32)), (.int (0 : Int32)), (.int (0 : Int32)), (.int (0 : Int32)), (.int (0 : Int32)), (.int (0 : Int32)), (.int (0 : Int32)), (.int (0 : Int32)), (.int (0 : Int32)), (.int (0 : Int32)), (.int (0 : Int32)), (.int (0 : Int32)), (.int (0 : Int32)), (.int (0 : Int32))] := Aq11
  refine own_step (T' := T11) (f' := (mkF m 59 #[.val (.int p0), .val (.int p1), .unset, .unset, .unset, .unset, .unset, .unset, .unset, .unset, .unset, .unset] [(.ref b1)])) st11 ?_
  refine own_step (T' := T11) (f' := (mkF m 65 #[.val (.int p0), .val (.int p1), .unset, .unset, .unset, .unset, .unset, .unset, .unset, .unset, .unset, .unset] [(.int (215 : Int32)), (.int (10 : Int32)), (.ref b1), (.ref b1)])) (fun t kt => ?_) ?_
  · show Steps p.tables e below (T11.setTop (mkF m 59 #[.val (.int p0), .val (.int p1), .unset, .unset, .unset, .unset, .unset, .unset, .unset, .unset, .unset, .unset] [(.ref b1)])) _
    refine XS.dup X11.here hx rfl (hb hby at_59) rfl rfl ?_
    show Steps p.tables e below (T11.setTop (mkF m 60 #[.val (.int p0), .val (.int p1), .unset, .unset, .unset, .unset, .unset, .unset, .unset, .unset, .unset, .unset] [(.ref b1), (.ref b1)])) _
    refine XS.bipush X11.here hx rfl (hb hby at_60) ?_
    show Steps p.tables e below (T11.setTop (mkF m 62 #[.val (.int p0), .val (.int p1), .unset, .unset, .unset, .unset, .unset, .unset, .unset, .unset, .unset, .unset] [(.int (10 : Int32)), (.ref b1), (.ref b1)])) _
    refine XS.sipush X11.here hx rfl (hb hby at_62) ?_
    exact kt
  obtain ⟨T12, h12, Lq12, X12, N12, e12, W12, Z12, Aq12, st12⟩ := own_stI X11 hx hZ e11 Ab1_11 (j := (10 : Int32)) (by decide) (k := 10) (by decide) (Nat.le_of_ble_eq_true rfl) N11 g1 Z11 (g := (mkF m 65 #[.val (.int p0), .val (.int p1), .unset, .unset, .unset, .unset, .unset, .unset, .unset, .unset, .unset, .unset] [(.int (215 : Int32)), (.int (10 : Int32)), (.ref b1), (.ref b1)])) rfl rfl (hb hby at_65)
  have Ab1_12 : own_A Z h12 b1 .int [(.int (-2147483648 : Int32)), (.int (58 : Int32)), (.int (59 : Int32)), (.int (65 : Int32)), (.int (91 : Int32)), (.int (95 : Int32)), (.int (96 : Int32)), (.int (97 : Int32)), (.int (123 : Int32)), (.int (192 : Int32)), (.int (215 : Int32)), (.int (0 : Int32)), (.int (0 : Int32)), (.int (0 : Int32)), (.int (0 : Int32)), (.int (0 : Int32)), (.int (0 : Int32)), (.int (0 : Int32)), (.int (0 : Int32)), (.int (0 : Int32)), (.int (0 : Int32)), (.int (0 : Int32)), (.int (0 : Int32)), (.int (0 : Int32)), (.int (0 : Int32)), (.int (0 : Int32)), (.int (0 : Int32)), (.int (0 : Int32)), (.int (0 : Int32)), (.int (0 : Int32)), (.int (0 : Int32)), (.int (0 : Int32)), (.int (0 : Int32))] := Aq12
  refine own_step (T' := T12) (f' := (mkF m 66 #[.val (.int p0), .val (.int p1), .unset, .unset, .unset, .unset, .unset, .unset, .unset, .unset, .unset, .unset] [(.ref b1)])) st12 ?_
  refine own_step (T' := T12) (f' := (mkF m 72 #[.val (.int p0), .val (.int p1), .unset, .unset, .unset, .unset, .unset, .unset, .unset, .unset, .unset, .unset] [(.int (216 : Int32)), (.int (11 : Int32)), (.ref b1), (.ref b1)])) (fun t kt => ?_) ?_
  · show Steps p.tables e below (T12.setTop (mkF m 66 #[.val (.int p0), .val (.int p1), .unset, .unset, .unset, .unset, .unset, .unset, .unset, .unset, .unset, .unset] [(.ref b1)])) _
    refine XS.dup X12.here hx rfl (hb hby at_66) rfl rfl ?_
    show Steps p.tables e below (T12.setTop (mkF m 67 #[.val (.int p0), .val (.int p1), .unset, .unset, .unset, .unset, .unset, .unset, .unset, .unset, .unset, .unset] [(.ref b1), (.ref b1)])) _
    refine XS.bipush X12.here hx rfl (hb hby at_67) ?_
    show Steps p.tables e below (T12.setTop (mkF m 69 #[.val (.int p0), .val (.int p1), .unset, .unset, .unset, .unset, .unset, .unset, .unset, .unset, .unset, .unset] [(.int (11 : Int32)), (.ref b1), (.ref b1)])) _
    refine XS.sipush X12.here hx rfl (hb hby at_69) ?_
    exact kt
  obtain ⟨T13, h13, Lq13, X13, N13, e13, W13, Z13, Aq13, st13⟩ := own_stI X12 hx hZ e12 Ab1_12 (j := (11 : Int32)) (by decide) (k := 11) (by decide) (Nat.le_of_ble_eq_true rfl) N12 g1 Z12 (g := (mkF m 72 #[.val (.int p0), .val (.int p1), .unset, .unset, .unset, .unset, .unset, .unset, .unset, .unset, .unset, .unset] [(.int (216 : Int32)), (.int (11 : Int32)), (.ref b1), (.ref b1)])) rfl rfl (hb hby at_72)
  have Ab1_13 : own_A Z h13 b1 .int [(.int (-2147483648 : Int32)), (.int (58 : Int32)), (.int (59 : Int32)), (.int (65 : Int32)), (.int (91 : Int32)), (.int (95 : Int32)), (.int (96 : Int32)), (.int (97 : Int32)), (.int (123 : Int32)), (.int (192 : Int32)), (.int (215 : Int32)), (.int (216 : Int32)), (.int (0 : Int32)), (.int (0 : Int32)), (.int (0 : Int32)), (.int (0 : Int32)), (.int (0 : Int32)), (.int (0 : Int32)), (.int (0 : Int32)), (.int (0 : Int32)), (.int (0 : Int32)), (.int (0 : Int32)), (.int (0 : Int32)), (.int (0 : Int32)), (.int (0 : Int32)), (.int (0 : Int32)), (.int (0 : Int32)), (.int (0 : Int32)), (.int (0 : Int32)), (.int (0 : Int32)), (.int (0 : Int32)), (.int (0 : Int32)), (.int (0 : Int32))] := Aq13
  refine own_step (T' := T13) (f' := (mkF m 73 #[.val (.int p0), .val (.int p1), .unset, .unset, .unset, .unset, .unset, .unset, .unset, .unset, .unset, .unset] [(.ref b1)])) st13 ?_
  refine own_step (T' := T13) (f' := (mkF m 79 #[.val (.int p0), .val (.int p1), .unset, .unset, .unset, .unset, .unset, .unset, .unset, .unset, .unset, .unset] [(.int (247 : Int32)), (.int (12 : Int32)), (.ref b1), (.ref b1)])) (fun t kt => ?_) ?_
  · show Steps p.tables e below (T13.setTop (mkF m 73 #[.val (.int p0), .val (.int p1), .unset, .unset, .unset, .unset, .unset, .unset, .unset, .unset, .unset, .unset] [(.ref b1)])) _
    refine XS.dup X13.here hx rfl (hb hby at_73) rfl rfl ?_
    show Steps p.tables e below (T13.setTop (mkF m 74 #[.val (.int p0), .val (.int p1), .unset, .unset, .unset, .unset, .unset, .unset, .unset, .unset, .unset, .unset] [(.ref b1), (.ref b1)])) _
    refine XS.bipush X13.here hx rfl (hb hby at_74) ?_
    show Steps p.tables e below (T13.setTop (mkF m 76 #[.val (.int p0), .val (.int p1), .unset, .unset, .unset, .unset, .unset, .unset, .unset, .unset, .unset, .unset] [(.int (12 : Int32)), (.ref b1), (.ref b1)])) _
    refine XS.sipush X13.here hx rfl (hb hby at_76) ?_
    exact kt
  obtain ⟨T14, h14, Lq14, X14, N14, e14, W14, Z14, Aq14, st14⟩ := own_stI X13 hx hZ e13 Ab1_13 (j := (12 : Int32)) (by decide) (k := 12) (by decide) (Nat.le_of_ble_eq_true rfl) N13 g1 Z13 (g := (mkF m 79 #[.val (.int p0), .val (.int p1), .unset, .unset, .unset, .unset, .unset, .unset, .unset, .unset, .unset, .unset] [(.int (247 : Int32)), (.int (12 : Int32)), (.ref b1), (.ref b1)])) rfl rfl (hb hby at_79)
  have Ab1_14 : own_A Z h14 b1 .int [(.int (-2147483648 : Int32)), (.int (58 : Int32)), (.int (59 : Int32)), (.int (65 : Int32)), (.int (91 : Int32)), (.int (95 : Int32)), (.int (96 : Int32)), (.int (97 : Int32)), (.int (123 : Int32)), (.int (192 : Int32)), (.int (215 : Int32)), (.int (216 : Int32)), (.int (247 : Int32)), (.int (0 : Int32)), (.int (0 : Int32)), (.int (0 : Int32)), (.int (0 : Int32)), (.int (0 : Int32)), (.int (0 : Int32)), (.int (0 : Int32)), (.int (0 : Int32)), (.int (0 : Int32)), (.int (0 : Int32)), (.int (0 : Int32)), (.int (0 : Int32)), (.int (0 : Int32)), (.int (0 : Int32)), (.int (0 : Int32)), (.int (0 : Int32)), (.int (0 : Int32)), (.int (0 : Int32)), (.int (0 : Int32)), (.int (0 : Int32))] := Aq14
  refine own_step (T' := T14) (f' := (mkF m 80 #[.val (.int p0), .val (.int p1), .unset, .unset, .unset, .unset, .unset, .unset, .unset, .unset, .unset, .unset] [(.ref b1)])) st14 ?_
  refine own_step (T' := T14) (f' := (mkF m 86 #[.val (.int p0), .val (.int p1), .unset, .unset, .unset, .unset, .unset, .unset, .unset, .unset, .unset, .unset] [(.int (248 : Int32)), (.int (13 : Int32)), (.ref b1), (.ref b1)])) (fun t kt => ?_) ?_
  · show Steps p.tables e below (T14.setTop (mkF m 80 #[.val (.int p0), .val (.int p1), .unset, .unset, .unset, .unset, .unset, .unset, .unset, .unset, .unset, .unset] [(.ref b1)])) _
    refine XS.dup X14.here hx rfl (hb hby at_80) rfl rfl ?_
    show Steps p.tables e below (T14.setTop (mkF m 81 #[.val (.int p0), .val (.int p1), .unset, .unset, .unset, .unset, .unset, .unset, .unset, .unset, .unset, .unset] [(.ref b1), (.ref b1)])) _
    refine XS.bipush X14.here hx rfl (hb hby at_81) ?_
    show Steps p.tables e below (T14.setTop (mkF m 83 #[.val (.int p0), .val (.int p1), .unset, .unset, .unset, .unset, .unset, .unset, .unset, .unset, .unset, .unset] [(.int (13 : Int32)), (.ref b1), (.ref b1)])) _
    refine XS.sipush X14.here hx rfl (hb hby at_83) ?_
    exact kt
  obtain ⟨T15, h15, Lq15, X15, N15, e15, W15, Z15, Aq15, st15⟩ := own_stI X14 hx hZ e14 Ab1_14 (j := (13 : Int32)) (by decide) (k := 13) (by decide) (Nat.le_of_ble_eq_true rfl) N14 g1 Z14 (g := (mkF m 86 #[.val (.int p0), .val (.int p1), .unset, .unset, .unset, .unset, .unset, .unset, .unset, .unset, .unset, .unset] [(.int (248 : Int32)), (.int (13 : Int32)), (.ref b1), (.ref b1)])) rfl rfl (hb hby at_86)
  have Ab1_15 : own_A Z h15 b1 .int [(.int (-2147483648 : Int32)), (.int (58 : Int32)), (.int (59 : Int32)), (.int (65 : Int32)), (.int (91 : Int32)), (.int (95 : Int32)), (.int (96 : Int32)), (.int (97 : Int32)), (.int (123 : Int32)), (.int (192 : Int32)), (.int (215 : Int32)), (.int (216 : Int32)), (.int (247 : Int32)), (.int (248 : Int32)), (.int (0 : Int32)), (.int (0 : Int32)), (.int (0 : Int32)), (.int (0 : Int32)), (.int (0 : Int32)), (.int (0 : Int32)), (.int (0 : Int32)), (.int (0 : Int32)), (.int (0 : Int32)), (.int (0 : Int32)), (.int (0 : Int32)), (.int (0 : Int32)), (.int (0 : Int32)), (.int (0 : Int32)), (.int (0 : Int32)), (.int (0 : Int32)), (.int (0 : Int32)), (.int (0 : Int32)), (.int (0 : Int32))] := Aq15
  refine own_step (T' := T15) (f' := (mkF m 87 #[.val (.int p0), .val (.int p1), .unset, .unset, .unset, .unset, .unset, .unset, .unset, .unset, .unset, .unset] [(.ref b1)])) st15 ?_
  refine own_step (T' := T15) (f' := (mkF m 93 #[.val (.int p0), .val (.int p1), .unset, .unset, .unset, .unset, .unset, .unset, .unset, .unset, .unset, .unset] [(.int (768 : Int32)), (.int (14 : Int32)), (.ref b1), (.ref b1)])) (fun t kt => ?_) ?_
  · show Steps p.tables e below (T15.setTop (mkF m 87 #[.val (.int p0), .val (.int p1), .unset, .unset, .unset, .unset, .unset, .unset, .unset, .unset, .unset, .unset] [(.ref b1)])) _
    refine XS.dup X15.here hx rfl (hb hby at_87) rfl rfl ?_
    show Steps p.tables e below (T15.setTop (mkF m 88 #[.val (.int p0), .val (.int p1), .unset, .unset, .unset, .unset, .unset, .unset, .unset, .unset, .unset, .unset] [(.ref b1), (.ref b1)])) _
    refine XS.bipush X15.here hx rfl (hb hby at_88) ?_
    show Steps p.tables e below (T15.setTop (mkF m 90 #[.val (.int p0), .val (.int p1), .unset, .unset, .unset, .unset, .unset, .unset, .unset, .unset, .unset, .unset] [(.int (14 : Int32)), (.ref b1), (.ref b1)])) _
    refine XS.sipush X15.here hx rfl (hb hby at_90) ?_
    exact kt
  obtain ⟨T16, h16, Lq16, X16, N16, e16, W16, Z16, Aq16, st16⟩ := own_stI X15 hx hZ e15 Ab1_15 (j := (14 : Int32)) (by decide) (k := 14) (by decide) (Nat.le_of_ble_eq_true rfl) N15 g1 Z15 (g := (mkF m 93 #[.val (.int p0), .val (.int p1), .unset, .unset, .unset, .unset, .unset, .unset, .unset, .unset, .unset, .unset] [(.int (768 : Int32)), (.int (14 : Int32)), (.ref b1), (.ref b1)])) rfl rfl (hb hby at_93)
  have Ab1_16 : own_A Z h16 b1 .int [(.int (-2147483648 : Int32)), (.int (58 : Int32)), (.int (59 : Int32)), (.int (65 : Int32)), (.int (91 : Int32)), (.int (95 : Int32)), (.int (96 : Int32)), (.int (97 : Int32)), (.int (123 : Int32)), (.int (192 : Int32)), (.int (215 : Int32)), (.int (216 : Int32)), (.int (247 : Int32)), (.int (248 : Int32)), (.int (768 : Int32)), (.int (0 : Int32)), (.int (0 : Int32)), (.int (0 : Int32)), (.int (0 : Int32)), (.int (0 : Int32)), (.int (0 : Int32)), (.int (0 : Int32)), (.int (0 : Int32)), (.int (0 : Int32)), (.int (0 : Int32)), (.int (0 : Int32)), (.int (0 : Int32)), (.int (0 : Int32)), (.int (0 : Int32)), (.int (0 : Int32)), (.int (0 : Int32)), (.int (0 : Int32)), (.int (0 : Int32))] := Aq16
  refine own_step (T' := T16) (f' := (mkF m 94 #[.val (.int p0), .val (.int p1), .unset, .unset, .unset, .unset, .unset, .unset, .unset, .unset, .unset, .unset] [(.ref b1)])) st16 ?_
  refine own_step (T' := T16) (f' := (mkF m 100 #[.val (.int p0), .val (.int p1), .unset, .unset, .unset, .unset, .unset, .unset, .unset, .unset, .unset, .unset] [(.int (880 : Int32)), (.int (15 : Int32)), (.ref b1), (.ref b1)])) (fun t kt => ?_) ?_
  · show Steps p.tables e below (T16.setTop (mkF m 94 #[.val (.int p0), .val (.int p1), .unset, .unset, .unset, .unset, .unset, .unset, .unset, .unset, .unset, .unset] [(.ref b1)])) _
    refine XS.dup X16.here hx rfl (hb hby at_94) rfl rfl ?_
    show Steps p.tables e below (T16.setTop (mkF m 95 #[.val (.int p0), .val (.int p1), .unset, .unset, .unset, .unset, .unset, .unset, .unset, .unset, .unset, .unset] [(.ref b1), (.ref b1)])) _
    refine XS.bipush X16.here hx rfl (hb hby at_95) ?_
    show Steps p.tables e below (T16.setTop (mkF m 97 #[.val (.int p0), .val (.int p1), .unset, .unset, .unset, .unset, .unset, .unset, .unset, .unset, .unset, .unset] [(.int (15 : Int32)), (.ref b1), (.ref b1)])) _
    refine XS.sipush X16.here hx rfl (hb hby at_97) ?_
    exact kt
  obtain ⟨T17, h17, Lq17, X17, N17, e17, W17, Z17, Aq17, st17⟩ := own_stI X16 hx hZ e16 Ab1_16 (j := (15 : Int32)) (by decide) (k := 15) (by decide) (Nat.le_of_ble_eq_true rfl) N16 g1 Z16 (g := (mkF m 100 #[.val (.int p0), .val (.int p1), .unset, .unset, .unset, .unset, .unset, .unset, .unset, .unset, .unset, .unset] [(.int (880 : Int32)), (.int (15 : Int32)), (.ref b1), (.ref b1)])) rfl rfl (hb hby at_100)
  have Ab1_17 : own_A Z h17 b1 .int [(.int (-2147483648 : Int32)), (.int (58 : Int32)), (.int (59 : Int32)), (.int (65 : Int32)), (.int (91 : Int32)), (.int (95 : Int32)), (.int (96 : Int32)), (.int (97 : Int32)), (.int (123 : Int32)), (.int (192 : Int32)), (.int (215 : Int32)), (.int (216 : Int32)), (.int (247 : Int32)), (.int (248 : Int32)), (.int (768 : Int32)), (.int (880 : Int32)), (.int (0 : Int32)), (.int (0 : Int32)), (.int (0 : Int32)), (.int (0 : Int32)), (.int (0 : Int32)), (.int (0 : Int32)), (.int (0 : Int32)), (.int (0 : Int32)), (.int (0 : Int32)), (.int (0 : Int32)), (.int (0 : Int32)), (.int (0 : Int32)), (.int (0 : Int32)), (.int (0 : Int32)), (.int (0 : Int32)), (.int (0 : Int32)), (.int (0 : Int32))] := Aq17
  refine own_step (T' := T17) (f' := (mkF m 101 #[.val (.int p0), .val (.int p1), .unset, .unset, .unset, .unset, .unset, .unset, .unset, .unset, .unset, .unset] [(.ref b1)])) st17 ?_
  refine own_step (T' := T17) (f' := (mkF m 107 #[.val (.int p0), .val (.int p1), .unset, .unset, .unset, .unset, .unset, .unset, .unset, .unset, .unset, .unset] [(.int (894 : Int32)), (.int (16 : Int32)), (.ref b1), (.ref b1)])) (fun t kt => ?_) ?_
  · show Steps p.tables e below (T17.setTop (mkF m 101 #[.val (.int p0), .val (.int p1), .unset, .unset, .unset, .unset, .unset, .unset, .unset, .unset, .unset, .unset] [(.ref b1)])) _
    refine XS.dup X17.here hx rfl (hb hby at_101) rfl rfl ?_
    show Steps p.tables e below (T17.setTop (mkF m 102 #[.val (.int p0), .val (.int p1), .unset, .unset, .unset, .unset, .unset, .unset, .unset, .unset, .unset, .unset] [(.ref b1), (.ref b1)])) _
    refine XS.bipush X17.here hx rfl (hb hby at_102) ?_
    show Steps p.tables e below (T17.setTop (mkF m 104 #[.val (.int p0), .val (.int p1), .unset, .unset, .unset, .unset, .unset, .unset, .unset, .unset, .unset, .unset] [(.int (16 : Int32)), (.ref b1), (.ref b1)])) _
    refine XS.sipush X17.here hx rfl (hb hby at_104) ?_
    exact kt
  obtain ⟨T18, h18, Lq18, X18, N18, e18, W18, Z18, Aq18, st18⟩ := own_stI X17 hx hZ e17 Ab1_17 (j := (16 : Int32)) (by decide) (k := 16) (by decide) (Nat.le_of_ble_eq_true rfl) N17 g1 Z17 (g := (mkF m 107 #[.val (.int p0), .val (.int p1), .unset, .unset, .unset, .unset, .unset, .unset, .unset, .unset, .unset, .unset] [(.int (894 : Int32)), (.int (16 : Int32)), (.ref b1), (.ref b1)])) rfl rfl (hb hby at_107)
  have Ab1_18 : own_A Z h18 b1 .int [(.int (-2147483648 : Int32)), (.int (58 : Int32)), (.int (59 : Int32)), (.int (65 : Int32)), (.int (91 : Int32)), (.int (95 : Int32)), (.int (96 : Int32)), (.int (97 : Int32)), (.int (123 : Int32)), (.int (192 : Int32)), (.int (215 : Int32)), (.int (216 : Int32)), (.int (247 : Int32)), (.int (248 : Int32)), (.int (768 : Int32)), (.int (880 : Int32)), (.int (894 : Int32)), (.int (0 : Int32)), (.int (0 : Int32)), (.int (0 : Int32)), (.int (0 : Int32)), (.int (0 : Int32)), (.int (0 : Int32)), (.int (0 : Int32)), (.int (0 : Int32)), (.int (0 : Int32)), (.int (0 : Int32)), (.int (0 : Int32)), (.int (0 : Int32)), (.int (0 : Int32)), (.int (0 : Int32)), (.int (0 : Int32)), (.int (0 : Int32))] := Aq18
  refine own_step (T' := T18) (f' := (mkF m 108 #[.val (.int p0), .val (.int p1), .unset, .unset, .unset, .unset, .unset, .unset, .unset, .unset, .unset, .unset] [(.ref b1)])) st18 ?_
  refine own_step (T' := T18) (f' := (mkF m 114 #[.val (.int p0), .val (.int p1), .unset, .unset, .unset, .unset, .unset, .unset, .unset, .unset, .unset, .unset] [(.int (895 : Int32)), (.int (17 : Int32)), (.ref b1), (.ref b1)])) (fun t kt => ?_) ?_
  · show Steps p.tables e below (T18.setTop (mkF m 108 #[.val (.int p0), .val (.int p1), .unset, .unset, .unset, .unset, .unset, .unset, .unset, .unset, .unset, .unset] [(.ref b1)])) _
    refine XS.dup X18.here hx rfl (hb hby at_108) rfl rfl ?_
    show Steps p.tables e below (T18.setTop (mkF m 109 #[.val (.int p0), .val (.int p1), .unset, .unset, .unset, .unset, .unset, .unset, .unset, .unset, .unset, .unset] [(.ref b1), (.ref b1)])) _
    refine XS.bipush X18.here hx rfl (hb hby at_109) ?_
    show Steps p.tables e below (T18.setTop (mkF m 111 #[.val (.int p0), .val (.int p1), .unset, .unset, .unset, .unset, .unset, .unset, .unset, .unset, .unset, .unset] [(.int (17 : Int32)), (.ref b1), (.ref b1)])) _
    refine XS.sipush X18.here hx rfl (hb hby at_111) ?_
    exact kt
  obtain ⟨T19, h19, Lq19, X19, N19, e19, W19, Z19, Aq19, st19⟩ := own_stI X18 hx hZ e18 Ab1_18 (j := (17 : Int32)) (by decide) (k := 17) (by decide) (Nat.le_of_ble_eq_true rfl) N18 g1 Z18 (g := (mkF m 114 #[.val (.int p0), .val (.int p1), .unset, .unset, .unset, .unset, .unset, .unset, .unset, .unset, .unset, .unset] [(.int (895 : Int32)), (.int (17 : Int32)), (.ref b1), (.ref b1)])) rfl rfl (hb hby at_114)
  have Ab1_19 : own_A Z h19 b1 .int [(.int (-2147483648 : Int32)), (.int (58 : Int32)), (.int (59 : Int32)), (.int (65 : Int32)), (.int (91 : Int32)), (.int (95 : Int32)), (.int (96 : Int32)), (.int (97 : Int32)), (.int (123 : Int32)), (.int (192 : Int32)), (.int (215 : Int32)), (.int (216 : Int32)), (.int (247 : Int32)), (.int (248 : Int32)), (.int (768 : Int32)), (.int (880 : Int32)), (.int (894 : Int32)), (.int (895 : Int32)), (.int (0 : Int32)), (.int (0 : Int32)), (.int (0 : Int32)), (.int (0 : Int32)), (.int (0 : Int32)), (.int (0 : Int32)), (.int (0 : Int32)), (.int (0 : Int32)), (.int (0 : Int32)), (.int (0 : Int32)), (.int (0 : Int32)), (.int (0 : Int32)), (.int (0 : Int32)), (.int (0 : Int32)), (.int (0 : Int32))] := Aq19
  refine own_step (T' := T19) (f' := (mkF m 115 #[.val (.int p0), .val (.int p1), .unset, .unset, .unset, .unset, .unset, .unset, .unset, .unset, .unset, .unset] [(.ref b1)])) st19 ?_
  refine own_step (T' := T19) (f' := (mkF m 121 #[.val (.int p0), .val (.int p1), .unset, .unset, .unset, .unset, .unset, .unset, .unset, .unset, .unset, .unset] [(.int (8192 : Int32)), (.int (18 : Int32)), (.ref b1), (.ref b1)])) (fun t kt => ?_) ?_
  · show Steps p.tables e below (T19.setTop (mkF m 115 #[.val (.int p0), .val (.int p1), .unset, .unset, .unset, .unset, .unset, .unset, .unset, .unset, .unset, .unset] [(.ref b1)])) _
    refine XS.dup X19.here hx rfl (hb hby at_115) rfl rfl ?_
    show Steps p.tables e below (T19.setTop (mkF m 116 #[.val (.int p0), .val (.int p1), .unset, .unset, .unset, .unset, .unset, .unset, .unset, .unset, .unset, .unset] [(.ref b1), (.ref b1)])) _
    refine XS.bipush X19.here hx rfl (hb hby at_116) ?_
    show Steps p.tables e below (T19.setTop (mkF m 118 #[.val (.int p0), .val (.int p1), .unset, .unset, .unset, .unset, .unset, .unset, .unset, .unset, .unset, .unset] [(.int (18 : Int32)), (.ref b1), (.ref b1)])) _
    refine XS.sipush X19.here hx rfl (hb hby at_118) ?_
    exact kt
  obtain ⟨T20, h20, Lq20, X20, N20, e20, W20, Z20, Aq20, st20⟩ := own_stI X19 hx hZ e19 Ab1_19 (j := (18 : Int32)) (by decide) (k := 18) (by decide) (Nat.le_of_ble_eq_true rfl) N19 g1 Z19 (g := (mkF m 121 #[.val (.int p0), .val (.int p1), .unset, .unset, .unset, .unset, .unset, .unset, .unset, .unset, .unset, .unset] [(.int (8192 : Int32)), (.int (18 : Int32)), (.ref b1), (.ref b1)])) rfl rfl (hb hby at_121)
  have Ab1_20 : own_A Z h20 b1 .int [(.int (-2147483648 : Int32)), (.int (58 : Int32)), (.int (59 : Int32)), (.int (65 : Int32)), (.int (91 : Int32)), (.int (95 : Int32)), (.int (96 : Int32)), (.int (97 : Int32)), (.int (123 : Int32)), (.int (192 : Int32)), (.int (215 : Int32)), (.int (216 : Int32)), (.int (247 : Int32)), (.int (248 : Int32)), (.int (768 : Int32)), (.int (880 : Int32)), (.int (894 : Int32)), (.int (895 : Int32)), (.int (8192 : Int32)), (.int (0 : Int32)), (.int (0 : Int32)), (.int (0 : Int32)), (.int (0 : Int32)), (.int (0 : Int32)), (.int (0 : Int32)), (.int (0 : Int32)), (.int (0 : Int32)), (.int (0 : Int32)), (.int (0 : Int32)), (.int (0 : Int32)), (.int (0 : Int32)), (.int (0 : Int32)), (.int (0 : Int32))] := Aq20
  refine own_step (T' := T20) (f' := (mkF m 122 #[.val (.int p0), .val (.int p1), .unset, .unset, .unset, .unset, .unset, .unset, .unset, .unset, .unset, .unset] [(.ref b1)])) st20 ?_
  refine own_step (T' := T20) (f' := (mkF m 128 #[.val (.int p0), .val (.int p1), .unset, .unset, .unset, .unset, .unset, .unset, .unset, .unset, .unset, .unset] [(.int (8204 : Int32)), (.int (19 : Int32)), (.ref b1), (.ref b1)])) (fun t kt => ?_) ?_
  · show Steps p.tables e below (T20.setTop (mkF m 122 #[.val (.int p0), .val (.int p1), .unset, .unset, .unset, .unset, .unset, .unset, .unset, .unset, .unset, .unset] [(.ref b1)])) _
    refine XS.dup X20.here hx rfl (hb hby at_122) rfl rfl ?_
    show Steps p.tables e below (T20.setTop (mkF m 123 #[.val (.int p0), .val (.int p1), .unset, .unset, .unset, .unset, .unset, .unset, .unset, .unset, .unset, .unset] [(.ref b1), (.ref b1)])) _
    refine XS.bipush X20.here hx rfl (hb hby at_123) ?_
    show Steps p.tables e below (T20.setTop (mkF m 125 #[.val (.int p0), .val (.int p1), .unset, .unset, .unset, .unset, .unset, .unset, .unset, .unset, .unset, .unset] [(.int (19 : Int32)), (.ref b1), (.ref b1)])) _
    refine XS.sipush X20.here hx rfl (hb hby at_125) ?_
    exact kt
  obtain ⟨T21, h21, Lq21, X21, N21, e21, W21, Z21, Aq21, st21⟩ := own_stI X20 hx hZ e20 Ab1_20 (j := (19 : Int32)) (by decide) (k := 19) (by decide) (Nat.le_of_ble_eq_true rfl) N20 g1 Z20 (g := (mkF m 128 #[.val (.int p0), .val (.int p1), .unset, .unset, .unset, .unset, .unset, .unset, .unset, .unset, .unset, .unset] [(.int (8204 : Int32)), (.int (19 : Int32)), (.ref b1), (.ref b1)])) rfl rfl (hb hby at_128)
  have Ab1_21 : own_A Z h21 b1 .int [(.int (-2147483648 : Int32)), (.int (58 : Int32)), (.int (59 : Int32)), (.int (65 : Int32)), (.int (91 : Int32)), (.int (95 : Int32)), (.int (96 : Int32)), (.int (97 : Int32)), (.int (123 : Int32)), (.int (192 : Int32)), (.int (215 : Int32)), (.int (216 : Int32)), (.int (247 : Int32)), (.int (248 : Int32)), (.int (768 : Int32)), (.int (880 : Int32)), (.int (894 : Int32)), (.int (895 : Int32)), (.int (8192 : Int32)), (.int (8204 : Int32)), (.int (0 : Int32)), (.int (0 : Int32)), (.int (0 : Int32)), (.int (0 : Int32)), (.int (0 : Int32)), (.int (0 : Int32)), (.int (0 : Int32)), (.int (0 : Int32)), (.int (0 : Int32)), (.int (0 : Int32)), (.int (0 : Int32)), (.int (0 : Int32)), (.int (0 : Int32))] := Aq21
  refine own_step (T' := T21) (f' := (mkF m 129 #[.val (.int p0), .val (.int p1), .unset, .unset, .unset, .unset, .unset, .unset, .unset, .unset, .unset, .unset] [(.ref b1)])) st21 ?_
  refine own_step (T' := T21) (f' := (mkF m 135 #[.val (.int p0), .val (.int p1), .unset, .unset, .unset, .unset, .unset, .unset, .unset, .unset, .unset, .unset] [(.int (8206 : Int32)), (.int (20 : Int32)), (.ref b1), (.ref b1)])) (fun t kt => ?_) ?_
  · show Steps p.tables e below (T21.setTop (mkF m 129 #[.val (.int p0), .val (.int p1), .unset, .unset, .unset, .unset, .unset, .unset, .unset, .unset, .unset, .unset] [(.ref b1)])) _
    refine XS.dup X21.here hx rfl (hb hby at_129) rfl rfl ?_
    show Steps p.tables e below (T21.setTop (mkF m 130 #[.val (.int p0), .val (.int p1), .unset, .unset, .unset, .unset, .unset, .unset, .unset, .unset, .unset, .unset] [(.ref b1), (.ref b1)])) _
    refine XS.bipush X21.here hx rfl (hb hby at_130) ?_
    show Steps p.tables e below (T21.setTop (mkF m 132 #[.val (.int p0), .val (.int p1), .unset, .unset, .unset, .unset, .unset, .unset, .unset, .unset, .unset, .unset] [(.int (20 : Int32)), (.ref b1), (.ref b1)])) _
    refine XS.sipush X21.here hx rfl (hb hby at_132) ?_
    exact kt
  obtain ⟨T22, h22, Lq22, X22, N22, e22, W22, Z22, Aq22, st22⟩ := own_stI X21 hx hZ e21 Ab1_21 (j := (20 : Int32)) (by decide) (k := 20) (by decide) (Nat.le_of_ble_eq_true rfl) N21 g1 Z21 (g := (mkF m 135 #[.val (.int p0), .val (.int p1), .unset, .unset, .unset, .unset, .unset, .unset, .unset, .unset, .unset, .unset] [(.int (8206 : Int32)), (.int (20 : Int32)), (.ref b1), (.ref b1)])) rfl rfl (hb hby at_135)
  have Ab1_22 : own_A Z h22 b1 .int [(.int (-2147483648 : Int32)), (.int (58 : Int32)), (.int (59 : Int32)), (.int (65 : Int32)), (.int (91 : Int32)), (.int (95 : Int32)), (.int (96 : Int32)), (.int (97 : Int32)), (.int (123 : Int32)), (.int (192 : Int32)), (.int (215 : Int32)), (.int (216 : Int32)), (.int (247 : Int32)), (.int (248 : Int32)), (.int (768 : Int32)), (.int (880 : Int32)), (.int (894 : Int32)), (.int (895 : Int32)), (.int (8192 : Int32)), (.int (8204 : Int32)), (.int (8206 : Int32)), (.int (0 : Int32)), (.int (0 : Int32)), (.int (0 : Int32)), (.int (0 : Int32)), (.int (0 : Int32)), (.int (0 : Int32)), (.int (0 : Int32)), (.int (0 : Int32)), (.int (0 : Int32)), (.int (0 : Int32)), (.int (0 : Int32)), (.int (0 : Int32))] := Aq22
  refine own_step (T' := T22) (f' := (mkF m 136 #[.val (.int p0), .val (.int p1), .unset, .unset, .unset, .unset, .unset, .unset, .unset, .unset, .unset, .unset] [(.ref b1)])) st22 ?_
  refine own_step (T' := T22) (f' := (mkF m 142 #[.val (.int p0), .val (.int p1), .unset, .unset, .unset, .unset, .unset, .unset, .unset, .unset, .unset, .unset] [(.int (8304 : Int32)), (.int (21 : Int32)), (.ref b1), (.ref b1)])) (fun t kt => ?_) ?_
  · show Steps p.tables e below (T22.setTop (mkF m 136 #[.val (.int p0), .val (.int p1), .unset, .unset, .unset, .unset, .unset, .unset, .unset, .unset, .unset, .unset] [(.ref b1)])) _
    refine XS.dup X22.here hx rfl (hb hby at_136) rfl rfl ?_
    show Steps p.tables e below (T22.setTop (mkF m 137 #[.val (.int p0), .val (.int p1), .unset, .unset, .unset, .unset, .unset, .unset, .unset, .unset, .unset, .unset] [(.ref b1), (.ref b1)])) _
    refine XS.bipush X22.here hx rfl (hb hby at_137) ?_
    show Steps p.tables e below (T22.setTop (mkF m 139 #[.val (.int p0), .val (.int p1), .unset, .unset, .unset, .unset, .unset, .unset, .unset, .unset, .unset, .unset] [(.int (21 : Int32)), (.ref b1), (.ref b1)])) _
    refine XS.sipush X22.here hx rfl (hb hby at_139) ?_
    exact kt
  obtain ⟨T23, h23, Lq23, X23, N23, e23, W23, Z23, Aq23, st23⟩ := own_stI X22 hx hZ e22 Ab1_22 (j := (21 : Int32)) (by decide) (k := 21) (by decide) (Nat.le_of_ble_eq_true rfl) N22 g1 Z22 (g := (mkF m 142 #[.val (.int p0), .val (.int p1), .unset, .unset, .unset, .unset, .unset, .unset, .unset, .unset, .unset, .unset] [(.int (8304 : Int32)), (.int (21 : Int32)), (.ref b1), (.ref b1)])) rfl rfl (hb hby at_142)
  have Ab1_23 : own_A Z h23 b1 .int [(.int (-2147483648 : Int32)), (.int (58 : Int32)), (.int (59 : Int32)), (.int (65 : Int32)), (.int (91 : Int32)), (.int (95 : Int32)), (.int (96 : Int32)), (.int (97 : Int32)), (.int (123 : Int32)), (.int (192 : Int32)), (.int (215 : Int32)), (.int (216 : Int32)), (.int (247 : Int32)), (.int (248 : Int32)), (.int (768 : Int32)), (.int (880 : Int32)), (.int (894 : Int32)), (.int (895 : Int32)), (.int (8192 : Int32)), (.int (8204 : Int32)), (.int (8206 : Int32)), (.int (8304 : Int32)), (.int (0 : Int32)), (.int (0 : Int32)), (.int (0 : Int32)), (.int (0 : Int32)), (.int (0 : Int32)), (.int (0 : Int32)), (.int (0 : Int32)), (.int (0 : Int32)), (.int (0 : Int32)), (.int (0 : Int32)), (.int (0 : Int32))] := Aq23
  refine own_step (T' := T23) (f' := (mkF m 143 #[.val (.int p0), .val (.int p1), .unset, .unset, .unset, .unset, .unset, .unset, .unset, .unset, .unset, .unset] [(.ref b1)])) st23 ?_
  refine own_step (T' := T23) (f' := (mkF m 149 #[.val (.int p0), .val (.int p1), .unset, .unset, .unset, .unset, .unset, .unset, .unset, .unset, .unset, .unset] [(.int (8592 : Int32)), (.int (22 : Int32)), (.ref b1), (.ref b1)])) (fun t kt => ?_) ?_
  · show Steps p.tables e below (T23.setTop (mkF m 143 #[.val (.int p0), .val (.int p1), .unset, .unset, .unset, .unset, .unset, .unset, .unset, .unset, .unset, .unset] [(.ref b1)])) _
    refine XS.dup X23.here hx rfl (hb hby at_143) rfl rfl ?_
    show Steps p.tables e below (T23.setTop (mkF m 144 #[.val (.int p0), .val (.int p1), .unset, .unset, .unset, .unset, .unset, .unset, .unset, .unset, .unset, .unset] [(.ref b1), (.ref b1)])) _
    refine XS.bipush X23.here hx rfl (hb hby at_144) ?_
    show Steps p.tables e below (T23.setTop (mkF m 146 #[.val (.int p0), .val (.int p1), .unset, .unset, .unset, .unset, .unset, .unset, .unset, .unset, .unset, .unset] [(.int (22 : Int32)), (.ref b1), (.ref b1)])) _
    refine XS.sipush X23.here hx rfl (hb hby at_146) ?_
    exact kt
  obtain ⟨T24, h24, Lq24, X24, N24, e24, W24, Z24, Aq24, st24⟩ := own_stI X23 hx hZ e23 Ab1_23 (j := (22 : Int32)) (by decide) (k := 22) (by decide) (Nat.le_of_ble_eq_true rfl) N23 g1 Z23 (g := (mkF m 149 #[.val (.int p0), .val (.int p1), .unset, .unset, .unset, .unset, .unset, .unset, .unset, .unset, .unset, .unset] [(.int (8592 : Int32)), (.int (22 : Int32)), (.ref b1), (.ref b1)])) rfl rfl (hb hby at_149)
  have Ab1_24 : own_A Z h24 b1 .int [(.int (-2147483648 : Int32)), (.int (58 : Int32)), (.int (59 : Int32)), (.int (65 : Int32)), (.int (91 : Int32)), (.int (95 : Int32)), (.int (96 : Int32)), (.int (97 : Int32)), (.int (123 : Int32)), (.int (192 : Int32)), (.int (215 : Int32)), (.int (216 : Int32)), (.int (247 : Int32)), (.int (248 : Int32)), (.int (768 : Int32)), (.int (880 : Int32)), (.int (894 : Int32)), (.int (895 : Int32)), (.int (8192 : Int32)), (.int (8204 : Int32)), (.int (8206 : Int32)), (.int (8304 : Int32)), (.int (8592 : Int32)), (.int (0 : Int32)), (.int (0 : Int32)), (.int (0 : Int32)), (.int (0 : Int32)), (.int (0 : Int32)), (.int (0 : Int32)), (.int (0 : Int32)), (.int (0 : Int32)), (.int (0 : Int32)), (.int (0 : Int32))] := Aq24
  refine own_step (T' := T24) (f' := (mkF m 150 #[.val (.int p0), .val (.int p1), .unset, .unset, .unset, .unset, .unset, .unset, .unset, .unset, .unset, .unset] [(.ref b1)])) st24 ?_
  refine own_step (T' := T24) (f' := (mkF m 156 #[.val (.int p0), .val (.int p1), .unset, .unset, .unset, .unset, .unset, .unset, .unset, .unset, .unset, .unset] [(.int (11264 : Int32)), (.int (23 : Int32)), (.ref b1), (.ref b1)])) (fun t kt => ?_) ?_
  · show Steps p.tables e below (T24.setTop (mkF m 150 #[.val (.int p0), .val (.int p1), .unset, .unset, .unset, .unset, .unset, .unset, .unset, .unset, .unset, .unset] [(.ref b1)])) _
    refine XS.dup X24.here hx rfl (hb hby at_150) rfl rfl ?_
    show Steps p.tables e below (T24.setTop (mkF m 151 #[.val (.int p0), .val (.int p1), .unset, .unset, .unset, .unset, .unset, .unset, .unset, .unset, .unset, .unset] [(.ref b1), (.ref b1)])) _
    refine XS.bipush X24.here hx rfl (hb hby at_151) ?_
    show Steps p.tables e below (T24.setTop (mkF m 153 #[.val (.int p0), .val (.int p1), .unset, .unset, .unset, .unset, .unset, .unset, .unset, .unset, .unset, .unset] [(.int (23 : Int32)), (.ref b1), (.ref b1)])) _
    refine XS.sipush X24.here hx rfl (hb hby at_153) ?_
    exact kt
  obtain ⟨T25, h25, Lq25, X25, N25, e25, W25, Z25, Aq25, st25⟩ := own_stI X24 hx hZ e24 Ab1_24 (j := (23 : Int32)) (by decide) (k := 23) (by decide) (Nat.le_of_ble_eq_true rfl) N24 g1 Z24 (g := (mkF m 156 #[.val (.int p0), .val (.int p1), .unset, .unset, .unset, .unset, .unset, .unset, .unset, .unset, .unset, .unset] [(.int (11264 : Int32)), (.int (23 : Int32)), (.ref b1), (.ref b1)])) rfl rfl (hb hby at_156)
  have Ab1_25 : own_A Z h25 b1 .int [(.int (-2147483648 : Int32)), (.int (58 : Int32)), (.int (59 : Int32)), (.int (65 : Int32)), (.int (91 : Int32)), (.int (95 : Int32)), (.int (96 : Int32)), (.int (97 : Int32)), (.int (123 : Int32)), (.int (192 : Int32)), (.int (215 : Int32)), (.int (216 : Int32)), (.int (247 : Int32)), (.int (248 : Int32)), (.int (768 : Int32)), (.int (880 : Int32)), (.int (894 : Int32)), (.int (895 : Int32)), (.int (8192 : Int32)), (.int (8204 : Int32)), (.int (8206 : Int32)), (.int (8304 : Int32)), (.int (8592 : Int32)), (.int (11264 : Int32)), (.int (0 : Int32)), (.int (0 : Int32)), (.int (0 : Int32)), (.int (0 : Int32)), (.int (0 : Int32)), (.int (0 : Int32)), (.int (0 : Int32)), (.int (0 : Int32)), (.int (0 : Int32))] := Aq25
  refine own_step (T' := T25) (f' := (mkF m 157 #[.val (.int p0), .val (.int p1), .unset, .unset, .unset, .unset, .unset, .unset, .unset, .unset, .unset, .unset] [(.ref b1)])) st25 ?_
  refine own_step (T' := T25) (f' := (mkF m 163 #[.val (.int p0), .val (.int p1), .unset, .unset, .unset, .unset, .unset, .unset, .unset, .unset, .unset, .unset] [(.int (12272 : Int32)), (.int (24 : Int32)), (.ref b1), (.ref b1)])) (fun t kt => ?_) ?_
  · show Steps p.tables e below (T25.setTop (mkF m 157 #[.val (.int p0), .val (.int p1), .unset, .unset, .unset, .unset, .unset, .unset, .unset, .unset, .unset, .unset] [(.ref b1)])) _
    refine XS.dup X25.here hx rfl (hb hby at_157) rfl rfl ?_
    show Steps p.tables e below (T25.setTop (mkF m 158 #[.val (.int p0), .val (.int p1), .unset, .unset, .unset, .unset, .unset, .unset, .unset, .unset, .unset, .unset] [(.ref b1), (.ref b1)])) _
    refine XS.bipush X25.here hx rfl (hb hby at_158) ?_
    show Steps p.tables e below (T25.setTop (mkF m 160 #[.val (.int p0), .val (.int p1), .unset, .unset, .unset, .unset, .unset, .unset, .unset, .unset, .unset, .unset] [(.int (24 : Int32)), (.ref b1), (.ref b1)])) _
    refine XS.sipush X25.here hx rfl (hb hby at_160) ?_
    exact kt
  obtain ⟨T26, h26, Lq26, X26, N26, e26, W26, Z26, Aq26, st26⟩ := own_stI X25 hx hZ e25 Ab1_25 (j := (24 : Int32)) (by decide) (k := 24) (by decide) (Nat.le_of_ble_eq_true rfl) N25 g1 Z25 (g := (mkF m 163 #[.val (.int p0), .val (.int p1), .unset, .unset, .unset, .unset, .unset, .unset, .unset, .unset, .unset, .unset] [(.int (12272 : Int32)), (.int (24 : Int32)), (.ref b1), (.ref b1)])) rfl rfl (hb hby at_163)
  have Ab1_26 : own_A Z h26 b1 .int [(.int (-2147483648 : Int32)), (.int (58 : Int32)), (.int (59 : Int32)), (.int (65 : Int32)), (.int (91 : Int32)), (.int (95 : Int32)), (.int (96 : Int32)), (.int (97 : Int32)), (.int (123 : Int32)), (.int (192 : Int32)), (.int (215 : Int32)), (.int (216 : Int32)), (.int (247 : Int32)), (.int (248 : Int32)), (.int (768 : Int32)), (.int (880 : Int32)), (.int (894 : Int32)), (.int (895 : Int32)), (.int (8192 : Int32)), (.int (8204 : Int32)), (.int (8206 : Int32)), (.int (8304 : Int32)), (.int (8592 : Int32)), (.int (11264 : Int32)), (.int (12272 : Int32)), (.int (0 : Int32)), (.int (0 : Int32)), (.int (0 : Int32)), (.int (0 : Int32)), (.int (0 : Int32)), (.int (0 : Int32)), (.int (0 : Int32)), (.int (0 : Int32))] := Aq26
  refine own_step (T' := T26) (f' := (mkF m 164 #[.val (.int p0), .val (.int p1), .unset, .unset, .unset, .unset, .unset, .unset, .unset, .unset, .unset, .unset] [(.ref b1)])) st26 ?_
  refine own_step (T' := T26) (f' := (mkF m 170 #[.val (.int p0), .val (.int p1), .unset, .unset, .unset, .unset, .unset, .unset, .unset, .unset, .unset, .unset] [(.int (12289 : Int32)), (.int (25 : Int32)), (.ref b1), (.ref b1)])) (fun t kt => ?_) ?_
  · show Steps p.tables e below (T26.setTop (mkF m 164 #[.val (.int p0), .val (.int p1), .unset, .unset, .unset, .unset, .unset, .unset, .unset, .unset, .unset, .unset] [(.ref b1)])) _
    refine XS.dup X26.here hx rfl (hb hby at_164) rfl rfl ?_
    show Steps p.tables e below (T26.setTop (mkF m 165 #[.val (.int p0), .val (.int p1), .unset, .unset, .unset, .unset, .unset, .unset, .unset, .unset, .unset, .unset] [(.ref b1), (.ref b1)])) _
    refine XS.bipush X26.here hx rfl (hb hby at_165) ?_
    show Steps p.tables e below (T26.setTop (mkF m 167 #[.val (.int p0), .val (.int p1), .unset, .unset, .unset, .unset, .unset, .unset, .unset, .unset, .unset, .unset] [(.int (25 : Int32)), (.ref b1), (.ref b1)])) _
    refine XS.sipush X26.here hx rfl (hb hby at_167) ?_
    exact kt
  obtain ⟨T27, h27, Lq27, X27, N27, e27, W27, Z27, Aq27, st27⟩ := own_stI X26 hx hZ e26 Ab1_26 (j := (25 : Int32)) (by decide) (k := 25) (by decide) (Nat.le_of_ble_eq_true rfl) N26 g1 Z26 (g := (mkF m 170 #[.val (.int p0), .val (.int p1), .unset, .unset, .unset, .unset, .unset, .unset, .unset, .unset, .unset, .unset] [(.int (12289 : Int32)), (.int (25 : Int32)), (.ref b1), (.ref b1)])) rfl rfl (hb hby at_170)
  have Ab1_27 : own_A Z h27 b1 .int [(.int (-2147483648 : Int32)), (.int (58 : Int32)), (.int (59 : Int32)), (.int (65 : Int32)), (.int (91 : Int32)), (.int (95 : Int32)), (.int (96 : Int32)), (.int (97 : Int32)), (.int (123 : Int32)), (.int (192 : Int32)), (.int (215 : Int32)), (.int (216 : Int32)), (.int (247 : Int32)), (.int (248 : Int32)), (.int (768 : Int32)), (.int (880 : Int32)), (.int (894 : Int32)), (.int (895 : Int32)), (.int (8192 : Int32)), (.int (8204 : Int32)), (.int (8206 : Int32)), (.int (8304 : Int32)), (.int (8592 : Int32)), (.int (11264 : Int32)), (.int (12272 : Int32)), (.int (12289 : Int32)), (.int (0 : Int32)), (.int (0 : Int32)), (.int (0 : Int32)), (.int (0 : Int32)), (.int (0 : Int32)), (.int (0 : Int32)), (.int (0 : Int32))] := Aq27
  refine own_step (T' := T27) (f' := (mkF m 171 #[.val (.int p0), .val (.int p1), .unset, .unset, .unset, .unset, .unset, .unset, .unset, .unset, .unset, .unset] [(.ref b1)])) st27 ?_
  refine own_step (T' := T27) (f' := (mkF m 176 #[.val (.int p0), .val (.int p1), .unset, .unset, .unset, .unset, .unset, .unset, .unset, .unset, .unset, .unset] [(.int (55296 : Int32)), (.int (26 : Int32)), (.ref b1), (.ref b1)])) (fun t kt => ?_) ?_
  · show Steps p.tables e below (T27.setTop (mkF m 171 #[.val (.int p0), .val (.int p1), .unset, .unset, .unset, .unset, .unset, .unset, .unset, .unset, .unset, .unset] [(.ref b1)])) _
    refine XS.dup X27.here hx rfl (hb hby at_171) rfl rfl ?_
    show Steps p.tables e below (T27.setTop (mkF m 172 #[.val (.int p0), .val (.int p1), .unset, .unset, .unset, .unset, .unset, .unset, .unset, .unset, .unset, .unset] [(.ref b1), (.ref b1)])) _
    refine XS.bipush X27.here hx rfl (hb hby at_172) ?_
    show Steps p.tables e below (T27.setTop (mkF m 174 #[.val (.int p0), .val (.int p1), .unset, .unset, .unset, .unset, .unset, .unset, .unset, .unset, .unset, .unset] [(.int (26 : Int32)), (.ref b1), (.ref b1)])) _
    refine X27.ldcInt hx hown (mvT hZ (hw _ (List.mem_of_getElem? (i := 2) rfl))) (g := (mkF m 174 #[.val (.int p0), .val (.int p1), .unset, .unset, .unset, .unset, .unset, .unset, .unset, .unset, .unset, .unset] [(.int (26 : Int32)), (.ref b1), (.ref b1)])) rfl (hb hby at_174) _ ?_
    exact kt
  obtain ⟨T28, h28, Lq28, X28, N28, e28, W28, Z28, Aq28, st28⟩ := own_stI X27 hx hZ e27 Ab1_27 (j := (26 : Int32)) (by decide) (k := 26) (by decide) (Nat.le_of_ble_eq_true rfl) N27 g1 Z27 (g := (mkF m 176 #[.val (.int p0), .val (.int p1), .unset, .unset, .unset, .unset, .unset, .unset, .unset, .unset, .unset, .unset] [(.int (55296 : Int32)), (.int (26 : Int32)), (.ref b1), (.ref b1)])) rfl rfl (hb hby at_176)
  have Ab1_28 : own_A Z h28 b1 .int [(.int (-2147483648 : Int32)), (.int (58 : Int32)), (.int (59 : Int32)), (.int (65 : Int32)), (.int (91 : Int32)), (.int (95 : Int32)), (.int (96 : Int32)), (.int (97 : Int32)), (.int (123 : Int32)), (.int (192 : Int32)), (.int (215 : Int32)), (.int (216 : Int32)), (.int (247 : Int32)), (.int (248 : Int32)), (.int (768 : Int32)), (.int (880 : Int32)), (.int (894 : Int32)), (.int (895 : Int32)), (.int (8192 : Int32)), (.int (8204 : Int32)), (.int (8206 : Int32)), (.int (8304 : Int32)), (.int (8592 : Int32)), (.int (11264 : Int32)), (.int (12272 : Int32)), (.int (12289 : Int32)), (.int (55296 : Int32)), (.int (0 : Int32)), (.int (0 : Int32)), (.int (0 : Int32)), (.int (0 : Int32)), (.int (0 : Int32)), (.int (0 : Int32))] := Aq28
  refine own_step (T' := T28) (f' := (mkF m 177 #[.val (.int p0), .val (.int p1), .unset, .unset, .unset, .unset, .unset, .unset, .unset, .unset, .unset, .unset] [(.ref b1)])) st28 ?_
  refine own_step (T' := T28) (f' := (mkF m 182 #[.val (.int p0), .val (.int p1), .unset, .unset, .unset, .unset, .unset, .unset, .unset, .unset, .unset, .unset] [(.int (63744 : Int32)), (.int (27 : Int32)), (.ref b1), (.ref b1)])) (fun t kt => ?_) ?_
  · show Steps p.tables e below (T28.setTop (mkF m 177 #[.val (.int p0), .val (.int p1), .unset, .unset, .unset, .unset, .unset, .unset, .unset, .unset, .unset, .unset] [(.ref b1)])) _
    refine XS.dup X28.here hx rfl (hb hby at_177) rfl rfl ?_
    show Steps p.tables e below (T28.setTop (mkF m 178 #[.val (.int p0), .val (.int p1), .unset, .unset, .unset, .unset, .unset, .unset, .unset, .unset, .unset, .unset] [(.ref b1), (.ref b1)])) _
    refine XS.bipush X28.here hx rfl (hb hby at_178) ?_
    show Steps p.tables e below (T28.setTop (mkF m 180 #[.val (.int p0), .val (.int p1), .unset, .unset, .unset, .unset, .unset, .unset, .unset, .unset, .unset, .unset] [(.int (27 : Int32)), (.ref b1), (.ref b1)])) _
    refine X28.ldcInt hx hown (mvT hZ (hw _ (List.mem_of_getElem? (i := 3) rfl))) (g := (mkF m 180 #[.val (.int p0), .val (.int p1), .unset, .unset, .unset, .unset, .unset, .unset, .unset, .unset, .unset, .unset] [(.int (27 : Int32)), (.ref b1), (.ref b1)])) rfl (hb hby at_180) _ ?_
    exact kt
  obtain ⟨T29, h29, Lq29, X29, N29, e29, W29, Z29, Aq29, st29⟩ := own_stI X28 hx hZ e28 Ab1_28 (j := (27 : Int32)) (by decide) (k := 27) (by decide) (Nat.le_of_ble_eq_true rfl) N28 g1 Z28 (g := (mkF m 182 #[.val (.int p0), .val (.int p1), .unset, .unset, .unset, .unset, .unset, .unset, .unset, .unset, .unset, .unset] [(.int (63744 : Int32)), (.int (27 : Int32)), (.ref b1), (.ref b1)])) rfl rfl (hb hby at_182)
  have Ab1_29 : own_A Z h29 b1 .int [(.int (-2147483648 : Int32)), (.int (58 : Int32)), (.int (59 : Int32)), (.int (65 : Int32)), (.int (91 : Int32)), (.int (95 : Int32)), (.int (96 : Int32)), (.int (97 : Int32)), (.int (123 : Int32)), (.int (192 : Int32)), (.int (215 : Int32)), (.int (216 : Int32)), (.int (247 : Int32)), (.int (248 : Int32)), (.int (768 : Int32)), (.int (880 : Int32)), (.int (894 : Int32)), (.int (895 : Int32)), (.int (8192 : Int32)), (.int (8204 : Int32)), (.int (8206 : Int32)), (.int (8304 : Int32)), (.int (8592 : Int32)), (.int (11264 : Int32)), (.int (12272 : Int32)), (.int (12289 : Int32)), (.int (55296 : Int32)), (.int (63744 : Int32)), (.int (0 : Int32)), (.int (0 : Int32)), (.int (0 : Int32)), (.int (0 : Int32)), (.int (0 : Int32))] := Aq29
  refine own_step (T' := T29) (f' := (mkF m 183 #[.val (.int p0), .val (.int p1), .unset, .unset, .unset, .unset, .unset, .unset, .unset, .unset, .unset, .unset] [(.ref b1)])) st29 ?_
  refine own_step (T' := T29) (f' := (mkF m 188 #[.val (.int p0), .val (.int p1), .unset, .unset, .unset, .unset, .unset, .unset, .unset, .unset, .unset, .unset] [(.int (64976 : Int32)), (.int (28 : Int32)), (.ref b1), (.ref b1)])) (fun t kt => ?_) ?_
  · show Steps p.tables e below (T29.setTop (mkF m 183 #[.val (.int p0), .val (.int p1), .unset, .unset, .unset, .unset, .unset, .unset, .unset, .unset, .unset, .unset] [(.ref b1)])) _
    refine XS.dup X29.here hx rfl (hb hby at_183) rfl rfl ?_
    show Steps p.tables e below (T29.setTop (mkF m 184 #[.val (.int p0), .val (.int p1), .unset, .unset, .unset, .unset, .unset, .unset, .unset, .unset, .unset, .unset] [(.ref b1), (.ref b1)])) _
    refine XS.bipush X29.here hx rfl (hb hby at_184) ?_
    show Steps p.tables e below (T29.setTop (mkF m 186 #[.val (.int p0), .val (.int p1), .unset, .unset, .unset, .unset, .unset, .unset, .unset, .unset, .unset, .unset] [(.int (28 : Int32)), (.ref b1), (.ref b1)])) _
    refine X29.ldcInt hx hown (mvT hZ (hw _ (List.mem_of_getElem? (i := 4) rfl))) (g := (mkF m 186 #[.val (.int p0), .val (.int p1), .unset, .unset, .unset, .unset, .unset, .unset, .unset, .unset, .unset, .unset] [(.int (28 : Int32)), (.ref b1), (.ref b1)])) rfl (hb hby at_186) _ ?_
    exact kt
  obtain ⟨T30, h30, Lq30, X30, N30, e30, W30, Z30, Aq30, st30⟩ := own_stI X29 hx hZ e29 Ab1_29 (j := (28 : Int32)) (by decide) (k := 28) (by decide) (Nat.le_of_ble_eq_true rfl) N29 g1 Z29 (g := (mkF m 188 #[.val (.int p0), .val (.int p1), .unset, .unset, .unset, .unset, .unset, .unset, .unset, .unset, .unset, .unset] [(.int (64976 : Int32)), (.int (28 : Int32)), (.ref b1), (.ref b1)])) rfl rfl (hb hby at_188)
  have Ab1_30 : own_A Z h30 b1 .int [(.int (-2147483648 : Int32)), (.int (58 : Int32)), (.int (59 : Int32)), (.int (65 : Int32)), (.int (91 : Int32)), (.int (95 : Int32)), (.int (96 : Int32)), (.int (97 : Int32)), (.int (123 : Int32)), (.int (192 : Int32)), (.int (215 : Int32)), (.int (216 : Int32)), (.int (247 : Int32)), (.int (248 : Int32)), (.int (768 : Int32)), (.int (880 : Int32)), (.int (894 : Int32)), (.int (895 : Int32)), (.int (8192 : Int32)), (.int (8204 : Int32)), (.int (8206 : Int32)), (.int (8304 : Int32)), (.int (8592 : Int32)), (.int (11264 : Int32)), (.int (12272 : Int32)), (.int (12289 : Int32)), (.int (55296 : Int32)), (.int (63744 : Int32)), (.int (64976 : Int32)), (.int (0 : Int32)), (.int (0 : Int32)), (.int (0 : Int32)), (.int (0 : Int32))] := Aq30
  refine own_step (T' := T30) (f' := (mkF m 189 #[.val (.int p0), .val (.int p1), .unset, .unset, .unset, .unset, .unset, .unset, .unset, .unset, .unset, .unset] [(.ref b1)])) st30 ?_
  refine own_step (T' := T30) (f' := (mkF m 194 #[.val (.int p0), .val (.int p1), .unset, .unset, .unset, .unset, .unset, .unset, .unset, .unset, .unset, .unset] [(.int (65008 : Int32)), (.int (29 : Int32)), (.ref b1), (.ref b1)])) (fun t kt => ?_) ?_
  · show Steps p.tables e below (T30.setTop (mkF m 189 #[.val (.int p0), .val (.int p1), .unset, .unset, .unset, .unset, .unset, .unset, .unset, .unset, .unset, .unset] [(.ref b1)])) _
    refine XS.dup X30.here hx rfl (hb hby at_189) rfl rfl ?_
    show Steps p.tables e below (T30.setTop (mkF m 190 #[.val (.int p0), .val (.int p1), .unset, .unset, .unset, .unset, .unset, .unset, .unset, .unset, .unset, .unset] [(.ref b1), (.ref b1)])) _
    refine XS.bipush X30.here hx rfl (hb hby at_190) ?_
    show Steps p.tables e below (T30.setTop (mkF m 192 #[.val (.int p0), .val (.int p1), .unset, .unset, .unset, .unset, .unset, .unset, .unset, .unset, .unset, .unset] [(.int (29 : Int32)), (.ref b1), (.ref b1)])) _
    refine X30.ldcInt hx hown (mvT hZ (hw _ (List.mem_of_getElem? (i := 5) rfl))) (g := (mkF m 192 #[.val (.int p0), .val (.int p1), .unset, .unset, .unset, .unset, .unset, .unset, .unset, .unset, .unset, .unset] [(.int (29 : Int32)), (.ref b1), (.ref b1)])) rfl (hb hby at_192) _ ?_
    exact kt
  obtain ⟨T31, h31, Lq31, X31, N31, e31, W31, Z31, Aq31, st31⟩ := own_stI X30 hx hZ e30 Ab1_30 (j := (29 : Int32)) (by decide) (k := 29) (by decide) (Nat.le_of_ble_eq_true rfl) N30 g1 Z30 (g := (mkF m 194 #[.val (.int p0), .val (.int p1), .unset, .unset, .unset, .unset, .unset, .unset, .unset, .unset, .unset, .unset] [(.int (65008 : Int32)), (.int (29 : Int32)), (.ref b1), (.ref b1)])) rfl rfl (hb hby at_194)
  have Ab1_31 : own_A Z h31 b1 .int [(.int (-2147483648 : Int32)), (.int (58 : Int32)), (.int (59 : Int32)), (.int (65 : Int32)), (.int (91 : Int32)), (.int (95 : Int32)), (.int (96 : Int32)), (.int (97 : Int32)), (.int (123 : Int32)), (.int (192 : Int32)), (.int (215 : Int32)), (.int (216 : Int32)), (.int (247 : Int32)), (.int (248 : Int32)), (.int (768 : Int32)), (.int (880 : Int32)), (.int (894 : Int32)), (.int (895 : Int32)), (.int (8192 : Int32)), (.int (8204 : Int32)), (.int (8206 : Int32)), (.int (8304 : Int32)), (.int (8592 : Int32)), (.int (11264 : Int32)), (.int (12272 : Int32)), (.int (12289 : Int32)), (.int (55296 : Int32)), (.int (63744 : Int32)), (.int (64976 : Int32)), (.int (65008 : Int32)), (.int (0 : Int32)), (.int (0 : Int32)), (.int (0 : Int32))] := Aq31
  refine own_step (T' := T31) (f' := (mkF m 195 #[.val (.int p0), .val (.int p1), .unset, .unset, .unset, .unset, .unset, .unset, .unset, .unset, .unset, .unset] [(.ref b1)])) st31 ?_
  refine own_step (T' := T31) (f' := (mkF m 200 #[.val (.int p0), .val (.int p1), .unset, .unset, .unset, .unset, .unset, .unset, .unset, .unset, .unset, .unset] [(.int (65534 : Int32)), (.int (30 : Int32)), (.ref b1), (.ref b1)])) (fun t kt => ?_) ?_
  · show Steps p.tables e below (T31.setTop (mkF m 195 #[.val (.int p0), .val (.int p1), .unset, .unset, .unset, .unset, .unset, .unset, .unset, .unset, .unset, .unset] [(.ref b1)])) _
    refine XS.dup X31.here hx rfl (hb hby at_195) rfl rfl ?_
    show Steps p.tables e below (T31.setTop (mkF m 196 #[.val (.int p0), .val (.int p1), .unset, .unset, .unset, .unset, .unset, .unset, .unset, .unset, .unset, .unset] [(.ref b1), (.ref b1)])) _
    refine XS.bipush X31.here hx rfl (hb hby at_196) ?_
    show Steps p.tables e below (T31.setTop (mkF m 198 #[.val (.int p0), .val (.int p1), .unset, .unset, .unset, .unset, .unset, .unset, .unset, .unset, .unset, .unset] [(.int (30 : Int32)), (.ref b1), (.ref b1)])) _
    refine X31.ldcInt hx hown (mvT hZ (hw _ (List.mem_of_getElem? (i := 6) rfl))) (g := (mkF m 198 #[.val (.int p0), .val (.int p1), .unset, .unset, .unset, .unset, .unset, .unset, .unset, .unset, .unset, .unset] [(.int (30 : Int32)), (.ref b1), (.ref b1)])) rfl (hb hby at_198) _ ?_
    exact kt
  obtain ⟨T32, h32, Lq32, X32, N32, e32, W32, Z32, Aq32, st32⟩ := own_stI X31 hx hZ e31 Ab1_31 (j := (30 : Int32)) (by decide) (k := 30) (by decide) (Nat.le_of_ble_eq_true rfl) N31 g1 Z31 (g := (mkF m 200 #[.val (.int p0), .val (.int p1), .unset, .unset, .unset, .unset, .unset, .unset, .unset, .unset, .unset, .unset] [(.int (65534 : Int32)), (.int (30 : Int32)), (.ref b1), (.ref b1)])) rfl rfl (hb hby at_200)
  have Ab1_32 : own_A Z h32 b1 .int [(.int (-2147483648 : Int32)), (.int (58 : Int32)), (.int (59 : Int32)), (.int (65 : Int32)), (.int (91 : Int32)), (.int (95 : Int32)), (.int (96 : Int32)), (.int (97 : Int32)), (.int (123 : Int32)), (.int (192 : Int32)), (.int (215 : Int32)), (.int (216 : Int32)), (.int (247 : Int32)), (.int (248 : Int32)), (.int (768 : Int32)), (.int (880 : Int32)), (.int (894 : Int32)), (.int (895 : Int32)), (.int (8192 : Int32)), (.int (8204 : Int32)), (.int (8206 : Int32)), (.int (8304 : Int32)), (.int (8592 : Int32)), (.int (11264 : Int32)), (.int (12272 : Int32)), (.int (12289 : Int32)), (.int (55296 : Int32)), (.int (63744 : Int32)), (.int (64976 : Int32)), (.int (65008 : Int32)), (.int (65534 : Int32)), (.int (0 : Int32)), (.int (0 : Int32))] := Aq32
  refine own_step (T' := T32) (f' := (mkF m 201 #[.val (.int p0), .val (.int p1), .unset, .unset, .unset, .unset, .unset, .unset, .unset, .unset, .unset, .unset] [(.ref b1)])) st32 ?_
  refine own_step (T' := T32) (f' := (mkF m 206 #[.val (.int p0), .val (.int p1), .unset, .unset, .unset, .unset, .unset, .unset, .unset, .unset, .unset, .unset] [(.int (65536 : Int32)), (.int (31 : Int32)), (.ref b1), (.ref b1)])) (fun t kt => ?_) ?_
  · show Steps p.tables e below (T32.setTop (mkF m 201 #[.val (.int p0), .val (.int p1), .unset, .unset, .unset, .unset, .unset, .unset, .unset, .unset, .unset, .unset] [(.ref b1)])) _
    refine XS.dup X32.here hx rfl (hb hby at_201) rfl rfl ?_
    show Steps p.tables e below (T32.setTop (mkF m 202 #[.val (.int p0), .val (.int p1), .unset, .unset, .unset, .unset, .unset, .unset, .unset, .unset, .unset, .unset] [(.ref b1), (.ref b1)])) _
    refine XS.bipush X32.here hx rfl (hb hby at_202) ?_
    show Steps p.tables e below (T32.setTop (mkF m 204 #[.val (.int p0), .val (.int p1), .unset, .unset, .unset, .unset, .unset, .unset, .unset, .unset, .unset, .unset] [(.int (31 : Int32)), (.ref b1), (.ref b1)])) _
    refine X32.ldcInt hx hown (mvT hZ (hw _ (List.mem_of_getElem? (i := 7) rfl))) (g := (mkF m 204 #[.val (.int p0), .val (.int p1), .unset, .unset, .unset, .unset, .unset, .unset, .unset, .unset, .unset, .unset] [(.int (31 : Int32)), (.ref b1), (.ref b1)])) rfl (hb hby at_204) _ ?_
    exact kt
  obtain ⟨T33, h33, Lq33, X33, N33, e33, W33, Z33, Aq33, st33⟩ := own_stI X32 hx hZ e32 Ab1_32 (j := (31 : Int32)) (by decide) (k := 31) (by decide) (Nat.le_of_ble_eq_true rfl) N32 g1 Z32 (g := (mkF m 206 #[.val (.int p0), .val (.int p1), .unset, .unset, .unset, .unset, .unset, .unset, .unset, .unset, .unset, .unset] [(.int (65536 : Int32)), (.int (31 : Int32)), (.ref b1), (.ref b1)])) rfl rfl (hb hby at_206)
  have Ab1_33 : own_A Z h33 b1 .int [(.int (-2147483648 : Int32)), (.int (58 : Int32)), (.int (59 : Int32)), (.int (65 : Int32)), (.int (91 : Int32)), (.int (95 : Int32)), (.int (96 : Int32)), (.int (97 : Int32)), (.int (123 : Int32)), (.int (192 : Int32)), (.int (215 : Int32)), (.int (216 : Int32)), (.int (247 : Int32)), (.int (248 : Int32)), (.int (768 : Int32)), (.int (880 : Int32)), (.int (894 : Int32)), (.int (895 : Int32)), (.int (8192 : Int32)), (.int (8204 : Int32)), (.int (8206 : Int32)), (.int (8304 : Int32)), (.int (8592 : Int32)), (.int (11264 : Int32)), (.int (12272 : Int32)), (.int (12289 : Int32)), (.int (55296 : Int32)), (.int (63744 : Int32)), (.int (64976 : Int32)), (.int (65008 : Int32)), (.int (65534 : Int32)), (.int (65536 : Int32)), (.int (0 : Int32))] := Aq33
  refine own_step (T' := T33) (f' := (mkF m 207 #[.val (.int p0), .val (.int p1), .unset, .unset, .unset, .unset, .unset, .unset, .unset, .unset, .unset, .unset] [(.ref b1)])) st33 ?_
  refine own_step (T' := T33) (f' := (mkF m 212 #[.val (.int p0), .val (.int p1), .unset, .unset, .unset, .unset, .unset, .unset, .unset, .unset, .unset, .unset] [(.int (983040 : Int32)), (.int (32 : Int32)), (.ref b1), (.ref b1)])) (fun t kt => ?_) ?_
  · show Steps p.tables e below (T33.setTop (mkF m 207 #[.val (.int p0), .val (.int p1), .unset, .unset, .unset, .unset, .unset, .unset, .unset, .unset, .unset, .unset] [(.ref b1)])) _
    refine XS.dup X33.here hx rfl (hb hby at_207) rfl rfl ?_
    show Steps p.tables e below (T33.setTop (mkF m 208 #[.val (.int p0), .val (.int p1), .unset, .unset, .unset, .unset, .unset, .unset, .unset, .unset, .unset, .unset] [(.ref b1), (.ref b1)])) _
    refine XS.bipush X33.here hx rfl (hb hby at_208) ?_
    show Steps p.tables e below (T33.setTop (mkF m 210 #[.val (.int p0), .val (.int p1), .unset, .unset, .unset, .unset, .unset, .unset, .unset, .unset, .unset, .unset] [(.int (32 : Int32)), (.ref b1), (.ref b1)])) _
    refine X33.ldcInt hx hown (mvT hZ (hw _ (List.mem_of_getElem? (i := 8) rfl))) (g := (mkF m 210 #[.val (.int p0), .val (.int p1), .unset, .unset, .unset, .unset, .unset, .unset, .unset, .unset, .unset, .unset] [(.int (32 : Int32)), (.ref b1), (.ref b1)])) rfl (hb hby at_210) _ ?_
    exact kt
  obtain ⟨T34, h34, Lq34, X34, N34, e34, W34, Z34, Aq34, st34⟩ := own_stI X33 hx hZ e33 Ab1_33 (j := (32 : Int32)) (by decide) (k := 32) (by decide) (Nat.le_of_ble_eq_true rfl) N33 g1 Z33 (g := (mkF m 212 #[.val (.int p0), .val (.int p1), .unset, .unset, .unset, .unset, .unset, .unset, .unset, .unset, .unset, .unset] [(.int (983040 : Int32)), (.int (32 : Int32)), (.ref b1), (.ref b1)])) rfl rfl (hb hby at_212)
  have Ab1_34 : own_A Z h34 b1 .int [(.int (-2147483648 : Int32)), (.int (58 : Int32)), (.int (59 : Int32)), (.int (65 : Int32)), (.int (91 : Int32)), (.int (95 : Int32)), (.int (96 : Int32)), (.int (97 : Int32)), (.int (123 : Int32)), (.int (192 : Int32)), (.int (215 : Int32)), (.int (216 : Int32)), (.int (247 : Int32)), (.int (248 : Int32)), (.int (768 : Int32)), (.int (880 : Int32)), (.int (894 : Int32)), (.int (895 : Int32)), (.int (8192 : Int32)), (.int (8204 : Int32)), (.int (8206 : Int32)), (.int (8304 : Int32)), (.int (8592 : Int32)), (.int (11264 : Int32)), (.int (12272 : Int32)), (.int (12289 : Int32)), (.int (55296 : Int32)), (.int (63744 : Int32)), (.int (64976 : Int32)), (.int (65008 : Int32)), (.int (65534 : Int32)), (.int (65536 : Int32)), (.int (983040 : Int32))] := Aq34
  refine own_step (T' := T34) (f' := (mkF m 213 #[.val (.int p0), .val (.int p1), .unset, .unset, .unset, .unset, .unset, .unset, .unset, .unset, .unset, .unset] [(.ref b1)])) st34 ?_
  refine own_step (T' := T34) (f' := (mkF m 230 #[.val (.int p0), .val (.int p1), .val (.ref b1), .val (.int ((p0 &&& (2147483647 : Int32)) - (p0 &&& (2147483647 : Int32)) / (33 : Int32) * (33 : Int32))), .val (.int (own_tab ((p0 &&& (2147483647 : Int32)) - (p0 &&& (2147483647 : Int32)) / (33 : Int32) * (33 : Int32)))), .unset, .unset, .unset, .unset, .unset, .unset, .unset] [(.int (32 : Int32)), (.int ((p0 &&& (2147483647 : Int32)) - (p0 &&& (2147483647 : Int32)) / (33 : Int32) * (33 : Int32)))])) (fun t kt => ?_) ?_
  · show Steps p.tables e below (T34.setTop (mkF m 213 #[.val (.int p0), .val (.int p1), .unset, .unset, .unset, .unset, .unset, .unset, .unset, .unset, .unset, .unset] [(.ref b1)])) _
    refine XS.astoreN X34.here hx rfl (hb hby at_213) rfl rfl (l' := #[.val (.int p0), .val (.int p1), .val (.ref b1), .unset, .unset, .unset, .unset, .unset, .unset, .unset, .unset, .unset]) rfl ?_
    show Steps p.tables e below (T34.setTop (mkF m 214 #[.val (.int p0), .val (.int p1), .val (.ref b1), .unset, .unset, .unset, .unset, .unset, .unset, .unset, .unset, .unset] [])) _
    refine XS.iloadN X34.here hx rfl (hb hby at_214) rfl ?_
    show Steps p.tables e below (T34.setTop (mkF m 215 #[.val (.int p0), .val (.int p1), .val (.ref b1), .unset, .unset, .unset, .unset, .unset, .unset, .unset, .unset, .unset] [(.int p0)])) _
    refine X34.ldcInt hx hown (mvT hZ (hw _ (List.mem_of_getElem? (i := 9) rfl))) (g := (mkF m 215 #[.val (.int p0), .val (.int p1), .val (.ref b1), .unset, .unset, .unset, .unset, .unset, .unset, .unset, .unset, .unset] [(.int p0)])) rfl (hb hby at_215) _ ?_
    show Steps p.tables e below (T34.setTop (mkF m 217 #[.val (.int p0), .val (.int p1), .val (.ref b1), .unset, .unset, .unset, .unset, .unset, .unset, .unset, .unset, .unset] [(.int (2147483647 : Int32)), (.int p0)])) _
    refine XS.iand X34.here hx rfl (hb hby at_217) rfl ?_
    show Steps p.tables e below (T34.setTop (mkF m 218 #[.val (.int p0), .val (.int p1), .val (.ref b1), .unset, .unset, .unset, .unset, .unset, .unset, .unset, .unset, .unset] [(.int (p0 &&& (2147483647 : Int32)))])) _
    refine XS.bipush X34.here hx rfl (hb hby at_218) ?_
    show Steps p.tables e below (T34.setTop (mkF m 220 #[.val (.int p0), .val (.int p1), .val (.ref b1), .unset, .unset, .unset, .unset, .unset, .unset, .unset, .unset, .unset] [(.int (33 : Int32)), (.int (p0 &&& (2147483647 : Int32)))])) _
    refine XS.irem X34.here hx rfl (hb hby at_220) rfl (by decide) ?_
    show Steps p.tables e below (T34.setTop (mkF m 221 #[.val (.int p0), .val (.int p1), .val (.ref b1), .unset, .unset, .unset, .unset, .unset, .unset, .unset, .unset, .unset] [(.int ((p0 &&& (2147483647 : Int32)) - (p0 &&& (2147483647 : Int32)) / (33 : Int32) * (33 : Int32)))])) _
    refine XS.istoreN X34.here hx rfl (hb hby at_221) rfl (l' := #[.val (.int p0), .val (.int p1), .val (.ref b1), .val (.int ((p0 &&& (2147483647 : Int32)) - (p0 &&& (2147483647 : Int32)) / (33 : Int32) * (33 : Int32))), .unset, .unset, .unset, .unset, .unset, .unset, .unset, .unset]) rfl ?_
    show Steps p.tables e below (T34.setTop (mkF m 222 #[.val (.int p0), .val (.int p1), .val (.ref b1), .val (.int ((p0 &&& (2147483647 : Int32)) - (p0 &&& (2147483647 : Int32)) / (33 : Int32) * (33 : Int32))), .unset, .unset, .unset, .unset, .unset, .unset, .unset, .unset] [])) _
    refine XS.aloadN X34.here hx rfl (hb hby at_222) rfl rfl ?_
    show Steps p.tables e below (T34.setTop (mkF m 223 #[.val (.int p0), .val (.int p1), .val (.ref b1), .val (.int ((p0 &&& (2147483647 : Int32)) - (p0 &&& (2147483647 : Int32)) / (33 : Int32) * (33 : Int32))), .unset, .unset, .unset, .unset, .unset, .unset, .unset, .unset] [(.ref b1)])) _
    refine XS.iloadN X34.here hx rfl (hb hby at_223) rfl ?_
    show Steps p.tables e below (T34.setTop (mkF m 224 #[.val (.int p0), .val (.int p1), .val (.ref b1), .val (.int ((p0 &&& (2147483647 : Int32)) - (p0 &&& (2147483647 : Int32)) / (33 : Int32) * (33 : Int32))), .unset, .unset, .unset, .unset, .unset, .unset, .unset, .unset] [(.int ((p0 &&& (2147483647 : Int32)) - (p0 &&& (2147483647 : Int32)) / (33 : Int32) * (33 : Int32))), (.ref b1)])) _
    refine own_ldI X34 hx hZ e34 (show own_A Z h34 b1 .int own_vals from Ab1_34) (j := ((p0 &&& (2147483647 : Int32)) - (p0 &&& (2147483647 : Int32)) / (33 : Int32) * (33 : Int32))) (own_ix p0).1 (k := _) rfl (v := (.int (own_tab ((p0 &&& (2147483647 : Int32)) - (p0 &&& (2147483647 : Int32)) / (33 : Int32) * (33 : Int32))))) (own_tabv _ (own_ix p0).1 (own_ix p0).2) (g := (mkF m 224 #[.val (.int p0), .val (.int p1), .val (.ref b1), .val (.int ((p0 &&& (2147483647 : Int32)) - (p0 &&& (2147483647 : Int32)) / (33 : Int32) * (33 : Int32))), .unset, .unset, .unset, .unset, .unset, .unset, .unset, .unset] [(.int ((p0 &&& (2147483647 : Int32)) - (p0 &&& (2147483647 : Int32)) / (33 : Int32) * (33 : Int32))), (.ref b1)])) rfl rfl (hb hby at_224) _ ?_
    show Steps p.tables e below (T34.setTop (mkF m 225 #[.val (.int p0), .val (.int p1), .val (.ref b1), .val (.int ((p0 &&& (2147483647 : Int32)) - (p0 &&& (2147483647 : Int32)) / (33 : Int32) * (33 : Int32))), .unset, .unset, .unset, .unset, .unset, .unset, .unset, .unset] [(.int (own_tab ((p0 &&& (2147483647 : Int32)) - (p0 &&& (2147483647 : Int32)) / (33 : Int32) * (33 : Int32))))])) _
    refine XS.istore X34.here hx rfl (hb hby at_225) rfl (l' := #[.val (.int p0), .val (.int p1), .val (.ref b1), .val (.int ((p0 &&& (2147483647 : Int32)) - (p0 &&& (2147483647 : Int32)) / (33 : Int32) * (33 : Int32))), .val (.int (own_tab ((p0 &&& (2147483647 : Int32)) - (p0 &&& (2147483647 : Int32)) / (33 : Int32) * (33 : Int32)))), .unset, .unset, .unset, .unset, .unset, .unset, .unset]) rfl ?_
    show Steps p.tables e below (T34.setTop (mkF m 227 #[.val (.int p0), .val (.int p1), .val (.ref b1), .val (.int ((p0 &&& (2147483647 : Int32)) - (p0 &&& (2147483647 : Int32)) / (33 : Int32) * (33 : Int32))), .val (.int (own_tab ((p0 &&& (2147483647 : Int32)) - (p0 &&& (2147483647 : Int32)) / (33 : Int32) * (33 : Int32)))), .unset, .unset, .unset, .unset, .unset, .unset, .unset] [])) _
    refine XS.iloadN X34.here hx rfl (hb hby at_227) rfl ?_
    show Steps p.tables e below (T34.setTop (mkF m 228 #[.val (.int p0), .val (.int p1), .val (.ref b1), .val (.int ((p0 &&& (2147483647 : Int32)) - (p0 &&& (2147483647 : Int32)) / (33 : Int32) * (33 : Int32))), .val (.int (own_tab ((p0 &&& (2147483647 : Int32)) - (p0 &&& (2147483647 : Int32)) / (33 : Int32) * (33 : Int32)))), .unset, .unset, .unset, .unset, .unset, .unset, .unset] [(.int ((p0 &&& (2147483647 : Int32)) - (p0 &&& (2147483647 : Int32)) / (33 : Int32) * (33 : Int32)))])) _
    refine XS.bipush X34.here hx rfl (hb hby at_228) ?_
    exact kt
  by_cases hc230_35 : ((p0 &&& (2147483647 : Int32)) - (p0 &&& (2147483647 : Int32)) / (33 : Int32) * (33 : Int32)) = (32 : Int32)
  · replace hr := hr.trans (if_pos hc230_35)
    refine own_step (T' := T34) (f' := (mkF m 233 #[.val (.int p0), .val (.int p1), .val (.ref b1), .val (.int ((p0 &&& (2147483647 : Int32)) - (p0 &&& (2147483647 : Int32)) / (33 : Int32) * (33 : Int32))), .val (.int (own_tab ((p0 &&& (2147483647 : Int32)) - (p0 &&& (2147483647 : Int32)) / (33 : Int32) * (33 : Int32)))), .unset, .unset, .unset, .unset, .unset, .unset, .unset] [])) (fun t kt => ?_) ?_
    · show Steps p.tables e below (T34.setTop (mkF m 230 #[.val (.int p0), .val (.int p1), .val (.ref b1), .val (.int ((p0 &&& (2147483647 : Int32)) - (p0 &&& (2147483647 : Int32)) / (33 : Int32) * (33 : Int32))), .val (.int (own_tab ((p0 &&& (2147483647 : Int32)) - (p0 &&& (2147483647 : Int32)) / (33 : Int32) * (33 : Int32)))), .unset, .unset, .unset, .unset, .unset, .unset, .unset] [(.int (32 : Int32)), (.int ((p0 &&& (2147483647 : Int32)) - (p0 &&& (2147483647 : Int32)) / (33 : Int32) * (33 : Int32)))])) _
      refine XS.icmpNo X34.here hx rfl (hb hby at_230) rfl (teq hc230_35).2 kt
    refine own_step (T' := T34) (f' := (mkF m 245 #[.val (.int p0), .val (.int p1), .val (.ref b1), .val (.int ((p0 &&& (2147483647 : Int32)) - (p0 &&& (2147483647 : Int32)) / (33 : Int32) * (33 : Int32))), .val (.int (own_tab ((p0 &&& (2147483647 : Int32)) - (p0 &&& (2147483647 : Int32)) / (33 : Int32) * (33 : Int32)))), .unset, .unset, .unset, .unset, .unset, .unset, .unset] [(.int (2147483647 : Int32))])) (fun t kt => ?_) ?_
    · show Steps p.tables e below (T34.setTop (mkF m 233 #[.val (.int p0), .val (.int p1), .val (.ref b1), .val (.int ((p0 &&& (2147483647 : Int32)) - (p0 &&& (2147483647 : Int32)) / (33 : Int32) * (33 : Int32))), .val (.int (own_tab ((p0 &&& (2147483647 : Int32)) - (p0 &&& (2147483647 : Int32)) / (33 : Int32) * (33 : Int32)))), .unset, .unset, .unset, .unset, .unset, .unset, .unset] [])) _
      refine X34.ldcInt hx hown (mvT hZ (hw _ (List.mem_of_getElem? (i := 9) rfl))) (g := (mkF m 233 #[.val (.int p0), .val (.int p1), .val (.ref b1), .val (.int ((p0 &&& (2147483647 : Int32)) - (p0 &&& (2147483647 : Int32)) / (33 : Int32) * (33 : Int32))), .val (.int (own_tab ((p0 &&& (2147483647 : Int32)) - (p0 &&& (2147483647 : Int32)) / (33 : Int32) * (33 : Int32)))), .unset, .unset, .unset, .unset, .unset, .unset, .unset] [])) rfl (hb hby at_233) _ ?_
      show Steps p.tables e below (T34.setTop (mkF m 235 #[.val (.int p0), .val (.int p1), .val (.ref b1), .val (.int ((p0 &&& (2147483647 : Int32)) - (p0 &&& (2147483647 : Int32)) / (33 : Int32) * (33 : Int32))), .val (.int (own_tab ((p0 &&& (2147483647 : Int32)) - (p0 &&& (2147483647 : Int32)) / (33 : Int32) * (33 : Int32)))), .unset, .unset, .unset, .unset, .unset, .unset, .unset] [(.int (2147483647 : Int32))])) _
      refine XS.goto X34.here hx rfl (pc0 := 235) (pc' := 245) rfl (hb hby at_235) (by decide) (by decide) ?_
      exact kt
    exact b0_245 p0 p1 b1 ((p0 &&& (2147483647 : Int32)) - (p0 &&& (2147483647 : Int32)) / (33 : Int32) * (33 : Int32)) (own_tab ((p0 &&& (2147483647 : Int32)) - (p0 &&& (2147483647 : Int32)) / (33 : Int32) * (33 : Int32))) (2147483647 : Int32) X34 hx hZ hw hby hml hown hret hlk e34 N34 Z34 (own_ne32 p0 hc230_35) hr
  · replace hr := hr.trans (if_neg hc230_35)
    refine own_step (T' := T34) (f' := (mkF m 238 #[.val (.int p0), .val (.int p1), .val (.ref b1), .val (.int ((p0 &&& (2147483647 : Int32)) - (p0 &&& (2147483647 : Int32)) / (33 : Int32) * (33 : Int32))), .val (.int (own_tab ((p0 &&& (2147483647 : Int32)) - (p0 &&& (2147483647 : Int32)) / (33 : Int32) * (33 : Int32)))), .unset, .unset, .unset, .unset, .unset, .unset, .unset] [])) (fun t kt => ?_) ?_
    · show Steps p.tables e below (T34.setTop (mkF m 230 #[.val (.int p0), .val (.int p1), .val (.ref b1), .val (.int ((p0 &&& (2147483647 : Int32)) - (p0 &&& (2147483647 : Int32)) / (33 : Int32) * (33 : Int32))), .val (.int (own_tab ((p0 &&& (2147483647 : Int32)) - (p0 &&& (2147483647 : Int32)) / (33 : Int32) * (33 : Int32)))), .unset, .unset, .unset, .unset, .unset, .unset, .unset] [(.int (32 : Int32)), (.int ((p0 &&& (2147483647 : Int32)) - (p0 &&& (2147483647 : Int32)) / (33 : Int32) * (33 : Int32)))])) _
      refine XS.icmpYes X34.here hx rfl (pc0 := 230) (pc' := 238) rfl (hb hby at_230) rfl (feq hc230_35).2 (by decide) (by decide) kt
    refine own_step (T' := T34) (f' := (mkF m 245 #[.val (.int p0), .val (.int p1), .val (.ref b1), .val (.int ((p0 &&& (2147483647 : Int32)) - (p0 &&& (2147483647 : Int32)) / (33 : Int32) * (33 : Int32))), .val (.int (own_tab ((p0 &&& (2147483647 : Int32)) - (p0 &&& (2147483647 : Int32)) / (33 : Int32) * (33 : Int32)))), .unset, .unset, .unset, .unset, .unset, .unset, .unset] [(.int ((own_tab (((p0 &&& (2147483647 : Int32)) - (p0 &&& (2147483647 : Int32)) / (33 : Int32) * (33 : Int32)) + (1 : Int32))) - (1 : Int32)))])) (fun t kt => ?_) ?_
    · show Steps p.tables e below (T34.setTop (mkF m 238 #[.val (.int p0), .val (.int p1), .val (.ref b1), .val (.int ((p0 &&& (2147483647 : Int32)) - (p0 &&& (2147483647 : Int32)) / (33 : Int32) * (33 : Int32))), .val (.int (own_tab ((p0 &&& (2147483647 : Int32)) - (p0 &&& (2147483647 : Int32)) / (33 : Int32) * (33 : Int32)))), .unset, .unset, .unset, .unset, .unset, .unset, .unset] [])) _
      refine XS.aloadN X34.here hx rfl (hb hby at_238) rfl rfl ?_
      show Steps p.tables e below (T34.setTop (mkF m 239 #[.val (.int p0), .val (.int p1), .val (.ref b1), .val (.int ((p0 &&& (2147483647 : Int32)) - (p0 &&& (2147483647 : Int32)) / (33 : Int32) * (33 : Int32))), .val (.int (own_tab ((p0 &&& (2147483647 : Int32)) - (p0 &&& (2147483647 : Int32)) / (33 : Int32) * (33 : Int32)))), .unset, .unset, .unset, .unset, .unset, .unset, .unset] [(.ref b1)])) _
      refine XS.iloadN X34.here hx rfl (hb hby at_239) rfl ?_
      show Steps p.tables e below (T34.setTop (mkF m 240 #[.val (.int p0), .val (.int p1), .val (.ref b1), .val (.int ((p0 &&& (2147483647 : Int32)) - (p0 &&& (2147483647 : Int32)) / (33 : Int32) * (33 : Int32))), .val (.int (own_tab ((p0 &&& (2147483647 : Int32)) - (p0 &&& (2147483647 : Int32)) / (33 : Int32) * (33 : Int32)))), .unset, .unset, .unset, .unset, .unset, .unset, .unset] [(.int ((p0 &&& (2147483647 : Int32)) - (p0 &&& (2147483647 : Int32)) / (33 : Int32) * (33 : Int32))), (.ref b1)])) _
      refine XS.iconst X34.here hx rfl (hb hby at_240) ?_
      show Steps p.tables e below (T34.setTop (mkF m 241 #[.val (.int p0), .val (.int p1), .val (.ref b1), .val (.int ((p0 &&& (2147483647 : Int32)) - (p0 &&& (2147483647 : Int32)) / (33 : Int32) * (33 : Int32))), .val (.int (own_tab ((p0 &&& (2147483647 : Int32)) - (p0 &&& (2147483647 : Int32)) / (33 : Int32) * (33 : Int32)))), .unset, .unset, .unset, .unset, .unset, .unset, .unset] [(.int (1 : Int32)), (.int ((p0 &&& (2147483647 : Int32)) - (p0 &&& (2147483647 : Int32)) / (33 : Int32) * (33 : Int32))), (.ref b1)])) _
      refine XS.iadd X34.here hx rfl (hb hby at_241) rfl ?_
      show Steps p.tables e below (T34.setTop (mkF m 242 #[.val (.int p0), .val (.int p1), .val (.ref b1), .val (.int ((p0 &&& (2147483647 : Int32)) - (p0 &&& (2147483647 : Int32)) / (33 : Int32) * (33 : Int32))), .val (.int (own_tab ((p0 &&& (2147483647 : Int32)) - (p0 &&& (2147483647 : Int32)) / (33 : Int32) * (33 : Int32)))), .unset, .unset, .unset, .unset, .unset, .unset, .unset] [(.int (((p0 &&& (2147483647 : Int32)) - (p0 &&& (2147483647 : Int32)) / (33 : Int32) * (33 : Int32)) + (1 : Int32))), (.ref b1)])) _
      refine own_ldI X34 hx hZ e34 (show own_A Z h34 b1 .int own_vals from Ab1_34) (j := (((p0 &&& (2147483647 : Int32)) - (p0 &&& (2147483647 : Int32)) / (33 : Int32) * (33 : Int32)) + (1 : Int32))) (own_ix1 p0 hc230_35).1 (k := _) rfl (v := (.int (own_tab (((p0 &&& (2147483647 : Int32)) - (p0 &&& (2147483647 : Int32)) / (33 : Int32) * (33 : Int32)) + (1 : Int32))))) (own_tabv _ (own_ix1 p0 hc230_35).1 (own_ix1 p0 hc230_35).2) (g := (mkF m 242 #[.val (.int p0), .val (.int p1), .val (.ref b1), .val (.int ((p0 &&& (2147483647 : Int32)) - (p0 &&& (2147483647 : Int32)) / (33 : Int32) * (33 : Int32))), .val (.int (own_tab ((p0 &&& (2147483647 : Int32)) - (p0 &&& (2147483647 : Int32)) / (33 : Int32) * (33 : Int32)))), .unset, .unset, .unset, .unset, .unset, .unset, .unset] [(.int (((p0 &&& (2147483647 : Int32)) - (p0 &&& (2147483647 : Int32)) / (33 : Int32) * (33 : Int32)) + (1 : Int32))), (.ref b1)])) rfl rfl (hb hby at_242) _ ?_
      show Steps p.tables e below (T34.setTop (mkF m 243 #[.val (.int p0), .val (.int p1), .val (.ref b1), .val (.int ((p0 &&& (2147483647 : Int32)) - (p0 &&& (2147483647 : Int32)) / (33 : Int32) * (33 : Int32))), .val (.int (own_tab ((p0 &&& (2147483647 : Int32)) - (p0 &&& (2147483647 : Int32)) / (33 : Int32) * (33 : Int32)))), .unset, .unset, .unset, .unset, .unset, .unset, .unset] [(.int (own_tab (((p0 &&& (2147483647 : Int32)) - (p0 &&& (2147483647 : Int32)) / (33 : Int32) * (33 : Int32)) + (1 : Int32))))])) _
      refine XS.iconst X34.here hx rfl (hb hby at_243) ?_
      show Steps p.tables e below (T34.setTop (mkF m 244 #[.val (.int p0), .val (.int p1), .val (.ref b1), .val (.int ((p0 &&& (2147483647 : Int32)) - (p0 &&& (2147483647 : Int32)) / (33 : Int32) * (33 : Int32))), .val (.int (own_tab ((p0 &&& (2147483647 : Int32)) - (p0 &&& (2147483647 : Int32)) / (33 : Int32) * (33 : Int32)))), .unset, .unset, .unset, .unset, .unset, .unset, .unset] [(.int (1 : Int32)), (.int (own_tab (((p0 &&& (2147483647 : Int32)) - (p0 &&& (2147483647 : Int32)) / (33 : Int32) * (33 : Int32)) + (1 : Int32))))])) _
      refine XS.isub X34.here hx rfl (hb hby at_244) rfl ?_
      exact kt
    exact b0_245 p0 p1 b1 ((p0 &&& (2147483647 : Int32)) - (p0 &&& (2147483647 : Int32)) / (33 : Int32) * (33 : Int32)) (own_tab ((p0 &&& (2147483647 : Int32)) - (p0 &&& (2147483647 : Int32)) / (33 : Int32) * (33 : Int32))) ((own_tab (((p0 &&& (2147483647 : Int32)) - (p0 &&& (2147483647 : Int32)) / (33 : Int32) * (33 : Int32)) + (1 : Int32))) - (1 : Int32)) X34 hx hZ hw hby hml hown hret hlk e34 N34 Z34 (own_ne p0 hc230_35) hr
set_option maxRecDepth 65536 in
set_option maxHeartbeats 4000000 in
theorem rm0 (l : Launch) (Z : State) (a0 : Array Value) (hw : ∀ d ∈ tables_1, d.before a0 Z = true) (ws : List Jvm.Cond) (p0 : Int32) (p1 : Int32) (h0 : Heap) (n0 : Nat) (Z0 : n0 ≤ h0.size) :
    MetFree l x (head1 (Jvm.Cond.code x code maxLocals ret :: ws) room_1) (fun a U => a = #[(.int p0), (.int p1)] ∧ Z.Warmed39 U.vm ∧ U.heap = h0) (fun _ _ _ _ _ => True) (fun _ U o U' => ∃ v L, o = .returned v ∧ (own_R (.int (f0_0 p0 p1)) n0) v U'.heap L ∧ FrameEnd U o U' L 16 192) := by
  refine MetFree.of_bodySF (plainFor_of_name pn0) hisR ?_
  intro p e s m args below meth c s₁ Bd hml0 hP hK
  obtain ⟨rfl, hZ, hh⟩ := hP
  have hown : s.vm.findClass "com/example/prudent_validator/prudentvalidator/datatypes/XmlNamesIsNameStartPinLaw" = some m.cls := findClass_of_methodNamed Bd.named
  have X0 : Stand p l e room_1 s m #[(.int p0), (.int p1)] below meth c s₁ [] 0 0 := Stand.of_body Bd
  have e0 : s₁.heap = h0 := by rw [← hh, Bd.state]; rfl
  show own_Ends p e below s 16 192 (own_R (.int (f0_0 p0 p1)) n0) s₁ (entryFrame m #[(.int p0), (.int p1)] maxLocals)
  refine own_step (fun t k => castTop (ef0 m p0 p1) k) ?_
  exact b0_0 p0 p1 X0 Bd.exec hZ hw Bd.bytes hml0 hown Bd.returns (BodyLoose.notSynchronized Bd) e0 (Fr.nil n0) Z0 rfl
def own_Q185 (x : Int) : Prop := (65536 ≤ x ∧ x ≤ 983039) ∨ False
theorem own_q185 (c : Int32) : (f1_185 c = 1 ∧ own_Q185 c.toInt) ∨ (f1_185 c = 0 ∧ ¬ own_Q185 c.toInt) := by
  have h := (Or.inr ⟨rfl, id⟩ : ((0 : Int32) = 1 ∧ False) ∨ ((0 : Int32) = 0 ∧ ¬ False))
  have zl : (65536 : Int32).toInt = 65536 := rfl
  have zh : (983039 : Int32).toInt = 983039 := rfl
  unfold f1_185 own_Q185 f1_197 f1_201
  by_cases h1 : c < 65536
  · rw [if_pos h1]; rw [Int32.lt_iff_toInt_lt, zl] at h1
    rcases h with ⟨a, b⟩ | ⟨a, b⟩
    · exact Or.inl ⟨a, Or.inr b⟩
    · exact Or.inr ⟨a, fun q => q.elim (fun q => by omega) b⟩
  rw [if_neg h1]; rw [Int32.lt_iff_toInt_lt, zl] at h1
  by_cases h2 : (983039 : Int32) < c
  · rw [if_pos h2]; rw [Int32.lt_iff_toInt_lt, zh] at h2
    rcases h with ⟨a, b⟩ | ⟨a, b⟩
    · exact Or.inl ⟨a, Or.inr b⟩
    · exact Or.inr ⟨a, fun q => q.elim (fun q => by omega) b⟩
  rw [if_neg h2]; rw [Int32.lt_iff_toInt_lt, zh] at h2
  exact Or.inl ⟨rfl, Or.inl ⟨by omega, by omega⟩⟩
def own_Q173 (x : Int) : Prop := (65008 ≤ x ∧ x ≤ 65533) ∨ own_Q185 x
theorem own_q173 (c : Int32) : (f1_173 c = 1 ∧ own_Q173 c.toInt) ∨ (f1_173 c = 0 ∧ ¬ own_Q173 c.toInt) := by
  have h := own_q185 c
  have zl : (65008 : Int32).toInt = 65008 := rfl
  have zh : (65533 : Int32).toInt = 65533 := rfl
  unfold f1_173 own_Q173 f1_197
  by_cases h1 : c < 65008
  · rw [if_pos h1]; rw [Int32.lt_iff_toInt_lt, zl] at h1
    rcases h with ⟨a, b⟩ | ⟨a, b⟩
    · exact Or.inl ⟨a, Or.inr b⟩
    · exact Or.inr ⟨a, fun q => q.elim (fun q => by omega) b⟩
  rw [if_neg h1]; rw [Int32.lt_iff_toInt_lt, zl] at h1
  by_cases h2 : (65533 : Int32) < c
  · rw [if_pos h2]; rw [Int32.lt_iff_toInt_lt, zh] at h2
    rcases h with ⟨a, b⟩ | ⟨a, b⟩
    · exact Or.inl ⟨a, Or.inr b⟩
    · exact Or.inr ⟨a, fun q => q.elim (fun q => by omega) b⟩
  rw [if_neg h2]; rw [Int32.lt_iff_toInt_lt, zh] at h2
  exact Or.inl ⟨rfl, Or.inl ⟨by omega, by omega⟩⟩
def own_Q161 (x : Int) : Prop := (63744 ≤ x ∧ x ≤ 64975) ∨ own_Q173 x
theorem own_q161 (c : Int32) : (f1_161 c = 1 ∧ own_Q161 c.toInt) ∨ (f1_161 c = 0 ∧ ¬ own_Q161 c.toInt) := by
  have h := own_q173 c
  have zl : (63744 : Int32).toInt = 63744 := rfl
  have zh : (64975 : Int32).toInt = 64975 := rfl
  unfold f1_161 own_Q161 f1_197
  by_cases h1 : c < 63744
  · rw [if_pos h1]; rw [Int32.lt_iff_toInt_lt, zl] at h1
    rcases h with ⟨a, b⟩ | ⟨a, b⟩
    · exact Or.inl ⟨a, Or.inr b⟩
    · exact Or.inr ⟨a, fun q => q.elim (fun q => by omega) b⟩
  rw [if_neg h1]; rw [Int32.lt_iff_toInt_lt, zl] at h1
  by_cases h2 : (64975 : Int32) < c
  · rw [if_pos h2]; rw [Int32.lt_iff_toInt_lt, zh] at h2
    rcases h with ⟨a, b⟩ | ⟨a, b⟩
    · exact Or.inl ⟨a, Or.inr b⟩
    · exact Or.inr ⟨a, fun q => q.elim (fun q => by omega) b⟩
  rw [if_neg h2]; rw [Int32.lt_iff_toInt_lt, zh] at h2
  exact Or.inl ⟨rfl, Or.inl ⟨by omega, by omega⟩⟩
def own_Q148 (x : Int) : Prop := (12289 ≤ x ∧ x ≤ 55295) ∨ own_Q161 x
theorem own_q148 (c : Int32) : (f1_148 c = 1 ∧ own_Q148 c.toInt) ∨ (f1_148 c = 0 ∧ ¬ own_Q148 c.toInt) := by
  have h := own_q161 c
  have zl : (12289 : Int32).toInt = 12289 := rfl
  have zh : (55295 : Int32).toInt = 55295 := rfl
  unfold f1_148 own_Q148 f1_197
  by_cases h1 : c < 12289
  · rw [if_pos h1]; rw [Int32.lt_iff_toInt_lt, zl] at h1
    rcases h with ⟨a, b⟩ | ⟨a, b⟩
    · exact Or.inl ⟨a, Or.inr b⟩
    · exact Or.inr ⟨a, fun q => q.elim (fun q => by omega) b⟩
  rw [if_neg h1]; rw [Int32.lt_iff_toInt_lt, zl] at h1
  by_cases h2 : (55295 : Int32) < c
  · rw [if_pos h2]; rw [Int32.lt_iff_toInt_lt, zh] at h2
    rcases h with ⟨a, b⟩ | ⟨a, b⟩
    · exact Or.inl ⟨a, Or.inr b⟩
    · exact Or.inr ⟨a, fun q => q.elim (fun q => by omega) b⟩
  rw [if_neg h2]; rw [Int32.lt_iff_toInt_lt, zh] at h2
  exact Or.inl ⟨rfl, Or.inl ⟨by omega, by omega⟩⟩
def own_Q134 (x : Int) : Prop := (11264 ≤ x ∧ x ≤ 12271) ∨ own_Q148 x
theorem own_q134 (c : Int32) : (f1_134 c = 1 ∧ own_Q134 c.toInt) ∨ (f1_134 c = 0 ∧ ¬ own_Q134 c.toInt) := by
  have h := own_q148 c
  have zl : (11264 : Int32).toInt = 11264 := rfl
  have zh : (12271 : Int32).toInt = 12271 := rfl
  unfold f1_134 own_Q134 f1_197
  by_cases h1 : c < 11264
  · rw [if_pos h1]; rw [Int32.lt_iff_toInt_lt, zl] at h1
    rcases h with ⟨a, b⟩ | ⟨a, b⟩
    · exact Or.inl ⟨a, Or.inr b⟩
    · exact Or.inr ⟨a, fun q => q.elim (fun q => by omega) b⟩
  rw [if_neg h1]; rw [Int32.lt_iff_toInt_lt, zl] at h1
  by_cases h2 : (12271 : Int32) < c
  · rw [if_pos h2]; rw [Int32.lt_iff_toInt_lt, zh] at h2
    rcases h with ⟨a, b⟩ | ⟨a, b⟩
    · exact Or.inl ⟨a, Or.inr b⟩
    · exact Or.inr ⟨a, fun q => q.elim (fun q => by omega) b⟩
  rw [if_neg h2]; rw [Int32.lt_iff_toInt_lt, zh] at h2
  exact Or.inl ⟨rfl, Or.inl ⟨by omega, by omega⟩⟩
def own_Q120 (x : Int) : Prop := (8304 ≤ x ∧ x ≤ 8591) ∨ own_Q134 x
theorem own_q120 (c : Int32) : (f1_120 c = 1 ∧ own_Q120 c.toInt) ∨ (f1_120 c = 0 ∧ ¬ own_Q120 c.toInt) := by
  have h := own_q134 c
  have zl : (8304 : Int32).toInt = 8304 := rfl
  have zh : (8591 : Int32).toInt = 8591 := rfl
  unfold f1_120 own_Q120 f1_197
  by_cases h1 : c < 8304
  · rw [if_pos h1]; rw [Int32.lt_iff_toInt_lt, zl] at h1
    rcases h with ⟨a, b⟩ | ⟨a, b⟩
    · exact Or.inl ⟨a, Or.inr b⟩
    · exact Or.inr ⟨a, fun q => q.elim (fun q => by omega) b⟩
  rw [if_neg h1]; rw [Int32.lt_iff_toInt_lt, zl] at h1
  by_cases h2 : (8591 : Int32) < c
  · rw [if_pos h2]; rw [Int32.lt_iff_toInt_lt, zh] at h2
    rcases h with ⟨a, b⟩ | ⟨a, b⟩
    · exact Or.inl ⟨a, Or.inr b⟩
    · exact Or.inr ⟨a, fun q => q.elim (fun q => by omega) b⟩
  rw [if_neg h2]; rw [Int32.lt_iff_toInt_lt, zh] at h2
  exact Or.inl ⟨rfl, Or.inl ⟨by omega, by omega⟩⟩
def own_Q106 (x : Int) : Prop := (8204 ≤ x ∧ x ≤ 8205) ∨ own_Q120 x
theorem own_q106 (c : Int32) : (f1_106 c = 1 ∧ own_Q106 c.toInt) ∨ (f1_106 c = 0 ∧ ¬ own_Q106 c.toInt) := by
  have h := own_q120 c
  have zl : (8204 : Int32).toInt = 8204 := rfl
  have zh : (8205 : Int32).toInt = 8205 := rfl
  unfold f1_106 own_Q106 f1_197
  by_cases h1 : c < 8204
  · rw [if_pos h1]; rw [Int32.lt_iff_toInt_lt, zl] at h1
    rcases h with ⟨a, b⟩ | ⟨a, b⟩
    · exact Or.inl ⟨a, Or.inr b⟩
    · exact Or.inr ⟨a, fun q => q.elim (fun q => by omega) b⟩
  rw [if_neg h1]; rw [Int32.lt_iff_toInt_lt, zl] at h1
  by_cases h2 : (8205 : Int32) < c
  · rw [if_pos h2]; rw [Int32.lt_iff_toInt_lt, zh] at h2
    rcases h with ⟨a, b⟩ | ⟨a, b⟩
    · exact Or.inl ⟨a, Or.inr b⟩
    · exact Or.inr ⟨a, fun q => q.elim (fun q => by omega) b⟩
  rw [if_neg h2]; rw [Int32.lt_iff_toInt_lt, zh] at h2
  exact Or.inl ⟨rfl, Or.inl ⟨by omega, by omega⟩⟩
def own_Q92 (x : Int) : Prop := (895 ≤ x ∧ x ≤ 8191) ∨ own_Q106 x
theorem own_q92 (c : Int32) : (f1_92 c = 1 ∧ own_Q92 c.toInt) ∨ (f1_92 c = 0 ∧ ¬ own_Q92 c.toInt) := by
  have h := own_q106 c
  have zl : (895 : Int32).toInt = 895 := rfl
  have zh : (8191 : Int32).toInt = 8191 := rfl
  unfold f1_92 own_Q92 f1_197
  by_cases h1 : c < 895
  · rw [if_pos h1]; rw [Int32.lt_iff_toInt_lt, zl] at h1
    rcases h with ⟨a, b⟩ | ⟨a, b⟩
    · exact Or.inl ⟨a, Or.inr b⟩
    · exact Or.inr ⟨a, fun q => q.elim (fun q => by omega) b⟩
  rw [if_neg h1]; rw [Int32.lt_iff_toInt_lt, zl] at h1
  by_cases h2 : (8191 : Int32) < c
  · rw [if_pos h2]; rw [Int32.lt_iff_toInt_lt, zh] at h2
    rcases h with ⟨a, b⟩ | ⟨a, b⟩
    · exact Or.inl ⟨a, Or.inr b⟩
    · exact Or.inr ⟨a, fun q => q.elim (fun q => by omega) b⟩
  rw [if_neg h2]; rw [Int32.lt_iff_toInt_lt, zh] at h2
  exact Or.inl ⟨rfl, Or.inl ⟨by omega, by omega⟩⟩
def own_Q78 (x : Int) : Prop := (880 ≤ x ∧ x ≤ 893) ∨ own_Q92 x
theorem own_q78 (c : Int32) : (f1_78 c = 1 ∧ own_Q78 c.toInt) ∨ (f1_78 c = 0 ∧ ¬ own_Q78 c.toInt) := by
  have h := own_q92 c
  have zl : (880 : Int32).toInt = 880 := rfl
  have zh : (893 : Int32).toInt = 893 := rfl
  unfold f1_78 own_Q78 f1_197
  by_cases h1 : c < 880
  · rw [if_pos h1]; rw [Int32.lt_iff_toInt_lt, zl] at h1
    rcases h with ⟨a, b⟩ | ⟨a, b⟩
    · exact Or.inl ⟨a, Or.inr b⟩
    · exact Or.inr ⟨a, fun q => q.elim (fun q => by omega) b⟩
  rw [if_neg h1]; rw [Int32.lt_iff_toInt_lt, zl] at h1
  by_cases h2 : (893 : Int32) < c
  · rw [if_pos h2]; rw [Int32.lt_iff_toInt_lt, zh] at h2
    rcases h with ⟨a, b⟩ | ⟨a, b⟩
    · exact Or.inl ⟨a, Or.inr b⟩
    · exact Or.inr ⟨a, fun q => q.elim (fun q => by omega) b⟩
  rw [if_neg h2]; rw [Int32.lt_iff_toInt_lt, zh] at h2
  exact Or.inl ⟨rfl, Or.inl ⟨by omega, by omega⟩⟩
def own_Q64 (x : Int) : Prop := (248 ≤ x ∧ x ≤ 767) ∨ own_Q78 x
theorem own_q64 (c : Int32) : (f1_64 c = 1 ∧ own_Q64 c.toInt) ∨ (f1_64 c = 0 ∧ ¬ own_Q64 c.toInt) := by
  have h := own_q78 c
  have zl : (248 : Int32).toInt = 248 := rfl
  have zh : (767 : Int32).toInt = 767 := rfl
  unfold f1_64 own_Q64 f1_197
  by_cases h1 : c < 248
  · rw [if_pos h1]; rw [Int32.lt_iff_toInt_lt, zl] at h1
    rcases h with ⟨a, b⟩ | ⟨a, b⟩
    · exact Or.inl ⟨a, Or.inr b⟩
    · exact Or.inr ⟨a, fun q => q.elim (fun q => by omega) b⟩
  rw [if_neg h1]; rw [Int32.lt_iff_toInt_lt, zl] at h1
  by_cases h2 : (767 : Int32) < c
  · rw [if_pos h2]; rw [Int32.lt_iff_toInt_lt, zh] at h2
    rcases h with ⟨a, b⟩ | ⟨a, b⟩
    · exact Or.inl ⟨a, Or.inr b⟩
    · exact Or.inr ⟨a, fun q => q.elim (fun q => by omega) b⟩
  rw [if_neg h2]; rw [Int32.lt_iff_toInt_lt, zh] at h2
  exact Or.inl ⟨rfl, Or.inl ⟨by omega, by omega⟩⟩
def own_Q50 (x : Int) : Prop := (216 ≤ x ∧ x ≤ 246) ∨ own_Q64 x
theorem own_q50 (c : Int32) : (f1_50 c = 1 ∧ own_Q50 c.toInt) ∨ (f1_50 c = 0 ∧ ¬ own_Q50 c.toInt) := by
  have h := own_q64 c
  have zl : (216 : Int32).toInt = 216 := rfl
  have zh : (246 : Int32).toInt = 246 := rfl
  unfold f1_50 own_Q50 f1_197
  by_cases h1 : c < 216
  · rw [if_pos h1]; rw [Int32.lt_iff_toInt_lt, zl] at h1
    rcases h with ⟨a, b⟩ | ⟨a, b⟩
    · exact Or.inl ⟨a, Or.inr b⟩
    · exact Or.inr ⟨a, fun q => q.elim (fun q => by omega) b⟩
  rw [if_neg h1]; rw [Int32.lt_iff_toInt_lt, zl] at h1
  by_cases h2 : (246 : Int32) < c
  · rw [if_pos h2]; rw [Int32.lt_iff_toInt_lt, zh] at h2
    rcases h with ⟨a, b⟩ | ⟨a, b⟩
    · exact Or.inl ⟨a, Or.inr b⟩
    · exact Or.inr ⟨a, fun q => q.elim (fun q => by omega) b⟩
  rw [if_neg h2]; rw [Int32.lt_iff_toInt_lt, zh] at h2
  exact Or.inl ⟨rfl, Or.inl ⟨by omega, by omega⟩⟩
def own_Q36 (x : Int) : Prop := (192 ≤ x ∧ x ≤ 214) ∨ own_Q50 x
theorem own_q36 (c : Int32) : (f1_36 c = 1 ∧ own_Q36 c.toInt) ∨ (f1_36 c = 0 ∧ ¬ own_Q36 c.toInt) := by
  have h := own_q50 c
  have zl : (192 : Int32).toInt = 192 := rfl
  have zh : (214 : Int32).toInt = 214 := rfl
  unfold f1_36 own_Q36 f1_197
  by_cases h1 : c < 192
  · rw [if_pos h1]; rw [Int32.lt_iff_toInt_lt, zl] at h1
    rcases h with ⟨a, b⟩ | ⟨a, b⟩
    · exact Or.inl ⟨a, Or.inr b⟩
    · exact Or.inr ⟨a, fun q => q.elim (fun q => by omega) b⟩
  rw [if_neg h1]; rw [Int32.lt_iff_toInt_lt, zl] at h1
  by_cases h2 : (214 : Int32) < c
  · rw [if_pos h2]; rw [Int32.lt_iff_toInt_lt, zh] at h2
    rcases h with ⟨a, b⟩ | ⟨a, b⟩
    · exact Or.inl ⟨a, Or.inr b⟩
    · exact Or.inr ⟨a, fun q => q.elim (fun q => by omega) b⟩
  rw [if_neg h2]; rw [Int32.lt_iff_toInt_lt, zh] at h2
  exact Or.inl ⟨rfl, Or.inl ⟨by omega, by omega⟩⟩
def own_Q18 (x : Int) : Prop := x = 95 ∨ (97 ≤ x ∧ x ≤ 122) ∨ own_Q36 x
theorem own_q18 (c : Int32) : (f1_18 c = 1 ∧ own_Q18 c.toInt) ∨ (f1_18 c = 0 ∧ ¬ own_Q18 c.toInt) := by
  have h := own_q36 c
  have zl : (97 : Int32).toInt = 97 := rfl
  have zh : (122 : Int32).toInt = 122 := rfl
  unfold f1_18 own_Q18 f1_197
  by_cases he : c = 95
  · rw [if_pos he]; exact Or.inl ⟨rfl, Or.inl (by rw [he]; rfl)⟩
  rw [if_neg he]
  have he' : ¬ c.toInt = 95 := fun q => he (Int32.toInt_inj.mp q)
  by_cases h1 : c < 97
  · rw [if_pos h1]; rw [Int32.lt_iff_toInt_lt, zl] at h1
    rcases h with ⟨a, b⟩ | ⟨a, b⟩
    · exact Or.inl ⟨a, Or.inr (Or.inr b)⟩
    · exact Or.inr ⟨a, fun q => q.elim (fun q => by omega) (fun q => q.elim (fun q => by omega) b)⟩
  rw [if_neg h1]; rw [Int32.lt_iff_toInt_lt, zl] at h1
  by_cases h2 : (122 : Int32) < c
  · rw [if_pos h2]; rw [Int32.lt_iff_toInt_lt, zh] at h2
    rcases h with ⟨a, b⟩ | ⟨a, b⟩
    · exact Or.inl ⟨a, Or.inr (Or.inr b)⟩
    · exact Or.inr ⟨a, fun q => q.elim (fun q => by omega) (fun q => q.elim (fun q => by omega) b)⟩
  rw [if_neg h2]; rw [Int32.lt_iff_toInt_lt, zh] at h2
  exact Or.inl ⟨rfl, Or.inr (Or.inl ⟨by omega, by omega⟩)⟩
def own_Q0 (x : Int) : Prop := x = 58 ∨ (65 ≤ x ∧ x ≤ 90) ∨ own_Q18 x
theorem own_q0 (c : Int32) : (f1_0 c = 1 ∧ own_Q0 c.toInt) ∨ (f1_0 c = 0 ∧ ¬ own_Q0 c.toInt) := by
  have h := own_q18 c
  have zl : (65 : Int32).toInt = 65 := rfl
  have zh : (90 : Int32).toInt = 90 := rfl
  unfold f1_0 own_Q0 f1_197
  by_cases he : c = 58
  · rw [if_pos he]; exact Or.inl ⟨rfl, Or.inl (by rw [he]; rfl)⟩
  rw [if_neg he]
  have he' : ¬ c.toInt = 58 := fun q => he (Int32.toInt_inj.mp q)
  by_cases h1 : c < 65
  · rw [if_pos h1]; rw [Int32.lt_iff_toInt_lt, zl] at h1
    rcases h with ⟨a, b⟩ | ⟨a, b⟩
    · exact Or.inl ⟨a, Or.inr (Or.inr b)⟩
    · exact Or.inr ⟨a, fun q => q.elim (fun q => by omega) (fun q => q.elim (fun q => by omega) b)⟩
  rw [if_neg h1]; rw [Int32.lt_iff_toInt_lt, zl] at h1
  by_cases h2 : (90 : Int32) < c
  · rw [if_pos h2]; rw [Int32.lt_iff_toInt_lt, zh] at h2
    rcases h with ⟨a, b⟩ | ⟨a, b⟩
    · exact Or.inl ⟨a, Or.inr (Or.inr b)⟩
    · exact Or.inr ⟨a, fun q => q.elim (fun q => by omega) (fun q => q.elim (fun q => by omega) b)⟩
  rw [if_neg h2]; rw [Int32.lt_iff_toInt_lt, zh] at h2
  exact Or.inl ⟨rfl, Or.inr (Or.inl ⟨by omega, by omega⟩)⟩
theorem own_seg0 (c : Int32) (h1 : -2147483648 ≤ c.toInt) (h2 : c.toInt ≤ 57) : f1_0 c = 0 := by
  rcases own_q0 c with ⟨a, b⟩ | ⟨a, b⟩
  · exfalso; rcases b with h | h | h | h | h | h | h | h | h | h | h | h | h | h | h | h | h
    all_goals first | omega | exact h
  · exact a
theorem own_seg1 (c : Int32) (h1 : 58 ≤ c.toInt) (h2 : c.toInt ≤ 58) : f1_0 c = 1 := by
  rcases own_q0 c with ⟨a, b⟩ | ⟨a, b⟩
  · exact a
  · exact absurd (show own_Q0 c.toInt from Or.inl (by omega)) b
theorem own_seg2 (c : Int32) (h1 : 59 ≤ c.toInt) (h2 : c.toInt ≤ 64) : f1_0 c = 0 := by
  rcases own_q0 c with ⟨a, b⟩ | ⟨a, b⟩
  · exfalso; rcases b with h | h | h | h | h | h | h | h | h | h | h | h | h | h | h | h | h
    all_goals first | omega | exact h
  · exact a
theorem own_seg3 (c : Int32) (h1 : 65 ≤ c.toInt) (h2 : c.toInt ≤ 90) : f1_0 c = 1 := by
  rcases own_q0 c with ⟨a, b⟩ | ⟨a, b⟩
  · exact a
  · exact absurd (show own_Q0 c.toInt from Or.inr (Or.inl ⟨by omega, by omega⟩)) b
theorem own_seg4 (c : Int32) (h1 : 91 ≤ c.toInt) (h2 : c.toInt ≤ 94) : f1_0 c = 0 := by
  rcases own_q0 c with ⟨a, b⟩ | ⟨a, b⟩
  · exfalso; rcases b with h | h | h | h | h | h | h | h | h | h | h | h | h | h | h | h | h
    all_goals first | omega | exact h
  · exact a
theorem own_seg5 (c : Int32) (h1 : 95 ≤ c.toInt) (h2 : c.toInt ≤ 95) : f1_0 c = 1 := by
  rcases own_q0 c with ⟨a, b⟩ | ⟨a, b⟩
  · exact a
  · exact absurd (show own_Q0 c.toInt from Or.inr (Or.inr (Or.inl (by omega)))) b
theorem own_seg6 (c : Int32) (h1 : 96 ≤ c.toInt) (h2 : c.toInt ≤ 96) : f1_0 c = 0 := by
  rcases own_q0 c with ⟨a, b⟩ | ⟨a, b⟩
  · exfalso; rcases b with h | h | h | h | h | h | h | h | h | h | h | h | h | h | h | h | h
    all_goals first | omega | exact h
  · exact a
theorem own_seg7 (c : Int32) (h1 : 97 ≤ c.toInt) (h2 : c.toInt ≤ 122) : f1_0 c = 1 := by
  rcases own_q0 c with ⟨a, b⟩ | ⟨a, b⟩
  · exact a
  · exact absurd (show own_Q0 c.toInt from Or.inr (Or.inr (Or.inr (Or.inl ⟨by omega, by omega⟩)))) b
theorem own_seg8 (c : Int32) (h1 : 123 ≤ c.toInt) (h2 : c.toInt ≤ 191) : f1_0 c = 0 := by
  rcases own_q0 c with ⟨a, b⟩ | ⟨a, b⟩
  · exfalso; rcases b with h | h | h | h | h | h | h | h | h | h | h | h | h | h | h | h | h
    all_goals first | omega | exact h
  · exact a
theorem own_seg9 (c : Int32) (h1 : 192 ≤ c.toInt) (h2 : c.toInt ≤ 214) : f1_0 c = 1 := by
  rcases own_q0 c with ⟨a, b⟩ | ⟨a, b⟩
  · exact a
  · exact absurd (show own_Q0 c.toInt from Or.inr (Or.inr (Or.inr (Or.inr (Or.inl ⟨by omega, by omega⟩))))) b
theorem own_seg10 (c : Int32) (h1 : 215 ≤ c.toInt) (h2 : c.toInt ≤ 215) : f1_0 c = 0 := by
  rcases own_q0 c with ⟨a, b⟩ | ⟨a, b⟩
  · exfalso; rcases b with h | h | h | h | h | h | h | h | h | h | h | h | h | h | h | h | h
    all_goals first | omega | exact h
  · exact a
theorem own_seg11 (c : Int32) (h1 : 216 ≤ c.toInt) (h2 : c.toInt ≤ 246) : f1_0 c = 1 := by
  rcases own_q0 c with ⟨a, b⟩ | ⟨a, b⟩
  · exact a
  · exact absurd (show own_Q0 c.toInt from Or.inr (Or.inr (Or.inr (Or.inr (Or.inr (Or.inl ⟨by omega, by omega⟩)))))) b
theorem own_seg12 (c : Int32) (h1 : 247 ≤ c.toInt) (h2 : c.toInt ≤ 247) : f1_0 c = 0 := by
  rcases own_q0 c with ⟨a, b⟩ | ⟨a, b⟩
  · exfalso; rcases b with h | h | h | h | h | h | h | h | h | h | h | h | h | h | h | h | h
    all_goals first | omega | exact h
  · exact a
theorem own_seg13 (c : Int32) (h1 : 248 ≤ c.toInt) (h2 : c.toInt ≤ 767) : f1_0 c = 1 := by
  rcases own_q0 c with ⟨a, b⟩ | ⟨a, b⟩
  · exact a
  · exact absurd (show own_Q0 c.toInt from Or.inr (Or.inr (Or.inr (Or.inr (Or.inr (Or.inr (Or.inl ⟨by omega, by omega⟩))))))) b
theorem own_seg14 (c : Int32) (h1 : 768 ≤ c.toInt) (h2 : c.toInt ≤ 879) : f1_0 c = 0 := by
  rcases own_q0 c with ⟨a, b⟩ | ⟨a, b⟩
  · exfalso; rcases b with h | h | h | h | h | h | h | h | h | h | h | h | h | h | h | h | h
    all_goals first | omega | exact h
  · exact a
theorem own_seg15 (c : Int32) (h1 : 880 ≤ c.toInt) (h2 : c.toInt ≤ 893) : f1_0 c = 1 := by
  rcases own_q0 c with ⟨a, b⟩ | ⟨a, b⟩
  · exact a
  · exact absurd (show own_Q0 c.toInt from Or.inr (Or.inr (Or.inr (Or.inr (Or.inr (Or.inr (Or.inr (Or.inl ⟨by omega, by omega⟩)))))))) b
theorem own_seg16 (c : Int32) (h1 : 894 ≤ c.toInt) (h2 : c.toInt ≤ 894) : f1_0 c = 0 := by
  rcases own_q0 c with ⟨a, b⟩ | ⟨a, b⟩
  · exfalso; rcases b with h | h | h | h | h | h | h | h | h | h | h | h | h | h | h | h | h
    all_goals first | omega | exact h
  · exact a
theorem own_seg17 (c : Int32) (h1 : 895 ≤ c.toInt) (h2 : c.toInt ≤ 8191) : f1_0 c = 1 := by
  rcases own_q0 c with ⟨a, b⟩ | ⟨a, b⟩
  · exact a
  · exact absurd (show own_Q0 c.toInt from Or.inr (Or.inr (Or.inr (Or.inr (Or.inr (Or.inr (Or.inr (Or.inr (Or.inl ⟨by omega, by omega⟩))))))))) b
theorem own_seg18 (c : Int32) (h1 : 8192 ≤ c.toInt) (h2 : c.toInt ≤ 8203) : f1_0 c = 0 := by
  rcases own_q0 c with ⟨a, b⟩ | ⟨a, b⟩
  · exfalso; rcases b with h | h | h | h | h | h | h | h | h | h | h | h | h | h | h | h | h
    all_goals first | omega | exact h
  · exact a
theorem own_seg19 (c : Int32) (h1 : 8204 ≤ c.toInt) (h2 : c.toInt ≤ 8205) : f1_0 c = 1 := by
  rcases own_q0 c with ⟨a, b⟩ | ⟨a, b⟩
  · exact a
  · exact absurd (show own_Q0 c.toInt from Or.inr (Or.inr (Or.inr (Or.inr (Or.inr (Or.inr (Or.inr (Or.inr (Or.inr (Or.inl ⟨by omega, by omega⟩)))))))))) b
theorem own_seg20 (c : Int32) (h1 : 8206 ≤ c.toInt) (h2 : c.toInt ≤ 8303) : f1_0 c = 0 := by
  rcases own_q0 c with ⟨a, b⟩ | ⟨a, b⟩
  · exfalso; rcases b with h | h | h | h | h | h | h | h | h | h | h | h | h | h | h | h | h
    all_goals first | omega | exact h
  · exact a
theorem own_seg21 (c : Int32) (h1 : 8304 ≤ c.toInt) (h2 : c.toInt ≤ 8591) : f1_0 c = 1 := by
  rcases own_q0 c with ⟨a, b⟩ | ⟨a, b⟩
  · exact a
  · exact absurd (show own_Q0 c.toInt from Or.inr (Or.inr (Or.inr (Or.inr (Or.inr (Or.inr (Or.inr (Or.inr (Or.inr (Or.inr (Or.inl ⟨by omega, by omega⟩))))))))))) b
theorem own_seg22 (c : Int32) (h1 : 8592 ≤ c.toInt) (h2 : c.toInt ≤ 11263) : f1_0 c = 0 := by
  rcases own_q0 c with ⟨a, b⟩ | ⟨a, b⟩
  · exfalso; rcases b with h | h | h | h | h | h | h | h | h | h | h | h | h | h | h | h | h
    all_goals first | omega | exact h
  · exact a
theorem own_seg23 (c : Int32) (h1 : 11264 ≤ c.toInt) (h2 : c.toInt ≤ 12271) : f1_0 c = 1 := by
  rcases own_q0 c with ⟨a, b⟩ | ⟨a, b⟩
  · exact a
  · exact absurd (show own_Q0 c.toInt from Or.inr (Or.inr (Or.inr (Or.inr (Or.inr (Or.inr (Or.inr (Or.inr (Or.inr (Or.inr (Or.inr (Or.inl ⟨by omega, by omega⟩)))))))))))) b
theorem own_seg24 (c : Int32) (h1 : 12272 ≤ c.toInt) (h2 : c.toInt ≤ 12288) : f1_0 c = 0 := by
  rcases own_q0 c with ⟨a, b⟩ | ⟨a, b⟩
  · exfalso; rcases b with h | h | h | h | h | h | h | h | h | h | h | h | h | h | h | h | h
    all_goals first | omega | exact h
  · exact a
theorem own_seg25 (c : Int32) (h1 : 12289 ≤ c.toInt) (h2 : c.toInt ≤ 55295) : f1_0 c = 1 := by
  rcases own_q0 c with ⟨a, b⟩ | ⟨a, b⟩
  · exact a
  · exact absurd (show own_Q0 c.toInt from Or.inr (Or.inr (Or.inr (Or.inr (Or.inr (Or.inr (Or.inr (Or.inr (Or.inr (Or.inr (Or.inr (Or.inr (Or.inl ⟨by omega, by omega⟩))))))))))))) b
theorem own_seg26 (c : Int32) (h1 : 55296 ≤ c.toInt) (h2 : c.toInt ≤ 63743) : f1_0 c = 0 := by
  rcases own_q0 c with ⟨a, b⟩ | ⟨a, b⟩
  · exfalso; rcases b with h | h | h | h | h | h | h | h | h | h | h | h | h | h | h | h | h
    all_goals first | omega | exact h
  · exact a
theorem own_seg27 (c : Int32) (h1 : 63744 ≤ c.toInt) (h2 : c.toInt ≤ 64975) : f1_0 c = 1 := by
  rcases own_q0 c with ⟨a, b⟩ | ⟨a, b⟩
  · exact a
  · exact absurd (show own_Q0 c.toInt from Or.inr (Or.inr (Or.inr (Or.inr (Or.inr (Or.inr (Or.inr (Or.inr (Or.inr (Or.inr (Or.inr (Or.inr (Or.inr (Or.inl ⟨by omega, by omega⟩)))))))))))))) b
theorem own_seg28 (c : Int32) (h1 : 64976 ≤ c.toInt) (h2 : c.toInt ≤ 65007) : f1_0 c = 0 := by
  rcases own_q0 c with ⟨a, b⟩ | ⟨a, b⟩
  · exfalso; rcases b with h | h | h | h | h | h | h | h | h | h | h | h | h | h | h | h | h
    all_goals first | omega | exact h
  · exact a
theorem own_seg29 (c : Int32) (h1 : 65008 ≤ c.toInt) (h2 : c.toInt ≤ 65533) : f1_0 c = 1 := by
  rcases own_q0 c with ⟨a, b⟩ | ⟨a, b⟩
  · exact a
  · exact absurd (show own_Q0 c.toInt from Or.inr (Or.inr (Or.inr (Or.inr (Or.inr (Or.inr (Or.inr (Or.inr (Or.inr (Or.inr (Or.inr (Or.inr (Or.inr (Or.inr (Or.inl ⟨by omega, by omega⟩))))))))))))))) b
theorem own_seg30 (c : Int32) (h1 : 65534 ≤ c.toInt) (h2 : c.toInt ≤ 65535) : f1_0 c = 0 := by
  rcases own_q0 c with ⟨a, b⟩ | ⟨a, b⟩
  · exfalso; rcases b with h | h | h | h | h | h | h | h | h | h | h | h | h | h | h | h | h
    all_goals first | omega | exact h
  · exact a
theorem own_seg31 (c : Int32) (h1 : 65536 ≤ c.toInt) (h2 : c.toInt ≤ 983039) : f1_0 c = 1 := by
  rcases own_q0 c with ⟨a, b⟩ | ⟨a, b⟩
  · exact a
  · exact absurd (show own_Q0 c.toInt from Or.inr (Or.inr (Or.inr (Or.inr (Or.inr (Or.inr (Or.inr (Or.inr (Or.inr (Or.inr (Or.inr (Or.inr (Or.inr (Or.inr (Or.inr (Or.inl ⟨by omega, by omega⟩)))))))))))))))) b
theorem own_seg32 (c : Int32) (h1 : 983040 ≤ c.toInt) (h2 : c.toInt ≤ 2147483647) : f1_0 c = 0 := by
  rcases own_q0 c with ⟨a, b⟩ | ⟨a, b⟩
  · exfalso; rcases b with h | h | h | h | h | h | h | h | h | h | h | h | h | h | h | h | h
    all_goals first | omega | exact h
  · exact a
def own_hi (j : Int32) : Int32 := if j = (32 : Int32) then (2147483647 : Int32) else (own_tab (j + (1 : Int32))) - (1 : Int32)
theorem own_all (k : Fin 33) (c : Int32) (h1 : (own_tab (Int32.ofNat k.val)).toInt ≤ c.toInt) (h2 : c.toInt ≤ (own_hi (Int32.ofNat k.val)).toInt) : f1_0 c = if (Int32.ofNat k.val &&& (1 : Int32)) = (1 : Int32) then 1 else 0 := by
  obtain ⟨k, hk⟩ := k
  have hc : k = 0 ∨ k = 1 ∨ k = 2 ∨ k = 3 ∨ k = 4 ∨ k = 5 ∨ k = 6 ∨ k = 7 ∨ k = 8 ∨ k = 9 ∨ k = 10 ∨ k = 11 ∨ k = 12 ∨ k = 13 ∨ k = 14 ∨ k = 15 ∨ k = 16 ∨ k = 17 ∨ k = 18 ∨ k = 19 ∨ k = 20 ∨ k = 21 ∨ k = 22 ∨ k = 23 ∨ k = 24 ∨ k = 25 ∨ k = 26 ∨ k = 27 ∨ k = 28 ∨ k = 29 ∨ k = 30 ∨ k = 31 ∨ k = 32 := by omega
  rcases hc with rfl | rfl | rfl | rfl | rfl | rfl | rfl | rfl | rfl | rfl | rfl | rfl | rfl | rfl | rfl | rfl | rfl | rfl | rfl | rfl | rfl | rfl | rfl | rfl | rfl | rfl | rfl | rfl | rfl | rfl | rfl | rfl | rfl
  · exact (own_seg0 c (Int.le_trans (Int.le_of_eq (show (-2147483648 : Int) = (own_tab (Int32.ofNat 0)).toInt by decide +kernel)) h1) (Int.le_trans h2 (Int.le_of_eq (show (own_hi (Int32.ofNat 0)).toInt = (57 : Int) by decide +kernel)))).trans (show (0 : Int32) = if (Int32.ofNat 0 &&& (1 : Int32)) = (1 : Int32) then 1 else 0 by decide +kernel)
  · exact (own_seg1 c (Int.le_trans (Int.le_of_eq (show (58 : Int) = (own_tab (Int32.ofNat 1)).toInt by decide +kernel)) h1) (Int.le_trans h2 (Int.le_of_eq (show (own_hi (Int32.ofNat 1)).toInt = (58 : Int) by decide +kernel)))).trans (show (1 : Int32) = if (Int32.ofNat 1 &&& (1 : Int32)) = (1 : Int32) then 1 else 0 by decide +kernel)
  · exact (own_seg2 c (Int.le_trans (Int.le_of_eq (show (59 : Int) = (own_tab (Int32.ofNat 2)).toInt by decide +kernel)) h1) (Int.le_trans h2 (Int.le_of_eq (show (own_hi (Int32.ofNat 2)).toInt = (64 : Int) by decide +kernel)))).trans (show (0 : Int32) = if (Int32.ofNat 2 &&& (1 : Int32)) = (1 : Int32) then 1 else 0 by decide +kernel)
  · exact (own_seg3 c (Int.le_trans (Int.le_of_eq (show (65 : Int) = (own_tab (Int32.ofNat 3)).toInt by decide +kernel)) h1) (Int.le_trans h2 (Int.le_of_eq (show (own_hi (Int32.ofNat 3)).toInt = (90 : Int) by decide +kernel)))).trans (show (1 : Int32) = if (Int32.ofNat 3 &&& (1 : Int32)) = (1 : Int32) then 1 else 0 by decide +kernel)
  · exact (own_seg4 c (Int.le_trans (Int.le_of_eq (show (91 : Int) = (own_tab (Int32.ofNat 4)).toInt by decide +kernel)) h1) (Int.le_trans h2 (Int.le_of_eq (show (own_hi (Int32.ofNat 4)).toInt = (94 : Int) by decide +kernel)))).trans (show (0 : Int32) = if (Int32.ofNat 4 &&& (1 : Int32)) = (1 : Int32) then 1 else 0 by decide +kernel)
  · exact (own_seg5 c (Int.le_trans (Int.le_of_eq (show (95 : Int) = (own_tab (Int32.ofNat 5)).toInt by decide +kernel)) h1) (Int.le_trans h2 (Int.le_of_eq (show (own_hi (Int32.ofNat 5)).toInt = (95 : Int) by decide +kernel)))).trans (show (1 : Int32) = if (Int32.ofNat 5 &&& (1 : Int32)) = (1 : Int32) then 1 else 0 by decide +kernel)
  · exact (own_seg6 c (Int.le_trans (Int.le_of_eq (show (96 : Int) = (own_tab (Int32.ofNat 6)).toInt by decide +kernel)) h1) (Int.le_trans h2 (Int.le_of_eq (show (own_hi (Int32.ofNat 6)).toInt = (96 : Int) by decide +kernel)))).trans (show (0 : Int32) = if (Int32.ofNat 6 &&& (1 : Int32)) = (1 : Int32) then 1 else 0 by decide +kernel)
  · exact (own_seg7 c (Int.le_trans (Int.le_of_eq (show (97 : Int) = (own_tab (Int32.ofNat 7)).toInt by decide +kernel)) h1) (Int.le_trans h2 (Int.le_of_eq (show (own_hi (Int32.ofNat 7)).toInt = (122 : Int) by decide +kernel)))).trans (show (1 : Int32) = if (Int32.ofNat 7 &&& (1 : Int32)) = (1 : Int32) then 1 else 0 by decide +kernel)
  · exact (own_seg8 c (Int.le_trans (Int.le_of_eq (show (123 : Int) = (own_tab (Int32.ofNat 8)).toInt by decide +kernel)) h1) (Int.le_trans h2 (Int.le_of_eq (show (own_hi (Int32.ofNat 8)).toInt = (191 : Int) by decide +kernel)))).trans (show (0 : Int32) = if (Int32.ofNat 8 &&& (1 : Int32)) = (1 : Int32) then 1 else 0 by decide +kernel)
  · exact (own_seg9 c (Int.le_trans (Int.le_of_eq (show (192 : Int) = (own_tab (Int32.ofNat 9)).toInt by decide +kernel)) h1) (Int.le_trans h2 (Int.le_of_eq (show (own_hi (Int32.ofNat 9)).toInt = (214 : Int) by decide +kernel)))).trans (show (1 : Int32) = if (Int32.ofNat 9 &&& (1 : Int32)) = (1 : Int32) then 1 else 0 by decide +kernel)
  · exact (own_seg10 c (Int.le_trans (Int.le_of_eq (show (215 : Int) = (own_tab (Int32.ofNat 10)).toInt by decide +kernel)) h1) (Int.le_trans h2 (Int.le_of_eq (show (own_hi (Int32.ofNat 10)).toInt = (215 : Int) by decide +kernel)))).trans (show (0 : Int32) = if (Int32.ofNat 10 &&& (1 : Int32)) = (1 : Int32) then 1 else 0 by decide +kernel)
  · exact (own_seg11 c (Int.le_trans (Int.le_of_eq (show (216 : Int) = (own_tab (Int32.ofNat 11)).toInt by decide +kernel)) h1) (Int.le_trans h2 (Int.le_of_eq (show (own_hi (Int32.ofNat 11)).toInt = (246 : Int) by decide +kernel)))).trans (show (1 : Int32) = if (Int32.ofNat 11 &&& (1 : Int32)) = (1 : Int32) then 1 else 0 by decide +kernel)
  · exact (own_seg12 c (Int.le_trans (Int.le_of_eq (show (247 : Int) = (own_tab (Int32.ofNat 12)).toInt by decide +kernel)) h1) (Int.le_trans h2 (Int.le_of_eq (show (own_hi (Int32.ofNat 12)).toInt = (247 : Int) by decide +kernel)))).trans (show (0 : Int32) = if (Int32.ofNat 12 &&& (1 : Int32)) = (1 : Int32) then 1 else 0 by decide +kernel)
  · exact (own_seg13 c (Int.le_trans (Int.le_of_eq (show (248 : Int) = (own_tab (Int32.ofNat 13)).toInt by decide +kernel)) h1) (Int.le_trans h2 (Int.le_of_eq (show (own_hi (Int32.ofNat 13)).toInt = (767 : Int) by decide +kernel)))).trans (show (1 : Int32) = if (Int32.ofNat 13 &&& (1 : Int32)) = (1 : Int32) then 1 else 0 by decide +kernel)
  · exact (own_seg14 c (Int.le_trans (Int.le_of_eq (show (768 : Int) = (own_tab (Int32.ofNat 14)).toInt by decide +kernel)) h1) (Int.le_trans h2 (Int.le_of_eq (show (own_hi (Int32.ofNat 14)).toInt = (879 : Int) by decide +kernel)))).trans (show (0 : Int32) = if (Int32.ofNat 14 &&& (1 : Int32)) = (1 : Int32) then 1 else 0 by decide +kernel)
  · exact (own_seg15 c (Int.le_trans (Int.le_of_eq (show (880 : Int) = (own_tab (Int32.ofNat 15)).toInt by decide +kernel)) h1) (Int.le_trans h2 (Int.le_of_eq (show (own_hi (Int32.ofNat 15)).toInt = (893 : Int) by decide +kernel)))).trans (show (1 : Int32) = if (Int32.ofNat 15 &&& (1 : Int32)) = (1 : Int32) then 1 else 0 by decide +kernel)
  · exact (own_seg16 c (Int.le_trans (Int.le_of_eq (show (894 : Int) = (own_tab (Int32.ofNat 16)).toInt by decide +kernel)) h1) (Int.le_trans h2 (Int.le_of_eq (show (own_hi (Int32.ofNat 16)).toInt = (894 : Int) by decide +kernel)))).trans (show (0 : Int32) = if (Int32.ofNat 16 &&& (1 : Int32)) = (1 : Int32) then 1 else 0 by decide +kernel)
  · exact (own_seg17 c (Int.le_trans (Int.le_of_eq (show (895 : Int) = (own_tab (Int32.ofNat 17)).toInt by decide +kernel)) h1) (Int.le_trans h2 (Int.le_of_eq (show (own_hi (Int32.ofNat 17)).toInt = (8191 : Int) by decide +kernel)))).trans (show (1 : Int32) = if (Int32.ofNat 17 &&& (1 : Int32)) = (1 : Int32) then 1 else 0 by decide +kernel)
  · exact (own_seg18 c (Int.le_trans (Int.le_of_eq (show (8192 : Int) = (own_tab (Int32.ofNat 18)).toInt by decide +kernel)) h1) (Int.le_trans h2 (Int.le_of_eq (show (own_hi (Int32.ofNat 18)).toInt = (8203 : Int) by decide +kernel)))).trans (show (0 : Int32) = if (Int32.ofNat 18 &&& (1 : Int32)) = (1 : Int32) then 1 else 0 by decide +kernel)
  · exact (own_seg19 c (Int.le_trans (Int.le_of_eq (show (8204 : Int) = (own_tab (Int32.ofNat 19)).toInt by decide +kernel)) h1) (Int.le_trans h2 (Int.le_of_eq (show (own_hi (Int32.ofNat 19)).toInt = (8205 : Int) by decide +kernel)))).trans (show (1 : Int32) = if (Int32.ofNat 19 &&& (1 : Int32)) = (1 : Int32) then 1 else 0 by decide +kernel)
  · exact (own_seg20 c (Int.le_trans (Int.le_of_eq (show (8206 : Int) = (own_tab (Int32.ofNat 20)).toInt by decide +kernel)) h1) (Int.le_trans h2 (Int.le_of_eq (show (own_hi (Int32.ofNat 20)).toInt = (8303 : Int) by decide +kernel)))).trans (show (0 : Int32) = if (Int32.ofNat 20 &&& (1 : Int32)) = (1 : Int32) then 1 else 0 by decide +kernel)
  · exact (own_seg21 c (Int.le_trans (Int.le_of_eq (show (8304 : Int) = (own_tab (Int32.ofNat 21)).toInt by decide +kernel)) h1) (Int.le_trans h2 (Int.le_of_eq (show (own_hi (Int32.ofNat 21)).toInt = (8591 : Int) by decide +kernel)))).trans (show (1 : Int32) = if (Int32.ofNat 21 &&& (1 : Int32)) = (1 : Int32) then 1 else 0 by decide +kernel)
  · exact (own_seg22 c (Int.le_trans (Int.le_of_eq (show (8592 : Int) = (own_tab (Int32.ofNat 22)).toInt by decide +kernel)) h1) (Int.le_trans h2 (Int.le_of_eq (show (own_hi (Int32.ofNat 22)).toInt = (11263 : Int) by decide +kernel)))).trans (show (0 : Int32) = if (Int32.ofNat 22 &&& (1 : Int32)) = (1 : Int32) then 1 else 0 by decide +kernel)
  · exact (own_seg23 c (Int.le_trans (Int.le_of_eq (show (11264 : Int) = (own_tab (Int32.ofNat 23)).toInt by decide +kernel)) h1) (Int.le_trans h2 (Int.le_of_eq (show (own_hi (Int32.ofNat 23)).toInt = (12271 : Int) by decide +kernel)))).trans (show (1 : Int32) = if (Int32.ofNat 23 &&& (1 : Int32)) = (1 : Int32) then 1 else 0 by decide +kernel)
  · exact (own_seg24 c (Int.le_trans (Int.le_of_eq (show (12272 : Int) = (own_tab (Int32.ofNat 24)).toInt by decide +kernel)) h1) (Int.le_trans h2 (Int.le_of_eq (show (own_hi (Int32.ofNat 24)).toInt = (12288 : Int) by decide +kernel)))).trans (show (0 : Int32) = if (Int32.ofNat 24 &&& (1 : Int32)) = (1 : Int32) then 1 else 0 by decide +kernel)
  · exact (own_seg25 c (Int.le_trans (Int.le_of_eq (show (12289 : Int) = (own_tab (Int32.ofNat 25)).toInt by decide +kernel)) h1) (Int.le_trans h2 (Int.le_of_eq (show (own_hi (Int32.ofNat 25)).toInt = (55295 : Int) by decide +kernel)))).trans (show (1 : Int32) = if (Int32.ofNat 25 &&& (1 : Int32)) = (1 : Int32) then 1 else 0 by decide +kernel)
  · exact (own_seg26 c (Int.le_trans (Int.le_of_eq (show (55296 : Int) = (own_tab (Int32.ofNat 26)).toInt by decide +kernel)) h1) (Int.le_trans h2 (Int.le_of_eq (show (own_hi (Int32.ofNat 26)).toInt = (63743 : Int) by decide +kernel)))).trans (show (0 : Int32) = if (Int32.ofNat 26 &&& (1 : Int32)) = (1 : Int32) then 1 else 0 by decide +kernel)
  · exact (own_seg27 c (Int.le_trans (Int.le_of_eq (show (63744 : Int) = (own_tab (Int32.ofNat 27)).toInt by decide +kernel)) h1) (Int.le_trans h2 (Int.le_of_eq (show (own_hi (Int32.ofNat 27)).toInt = (64975 : Int) by decide +kernel)))).trans (show (1 : Int32) = if (Int32.ofNat 27 &&& (1 : Int32)) = (1 : Int32) then 1 else 0 by decide +kernel)
  · exact (own_seg28 c (Int.le_trans (Int.le_of_eq (show (64976 : Int) = (own_tab (Int32.ofNat 28)).toInt by decide +kernel)) h1) (Int.le_trans h2 (Int.le_of_eq (show (own_hi (Int32.ofNat 28)).toInt = (65007 : Int) by decide +kernel)))).trans (show (0 : Int32) = if (Int32.ofNat 28 &&& (1 : Int32)) = (1 : Int32) then 1 else 0 by decide +kernel)
  · exact (own_seg29 c (Int.le_trans (Int.le_of_eq (show (65008 : Int) = (own_tab (Int32.ofNat 29)).toInt by decide +kernel)) h1) (Int.le_trans h2 (Int.le_of_eq (show (own_hi (Int32.ofNat 29)).toInt = (65533 : Int) by decide +kernel)))).trans (show (1 : Int32) = if (Int32.ofNat 29 &&& (1 : Int32)) = (1 : Int32) then 1 else 0 by decide +kernel)
  · exact (own_seg30 c (Int.le_trans (Int.le_of_eq (show (65534 : Int) = (own_tab (Int32.ofNat 30)).toInt by decide +kernel)) h1) (Int.le_trans h2 (Int.le_of_eq (show (own_hi (Int32.ofNat 30)).toInt = (65535 : Int) by decide +kernel)))).trans (show (0 : Int32) = if (Int32.ofNat 30 &&& (1 : Int32)) = (1 : Int32) then 1 else 0 by decide +kernel)
  · exact (own_seg31 c (Int.le_trans (Int.le_of_eq (show (65536 : Int) = (own_tab (Int32.ofNat 31)).toInt by decide +kernel)) h1) (Int.le_trans h2 (Int.le_of_eq (show (own_hi (Int32.ofNat 31)).toInt = (983039 : Int) by decide +kernel)))).trans (show (1 : Int32) = if (Int32.ofNat 31 &&& (1 : Int32)) = (1 : Int32) then 1 else 0 by decide +kernel)
  · exact (own_seg32 c (Int.le_trans (Int.le_of_eq (show (983040 : Int) = (own_tab (Int32.ofNat 32)).toInt by decide +kernel)) h1) (Int.le_trans h2 (Int.le_of_eq (show (own_hi (Int32.ofNat 32)).toInt = (2147483647 : Int) by decide +kernel)))).trans (show (0 : Int32) = if (Int32.ofNat 32 &&& (1 : Int32)) = (1 : Int32) then 1 else 0 by decide +kernel)
theorem own_259 (off lo hi b : Int32) (hle : lo.toInt ≤ hi.toInt) (H : ∀ c : Int32, lo.toInt ≤ c.toInt → c.toInt ≤ hi.toInt → f1_0 c = b) : f0_259 off lo hi b = 1 := by
  unfold f0_259 f0_285 f0_292
  have l1 := Int32.le_toInt lo
  have l2 := Int32.toInt_lt hi
  have l3 := Int32.toInt_lt lo
  have l4 := Int32.le_toInt hi
  have e1 := c_i2l lo
  have e2 := c_i2l hi
  have s1 := c_lsub hi.toInt64 lo.toInt64
  have s1l := Int64.le_toInt (hi.toInt64 - lo.toInt64)
  have s1u := Int64.toInt_lt (hi.toInt64 - lo.toInt64)
  have s2 := c_ladd (hi.toInt64 - lo.toInt64) 1
  have s2l := Int64.le_toInt (hi.toInt64 - lo.toInt64 + 1)
  have s2u := Int64.toInt_lt (hi.toInt64 - lo.toInt64 + 1)
  have z1 : (1 : Int64).toInt = 1 := rfl
  have hlen : (hi.toInt64 - lo.toInt64 + 1).toInt = hi.toInt - lo.toInt + 1 := by omega
  have m1 := c_maskL off.toInt64 4294967295 32 (by decide) (by decide)
  generalize (off.toInt64 &&& (4294967295 : Int64)) = o at *
  have o0 : 0 ≤ o.toInt := by omega
  have r1 : (o - o / (hi.toInt64 - lo.toInt64 + 1) * (hi.toInt64 - lo.toInt64 + 1)).toInt = o.toInt % (hi.toInt - lo.toInt + 1) := by
    rw [lrem_mod, Int64.toInt_mod, hlen, Int.tmod_eq_emod_of_nonneg o0]
  have r2 := Int.emod_nonneg o.toInt (show hi.toInt - lo.toInt + 1 ≠ 0 by omega)
  have r3 := Int.emod_lt_of_pos o.toInt (show 0 < hi.toInt - lo.toInt + 1 by omega)
  generalize (o - o / (hi.toInt64 - lo.toInt64 + 1) * (hi.toInt64 - lo.toInt64 + 1)) = q at *
  generalize o.toInt % (hi.toInt - lo.toInt + 1) = Q at *
  have a1 := c_ladd lo.toInt64 q
  have a1l := Int64.le_toInt (lo.toInt64 + q)
  have a1u := Int64.toInt_lt (lo.toInt64 + q)
  have c1 := c_l2i (lo.toInt64 + q)
  have c1l := Int32.le_toInt (lo.toInt64 + q).toInt32
  have c1u := Int32.toInt_lt (lo.toInt64 + q).toInt32
  have hcp : (lo.toInt64 + q).toInt32.toInt = lo.toInt + Q := by omega
  rw [if_pos (H _ (by omega) (by omega)), if_pos (H _ (by omega) (by omega)), if_pos (H _ (by omega) (by omega))]
theorem own_245 (off j : Int32) (h0 : ¬ j < 0) (h1 : j < 33) : f0_245 off j (own_tab j) (own_hi j) = 1 := by
  obtain ⟨k, rfl⟩ := own_nat h0 h1
  have key : ∀ k : Fin 33, (own_tab (Int32.ofNat k.val)).toInt ≤ (own_hi (Int32.ofNat k.val)).toInt := by decide +kernel
  have H := own_all k
  unfold f0_245
  by_cases hb : (Int32.ofNat k.val &&& (1 : Int32)) = (1 : Int32)
  · rw [if_pos hb]; simp only [if_pos hb] at H
    exact own_259 _ _ _ _ (key k) H
  · rw [if_neg hb]; simp only [if_neg hb] at H
    exact own_259 _ _ _ _ (key k) H
theorem law_true (p0 p1 : Int32) : f0_0 p0 p1 = 1 := by
  unfold f0_0
  have hi := own_ix p0
  generalize ((p0 &&& (2147483647 : Int32)) - (p0 &&& (2147483647 : Int32)) / (33 : Int32) * (33 : Int32)) = j at *
  have h := own_245 p1 j hi.1 hi.2
  unfold own_hi at h
  by_cases h32 : j = (32 : Int32)
  · rw [if_pos h32]; rw [if_pos h32] at h; exact h
  · rw [if_neg h32]; rw [if_neg h32] at h; exact h

set_option maxRecDepth 65536 in
set_option maxHeartbeats 4000000 in
theorem comes_1 {Post : Tables → Env → Array Value → State → Outcome → State → Prop} (hpost : ∀ tb e args s v u, (limb_1_1.after args s (.returned v) u = true ∧ limb_1_2.after args s (.returned v) u = true ∧ True) → FrameEnd s (.returned v) u (Jvm.fieldLocs frame_1_writes args s ++ Jvm.arrayLocs frame_1_arrays args s ++ Jvm.staticLocs frame_1_statics s) 16 192 → Post tb e args s (.returned v) u) :
    ArmFor flags0 classFile x code maxLocals ret World_1 tables_1 room_1 Calls_1 rest_1 Pre_1 Post := by
  intro l hfl _ _ p e ha hc hk s m args below hf hA hF happ hP
  obtain ⟨hcalls, hrest, hpre⟩ := hP
  obtain ⟨-, -, -, hnamed, -, -, -, hat⟩ := (Spec.applies_iff hf).mp happ
  obtain ⟨hg, hn⟩ := and_e (Cond.before_iff.mp (show (Jvm.Cond.and given_1 narrow_1).before args s = true from hpre))
  obtain ⟨g1, g2⟩ := and_e hg
  obtain ⟨ga0, gb0⟩ := and_e g2
  obtain ⟨w0, w1, rfl⟩ : ∃ w0 w1 : Value, args = #[w0, w1] := by
    have hs : args.size = 2 := by simpa [Cond.value, given_1] using g1
    obtain ⟨L⟩ := args
    match L, hs with
    | [w0, w1], _ => exact ⟨w0, w1, rfl⟩
  have hw := fun d (hd : d ∈ tables_1) => atoms_spec (ws := Jvm.Cond.code x code maxLocals ret :: tables_1) hat d (List.mem_cons_of_mem _ hd)
  obtain ⟨i0, ei0⟩ := is_v ga0
  obtain rfl : w0 = (.int i0) := Option.some.inj ei0
  obtain ⟨i1, ei1⟩ := is_v gb0
  obtain rfl : w1 = (.int i1) := Option.some.inj ei1
  obtain ⟨n, o, h1, h2, h3, _, L, rfl, ⟨rfl, N⟩, hq⟩ := rm0 l s _ hw tables_1 i0 i1 s.heap s.heap.size (Nat.le_refl _) p e ha hc hk s m _ below hf ((Spec.applies_iff_loose hf).mp happ).1 ⟨rfl, State.Warmed39.refl s, rfl⟩ trivial
  rw [law_true] at *
  refine ⟨n, _, h1, h2, h3, hpost _ _ _ _ _ _ ⟨Cond.after_iff.mpr rfl, Cond.after_iff.mpr (eq_i res_at (Term.int_eval (1)) rfl), trivial⟩ ⟨hq.1, hq.2.1, (hq.2.2.sift fun y hy => Or.inr (N y hy)).mono (by decide) (by decide)⟩⟩
theorem main_1_1 : Claimed_1_1 := comes_1 fun _ _ _ _ _ _ h hF => ⟨h.1, hF⟩
theorem main_1_2 : Claimed_1_2 := comes_1 fun _ _ _ _ _ _ h hF => ⟨h.2.1, hF⟩
end Jvm.Pilot.@@N@@
namespace Jvm.Pilot.@@N@@
open Jvm Jvm.ClassFile Sem Op Lib Jvm.Free Jvm.Stand Jvm.Pilot.@@N@@.Jvm.D
/-! MADE BY PROGRAM (witnessworld.py) out of the Statement's table words and the real class files: 9 classes; the members and pool entries that the words name. The judged class is class 1, her method 1. -/
namespace start1
open Jvm.ClassFile
def u (s : String) : CpInfo := .utf8 (stringToUtf16 s)
/-- a pool by its gaps: so many unusable entries, then the entry; so many at the end -/
def gap : Nat → List CpInfo → List CpInfo
  | 0, r => r
  | n + 1, r => .unusable :: gap n r
def poolList (es : List (Nat × CpInfo)) (last : Nat) : List CpInfo := es.foldr (fun e r => gap e.1 (e.2 :: r)) (gap last [])
def pool (es : List (Nat × CpInfo)) (last : Nat) : Array CpInfo := ⟨poolList es last⟩
def fileOf (pool : Array CpInfo) (this : Nat) (attrs : Array Attribute := #[]) (ms : Array MethodInfo := #[]) (fl : Nat := 33) (sup : Nat := 0) (ifs : Array Nat := #[]) (fds : Array FieldInfo := #[]) : ClassFile where
  minorVersion := 0
  majorVersion := 65
  constantPool := pool
  accessFlags := fl
  thisClass := this
  superClass := sup
  interfaces := ifs
  fields := fds
  methods := ms
  attributes := attrs
def plain (name : String) (sup : Option ClassId) : Class where
  name := name
  kind := .ordinary
  loader := none
  accessFlags := 33
  super := sup
  interfaces := #[]
  cf := none
  fields := #[]
  methods := #[]
  instanceTypes := #[]
  staticTypes := #[]
  resolved := #[]
  callSites := []
  init := .initialized
  statics := none
  mirror := none

def pool0 : Array CpInfo := pool [(5, u "<init>"), (0, u "()V"), (1, .class_ 10), (1, u "java/lang/Object")] 113

def k0m0 : Method := { name := "<init>", desc := "()V", sig := { parameters := [], returnType := none }, accessFlags := 1, code := none }
/-- java/lang/Object -/
def k0 : Class := { plain "java/lang/Object" none with
  accessFlags := 33
  interfaces := #[]
  cf := some (fileOf pool0 8 #[] #[{ accessFlags := 1, nameIndex := 5, descriptorIndex := 6, attributes := #[] }] 33 0 #[] #[])
  fields := #[]
  methods := #[k0m0]
  instanceTypes := #[]
  staticTypes := #[]
  resolved := Array.replicate 124 none
  statics := none }

def pool1 : Array CpInfo := pool [(2, .class_ 4), (1, u "java/lang/Object"), (0, u "<init>"), (0, u "()V"), (2, .integer 2147483648), (0, .integer 55296), (0, .integer 63744), (0, .integer 64976), (0, .integer 65008), (0, .integer 65534), (0, .integer 65536), (0, .integer 983040), (0, .integer 2147483647), (0, .long 4294967295), (1, .methodref 21 22), (0, .class_ 23), (0, .nameAndType 24 25), (0, u "com/example/prudent_validator/prudentvalidator/datatypes/XmlNames"), (0, u "isNameStart"), (0, u "(I)Z"), (0, .class_ 27), (0, u "com/example/prudent_validator/prudentvalidator/datatypes/XmlNamesIsNameStartPinLaw"), (2, u "law"), (0, u "(II)Z")] 5

def k1m0 : Method := { name := "<init>", desc := "()V", sig := { parameters := [], returnType := none }, accessFlags := 2, code := none }
def k1c1 : Code := { maxStack := 6, maxLocals := 12, code := code, exceptionTable := #[], attributes := #[] }
def k1m1 : Method := { name := "law", desc := "(II)Z", sig := { parameters := [.int, .int], returnType := some .boolean }, accessFlags := 9, code := some k1c1 }
/-- com/example/prudent_validator/prudentvalidator/datatypes/XmlNamesIsNameStartPinLaw -/
def k1 : Class := { plain "com/example/prudent_validator/prudentvalidator/datatypes/XmlNamesIsNameStartPinLaw" (some 0) with
  accessFlags := 49
  interfaces := #[]
  cf := some (fileOf pool1 26 #[] #[{ accessFlags := 2, nameIndex := 5, descriptorIndex := 6, attributes := #[] }, { accessFlags := 9, nameIndex := 30, descriptorIndex := 31, attributes := #[] }] 49 2 #[] #[])
  fields := #[]
  methods := #[k1m0, k1m1]
  instanceTypes := #[]
  staticTypes := #[]
  resolved := Array.replicate 37 none
  statics := none }

def pool2 : Array CpInfo := pool [(2, .class_ 4), (1, u "java/lang/Object"), (0, u "<init>"), (0, u "()V"), (0, .class_ 8), (0, u "com/example/prudent_validator/prudentvalidator/datatypes/XmlNames$NameMatcher"), (4, .class_ 15), (1, u "com/example/prudent_validator/prudentvalidator/datatypes/XmlNames"), (8, .class_ 25), (0, u "com/example/prudent_validator/prudentvalidator/datatypes/XmlNames$LanguageMatcher"), (1, .integer 55295), (0, .integer 63744), (0, .integer 64975), (0, .integer 65008), (0, .integer 65533), (0, .integer 65536), (0, .integer 983039), (2, u "isNameStart"), (0, u "(I)Z")] 15

def k2m0 : Method := { name := "<init>", desc := "()V", sig := { parameters := [], returnType := none }, accessFlags := 2, code := none }
def k2c1 : Code := { maxStack := 2, maxLocals := 1, code := prog_112_method_7_code, exceptionTable := #[], attributes := #[] }
def k2m1 : Method := { name := "isNameStart", desc := "(I)Z", sig := { parameters := [.int], returnType := some .boolean }, accessFlags := 8, code := some k2c1 }
/-- com/example/prudent_validator/prudentvalidator/datatypes/XmlNames -/
def k2 : Class := { plain "com/example/prudent_validator/prudentvalidator/datatypes/XmlNames" (some 0) with
  accessFlags := 32
  interfaces := #[]
  cf := some (fileOf pool2 13 #[.nestMembers #[24, 7]] #[{ accessFlags := 2, nameIndex := 5, descriptorIndex := 6, attributes := #[] }, { accessFlags := 8, nameIndex := 36, descriptorIndex := 37, attributes := #[] }] 32 2 #[] #[])
  fields := #[]
  methods := #[k2m0, k2m1]
  instanceTypes := #[]
  staticTypes := #[]
  resolved := Array.replicate 53 none
  statics := none }

def pool3 : Array CpInfo := pool [(1, u "java/lang/Cloneable"), (0, .class_ 1), (0, u "java/lang/Object"), (0, .class_ 3)] 3

/-- java/lang/Cloneable -/
def k3 : Class := { plain "java/lang/Cloneable" (some 0) with
  accessFlags := 1537
  interfaces := #[]
  cf := some (fileOf pool3 2 #[] #[] 1537 4 #[] #[])
  fields := #[]
  methods := #[]
  instanceTypes := #[]
  staticTypes := #[]
  resolved := Array.replicate 8 none
  statics := none }

def pool4 : Array CpInfo := pool [(1, u "java/io/Serializable"), (0, .class_ 1), (0, u "java/lang/Object"), (0, .class_ 3)] 3

/-- java/io/Serializable -/
def k4 : Class := { plain "java/io/Serializable" (some 0) with
  accessFlags := 1537
  interfaces := #[]
  cf := some (fileOf pool4 2 #[] #[] 1537 4 #[] #[])
  fields := #[]
  methods := #[]
  instanceTypes := #[]
  staticTypes := #[]
  resolved := Array.replicate 8 none
  statics := none }

/-- the primitive byte -/
def k5 : Class := { plain "byte" none with kind := .primitive 'B', accessFlags := 0x411 }
/-- [B -/
def k6 : Class := { plain "[B" (some 0) with kind := .array 5 .byte, interfaces := #[3, 4], accessFlags := 1041 }

/-- the primitive int -/
def k7 : Class := { plain "int" none with kind := .primitive 'I', accessFlags := 0x411 }
/-- [I -/
def k8 : Class := { plain "[I" (some 0) with kind := .array 7 .int, interfaces := #[3, 4], accessFlags := 1041 }

def heap : Heap := #[]
def classes : Array Class := #[k0, k1, k2, k3, k4, k5, k6, k7, k8]
def interned : List (Array UInt16 × Addr) := []
def slotsUsed : Nat := 0
def theMethod : MethodId := ⟨1, 1⟩
def args0 : Array Value := #[.int 1, .int 2]
def aboutOver (below : List Frame) : State where
  vm := { classes := classes, interned := interned.toArray }
  heap := heap
  slotsUsed := slotsUsed
  threads := #[{ frames := .invoking theMethod args0 :: below }]
def below0 : List Frame := [.native { method := ⟨0, 0⟩, args := #[] }]
def about1 : State := aboutOver below0
def p0 : Program := .bare "" "" ""
def e0 : Env := launch0.env 0 0 0
theorem w_frames : about1.frames = Frame.invoking theMethod args0 :: below0 := rfl
set_option maxRecDepth 65536 in
theorem w_args : argsFit about1.vm theMethod args0 = true := by decide +kernel
set_option maxRecDepth 65536 in
theorem w_heap : heapFits about1 = true := by decide +kernel
set_option maxRecDepth 65536 in
theorem w_runnable : about1.curStatus? = some .runnable := by decide +kernel
set_option maxRecDepth 65536 in
theorem w_alone : about1.alone = true := by decide +kernel
set_option maxRecDepth 65536 in
theorem w_named : about1.methodNamed? x = some theMethod := by decide +kernel
set_option maxRecDepth 65536 in
theorem w_hears : about1.hears theMethod below0 = true := by decide +kernel
set_option maxRecDepth 65536 in
theorem w_ripe : about1.ripe theMethod args0 below0 = true := by decide +kernel
theorem w_running : about1.status = .running := rfl
set_option maxRecDepth 65536 in
theorem w_room : about1.hasRoom e0.platform room_1 = true :=
  launch0.hasRoom_least _ room_1 (by decide +kernel) (by decide +kernel) (by decide +kernel) (by decide +kernel) (by decide +kernel) (by decide +kernel)
theorem allAtoms_all (ts : List Jvm.Cond) (a : Array Jvm.Value) (st : Jvm.State) : (allAtoms ts).before a st = ts.all (fun c => c.before a st) := by
  induction ts with
  | nil => rfl
  | cons c t ih =>
    show (Jvm.Cond.and c (allAtoms t)).before a st = _
    rw [Jvm.Cond.before_and, ih, List.all_cons]
def words1 : List Jvm.Cond := Jvm.Cond.code x code maxLocals ret :: tables_1
/-- a 'code' word, met by the world's own term for the bytes: nothing is compared byte by byte -/
theorem code_word {y : MethodName} {bytes : ByteArray} {mx : Nat} {rt : Option FieldType} {a : Array Value} {s : State} {m : MethodId} {meth : Method} {c : Code} (h1 : s.methodNamed? y = some m) (h2 : s.vm.method? m = some meth) (h3 : meth.code = some c) (h4 : c.code = bytes)
    (h5 : (c.maxLocals == mx && c.exceptionTable.isEmpty && decide (c.maxStack ≤ mostOperands) && decide (meth.sig.returnType = rt) && !meth.locks && decide (parseMethodDescriptor y.desc = some meth.sig)) = true) : (Jvm.Cond.code y bytes mx rt).before a s = true := by
  simp only [Bool.and_eq_true, beq_iff_eq, Bool.not_eq_true', decide_eq_true_eq] at h5
  obtain ⟨⟨⟨⟨⟨g1, g2⟩, g3⟩, g4⟩, g5⟩, g6⟩ := h5
  simp [Cond.before, Cond.holds, Cond.value, h1, h2, h3, h4, g1, g2, g3, g4, g5, g6]
def isCode : Jvm.Cond → Bool
  | .code _ _ _ _ => true
  | _ => false
theorem all_split {L : List Jvm.Cond} {P : Jvm.Cond → Bool} (h1 : L.all (fun c => isCode c || P c) = true) (h2 : ∀ c ∈ L.filter isCode, P c = true) : L.all P = true := by
  refine List.all_eq_true.mpr fun c hc => ?_
  have h := List.all_eq_true.mp h1 c hc
  rcases Bool.eq_false_or_eq_true (isCode c) with hi | hi
  · exact h2 c (List.mem_filter.mpr ⟨hc, hi⟩)
  · simpa [hi] using h
set_option maxRecDepth 65536 in
theorem w_c0 : (Jvm.Cond.code x code maxLocals ret).before args0 about1 = true := code_word (m := ⟨1, 1⟩) (meth := k1m1) (c := k1c1) (by decide +kernel) rfl rfl rfl (by decide +kernel)
set_option maxRecDepth 65536 in
theorem w_c1 : (Jvm.Cond.code ({ cls := "com/example/prudent_validator/prudentvalidator/datatypes/XmlNames", name := "isNameStart", desc := "(I)Z" } : Jvm.MethodName) prog_112_method_7_code (1 : Nat) (Option.some Jvm.ClassFile.FieldType.boolean)).before args0 about1 = true := code_word (m := ⟨2, 1⟩) (meth := k2m1) (c := k2c1) (by decide +kernel) rfl rfl rfl (by decide +kernel)
def codes1 : List Jvm.Cond := [Jvm.Cond.code x code maxLocals ret, Jvm.Cond.code ({ cls := "com/example/prudent_validator/prudentvalidator/datatypes/XmlNames", name := "isNameStart", desc := "(I)Z" } : Jvm.MethodName) prog_112_method_7_code (1 : Nat) (Option.some Jvm.ClassFile.FieldType.boolean)]
set_option maxRecDepth 65536 in
theorem codes_eq : words1.filter isCode = codes1 := rfl
theorem w_codes : ∀ c ∈ words1.filter isCode, c.before args0 about1 = true := by
  rw [codes_eq]
  intro c hc
  simp only [codes1, List.mem_cons, List.not_mem_nil, or_false] at hc
  rcases hc with rfl | rfl
  · exact w_c0
  · exact w_c1
set_option maxRecDepth 65536 in
theorem w_t1 : words1.all (fun c => isCode c || c.before args0 about1) = true := by decide +kernel
theorem w_tables : (allAtoms (Jvm.Cond.code x code maxLocals ret :: tables_1)).before args0 about1 = true := by
  rw [allAtoms_all]
  show words1.all (fun c => c.before args0 about1) = true
  refine all_split ?_ w_codes
  rw [w_t1]
set_option maxRecDepth 65536 in
theorem w_case : (Jvm.Cond.and given_1 narrow_1).before args0 about1 = true := by decide +kernel
theorem w_applies : (headSpec (Jvm.Cond.code x code maxLocals ret :: tables_1) room_1).applies x e0.platform about1 = true :=
  (Spec.applies_iff w_frames).mpr ⟨w_running, w_runnable, w_alone, w_named, w_hears, w_ripe, w_room, w_tables⟩
theorem atStart : AtStart classFile x code maxLocals ret World_1 tables_1 room_1 Calls_1 rest_1 Pre_1 launch0 p0 e0 about1 theMethod args0 below0 :=
  ⟨lists_1, trivial, launch0.admits_env _ _ _, launch0.least_env, fairChoices_fair.cas, fairChoices_fair.clock, w_frames, w_args, w_heap, w_applies, trivial, trivial, w_case⟩
end start1
theorem witness_1 : WitnessClaimed_1 := ⟨start1.p0, start1.e0, start1.about1, start1.theMethod, start1.args0, start1.below0, start1.atStart⟩
end Jvm.Pilot.@@N@@
