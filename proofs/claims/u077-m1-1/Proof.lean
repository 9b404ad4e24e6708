import JvmDerived
import JvmDerived.Pilot.@@N@@Statement
import JvmDerived.Pilot.@@N@@Code
set_option linter.unusedVariables false
set_option linter.unusedSimpArgs false
namespace Jvm.RoadKit
open Sem ClassFile Op Lib Jvm.Stand Jvm.Free Jvm.LawKit
section New
variable {p : Program} {l : Launch} {e : Env} {R : Room} {s : State} {m : MethodId} {args : Array Value} {below : List Frame} {meth : Method} {c : Code} {T : State} {locs : List Loc} {cells slots : Nat}
theorem retI (X : Stand p l e R s m args below meth c T locs cells slots) (hx : p.tables.exec = Jvm.exec) {pc : Nat} {Ls : Array Slot} {z : Int32} {rest : List Value} (hret : meth.sig.returnType = some .int) (hd : decode c.code pc = .ok (.ireturn, 1)) {fs : List Frame}
    (hl : ∀ (f : JFrame) (acts : List Action), f.method = m → f.locked = none → f.entered = [] → (doReturn e (T.setTop f) acts (some (.int z))).1 = T.setFrames fs) : Steps p.tables e below (T.setTop (mkF m pc Ls (.int z :: rest))) (T.setFrames fs) := by
  have hm' : T.vm.method? m = some meth := X.method'
  have hn : narrow .int (.int z) = .int z := rfl
  show Steps p.tables e below (T.setTop { method := m, pc := pc, locals := Ls, stack := _ :: rest, locked := none }) _
  jvm_step X.here [X.here.top, hx, hd, hm', hret, hn]
  first | (intro acts; rw [hl _ acts rfl rfl rfl]) | rw [hl _ _ rfl rfl rfl]
  exact Steps.refl _
end New
end Jvm.RoadKit
namespace Jvm.Pilot.@@N@@
open Jvm Jvm.ClassFile Sem Op Lib Jvm.Free Jvm.Stand Jvm.LawKit Jvm.RoadKit Bundle Jvm.Pilot.@@N@@.Jvm.D
section Own
variable {p : Program} {l : Launch} {e : Env} {R : Room} {s : State} {m : MethodId} {args : Array Value} {below : List Frame} {meth : Method} {c : Code} {T T' : State} {locs : List Loc} {cells slots : Nat}
/-- what a walk has still to come to: it ends, with an answer of which Q is true -/
def own_Ends (p : Program) (e : Env) (below : List Frame) (U : State) (C S : Nat) (Q : Option Value → Heap → List Loc → Prop) (T : State) (f : JFrame) : Prop :=
  ∃ s₂ o, Steps p.tables e below (T.setTop f) s₂ ∧ s₂.status = .running ∧ Ended s₂ below o ∧ ∃ v L, o = .returned v ∧ Q v s₂.heap L ∧ FrameEnd U o s₂ L C S
theorem own_step {U : State} {C S : Nat} {Q : Option Value → Heap → List Loc → Prop} {f f' : JFrame} (h : ∀ t, Steps p.tables e below (T'.setTop f') t → Steps p.tables e below (T.setTop f) t) (k : own_Ends p e below U C S Q T' f') : own_Ends p e below U C S Q T f := by
  obtain ⟨s₂, o, h1, h2⟩ := k
  exact ⟨s₂, o, h _ h1, h2⟩
/-- a pure answer: that value, nothing old written, the heap as it was -/
def own_P (w : Value) (h0 : Heap) (n0 : Nat) (v : Option Value) (h : Heap) (L : List Loc) : Prop := v = some w ∧ Fr n0 L ∧ h = h0
theorem own_retZ {C S : Nat} {Q : Option Value → Heap → List Loc → Prop} {pc : Nat} {Ls : Array Slot} {z : Int32} {t : FieldType} {rest : List Value} (X : Stand p l e R s m args below meth c T locs cells slots) (hx : p.tables.exec = Jvm.exec) (hret : meth.sig.returnType = some t) (ht : t = .boolean ∨ t = .byte ∨ t = .char ∨ t = .short) (hlk : meth.locks = false)
    (hd : decode c.code pc = .ok (.ireturn, 1)) (hC : cells ≤ C) (hS : slots ≤ S) (hq : Q (some (.int (nar t z))) T.heap locs) : own_Ends p e below s C S Q T (mkF m pc Ls (.int z :: rest)) := by
  obtain ⟨fs, hr, hrun, hended, hW, hsame⟩ := X.leave (v := some (.int (nar t z))) (fun h => by rw [hret] at h; cases h) hlk
  exact ⟨_, _, retN X hx hret ht hd hr, hrun, hended, _, _, rfl, hq, ⟨_, rfl⟩, hW, hsame.mono hC hS⟩
theorem own_retI {C S : Nat} {Q : Option Value → Heap → List Loc → Prop} {pc : Nat} {Ls : Array Slot} {z : Int32} {rest : List Value} (X : Stand p l e R s m args below meth c T locs cells slots) (hx : p.tables.exec = Jvm.exec) (hret : meth.sig.returnType = some .int) (hlk : meth.locks = false)
    (hd : decode c.code pc = .ok (.ireturn, 1)) (hC : cells ≤ C) (hS : slots ≤ S) (hq : Q (some (.int z)) T.heap locs) : own_Ends p e below s C S Q T (mkF m pc Ls (.int z :: rest)) := by
  obtain ⟨fs, hr, hrun, hended, hW, hsame⟩ := X.leave (v := some (.int z)) (fun h => by rw [hret] at h; cases h) hlk
  exact ⟨_, _, retI X hx hret hd hr, hrun, hended, _, _, rfl, hq, ⟨_, rfl⟩, hW, hsame.mono hC hS⟩
def own_V (h0 : Heap) (n0 : Nat) (v : Option Value) (h : Heap) (L : List Loc) : Prop := v = none ∧ Fr n0 L ∧ h = h0
theorem own_retV {C S : Nat} {Q : Option Value → Heap → List Loc → Prop} {pc : Nat} {Ls : Array Slot} (X : Stand p l e R s m args below meth c T locs cells slots) (hx : p.tables.exec = Jvm.exec) (hret : meth.sig.returnType = none) (hlk : meth.locks = false)
    (hd : decode c.code pc = .ok (.return_, 1)) (hC : cells ≤ C) (hS : slots ≤ S) (hq : Q none T.heap locs) : own_Ends p e below s C S Q T (mkF m pc Ls []) := by
  obtain ⟨fs, hr, hrun, hended, hW, hsame⟩ := X.leave (v := none) (fun _ => rfl) hlk
  exact ⟨_, _, X.returnOut hx hret hd hr, hrun, hended, _, _, rfl, hq, ⟨_, rfl⟩, hW, hsame.mono hC hS⟩
theorem own_retJ {C S : Nat} {Q : Option Value → Heap → List Loc → Prop} {pc : Nat} {Ls : Array Slot} {z : Int64} (X : Stand p l e R s m args below meth c T locs cells slots) (hx : p.tables.exec = Jvm.exec) (hret : meth.sig.returnType = some .long) (hlk : meth.locks = false)
    (hd : decode c.code pc = .ok (.lreturn, 1)) (hC : cells ≤ C) (hS : slots ≤ S) (hq : Q (some (.long z)) T.heap locs) : own_Ends p e below s C S Q T (mkF m pc Ls [.long z]) := by
  obtain ⟨fs, hr, hrun, hended, hW, hsame⟩ := X.leave (v := some (.long z)) (fun h => by rw [hret] at h; cases h) hlk
  exact ⟨_, _, X.lreturnOut hx hret hd hr, hrun, hended, _, _, rfl, hq, ⟨_, rfl⟩, hW, hsame.mono hC hS⟩
end Own
section OwnArr
variable {p : Program} {l : Launch} {e : Env} {R : Room} {s : State} {m : MethodId} {args : Array Value} {below : List Frame} {meth : Method} {c : Code} {T : State} {locs : List Loc} {cells slots : Nat} {Z : State} {a0 : Array Value} {h h' : Heap} {a b : Addr} {ty : FieldType} {vs : List Value} {n0 : Nat}
/-- an answer of which the heap isn't said: that value, nothing old written -/
def own_W (Z : State) (w : Value) (a : Addr) (vs : List Value) (n0 : Nat) (v : Option Value) (h : Heap) (L : List Loc) : Prop := v = some w ∧ Fr n0 L ∧ (∃ c : Cell, Arr Z h a c .byte ∧ c.slots.toList = vs) ∧ n0 ≤ h.size
def own_R (w : Value) (n0 : Nat) (v : Option Value) (h : Heap) (L : List Loc) : Prop := v = some w ∧ Fr n0 L
/-- the array at a holds just these -/
def own_A (Z : State) (h : Heap) (a : Addr) (ty : FieldType) (vs : List Value) : Prop := ∃ c : Cell, Arr Z h a c ty ∧ c.slots.toList = vs
theorem own_A.lt (A : own_A Z h a ty vs) : a < h.size := by obtain ⟨c, A, -⟩ := A; exact A.lt
theorem own_A.ext (A : own_A Z h a ty vs) (E : Ext h h') : own_A Z h' a ty vs := by obtain ⟨c, A, q⟩ := A; exact ⟨c, A.ext E, q⟩
theorem own_A.other {sl : Nat} {v : Value} (A : own_A Z h b ty vs) (W : Wr h h' a sl v) (q : b ≠ a) : own_A Z h' b ty vs := by obtain ⟨c, A, r⟩ := A; exact ⟨c, A.other W q, r⟩
theorem own_A.set {k : Nat} {v : Value} (A : own_A Z h a ty vs) (W : Wr h h' a k v) : own_A Z h' a ty (vs.set k v) := by
  obtain ⟨c, A, r⟩ := A
  refine ⟨c.setSlot k v, A.same W, ?_⟩
  subst r
  simp [Cell.setSlot]
theorem own_A.size {c : Cell} (r : c.slots.toList = vs) : c.slots.size = vs.length := by subst r; simp
theorem own_new {aty : ArrayType} (X : Stand p l e R s m args below meth c T locs cells slots) (hx : p.tables.exec = Jvm.exec) (hZ : Z.Warmed39 s.vm) (w : (Cond.arrayClass (newarray.typeOf aty)).before a0 Z = true) (eT : T.heap = h) {g : JFrame} (hg : g.method = m) (hd : decode c.code g.pc = .ok (.newarray aty, 2)) {n : Int32} {rest : List Value} (hs : g.stack = .int n :: rest)
    (hn : ¬ n < 0) {k : Nat} (hk : n.toNatClampNeg = k) (hb : k * 8 ≤ 536870912) (hc : cells + 1 ≤ R.cells) (hl : slots + k ≤ R.slots) (Sz : n0 ≤ h.size) :
    ∃ T' h' b, Stand p l e R s m args below meth c T' locs (cells + 1) (slots + k) ∧ T'.heap = h' ∧ Ext h h' ∧ b = h.size ∧ n0 ≤ b ∧ n0 ≤ h'.size ∧ own_A Z h' b (newarray.typeOf aty) (List.replicate k (defaultValue (newarray.typeOf aty))) ∧
      ∀ target, Steps p.tables e below (T'.setTop { g with pc := g.pc + 2, stack := .ref b :: rest }) target → Steps p.tables e below (T.setTop g) target := by
  obtain ⟨T', h', cA, X', e', E, A, st⟩ := newP X hx hZ w eT hg hd hs hn (cap := k) (Nat.le_of_eq hk) hb hc hl
  exact ⟨T', h', h.size, X', e', E, rfl, Sz, Nat.le_trans Sz E.1, ⟨_, A, by simp [newA, hk]⟩, st⟩
theorem own_stI (X : Stand p l e R s m args below meth c T locs cells slots) (hx : p.tables.exec = Jvm.exec) (hZ : Z.Warmed39 s.vm) (eT : T.heap = h) (A : own_A Z h a .int vs) {j x : Int32} (hj : ¬ j < 0) {k : Nat} (hk : j.toNatClampNeg = k) (hl : k < vs.length) (N : Fr n0 locs) (ga : n0 ≤ a) (Sz : n0 ≤ h.size) {g : JFrame} (hg : g.method = m) {rest : List Value} (hs : g.stack = .int x :: .int j :: .ref a :: rest) (hd : decode c.code g.pc = .ok (.iastore, 1)) :
    ∃ T' h' locs', Stand p l e R s m args below meth c T' locs' cells slots ∧ Fr n0 locs' ∧ T'.heap = h' ∧ Wr h h' a k (.int x) ∧ n0 ≤ h'.size ∧ own_A Z h' a .int (vs.set k (.int x)) ∧ ∀ target, Steps p.tables e below (T'.setTop { g with pc := g.pc + 1, stack := rest }) target → Steps p.tables e below (T.setTop g) target := by
  obtain ⟨cl, Ar, r⟩ := id A
  subst hk
  obtain ⟨T', h', X', e', W, st⟩ := stI X hx hZ eT Ar (j := j) (x := x) (fun q => q.elim hj fun z => absurd hl (by rw [← own_A.size r]; omega)) hg hs hd
  exact ⟨T', h', _, X', Fr.snoc X' N ga, e', W, by rw [W.size]; exact Sz, A.set W, st⟩
theorem own_stJ (X : Stand p l e R s m args below meth c T locs cells slots) (hx : p.tables.exec = Jvm.exec) (hZ : Z.Warmed39 s.vm) (eT : T.heap = h) (A : own_A Z h a .long vs) {j : Int32} {x : Int64} (hj : ¬ j < 0) {k : Nat} (hk : j.toNatClampNeg = k) (hl : k < vs.length) (N : Fr n0 locs) (ga : n0 ≤ a) (Sz : n0 ≤ h.size) {g : JFrame} (hg : g.method = m) {rest : List Value} (hs : g.stack = .long x :: .int j :: .ref a :: rest) (hd : decode c.code g.pc = .ok (.lastore, 1)) :
    ∃ T' h' locs', Stand p l e R s m args below meth c T' locs' cells slots ∧ Fr n0 locs' ∧ T'.heap = h' ∧ Wr h h' a k (.long x) ∧ n0 ≤ h'.size ∧ own_A Z h' a .long (vs.set k (.long x)) ∧ ∀ target, Steps p.tables e below (T'.setTop { g with pc := g.pc + 1, stack := rest }) target → Steps p.tables e below (T.setTop g) target := by
  obtain ⟨cl, Ar, r⟩ := id A
  subst hk
  obtain ⟨T', h', X', e', W, st⟩ := stJ X hx hZ eT Ar (j := j) (x := x) (fun q => q.elim hj fun z => absurd hl (by rw [← own_A.size r]; omega)) hg hs hd
  exact ⟨T', h', _, X', Fr.snoc X' N ga, e', W, by rw [W.size]; exact Sz, A.set W, st⟩
theorem own_stB (X : Stand p l e R s m args below meth c T locs cells slots) (hx : p.tables.exec = Jvm.exec) (hZ : Z.Warmed39 s.vm) (eT : T.heap = h) (A : own_A Z h a .byte vs) {j x : Int32} (hj : ¬ j < 0) {k : Nat} (hk : j.toNatClampNeg = k) (hl : k < vs.length) (N : Fr n0 locs) (ga : n0 ≤ a) (Sz : n0 ≤ h.size) {g : JFrame} (hg : g.method = m) {rest : List Value} (hs : g.stack = .int x :: .int j :: .ref a :: rest) (hd : decode c.code g.pc = .ok (.bastore, 1)) :
    ∃ T' h' locs', Stand p l e R s m args below meth c T' locs' cells slots ∧ Fr n0 locs' ∧ T'.heap = h' ∧ Wr h h' a k (.int (nar .byte x)) ∧ n0 ≤ h'.size ∧ own_A Z h' a .byte (vs.set k (.int (nar .byte x))) ∧ ∀ target, Steps p.tables e below (T'.setTop { g with pc := g.pc + 1, stack := rest }) target → Steps p.tables e below (T.setTop g) target := by
  obtain ⟨cl, Ar, r⟩ := id A
  subst hk
  obtain ⟨T', h', X', e', W, st⟩ := stB X hx hZ eT Ar (j := j) (x := x) (fun q => q.elim hj fun z => absurd hl (by rw [← own_A.size r]; omega)) hg hs hd
  exact ⟨T', h', _, X', Fr.snoc X' N ga, e', W, by rw [W.size]; exact Sz, A.set W, st⟩
theorem own_at {cl : Cell} (r : cl.slots.toList = vs) {k : Nat} {v : Value} (hv : vs[k]? = some v) : cl.slots[k]? = some v ∧ k < cl.slots.size := by
  subst r
  rw [Array.getElem?_toList] at hv
  exact ⟨hv, (Array.getElem?_eq_some_iff.mp hv).1⟩
theorem own_ldI (X : Stand p l e R s m args below meth c T locs cells slots) (hx : p.tables.exec = Jvm.exec) (hZ : Z.Warmed39 s.vm) (eT : T.heap = h) (A : own_A Z h a .int vs) {j : Int32} (hj : ¬ j < 0) {k : Nat} (hk : j.toNatClampNeg = k) {v : Value} (hv : vs[k]? = some v) {g : JFrame} (hg : g.method = m) {rest : List Value} (hs : g.stack = .int j :: .ref a :: rest) (hd : decode c.code g.pc = .ok (.iaload, 1)) (target : State)
    (hr : Steps p.tables e below (T.setTop { g with pc := g.pc + 1, stack := v :: rest }) target) : Steps p.tables e below (T.setTop g) target := by
  obtain ⟨cl, Ar, r⟩ := A
  obtain ⟨q1, q2⟩ := own_at r hv
  subst hk
  exact X.iaload hx (j := j) (v := v) (by rw [eT]; exact Ar.1) (State.isArrayOf_alike hZ.alike Ar.2.1) Ar.2.2 (fun z => z.elim hj fun z => by omega) q1 hg hs hd target hr
theorem own_ldJ (X : Stand p l e R s m args below meth c T locs cells slots) (hx : p.tables.exec = Jvm.exec) (hZ : Z.Warmed39 s.vm) (eT : T.heap = h) (A : own_A Z h a .long vs) {j : Int32} (hj : ¬ j < 0) {k : Nat} (hk : j.toNatClampNeg = k) {v : Value} (hv : vs[k]? = some v) {g : JFrame} (hg : g.method = m) {rest : List Value} (hs : g.stack = .int j :: .ref a :: rest) (hd : decode c.code g.pc = .ok (.laload, 1)) (target : State)
    (hr : Steps p.tables e below (T.setTop { g with pc := g.pc + 1, stack := v :: rest }) target) : Steps p.tables e below (T.setTop g) target := by
  obtain ⟨cl, Ar, r⟩ := A
  obtain ⟨q1, q2⟩ := own_at r hv
  subst hk
  exact X.laload hx (j := j) (v := v) (by rw [eT]; exact Ar.1) (State.isArrayOf_alike hZ.alike Ar.2.1) Ar.2.2 (fun z => z.elim hj fun z => by omega) q1 hg hs hd target hr
theorem own_ldB (X : Stand p l e R s m args below meth c T locs cells slots) (hx : p.tables.exec = Jvm.exec) (hZ : Z.Warmed39 s.vm) (eT : T.heap = h) (A : own_A Z h a .byte vs) {j : Int32} (hj : ¬ j < 0) {k : Nat} (hk : j.toNatClampNeg = k) {v : Value} (hv : vs[k]? = some v) {g : JFrame} (hg : g.method = m) {rest : List Value} (hs : g.stack = .int j :: .ref a :: rest) (hd : decode c.code g.pc = .ok (.baload, 1)) (target : State)
    (hr : Steps p.tables e below (T.setTop { g with pc := g.pc + 1, stack := v :: rest }) target) : Steps p.tables e below (T.setTop g) target := by
  obtain ⟨cl, Ar, r⟩ := A
  obtain ⟨q1, q2⟩ := own_at r hv
  subst hk
  exact X.baloadBytes hx (j := j) (v := v) (by rw [eT]; exact Ar.1) (State.isArrayOf_alike hZ.alike Ar.2.1) Ar.2.2 (fun z => z.elim hj fun z => by omega) q1 hg hs hd target hr
theorem own_len (X : Stand p l e R s m args below meth c T locs cells slots) (hx : p.tables.exec = Jvm.exec) (hZ : Z.Warmed39 s.vm) (eT : T.heap = h) (A : own_A Z h a ty vs) {n : Int32} (hn : vs.length.toInt32 = n) {g : JFrame} (hg : g.method = m) {rest : List Value} (hs : g.stack = .ref a :: rest) (hd : decode c.code g.pc = .ok (.arraylength, 1)) (target : State)
    (hr : Steps p.tables e below (T.setTop { g with pc := g.pc + 1, stack := .int n :: rest }) target) : Steps p.tables e below (T.setTop g) target := by
  obtain ⟨cl, Ar, r⟩ := A
  refine X.arraylength hx (by rw [eT]; exact Ar.1) (State.isArrayOf_alike hZ.alike Ar.2.1) hg hs hd target ?_
  rw [own_A.size r, hn]
  exact hr
end OwnArr
theorem d2_0 : decode jdk_30_method_1_code 0 = .ok (.aload_n 0, 1) := by decide +kernel
theorem d2_1 : decode jdk_30_method_1_code 1 = .ok (.invokespecial 1, 3) := by decide +kernel
theorem d2_4 : decode jdk_30_method_1_code 4 = .ok (.return_, 1) := by decide +kernel
theorem pn_2 : plainName "java/lang/Record" = true := by first | (simp [plainName, overriddenIn]; done) | decide +kernel
theorem ef_2 (m : MethodId) (x0 : Addr) : entryFrame m #[(.ref x0)] 1 = mkF m 0 #[.val (.ref x0)] [] := by first | (simp [entryFrame, mkF, argsToLocals, Value.category]; done) | rfl
def Q2 (Z : State) (a1 : Addr) (h0 : Heap) (n0 : Nat) (v : Option Value) (h : Heap) (L : List Loc) : Prop := v = none ∧ Fr n0 L ∧ h = h0
set_option maxRecDepth 65536 in
set_option maxHeartbeats 40000000 in
theorem rm2 (l : Launch) (Z : State) (a0 : Array Value) (hw : ∀ d ∈ tables_1, d.before a0 Z = true) (ws : List Jvm.Cond) (a1 : Addr) (h0 : Heap) (n0 : Nat) (Z0 : n0 ≤ h0.size) :
    MetFree l (⟨"java/lang/Record", "<init>", "()V"⟩ : MethodName) (head1 (Jvm.Cond.code (⟨"java/lang/Record", "<init>", "()V"⟩ : MethodName) jdk_30_method_1_code 1 none :: ws) ({ frames := 1, cells := 0, slots := 0, locals := 12 } : Room)) (fun a U => a = #[(.ref a1)] ∧ Z.Warmed39 U.vm ∧ U.heap = h0) (fun _ _ _ _ _ => True) (fun _ U o U' => ∃ v L, o = .returned v ∧ Q2 Z a1 h0 n0 v U'.heap L ∧ FrameEnd U o U' L ({ frames := 1, cells := 0, slots := 0, locals := 12 } : Room).cells ({ frames := 1, cells := 0, slots := 0, locals := 12 } : Room).slots) := by
  refine MetFree.of_bodySF (plainFor_of_name pn_2) hisR ?_
  intro p e s m args below meth c s₁ Bd hml0 hP hK
  obtain ⟨rfl, hZ, hh⟩ := hP
  have hx := Bd.exec
  have hby := Bd.bytes
  have hml : c.maxLocals = 1 := hml0
  have hown : s.vm.findClass "java/lang/Record" = some m.cls := findClass_of_methodNamed Bd.named
  have hnm := (name_of_methodNamed Bd.named Bd.method).1
  have X0 : Stand p l e ({ frames := 1, cells := 0, slots := 0, locals := 12 } : Room) s m #[(.ref a1)] below meth c s₁ [] 0 0 := Stand.of_body Bd
  have e0 : s₁.heap = h0 := by rw [← hh, Bd.state]; rfl
  have N0 := Fr.nil n0
  have pre0 : ∀ t, Steps p.tables e below (s₁.setTop (mkF m 0 #[.val (.ref a1)] [])) t → Steps p.tables e below (s₁.setTop (entryFrame m #[(.ref a1)] 1)) t := fun t k => castTop (ef_2 m a1) k
  obtain ⟨T2, X2, e2, st2⟩ := initO X0 hx hZ hown (hw _ (List.mem_of_getElem? (i := 11) rfl)) (hw _ (List.mem_of_getElem? (i := 12) rfl)) (hw _ (List.mem_of_getElem? (i := 13) rfl)) e0 (g := (mkF m 1 #[.val (.ref a1)] [(.ref a1)])) rfl (by rw [hml]; rfl) rfl (hb hby d2_1) (by decide) (W := 0) (by show 2 * 0 + _ ≤ _; exact Nat.le_of_eq rfl) (by decide)
  obtain ⟨fs, hr, hrun, hended, hW, hsame⟩ := X2.leave (v := none) (fun _ => rfl)
  refine ⟨_, _, pre0 _ ?_, hrun, hended, _, _, rfl, ?_, ⟨_, rfl⟩, hW, hsame.mono (by decide) (by decide)⟩
  · show Steps p.tables e below (s₁.setTop (mkF m 0 #[.val (.ref a1)] [])) _
    refine XS.aloadN X0.here hx rfl (hb hby d2_0) rfl rfl ?_
    show Steps p.tables e below (s₁.setTop (mkF m 1 #[.val (.ref a1)] [(.ref a1)])) _
    refine st2 _ ?_
    show Steps p.tables e below (T2.setTop (mkF m 4 #[.val (.ref a1)] [])) _
    exact X2.returnOut hx Bd.returns (hb hby d2_4) hr
  · show Q2 Z a1 h0 n0 _ T2.heap _
    rw [e2]
    exact ⟨rfl, N0, rfl⟩

theorem d1_0 : decode prog_21_method_1_code 0 = .ok (.aload_n 0, 1) := by decide +kernel
theorem d1_1 : decode prog_21_method_1_code 1 = .ok (.invokespecial 1, 3) := by decide +kernel
theorem d1_4 : decode prog_21_method_1_code 4 = .ok (.aload_n 0, 1) := by decide +kernel
theorem d1_5 : decode prog_21_method_1_code 5 = .ok (.lload_n 1, 1) := by decide +kernel
theorem d1_6 : decode prog_21_method_1_code 6 = .ok (.putfield 7, 3) := by decide +kernel
theorem d1_9 : decode prog_21_method_1_code 9 = .ok (.aload_n 0, 1) := by decide +kernel
theorem d1_10 : decode prog_21_method_1_code 10 = .ok (.lload_n 3, 1) := by decide +kernel
theorem d1_11 : decode prog_21_method_1_code 11 = .ok (.putfield 13, 3) := by decide +kernel
theorem d1_14 : decode prog_21_method_1_code 14 = .ok (.aload_n 0, 1) := by decide +kernel
theorem d1_15 : decode prog_21_method_1_code 15 = .ok (.lload 5, 2) := by decide +kernel
theorem d1_17 : decode prog_21_method_1_code 17 = .ok (.putfield 16, 3) := by decide +kernel
theorem d1_20 : decode prog_21_method_1_code 20 = .ok (.aload_n 0, 1) := by decide +kernel
theorem d1_21 : decode prog_21_method_1_code 21 = .ok (.lload 7, 2) := by decide +kernel
theorem d1_23 : decode prog_21_method_1_code 23 = .ok (.putfield 19, 3) := by decide +kernel
theorem d1_26 : decode prog_21_method_1_code 26 = .ok (.return_, 1) := by decide +kernel
theorem pn_1 : plainName "dev/lodestore/ConsumeQueue$Lost" = true := by first | (simp [plainName, overriddenIn]; done) | decide +kernel
theorem pd_1_1 : parseMethodDescriptor "()V" = some ⟨[], none⟩ := by decide +kernel
theorem ef_1 (m : MethodId) (x0 : Addr) (x1 : Int64) (x2 : Int64) (x3 : Int64) (x4 : Int64) : entryFrame m #[(.ref x0), (.long x1), (.long x2), (.long x3), (.long x4)] 9 = mkF m 0 #[.val (.ref x0), .val (.long x1), .second, .val (.long x2), .second, .val (.long x3), .second, .val (.long x4), .second] [] := by first | (simp [entryFrame, mkF, argsToLocals, Value.category]; done) | rfl
def Q1 (Z : State) (a1 : Addr) (q2 : Int64) (q3 : Int64) (q4 : Int64) (q5 : Int64) (u_from_a1 : Value) (u_until_a1 : Value) (u_messagesFrom_a1 : Value) (u_messagesUntil_a1 : Value) (h0 : Heap) (n0 : Nat) (v : Option Value) (h : Heap) (L : List Loc) : Prop := v = none ∧ Fr n0 L ∧ n0 ≤ h.size ∧ Exa Z h a1 "dev/lodestore/ConsumeQueue$Lost" ∧ Fld Z h a1 "dev/lodestore/ConsumeQueue$Lost" "from" "J" (.long q2) ∧ Fld Z h a1 "dev/lodestore/ConsumeQueue$Lost" "until" "J" (.long q3) ∧ Fld Z h a1 "dev/lodestore/ConsumeQueue$Lost" "messagesFrom" "J" (.long q4) ∧ Fld Z h a1 "dev/lodestore/ConsumeQueue$Lost" "messagesUntil" "J" (.long q5)
set_option maxRecDepth 65536 in
set_option maxHeartbeats 40000000 in
theorem rm1 (l : Launch) (Z : State) (a0 : Array Value) (hw : ∀ d ∈ tables_1, d.before a0 Z = true) (ws : List Jvm.Cond) (a1 : Addr) (q2 : Int64) (q3 : Int64) (q4 : Int64) (q5 : Int64) (u_from_a1 : Value) (u_until_a1 : Value) (u_messagesFrom_a1 : Value) (u_messagesUntil_a1 : Value) (h0 : Heap) (n0 : Nat) (Z0 : n0 ≤ h0.size) (E_a1 : Exa Z h0 a1 "dev/lodestore/ConsumeQueue$Lost") (F_from_a1 : Fld Z h0 a1 "dev/lodestore/ConsumeQueue$Lost" "from" "J" u_from_a1) (g_a1 : n0 ≤ a1) (F_until_a1 : Fld Z h0 a1 "dev/lodestore/ConsumeQueue$Lost" "until" "J" u_until_a1) (F_messagesFrom_a1 : Fld Z h0 a1 "dev/lodestore/ConsumeQueue$Lost" "messagesFrom" "J" u_messagesFrom_a1) (F_messagesUntil_a1 : Fld Z h0 a1 "dev/lodestore/ConsumeQueue$Lost" "messagesUntil" "J" u_messagesUntil_a1) :
    MetFree l (⟨"dev/lodestore/ConsumeQueue$Lost", "<init>", "(JJJJ)V"⟩ : MethodName) (head1 (Jvm.Cond.code (⟨"dev/lodestore/ConsumeQueue$Lost", "<init>", "(JJJJ)V"⟩ : MethodName) prog_21_method_1_code 9 none :: ws) ({ frames := 2, cells := 0, slots := 0, locals := 24 } : Room)) (fun a U => a = #[(.ref a1), (.long q2), (.long q3), (.long q4), (.long q5)] ∧ Z.Warmed39 U.vm ∧ U.heap = h0) (fun _ _ _ _ _ => True) (fun _ U o U' => ∃ v L, o = .returned v ∧ Q1 Z a1 q2 q3 q4 q5 u_from_a1 u_until_a1 u_messagesFrom_a1 u_messagesUntil_a1 h0 n0 v U'.heap L ∧ FrameEnd U o U' L ({ frames := 2, cells := 0, slots := 0, locals := 24 } : Room).cells ({ frames := 2, cells := 0, slots := 0, locals := 24 } : Room).slots) := by
  refine MetFree.of_bodySF (plainFor_of_name pn_1) hisR ?_
  intro p e s m args below meth c s₁ Bd hml0 hP hK
  obtain ⟨rfl, hZ, hh⟩ := hP
  have hx := Bd.exec
  have hby := Bd.bytes
  have hml : c.maxLocals = 9 := hml0
  have hown : s.vm.findClass "dev/lodestore/ConsumeQueue$Lost" = some m.cls := findClass_of_methodNamed Bd.named
  have hnm := (name_of_methodNamed Bd.named Bd.method).1
  have X0 : Stand p l e ({ frames := 2, cells := 0, slots := 0, locals := 24 } : Room) s m #[(.ref a1), (.long q2), (.long q3), (.long q4), (.long q5)] below meth c s₁ [] 0 0 := Stand.of_body Bd
  have e0 : s₁.heap = h0 := by rw [← hh, Bd.state]; rfl
  have N0 := Fr.nil n0
  have pre0 : ∀ t, Steps p.tables e below (s₁.setTop (mkF m 0 #[.val (.ref a1), .val (.long q2), .second, .val (.long q3), .second, .val (.long q4), .second, .val (.long q5), .second] [])) t → Steps p.tables e below (s₁.setTop (entryFrame m #[(.ref a1), (.long q2), (.long q3), (.long q4), (.long q5)] 9)) t := fun t k => castTop (ef_1 m a1 q2 q3 q4 q5) k
  obtain ⟨_, _, ⟨T6, L6, k6, n6⟩, -, X6, ⟨Lc6, hQ6, l6, y6, z6⟩, st6⟩ := X0.specialBack hx (y := (⟨"java/lang/Record", "<init>", "()V"⟩ : MethodName)) rfl hown (mvT hZ (hw _ (List.mem_of_getElem? (i := 6) rfl))) (mvT hZ (hw _ (List.mem_of_getElem? (i := 7) rfl))) (mvT hZ (hw _ (List.mem_of_getElem? (i := 10) rfl))) (by decide) (backOf (W := 0) (rm2 l Z a0 hw [] a1  h0 n0 Z0) hZ (hw _ (List.mem_of_getElem? (i := 10) rfl)) (hw _ (List.mem_of_getElem? (i := 9) rfl)) (by decide) (by decide)) (g := (mkF m 1 #[.val (.ref a1), .val (.long q2), .second, .val (.long q3), .second, .val (.long q4), .second, .val (.long q5), .second] [(.ref a1)])) rfl (by rw [hml]; rfl) (Steps.refl _) (a := a1) (argsL := []) (rest := []) (lenOf pd_1_1 rfl) rfl (by show 2 * 0 + _ ≤ _; exact Nat.le_of_eq rfl) (hb hby d1_1) (fun _ _ => ⟨rfl, e0, (by decide : 0 + 0 ≤ _), (by decide : 0 + 0 ≤ _)⟩)
  dsimp only [Pt.U, Pt.locs, Pt.cells, Pt.slots] at X6 l6 y6 z6 st6 hQ6
  subst l6 y6 z6
  obtain ⟨rfl, N6q, e6⟩ := hQ6
  have N6 := Fr.app N0 N6q
  obtain ⟨T7, h7, X7, e7, W7, st7⟩ := putF X6 hx hZ hown (host := "") (Or.inl (hw _ (List.mem_of_getElem? (i := 14) rfl))) Via.refl e6 F_from_a1 E_a1 (Or.inr ⟨(hw _ (List.mem_of_getElem? (i := 15) rfl)), rfl, hnm⟩) (hw _ (List.mem_of_getElem? (i := 1) rfl)) (ty := .long) (by decide) rfl rfl (g := (mkF m 6 #[.val (.ref a1), .val (.long q2), .second, .val (.long q3), .second, .val (.long q4), .second, .val (.long q5), .second] [(.long q2), (.ref a1)])) rfl rfl (hb hby d1_6)
  have Fw7 := F_from_a1.same W7
  have K7 : Keep h0 h7 [a1] := (Keep.refl h0 [a1]).wr W7 (Or.inl (List.mem_of_getElem? (i := 0) rfl))
  have N7 := Fr.snoc X7 N6 g_a1
  obtain ⟨T8, h8, X8, e8, W8, st8⟩ := putF X7 hx hZ hown (host := "") (Or.inl (hw _ (List.mem_of_getElem? (i := 16) rfl))) Via.refl e7 (F_until_a1.other W7 (Or.inr (slot_ne (Or.inr (hw _ (List.mem_of_getElem? (i := 17) rfl))) (Or.inr (hw _ (List.mem_of_getElem? (i := 15) rfl))) (by decide) (t := .long) (t' := .long) (by decide) (by decide)))) (E_a1.wr W7) (Or.inr ⟨(hw _ (List.mem_of_getElem? (i := 17) rfl)), rfl, hnm⟩) (hw _ (List.mem_of_getElem? (i := 1) rfl)) (ty := .long) (by decide) rfl rfl (g := (mkF m 11 #[.val (.ref a1), .val (.long q2), .second, .val (.long q3), .second, .val (.long q4), .second, .val (.long q5), .second] [(.long q3), (.ref a1)])) rfl rfl (hb hby d1_11)
  have Fw8 := (F_until_a1.other W7 (Or.inr (slot_ne (Or.inr (hw _ (List.mem_of_getElem? (i := 17) rfl))) (Or.inr (hw _ (List.mem_of_getElem? (i := 15) rfl))) (by decide) (t := .long) (t' := .long) (by decide) (by decide)))).same W8
  have K8 : Keep h0 h8 [a1] := K7.wr W8 (Or.inl (List.mem_of_getElem? (i := 0) rfl))
  have N8 := Fr.snoc X8 N7 g_a1
  obtain ⟨T9, h9, X9, e9, W9, st9⟩ := putF X8 hx hZ hown (host := "") (Or.inl (hw _ (List.mem_of_getElem? (i := 18) rfl))) Via.refl e8 ((F_messagesFrom_a1.other W7 (Or.inr (slot_ne (Or.inr (hw _ (List.mem_of_getElem? (i := 19) rfl))) (Or.inr (hw _ (List.mem_of_getElem? (i := 15) rfl))) (by decide) (t := .long) (t' := .long) (by decide) (by decide)))).other W8 (Or.inr (slot_ne (Or.inr (hw _ (List.mem_of_getElem? (i := 19) rfl))) (Or.inr (hw _ (List.mem_of_getElem? (i := 17) rfl))) (by decide) (t := .long) (t' := .long) (by decide) (by decide)))) ((E_a1.wr W7).wr W8) (Or.inr ⟨(hw _ (List.mem_of_getElem? (i := 19) rfl)), rfl, hnm⟩) (hw _ (List.mem_of_getElem? (i := 1) rfl)) (ty := .long) (by decide) rfl rfl (g := (mkF m 17 #[.val (.ref a1), .val (.long q2), .second, .val (.long q3), .second, .val (.long q4), .second, .val (.long q5), .second] [(.long q4), (.ref a1)])) rfl rfl (hb hby d1_17)
  have Fw9 := ((F_messagesFrom_a1.other W7 (Or.inr (slot_ne (Or.inr (hw _ (List.mem_of_getElem? (i := 19) rfl))) (Or.inr (hw _ (List.mem_of_getElem? (i := 15) rfl))) (by decide) (t := .long) (t' := .long) (by decide) (by decide)))).other W8 (Or.inr (slot_ne (Or.inr (hw _ (List.mem_of_getElem? (i := 19) rfl))) (Or.inr (hw _ (List.mem_of_getElem? (i := 17) rfl))) (by decide) (t := .long) (t' := .long) (by decide) (by decide)))).same W9
  have K9 : Keep h0 h9 [a1] := K8.wr W9 (Or.inl (List.mem_of_getElem? (i := 0) rfl))
  have N9 := Fr.snoc X9 N8 g_a1
  obtain ⟨T10, h10, X10, e10, W10, st10⟩ := putF X9 hx hZ hown (host := "") (Or.inl (hw _ (List.mem_of_getElem? (i := 20) rfl))) Via.refl e9 (((F_messagesUntil_a1.other W7 (Or.inr (slot_ne (Or.inr (hw _ (List.mem_of_getElem? (i := 21) rfl))) (Or.inr (hw _ (List.mem_of_getElem? (i := 15) rfl))) (by decide) (t := .long) (t' := .long) (by decide) (by decide)))).other W8 (Or.inr (slot_ne (Or.inr (hw _ (List.mem_of_getElem? (i := 21) rfl))) (Or.inr (hw _ (List.mem_of_getElem? (i := 17) rfl))) (by decide) (t := .long) (t' := .long) (by decide) (by decide)))).other W9 (Or.inr (slot_ne (Or.inr (hw _ (List.mem_of_getElem? (i := 21) rfl))) (Or.inr (hw _ (List.mem_of_getElem? (i := 19) rfl))) (by decide) (t := .long) (t' := .long) (by decide) (by decide)))) (((E_a1.wr W7).wr W8).wr W9) (Or.inr ⟨(hw _ (List.mem_of_getElem? (i := 21) rfl)), rfl, hnm⟩) (hw _ (List.mem_of_getElem? (i := 1) rfl)) (ty := .long) (by decide) rfl rfl (g := (mkF m 23 #[.val (.ref a1), .val (.long q2), .second, .val (.long q3), .second, .val (.long q4), .second, .val (.long q5), .second] [(.long q5), (.ref a1)])) rfl rfl (hb hby d1_23)
  have Fw10 := (((F_messagesUntil_a1.other W7 (Or.inr (slot_ne (Or.inr (hw _ (List.mem_of_getElem? (i := 21) rfl))) (Or.inr (hw _ (List.mem_of_getElem? (i := 15) rfl))) (by decide) (t := .long) (t' := .long) (by decide) (by decide)))).other W8 (Or.inr (slot_ne (Or.inr (hw _ (List.mem_of_getElem? (i := 21) rfl))) (Or.inr (hw _ (List.mem_of_getElem? (i := 17) rfl))) (by decide) (t := .long) (t' := .long) (by decide) (by decide)))).other W9 (Or.inr (slot_ne (Or.inr (hw _ (List.mem_of_getElem? (i := 21) rfl))) (Or.inr (hw _ (List.mem_of_getElem? (i := 19) rfl))) (by decide) (t := .long) (t' := .long) (by decide) (by decide)))).same W10
  have K10 : Keep h0 h10 [a1] := K9.wr W10 (Or.inl (List.mem_of_getElem? (i := 0) rfl))
  have N10 := Fr.snoc X10 N9 g_a1
  obtain ⟨fs, hr, hrun, hended, hW, hsame⟩ := X10.leave (v := none) (fun _ => rfl)
  refine ⟨_, _, pre0 _ ?_, hrun, hended, _, _, rfl, ?_, ⟨_, rfl⟩, hW, hsame.mono (by decide) (by decide)⟩
  · show Steps p.tables e below (s₁.setTop (mkF m 0 #[.val (.ref a1), .val (.long q2), .second, .val (.long q3), .second, .val (.long q4), .second, .val (.long q5), .second] [])) _
    refine XS.aloadN X0.here hx rfl (hb hby d1_0) rfl rfl ?_
    show Steps p.tables e below (s₁.setTop (mkF m 1 #[.val (.ref a1), .val (.long q2), .second, .val (.long q3), .second, .val (.long q4), .second, .val (.long q5), .second] [(.ref a1)])) _
    refine st6.trans ?_
    show Steps p.tables e below (T6.setTop (mkF m 4 #[.val (.ref a1), .val (.long q2), .second, .val (.long q3), .second, .val (.long q4), .second, .val (.long q5), .second] [])) _
    refine XS.aloadN X6.here hx rfl (hb hby d1_4) rfl rfl ?_
    show Steps p.tables e below (T6.setTop (mkF m 5 #[.val (.ref a1), .val (.long q2), .second, .val (.long q3), .second, .val (.long q4), .second, .val (.long q5), .second] [(.ref a1)])) _
    refine XS.lloadN X6.here hx rfl (hb hby d1_5) rfl ?_
    show Steps p.tables e below (T6.setTop (mkF m 6 #[.val (.ref a1), .val (.long q2), .second, .val (.long q3), .second, .val (.long q4), .second, .val (.long q5), .second] [(.long q2), (.ref a1)])) _
    refine st7 _ ?_
    show Steps p.tables e below (T7.setTop (mkF m 9 #[.val (.ref a1), .val (.long q2), .second, .val (.long q3), .second, .val (.long q4), .second, .val (.long q5), .second] [])) _
    refine XS.aloadN X7.here hx rfl (hb hby d1_9) rfl rfl ?_
    show Steps p.tables e below (T7.setTop (mkF m 10 #[.val (.ref a1), .val (.long q2), .second, .val (.long q3), .second, .val (.long q4), .second, .val (.long q5), .second] [(.ref a1)])) _
    refine XS.lloadN X7.here hx rfl (hb hby d1_10) rfl ?_
    show Steps p.tables e below (T7.setTop (mkF m 11 #[.val (.ref a1), .val (.long q2), .second, .val (.long q3), .second, .val (.long q4), .second, .val (.long q5), .second] [(.long q3), (.ref a1)])) _
    refine st8 _ ?_
    show Steps p.tables e below (T8.setTop (mkF m 14 #[.val (.ref a1), .val (.long q2), .second, .val (.long q3), .second, .val (.long q4), .second, .val (.long q5), .second] [])) _
    refine XS.aloadN X8.here hx rfl (hb hby d1_14) rfl rfl ?_
    show Steps p.tables e below (T8.setTop (mkF m 15 #[.val (.ref a1), .val (.long q2), .second, .val (.long q3), .second, .val (.long q4), .second, .val (.long q5), .second] [(.ref a1)])) _
    refine XS.lload X8.here hx rfl (hb hby d1_15) rfl ?_
    show Steps p.tables e below (T8.setTop (mkF m 17 #[.val (.ref a1), .val (.long q2), .second, .val (.long q3), .second, .val (.long q4), .second, .val (.long q5), .second] [(.long q4), (.ref a1)])) _
    refine st9 _ ?_
    show Steps p.tables e below (T9.setTop (mkF m 20 #[.val (.ref a1), .val (.long q2), .second, .val (.long q3), .second, .val (.long q4), .second, .val (.long q5), .second] [])) _
    refine XS.aloadN X9.here hx rfl (hb hby d1_20) rfl rfl ?_
    show Steps p.tables e below (T9.setTop (mkF m 21 #[.val (.ref a1), .val (.long q2), .second, .val (.long q3), .second, .val (.long q4), .second, .val (.long q5), .second] [(.ref a1)])) _
    refine XS.lload X9.here hx rfl (hb hby d1_21) rfl ?_
    show Steps p.tables e below (T9.setTop (mkF m 23 #[.val (.ref a1), .val (.long q2), .second, .val (.long q3), .second, .val (.long q4), .second, .val (.long q5), .second] [(.long q5), (.ref a1)])) _
    refine st10 _ ?_
    show Steps p.tables e below (T10.setTop (mkF m 26 #[.val (.ref a1), .val (.long q2), .second, .val (.long q3), .second, .val (.long q4), .second, .val (.long q5), .second] [])) _
    exact X10.returnOut hx Bd.returns (hb hby d1_26) hr
  · show Q1 Z a1 q2 q3 q4 q5 u_from_a1 u_until_a1 u_messagesFrom_a1 u_messagesUntil_a1 h0 n0 _ T10.heap _
    rw [e10]
    exact ⟨rfl, N10, Nat.le_trans Z0 K10.1, ((((E_a1.wr W7).wr W8).wr W9).wr W10), (((Fw7.other W8 (Or.inr (slot_ne (Or.inr (hw _ (List.mem_of_getElem? (i := 15) rfl))) (Or.inr (hw _ (List.mem_of_getElem? (i := 17) rfl))) (by decide) (t := .long) (t' := .long) (by decide) (by decide)))).other W9 (Or.inr (slot_ne (Or.inr (hw _ (List.mem_of_getElem? (i := 15) rfl))) (Or.inr (hw _ (List.mem_of_getElem? (i := 19) rfl))) (by decide) (t := .long) (t' := .long) (by decide) (by decide)))).other W10 (Or.inr (slot_ne (Or.inr (hw _ (List.mem_of_getElem? (i := 15) rfl))) (Or.inr (hw _ (List.mem_of_getElem? (i := 21) rfl))) (by decide) (t := .long) (t' := .long) (by decide) (by decide)))), ((Fw8.other W9 (Or.inr (slot_ne (Or.inr (hw _ (List.mem_of_getElem? (i := 17) rfl))) (Or.inr (hw _ (List.mem_of_getElem? (i := 19) rfl))) (by decide) (t := .long) (t' := .long) (by decide) (by decide)))).other W10 (Or.inr (slot_ne (Or.inr (hw _ (List.mem_of_getElem? (i := 17) rfl))) (Or.inr (hw _ (List.mem_of_getElem? (i := 21) rfl))) (by decide) (t := .long) (t' := .long) (by decide) (by decide)))), (Fw9.other W10 (Or.inr (slot_ne (Or.inr (hw _ (List.mem_of_getElem? (i := 19) rfl))) (Or.inr (hw _ (List.mem_of_getElem? (i := 21) rfl))) (by decide) (t := .long) (t' := .long) (by decide) (by decide)))), Fw10⟩

theorem pd1 : parseMethodDescriptor "(JJJJ)V" = some ⟨[.long, .long, .long, .long], none⟩ := by decide +kernel
theorem d4_0 : decode prog_21_method_2_code 0 = .ok (.lload_n 1, 1) := by decide +kernel
theorem d4_1 : decode prog_21_method_2_code 1 = .ok (.aload_n 0, 1) := by decide +kernel
theorem d4_2 : decode prog_21_method_2_code 2 = .ok (.getfield 7, 3) := by decide +kernel
theorem d4_5 : decode prog_21_method_2_code 5 = .ok (.lcmp, 1) := by decide +kernel
theorem d4_6 : decode prog_21_method_2_code 6 = .ok (.ifCond .lt 34, 3) := by decide +kernel
theorem d4_9 : decode prog_21_method_2_code 9 = .ok (.lload_n 1, 1) := by decide +kernel
theorem d4_10 : decode prog_21_method_2_code 10 = .ok (.aload_n 0, 1) := by decide +kernel
theorem d4_11 : decode prog_21_method_2_code 11 = .ok (.getfield 13, 3) := by decide +kernel
theorem d4_14 : decode prog_21_method_2_code 14 = .ok (.lcmp, 1) := by decide +kernel
theorem d4_15 : decode prog_21_method_2_code 15 = .ok (.ifCond .ge 25, 3) := by decide +kernel
theorem d4_18 : decode prog_21_method_2_code 18 = .ok (.lload_n 3, 1) := by decide +kernel
theorem d4_19 : decode prog_21_method_2_code 19 = .ok (.aload_n 0, 1) := by decide +kernel
theorem d4_20 : decode prog_21_method_2_code 20 = .ok (.getfield 16, 3) := by decide +kernel
theorem d4_23 : decode prog_21_method_2_code 23 = .ok (.lcmp, 1) := by decide +kernel
theorem d4_24 : decode prog_21_method_2_code 24 = .ok (.ifCond .lt 16, 3) := by decide +kernel
theorem d4_27 : decode prog_21_method_2_code 27 = .ok (.lload_n 3, 1) := by decide +kernel
theorem d4_28 : decode prog_21_method_2_code 28 = .ok (.aload_n 0, 1) := by decide +kernel
theorem d4_29 : decode prog_21_method_2_code 29 = .ok (.getfield 19, 3) := by decide +kernel
theorem d4_32 : decode prog_21_method_2_code 32 = .ok (.lcmp, 1) := by decide +kernel
theorem d4_33 : decode prog_21_method_2_code 33 = .ok (.ifCond .ge 7, 3) := by decide +kernel
theorem d4_36 : decode prog_21_method_2_code 36 = .ok (.iconst 1, 1) := by decide +kernel
theorem d4_37 : decode prog_21_method_2_code 37 = .ok (.goto 4, 3) := by decide +kernel
theorem d4_40 : decode prog_21_method_2_code 40 = .ok (.iconst 0, 1) := by decide +kernel
theorem d4_41 : decode prog_21_method_2_code 41 = .ok (.ireturn, 1) := by decide +kernel
theorem pn4 : plainName "dev/lodestore/ConsumeQueue$Lost" = true := by first | (simp [plainName, overriddenIn]; done) | decide +kernel
theorem pd4 : parseMethodDescriptor "(JJ)Z" = some ⟨[.long, .long], some .boolean⟩ := by decide +kernel
theorem ef4 (m : MethodId) (a0' : Addr) (q1 : Int64) (q2 : Int64) : entryFrame m #[(.ref a0'), (.long q1), (.long q2)] 5 = mkF m 0 #[.val (.ref a0'), .val (.long q1), .second, .val (.long q2), .second] [] := by first | (simp [entryFrame, mkF, argsToLocals, Value.category]; done) | rfl
def f4_40  : Int32 :=
  (0 : Int32)
set_option maxRecDepth 65536 in
set_option maxHeartbeats 4000000 in
theorem b4_40 {p : Program} {l : Launch} {e : Env} {s : State} {m : MethodId} {args : Array Value} {below : List Frame} {meth : Method} {c : Code} {T0 : State} {locs : List Loc} {Z : State} {a0 : Array Value} {h0 : Heap} {n0 : Nat} (o0 : Addr) (j1 : Int64) (j3 : Int64) {r : Int32} (X0 : Stand p l e ({ frames := 0, cells := 0, slots := 0, locals := 0 } : Room) s m args below meth c T0 locs 0 0) (hx : p.tables.exec = Jvm.exec) (hZ : Z.Warmed39 s.vm) (hw : ∀ d ∈ tables_1, d.before a0 Z = true) (hby : c.code = prog_21_method_2_code) (hml : c.maxLocals = 5) (hown : s.vm.findClass "dev/lodestore/ConsumeQueue$Lost" = some m.cls) (hret : meth.sig.returnType = some .boolean) (hlk : meth.locks = false) (e0 : T0.heap = h0) (N0 : Fr n0 locs) (hr : r = f4_40 ) :
    own_Ends p e below s 0 0 (own_P (.int r) h0 n0) T0 (mkF m 40 #[.val (.ref o0), .val (.long j1), .second, .val (.long j3), .second] []) := by
  unfold f4_40 at hr
  refine own_step (T' := T0) (f' := (mkF m 41 #[.val (.ref o0), .val (.long j1), .second, .val (.long j3), .second] [(.int (0 : Int32))])) (fun t kt => ?_) ?_
  · show Steps p.tables e below (T0.setTop (mkF m 40 #[.val (.ref o0), .val (.long j1), .second, .val (.long j3), .second] [])) _
    refine XS.iconst X0.here hx rfl (hb hby d4_40) ?_
    exact kt
  exact own_retZ X0 hx hret (by simp) hlk (hb hby d4_41) (Nat.le_refl _) (Nat.le_refl _) ⟨congrArg (fun z => some (Value.int z)) hr.symm, N0, e0⟩
def f4_0 (q1 : Int64) (q2 : Int64) (w_from : Int64) (w_until : Int64) (w_messagesFrom : Int64) (w_messagesUntil : Int64) : Int32 :=
  if q1 < w_from then (f4_40 ) else (if q1 < w_until then (if q2 < w_messagesFrom then (f4_40 ) else (if q2 < w_messagesUntil then ((1 : Int32)) else (f4_40 ))) else (f4_40 ))
set_option maxRecDepth 65536 in
set_option maxHeartbeats 4000000 in
theorem b4_0 {p : Program} {l : Launch} {e : Env} {s : State} {m : MethodId} {args : Array Value} {below : List Frame} {meth : Method} {c : Code} {T0 : State} {locs : List Loc} {Z : State} {a0 : Array Value} {h0 : Heap} {n0 : Nat} (a0' : Addr) (q1 : Int64) (q2 : Int64) (w_from : Int64) (w_until : Int64) (w_messagesFrom : Int64) (w_messagesUntil : Int64) {r : Int32} (X0 : Stand p l e ({ frames := 0, cells := 0, slots := 0, locals := 0 } : Room) s m args below meth c T0 locs 0 0) (hx : p.tables.exec = Jvm.exec) (hZ : Z.Warmed39 s.vm) (hw : ∀ d ∈ tables_1, d.before a0 Z = true) (hby : c.code = prog_21_method_2_code) (hml : c.maxLocals = 5) (hown : s.vm.findClass "dev/lodestore/ConsumeQueue$Lost" = some m.cls) (hret : meth.sig.returnType = some .boolean) (hlk : meth.locks = false) (e0 : T0.heap = h0) (N0 : Fr n0 locs) (F_w_from : Fld Z h0 a0' "dev/lodestore/ConsumeQueue$Lost" "from" "J" (.long w_from)) (F_w_until : Fld Z h0 a0' "dev/lodestore/ConsumeQueue$Lost" "until" "J" (.long w_until)) (F_w_messagesFrom : Fld Z h0 a0' "dev/lodestore/ConsumeQueue$Lost" "messagesFrom" "J" (.long w_messagesFrom)) (F_w_messagesUntil : Fld Z h0 a0' "dev/lodestore/ConsumeQueue$Lost" "messagesUntil" "J" (.long w_messagesUntil)) (hr : r = f4_0 q1 q2 w_from w_until w_messagesFrom w_messagesUntil) :
    own_Ends p e below s 0 0 (own_P (.int r) h0 n0) T0 (mkF m 0 #[.val (.ref a0'), .val (.long q1), .second, .val (.long q2), .second] []) := by
  unfold f4_0 at hr
  refine own_step (T' := T0) (f' := (mkF m 2 #[.val (.ref a0'), .val (.long q1), .second, .val (.long q2), .second] [(.ref a0'), (.long q1)])) (fun t kt => ?_) ?_
  · show Steps p.tables e below (T0.setTop (mkF m 0 #[.val (.ref a0'), .val (.long q1), .second, .val (.long q2), .second] [])) _
    refine XS.lloadN X0.here hx rfl (hb hby d4_0) rfl ?_
    show Steps p.tables e below (T0.setTop (mkF m 1 #[.val (.ref a0'), .val (.long q1), .second, .val (.long q2), .second] [(.long q1)])) _
    refine XS.aloadN X0.here hx rfl (hb hby d4_1) rfl rfl ?_
    exact kt
  obtain ⟨T1, X1, e1, st1⟩ := getF X0 hx hZ hown (host := "") (Or.inl (hw _ (List.mem_of_getElem? (i := 14) rfl))) Via.refl e0 F_w_from (g := (mkF m 2 #[.val (.ref a0'), .val (.long q1), .second, .val (.long q2), .second] [(.ref a0'), (.long q1)])) rfl rfl (hb hby d4_2)
  refine own_step (T' := T1) (f' := (mkF m 5 #[.val (.ref a0'), .val (.long q1), .second, .val (.long q2), .second] [(.long w_from), (.long q1)])) st1 ?_
  refine own_step (T' := T1) (f' := (mkF m 6 #[.val (.ref a0'), .val (.long q1), .second, .val (.long q2), .second] [(.int (lcmpW q1 w_from))])) (fun t kt => ?_) ?_
  · show Steps p.tables e below (T1.setTop (mkF m 5 #[.val (.ref a0'), .val (.long q1), .second, .val (.long q2), .second] [(.long w_from), (.long q1)])) _
    refine XS.lcmp X1.here hx rfl (hb hby d4_5) rfl ?_
    exact kt
  by_cases hc6_2 : q1 < w_from
  · rw [if_pos hc6_2] at hr
    refine own_step (T' := T1) (f' := (mkF m 40 #[.val (.ref a0'), .val (.long q1), .second, .val (.long q2), .second] [])) (fun t kt => ?_) ?_
    · show Steps p.tables e below (T1.setTop (mkF m 6 #[.val (.ref a0'), .val (.long q1), .second, .val (.long q2), .second] [(.int (lcmpW q1 w_from))])) _
      refine XS.ifYes X1.here hx rfl (pc0 := 6) (pc' := 40) rfl (hb hby d4_6) rfl ((if0 _ _).trans (tlt ((lw_lt _ _).mpr hc6_2)).1) (by decide) (by decide) kt
    exact b4_40 a0' q1 q2 X1 hx hZ hw hby hml hown hret hlk e1 N0 hr
  · rw [if_neg hc6_2] at hr
    refine own_step (T' := T1) (f' := (mkF m 9 #[.val (.ref a0'), .val (.long q1), .second, .val (.long q2), .second] [])) (fun t kt => ?_) ?_
    · show Steps p.tables e below (T1.setTop (mkF m 6 #[.val (.ref a0'), .val (.long q1), .second, .val (.long q2), .second] [(.int (lcmpW q1 w_from))])) _
      refine XS.ifNo X1.here hx rfl (hb hby d4_6) rfl ((if0 _ _).trans (flt (mt (lw_lt _ _).mp hc6_2)).1) kt
    refine own_step (T' := T1) (f' := (mkF m 11 #[.val (.ref a0'), .val (.long q1), .second, .val (.long q2), .second] [(.ref a0'), (.long q1)])) (fun t kt => ?_) ?_
    · show Steps p.tables e below (T1.setTop (mkF m 9 #[.val (.ref a0'), .val (.long q1), .second, .val (.long q2), .second] [])) _
      refine XS.lloadN X1.here hx rfl (hb hby d4_9) rfl ?_
      show Steps p.tables e below (T1.setTop (mkF m 10 #[.val (.ref a0'), .val (.long q1), .second, .val (.long q2), .second] [(.long q1)])) _
      refine XS.aloadN X1.here hx rfl (hb hby d4_10) rfl rfl ?_
      exact kt
    obtain ⟨T3, X3, e3, st3⟩ := getF X1 hx hZ hown (host := "") (Or.inl (hw _ (List.mem_of_getElem? (i := 16) rfl))) Via.refl e1 F_w_until (g := (mkF m 11 #[.val (.ref a0'), .val (.long q1), .second, .val (.long q2), .second] [(.ref a0'), (.long q1)])) rfl rfl (hb hby d4_11)
    refine own_step (T' := T3) (f' := (mkF m 14 #[.val (.ref a0'), .val (.long q1), .second, .val (.long q2), .second] [(.long w_until), (.long q1)])) st3 ?_
    refine own_step (T' := T3) (f' := (mkF m 15 #[.val (.ref a0'), .val (.long q1), .second, .val (.long q2), .second] [(.int (lcmpW q1 w_until))])) (fun t kt => ?_) ?_
    · show Steps p.tables e below (T3.setTop (mkF m 14 #[.val (.ref a0'), .val (.long q1), .second, .val (.long q2), .second] [(.long w_until), (.long q1)])) _
      refine XS.lcmp X3.here hx rfl (hb hby d4_14) rfl ?_
      exact kt
    by_cases hc15_4 : q1 < w_until
    · rw [if_pos hc15_4] at hr
      refine own_step (T' := T3) (f' := (mkF m 18 #[.val (.ref a0'), .val (.long q1), .second, .val (.long q2), .second] [])) (fun t kt => ?_) ?_
      · show Steps p.tables e below (T3.setTop (mkF m 15 #[.val (.ref a0'), .val (.long q1), .second, .val (.long q2), .second] [(.int (lcmpW q1 w_until))])) _
        refine XS.ifNo X3.here hx rfl (hb hby d4_15) rfl ((if0 _ _).trans (tlt ((lw_lt _ _).mpr hc15_4)).2.1) kt
      refine own_step (T' := T3) (f' := (mkF m 20 #[.val (.ref a0'), .val (.long q1), .second, .val (.long q2), .second] [(.ref a0'), (.long q2)])) (fun t kt => ?_) ?_
      · show Steps p.tables e below (T3.setTop (mkF m 18 #[.val (.ref a0'), .val (.long q1), .second, .val (.long q2), .second] [])) _
        refine XS.lloadN X3.here hx rfl (hb hby d4_18) rfl ?_
        show Steps p.tables e below (T3.setTop (mkF m 19 #[.val (.ref a0'), .val (.long q1), .second, .val (.long q2), .second] [(.long q2)])) _
        refine XS.aloadN X3.here hx rfl (hb hby d4_19) rfl rfl ?_
        exact kt
      obtain ⟨T5, X5, e5, st5⟩ := getF X3 hx hZ hown (host := "") (Or.inl (hw _ (List.mem_of_getElem? (i := 18) rfl))) Via.refl e3 F_w_messagesFrom (g := (mkF m 20 #[.val (.ref a0'), .val (.long q1), .second, .val (.long q2), .second] [(.ref a0'), (.long q2)])) rfl rfl (hb hby d4_20)
      refine own_step (T' := T5) (f' := (mkF m 23 #[.val (.ref a0'), .val (.long q1), .second, .val (.long q2), .second] [(.long w_messagesFrom), (.long q2)])) st5 ?_
      refine own_step (T' := T5) (f' := (mkF m 24 #[.val (.ref a0'), .val (.long q1), .second, .val (.long q2), .second] [(.int (lcmpW q2 w_messagesFrom))])) (fun t kt => ?_) ?_
      · show Steps p.tables e below (T5.setTop (mkF m 23 #[.val (.ref a0'), .val (.long q1), .second, .val (.long q2), .second] [(.long w_messagesFrom), (.long q2)])) _
        refine XS.lcmp X5.here hx rfl (hb hby d4_23) rfl ?_
        exact kt
      by_cases hc24_6 : q2 < w_messagesFrom
      · rw [if_pos hc24_6] at hr
        refine own_step (T' := T5) (f' := (mkF m 40 #[.val (.ref a0'), .val (.long q1), .second, .val (.long q2), .second] [])) (fun t kt => ?_) ?_
        · show Steps p.tables e below (T5.setTop (mkF m 24 #[.val (.ref a0'), .val (.long q1), .second, .val (.long q2), .second] [(.int (lcmpW q2 w_messagesFrom))])) _
          refine XS.ifYes X5.here hx rfl (pc0 := 24) (pc' := 40) rfl (hb hby d4_24) rfl ((if0 _ _).trans (tlt ((lw_lt _ _).mpr hc24_6)).1) (by decide) (by decide) kt
        exact b4_40 a0' q1 q2 X5 hx hZ hw hby hml hown hret hlk e5 N0 hr
      · rw [if_neg hc24_6] at hr
        refine own_step (T' := T5) (f' := (mkF m 27 #[.val (.ref a0'), .val (.long q1), .second, .val (.long q2), .second] [])) (fun t kt => ?_) ?_
        · show Steps p.tables e below (T5.setTop (mkF m 24 #[.val (.ref a0'), .val (.long q1), .second, .val (.long q2), .second] [(.int (lcmpW q2 w_messagesFrom))])) _
          refine XS.ifNo X5.here hx rfl (hb hby d4_24) rfl ((if0 _ _).trans (flt (mt (lw_lt _ _).mp hc24_6)).1) kt
        refine own_step (T' := T5) (f' := (mkF m 29 #[.val (.ref a0'), .val (.long q1), .second, .val (.long q2), .second] [(.ref a0'), (.long q2)])) (fun t kt => ?_) ?_
        · show Steps p.tables e below (T5.setTop (mkF m 27 #[.val (.ref a0'), .val (.long q1), .second, .val (.long q2), .second] [])) _
          refine XS.lloadN X5.here hx rfl (hb hby d4_27) rfl ?_
          show Steps p.tables e below (T5.setTop (mkF m 28 #[.val (.ref a0'), .val (.long q1), .second, .val (.long q2), .second] [(.long q2)])) _
          refine XS.aloadN X5.here hx rfl (hb hby d4_28) rfl rfl ?_
          exact kt
        obtain ⟨T7, X7, e7, st7⟩ := getF X5 hx hZ hown (host := "") (Or.inl (hw _ (List.mem_of_getElem? (i := 20) rfl))) Via.refl e5 F_w_messagesUntil (g := (mkF m 29 #[.val (.ref a0'), .val (.long q1), .second, .val (.long q2), .second] [(.ref a0'), (.long q2)])) rfl rfl (hb hby d4_29)
        refine own_step (T' := T7) (f' := (mkF m 32 #[.val (.ref a0'), .val (.long q1), .second, .val (.long q2), .second] [(.long w_messagesUntil), (.long q2)])) st7 ?_
        refine own_step (T' := T7) (f' := (mkF m 33 #[.val (.ref a0'), .val (.long q1), .second, .val (.long q2), .second] [(.int (lcmpW q2 w_messagesUntil))])) (fun t kt => ?_) ?_
        · show Steps p.tables e below (T7.setTop (mkF m 32 #[.val (.ref a0'), .val (.long q1), .second, .val (.long q2), .second] [(.long w_messagesUntil), (.long q2)])) _
          refine XS.lcmp X7.here hx rfl (hb hby d4_32) rfl ?_
          exact kt
        by_cases hc33_8 : q2 < w_messagesUntil
        · rw [if_pos hc33_8] at hr
          refine own_step (T' := T7) (f' := (mkF m 36 #[.val (.ref a0'), .val (.long q1), .second, .val (.long q2), .second] [])) (fun t kt => ?_) ?_
          · show Steps p.tables e below (T7.setTop (mkF m 33 #[.val (.ref a0'), .val (.long q1), .second, .val (.long q2), .second] [(.int (lcmpW q2 w_messagesUntil))])) _
            refine XS.ifNo X7.here hx rfl (hb hby d4_33) rfl ((if0 _ _).trans (tlt ((lw_lt _ _).mpr hc33_8)).2.1) kt
          refine own_step (T' := T7) (f' := (mkF m 41 #[.val (.ref a0'), .val (.long q1), .second, .val (.long q2), .second] [(.int (1 : Int32))])) (fun t kt => ?_) ?_
          · show Steps p.tables e below (T7.setTop (mkF m 36 #[.val (.ref a0'), .val (.long q1), .second, .val (.long q2), .second] [])) _
            refine XS.iconst X7.here hx rfl (hb hby d4_36) ?_
            show Steps p.tables e below (T7.setTop (mkF m 37 #[.val (.ref a0'), .val (.long q1), .second, .val (.long q2), .second] [(.int (1 : Int32))])) _
            refine XS.goto X7.here hx rfl (pc0 := 37) (pc' := 41) rfl (hb hby d4_37) (by decide) (by decide) ?_
            exact kt
          exact own_retZ X7 hx hret (by simp) hlk (hb hby d4_41) (Nat.le_refl _) (Nat.le_refl _) ⟨congrArg (fun z => some (Value.int z)) hr.symm, N0, e7⟩
        · rw [if_neg hc33_8] at hr
          refine own_step (T' := T7) (f' := (mkF m 40 #[.val (.ref a0'), .val (.long q1), .second, .val (.long q2), .second] [])) (fun t kt => ?_) ?_
          · show Steps p.tables e below (T7.setTop (mkF m 33 #[.val (.ref a0'), .val (.long q1), .second, .val (.long q2), .second] [(.int (lcmpW q2 w_messagesUntil))])) _
            refine XS.ifYes X7.here hx rfl (pc0 := 33) (pc' := 40) rfl (hb hby d4_33) rfl ((if0 _ _).trans (flt (mt (lw_lt _ _).mp hc33_8)).2.1) (by decide) (by decide) kt
          exact b4_40 a0' q1 q2 X7 hx hZ hw hby hml hown hret hlk e7 N0 hr
    · rw [if_neg hc15_4] at hr
      refine own_step (T' := T3) (f' := (mkF m 40 #[.val (.ref a0'), .val (.long q1), .second, .val (.long q2), .second] [])) (fun t kt => ?_) ?_
      · show Steps p.tables e below (T3.setTop (mkF m 15 #[.val (.ref a0'), .val (.long q1), .second, .val (.long q2), .second] [(.int (lcmpW q1 w_until))])) _
        refine XS.ifYes X3.here hx rfl (pc0 := 15) (pc' := 40) rfl (hb hby d4_15) rfl ((if0 _ _).trans (flt (mt (lw_lt _ _).mp hc15_4)).2.1) (by decide) (by decide) kt
      exact b4_40 a0' q1 q2 X3 hx hZ hw hby hml hown hret hlk e3 N0 hr
set_option maxRecDepth 65536 in
set_option maxHeartbeats 4000000 in
theorem rm4 (l : Launch) (Z : State) (a0 : Array Value) (hw : ∀ d ∈ tables_1, d.before a0 Z = true) (ws : List Jvm.Cond) (a0' : Addr) (q1 : Int64) (q2 : Int64) (w_from : Int64) (w_until : Int64) (w_messagesFrom : Int64) (w_messagesUntil : Int64) (h0 : Heap) (n0 : Nat) (F_w_from : Fld Z h0 a0' "dev/lodestore/ConsumeQueue$Lost" "from" "J" (.long w_from)) (F_w_until : Fld Z h0 a0' "dev/lodestore/ConsumeQueue$Lost" "until" "J" (.long w_until)) (F_w_messagesFrom : Fld Z h0 a0' "dev/lodestore/ConsumeQueue$Lost" "messagesFrom" "J" (.long w_messagesFrom)) (F_w_messagesUntil : Fld Z h0 a0' "dev/lodestore/ConsumeQueue$Lost" "messagesUntil" "J" (.long w_messagesUntil)) :
    MetFree l (⟨"dev/lodestore/ConsumeQueue$Lost", "holds", "(JJ)Z"⟩ : MethodName) (head1 (Jvm.Cond.code (⟨"dev/lodestore/ConsumeQueue$Lost", "holds", "(JJ)Z"⟩ : MethodName) prog_21_method_2_code 5 (some .boolean) :: ws) ({ frames := 0, cells := 0, slots := 0, locals := 0 } : Room)) (fun a U => a = #[(.ref a0'), (.long q1), (.long q2)] ∧ Z.Warmed39 U.vm ∧ U.heap = h0) (fun _ _ _ _ _ => True) (fun _ U o U' => ∃ v L, o = .returned v ∧ (own_P (.int (f4_0 q1 q2 w_from w_until w_messagesFrom w_messagesUntil)) h0 n0) v U'.heap L ∧ FrameEnd U o U' L ({ frames := 0, cells := 0, slots := 0, locals := 0 } : Room).cells ({ frames := 0, cells := 0, slots := 0, locals := 0 } : Room).slots) := by
  refine MetFree.of_bodySF (plainFor_of_name pn4) hisR ?_
  intro p e s m args below meth c s₁ Bd hml0 hP hK
  obtain ⟨rfl, hZ, hh⟩ := hP
  have hown : s.vm.findClass "dev/lodestore/ConsumeQueue$Lost" = some m.cls := findClass_of_methodNamed Bd.named
  have X0 : Stand p l e ({ frames := 0, cells := 0, slots := 0, locals := 0 } : Room) s m #[(.ref a0'), (.long q1), (.long q2)] below meth c s₁ [] 0 0 := Stand.of_body Bd
  have e0 : s₁.heap = h0 := by rw [← hh, Bd.state]; rfl
  show own_Ends p e below s 0 0 (own_P (.int (f4_0 q1 q2 w_from w_until w_messagesFrom w_messagesUntil)) h0 n0) s₁ (entryFrame m #[(.ref a0'), (.long q1), (.long q2)] 5)
  refine own_step (fun t k => castTop (ef4 m a0' q1 q2) k) ?_
  exact b4_0 a0' q1 q2 w_from w_until w_messagesFrom w_messagesUntil X0 Bd.exec hZ hw Bd.bytes hml0 hown Bd.returns (BodyLoose.notSynchronized Bd) e0 (Fr.nil n0) F_w_from F_w_until F_w_messagesFrom F_w_messagesUntil rfl
theorem d6_0 : decode jdk_29_method_66_code 0 = .ok (.lload_n 0, 1) := by decide +kernel
theorem d6_1 : decode jdk_29_method_66_code 1 = .ok (.lload_n 2, 1) := by decide +kernel
theorem d6_2 : decode jdk_29_method_66_code 2 = .ok (.lcmp, 1) := by decide +kernel
theorem d6_3 : decode jdk_29_method_66_code 3 = .ok (.ifCond .lt 7, 3) := by decide +kernel
theorem d6_6 : decode jdk_29_method_66_code 6 = .ok (.lload_n 0, 1) := by decide +kernel
theorem d6_7 : decode jdk_29_method_66_code 7 = .ok (.goto 4, 3) := by decide +kernel
theorem d6_10 : decode jdk_29_method_66_code 10 = .ok (.lload_n 2, 1) := by decide +kernel
theorem d6_11 : decode jdk_29_method_66_code 11 = .ok (.lreturn, 1) := by decide +kernel
theorem pd6 : parseMethodDescriptor "(JJ)J" = some ⟨[.long, .long], some .long⟩ := by decide +kernel
theorem ef6 (m : MethodId) (q0 : Int64) (q1 : Int64) : entryFrame m #[(.long q0), (.long q1)] 4 = mkF m 0 #[.val (.long q0), .second, .val (.long q1), .second] [] := by first | (simp [entryFrame, mkF, argsToLocals, Value.category]; done) | rfl
def f6_0 (q0 : Int64) (q1 : Int64) : Int64 :=
  if q0 < q1 then (q1) else (q0)
set_option maxRecDepth 65536 in
set_option maxHeartbeats 4000000 in
theorem b6_0 {p : Program} {l : Launch} {e : Env} {s : State} {m : MethodId} {args : Array Value} {below : List Frame} {meth : Method} {c : Code} {T0 : State} {locs : List Loc} {Z : State} {a0 : Array Value} {h0 : Heap} {n0 : Nat} (q0 : Int64) (q1 : Int64) {r : Int64} (X0 : Stand p l e ({ frames := 0, cells := 0, slots := 0, locals := 0 } : Room) s m args below meth c T0 locs 0 0) (hx : p.tables.exec = Jvm.exec) (hZ : Z.Warmed39 s.vm) (hw : ∀ d ∈ tables_1, d.before a0 Z = true) (hby : c.code = jdk_29_method_66_code) (hml : c.maxLocals = 4) (hown : s.vm.findClass "java/lang/Math" = some m.cls) (hret : meth.sig.returnType = some .long) (hlk : meth.locks = false) (e0 : T0.heap = h0) (N0 : Fr n0 locs) (hr : r = f6_0 q0 q1) :
    own_Ends p e below s 0 0 (own_P (.long r) h0 n0) T0 (mkF m 0 #[.val (.long q0), .second, .val (.long q1), .second] []) := by
  unfold f6_0 at hr
  refine own_step (T' := T0) (f' := (mkF m 3 #[.val (.long q0), .second, .val (.long q1), .second] [(.int (lcmpW q0 q1))])) (fun t kt => ?_) ?_
  · show Steps p.tables e below (T0.setTop (mkF m 0 #[.val (.long q0), .second, .val (.long q1), .second] [])) _
    refine XS.lloadN X0.here hx rfl (hb hby d6_0) rfl ?_
    show Steps p.tables e below (T0.setTop (mkF m 1 #[.val (.long q0), .second, .val (.long q1), .second] [(.long q0)])) _
    refine XS.lloadN X0.here hx rfl (hb hby d6_1) rfl ?_
    show Steps p.tables e below (T0.setTop (mkF m 2 #[.val (.long q0), .second, .val (.long q1), .second] [(.long q1), (.long q0)])) _
    refine XS.lcmp X0.here hx rfl (hb hby d6_2) rfl ?_
    exact kt
  by_cases hc3_1 : q0 < q1
  · rw [if_pos hc3_1] at hr
    refine own_step (T' := T0) (f' := (mkF m 10 #[.val (.long q0), .second, .val (.long q1), .second] [])) (fun t kt => ?_) ?_
    · show Steps p.tables e below (T0.setTop (mkF m 3 #[.val (.long q0), .second, .val (.long q1), .second] [(.int (lcmpW q0 q1))])) _
      refine XS.ifYes X0.here hx rfl (pc0 := 3) (pc' := 10) rfl (hb hby d6_3) rfl ((if0 _ _).trans (tlt ((lw_lt _ _).mpr hc3_1)).1) (by decide) (by decide) kt
    refine own_step (T' := T0) (f' := (mkF m 11 #[.val (.long q0), .second, .val (.long q1), .second] [(.long q1)])) (fun t kt => ?_) ?_
    · show Steps p.tables e below (T0.setTop (mkF m 10 #[.val (.long q0), .second, .val (.long q1), .second] [])) _
      refine XS.lloadN X0.here hx rfl (hb hby d6_10) rfl ?_
      exact kt
    exact own_retJ X0 hx hret hlk (hb hby d6_11) (Nat.le_refl _) (Nat.le_refl _) ⟨congrArg (fun z => some (Value.long z)) hr.symm, N0, e0⟩
  · rw [if_neg hc3_1] at hr
    refine own_step (T' := T0) (f' := (mkF m 6 #[.val (.long q0), .second, .val (.long q1), .second] [])) (fun t kt => ?_) ?_
    · show Steps p.tables e below (T0.setTop (mkF m 3 #[.val (.long q0), .second, .val (.long q1), .second] [(.int (lcmpW q0 q1))])) _
      refine XS.ifNo X0.here hx rfl (hb hby d6_3) rfl ((if0 _ _).trans (flt (mt (lw_lt _ _).mp hc3_1)).1) kt
    refine own_step (T' := T0) (f' := (mkF m 11 #[.val (.long q0), .second, .val (.long q1), .second] [(.long q0)])) (fun t kt => ?_) ?_
    · show Steps p.tables e below (T0.setTop (mkF m 6 #[.val (.long q0), .second, .val (.long q1), .second] [])) _
      refine XS.lloadN X0.here hx rfl (hb hby d6_6) rfl ?_
      show Steps p.tables e below (T0.setTop (mkF m 7 #[.val (.long q0), .second, .val (.long q1), .second] [(.long q0)])) _
      refine XS.goto X0.here hx rfl (pc0 := 7) (pc' := 11) rfl (hb hby d6_7) (by decide) (by decide) ?_
      exact kt
    exact own_retJ X0 hx hret hlk (hb hby d6_11) (Nat.le_refl _) (Nat.le_refl _) ⟨congrArg (fun z => some (Value.long z)) hr.symm, N0, e0⟩
set_option maxRecDepth 65536 in
set_option maxHeartbeats 4000000 in
theorem rm6 (l : Launch) (Z : State) (a0 : Array Value) (hw : ∀ d ∈ tables_1, d.before a0 Z = true) (ws : List Jvm.Cond) (q0 : Int64) (q1 : Int64) (h0 : Heap) (n0 : Nat) :
    MetFree l (⟨"java/lang/Math", "max", "(JJ)J"⟩ : MethodName) (head1 (Jvm.Cond.code (⟨"java/lang/Math", "max", "(JJ)J"⟩ : MethodName) jdk_29_method_66_code 4 (some .long) :: ws) ({ frames := 0, cells := 0, slots := 0, locals := 0 } : Room)) (fun a U => a = #[(.long q0), (.long q1)] ∧ Z.Warmed39 U.vm ∧ U.heap = h0) (fun _ _ _ _ _ => True) (fun _ U o U' => ∃ v L, o = .returned v ∧ (own_P (.long (f6_0 q0 q1)) h0 n0) v U'.heap L ∧ FrameEnd U o U' L ({ frames := 0, cells := 0, slots := 0, locals := 0 } : Room).cells ({ frames := 0, cells := 0, slots := 0, locals := 0 } : Room).slots) := by
  refine MetFree.of_bodySF (Jvm.Free.JP.mathPlain rfl (by decide +kernel)) hisR ?_
  intro p e s m args below meth c s₁ Bd hml0 hP hK
  obtain ⟨rfl, hZ, hh⟩ := hP
  have hown : s.vm.findClass "java/lang/Math" = some m.cls := findClass_of_methodNamed Bd.named
  have X0 : Stand p l e ({ frames := 0, cells := 0, slots := 0, locals := 0 } : Room) s m #[(.long q0), (.long q1)] below meth c s₁ [] 0 0 := Stand.of_body Bd
  have e0 : s₁.heap = h0 := by rw [← hh, Bd.state]; rfl
  show own_Ends p e below s 0 0 (own_P (.long (f6_0 q0 q1)) h0 n0) s₁ (entryFrame m #[(.long q0), (.long q1)] 4)
  refine own_step (fun t k => castTop (ef6 m q0 q1) k) ?_
  exact b6_0 q0 q1 X0 Bd.exec hZ hw Bd.bytes hml0 hown Bd.returns (BodyLoose.notSynchronized Bd) e0 (Fr.nil n0) rfl
theorem d7_0 : decode jdk_29_method_70_code 0 = .ok (.lload_n 0, 1) := by decide +kernel
theorem d7_1 : decode jdk_29_method_70_code 1 = .ok (.lload_n 2, 1) := by decide +kernel
theorem d7_2 : decode jdk_29_method_70_code 2 = .ok (.lcmp, 1) := by decide +kernel
theorem d7_3 : decode jdk_29_method_70_code 3 = .ok (.ifCond .gt 7, 3) := by decide +kernel
theorem d7_6 : decode jdk_29_method_70_code 6 = .ok (.lload_n 0, 1) := by decide +kernel
theorem d7_7 : decode jdk_29_method_70_code 7 = .ok (.goto 4, 3) := by decide +kernel
theorem d7_10 : decode jdk_29_method_70_code 10 = .ok (.lload_n 2, 1) := by decide +kernel
theorem d7_11 : decode jdk_29_method_70_code 11 = .ok (.lreturn, 1) := by decide +kernel
theorem pd7 : parseMethodDescriptor "(JJ)J" = some ⟨[.long, .long], some .long⟩ := by decide +kernel
theorem ef7 (m : MethodId) (q0 : Int64) (q1 : Int64) : entryFrame m #[(.long q0), (.long q1)] 4 = mkF m 0 #[.val (.long q0), .second, .val (.long q1), .second] [] := by first | (simp [entryFrame, mkF, argsToLocals, Value.category]; done) | rfl
def f7_0 (q0 : Int64) (q1 : Int64) : Int64 :=
  if q1 < q0 then (q1) else (q0)
set_option maxRecDepth 65536 in
set_option maxHeartbeats 4000000 in
theorem b7_0 {p : Program} {l : Launch} {e : Env} {s : State} {m : MethodId} {args : Array Value} {below : List Frame} {meth : Method} {c : Code} {T0 : State} {locs : List Loc} {Z : State} {a0 : Array Value} {h0 : Heap} {n0 : Nat} (q0 : Int64) (q1 : Int64) {r : Int64} (X0 : Stand p l e ({ frames := 0, cells := 0, slots := 0, locals := 0 } : Room) s m args below meth c T0 locs 0 0) (hx : p.tables.exec = Jvm.exec) (hZ : Z.Warmed39 s.vm) (hw : ∀ d ∈ tables_1, d.before a0 Z = true) (hby : c.code = jdk_29_method_70_code) (hml : c.maxLocals = 4) (hown : s.vm.findClass "java/lang/Math" = some m.cls) (hret : meth.sig.returnType = some .long) (hlk : meth.locks = false) (e0 : T0.heap = h0) (N0 : Fr n0 locs) (hr : r = f7_0 q0 q1) :
    own_Ends p e below s 0 0 (own_P (.long r) h0 n0) T0 (mkF m 0 #[.val (.long q0), .second, .val (.long q1), .second] []) := by
  unfold f7_0 at hr
  refine own_step (T' := T0) (f' := (mkF m 3 #[.val (.long q0), .second, .val (.long q1), .second] [(.int (lcmpW q0 q1))])) (fun t kt => ?_) ?_
  · show Steps p.tables e below (T0.setTop (mkF m 0 #[.val (.long q0), .second, .val (.long q1), .second] [])) _
    refine XS.lloadN X0.here hx rfl (hb hby d7_0) rfl ?_
    show Steps p.tables e below (T0.setTop (mkF m 1 #[.val (.long q0), .second, .val (.long q1), .second] [(.long q0)])) _
    refine XS.lloadN X0.here hx rfl (hb hby d7_1) rfl ?_
    show Steps p.tables e below (T0.setTop (mkF m 2 #[.val (.long q0), .second, .val (.long q1), .second] [(.long q1), (.long q0)])) _
    refine XS.lcmp X0.here hx rfl (hb hby d7_2) rfl ?_
    exact kt
  by_cases hc3_1 : q1 < q0
  · rw [if_pos hc3_1] at hr
    refine own_step (T' := T0) (f' := (mkF m 10 #[.val (.long q0), .second, .val (.long q1), .second] [])) (fun t kt => ?_) ?_
    · show Steps p.tables e below (T0.setTop (mkF m 3 #[.val (.long q0), .second, .val (.long q1), .second] [(.int (lcmpW q0 q1))])) _
      refine XS.ifYes X0.here hx rfl (pc0 := 3) (pc' := 10) rfl (hb hby d7_3) rfl ((if0 _ _).trans (tlt ((lw_gt _ _).mpr hc3_1)).2.2.1) (by decide) (by decide) kt
    refine own_step (T' := T0) (f' := (mkF m 11 #[.val (.long q0), .second, .val (.long q1), .second] [(.long q1)])) (fun t kt => ?_) ?_
    · show Steps p.tables e below (T0.setTop (mkF m 10 #[.val (.long q0), .second, .val (.long q1), .second] [])) _
      refine XS.lloadN X0.here hx rfl (hb hby d7_10) rfl ?_
      exact kt
    exact own_retJ X0 hx hret hlk (hb hby d7_11) (Nat.le_refl _) (Nat.le_refl _) ⟨congrArg (fun z => some (Value.long z)) hr.symm, N0, e0⟩
  · rw [if_neg hc3_1] at hr
    refine own_step (T' := T0) (f' := (mkF m 6 #[.val (.long q0), .second, .val (.long q1), .second] [])) (fun t kt => ?_) ?_
    · show Steps p.tables e below (T0.setTop (mkF m 3 #[.val (.long q0), .second, .val (.long q1), .second] [(.int (lcmpW q0 q1))])) _
      refine XS.ifNo X0.here hx rfl (hb hby d7_3) rfl ((if0 _ _).trans (flt (mt (lw_gt _ _).mp hc3_1)).2.2.1) kt
    refine own_step (T' := T0) (f' := (mkF m 11 #[.val (.long q0), .second, .val (.long q1), .second] [(.long q0)])) (fun t kt => ?_) ?_
    · show Steps p.tables e below (T0.setTop (mkF m 6 #[.val (.long q0), .second, .val (.long q1), .second] [])) _
      refine XS.lloadN X0.here hx rfl (hb hby d7_6) rfl ?_
      show Steps p.tables e below (T0.setTop (mkF m 7 #[.val (.long q0), .second, .val (.long q1), .second] [(.long q0)])) _
      refine XS.goto X0.here hx rfl (pc0 := 7) (pc' := 11) rfl (hb hby d7_7) (by decide) (by decide) ?_
      exact kt
    exact own_retJ X0 hx hret hlk (hb hby d7_11) (Nat.le_refl _) (Nat.le_refl _) ⟨congrArg (fun z => some (Value.long z)) hr.symm, N0, e0⟩
set_option maxRecDepth 65536 in
set_option maxHeartbeats 4000000 in
theorem rm7 (l : Launch) (Z : State) (a0 : Array Value) (hw : ∀ d ∈ tables_1, d.before a0 Z = true) (ws : List Jvm.Cond) (q0 : Int64) (q1 : Int64) (h0 : Heap) (n0 : Nat) :
    MetFree l (⟨"java/lang/Math", "min", "(JJ)J"⟩ : MethodName) (head1 (Jvm.Cond.code (⟨"java/lang/Math", "min", "(JJ)J"⟩ : MethodName) jdk_29_method_70_code 4 (some .long) :: ws) ({ frames := 0, cells := 0, slots := 0, locals := 0 } : Room)) (fun a U => a = #[(.long q0), (.long q1)] ∧ Z.Warmed39 U.vm ∧ U.heap = h0) (fun _ _ _ _ _ => True) (fun _ U o U' => ∃ v L, o = .returned v ∧ (own_P (.long (f7_0 q0 q1)) h0 n0) v U'.heap L ∧ FrameEnd U o U' L ({ frames := 0, cells := 0, slots := 0, locals := 0 } : Room).cells ({ frames := 0, cells := 0, slots := 0, locals := 0 } : Room).slots) := by
  refine MetFree.of_bodySF (Jvm.Free.JP.mathPlain rfl (by decide +kernel)) hisR ?_
  intro p e s m args below meth c s₁ Bd hml0 hP hK
  obtain ⟨rfl, hZ, hh⟩ := hP
  have hown : s.vm.findClass "java/lang/Math" = some m.cls := findClass_of_methodNamed Bd.named
  have X0 : Stand p l e ({ frames := 0, cells := 0, slots := 0, locals := 0 } : Room) s m #[(.long q0), (.long q1)] below meth c s₁ [] 0 0 := Stand.of_body Bd
  have e0 : s₁.heap = h0 := by rw [← hh, Bd.state]; rfl
  show own_Ends p e below s 0 0 (own_P (.long (f7_0 q0 q1)) h0 n0) s₁ (entryFrame m #[(.long q0), (.long q1)] 4)
  refine own_step (fun t k => castTop (ef7 m q0 q1) k) ?_
  exact b7_0 q0 q1 X0 Bd.exec hZ hw Bd.bytes hml0 hown Bd.returns (BodyLoose.notSynchronized Bd) e0 (Fr.nil n0) rfl
theorem d5_0 : decode method_2_code 0 = .ok (.lload_n 0, 1) := by decide +kernel
theorem d5_1 : decode method_2_code 1 = .ok (.lload_n 2, 1) := by decide +kernel
theorem d5_2 : decode method_2_code 2 = .ok (.invokestatic 7, 3) := by decide +kernel
theorem d5_5 : decode method_2_code 5 = .ok (.lload_n 0, 1) := by decide +kernel
theorem d5_6 : decode method_2_code 6 = .ok (.lcmp, 1) := by decide +kernel
theorem d5_7 : decode method_2_code 7 = .ok (.ifCond .ne 7, 3) := by decide +kernel
theorem d5_10 : decode method_2_code 10 = .ok (.iconst 1, 1) := by decide +kernel
theorem d5_11 : decode method_2_code 11 = .ok (.goto 4, 3) := by decide +kernel
theorem d5_14 : decode method_2_code 14 = .ok (.iconst 0, 1) := by decide +kernel
theorem d5_15 : decode method_2_code 15 = .ok (.istore 6, 2) := by decide +kernel
theorem d5_17 : decode method_2_code 17 = .ok (.lload_n 0, 1) := by decide +kernel
theorem d5_18 : decode method_2_code 18 = .ok (.lload 4, 2) := by decide +kernel
theorem d5_20 : decode method_2_code 20 = .ok (.invokestatic 13, 3) := by decide +kernel
theorem d5_23 : decode method_2_code 23 = .ok (.lload_n 0, 1) := by decide +kernel
theorem d5_24 : decode method_2_code 24 = .ok (.lcmp, 1) := by decide +kernel
theorem d5_25 : decode method_2_code 25 = .ok (.ifCond .ne 7, 3) := by decide +kernel
theorem d5_28 : decode method_2_code 28 = .ok (.iconst 1, 1) := by decide +kernel
theorem d5_29 : decode method_2_code 29 = .ok (.goto 4, 3) := by decide +kernel
theorem d5_32 : decode method_2_code 32 = .ok (.iconst 0, 1) := by decide +kernel
theorem d5_33 : decode method_2_code 33 = .ok (.istore 7, 2) := by decide +kernel
theorem d5_35 : decode method_2_code 35 = .ok (.iload 6, 2) := by decide +kernel
theorem d5_37 : decode method_2_code 37 = .ok (.ifCond .eq 19, 3) := by decide +kernel
theorem d5_40 : decode method_2_code 40 = .ok (.iload 7, 2) := by decide +kernel
theorem d5_42 : decode method_2_code 42 = .ok (.ifCond .eq 14, 3) := by decide +kernel
theorem d5_45 : decode method_2_code 45 = .ok (.lload_n 0, 1) := by decide +kernel
theorem d5_46 : decode method_2_code 46 = .ok (.lload 4, 2) := by decide +kernel
theorem d5_48 : decode method_2_code 48 = .ok (.lcmp, 1) := by decide +kernel
theorem d5_49 : decode method_2_code 49 = .ok (.ifCond .eq 7, 3) := by decide +kernel
theorem d5_52 : decode method_2_code 52 = .ok (.iconst 1, 1) := by decide +kernel
theorem d5_53 : decode method_2_code 53 = .ok (.goto 4, 3) := by decide +kernel
theorem d5_56 : decode method_2_code 56 = .ok (.iconst 0, 1) := by decide +kernel
theorem d5_57 : decode method_2_code 57 = .ok (.ireturn, 1) := by decide +kernel
theorem pn5 : plainName "dev/lodestore/ConsumeQueueHoldsPinLaw" = true := by first | (simp [plainName, overriddenIn]; done) | decide +kernel
theorem pd5 : parseMethodDescriptor "(JJJ)Z" = some ⟨[.long, .long, .long], some .boolean⟩ := by decide +kernel
theorem ef5 (m : MethodId) (q0 : Int64) (q1 : Int64) (q2 : Int64) : entryFrame m #[(.long q0), (.long q1), (.long q2)] 8 = mkF m 0 #[.val (.long q0), .second, .val (.long q1), .second, .val (.long q2), .second, .unset, .unset] [] := by first | (simp [entryFrame, mkF, argsToLocals, Value.category]; done) | rfl
def f5_56  : Int32 :=
  (0 : Int32)
set_option maxRecDepth 65536 in
set_option maxHeartbeats 4000000 in
theorem b5_56 {p : Program} {l : Launch} {e : Env} {s : State} {m : MethodId} {args : Array Value} {below : List Frame} {meth : Method} {c : Code} {T0 : State} {locs : List Loc} {Z : State} {a0 : Array Value} {h0 : Heap} {n0 : Nat} (j0 : Int64) (j2 : Int64) (j4 : Int64) (i6 : Int32) (i7 : Int32) {r : Int32} (X0 : Stand p l e ({ frames := 1, cells := 0, slots := 0, locals := 15 } : Room) s m args below meth c T0 locs 0 0) (hx : p.tables.exec = Jvm.exec) (hZ : Z.Warmed39 s.vm) (hw : ∀ d ∈ tables_1, d.before a0 Z = true) (hby : c.code = method_2_code) (hml : c.maxLocals = 8) (hown : s.vm.findClass "dev/lodestore/ConsumeQueueHoldsPinLaw" = some m.cls) (hret : meth.sig.returnType = some .boolean) (hlk : meth.locks = false) (e0 : T0.heap = h0) (N0 : Fr n0 locs) (hr : r = f5_56 ) :
    own_Ends p e below s 0 0 (own_P (.int r) h0 n0) T0 (mkF m 56 #[.val (.long j0), .second, .val (.long j2), .second, .val (.long j4), .second, .val (.int i6), .val (.int i7)] []) := by
  unfold f5_56 at hr
  refine own_step (T' := T0) (f' := (mkF m 57 #[.val (.long j0), .second, .val (.long j2), .second, .val (.long j4), .second, .val (.int i6), .val (.int i7)] [(.int (0 : Int32))])) (fun t kt => ?_) ?_
  · show Steps p.tables e below (T0.setTop (mkF m 56 #[.val (.long j0), .second, .val (.long j2), .second, .val (.long j4), .second, .val (.int i6), .val (.int i7)] [])) _
    refine XS.iconst X0.here hx rfl (hb hby d5_56) ?_
    exact kt
  exact own_retZ X0 hx hret (by simp) hlk (hb hby d5_57) (Nat.le_refl _) (Nat.le_refl _) ⟨congrArg (fun z => some (Value.int z)) hr.symm, N0, e0⟩
def f5_33 (j0 : Int64) (j4 : Int64) (i6 : Int32) (k0 : Int32) : Int32 :=
  if i6 = (0 : Int32) then (f5_56 ) else (if k0 = (0 : Int32) then (f5_56 ) else (if j0 = j4 then (f5_56 ) else ((1 : Int32))))
set_option maxRecDepth 65536 in
set_option maxHeartbeats 4000000 in
theorem b5_33 {p : Program} {l : Launch} {e : Env} {s : State} {m : MethodId} {args : Array Value} {below : List Frame} {meth : Method} {c : Code} {T0 : State} {locs : List Loc} {Z : State} {a0 : Array Value} {h0 : Heap} {n0 : Nat} (j0 : Int64) (j2 : Int64) (j4 : Int64) (i6 : Int32) (k0 : Int32) {r : Int32} (X0 : Stand p l e ({ frames := 1, cells := 0, slots := 0, locals := 15 } : Room) s m args below meth c T0 locs 0 0) (hx : p.tables.exec = Jvm.exec) (hZ : Z.Warmed39 s.vm) (hw : ∀ d ∈ tables_1, d.before a0 Z = true) (hby : c.code = method_2_code) (hml : c.maxLocals = 8) (hown : s.vm.findClass "dev/lodestore/ConsumeQueueHoldsPinLaw" = some m.cls) (hret : meth.sig.returnType = some .boolean) (hlk : meth.locks = false) (e0 : T0.heap = h0) (N0 : Fr n0 locs) (hr : r = f5_33 j0 j4 i6 k0) :
    own_Ends p e below s 0 0 (own_P (.int r) h0 n0) T0 (mkF m 33 #[.val (.long j0), .second, .val (.long j2), .second, .val (.long j4), .second, .val (.int i6), .unset] [(.int k0)]) := by
  unfold f5_33 at hr
  refine own_step (T' := T0) (f' := (mkF m 37 #[.val (.long j0), .second, .val (.long j2), .second, .val (.long j4), .second, .val (.int i6), .val (.int k0)] [(.int i6)])) (fun t kt => ?_) ?_
  · show Steps p.tables e below (T0.setTop (mkF m 33 #[.val (.long j0), .second, .val (.long j2), .second, .val (.long j4), .second, .val (.int i6), .unset] [(.int k0)])) _
    refine XS.istore X0.here hx rfl (hb hby d5_33) rfl (l' := #[.val (.long j0), .second, .val (.long j2), .second, .val (.long j4), .second, .val (.int i6), .val (.int k0)]) rfl ?_
    show Steps p.tables e below (T0.setTop (mkF m 35 #[.val (.long j0), .second, .val (.long j2), .second, .val (.long j4), .second, .val (.int i6), .val (.int k0)] [])) _
    refine XS.iload X0.here hx rfl (hb hby d5_35) rfl ?_
    exact kt
  by_cases hc37_5 : i6 = (0 : Int32)
  · rw [if_pos hc37_5] at hr
    refine own_step (T' := T0) (f' := (mkF m 56 #[.val (.long j0), .second, .val (.long j2), .second, .val (.long j4), .second, .val (.int i6), .val (.int k0)] [])) (fun t kt => ?_) ?_
    · show Steps p.tables e below (T0.setTop (mkF m 37 #[.val (.long j0), .second, .val (.long j2), .second, .val (.long j4), .second, .val (.int i6), .val (.int k0)] [(.int i6)])) _
      refine XS.ifYes X0.here hx rfl (pc0 := 37) (pc' := 56) rfl (hb hby d5_37) rfl ((if0 _ _).trans (teq hc37_5).1) (by decide) (by decide) kt
    exact b5_56 j0 j2 j4 i6 k0 X0 hx hZ hw hby hml hown hret hlk e0 N0 hr
  · rw [if_neg hc37_5] at hr
    refine own_step (T' := T0) (f' := (mkF m 40 #[.val (.long j0), .second, .val (.long j2), .second, .val (.long j4), .second, .val (.int i6), .val (.int k0)] [])) (fun t kt => ?_) ?_
    · show Steps p.tables e below (T0.setTop (mkF m 37 #[.val (.long j0), .second, .val (.long j2), .second, .val (.long j4), .second, .val (.int i6), .val (.int k0)] [(.int i6)])) _
      refine XS.ifNo X0.here hx rfl (hb hby d5_37) rfl ((if0 _ _).trans (feq hc37_5).1) kt
    refine own_step (T' := T0) (f' := (mkF m 42 #[.val (.long j0), .second, .val (.long j2), .second, .val (.long j4), .second, .val (.int i6), .val (.int k0)] [(.int k0)])) (fun t kt => ?_) ?_
    · show Steps p.tables e below (T0.setTop (mkF m 40 #[.val (.long j0), .second, .val (.long j2), .second, .val (.long j4), .second, .val (.int i6), .val (.int k0)] [])) _
      refine XS.iload X0.here hx rfl (hb hby d5_40) rfl ?_
      exact kt
    by_cases hc42_6 : k0 = (0 : Int32)
    · rw [if_pos hc42_6] at hr
      refine own_step (T' := T0) (f' := (mkF m 56 #[.val (.long j0), .second, .val (.long j2), .second, .val (.long j4), .second, .val (.int i6), .val (.int k0)] [])) (fun t kt => ?_) ?_
      · show Steps p.tables e below (T0.setTop (mkF m 42 #[.val (.long j0), .second, .val (.long j2), .second, .val (.long j4), .second, .val (.int i6), .val (.int k0)] [(.int k0)])) _
        refine XS.ifYes X0.here hx rfl (pc0 := 42) (pc' := 56) rfl (hb hby d5_42) rfl ((if0 _ _).trans (teq hc42_6).1) (by decide) (by decide) kt
      exact b5_56 j0 j2 j4 i6 k0 X0 hx hZ hw hby hml hown hret hlk e0 N0 hr
    · rw [if_neg hc42_6] at hr
      refine own_step (T' := T0) (f' := (mkF m 45 #[.val (.long j0), .second, .val (.long j2), .second, .val (.long j4), .second, .val (.int i6), .val (.int k0)] [])) (fun t kt => ?_) ?_
      · show Steps p.tables e below (T0.setTop (mkF m 42 #[.val (.long j0), .second, .val (.long j2), .second, .val (.long j4), .second, .val (.int i6), .val (.int k0)] [(.int k0)])) _
        refine XS.ifNo X0.here hx rfl (hb hby d5_42) rfl ((if0 _ _).trans (feq hc42_6).1) kt
      refine own_step (T' := T0) (f' := (mkF m 49 #[.val (.long j0), .second, .val (.long j2), .second, .val (.long j4), .second, .val (.int i6), .val (.int k0)] [(.int (lcmpW j0 j4))])) (fun t kt => ?_) ?_
      · show Steps p.tables e below (T0.setTop (mkF m 45 #[.val (.long j0), .second, .val (.long j2), .second, .val (.long j4), .second, .val (.int i6), .val (.int k0)] [])) _
        refine XS.lloadN X0.here hx rfl (hb hby d5_45) rfl ?_
        show Steps p.tables e below (T0.setTop (mkF m 46 #[.val (.long j0), .second, .val (.long j2), .second, .val (.long j4), .second, .val (.int i6), .val (.int k0)] [(.long j0)])) _
        refine XS.lload X0.here hx rfl (hb hby d5_46) rfl ?_
        show Steps p.tables e below (T0.setTop (mkF m 48 #[.val (.long j0), .second, .val (.long j2), .second, .val (.long j4), .second, .val (.int i6), .val (.int k0)] [(.long j4), (.long j0)])) _
        refine XS.lcmp X0.here hx rfl (hb hby d5_48) rfl ?_
        exact kt
      by_cases hc49_7 : j0 = j4
      · rw [if_pos hc49_7] at hr
        refine own_step (T' := T0) (f' := (mkF m 56 #[.val (.long j0), .second, .val (.long j2), .second, .val (.long j4), .second, .val (.int i6), .val (.int k0)] [])) (fun t kt => ?_) ?_
        · show Steps p.tables e below (T0.setTop (mkF m 49 #[.val (.long j0), .second, .val (.long j2), .second, .val (.long j4), .second, .val (.int i6), .val (.int k0)] [(.int (lcmpW j0 j4))])) _
          refine XS.ifYes X0.here hx rfl (pc0 := 49) (pc' := 56) rfl (hb hby d5_49) rfl ((if0 _ _).trans (teq ((lw_eq _ _).mpr hc49_7)).1) (by decide) (by decide) kt
        exact b5_56 j0 j2 j4 i6 k0 X0 hx hZ hw hby hml hown hret hlk e0 N0 hr
      · rw [if_neg hc49_7] at hr
        refine own_step (T' := T0) (f' := (mkF m 52 #[.val (.long j0), .second, .val (.long j2), .second, .val (.long j4), .second, .val (.int i6), .val (.int k0)] [])) (fun t kt => ?_) ?_
        · show Steps p.tables e below (T0.setTop (mkF m 49 #[.val (.long j0), .second, .val (.long j2), .second, .val (.long j4), .second, .val (.int i6), .val (.int k0)] [(.int (lcmpW j0 j4))])) _
          refine XS.ifNo X0.here hx rfl (hb hby d5_49) rfl ((if0 _ _).trans (feq (mt (lw_eq _ _).mp hc49_7)).1) kt
        refine own_step (T' := T0) (f' := (mkF m 57 #[.val (.long j0), .second, .val (.long j2), .second, .val (.long j4), .second, .val (.int i6), .val (.int k0)] [(.int (1 : Int32))])) (fun t kt => ?_) ?_
        · show Steps p.tables e below (T0.setTop (mkF m 52 #[.val (.long j0), .second, .val (.long j2), .second, .val (.long j4), .second, .val (.int i6), .val (.int k0)] [])) _
          refine XS.iconst X0.here hx rfl (hb hby d5_52) ?_
          show Steps p.tables e below (T0.setTop (mkF m 53 #[.val (.long j0), .second, .val (.long j2), .second, .val (.long j4), .second, .val (.int i6), .val (.int k0)] [(.int (1 : Int32))])) _
          refine XS.goto X0.here hx rfl (pc0 := 53) (pc' := 57) rfl (hb hby d5_53) (by decide) (by decide) ?_
          exact kt
        exact own_retZ X0 hx hret (by simp) hlk (hb hby d5_57) (Nat.le_refl _) (Nat.le_refl _) ⟨congrArg (fun z => some (Value.int z)) hr.symm, N0, e0⟩
def f5_15 (j0 : Int64) (j4 : Int64) (k0 : Int32) : Int32 :=
  if (f7_0 j0 j4) = j0 then (f5_33 j0 j4 k0 (1 : Int32)) else (f5_33 j0 j4 k0 (0 : Int32))
set_option maxRecDepth 65536 in
set_option maxHeartbeats 4000000 in
theorem b5_15 {p : Program} {l : Launch} {e : Env} {s : State} {m : MethodId} {args : Array Value} {below : List Frame} {meth : Method} {c : Code} {T0 : State} {locs : List Loc} {Z : State} {a0 : Array Value} {h0 : Heap} {n0 : Nat} (j0 : Int64) (j2 : Int64) (j4 : Int64) (k0 : Int32) {r : Int32} (X0 : Stand p l e ({ frames := 1, cells := 0, slots := 0, locals := 15 } : Room) s m args below meth c T0 locs 0 0) (hx : p.tables.exec = Jvm.exec) (hZ : Z.Warmed39 s.vm) (hw : ∀ d ∈ tables_1, d.before a0 Z = true) (hby : c.code = method_2_code) (hml : c.maxLocals = 8) (hown : s.vm.findClass "dev/lodestore/ConsumeQueueHoldsPinLaw" = some m.cls) (hret : meth.sig.returnType = some .boolean) (hlk : meth.locks = false) (e0 : T0.heap = h0) (N0 : Fr n0 locs) (hr : r = f5_15 j0 j4 k0) :
    own_Ends p e below s 0 0 (own_P (.int r) h0 n0) T0 (mkF m 15 #[.val (.long j0), .second, .val (.long j2), .second, .val (.long j4), .second, .unset, .unset] [(.int k0)]) := by
  unfold f5_15 at hr
  refine own_step (T' := T0) (f' := (mkF m 20 #[.val (.long j0), .second, .val (.long j2), .second, .val (.long j4), .second, .val (.int k0), .unset] [(.long j4), (.long j0)])) (fun t kt => ?_) ?_
  · show Steps p.tables e below (T0.setTop (mkF m 15 #[.val (.long j0), .second, .val (.long j2), .second, .val (.long j4), .second, .unset, .unset] [(.int k0)])) _
    refine XS.istore X0.here hx rfl (hb hby d5_15) rfl (l' := #[.val (.long j0), .second, .val (.long j2), .second, .val (.long j4), .second, .val (.int k0), .unset]) rfl ?_
    show Steps p.tables e below (T0.setTop (mkF m 17 #[.val (.long j0), .second, .val (.long j2), .second, .val (.long j4), .second, .val (.int k0), .unset] [])) _
    refine XS.lloadN X0.here hx rfl (hb hby d5_17) rfl ?_
    show Steps p.tables e below (T0.setTop (mkF m 18 #[.val (.long j0), .second, .val (.long j2), .second, .val (.long j4), .second, .val (.int k0), .unset] [(.long j0)])) _
    refine XS.lload X0.here hx rfl (hb hby d5_18) rfl ?_
    exact kt
  obtain ⟨_, _, ⟨T3, L3, k3, n3⟩, -, X3, ⟨Lc3, hQ3, l3, y3, z3⟩, st3⟩ := Jvm.LawKit.callS X0 hx (y := (⟨"java/lang/Math", "min", "(JJ)J"⟩ : MethodName)) hown (mvT hZ (hw _ (List.mem_of_getElem? (i := 35) rfl))) (mvT hZ (hw _ (List.mem_of_getElem? (i := 36) rfl))) (mvT hZ (hw _ (List.mem_of_getElem? (i := 33) rfl))) (mvT hZ (hw _ (List.mem_of_getElem? (i := 37) rfl))) (by decide) (backOf (W := 0) (rm7 l Z a0 hw [] j0 j4  h0 n0 ) hZ (hw _ (List.mem_of_getElem? (i := 37) rfl)) (hw _ (List.mem_of_getElem? (i := 33) rfl)) (by decide) (by decide)) (g := (mkF m 20 #[.val (.long j0), .second, .val (.long j2), .second, .val (.long j4), .second, .val (.int k0), .unset] [(.long j4), (.long j0)])) rfl (by rw [hml]; rfl) (argsL := [(.long j0), (.long j4)]) (rest := []) (lenOf pd7 rfl) rfl (by show 2 * 0 + _ ≤ _; exact Nat.le_of_eq rfl) (hb hby d5_20) (fun _ _ => ⟨rfl, e0, (by decide : 0 + 0 ≤ _), (by decide : 0 + 0 ≤ _)⟩)
  dsimp only [Pt.U, Pt.locs, Pt.cells, Pt.slots] at X3 l3 y3 z3 st3 hQ3
  subst l3 y3 z3
  obtain ⟨rfl, Nq3, e3⟩ := hQ3
  have N3 := Fr.app N0 Nq3
  refine own_step (T' := T3) (f' := (mkF m 23 #[.val (.long j0), .second, .val (.long j2), .second, .val (.long j4), .second, .val (.int k0), .unset] [(.long (f7_0 j0 j4))])) st3 ?_
  refine own_step (T' := T3) (f' := (mkF m 25 #[.val (.long j0), .second, .val (.long j2), .second, .val (.long j4), .second, .val (.int k0), .unset] [(.int (lcmpW (f7_0 j0 j4) j0))])) (fun t kt => ?_) ?_
  · show Steps p.tables e below (T3.setTop (mkF m 23 #[.val (.long j0), .second, .val (.long j2), .second, .val (.long j4), .second, .val (.int k0), .unset] [(.long (f7_0 j0 j4))])) _
    refine XS.lloadN X3.here hx rfl (hb hby d5_23) rfl ?_
    show Steps p.tables e below (T3.setTop (mkF m 24 #[.val (.long j0), .second, .val (.long j2), .second, .val (.long j4), .second, .val (.int k0), .unset] [(.long j0), (.long (f7_0 j0 j4))])) _
    refine XS.lcmp X3.here hx rfl (hb hby d5_24) rfl ?_
    exact kt
  by_cases hc25_4 : (f7_0 j0 j4) = j0
  · rw [if_pos hc25_4] at hr
    refine own_step (T' := T3) (f' := (mkF m 28 #[.val (.long j0), .second, .val (.long j2), .second, .val (.long j4), .second, .val (.int k0), .unset] [])) (fun t kt => ?_) ?_
    · show Steps p.tables e below (T3.setTop (mkF m 25 #[.val (.long j0), .second, .val (.long j2), .second, .val (.long j4), .second, .val (.int k0), .unset] [(.int (lcmpW (f7_0 j0 j4) j0))])) _
      refine XS.ifNo X3.here hx rfl (hb hby d5_25) rfl ((if0 _ _).trans (teq ((lw_eq _ _).mpr hc25_4)).2) kt
    refine own_step (T' := T3) (f' := (mkF m 33 #[.val (.long j0), .second, .val (.long j2), .second, .val (.long j4), .second, .val (.int k0), .unset] [(.int (1 : Int32))])) (fun t kt => ?_) ?_
    · show Steps p.tables e below (T3.setTop (mkF m 28 #[.val (.long j0), .second, .val (.long j2), .second, .val (.long j4), .second, .val (.int k0), .unset] [])) _
      refine XS.iconst X3.here hx rfl (hb hby d5_28) ?_
      show Steps p.tables e below (T3.setTop (mkF m 29 #[.val (.long j0), .second, .val (.long j2), .second, .val (.long j4), .second, .val (.int k0), .unset] [(.int (1 : Int32))])) _
      refine XS.goto X3.here hx rfl (pc0 := 29) (pc' := 33) rfl (hb hby d5_29) (by decide) (by decide) ?_
      exact kt
    exact b5_33 j0 j2 j4 k0 (1 : Int32) X3 hx hZ hw hby hml hown hret hlk e3 N3 hr
  · rw [if_neg hc25_4] at hr
    refine own_step (T' := T3) (f' := (mkF m 32 #[.val (.long j0), .second, .val (.long j2), .second, .val (.long j4), .second, .val (.int k0), .unset] [])) (fun t kt => ?_) ?_
    · show Steps p.tables e below (T3.setTop (mkF m 25 #[.val (.long j0), .second, .val (.long j2), .second, .val (.long j4), .second, .val (.int k0), .unset] [(.int (lcmpW (f7_0 j0 j4) j0))])) _
      refine XS.ifYes X3.here hx rfl (pc0 := 25) (pc' := 32) rfl (hb hby d5_25) rfl ((if0 _ _).trans (feq (mt (lw_eq _ _).mp hc25_4)).2) (by decide) (by decide) kt
    refine own_step (T' := T3) (f' := (mkF m 33 #[.val (.long j0), .second, .val (.long j2), .second, .val (.long j4), .second, .val (.int k0), .unset] [(.int (0 : Int32))])) (fun t kt => ?_) ?_
    · show Steps p.tables e below (T3.setTop (mkF m 32 #[.val (.long j0), .second, .val (.long j2), .second, .val (.long j4), .second, .val (.int k0), .unset] [])) _
      refine XS.iconst X3.here hx rfl (hb hby d5_32) ?_
      exact kt
    exact b5_33 j0 j2 j4 k0 (0 : Int32) X3 hx hZ hw hby hml hown hret hlk e3 N3 hr
def f5_0 (q0 : Int64) (q1 : Int64) (q2 : Int64) : Int32 :=
  if (f6_0 q0 q1) = q0 then (f5_15 q0 q2 (1 : Int32)) else (f5_15 q0 q2 (0 : Int32))
set_option maxRecDepth 65536 in
set_option maxHeartbeats 4000000 in
theorem b5_0 {p : Program} {l : Launch} {e : Env} {s : State} {m : MethodId} {args : Array Value} {below : List Frame} {meth : Method} {c : Code} {T0 : State} {locs : List Loc} {Z : State} {a0 : Array Value} {h0 : Heap} {n0 : Nat} (q0 : Int64) (q1 : Int64) (q2 : Int64) {r : Int32} (X0 : Stand p l e ({ frames := 1, cells := 0, slots := 0, locals := 15 } : Room) s m args below meth c T0 locs 0 0) (hx : p.tables.exec = Jvm.exec) (hZ : Z.Warmed39 s.vm) (hw : ∀ d ∈ tables_1, d.before a0 Z = true) (hby : c.code = method_2_code) (hml : c.maxLocals = 8) (hown : s.vm.findClass "dev/lodestore/ConsumeQueueHoldsPinLaw" = some m.cls) (hret : meth.sig.returnType = some .boolean) (hlk : meth.locks = false) (e0 : T0.heap = h0) (N0 : Fr n0 locs) (hr : r = f5_0 q0 q1 q2) :
    own_Ends p e below s 0 0 (own_P (.int r) h0 n0) T0 (mkF m 0 #[.val (.long q0), .second, .val (.long q1), .second, .val (.long q2), .second, .unset, .unset] []) := by
  unfold f5_0 at hr
  refine own_step (T' := T0) (f' := (mkF m 2 #[.val (.long q0), .second, .val (.long q1), .second, .val (.long q2), .second, .unset, .unset] [(.long q1), (.long q0)])) (fun t kt => ?_) ?_
  · show Steps p.tables e below (T0.setTop (mkF m 0 #[.val (.long q0), .second, .val (.long q1), .second, .val (.long q2), .second, .unset, .unset] [])) _
    refine XS.lloadN X0.here hx rfl (hb hby d5_0) rfl ?_
    show Steps p.tables e below (T0.setTop (mkF m 1 #[.val (.long q0), .second, .val (.long q1), .second, .val (.long q2), .second, .unset, .unset] [(.long q0)])) _
    refine XS.lloadN X0.here hx rfl (hb hby d5_1) rfl ?_
    exact kt
  obtain ⟨_, _, ⟨T1, L1, k1, n1⟩, -, X1, ⟨Lc1, hQ1, l1, y1, z1⟩, st1⟩ := Jvm.LawKit.callS X0 hx (y := (⟨"java/lang/Math", "max", "(JJ)J"⟩ : MethodName)) hown (mvT hZ (hw _ (List.mem_of_getElem? (i := 31) rfl))) (mvT hZ (hw _ (List.mem_of_getElem? (i := 32) rfl))) (mvT hZ (hw _ (List.mem_of_getElem? (i := 33) rfl))) (mvT hZ (hw _ (List.mem_of_getElem? (i := 34) rfl))) (by decide) (backOf (W := 0) (rm6 l Z a0 hw [] q0 q1  h0 n0 ) hZ (hw _ (List.mem_of_getElem? (i := 34) rfl)) (hw _ (List.mem_of_getElem? (i := 33) rfl)) (by decide) (by decide)) (g := (mkF m 2 #[.val (.long q0), .second, .val (.long q1), .second, .val (.long q2), .second, .unset, .unset] [(.long q1), (.long q0)])) rfl (by rw [hml]; rfl) (argsL := [(.long q0), (.long q1)]) (rest := []) (lenOf pd6 rfl) rfl (by show 2 * 0 + _ ≤ _; exact Nat.le_of_eq rfl) (hb hby d5_2) (fun _ _ => ⟨rfl, e0, (by decide : 0 + 0 ≤ _), (by decide : 0 + 0 ≤ _)⟩)
  dsimp only [Pt.U, Pt.locs, Pt.cells, Pt.slots] at X1 l1 y1 z1 st1 hQ1
  subst l1 y1 z1
  obtain ⟨rfl, Nq1, e1⟩ := hQ1
  have N1 := Fr.app N0 Nq1
  refine own_step (T' := T1) (f' := (mkF m 5 #[.val (.long q0), .second, .val (.long q1), .second, .val (.long q2), .second, .unset, .unset] [(.long (f6_0 q0 q1))])) st1 ?_
  refine own_step (T' := T1) (f' := (mkF m 7 #[.val (.long q0), .second, .val (.long q1), .second, .val (.long q2), .second, .unset, .unset] [(.int (lcmpW (f6_0 q0 q1) q0))])) (fun t kt => ?_) ?_
  · show Steps p.tables e below (T1.setTop (mkF m 5 #[.val (.long q0), .second, .val (.long q1), .second, .val (.long q2), .second, .unset, .unset] [(.long (f6_0 q0 q1))])) _
    refine XS.lloadN X1.here hx rfl (hb hby d5_5) rfl ?_
    show Steps p.tables e below (T1.setTop (mkF m 6 #[.val (.long q0), .second, .val (.long q1), .second, .val (.long q2), .second, .unset, .unset] [(.long q0), (.long (f6_0 q0 q1))])) _
    refine XS.lcmp X1.here hx rfl (hb hby d5_6) rfl ?_
    exact kt
  by_cases hc7_2 : (f6_0 q0 q1) = q0
  · rw [if_pos hc7_2] at hr
    refine own_step (T' := T1) (f' := (mkF m 10 #[.val (.long q0), .second, .val (.long q1), .second, .val (.long q2), .second, .unset, .unset] [])) (fun t kt => ?_) ?_
    · show Steps p.tables e below (T1.setTop (mkF m 7 #[.val (.long q0), .second, .val (.long q1), .second, .val (.long q2), .second, .unset, .unset] [(.int (lcmpW (f6_0 q0 q1) q0))])) _
      refine XS.ifNo X1.here hx rfl (hb hby d5_7) rfl ((if0 _ _).trans (teq ((lw_eq _ _).mpr hc7_2)).2) kt
    refine own_step (T' := T1) (f' := (mkF m 15 #[.val (.long q0), .second, .val (.long q1), .second, .val (.long q2), .second, .unset, .unset] [(.int (1 : Int32))])) (fun t kt => ?_) ?_
    · show Steps p.tables e below (T1.setTop (mkF m 10 #[.val (.long q0), .second, .val (.long q1), .second, .val (.long q2), .second, .unset, .unset] [])) _
      refine XS.iconst X1.here hx rfl (hb hby d5_10) ?_
      show Steps p.tables e below (T1.setTop (mkF m 11 #[.val (.long q0), .second, .val (.long q1), .second, .val (.long q2), .second, .unset, .unset] [(.int (1 : Int32))])) _
      refine XS.goto X1.here hx rfl (pc0 := 11) (pc' := 15) rfl (hb hby d5_11) (by decide) (by decide) ?_
      exact kt
    exact b5_15 q0 q1 q2 (1 : Int32) X1 hx hZ hw hby hml hown hret hlk e1 N1 hr
  · rw [if_neg hc7_2] at hr
    refine own_step (T' := T1) (f' := (mkF m 14 #[.val (.long q0), .second, .val (.long q1), .second, .val (.long q2), .second, .unset, .unset] [])) (fun t kt => ?_) ?_
    · show Steps p.tables e below (T1.setTop (mkF m 7 #[.val (.long q0), .second, .val (.long q1), .second, .val (.long q2), .second, .unset, .unset] [(.int (lcmpW (f6_0 q0 q1) q0))])) _
      refine XS.ifYes X1.here hx rfl (pc0 := 7) (pc' := 14) rfl (hb hby d5_7) rfl ((if0 _ _).trans (feq (mt (lw_eq _ _).mp hc7_2)).2) (by decide) (by decide) kt
    refine own_step (T' := T1) (f' := (mkF m 15 #[.val (.long q0), .second, .val (.long q1), .second, .val (.long q2), .second, .unset, .unset] [(.int (0 : Int32))])) (fun t kt => ?_) ?_
    · show Steps p.tables e below (T1.setTop (mkF m 14 #[.val (.long q0), .second, .val (.long q1), .second, .val (.long q2), .second, .unset, .unset] [])) _
      refine XS.iconst X1.here hx rfl (hb hby d5_14) ?_
      exact kt
    exact b5_15 q0 q1 q2 (0 : Int32) X1 hx hZ hw hby hml hown hret hlk e1 N1 hr
set_option maxRecDepth 65536 in
set_option maxHeartbeats 4000000 in
theorem rm5 (l : Launch) (Z : State) (a0 : Array Value) (hw : ∀ d ∈ tables_1, d.before a0 Z = true) (ws : List Jvm.Cond) (q0 : Int64) (q1 : Int64) (q2 : Int64) (h0 : Heap) (n0 : Nat) :
    MetFree l (⟨"dev/lodestore/ConsumeQueueHoldsPinLaw", "inHalfOpen", "(JJJ)Z"⟩ : MethodName) (head1 (Jvm.Cond.code (⟨"dev/lodestore/ConsumeQueueHoldsPinLaw", "inHalfOpen", "(JJJ)Z"⟩ : MethodName) method_2_code 8 (some .boolean) :: ws) ({ frames := 1, cells := 0, slots := 0, locals := 15 } : Room)) (fun a U => a = #[(.long q0), (.long q1), (.long q2)] ∧ Z.Warmed39 U.vm ∧ U.heap = h0) (fun _ _ _ _ _ => True) (fun _ U o U' => ∃ v L, o = .returned v ∧ (own_P (.int (f5_0 q0 q1 q2)) h0 n0) v U'.heap L ∧ FrameEnd U o U' L ({ frames := 1, cells := 0, slots := 0, locals := 15 } : Room).cells ({ frames := 1, cells := 0, slots := 0, locals := 15 } : Room).slots) := by
  refine MetFree.of_bodySF (plainFor_of_name pn5) hisR ?_
  intro p e s m args below meth c s₁ Bd hml0 hP hK
  obtain ⟨rfl, hZ, hh⟩ := hP
  have hown : s.vm.findClass "dev/lodestore/ConsumeQueueHoldsPinLaw" = some m.cls := findClass_of_methodNamed Bd.named
  have X0 : Stand p l e ({ frames := 1, cells := 0, slots := 0, locals := 15 } : Room) s m #[(.long q0), (.long q1), (.long q2)] below meth c s₁ [] 0 0 := Stand.of_body Bd
  have e0 : s₁.heap = h0 := by rw [← hh, Bd.state]; rfl
  show own_Ends p e below s 0 0 (own_P (.int (f5_0 q0 q1 q2)) h0 n0) s₁ (entryFrame m #[(.long q0), (.long q1), (.long q2)] 8)
  refine own_step (fun t k => castTop (ef5 m q0 q1 q2) k) ?_
  exact b5_0 q0 q1 q2 X0 Bd.exec hZ hw Bd.bytes hml0 hown Bd.returns (BodyLoose.notSynchronized Bd) e0 (Fr.nil n0) rfl

theorem pn0 : plainName "dev/lodestore/ConsumeQueueHoldsPinLaw" = true := by first | (simp [plainName, overriddenIn]; done) | decide +kernel
theorem ef0 (m : MethodId) (q0 : Int64) (q1 : Int64) (q2 : Int64) (q3 : Int64) (q4 : Int64) (q5 : Int64) : entryFrame m #[(.long q0), (.long q1), (.long q2), (.long q3), (.long q4), (.long q5)] maxLocals = mkF m 0 #[.val (.long q0), .second, .val (.long q1), .second, .val (.long q2), .second, .val (.long q3), .second, .val (.long q4), .second, .val (.long q5), .second, .unset, .unset, .unset, .unset, .unset, .unset, .unset, .unset, .unset, .unset, .unset] [] := by first | (simp [entryFrame, mkF, argsToLocals, Value.category, maxLocals]; done) | rfl
def f0_80 (i21 : Int32) (k0 : Int32) : Int32 :=
  if i21 = k0 then ((1 : Int32)) else ((0 : Int32))
set_option maxRecDepth 65536 in
set_option maxHeartbeats 4000000 in
theorem b0_80 {p : Program} {l : Launch} {e : Env} {s : State} {m : MethodId} {args : Array Value} {below : List Frame} {meth : Method} {c : Code} {T0 : State} {locs : List Loc} {Z : State} {a0 : Array Value} {h0 : Heap} {n0 : Nat} (j0 : Int64) (j2 : Int64) (j4 : Int64) (j6 : Int64) (j8 : Int64) (j10 : Int64) (j12 : Int64) (j14 : Int64) (j16 : Int64) (j18 : Int64) (o20 : Addr) (i21 : Int32) (k0 : Int32) {r : Int32} (X0 : Stand p l e room_1 s m args below meth c T0 locs 1 4) (hx : p.tables.exec = Jvm.exec) (hZ : Z.Warmed39 s.vm) (hw : ∀ d ∈ tables_1, d.before a0 Z = true) (hby : c.code = code) (hml : c.maxLocals = 23) (hown : s.vm.findClass "dev/lodestore/ConsumeQueueHoldsPinLaw" = some m.cls) (hret : meth.sig.returnType = some .boolean) (hlk : meth.locks = false) (e0 : T0.heap = h0) (N0 : Fr n0 locs) (Z0 : n0 ≤ h0.size) (hr : r = f0_80 i21 k0) :
    own_Ends p e below s 16 128 (own_R (.int r) n0) T0 (mkF m 80 #[.val (.long j0), .second, .val (.long j2), .second, .val (.long j4), .second, .val (.long j6), .second, .val (.long j8), .second, .val (.long j10), .second, .val (.long j12), .second, .val (.long j14), .second, .val (.long j16), .second, .val (.long j18), .second, .val (.ref o20), .val (.int i21), .unset] [(.int k0)]) := by
  unfold f0_80 at hr
  refine own_step (T' := T0) (f' := (mkF m 86 #[.val (.long j0), .second, .val (.long j2), .second, .val (.long j4), .second, .val (.long j6), .second, .val (.long j8), .second, .val (.long j10), .second, .val (.long j12), .second, .val (.long j14), .second, .val (.long j16), .second, .val (.long j18), .second, .val (.ref o20), .val (.int i21), .val (.int k0)] [(.int k0), (.int i21)])) (fun t kt => ?_) ?_
  · show Steps p.tables e below (T0.setTop (mkF m 80 #[.val (.long j0), .second, .val (.long j2), .second, .val (.long j4), .second, .val (.long j6), .second, .val (.long j8), .second, .val (.long j10), .second, .val (.long j12), .second, .val (.long j14), .second, .val (.long j16), .second, .val (.long j18), .second, .val (.ref o20), .val (.int i21), .unset] [(.int k0)])) _
    refine XS.istore X0.here hx rfl (hb hby at_80) rfl (l' := #[.val (.long j0), .second, .val (.long j2), .second, .val (.long j4), .second, .val (.long j6), .second, .val (.long j8), .second, .val (.long j10), .second, .val (.long j12), .second, .val (.long j14), .second, .val (.long j16), .second, .val (.long j18), .second, .val (.ref o20), .val (.int i21), .val (.int k0)]) rfl ?_
    show Steps p.tables e below (T0.setTop (mkF m 82 #[.val (.long j0), .second, .val (.long j2), .second, .val (.long j4), .second, .val (.long j6), .second, .val (.long j8), .second, .val (.long j10), .second, .val (.long j12), .second, .val (.long j14), .second, .val (.long j16), .second, .val (.long j18), .second, .val (.ref o20), .val (.int i21), .val (.int k0)] [])) _
    refine XS.iload X0.here hx rfl (hb hby at_82) rfl ?_
    show Steps p.tables e below (T0.setTop (mkF m 84 #[.val (.long j0), .second, .val (.long j2), .second, .val (.long j4), .second, .val (.long j6), .second, .val (.long j8), .second, .val (.long j10), .second, .val (.long j12), .second, .val (.long j14), .second, .val (.long j16), .second, .val (.long j18), .second, .val (.ref o20), .val (.int i21), .val (.int k0)] [(.int i21)])) _
    refine XS.iload X0.here hx rfl (hb hby at_84) rfl ?_
    exact kt
  by_cases hc86_3 : i21 = k0
  · rw [if_pos hc86_3] at hr
    refine own_step (T' := T0) (f' := (mkF m 89 #[.val (.long j0), .second, .val (.long j2), .second, .val (.long j4), .second, .val (.long j6), .second, .val (.long j8), .second, .val (.long j10), .second, .val (.long j12), .second, .val (.long j14), .second, .val (.long j16), .second, .val (.long j18), .second, .val (.ref o20), .val (.int i21), .val (.int k0)] [])) (fun t kt => ?_) ?_
    · show Steps p.tables e below (T0.setTop (mkF m 86 #[.val (.long j0), .second, .val (.long j2), .second, .val (.long j4), .second, .val (.long j6), .second, .val (.long j8), .second, .val (.long j10), .second, .val (.long j12), .second, .val (.long j14), .second, .val (.long j16), .second, .val (.long j18), .second, .val (.ref o20), .val (.int i21), .val (.int k0)] [(.int k0), (.int i21)])) _
      refine XS.icmpNo X0.here hx rfl (hb hby at_86) rfl (teq hc86_3).2 kt
    refine own_step (T' := T0) (f' := (mkF m 94 #[.val (.long j0), .second, .val (.long j2), .second, .val (.long j4), .second, .val (.long j6), .second, .val (.long j8), .second, .val (.long j10), .second, .val (.long j12), .second, .val (.long j14), .second, .val (.long j16), .second, .val (.long j18), .second, .val (.ref o20), .val (.int i21), .val (.int k0)] [(.int (1 : Int32))])) (fun t kt => ?_) ?_
    · show Steps p.tables e below (T0.setTop (mkF m 89 #[.val (.long j0), .second, .val (.long j2), .second, .val (.long j4), .second, .val (.long j6), .second, .val (.long j8), .second, .val (.long j10), .second, .val (.long j12), .second, .val (.long j14), .second, .val (.long j16), .second, .val (.long j18), .second, .val (.ref o20), .val (.int i21), .val (.int k0)] [])) _
      refine XS.iconst X0.here hx rfl (hb hby at_89) ?_
      show Steps p.tables e below (T0.setTop (mkF m 90 #[.val (.long j0), .second, .val (.long j2), .second, .val (.long j4), .second, .val (.long j6), .second, .val (.long j8), .second, .val (.long j10), .second, .val (.long j12), .second, .val (.long j14), .second, .val (.long j16), .second, .val (.long j18), .second, .val (.ref o20), .val (.int i21), .val (.int k0)] [(.int (1 : Int32))])) _
      refine XS.goto X0.here hx rfl (pc0 := 90) (pc' := 94) rfl (hb hby at_90) (by decide) (by decide) ?_
      exact kt
    exact own_retZ X0 hx hret (by simp) hlk (hb hby at_94) (by decide) (by decide) ⟨congrArg (fun z => some (Value.int z)) hr.symm, N0⟩
  · rw [if_neg hc86_3] at hr
    refine own_step (T' := T0) (f' := (mkF m 93 #[.val (.long j0), .second, .val (.long j2), .second, .val (.long j4), .second, .val (.long j6), .second, .val (.long j8), .second, .val (.long j10), .second, .val (.long j12), .second, .val (.long j14), .second, .val (.long j16), .second, .val (.long j18), .second, .val (.ref o20), .val (.int i21), .val (.int k0)] [])) (fun t kt => ?_) ?_
    · show Steps p.tables e below (T0.setTop (mkF m 86 #[.val (.long j0), .second, .val (.long j2), .second, .val (.long j4), .second, .val (.long j6), .second, .val (.long j8), .second, .val (.long j10), .second, .val (.long j12), .second, .val (.long j14), .second, .val (.long j16), .second, .val (.long j18), .second, .val (.ref o20), .val (.int i21), .val (.int k0)] [(.int k0), (.int i21)])) _
      refine XS.icmpYes X0.here hx rfl (pc0 := 86) (pc' := 93) rfl (hb hby at_86) rfl (feq hc86_3).2 (by decide) (by decide) kt
    refine own_step (T' := T0) (f' := (mkF m 94 #[.val (.long j0), .second, .val (.long j2), .second, .val (.long j4), .second, .val (.long j6), .second, .val (.long j8), .second, .val (.long j10), .second, .val (.long j12), .second, .val (.long j14), .second, .val (.long j16), .second, .val (.long j18), .second, .val (.ref o20), .val (.int i21), .val (.int k0)] [(.int (0 : Int32))])) (fun t kt => ?_) ?_
    · show Steps p.tables e below (T0.setTop (mkF m 93 #[.val (.long j0), .second, .val (.long j2), .second, .val (.long j4), .second, .val (.long j6), .second, .val (.long j8), .second, .val (.long j10), .second, .val (.long j12), .second, .val (.long j14), .second, .val (.long j16), .second, .val (.long j18), .second, .val (.ref o20), .val (.int i21), .val (.int k0)] [])) _
      refine XS.iconst X0.here hx rfl (hb hby at_93) ?_
      exact kt
    exact own_retZ X0 hx hret (by simp) hlk (hb hby at_94) (by decide) (by decide) ⟨congrArg (fun z => some (Value.int z)) hr.symm, N0⟩
def f0_79 (i21 : Int32) : Int32 :=
  f0_80 i21 (0 : Int32)
set_option maxRecDepth 65536 in
set_option maxHeartbeats 4000000 in
theorem b0_79 {p : Program} {l : Launch} {e : Env} {s : State} {m : MethodId} {args : Array Value} {below : List Frame} {meth : Method} {c : Code} {T0 : State} {locs : List Loc} {Z : State} {a0 : Array Value} {h0 : Heap} {n0 : Nat} (j0 : Int64) (j2 : Int64) (j4 : Int64) (j6 : Int64) (j8 : Int64) (j10 : Int64) (j12 : Int64) (j14 : Int64) (j16 : Int64) (j18 : Int64) (o20 : Addr) (i21 : Int32) {r : Int32} (X0 : Stand p l e room_1 s m args below meth c T0 locs 1 4) (hx : p.tables.exec = Jvm.exec) (hZ : Z.Warmed39 s.vm) (hw : ∀ d ∈ tables_1, d.before a0 Z = true) (hby : c.code = code) (hml : c.maxLocals = 23) (hown : s.vm.findClass "dev/lodestore/ConsumeQueueHoldsPinLaw" = some m.cls) (hret : meth.sig.returnType = some .boolean) (hlk : meth.locks = false) (e0 : T0.heap = h0) (N0 : Fr n0 locs) (Z0 : n0 ≤ h0.size) (hr : r = f0_79 i21) :
    own_Ends p e below s 16 128 (own_R (.int r) n0) T0 (mkF m 79 #[.val (.long j0), .second, .val (.long j2), .second, .val (.long j4), .second, .val (.long j6), .second, .val (.long j8), .second, .val (.long j10), .second, .val (.long j12), .second, .val (.long j14), .second, .val (.long j16), .second, .val (.long j18), .second, .val (.ref o20), .val (.int i21), .unset] []) := by
  unfold f0_79 at hr
  refine own_step (T' := T0) (f' := (mkF m 80 #[.val (.long j0), .second, .val (.long j2), .second, .val (.long j4), .second, .val (.long j6), .second, .val (.long j8), .second, .val (.long j10), .second, .val (.long j12), .second, .val (.long j14), .second, .val (.long j16), .second, .val (.long j18), .second, .val (.ref o20), .val (.int i21), .unset] [(.int (0 : Int32))])) (fun t kt => ?_) ?_
  · show Steps p.tables e below (T0.setTop (mkF m 79 #[.val (.long j0), .second, .val (.long j2), .second, .val (.long j4), .second, .val (.long j6), .second, .val (.long j8), .second, .val (.long j10), .second, .val (.long j12), .second, .val (.long j14), .second, .val (.long j16), .second, .val (.long j18), .second, .val (.ref o20), .val (.int i21), .unset] [])) _
    refine XS.iconst X0.here hx rfl (hb hby at_79) ?_
    exact kt
  exact b0_80 j0 j2 j4 j6 j8 j10 j12 j14 j16 j18 o20 i21 (0 : Int32) X0 hx hZ hw hby hml hown hret hlk e0 N0 Z0 hr
def f0_0 (q0 : Int64) (q1 : Int64) (q2 : Int64) (q3 : Int64) (q4 : Int64) (q5 : Int64) : Int32 :=
  if (f5_0 (q0 + q2) q0 (q0 + q1)) = (0 : Int32) then (f0_79 (f4_0 (q0 + q2) (q3 + q5) q0 (q0 + q1) q3 (q3 + q4))) else (if (f5_0 (q3 + q5) q3 (q3 + q4)) = (0 : Int32) then (f0_79 (f4_0 (q0 + q2) (q3 + q5) q0 (q0 + q1) q3 (q3 + q4))) else (f0_80 (f4_0 (q0 + q2) (q3 + q5) q0 (q0 + q1) q3 (q3 + q4)) (1 : Int32)))
set_option maxRecDepth 65536 in
set_option maxHeartbeats 4000000 in
theorem b0_0 {p : Program} {l : Launch} {e : Env} {s : State} {m : MethodId} {args : Array Value} {below : List Frame} {meth : Method} {c : Code} {T0 : State} {locs : List Loc} {Z : State} {a0 : Array Value} {h0 : Heap} {n0 : Nat} (q0 : Int64) (q1 : Int64) (q2 : Int64) (q3 : Int64) (q4 : Int64) (q5 : Int64) {r : Int32} (X0 : Stand p l e room_1 s m args below meth c T0 locs 0 0) (hx : p.tables.exec = Jvm.exec) (hZ : Z.Warmed39 s.vm) (hw : ∀ d ∈ tables_1, d.before a0 Z = true) (hby : c.code = code) (hml : c.maxLocals = 23) (hown : s.vm.findClass "dev/lodestore/ConsumeQueueHoldsPinLaw" = some m.cls) (hret : meth.sig.returnType = some .boolean) (hlk : meth.locks = false) (e0 : T0.heap = h0) (N0 : Fr n0 locs) (Z0 : n0 ≤ h0.size) (hr : r = f0_0 q0 q1 q2 q3 q4 q5) :
    own_Ends p e below s 16 128 (own_R (.int r) n0) T0 (mkF m 0 #[.val (.long q0), .second, .val (.long q1), .second, .val (.long q2), .second, .val (.long q3), .second, .val (.long q4), .second, .val (.long q5), .second, .unset, .unset, .unset, .unset, .unset, .unset, .unset, .unset, .unset, .unset, .unset] []) := by
  unfold f0_0 at hr
  refine own_step (T' := T0) (f' := (mkF m 25 #[.val (.long q0), .second, .val (.long q1), .second, .val (.long q2), .second, .val (.long q3), .second, .val (.long q4), .second, .val (.long q5), .second, .val (.long (q0 + q1)), .second, .val (.long (q0 + q2)), .second, .val (.long (q3 + q4)), .second, .val (.long (q3 + q5)), .second, .unset, .unset, .unset] [])) (fun t kt => ?_) ?_
  · show Steps p.tables e below (T0.setTop (mkF m 0 #[.val (.long q0), .second, .val (.long q1), .second, .val (.long q2), .second, .val (.long q3), .second, .val (.long q4), .second, .val (.long q5), .second, .unset, .unset, .unset, .unset, .unset, .unset, .unset, .unset, .unset, .unset, .unset] [])) _
    refine XS.lloadN X0.here hx rfl (hb hby at_0) rfl ?_
    show Steps p.tables e below (T0.setTop (mkF m 1 #[.val (.long q0), .second, .val (.long q1), .second, .val (.long q2), .second, .val (.long q3), .second, .val (.long q4), .second, .val (.long q5), .second, .unset, .unset, .unset, .unset, .unset, .unset, .unset, .unset, .unset, .unset, .unset] [(.long q0)])) _
    refine XS.lloadN X0.here hx rfl (hb hby at_1) rfl ?_
    show Steps p.tables e below (T0.setTop (mkF m 2 #[.val (.long q0), .second, .val (.long q1), .second, .val (.long q2), .second, .val (.long q3), .second, .val (.long q4), .second, .val (.long q5), .second, .unset, .unset, .unset, .unset, .unset, .unset, .unset, .unset, .unset, .unset, .unset] [(.long q1), (.long q0)])) _
    refine XS.ladd X0.here hx rfl (hb hby at_2) rfl ?_
    show Steps p.tables e below (T0.setTop (mkF m 3 #[.val (.long q0), .second, .val (.long q1), .second, .val (.long q2), .second, .val (.long q3), .second, .val (.long q4), .second, .val (.long q5), .second, .unset, .unset, .unset, .unset, .unset, .unset, .unset, .unset, .unset, .unset, .unset] [(.long (q0 + q1))])) _
    refine XS.lstore X0.here hx rfl (hb hby at_3) rfl (l' := #[.val (.long q0), .second, .val (.long q1), .second, .val (.long q2), .second, .val (.long q3), .second, .val (.long q4), .second, .val (.long q5), .second, .val (.long (q0 + q1)), .second, .unset, .unset, .unset, .unset, .unset, .unset, .unset, .unset, .unset]) rfl ?_
    show Steps p.tables e below (T0.setTop (mkF m 5 #[.val (.long q0), .second, .val (.long q1), .second, .val (.long q2), .second, .val (.long q3), .second, .val (.long q4), .second, .val (.long q5), .second, .val (.long (q0 + q1)), .second, .unset, .unset, .unset, .unset, .unset, .unset, .unset, .unset, .unset] [])) _
    refine XS.lloadN X0.here hx rfl (hb hby at_5) rfl ?_
    show Steps p.tables e below (T0.setTop (mkF m 6 #[.val (.long q0), .second, .val (.long q1), .second, .val (.long q2), .second, .val (.long q3), .second, .val (.long q4), .second, .val (.long q5), .second, .val (.long (q0 + q1)), .second, .unset, .unset, .unset, .unset, .unset, .unset, .unset, .unset, .unset] [(.long q0)])) _
    refine XS.lload X0.here hx rfl (hb hby at_6) rfl ?_
    show Steps p.tables e below (T0.setTop (mkF m 8 #[.val (.long q0), .second, .val (.long q1), .second, .val (.long q2), .second, .val (.long q3), .second, .val (.long q4), .second, .val (.long q5), .second, .val (.long (q0 + q1)), .second, .unset, .unset, .unset, .unset, .unset, .unset, .unset, .unset, .unset] [(.long q2), (.long q0)])) _
    refine XS.ladd X0.here hx rfl (hb hby at_8) rfl ?_
    show Steps p.tables e below (T0.setTop (mkF m 9 #[.val (.long q0), .second, .val (.long q1), .second, .val (.long q2), .second, .val (.long q3), .second, .val (.long q4), .second, .val (.long q5), .second, .val (.long (q0 + q1)), .second, .unset, .unset, .unset, .unset, .unset, .unset, .unset, .unset, .unset] [(.long (q0 + q2))])) _
    refine XS.lstore X0.here hx rfl (hb hby at_9) rfl (l' := #[.val (.long q0), .second, .val (.long q1), .second, .val (.long q2), .second, .val (.long q3), .second, .val (.long q4), .second, .val (.long q5), .second, .val (.long (q0 + q1)), .second, .val (.long (q0 + q2)), .second, .unset, .unset, .unset, .unset, .unset, .unset, .unset]) rfl ?_
    show Steps p.tables e below (T0.setTop (mkF m 11 #[.val (.long q0), .second, .val (.long q1), .second, .val (.long q2), .second, .val (.long q3), .second, .val (.long q4), .second, .val (.long q5), .second, .val (.long (q0 + q1)), .second, .val (.long (q0 + q2)), .second, .unset, .unset, .unset, .unset, .unset, .unset, .unset] [])) _
    refine XS.lload X0.here hx rfl (hb hby at_11) rfl ?_
    show Steps p.tables e below (T0.setTop (mkF m 13 #[.val (.long q0), .second, .val (.long q1), .second, .val (.long q2), .second, .val (.long q3), .second, .val (.long q4), .second, .val (.long q5), .second, .val (.long (q0 + q1)), .second, .val (.long (q0 + q2)), .second, .unset, .unset, .unset, .unset, .unset, .unset, .unset] [(.long q3)])) _
    refine XS.lload X0.here hx rfl (hb hby at_13) rfl ?_
    show Steps p.tables e below (T0.setTop (mkF m 15 #[.val (.long q0), .second, .val (.long q1), .second, .val (.long q2), .second, .val (.long q3), .second, .val (.long q4), .second, .val (.long q5), .second, .val (.long (q0 + q1)), .second, .val (.long (q0 + q2)), .second, .unset, .unset, .unset, .unset, .unset, .unset, .unset] [(.long q4), (.long q3)])) _
    refine XS.ladd X0.here hx rfl (hb hby at_15) rfl ?_
    show Steps p.tables e below (T0.setTop (mkF m 16 #[.val (.long q0), .second, .val (.long q1), .second, .val (.long q2), .second, .val (.long q3), .second, .val (.long q4), .second, .val (.long q5), .second, .val (.long (q0 + q1)), .second, .val (.long (q0 + q2)), .second, .unset, .unset, .unset, .unset, .unset, .unset, .unset] [(.long (q3 + q4))])) _
    refine XS.lstore X0.here hx rfl (hb hby at_16) rfl (l' := #[.val (.long q0), .second, .val (.long q1), .second, .val (.long q2), .second, .val (.long q3), .second, .val (.long q4), .second, .val (.long q5), .second, .val (.long (q0 + q1)), .second, .val (.long (q0 + q2)), .second, .val (.long (q3 + q4)), .second, .unset, .unset, .unset, .unset, .unset]) rfl ?_
    show Steps p.tables e below (T0.setTop (mkF m 18 #[.val (.long q0), .second, .val (.long q1), .second, .val (.long q2), .second, .val (.long q3), .second, .val (.long q4), .second, .val (.long q5), .second, .val (.long (q0 + q1)), .second, .val (.long (q0 + q2)), .second, .val (.long (q3 + q4)), .second, .unset, .unset, .unset, .unset, .unset] [])) _
    refine XS.lload X0.here hx rfl (hb hby at_18) rfl ?_
    show Steps p.tables e below (T0.setTop (mkF m 20 #[.val (.long q0), .second, .val (.long q1), .second, .val (.long q2), .second, .val (.long q3), .second, .val (.long q4), .second, .val (.long q5), .second, .val (.long (q0 + q1)), .second, .val (.long (q0 + q2)), .second, .val (.long (q3 + q4)), .second, .unset, .unset, .unset, .unset, .unset] [(.long q3)])) _
    refine XS.lload X0.here hx rfl (hb hby at_20) rfl ?_
    show Steps p.tables e below (T0.setTop (mkF m 22 #[.val (.long q0), .second, .val (.long q1), .second, .val (.long q2), .second, .val (.long q3), .second, .val (.long q4), .second, .val (.long q5), .second, .val (.long (q0 + q1)), .second, .val (.long (q0 + q2)), .second, .val (.long (q3 + q4)), .second, .unset, .unset, .unset, .unset, .unset] [(.long q5), (.long q3)])) _
    refine XS.ladd X0.here hx rfl (hb hby at_22) rfl ?_
    show Steps p.tables e below (T0.setTop (mkF m 23 #[.val (.long q0), .second, .val (.long q1), .second, .val (.long q2), .second, .val (.long q3), .second, .val (.long q4), .second, .val (.long q5), .second, .val (.long (q0 + q1)), .second, .val (.long (q0 + q2)), .second, .val (.long (q3 + q4)), .second, .unset, .unset, .unset, .unset, .unset] [(.long (q3 + q5))])) _
    refine XS.lstore X0.here hx rfl (hb hby at_23) rfl (l' := #[.val (.long q0), .second, .val (.long q1), .second, .val (.long q2), .second, .val (.long q3), .second, .val (.long q4), .second, .val (.long q5), .second, .val (.long (q0 + q1)), .second, .val (.long (q0 + q2)), .second, .val (.long (q3 + q4)), .second, .val (.long (q3 + q5)), .second, .unset, .unset, .unset]) rfl ?_
    exact kt
  obtain ⟨Tn, hn, Xn, en, En, An, Dn, -, stn⟩ := newO X0 hx hZ hown (hw _ (List.mem_of_getElem? (i := 0) rfl)) (hw _ (List.mem_of_getElem? (i := 1) rfl)) (hw _ (List.mem_of_getElem? (i := 2) rfl)) e0 (g := (mkF m 25 #[.val (.long q0), .second, .val (.long q1), .second, .val (.long q2), .second, .val (.long q3), .second, .val (.long q4), .second, .val (.long q5), .second, .val (.long (q0 + q1)), .second, .val (.long (q0 + q2)), .second, .val (.long (q3 + q4)), .second, .val (.long (q3 + q5)), .second, .unset, .unset, .unset] [])) rfl (hb hby at_25) (by decide) (by decide)
  obtain ⟨bn, gn⟩ : ∃ z, z = h0.size := ⟨_, rfl⟩
  rw [← gn] at An Dn stn
  have F_from : Fld Z hn bn "dev/lodestore/ConsumeQueue$Lost" "from" "J" (.long (0 : Int64)) := Dn (Or.inr (hw _ (List.mem_of_getElem? (i := 15) rfl))) (ty := .long) (by decide)
  have F_until : Fld Z hn bn "dev/lodestore/ConsumeQueue$Lost" "until" "J" (.long (0 : Int64)) := Dn (Or.inr (hw _ (List.mem_of_getElem? (i := 17) rfl))) (ty := .long) (by decide)
  have F_messagesFrom : Fld Z hn bn "dev/lodestore/ConsumeQueue$Lost" "messagesFrom" "J" (.long (0 : Int64)) := Dn (Or.inr (hw _ (List.mem_of_getElem? (i := 19) rfl))) (ty := .long) (by decide)
  have F_messagesUntil : Fld Z hn bn "dev/lodestore/ConsumeQueue$Lost" "messagesUntil" "J" (.long (0 : Int64)) := Dn (Or.inr (hw _ (List.mem_of_getElem? (i := 21) rfl))) (ty := .long) (by decide)
  have Zn : n0 ≤ hn.size := Nat.le_trans Z0 En.1
  have gbn : n0 ≤ bn := Nat.le_trans Z0 (Nat.le_of_eq gn.symm)
  refine own_step (T' := Tn) (f' := (mkF m 28 #[.val (.long q0), .second, .val (.long q1), .second, .val (.long q2), .second, .val (.long q3), .second, .val (.long q4), .second, .val (.long q5), .second, .val (.long (q0 + q1)), .second, .val (.long (q0 + q2)), .second, .val (.long (q3 + q4)), .second, .val (.long (q3 + q5)), .second, .unset, .unset, .unset] [(.ref bn)])) stn ?_
  refine own_step (T' := Tn) (f' := (mkF m 36 #[.val (.long q0), .second, .val (.long q1), .second, .val (.long q2), .second, .val (.long q3), .second, .val (.long q4), .second, .val (.long q5), .second, .val (.long (q0 + q1)), .second, .val (.long (q0 + q2)), .second, .val (.long (q3 + q4)), .second, .val (.long (q3 + q5)), .second, .unset, .unset, .unset] [(.long (q3 + q4)), (.long q3), (.long (q0 + q1)), (.long q0), (.ref bn), (.ref bn)])) (fun t kt => ?_) ?_
  · show Steps p.tables e below (Tn.setTop (mkF m 28 #[.val (.long q0), .second, .val (.long q1), .second, .val (.long q2), .second, .val (.long q3), .second, .val (.long q4), .second, .val (.long q5), .second, .val (.long (q0 + q1)), .second, .val (.long (q0 + q2)), .second, .val (.long (q3 + q4)), .second, .val (.long (q3 + q5)), .second, .unset, .unset, .unset] [(.ref bn)])) _
    refine XS.dup Xn.here hx rfl (hb hby at_28) rfl rfl ?_
    show Steps p.tables e below (Tn.setTop (mkF m 29 #[.val (.long q0), .second, .val (.long q1), .second, .val (.long q2), .second, .val (.long q3), .second, .val (.long q4), .second, .val (.long q5), .second, .val (.long (q0 + q1)), .second, .val (.long (q0 + q2)), .second, .val (.long (q3 + q4)), .second, .val (.long (q3 + q5)), .second, .unset, .unset, .unset] [(.ref bn), (.ref bn)])) _
    refine XS.lloadN Xn.here hx rfl (hb hby at_29) rfl ?_
    show Steps p.tables e below (Tn.setTop (mkF m 30 #[.val (.long q0), .second, .val (.long q1), .second, .val (.long q2), .second, .val (.long q3), .second, .val (.long q4), .second, .val (.long q5), .second, .val (.long (q0 + q1)), .second, .val (.long (q0 + q2)), .second, .val (.long (q3 + q4)), .second, .val (.long (q3 + q5)), .second, .unset, .unset, .unset] [(.long q0), (.ref bn), (.ref bn)])) _
    refine XS.lload Xn.here hx rfl (hb hby at_30) rfl ?_
    show Steps p.tables e below (Tn.setTop (mkF m 32 #[.val (.long q0), .second, .val (.long q1), .second, .val (.long q2), .second, .val (.long q3), .second, .val (.long q4), .second, .val (.long q5), .second, .val (.long (q0 + q1)), .second, .val (.long (q0 + q2)), .second, .val (.long (q3 + q4)), .second, .val (.long (q3 + q5)), .second, .unset, .unset, .unset] [(.long (q0 + q1)), (.long q0), (.ref bn), (.ref bn)])) _
    refine XS.lload Xn.here hx rfl (hb hby at_32) rfl ?_
    show Steps p.tables e below (Tn.setTop (mkF m 34 #[.val (.long q0), .second, .val (.long q1), .second, .val (.long q2), .second, .val (.long q3), .second, .val (.long q4), .second, .val (.long q5), .second, .val (.long (q0 + q1)), .second, .val (.long (q0 + q2)), .second, .val (.long (q3 + q4)), .second, .val (.long (q3 + q5)), .second, .unset, .unset, .unset] [(.long q3), (.long (q0 + q1)), (.long q0), (.ref bn), (.ref bn)])) _
    refine XS.lload Xn.here hx rfl (hb hby at_34) rfl ?_
    exact kt
  obtain ⟨_, _, ⟨Ti, Li, ki, ni⟩, -, Xi, ⟨Lci, hQi, li, yi, zi⟩, sti⟩ := Xn.specialBack hx (y := (⟨"dev/lodestore/ConsumeQueue$Lost", "<init>", "(JJJJ)V"⟩ : MethodName)) rfl hown (mvT hZ (hw _ (List.mem_of_getElem? (i := 3) rfl))) (mvT hZ (hw _ (List.mem_of_getElem? (i := 4) rfl))) (mvT hZ (hw _ (List.mem_of_getElem? (i := 5) rfl))) (by decide) (backOf (W := 1) (rm1 l Z a0 hw [] bn q0 (q0 + q1) q3 (q3 + q4) (.long 0) (.long 0) (.long 0) (.long 0) hn n0 Zn An F_from gbn F_until F_messagesFrom F_messagesUntil) hZ (hw _ (List.mem_of_getElem? (i := 5) rfl)) (hw _ (List.mem_of_getElem? (i := 2) rfl)) (by decide) (by decide)) (g := (mkF m 36 #[.val (.long q0), .second, .val (.long q1), .second, .val (.long q2), .second, .val (.long q3), .second, .val (.long q4), .second, .val (.long q5), .second, .val (.long (q0 + q1)), .second, .val (.long (q0 + q2)), .second, .val (.long (q3 + q4)), .second, .val (.long (q3 + q5)), .second, .unset, .unset, .unset] [(.long (q3 + q4)), (.long q3), (.long (q0 + q1)), (.long q0), (.ref bn), (.ref bn)])) rfl (by rw [hml]; rfl) (Steps.refl _) (a := bn) (argsL := [(.long q0), (.long (q0 + q1)), (.long q3), (.long (q3 + q4))]) (rest := [(.ref bn)]) (lenOf pd1 rfl) rfl (by show 2 * 0 + _ ≤ _; exact Nat.le_of_eq rfl) (hb hby at_36) (fun _ _ => ⟨rfl, en, (by decide : 1 + 0 ≤ _), (by decide : 4 + 0 ≤ _)⟩)
  dsimp only [Pt.U, Pt.locs, Pt.cells, Pt.slots] at Xi li yi zi sti hQi
  subst li yi zi
  obtain ⟨rfl, Nqi, Zi, Ei, G1, G2, G3, G4⟩ := hQi
  have Ni := Fr.app N0 Nqi
  refine own_step (T' := Ti) (f' := (mkF m 39 #[.val (.long q0), .second, .val (.long q1), .second, .val (.long q2), .second, .val (.long q3), .second, .val (.long q4), .second, .val (.long q5), .second, .val (.long (q0 + q1)), .second, .val (.long (q0 + q2)), .second, .val (.long (q3 + q4)), .second, .val (.long (q3 + q5)), .second, .unset, .unset, .unset] [(.ref bn)])) (fun t k => sti.trans k) ?_
  refine own_step (T' := Ti) (f' := (mkF m 47 #[.val (.long q0), .second, .val (.long q1), .second, .val (.long q2), .second, .val (.long q3), .second, .val (.long q4), .second, .val (.long q5), .second, .val (.long (q0 + q1)), .second, .val (.long (q0 + q2)), .second, .val (.long (q3 + q4)), .second, .val (.long (q3 + q5)), .second, .val (.ref bn), .unset, .unset] [(.long (q3 + q5)), (.long (q0 + q2)), (.ref bn)])) (fun t kt => ?_) ?_
  · show Steps p.tables e below (Ti.setTop (mkF m 39 #[.val (.long q0), .second, .val (.long q1), .second, .val (.long q2), .second, .val (.long q3), .second, .val (.long q4), .second, .val (.long q5), .second, .val (.long (q0 + q1)), .second, .val (.long (q0 + q2)), .second, .val (.long (q3 + q4)), .second, .val (.long (q3 + q5)), .second, .unset, .unset, .unset] [(.ref bn)])) _
    refine XS.astore Xi.here hx rfl (hb hby at_39) rfl rfl (l' := #[.val (.long q0), .second, .val (.long q1), .second, .val (.long q2), .second, .val (.long q3), .second, .val (.long q4), .second, .val (.long q5), .second, .val (.long (q0 + q1)), .second, .val (.long (q0 + q2)), .second, .val (.long (q3 + q4)), .second, .val (.long (q3 + q5)), .second, .val (.ref bn), .unset, .unset]) rfl ?_
    show Steps p.tables e below (Ti.setTop (mkF m 41 #[.val (.long q0), .second, .val (.long q1), .second, .val (.long q2), .second, .val (.long q3), .second, .val (.long q4), .second, .val (.long q5), .second, .val (.long (q0 + q1)), .second, .val (.long (q0 + q2)), .second, .val (.long (q3 + q4)), .second, .val (.long (q3 + q5)), .second, .val (.ref bn), .unset, .unset] [])) _
    refine XS.aload Xi.here hx rfl (hb hby at_41) rfl rfl ?_
    show Steps p.tables e below (Ti.setTop (mkF m 43 #[.val (.long q0), .second, .val (.long q1), .second, .val (.long q2), .second, .val (.long q3), .second, .val (.long q4), .second, .val (.long q5), .second, .val (.long (q0 + q1)), .second, .val (.long (q0 + q2)), .second, .val (.long (q3 + q4)), .second, .val (.long (q3 + q5)), .second, .val (.ref bn), .unset, .unset] [(.ref bn)])) _
    refine XS.lload Xi.here hx rfl (hb hby at_43) rfl ?_
    show Steps p.tables e below (Ti.setTop (mkF m 45 #[.val (.long q0), .second, .val (.long q1), .second, .val (.long q2), .second, .val (.long q3), .second, .val (.long q4), .second, .val (.long q5), .second, .val (.long (q0 + q1)), .second, .val (.long (q0 + q2)), .second, .val (.long (q3 + q4)), .second, .val (.long (q3 + q5)), .second, .val (.ref bn), .unset, .unset] [(.long (q0 + q2)), (.ref bn)])) _
    refine XS.lload Xi.here hx rfl (hb hby at_45) rfl ?_
    exact kt
  obtain ⟨cq, kq, qa, qb, qc⟩ := isOf hZ rfl Ei
  obtain ⟨_, _, ⟨Th, Lh, kh, nh⟩, -, Xh, ⟨Lch, hQh, lh, yh, zh⟩, sth⟩ := Xi.virtualBack hx (y := (⟨"dev/lodestore/ConsumeQueue$Lost", "holds", "(JJ)Z"⟩ : MethodName)) (z := (⟨"dev/lodestore/ConsumeQueue$Lost", "holds", "(JJ)Z"⟩ : MethodName)) hown (mvT hZ (hw _ (List.mem_of_getElem? (i := 22) rfl))) (mvT hZ (hw _ (List.mem_of_getElem? (i := 23) rfl))) (notFace_of_selects (args := #[]) (mvT hZ (hw _ (List.mem_of_getElem? (i := 25) rfl)))) (mvT hZ (hw _ (List.mem_of_getElem? (i := 25) rfl))) (mvT hZ (hw _ (List.mem_of_getElem? (i := 24) rfl))) (by decide) (backOf (W := 0) (rm4 l Z a0 hw [] bn (q0 + q2) (q3 + q5) q0 (q0 + q1) q3 (q3 + q4) Ti.heap n0 G1 G2 G3 G4) hZ (hw _ (List.mem_of_getElem? (i := 26) rfl)) (hw _ (List.mem_of_getElem? (i := 2) rfl)) (by decide) (by decide)) qa qc (g := (mkF m 47 #[.val (.long q0), .second, .val (.long q1), .second, .val (.long q2), .second, .val (.long q3), .second, .val (.long q4), .second, .val (.long q5), .second, .val (.long (q0 + q1)), .second, .val (.long (q0 + q2)), .second, .val (.long (q3 + q4)), .second, .val (.long (q3 + q5)), .second, .val (.ref bn), .unset, .unset] [(.long (q3 + q5)), (.long (q0 + q2)), (.ref bn)])) rfl (by rw [hml]; rfl) (Steps.refl _) (argsL := [(.long (q0 + q2)), (.long (q3 + q5))]) (rest := []) (lenOf pd4 rfl) rfl (by show 2 * 0 + _ ≤ _; exact Nat.le_of_eq rfl) (hb hby at_47) (fun _ _ => ⟨rfl, rfl, (by decide : 1 + 0 ≤ _), (by decide : 4 + 0 ≤ _)⟩)
  dsimp only [Pt.U, Pt.locs, Pt.cells, Pt.slots] at Xh lh yh zh sth hQh
  subst lh yh zh
  obtain ⟨rfl, Nqh, eh⟩ := hQh
  have Nh := Fr.app Ni Nqh
  refine own_step (T' := Th) (f' := (mkF m 50 #[.val (.long q0), .second, .val (.long q1), .second, .val (.long q2), .second, .val (.long q3), .second, .val (.long q4), .second, .val (.long q5), .second, .val (.long (q0 + q1)), .second, .val (.long (q0 + q2)), .second, .val (.long (q3 + q4)), .second, .val (.long (q3 + q5)), .second, .val (.ref bn), .unset, .unset] [(.int (f4_0 (q0 + q2) (q3 + q5) q0 (q0 + q1) q3 (q3 + q4)))])) (fun t k => sth.trans k) ?_
  refine own_step (T' := Th) (f' := (mkF m 57 #[.val (.long q0), .second, .val (.long q1), .second, .val (.long q2), .second, .val (.long q3), .second, .val (.long q4), .second, .val (.long q5), .second, .val (.long (q0 + q1)), .second, .val (.long (q0 + q2)), .second, .val (.long (q3 + q4)), .second, .val (.long (q3 + q5)), .second, .val (.ref bn), .val (.int (f4_0 (q0 + q2) (q3 + q5) q0 (q0 + q1) q3 (q3 + q4))), .unset] [(.long (q0 + q1)), (.long q0), (.long (q0 + q2))])) (fun t kt => ?_) ?_
  · show Steps p.tables e below (Th.setTop (mkF m 50 #[.val (.long q0), .second, .val (.long q1), .second, .val (.long q2), .second, .val (.long q3), .second, .val (.long q4), .second, .val (.long q5), .second, .val (.long (q0 + q1)), .second, .val (.long (q0 + q2)), .second, .val (.long (q3 + q4)), .second, .val (.long (q3 + q5)), .second, .val (.ref bn), .unset, .unset] [(.int (f4_0 (q0 + q2) (q3 + q5) q0 (q0 + q1) q3 (q3 + q4)))])) _
    refine XS.istore Xh.here hx rfl (hb hby at_50) rfl (l' := #[.val (.long q0), .second, .val (.long q1), .second, .val (.long q2), .second, .val (.long q3), .second, .val (.long q4), .second, .val (.long q5), .second, .val (.long (q0 + q1)), .second, .val (.long (q0 + q2)), .second, .val (.long (q3 + q4)), .second, .val (.long (q3 + q5)), .second, .val (.ref bn), .val (.int (f4_0 (q0 + q2) (q3 + q5) q0 (q0 + q1) q3 (q3 + q4))), .unset]) rfl ?_
    show Steps p.tables e below (Th.setTop (mkF m 52 #[.val (.long q0), .second, .val (.long q1), .second, .val (.long q2), .second, .val (.long q3), .second, .val (.long q4), .second, .val (.long q5), .second, .val (.long (q0 + q1)), .second, .val (.long (q0 + q2)), .second, .val (.long (q3 + q4)), .second, .val (.long (q3 + q5)), .second, .val (.ref bn), .val (.int (f4_0 (q0 + q2) (q3 + q5) q0 (q0 + q1) q3 (q3 + q4))), .unset] [])) _
    refine XS.lload Xh.here hx rfl (hb hby at_52) rfl ?_
    show Steps p.tables e below (Th.setTop (mkF m 54 #[.val (.long q0), .second, .val (.long q1), .second, .val (.long q2), .second, .val (.long q3), .second, .val (.long q4), .second, .val (.long q5), .second, .val (.long (q0 + q1)), .second, .val (.long (q0 + q2)), .second, .val (.long (q3 + q4)), .second, .val (.long (q3 + q5)), .second, .val (.ref bn), .val (.int (f4_0 (q0 + q2) (q3 + q5) q0 (q0 + q1) q3 (q3 + q4))), .unset] [(.long (q0 + q2))])) _
    refine XS.lloadN Xh.here hx rfl (hb hby at_54) rfl ?_
    show Steps p.tables e below (Th.setTop (mkF m 55 #[.val (.long q0), .second, .val (.long q1), .second, .val (.long q2), .second, .val (.long q3), .second, .val (.long q4), .second, .val (.long q5), .second, .val (.long (q0 + q1)), .second, .val (.long (q0 + q2)), .second, .val (.long (q3 + q4)), .second, .val (.long (q3 + q5)), .second, .val (.ref bn), .val (.int (f4_0 (q0 + q2) (q3 + q5) q0 (q0 + q1) q3 (q3 + q4))), .unset] [(.long q0), (.long (q0 + q2))])) _
    refine XS.lload Xh.here hx rfl (hb hby at_55) rfl ?_
    exact kt
  obtain ⟨_, _, ⟨T1, L1, k1, n1⟩, -, X1, ⟨Lc1, hQ1, l1, y1, z1⟩, st1⟩ := Jvm.LawKit.callS Xh hx (y := (⟨"dev/lodestore/ConsumeQueueHoldsPinLaw", "inHalfOpen", "(JJJ)Z"⟩ : MethodName)) hown (mvT hZ (hw _ (List.mem_of_getElem? (i := 27) rfl))) (mvT hZ (hw _ (List.mem_of_getElem? (i := 28) rfl))) (mvT hZ (hw _ (List.mem_of_getElem? (i := 29) rfl))) (mvT hZ (hw _ (List.mem_of_getElem? (i := 30) rfl))) (by decide) (backOf (W := 0) (rm5 l Z a0 hw [] (q0 + q2) q0 (q0 + q1)  Ti.heap n0 ) hZ (hw _ (List.mem_of_getElem? (i := 30) rfl)) (hw _ (List.mem_of_getElem? (i := 29) rfl)) (by decide) (by decide)) (g := (mkF m 57 #[.val (.long q0), .second, .val (.long q1), .second, .val (.long q2), .second, .val (.long q3), .second, .val (.long q4), .second, .val (.long q5), .second, .val (.long (q0 + q1)), .second, .val (.long (q0 + q2)), .second, .val (.long (q3 + q4)), .second, .val (.long (q3 + q5)), .second, .val (.ref bn), .val (.int (f4_0 (q0 + q2) (q3 + q5) q0 (q0 + q1) q3 (q3 + q4))), .unset] [(.long (q0 + q1)), (.long q0), (.long (q0 + q2))])) rfl (by rw [hml]; rfl) (argsL := [(.long (q0 + q2)), (.long q0), (.long (q0 + q1))]) (rest := []) (lenOf pd5 rfl) rfl (by show 2 * 0 + _ ≤ _; exact Nat.le_of_eq rfl) (hb hby at_57) (fun _ _ => ⟨rfl, eh, (by decide : 1 + 0 ≤ _), (by decide : 4 + 0 ≤ _)⟩)
  dsimp only [Pt.U, Pt.locs, Pt.cells, Pt.slots] at X1 l1 y1 z1 st1 hQ1
  subst l1 y1 z1
  obtain ⟨rfl, Nq1, e1⟩ := hQ1
  have N1 := Fr.app Nh Nq1
  refine own_step (T' := T1) (f' := (mkF m 60 #[.val (.long q0), .second, .val (.long q1), .second, .val (.long q2), .second, .val (.long q3), .second, .val (.long q4), .second, .val (.long q5), .second, .val (.long (q0 + q1)), .second, .val (.long (q0 + q2)), .second, .val (.long (q3 + q4)), .second, .val (.long (q3 + q5)), .second, .val (.ref bn), .val (.int (f4_0 (q0 + q2) (q3 + q5) q0 (q0 + q1) q3 (q3 + q4))), .unset] [(.int (f5_0 (q0 + q2) q0 (q0 + q1)))])) st1 ?_
  by_cases hc60_2 : (f5_0 (q0 + q2) q0 (q0 + q1)) = (0 : Int32)
  · rw [if_pos hc60_2] at hr
    refine own_step (T' := T1) (f' := (mkF m 79 #[.val (.long q0), .second, .val (.long q1), .second, .val (.long q2), .second, .val (.long q3), .second, .val (.long q4), .second, .val (.long q5), .second, .val (.long (q0 + q1)), .second, .val (.long (q0 + q2)), .second, .val (.long (q3 + q4)), .second, .val (.long (q3 + q5)), .second, .val (.ref bn), .val (.int (f4_0 (q0 + q2) (q3 + q5) q0 (q0 + q1) q3 (q3 + q4))), .unset] [])) (fun t kt => ?_) ?_
    · show Steps p.tables e below (T1.setTop (mkF m 60 #[.val (.long q0), .second, .val (.long q1), .second, .val (.long q2), .second, .val (.long q3), .second, .val (.long q4), .second, .val (.long q5), .second, .val (.long (q0 + q1)), .second, .val (.long (q0 + q2)), .second, .val (.long (q3 + q4)), .second, .val (.long (q3 + q5)), .second, .val (.ref bn), .val (.int (f4_0 (q0 + q2) (q3 + q5) q0 (q0 + q1) q3 (q3 + q4))), .unset] [(.int (f5_0 (q0 + q2) q0 (q0 + q1)))])) _
      refine XS.ifYes X1.here hx rfl (pc0 := 60) (pc' := 79) rfl (hb hby at_60) rfl ((if0 _ _).trans (teq hc60_2).1) (by decide) (by decide) kt
    exact b0_79 q0 q1 q2 q3 q4 q5 (q0 + q1) (q0 + q2) (q3 + q4) (q3 + q5) bn (f4_0 (q0 + q2) (q3 + q5) q0 (q0 + q1) q3 (q3 + q4)) X1 hx hZ hw hby hml hown hret hlk e1 N1 Zi hr
  · rw [if_neg hc60_2] at hr
    refine own_step (T' := T1) (f' := (mkF m 63 #[.val (.long q0), .second, .val (.long q1), .second, .val (.long q2), .second, .val (.long q3), .second, .val (.long q4), .second, .val (.long q5), .second, .val (.long (q0 + q1)), .second, .val (.long (q0 + q2)), .second, .val (.long (q3 + q4)), .second, .val (.long (q3 + q5)), .second, .val (.ref bn), .val (.int (f4_0 (q0 + q2) (q3 + q5) q0 (q0 + q1) q3 (q3 + q4))), .unset] [])) (fun t kt => ?_) ?_
    · show Steps p.tables e below (T1.setTop (mkF m 60 #[.val (.long q0), .second, .val (.long q1), .second, .val (.long q2), .second, .val (.long q3), .second, .val (.long q4), .second, .val (.long q5), .second, .val (.long (q0 + q1)), .second, .val (.long (q0 + q2)), .second, .val (.long (q3 + q4)), .second, .val (.long (q3 + q5)), .second, .val (.ref bn), .val (.int (f4_0 (q0 + q2) (q3 + q5) q0 (q0 + q1) q3 (q3 + q4))), .unset] [(.int (f5_0 (q0 + q2) q0 (q0 + q1)))])) _
      refine XS.ifNo X1.here hx rfl (hb hby at_60) rfl ((if0 _ _).trans (feq hc60_2).1) kt
    refine own_step (T' := T1) (f' := (mkF m 69 #[.val (.long q0), .second, .val (.long q1), .second, .val (.long q2), .second, .val (.long q3), .second, .val (.long q4), .second, .val (.long q5), .second, .val (.long (q0 + q1)), .second, .val (.long (q0 + q2)), .second, .val (.long (q3 + q4)), .second, .val (.long (q3 + q5)), .second, .val (.ref bn), .val (.int (f4_0 (q0 + q2) (q3 + q5) q0 (q0 + q1) q3 (q3 + q4))), .unset] [(.long (q3 + q4)), (.long q3), (.long (q3 + q5))])) (fun t kt => ?_) ?_
    · show Steps p.tables e below (T1.setTop (mkF m 63 #[.val (.long q0), .second, .val (.long q1), .second, .val (.long q2), .second, .val (.long q3), .second, .val (.long q4), .second, .val (.long q5), .second, .val (.long (q0 + q1)), .second, .val (.long (q0 + q2)), .second, .val (.long (q3 + q4)), .second, .val (.long (q3 + q5)), .second, .val (.ref bn), .val (.int (f4_0 (q0 + q2) (q3 + q5) q0 (q0 + q1) q3 (q3 + q4))), .unset] [])) _
      refine XS.lload X1.here hx rfl (hb hby at_63) rfl ?_
      show Steps p.tables e below (T1.setTop (mkF m 65 #[.val (.long q0), .second, .val (.long q1), .second, .val (.long q2), .second, .val (.long q3), .second, .val (.long q4), .second, .val (.long q5), .second, .val (.long (q0 + q1)), .second, .val (.long (q0 + q2)), .second, .val (.long (q3 + q4)), .second, .val (.long (q3 + q5)), .second, .val (.ref bn), .val (.int (f4_0 (q0 + q2) (q3 + q5) q0 (q0 + q1) q3 (q3 + q4))), .unset] [(.long (q3 + q5))])) _
      refine XS.lload X1.here hx rfl (hb hby at_65) rfl ?_
      show Steps p.tables e below (T1.setTop (mkF m 67 #[.val (.long q0), .second, .val (.long q1), .second, .val (.long q2), .second, .val (.long q3), .second, .val (.long q4), .second, .val (.long q5), .second, .val (.long (q0 + q1)), .second, .val (.long (q0 + q2)), .second, .val (.long (q3 + q4)), .second, .val (.long (q3 + q5)), .second, .val (.ref bn), .val (.int (f4_0 (q0 + q2) (q3 + q5) q0 (q0 + q1) q3 (q3 + q4))), .unset] [(.long q3), (.long (q3 + q5))])) _
      refine XS.lload X1.here hx rfl (hb hby at_67) rfl ?_
      exact kt
    obtain ⟨_, _, ⟨T4, L4, k4, n4⟩, -, X4, ⟨Lc4, hQ4, l4, y4, z4⟩, st4⟩ := Jvm.LawKit.callS X1 hx (y := (⟨"dev/lodestore/ConsumeQueueHoldsPinLaw", "inHalfOpen", "(JJJ)Z"⟩ : MethodName)) hown (mvT hZ (hw _ (List.mem_of_getElem? (i := 27) rfl))) (mvT hZ (hw _ (List.mem_of_getElem? (i := 28) rfl))) (mvT hZ (hw _ (List.mem_of_getElem? (i := 29) rfl))) (mvT hZ (hw _ (List.mem_of_getElem? (i := 30) rfl))) (by decide) (backOf (W := 0) (rm5 l Z a0 hw [] (q3 + q5) q3 (q3 + q4)  Ti.heap n0 ) hZ (hw _ (List.mem_of_getElem? (i := 30) rfl)) (hw _ (List.mem_of_getElem? (i := 29) rfl)) (by decide) (by decide)) (g := (mkF m 69 #[.val (.long q0), .second, .val (.long q1), .second, .val (.long q2), .second, .val (.long q3), .second, .val (.long q4), .second, .val (.long q5), .second, .val (.long (q0 + q1)), .second, .val (.long (q0 + q2)), .second, .val (.long (q3 + q4)), .second, .val (.long (q3 + q5)), .second, .val (.ref bn), .val (.int (f4_0 (q0 + q2) (q3 + q5) q0 (q0 + q1) q3 (q3 + q4))), .unset] [(.long (q3 + q4)), (.long q3), (.long (q3 + q5))])) rfl (by rw [hml]; rfl) (argsL := [(.long (q3 + q5)), (.long q3), (.long (q3 + q4))]) (rest := []) (lenOf pd5 rfl) rfl (by show 2 * 0 + _ ≤ _; exact Nat.le_of_eq rfl) (hb hby at_69) (fun _ _ => ⟨rfl, e1, (by decide : 1 + 0 ≤ _), (by decide : 4 + 0 ≤ _)⟩)
    dsimp only [Pt.U, Pt.locs, Pt.cells, Pt.slots] at X4 l4 y4 z4 st4 hQ4
    subst l4 y4 z4
    obtain ⟨rfl, Nq4, e4⟩ := hQ4
    have N4 := Fr.app N1 Nq4
    refine own_step (T' := T4) (f' := (mkF m 72 #[.val (.long q0), .second, .val (.long q1), .second, .val (.long q2), .second, .val (.long q3), .second, .val (.long q4), .second, .val (.long q5), .second, .val (.long (q0 + q1)), .second, .val (.long (q0 + q2)), .second, .val (.long (q3 + q4)), .second, .val (.long (q3 + q5)), .second, .val (.ref bn), .val (.int (f4_0 (q0 + q2) (q3 + q5) q0 (q0 + q1) q3 (q3 + q4))), .unset] [(.int (f5_0 (q3 + q5) q3 (q3 + q4)))])) st4 ?_
    by_cases hc72_5 : (f5_0 (q3 + q5) q3 (q3 + q4)) = (0 : Int32)
    · rw [if_pos hc72_5] at hr
      refine own_step (T' := T4) (f' := (mkF m 79 #[.val (.long q0), .second, .val (.long q1), .second, .val (.long q2), .second, .val (.long q3), .second, .val (.long q4), .second, .val (.long q5), .second, .val (.long (q0 + q1)), .second, .val (.long (q0 + q2)), .second, .val (.long (q3 + q4)), .second, .val (.long (q3 + q5)), .second, .val (.ref bn), .val (.int (f4_0 (q0 + q2) (q3 + q5) q0 (q0 + q1) q3 (q3 + q4))), .unset] [])) (fun t kt => ?_) ?_
      · show Steps p.tables e below (T4.setTop (mkF m 72 #[.val (.long q0), .second, .val (.long q1), .second, .val (.long q2), .second, .val (.long q3), .second, .val (.long q4), .second, .val (.long q5), .second, .val (.long (q0 + q1)), .second, .val (.long (q0 + q2)), .second, .val (.long (q3 + q4)), .second, .val (.long (q3 + q5)), .second, .val (.ref bn), .val (.int (f4_0 (q0 + q2) (q3 + q5) q0 (q0 + q1) q3 (q3 + q4))), .unset] [(.int (f5_0 (q3 + q5) q3 (q3 + q4)))])) _
        refine XS.ifYes X4.here hx rfl (pc0 := 72) (pc' := 79) rfl (hb hby at_72) rfl ((if0 _ _).trans (teq hc72_5).1) (by decide) (by decide) kt
      exact b0_79 q0 q1 q2 q3 q4 q5 (q0 + q1) (q0 + q2) (q3 + q4) (q3 + q5) bn (f4_0 (q0 + q2) (q3 + q5) q0 (q0 + q1) q3 (q3 + q4)) X4 hx hZ hw hby hml hown hret hlk e4 N4 Zi hr
    · rw [if_neg hc72_5] at hr
      refine own_step (T' := T4) (f' := (mkF m 75 #[.val (.long q0), .second, .val (.long q1), .second, .val (.long q2), .second, .val (.long q3), .second, .val (.long q4), .second, .val (.long q5), .second, .val (.long (q0 + q1)), .second, .val (.long (q0 + q2)), .second, .val (.long (q3 + q4)), .second, .val (.long (q3 + q5)), .second, .val (.ref bn), .val (.int (f4_0 (q0 + q2) (q3 + q5) q0 (q0 + q1) q3 (q3 + q4))), .unset] [])) (fun t kt => ?_) ?_
      · show Steps p.tables e below (T4.setTop (mkF m 72 #[.val (.long q0), .second, .val (.long q1), .second, .val (.long q2), .second, .val (.long q3), .second, .val (.long q4), .second, .val (.long q5), .second, .val (.long (q0 + q1)), .second, .val (.long (q0 + q2)), .second, .val (.long (q3 + q4)), .second, .val (.long (q3 + q5)), .second, .val (.ref bn), .val (.int (f4_0 (q0 + q2) (q3 + q5) q0 (q0 + q1) q3 (q3 + q4))), .unset] [(.int (f5_0 (q3 + q5) q3 (q3 + q4)))])) _
        refine XS.ifNo X4.here hx rfl (hb hby at_72) rfl ((if0 _ _).trans (feq hc72_5).1) kt
      refine own_step (T' := T4) (f' := (mkF m 80 #[.val (.long q0), .second, .val (.long q1), .second, .val (.long q2), .second, .val (.long q3), .second, .val (.long q4), .second, .val (.long q5), .second, .val (.long (q0 + q1)), .second, .val (.long (q0 + q2)), .second, .val (.long (q3 + q4)), .second, .val (.long (q3 + q5)), .second, .val (.ref bn), .val (.int (f4_0 (q0 + q2) (q3 + q5) q0 (q0 + q1) q3 (q3 + q4))), .unset] [(.int (1 : Int32))])) (fun t kt => ?_) ?_
      · show Steps p.tables e below (T4.setTop (mkF m 75 #[.val (.long q0), .second, .val (.long q1), .second, .val (.long q2), .second, .val (.long q3), .second, .val (.long q4), .second, .val (.long q5), .second, .val (.long (q0 + q1)), .second, .val (.long (q0 + q2)), .second, .val (.long (q3 + q4)), .second, .val (.long (q3 + q5)), .second, .val (.ref bn), .val (.int (f4_0 (q0 + q2) (q3 + q5) q0 (q0 + q1) q3 (q3 + q4))), .unset] [])) _
        refine XS.iconst X4.here hx rfl (hb hby at_75) ?_
        show Steps p.tables e below (T4.setTop (mkF m 76 #[.val (.long q0), .second, .val (.long q1), .second, .val (.long q2), .second, .val (.long q3), .second, .val (.long q4), .second, .val (.long q5), .second, .val (.long (q0 + q1)), .second, .val (.long (q0 + q2)), .second, .val (.long (q3 + q4)), .second, .val (.long (q3 + q5)), .second, .val (.ref bn), .val (.int (f4_0 (q0 + q2) (q3 + q5) q0 (q0 + q1) q3 (q3 + q4))), .unset] [(.int (1 : Int32))])) _
        refine XS.goto X4.here hx rfl (pc0 := 76) (pc' := 80) rfl (hb hby at_76) (by decide) (by decide) ?_
        exact kt
      exact b0_80 q0 q1 q2 q3 q4 q5 (q0 + q1) (q0 + q2) (q3 + q4) (q3 + q5) bn (f4_0 (q0 + q2) (q3 + q5) q0 (q0 + q1) q3 (q3 + q4)) (1 : Int32) X4 hx hZ hw hby hml hown hret hlk e4 N4 Zi hr
set_option maxRecDepth 65536 in
set_option maxHeartbeats 4000000 in
theorem rm0 (l : Launch) (Z : State) (a0 : Array Value) (hw : ∀ d ∈ tables_1, d.before a0 Z = true) (ws : List Jvm.Cond) (q0 : Int64) (q1 : Int64) (q2 : Int64) (q3 : Int64) (q4 : Int64) (q5 : Int64) (h0 : Heap) (n0 : Nat) (Z0 : n0 ≤ h0.size) :
    MetFree l x (head1 (Jvm.Cond.code x code maxLocals ret :: ws) room_1) (fun a U => a = #[(.long q0), (.long q1), (.long q2), (.long q3), (.long q4), (.long q5)] ∧ Z.Warmed39 U.vm ∧ U.heap = h0) (fun _ _ _ _ _ => True) (fun _ U o U' => ∃ v L, o = .returned v ∧ (own_R (.int (f0_0 q0 q1 q2 q3 q4 q5)) n0) v U'.heap L ∧ FrameEnd U o U' L 16 128) := by
  refine MetFree.of_bodySF (plainFor_of_name pn0) hisR ?_
  intro p e s m args below meth c s₁ Bd hml0 hP hK
  obtain ⟨rfl, hZ, hh⟩ := hP
  have hown : s.vm.findClass "dev/lodestore/ConsumeQueueHoldsPinLaw" = some m.cls := findClass_of_methodNamed Bd.named
  have X0 : Stand p l e room_1 s m #[(.long q0), (.long q1), (.long q2), (.long q3), (.long q4), (.long q5)] below meth c s₁ [] 0 0 := Stand.of_body Bd
  have e0 : s₁.heap = h0 := by rw [← hh, Bd.state]; rfl
  show own_Ends p e below s 16 128 (own_R (.int (f0_0 q0 q1 q2 q3 q4 q5)) n0) s₁ (entryFrame m #[(.long q0), (.long q1), (.long q2), (.long q3), (.long q4), (.long q5)] maxLocals)
  refine own_step (fun t k => castTop (ef0 m q0 q1 q2 q3 q4 q5) k) ?_
  exact b0_0 q0 q1 q2 q3 q4 q5 X0 Bd.exec hZ hw Bd.bytes hml0 hown Bd.returns (BodyLoose.notSynchronized Bd) e0 (Fr.nil n0) Z0 rfl
theorem own_io (x lo hi : Int64) : f5_0 x lo hi = if x < lo then 0 else if x < hi then 1 else 0 := by
  have n1 : x < lo → ¬ lo = x := fun h q => by subst q; exact Int64.lt_irrefl h
  have n2 : x < hi → ¬ x = hi := fun h q => by subst q; exact Int64.lt_irrefl h
  have n3 : x < hi → ¬ hi < x := fun h q => by rw [Int64.lt_iff_toInt_lt] at h q; omega
  have n4 : ¬ x < hi → ¬ x = hi → hi < x := fun h q => by rw [Int64.lt_iff_toInt_lt] at h ⊢; rw [← Int64.toInt_inj] at q; omega
  have n5 : hi < x → ¬ hi = x := fun h q => by subst q; exact Int64.lt_irrefl h
  unfold f5_0 f5_15 f5_33 f5_56 f6_0 f7_0
  by_cases h1 : x < lo
  · simp [h1, n1 h1]
  · by_cases h2 : x < hi
    · simp [h1, h2, n2 h2, n3 h2]
    · by_cases h3 : x = hi
      · simp [h1, h2, h3]
      · simp [h1, h2, h3, n4 h2 h3, n5 (n4 h2 h3)]
theorem law_true (q0 q1 q2 q3 q4 q5 : Int64) : f0_0 q0 q1 q2 q3 q4 q5 = 1 := by
  unfold f0_0 f0_79 f0_80 f4_0 f4_40
  rw [own_io, own_io]
  by_cases h1 : q0 + q2 < q0
  · simp [h1]
  · by_cases h2 : q0 + q2 < q0 + q1
    · by_cases h3 : q3 + q5 < q3
      · simp [h1, h2, h3]
      · by_cases h4 : q3 + q5 < q3 + q4
        · simp [h1, h2, h3, h4]
        · simp [h1, h2, h3, h4]
    · simp [h1, h2]

set_option maxRecDepth 65536 in
set_option maxHeartbeats 4000000 in
theorem comes_1 {Post : Tables → Env → Array Value → State → Outcome → State → Prop} (hpost : ∀ tb e args s v u, (limb_1_1.after args s (.returned v) u = true ∧ limb_1_2.after args s (.returned v) u = true ∧ True) → FrameEnd s (.returned v) u (Jvm.fieldLocs frame_1_writes args s ++ Jvm.arrayLocs frame_1_arrays args s ++ Jvm.staticLocs frame_1_statics s) 16 128 → Post tb e args s (.returned v) u) :
    ArmFor flags0 classFile x code maxLocals ret World_1 tables_1 room_1 Calls_1 rest_1 Pre_1 Post := by
  intro l hfl _ _ p e ha hc hk s m args below hf hA hF happ hP
  obtain ⟨hcalls, hrest, hpre⟩ := hP
  obtain ⟨-, -, -, hnamed, -, -, -, hat⟩ := (Spec.applies_iff hf).mp happ
  obtain ⟨hg, hn⟩ := and_e (Cond.before_iff.mp (show (Jvm.Cond.and given_1 narrow_1).before args s = true from hpre))
  obtain ⟨g1, g2⟩ := and_e hg
  obtain ⟨ga0, gb0⟩ := and_e g2
  obtain ⟨ga1, gb1⟩ := and_e gb0
  obtain ⟨ga2, gb2⟩ := and_e gb1
  obtain ⟨ga3, gb3⟩ := and_e gb2
  obtain ⟨ga4, gb4⟩ := and_e gb3
  obtain ⟨w0, w1, w2, w3, w4, w5, rfl⟩ : ∃ w0 w1 w2 w3 w4 w5 : Value, args = #[w0, w1, w2, w3, w4, w5] := by
    have hs : args.size = 6 := by simpa [Cond.value, given_1] using g1
    obtain ⟨L⟩ := args
    match L, hs with
    | [w0, w1, w2, w3, w4, w5], _ => exact ⟨w0, w1, w2, w3, w4, w5, rfl⟩
  have hw := fun d (hd : d ∈ tables_1) => atoms_spec (ws := Jvm.Cond.code x code maxLocals ret :: tables_1) hat d (List.mem_cons_of_mem _ hd)
  obtain ⟨i0, ei0⟩ := isL_v ga0
  obtain rfl : w0 = (.long i0) := Option.some.inj ei0
  obtain ⟨i1, ei1⟩ := isL_v ga1
  obtain rfl : w1 = (.long i1) := Option.some.inj ei1
  obtain ⟨i2, ei2⟩ := isL_v ga2
  obtain rfl : w2 = (.long i2) := Option.some.inj ei2
  obtain ⟨i3, ei3⟩ := isL_v ga3
  obtain rfl : w3 = (.long i3) := Option.some.inj ei3
  obtain ⟨i4, ei4⟩ := isL_v ga4
  obtain rfl : w4 = (.long i4) := Option.some.inj ei4
  obtain ⟨i5, ei5⟩ := isL_v gb4
  obtain rfl : w5 = (.long i5) := Option.some.inj ei5
  obtain ⟨n, o, h1, h2, h3, _, L, rfl, ⟨rfl, N⟩, hq⟩ := rm0 l s _ hw tables_1 i0 i1 i2 i3 i4 i5 s.heap s.heap.size (Nat.le_refl _) p e ha hc hk s m _ below hf ((Spec.applies_iff_loose hf).mp happ).1 ⟨rfl, State.Warmed39.refl s, rfl⟩ trivial
  rw [law_true] at *
  refine ⟨n, _, h1, h2, h3, hpost _ _ _ _ _ _ ⟨Cond.after_iff.mpr rfl, Cond.after_iff.mpr (eq_i res_at (Term.int_eval (1)) rfl), trivial⟩ ⟨hq.1, hq.2.1, (hq.2.2.sift fun y hy => Or.inr (N y hy)).mono (by decide) (by decide)⟩⟩
theorem main_1_1 : Claimed_1_1 := comes_1 fun _ _ _ _ _ _ h hF => ⟨h.1, hF⟩
theorem main_1_2 : Claimed_1_2 := comes_1 fun _ _ _ _ _ _ h hF => ⟨h.2.1, hF⟩
end Jvm.Pilot.@@N@@
namespace Jvm.Pilot.@@N@@
open Jvm Jvm.ClassFile Sem Op Lib Jvm.Free Jvm.Stand Jvm.Pilot.@@N@@.Jvm.D
/-! MADE BY PROGRAM (witnessworld.py) out of the Statement's table words and the real class files: 11 classes; the members and pool entries that the words name. The judged class is class 1, her method 2. -/
namespace start1
open Jvm.ClassFile
def u (s : String) : CpInfo := .utf8 (stringToUtf16 s)
/-- a pool by its gaps: so many unusable entries, then the entry; so many at the end -/
def gap : Nat → List CpInfo → List CpInfo
  | 0, r => r
  | n + 1, r => .unusable :: gap n r
def poolList (es : List (Nat × CpInfo)) (last : Nat) : List CpInfo := es.foldr (fun e r => gap e.1 (e.2 :: r)) (gap last [])
def pool (es : List (Nat × CpInfo)) (last : Nat) : Array CpInfo := ⟨poolList es last⟩
def fileOf (pool : Array CpInfo) (this : Nat) (attrs : Array Attribute := #[]) (ms : Array MethodInfo := #[]) (fl : Nat := 33) (sup : Nat := 0) (ifs : Array Nat := #[]) (fds : Array FieldInfo := #[]) : ClassFile where
  minorVersion := 0
  majorVersion := 65
  constantPool := pool
  accessFlags := fl
  thisClass := this
  superClass := sup
  interfaces := ifs
  fields := fds
  methods := ms
  attributes := attrs
def plain (name : String) (sup : Option ClassId) : Class where
  name := name
  kind := .ordinary
  loader := none
  accessFlags := 33
  super := sup
  interfaces := #[]
  cf := none
  fields := #[]
  methods := #[]
  instanceTypes := #[]
  staticTypes := #[]
  resolved := #[]
  callSites := []
  init := .initialized
  statics := none
  mirror := none

def pool0 : Array CpInfo := pool [(5, u "<init>"), (0, u "()V"), (1, .class_ 10), (1, u "java/lang/Object")] 113

def k0c0 : Code := { maxStack := 0, maxLocals := 1, code := object_method_1_code, exceptionTable := #[], attributes := #[] }
def k0m0 : Method := { name := "<init>", desc := "()V", sig := { parameters := [], returnType := none }, accessFlags := 1, code := some k0c0 }
/-- java/lang/Object -/
def k0 : Class := { plain "java/lang/Object" none with
  accessFlags := 33
  interfaces := #[]
  cf := some (fileOf pool0 8 #[] #[{ accessFlags := 1, nameIndex := 5, descriptorIndex := 6, attributes := #[] }] 33 0 #[] #[])
  fields := #[]
  methods := #[k0m0]
  instanceTypes := #[]
  staticTypes := #[]
  resolved := Array.replicate 124 none
  statics := none }

def pool1 : Array CpInfo := pool [(2, .class_ 4), (1, u "java/lang/Object"), (0, u "<init>"), (0, u "()V"), (0, .methodref 8 9), (0, .class_ 10), (0, .nameAndType 11 12), (0, u "java/lang/Math"), (0, u "max"), (0, u "(JJ)J"), (0, .methodref 8 14), (0, .nameAndType 15 12), (0, u "min"), (0, .class_ 17), (0, u "dev/lodestore/ConsumeQueue$Lost"), (0, .methodref 16 19), (0, .nameAndType 5 20), (0, u "(JJJJ)V"), (0, .methodref 16 22), (0, .nameAndType 23 24), (0, u "holds"), (0, u "(JJ)Z"), (0, .methodref 26 27), (0, .class_ 28), (0, .nameAndType 29 30), (0, u "dev/lodestore/ConsumeQueueHoldsPinLaw"), (0, u "inHalfOpen"), (0, u "(JJJ)Z"), (3, u "law"), (0, u "(JJJJJJ)Z")] 6

def k1m0 : Method := { name := "<init>", desc := "()V", sig := { parameters := [], returnType := none }, accessFlags := 2, code := none }
def k1c1 : Code := { maxStack := 4, maxLocals := 8, code := method_2_code, exceptionTable := #[], attributes := #[] }
def k1m1 : Method := { name := "inHalfOpen", desc := "(JJJ)Z", sig := { parameters := [.long, .long, .long], returnType := some .boolean }, accessFlags := 10, code := some k1c1 }
def k1c2 : Code := { maxStack := 10, maxLocals := 23, code := code, exceptionTable := #[], attributes := #[] }
def k1m2 : Method := { name := "law", desc := "(JJJJJJ)Z", sig := { parameters := [.long, .long, .long, .long, .long, .long], returnType := some .boolean }, accessFlags := 9, code := some k1c2 }
/-- dev/lodestore/ConsumeQueueHoldsPinLaw -/
def k1 : Class := { plain "dev/lodestore/ConsumeQueueHoldsPinLaw" (some 0) with
  accessFlags := 49
  interfaces := #[]
  cf := some (fileOf pool1 26 #[] #[{ accessFlags := 2, nameIndex := 5, descriptorIndex := 6, attributes := #[] }, { accessFlags := 10, nameIndex := 29, descriptorIndex := 30, attributes := #[] }, { accessFlags := 9, nameIndex := 34, descriptorIndex := 35, attributes := #[] }] 49 2 #[] #[])
  fields := #[]
  methods := #[k1m0, k1m1, k1m2]
  instanceTypes := #[]
  staticTypes := #[]
  resolved := Array.replicate 42 none
  statics := none }

def pool2 : Array CpInfo := pool [(1, .methodref 2 3), (0, .class_ 4), (0, .nameAndType 5 6), (0, u "java/lang/Object"), (0, u "<init>"), (0, u "()V"), (0, .class_ 8), (0, u "java/lang/Record")] 13

def k2c0 : Code := { maxStack := 1, maxLocals := 1, code := jdk_30_method_1_code, exceptionTable := #[], attributes := #[] }
def k2m0 : Method := { name := "<init>", desc := "()V", sig := { parameters := [], returnType := none }, accessFlags := 4, code := some k2c0 }
/-- java/lang/Record -/
def k2 : Class := { plain "java/lang/Record" (some 0) with
  accessFlags := 1057
  interfaces := #[]
  cf := some (fileOf pool2 7 #[] #[{ accessFlags := 4, nameIndex := 5, descriptorIndex := 6, attributes := #[] }] 1057 2 #[] #[])
  fields := #[]
  methods := #[k2m0]
  instanceTypes := #[]
  staticTypes := #[]
  resolved := Array.replicate 22 none
  statics := none }

def pool3 : Array CpInfo := pool [(1, .methodref 2 3), (0, .class_ 4), (0, .nameAndType 5 6), (0, u "java/lang/Record"), (0, u "<init>"), (0, u "()V"), (0, .fieldref 8 9), (0, .class_ 10), (0, .nameAndType 11 12), (0, u "dev/lodestore/ConsumeQueue$Lost"), (0, u "from"), (0, u "J"), (0, .fieldref 8 14), (0, .nameAndType 15 12), (0, u "until"), (0, .fieldref 8 17), (0, .nameAndType 18 12), (0, u "messagesFrom"), (0, .fieldref 8 20), (0, .nameAndType 21 12), (0, u "messagesUntil"), (15, u "holds"), (0, u "(JJ)Z"), (12, u "(JJJJ)V"), (13, .class_ 66), (0, u "dev/lodestore/ConsumeQueue")] 22

def k3c0 : Code := { maxStack := 3, maxLocals := 9, code := prog_21_method_1_code, exceptionTable := #[], attributes := #[] }
def k3m0 : Method := { name := "<init>", desc := "(JJJJ)V", sig := { parameters := [.long, .long, .long, .long], returnType := none }, accessFlags := 0, code := some k3c0 }
def k3c1 : Code := { maxStack := 4, maxLocals := 5, code := prog_21_method_2_code, exceptionTable := #[], attributes := #[] }
def k3m1 : Method := { name := "holds", desc := "(JJ)Z", sig := { parameters := [.long, .long], returnType := some .boolean }, accessFlags := 0, code := some k3c1 }
/-- dev/lodestore/ConsumeQueue$Lost -/
def k3 : Class := { plain "dev/lodestore/ConsumeQueue$Lost" (some 2) with
  accessFlags := 48
  interfaces := #[]
  cf := some (fileOf pool3 8 #[.nestHost 65] #[{ accessFlags := 0, nameIndex := 5, descriptorIndex := 51, attributes := #[] }, { accessFlags := 0, nameIndex := 37, descriptorIndex := 38, attributes := #[] }] 48 2 #[] #[{ accessFlags := 18, nameIndex := 11, descriptorIndex := 12, attributes := #[] }, { accessFlags := 18, nameIndex := 15, descriptorIndex := 12, attributes := #[] }, { accessFlags := 18, nameIndex := 18, descriptorIndex := 12, attributes := #[] }, { accessFlags := 18, nameIndex := 21, descriptorIndex := 12, attributes := #[] }])
  fields := #[{ name := "from", type := .long, accessFlags := 18, slot := 0, constantValue := 0 }, { name := "until", type := .long, accessFlags := 18, slot := 1, constantValue := 0 }, { name := "messagesFrom", type := .long, accessFlags := 18, slot := 2, constantValue := 0 }, { name := "messagesUntil", type := .long, accessFlags := 18, slot := 3, constantValue := 0 }]
  methods := #[k3m0, k3m1]
  instanceTypes := #[.long, .long, .long, .long]
  staticTypes := #[]
  resolved := Array.replicate 89 none
  statics := none }

def pool4 : Array CpInfo := pool [(1, .class_ 2), (0, u "java/lang/Math"), (1, .class_ 6), (1, u "java/lang/Object"), (0, u "<init>"), (0, u "()V"), (89, .class_ 100), (1, u "java/lang/Math$RandomNumberGeneratorHolder"), (20, u "(JJ)J"), (50, u "negativeZeroFloatBits"), (0, u "J"), (2, u "negativeZeroDoubleBits"), (21, u "max"), (2, u "min"), (43, u "$assertionsDisabled"), (0, u "Z"), (91, u "twoToTheDoubleScaleDown"), (0, u "D"), (4, u "twoToTheDoubleScaleUp"), (9, u "E"), (3, u "PI"), (2, u "TAU"), (2, u "DEGREES_TO_RADIANS"), (0, u "RADIANS_TO_DEGREES")] 94

def k4m0 : Method := { name := "<init>", desc := "()V", sig := { parameters := [], returnType := none }, accessFlags := 2, code := none }
def k4c1 : Code := { maxStack := 4, maxLocals := 4, code := jdk_29_method_66_code, exceptionTable := #[], attributes := #[] }
def k4m1 : Method := { name := "max", desc := "(JJ)J", sig := { parameters := [.long, .long], returnType := some .long }, accessFlags := 9, code := some k4c1 }
def k4c2 : Code := { maxStack := 4, maxLocals := 4, code := jdk_29_method_70_code, exceptionTable := #[], attributes := #[] }
def k4m2 : Method := { name := "min", desc := "(JJ)J", sig := { parameters := [.long, .long], returnType := some .long }, accessFlags := 9, code := some k4c2 }
/-- java/lang/Math -/
def k4 : Class := { plain "java/lang/Math" (some 0) with
  accessFlags := 49
  interfaces := #[]
  cf := some (fileOf pool4 1 #[.nestMembers #[98]] #[{ accessFlags := 2, nameIndex := 7, descriptorIndex := 8, attributes := #[] }, { accessFlags := 9, nameIndex := 198, descriptorIndex := 121, attributes := #[] }, { accessFlags := 9, nameIndex := 201, descriptorIndex := 121, attributes := #[] }] 49 4 #[] #[{ accessFlags := 25, nameIndex := 354, descriptorIndex := 339, attributes := #[] }, { accessFlags := 25, nameIndex := 358, descriptorIndex := 339, attributes := #[] }, { accessFlags := 25, nameIndex := 361, descriptorIndex := 339, attributes := #[] }, { accessFlags := 26, nameIndex := 364, descriptorIndex := 339, attributes := #[] }, { accessFlags := 26, nameIndex := 365, descriptorIndex := 339, attributes := #[] }, { accessFlags := 26, nameIndex := 172, descriptorIndex := 173, attributes := #[] }, { accessFlags := 26, nameIndex := 176, descriptorIndex := 173, attributes := #[] }, { accessFlags := 8, nameIndex := 344, descriptorIndex := 339, attributes := #[] }, { accessFlags := 8, nameIndex := 338, descriptorIndex := 339, attributes := #[] }, { accessFlags := 4120, nameIndex := 245, descriptorIndex := 246, attributes := #[] }])
  fields := #[{ name := "E", type := .double, accessFlags := 25, slot := 0, constantValue := 0 }, { name := "PI", type := .double, accessFlags := 25, slot := 1, constantValue := 0 }, { name := "TAU", type := .double, accessFlags := 25, slot := 2, constantValue := 0 }, { name := "DEGREES_TO_RADIANS", type := .double, accessFlags := 26, slot := 3, constantValue := 0 }, { name := "RADIANS_TO_DEGREES", type := .double, accessFlags := 26, slot := 4, constantValue := 0 }, { name := "negativeZeroFloatBits", type := .long, accessFlags := 26, slot := 5, constantValue := 0 }, { name := "negativeZeroDoubleBits", type := .long, accessFlags := 26, slot := 6, constantValue := 0 }, { name := "twoToTheDoubleScaleUp", type := .double, accessFlags := 8, slot := 7, constantValue := 0 }, { name := "twoToTheDoubleScaleDown", type := .double, accessFlags := 8, slot := 8, constantValue := 0 }, { name := "$assertionsDisabled", type := .boolean, accessFlags := 4120, slot := 9, constantValue := 0 }]
  methods := #[k4m0, k4m1, k4m2]
  instanceTypes := #[]
  staticTypes := #[.double, .double, .double, .double, .double, .long, .long, .double, .double, .boolean]
  resolved := Array.replicate 460 none
  statics := none }

def pool5 : Array CpInfo := pool [(1, u "java/lang/Cloneable"), (0, .class_ 1), (0, u "java/lang/Object"), (0, .class_ 3)] 3

/-- java/lang/Cloneable -/
def k5 : Class := { plain "java/lang/Cloneable" (some 0) with
  accessFlags := 1537
  interfaces := #[]
  cf := some (fileOf pool5 2 #[] #[] 1537 4 #[] #[])
  fields := #[]
  methods := #[]
  instanceTypes := #[]
  staticTypes := #[]
  resolved := Array.replicate 8 none
  statics := none }

def pool6 : Array CpInfo := pool [(1, u "java/io/Serializable"), (0, .class_ 1), (0, u "java/lang/Object"), (0, .class_ 3)] 3

/-- java/io/Serializable -/
def k6 : Class := { plain "java/io/Serializable" (some 0) with
  accessFlags := 1537
  interfaces := #[]
  cf := some (fileOf pool6 2 #[] #[] 1537 4 #[] #[])
  fields := #[]
  methods := #[]
  instanceTypes := #[]
  staticTypes := #[]
  resolved := Array.replicate 8 none
  statics := none }

/-- the primitive byte -/
def k7 : Class := { plain "byte" none with kind := .primitive 'B', accessFlags := 0x411 }
/-- [B -/
def k8 : Class := { plain "[B" (some 0) with kind := .array 7 .byte, interfaces := #[5, 6], accessFlags := 1041 }

/-- the primitive int -/
def k9 : Class := { plain "int" none with kind := .primitive 'I', accessFlags := 0x411 }
/-- [I -/
def k10 : Class := { plain "[I" (some 0) with kind := .array 9 .int, interfaces := #[5, 6], accessFlags := 1041 }

def heap : Heap := #[]
def classes : Array Class := #[k0, k1, k2, k3, k4, k5, k6, k7, k8, k9, k10]
def interned : List (Array UInt16 × Addr) := []
def slotsUsed : Nat := 0
def theMethod : MethodId := ⟨1, 2⟩
def args0 : Array Value := #[.long 5, .long 7, .long 2, .long 5, .long 7, .long 2]
def aboutOver (below : List Frame) : State where
  vm := { classes := classes, interned := interned.toArray }
  heap := heap
  slotsUsed := slotsUsed
  threads := #[{ frames := .invoking theMethod args0 :: below }]
def below0 : List Frame := [.native { method := ⟨0, 0⟩, args := #[] }]
def about1 : State := aboutOver below0
def p0 : Program := .bare "" "" ""
def e0 : Env := launch0.env 0 0 0
theorem w_frames : about1.frames = Frame.invoking theMethod args0 :: below0 := rfl
set_option maxRecDepth 65536 in
theorem w_args : argsFit about1.vm theMethod args0 = true := by decide +kernel
set_option maxRecDepth 65536 in
theorem w_heap : heapFits about1 = true := by decide +kernel
set_option maxRecDepth 65536 in
theorem w_runnable : about1.curStatus? = some .runnable := by decide +kernel
set_option maxRecDepth 65536 in
theorem w_alone : about1.alone = true := by decide +kernel
set_option maxRecDepth 65536 in
theorem w_named : about1.methodNamed? x = some theMethod := by decide +kernel
set_option maxRecDepth 65536 in
theorem w_hears : about1.hears theMethod below0 = true := by decide +kernel
set_option maxRecDepth 65536 in
theorem w_ripe : about1.ripe theMethod args0 below0 = true := by decide +kernel
theorem w_running : about1.status = .running := rfl
set_option maxRecDepth 65536 in
theorem w_room : about1.hasRoom e0.platform room_1 = true :=
  launch0.hasRoom_least _ room_1 (by decide +kernel) (by decide +kernel) (by decide +kernel) (by decide +kernel) (by decide +kernel) (by decide +kernel)
theorem allAtoms_all (ts : List Jvm.Cond) (a : Array Jvm.Value) (st : Jvm.State) : (allAtoms ts).before a st = ts.all (fun c => c.before a st) := by
  induction ts with
  | nil => rfl
  | cons c t ih =>
    show (Jvm.Cond.and c (allAtoms t)).before a st = _
    rw [Jvm.Cond.before_and, ih, List.all_cons]
def words1 : List Jvm.Cond := Jvm.Cond.code x code maxLocals ret :: tables_1
/-- a 'code' word, met by the world's own term for the bytes: nothing is compared byte by byte -/
theorem code_word {y : MethodName} {bytes : ByteArray} {mx : Nat} {rt : Option FieldType} {a : Array Value} {s : State} {m : MethodId} {meth : Method} {c : Code} (h1 : s.methodNamed? y = some m) (h2 : s.vm.method? m = some meth) (h3 : meth.code = some c) (h4 : c.code = bytes)
    (h5 : (c.maxLocals == mx && c.exceptionTable.isEmpty && decide (c.maxStack ≤ mostOperands) && decide (meth.sig.returnType = rt) && !meth.locks && decide (parseMethodDescriptor y.desc = some meth.sig)) = true) : (Jvm.Cond.code y bytes mx rt).before a s = true := by
  simp only [Bool.and_eq_true, beq_iff_eq, Bool.not_eq_true', decide_eq_true_eq] at h5
  obtain ⟨⟨⟨⟨⟨g1, g2⟩, g3⟩, g4⟩, g5⟩, g6⟩ := h5
  simp [Cond.before, Cond.holds, Cond.value, h1, h2, h3, h4, g1, g2, g3, g4, g5, g6]
def isCode : Jvm.Cond → Bool
  | .code _ _ _ _ => true
  | _ => false
theorem all_split {L : List Jvm.Cond} {P : Jvm.Cond → Bool} (h1 : L.all (fun c => isCode c || P c) = true) (h2 : ∀ c ∈ L.filter isCode, P c = true) : L.all P = true := by
  refine List.all_eq_true.mpr fun c hc => ?_
  have h := List.all_eq_true.mp h1 c hc
  rcases Bool.eq_false_or_eq_true (isCode c) with hi | hi
  · exact h2 c (List.mem_filter.mpr ⟨hc, hi⟩)
  · simpa [hi] using h
set_option maxRecDepth 65536 in
theorem w_c0 : (Jvm.Cond.code x code maxLocals ret).before args0 about1 = true := code_word (m := ⟨1, 2⟩) (meth := k1m2) (c := k1c2) (by decide +kernel) rfl rfl rfl (by decide +kernel)
set_option maxRecDepth 65536 in
theorem w_c1 : (Jvm.Cond.code ({ cls := "dev/lodestore/ConsumeQueue$Lost", name := "<init>", desc := "(JJJJ)V" } : Jvm.MethodName) prog_21_method_1_code (9 : Nat) (Option.none : Option Jvm.ClassFile.FieldType)).before args0 about1 = true := code_word (m := ⟨3, 0⟩) (meth := k3m0) (c := k3c0) (by decide +kernel) rfl rfl rfl (by decide +kernel)
set_option maxRecDepth 65536 in
theorem w_c2 : (Jvm.Cond.code ({ cls := "java/lang/Record", name := "<init>", desc := "()V" } : Jvm.MethodName) jdk_30_method_1_code (1 : Nat) (Option.none : Option Jvm.ClassFile.FieldType)).before args0 about1 = true := code_word (m := ⟨2, 0⟩) (meth := k2m0) (c := k2c0) (by decide +kernel) rfl rfl rfl (by decide +kernel)
set_option maxRecDepth 65536 in
theorem w_c3 : (Jvm.Cond.code ({ cls := "java/lang/Object", name := "<init>", desc := "()V" } : Jvm.MethodName) object_method_1_code (1 : Nat) (Option.none : Option Jvm.ClassFile.FieldType)).before args0 about1 = true := code_word (m := ⟨0, 0⟩) (meth := k0m0) (c := k0c0) (by decide +kernel) rfl rfl rfl (by decide +kernel)
set_option maxRecDepth 65536 in
theorem w_c4 : (Jvm.Cond.code ({ cls := "dev/lodestore/ConsumeQueue$Lost", name := "holds", desc := "(JJ)Z" } : Jvm.MethodName) prog_21_method_2_code (5 : Nat) (Option.some Jvm.ClassFile.FieldType.boolean)).before args0 about1 = true := code_word (m := ⟨3, 1⟩) (meth := k3m1) (c := k3c1) (by decide +kernel) rfl rfl rfl (by decide +kernel)
set_option maxRecDepth 65536 in
theorem w_c5 : (Jvm.Cond.code ({ cls := "dev/lodestore/ConsumeQueueHoldsPinLaw", name := "inHalfOpen", desc := "(JJJ)Z" } : Jvm.MethodName) method_2_code (8 : Nat) (Option.some Jvm.ClassFile.FieldType.boolean)).before args0 about1 = true := code_word (m := ⟨1, 1⟩) (meth := k1m1) (c := k1c1) (by decide +kernel) rfl rfl rfl (by decide +kernel)
set_option maxRecDepth 65536 in
theorem w_c6 : (Jvm.Cond.code ({ cls := "java/lang/Math", name := "max", desc := "(JJ)J" } : Jvm.MethodName) jdk_29_method_66_code (4 : Nat) (Option.some Jvm.ClassFile.FieldType.long)).before args0 about1 = true := code_word (m := ⟨4, 1⟩) (meth := k4m1) (c := k4c1) (by decide +kernel) rfl rfl rfl (by decide +kernel)
set_option maxRecDepth 65536 in
theorem w_c7 : (Jvm.Cond.code ({ cls := "java/lang/Math", name := "min", desc := "(JJ)J" } : Jvm.MethodName) jdk_29_method_70_code (4 : Nat) (Option.some Jvm.ClassFile.FieldType.long)).before args0 about1 = true := code_word (m := ⟨4, 2⟩) (meth := k4m2) (c := k4c2) (by decide +kernel) rfl rfl rfl (by decide +kernel)
def codes1 : List Jvm.Cond := [Jvm.Cond.code x code maxLocals ret, Jvm.Cond.code ({ cls := "dev/lodestore/ConsumeQueue$Lost", name := "<init>", desc := "(JJJJ)V" } : Jvm.MethodName) prog_21_method_1_code (9 : Nat) (Option.none : Option Jvm.ClassFile.FieldType), Jvm.Cond.code ({ cls := "java/lang/Record", name := "<init>", desc := "()V" } : Jvm.MethodName) jdk_30_method_1_code (1 : Nat) (Option.none : Option Jvm.ClassFile.FieldType), Jvm.Cond.code ({ cls := "java/lang/Object", name := "<init>", desc := "()V" } : Jvm.MethodName) object_method_1_code (1 : Nat) (Option.none : Option Jvm.ClassFile.FieldType), Jvm.Cond.code ({ cls := "dev/lodestore/ConsumeQueue$Lost", name := "holds", desc := "(JJ)Z" } : Jvm.MethodName) prog_21_method_2_code (5 : Nat) (Option.some Jvm.ClassFile.FieldType.boolean), Jvm.Cond.code ({ cls := "dev/lodestore/ConsumeQueueHoldsPinLaw", name := "inHalfOpen", desc := "(JJJ)Z" } : Jvm.MethodName) method_2_code (8 : Nat) (Option.some Jvm.ClassFile.FieldType.boolean), Jvm.Cond.code ({ cls := "java/lang/Math", name := "max", desc := "(JJ)J" } : Jvm.MethodName) jdk_29_method_66_code (4 : Nat) (Option.some Jvm.ClassFile.FieldType.long), Jvm.Cond.code ({ cls := "java/lang/Math", name := "min", desc := "(JJ)J" } : Jvm.MethodName) jdk_29_method_70_code (4 : Nat) (Option.some Jvm.ClassFile.FieldType.long)]
set_option maxRecDepth 65536 in
theorem codes_eq : words1.filter isCode = codes1 := rfl
theorem w_codes : ∀ c ∈ words1.filter isCode, c.before args0 about1 = true := by
  rw [codes_eq]
  intro c hc
  simp only [codes1, List.mem_cons, List.not_mem_nil, or_false] at hc
  rcases hc with rfl | rfl | rfl | rfl | rfl | rfl | rfl | rfl
  · exact w_c0
  · exact w_c1
  · exact w_c2
  · exact w_c3
  · exact w_c4
  · exact w_c5
  · exact w_c6
  · exact w_c7
set_option maxRecDepth 65536 in
theorem w_t1 : (words1.take 24).all (fun c => isCode c || c.before args0 about1) = true := by decide +kernel
set_option maxRecDepth 65536 in
theorem w_t2 : (words1.drop 24).all (fun c => isCode c || c.before args0 about1) = true := by decide +kernel
theorem w_tables : (allAtoms (Jvm.Cond.code x code maxLocals ret :: tables_1)).before args0 about1 = true := by
  rw [allAtoms_all]
  show words1.all (fun c => c.before args0 about1) = true
  refine all_split ?_ w_codes
  rw [← List.take_append_drop 24 words1, List.all_append, w_t1, w_t2]
  rfl
set_option maxRecDepth 65536 in
theorem w_case : (Jvm.Cond.and given_1 narrow_1).before args0 about1 = true := by decide +kernel
theorem w_applies : (headSpec (Jvm.Cond.code x code maxLocals ret :: tables_1) room_1).applies x e0.platform about1 = true :=
  (Spec.applies_iff w_frames).mpr ⟨w_running, w_runnable, w_alone, w_named, w_hears, w_ripe, w_room, w_tables⟩
theorem atStart : AtStart classFile x code maxLocals ret World_1 tables_1 room_1 Calls_1 rest_1 Pre_1 launch0 p0 e0 about1 theMethod args0 below0 :=
  ⟨lists_1, trivial, launch0.admits_env _ _ _, launch0.least_env, fairChoices_fair.cas, fairChoices_fair.clock, w_frames, w_args, w_heap, w_applies, trivial, trivial, w_case⟩
end start1
theorem witness_1 : WitnessClaimed_1 := ⟨start1.p0, start1.e0, start1.about1, start1.theMethod, start1.args0, start1.below0, start1.atStart⟩
end Jvm.Pilot.@@N@@
