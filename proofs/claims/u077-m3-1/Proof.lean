import JvmDerived
import JvmDerived.Pilot.@@N@@Statement
import JvmDerived.Pilot.@@N@@Code
set_option linter.unusedVariables false
set_option linter.unusedSimpArgs false
namespace Jvm.RoadKit
open Sem ClassFile Op Lib Jvm.Stand Jvm.Free Jvm.LawKit
section New
variable {p : Program} {l : Launch} {e : Env} {R : Room} {s : State} {m : MethodId} {args : Array Value} {below : List Frame} {meth : Method} {c : Code} {T : State} {locs : List Loc} {cells slots : Nat}
theorem retI (X : Stand p l e R s m args below meth c T locs cells slots) (hx : p.tables.exec = Jvm.exec) {pc : Nat} {Ls : Array Slot} {z : Int32} {rest : List Value} (hret : meth.sig.returnType = some .int) (hd : decode c.code pc = .ok (.ireturn, 1)) {fs : List Frame}
    (hl : ∀ (f : JFrame) (acts : List Action), f.method = m → f.locked = none → f.entered = [] → (doReturn e (T.setTop f) acts (some (.int z))).1 = T.setFrames fs) : Steps p.tables e below (T.setTop (mkF m pc Ls (.int z :: rest))) (T.setFrames fs) := by
  have hm' : T.vm.method? m = some meth := X.method'
  have hn : narrow .int (.int z) = .int z := rfl
  show Steps p.tables e below (T.setTop { method := m, pc := pc, locals := Ls, stack := _ :: rest, locked := none }) _
  jvm_step X.here [X.here.top, hx, hd, hm', hret, hn]
  first | (intro acts; rw [hl _ acts rfl rfl rfl]) | rw [hl _ _ rfl rfl rfl]
  exact Steps.refl _
end New
end Jvm.RoadKit
namespace Jvm.Pilot.@@N@@
open Jvm Jvm.ClassFile Sem Op Lib Jvm.Free Jvm.Stand Jvm.LawKit Jvm.RoadKit Bundle Jvm.Pilot.@@N@@.Jvm.D
section Own
variable {p : Program} {l : Launch} {e : Env} {R : Room} {s : State} {m : MethodId} {args : Array Value} {below : List Frame} {meth : Method} {c : Code} {T T' : State} {locs : List Loc} {cells slots : Nat}
/-- what a walk has still to come to: it ends, with an answer of which Q is true -/
def own_Ends (p : Program) (e : Env) (below : List Frame) (U : State) (C S : Nat) (Q : Option Value → Heap → List Loc → Prop) (T : State) (f : JFrame) : Prop :=
  ∃ s₂ o, Steps p.tables e below (T.setTop f) s₂ ∧ s₂.status = .running ∧ Ended s₂ below o ∧ ∃ v L, o = .returned v ∧ Q v s₂.heap L ∧ FrameEnd U o s₂ L C S
theorem own_step {U : State} {C S : Nat} {Q : Option Value → Heap → List Loc → Prop} {f f' : JFrame} (h : ∀ t, Steps p.tables e below (T'.setTop f') t → Steps p.tables e below (T.setTop f) t) (k : own_Ends p e below U C S Q T' f') : own_Ends p e below U C S Q T f := by
  obtain ⟨s₂, o, h1, h2⟩ := k
  exact ⟨s₂, o, h _ h1, h2⟩
/-- a pure answer: that value, nothing old written, the heap as it was -/
def own_P (w : Value) (h0 : Heap) (n0 : Nat) (v : Option Value) (h : Heap) (L : List Loc) : Prop := v = some w ∧ Fr n0 L ∧ h = h0
theorem own_retZ {C S : Nat} {Q : Option Value → Heap → List Loc → Prop} {pc : Nat} {Ls : Array Slot} {z : Int32} {t : FieldType} {rest : List Value} (X : Stand p l e R s m args below meth c T locs cells slots) (hx : p.tables.exec = Jvm.exec) (hret : meth.sig.returnType = some t) (ht : t = .boolean ∨ t = .byte ∨ t = .char ∨ t = .short) (hlk : meth.locks = false)
    (hd : decode c.code pc = .ok (.ireturn, 1)) (hC : cells ≤ C) (hS : slots ≤ S) (hq : Q (some (.int (nar t z))) T.heap locs) : own_Ends p e below s C S Q T (mkF m pc Ls (.int z :: rest)) := by
  obtain ⟨fs, hr, hrun, hended, hW, hsame⟩ := X.leave (v := some (.int (nar t z))) (fun h => by rw [hret] at h; cases h) hlk
  exact ⟨_, _, retN X hx hret ht hd hr, hrun, hended, _, _, rfl, hq, ⟨_, rfl⟩, hW, hsame.mono hC hS⟩
theorem own_retI {C S : Nat} {Q : Option Value → Heap → List Loc → Prop} {pc : Nat} {Ls : Array Slot} {z : Int32} {rest : List Value} (X : Stand p l e R s m args below meth c T locs cells slots) (hx : p.tables.exec = Jvm.exec) (hret : meth.sig.returnType = some .int) (hlk : meth.locks = false)
    (hd : decode c.code pc = .ok (.ireturn, 1)) (hC : cells ≤ C) (hS : slots ≤ S) (hq : Q (some (.int z)) T.heap locs) : own_Ends p e below s C S Q T (mkF m pc Ls (.int z :: rest)) := by
  obtain ⟨fs, hr, hrun, hended, hW, hsame⟩ := X.leave (v := some (.int z)) (fun h => by rw [hret] at h; cases h) hlk
  exact ⟨_, _, retI X hx hret hd hr, hrun, hended, _, _, rfl, hq, ⟨_, rfl⟩, hW, hsame.mono hC hS⟩
def own_V (h0 : Heap) (n0 : Nat) (v : Option Value) (h : Heap) (L : List Loc) : Prop := v = none ∧ Fr n0 L ∧ h = h0
theorem own_retV {C S : Nat} {Q : Option Value → Heap → List Loc → Prop} {pc : Nat} {Ls : Array Slot} (X : Stand p l e R s m args below meth c T locs cells slots) (hx : p.tables.exec = Jvm.exec) (hret : meth.sig.returnType = none) (hlk : meth.locks = false)
    (hd : decode c.code pc = .ok (.return_, 1)) (hC : cells ≤ C) (hS : slots ≤ S) (hq : Q none T.heap locs) : own_Ends p e below s C S Q T (mkF m pc Ls []) := by
  obtain ⟨fs, hr, hrun, hended, hW, hsame⟩ := X.leave (v := none) (fun _ => rfl) hlk
  exact ⟨_, _, X.returnOut hx hret hd hr, hrun, hended, _, _, rfl, hq, ⟨_, rfl⟩, hW, hsame.mono hC hS⟩
theorem own_retJ {C S : Nat} {Q : Option Value → Heap → List Loc → Prop} {pc : Nat} {Ls : Array Slot} {z : Int64} (X : Stand p l e R s m args below meth c T locs cells slots) (hx : p.tables.exec = Jvm.exec) (hret : meth.sig.returnType = some .long) (hlk : meth.locks = false)
    (hd : decode c.code pc = .ok (.lreturn, 1)) (hC : cells ≤ C) (hS : slots ≤ S) (hq : Q (some (.long z)) T.heap locs) : own_Ends p e below s C S Q T (mkF m pc Ls [.long z]) := by
  obtain ⟨fs, hr, hrun, hended, hW, hsame⟩ := X.leave (v := some (.long z)) (fun h => by rw [hret] at h; cases h) hlk
  exact ⟨_, _, X.lreturnOut hx hret hd hr, hrun, hended, _, _, rfl, hq, ⟨_, rfl⟩, hW, hsame.mono hC hS⟩
end Own
theorem d1_0 : decode prog_108_method_22_code 0 = .ok (.iload_n 0, 1) := by decide +kernel
theorem d1_1 : decode prog_108_method_22_code 1 = .ok (.bipush 12, 2) := by decide +kernel
theorem d1_3 : decode prog_108_method_22_code 3 = .ok (.iand, 1) := by decide +kernel
theorem d1_4 : decode prog_108_method_22_code 4 = .ok (.istore_n 1, 1) := by decide +kernel
theorem d1_5 : decode prog_108_method_22_code 5 = .ok (.iload_n 1, 1) := by decide +kernel
theorem d1_6 : decode prog_108_method_22_code 6 = .ok (.iconst 4, 1) := by decide +kernel
theorem d1_7 : decode prog_108_method_22_code 7 = .ok (.if_icmp .eq 13, 3) := by decide +kernel
theorem d1_10 : decode prog_108_method_22_code 10 = .ok (.iload_n 1, 1) := by decide +kernel
theorem d1_11 : decode prog_108_method_22_code 11 = .ok (.bipush 12, 2) := by decide +kernel
theorem d1_13 : decode prog_108_method_22_code 13 = .ok (.if_icmp .eq 7, 3) := by decide +kernel
theorem d1_16 : decode prog_108_method_22_code 16 = .ok (.iconst 1, 1) := by decide +kernel
theorem d1_17 : decode prog_108_method_22_code 17 = .ok (.goto 4, 3) := by decide +kernel
theorem d1_20 : decode prog_108_method_22_code 20 = .ok (.iconst 0, 1) := by decide +kernel
theorem d1_21 : decode prog_108_method_22_code 21 = .ok (.ireturn, 1) := by decide +kernel
theorem pn1 : plainName "dev/lodestore/StoredMessage" = true := by first | (simp [plainName, overriddenIn]; done) | decide +kernel
theorem pd1 : parseMethodDescriptor "(I)Z" = some ⟨[.int], some .boolean⟩ := by decide +kernel
theorem ef1 (m : MethodId) (p0 : Int32) : entryFrame m #[(.int p0)] 2 = mkF m 0 #[.val (.int p0), .unset] [] := by first | (simp [entryFrame, mkF, argsToLocals, Value.category]; done) | rfl
def f1_20  : Int32 :=
  (0 : Int32)
set_option maxRecDepth 65536 in
set_option maxHeartbeats 4000000 in
theorem b1_20 {p : Program} {l : Launch} {e : Env} {s : State} {m : MethodId} {args : Array Value} {below : List Frame} {meth : Method} {c : Code} {T0 : State} {locs : List Loc} {Z : State} {a0 : Array Value} {h0 : Heap} {n0 : Nat} (i0 : Int32) (i1 : Int32) {r : Int32} (X0 : Stand p l e ({ frames := 0, cells := 0, slots := 0, locals := 0 } : Room) s m args below meth c T0 locs 0 0) (hx : p.tables.exec = Jvm.exec) (hZ : Z.Warmed39 s.vm) (hw : ∀ d ∈ tables_1, d.before a0 Z = true) (hby : c.code = prog_108_method_22_code) (hml : c.maxLocals = 2) (hown : s.vm.findClass "dev/lodestore/StoredMessage" = some m.cls) (hret : meth.sig.returnType = some .boolean) (hlk : meth.locks = false) (e0 : T0.heap = h0) (N0 : Fr n0 locs) (hr : r = f1_20 ) :
    own_Ends p e below s 0 0 (own_P (.int r) h0 n0) T0 (mkF m 20 #[.val (.int i0), .val (.int i1)] []) := by
  unfold f1_20 at hr
  refine own_step (T' := T0) (f' := (mkF m 21 #[.val (.int i0), .val (.int i1)] [(.int (0 : Int32))])) (fun t kt => ?_) ?_
  · show Steps p.tables e below (T0.setTop (mkF m 20 #[.val (.int i0), .val (.int i1)] [])) _
    refine XS.iconst X0.here hx rfl (hb hby d1_20) ?_
    exact kt
  exact own_retZ X0 hx hret (by simp) hlk (hb hby d1_21) (Nat.le_refl _) (Nat.le_refl _) ⟨congrArg (fun z => some (Value.int z)) hr.symm, N0, e0⟩
def f1_0 (p0 : Int32) : Int32 :=
  if (p0 &&& (12 : Int32)) = (4 : Int32) then (f1_20 ) else (if (p0 &&& (12 : Int32)) = (12 : Int32) then (f1_20 ) else ((1 : Int32)))
set_option maxRecDepth 65536 in
set_option maxHeartbeats 4000000 in
theorem b1_0 {p : Program} {l : Launch} {e : Env} {s : State} {m : MethodId} {args : Array Value} {below : List Frame} {meth : Method} {c : Code} {T0 : State} {locs : List Loc} {Z : State} {a0 : Array Value} {h0 : Heap} {n0 : Nat} (p0 : Int32) {r : Int32} (X0 : Stand p l e ({ frames := 0, cells := 0, slots := 0, locals := 0 } : Room) s m args below meth c T0 locs 0 0) (hx : p.tables.exec = Jvm.exec) (hZ : Z.Warmed39 s.vm) (hw : ∀ d ∈ tables_1, d.before a0 Z = true) (hby : c.code = prog_108_method_22_code) (hml : c.maxLocals = 2) (hown : s.vm.findClass "dev/lodestore/StoredMessage" = some m.cls) (hret : meth.sig.returnType = some .boolean) (hlk : meth.locks = false) (e0 : T0.heap = h0) (N0 : Fr n0 locs) (hr : r = f1_0 p0) :
    own_Ends p e below s 0 0 (own_P (.int r) h0 n0) T0 (mkF m 0 #[.val (.int p0), .unset] []) := by
  unfold f1_0 at hr
  refine own_step (T' := T0) (f' := (mkF m 7 #[.val (.int p0), .val (.int (p0 &&& (12 : Int32)))] [(.int (4 : Int32)), (.int (p0 &&& (12 : Int32)))])) (fun t kt => ?_) ?_
  · show Steps p.tables e below (T0.setTop (mkF m 0 #[.val (.int p0), .unset] [])) _
    refine XS.iloadN X0.here hx rfl (hb hby d1_0) rfl ?_
    show Steps p.tables e below (T0.setTop (mkF m 1 #[.val (.int p0), .unset] [(.int p0)])) _
    refine XS.bipush X0.here hx rfl (hb hby d1_1) ?_
    show Steps p.tables e below (T0.setTop (mkF m 3 #[.val (.int p0), .unset] [(.int (12 : Int32)), (.int p0)])) _
    refine XS.iand X0.here hx rfl (hb hby d1_3) rfl ?_
    show Steps p.tables e below (T0.setTop (mkF m 4 #[.val (.int p0), .unset] [(.int (p0 &&& (12 : Int32)))])) _
    refine XS.istoreN X0.here hx rfl (hb hby d1_4) rfl (l' := #[.val (.int p0), .val (.int (p0 &&& (12 : Int32)))]) rfl ?_
    show Steps p.tables e below (T0.setTop (mkF m 5 #[.val (.int p0), .val (.int (p0 &&& (12 : Int32)))] [])) _
    refine XS.iloadN X0.here hx rfl (hb hby d1_5) rfl ?_
    show Steps p.tables e below (T0.setTop (mkF m 6 #[.val (.int p0), .val (.int (p0 &&& (12 : Int32)))] [(.int (p0 &&& (12 : Int32)))])) _
    refine XS.iconst X0.here hx rfl (hb hby d1_6) ?_
    exact kt
  by_cases hc7_1 : (p0 &&& (12 : Int32)) = (4 : Int32)
  · rw [if_pos hc7_1] at hr
    refine own_step (T' := T0) (f' := (mkF m 20 #[.val (.int p0), .val (.int (p0 &&& (12 : Int32)))] [])) (fun t kt => ?_) ?_
    · show Steps p.tables e below (T0.setTop (mkF m 7 #[.val (.int p0), .val (.int (p0 &&& (12 : Int32)))] [(.int (4 : Int32)), (.int (p0 &&& (12 : Int32)))])) _
      refine XS.icmpYes X0.here hx rfl (pc0 := 7) (pc' := 20) rfl (hb hby d1_7) rfl (teq hc7_1).1 (by decide) (by decide) kt
    exact b1_20 p0 (p0 &&& (12 : Int32)) X0 hx hZ hw hby hml hown hret hlk e0 N0 hr
  · rw [if_neg hc7_1] at hr
    refine own_step (T' := T0) (f' := (mkF m 10 #[.val (.int p0), .val (.int (p0 &&& (12 : Int32)))] [])) (fun t kt => ?_) ?_
    · show Steps p.tables e below (T0.setTop (mkF m 7 #[.val (.int p0), .val (.int (p0 &&& (12 : Int32)))] [(.int (4 : Int32)), (.int (p0 &&& (12 : Int32)))])) _
      refine XS.icmpNo X0.here hx rfl (hb hby d1_7) rfl (feq hc7_1).1 kt
    refine own_step (T' := T0) (f' := (mkF m 13 #[.val (.int p0), .val (.int (p0 &&& (12 : Int32)))] [(.int (12 : Int32)), (.int (p0 &&& (12 : Int32)))])) (fun t kt => ?_) ?_
    · show Steps p.tables e below (T0.setTop (mkF m 10 #[.val (.int p0), .val (.int (p0 &&& (12 : Int32)))] [])) _
      refine XS.iloadN X0.here hx rfl (hb hby d1_10) rfl ?_
      show Steps p.tables e below (T0.setTop (mkF m 11 #[.val (.int p0), .val (.int (p0 &&& (12 : Int32)))] [(.int (p0 &&& (12 : Int32)))])) _
      refine XS.bipush X0.here hx rfl (hb hby d1_11) ?_
      exact kt
    by_cases hc13_2 : (p0 &&& (12 : Int32)) = (12 : Int32)
    · rw [if_pos hc13_2] at hr
      refine own_step (T' := T0) (f' := (mkF m 20 #[.val (.int p0), .val (.int (p0 &&& (12 : Int32)))] [])) (fun t kt => ?_) ?_
      · show Steps p.tables e below (T0.setTop (mkF m 13 #[.val (.int p0), .val (.int (p0 &&& (12 : Int32)))] [(.int (12 : Int32)), (.int (p0 &&& (12 : Int32)))])) _
        refine XS.icmpYes X0.here hx rfl (pc0 := 13) (pc' := 20) rfl (hb hby d1_13) rfl (teq hc13_2).1 (by decide) (by decide) kt
      exact b1_20 p0 (p0 &&& (12 : Int32)) X0 hx hZ hw hby hml hown hret hlk e0 N0 hr
    · rw [if_neg hc13_2] at hr
      refine own_step (T' := T0) (f' := (mkF m 16 #[.val (.int p0), .val (.int (p0 &&& (12 : Int32)))] [])) (fun t kt => ?_) ?_
      · show Steps p.tables e below (T0.setTop (mkF m 13 #[.val (.int p0), .val (.int (p0 &&& (12 : Int32)))] [(.int (12 : Int32)), (.int (p0 &&& (12 : Int32)))])) _
        refine XS.icmpNo X0.here hx rfl (hb hby d1_13) rfl (feq hc13_2).1 kt
      refine own_step (T' := T0) (f' := (mkF m 21 #[.val (.int p0), .val (.int (p0 &&& (12 : Int32)))] [(.int (1 : Int32))])) (fun t kt => ?_) ?_
      · show Steps p.tables e below (T0.setTop (mkF m 16 #[.val (.int p0), .val (.int (p0 &&& (12 : Int32)))] [])) _
        refine XS.iconst X0.here hx rfl (hb hby d1_16) ?_
        show Steps p.tables e below (T0.setTop (mkF m 17 #[.val (.int p0), .val (.int (p0 &&& (12 : Int32)))] [(.int (1 : Int32))])) _
        refine XS.goto X0.here hx rfl (pc0 := 17) (pc' := 21) rfl (hb hby d1_17) (by decide) (by decide) ?_
        exact kt
      exact own_retZ X0 hx hret (by simp) hlk (hb hby d1_21) (Nat.le_refl _) (Nat.le_refl _) ⟨congrArg (fun z => some (Value.int z)) hr.symm, N0, e0⟩
set_option maxRecDepth 65536 in
set_option maxHeartbeats 4000000 in
theorem rm1 (l : Launch) (Z : State) (a0 : Array Value) (hw : ∀ d ∈ tables_1, d.before a0 Z = true) (ws : List Jvm.Cond) (p0 : Int32) (h0 : Heap) (n0 : Nat) :
    MetFree l (⟨"dev/lodestore/StoredMessage", "hasUnit", "(I)Z"⟩ : MethodName) (head1 (Jvm.Cond.code (⟨"dev/lodestore/StoredMessage", "hasUnit", "(I)Z"⟩ : MethodName) prog_108_method_22_code 2 (some .boolean) :: ws) ({ frames := 0, cells := 0, slots := 0, locals := 0 } : Room)) (fun a U => a = #[(.int p0)] ∧ Z.Warmed39 U.vm ∧ U.heap = h0) (fun _ _ _ _ _ => True) (fun _ U o U' => ∃ v L, o = .returned v ∧ (own_P (.int (f1_0 p0)) h0 n0) v U'.heap L ∧ FrameEnd U o U' L ({ frames := 0, cells := 0, slots := 0, locals := 0 } : Room).cells ({ frames := 0, cells := 0, slots := 0, locals := 0 } : Room).slots) := by
  refine MetFree.of_bodySF (plainFor_of_name pn1) hisR ?_
  intro p e s m args below meth c s₁ Bd hml0 hP hK
  obtain ⟨rfl, hZ, hh⟩ := hP
  have hown : s.vm.findClass "dev/lodestore/StoredMessage" = some m.cls := findClass_of_methodNamed Bd.named
  have X0 : Stand p l e ({ frames := 0, cells := 0, slots := 0, locals := 0 } : Room) s m #[(.int p0)] below meth c s₁ [] 0 0 := Stand.of_body Bd
  have e0 : s₁.heap = h0 := by rw [← hh, Bd.state]; rfl
  show own_Ends p e below s 0 0 (own_P (.int (f1_0 p0)) h0 n0) s₁ (entryFrame m #[(.int p0)] 2)
  refine own_step (fun t k => castTop (ef1 m p0) k) ?_
  exact b1_0 p0 X0 Bd.exec hZ hw Bd.bytes hml0 hown Bd.returns (BodyLoose.notSynchronized Bd) e0 (Fr.nil n0) rfl
theorem pn0 : plainName "dev/lodestore/StoredMessageHasUnitPinLaw" = true := by first | (simp [plainName, overriddenIn]; done) | decide +kernel
theorem ef0 (m : MethodId) (p0 : Int32) : entryFrame m #[(.int p0)] maxLocals = mkF m 0 #[.val (.int p0), .unset, .unset, .unset] [] := by first | (simp [entryFrame, mkF, argsToLocals, Value.category, maxLocals]; done) | rfl
def f0_66  : Int32 :=
  (0 : Int32)
set_option maxRecDepth 65536 in
set_option maxHeartbeats 4000000 in
theorem b0_66 {p : Program} {l : Launch} {e : Env} {s : State} {m : MethodId} {args : Array Value} {below : List Frame} {meth : Method} {c : Code} {T0 : State} {locs : List Loc} {Z : State} {a0 : Array Value} {h0 : Heap} {n0 : Nat} (i0 : Int32) (i1 : Int32) (i2 : Int32) (i3 : Int32) {r : Int32} (X0 : Stand p l e room_1 s m args below meth c T0 locs 0 0) (hx : p.tables.exec = Jvm.exec) (hZ : Z.Warmed39 s.vm) (hw : ∀ d ∈ tables_1, d.before a0 Z = true) (hby : c.code = code) (hml : c.maxLocals = 4) (hown : s.vm.findClass "dev/lodestore/StoredMessageHasUnitPinLaw" = some m.cls) (hret : meth.sig.returnType = some .boolean) (hlk : meth.locks = false) (e0 : T0.heap = h0) (N0 : Fr n0 locs) (hr : r = f0_66 ) :
    own_Ends p e below s 0 0 (own_P (.int r) h0 n0) T0 (mkF m 66 #[.val (.int i0), .val (.int i1), .val (.int i2), .val (.int i3)] []) := by
  unfold f0_66 at hr
  refine own_step (T' := T0) (f' := (mkF m 67 #[.val (.int i0), .val (.int i1), .val (.int i2), .val (.int i3)] [(.int (0 : Int32))])) (fun t kt => ?_) ?_
  · show Steps p.tables e below (T0.setTop (mkF m 66 #[.val (.int i0), .val (.int i1), .val (.int i2), .val (.int i3)] [])) _
    refine XS.iconst X0.here hx rfl (hb hby at_66) ?_
    exact kt
  exact own_retZ X0 hx hret (by simp) hlk (hb hby at_67) (Nat.le_refl _) (Nat.le_refl _) ⟨congrArg (fun z => some (Value.int z)) hr.symm, N0, e0⟩
def f0_59 (k0 : Int32) (k1 : Int32) : Int32 :=
  if k1 = k0 then ((1 : Int32)) else (f0_66 )
set_option maxRecDepth 65536 in
set_option maxHeartbeats 4000000 in
theorem b0_59 {p : Program} {l : Launch} {e : Env} {s : State} {m : MethodId} {args : Array Value} {below : List Frame} {meth : Method} {c : Code} {T0 : State} {locs : List Loc} {Z : State} {a0 : Array Value} {h0 : Heap} {n0 : Nat} (i0 : Int32) (i1 : Int32) (i2 : Int32) (i3 : Int32) (k0 : Int32) (k1 : Int32) {r : Int32} (X0 : Stand p l e room_1 s m args below meth c T0 locs 0 0) (hx : p.tables.exec = Jvm.exec) (hZ : Z.Warmed39 s.vm) (hw : ∀ d ∈ tables_1, d.before a0 Z = true) (hby : c.code = code) (hml : c.maxLocals = 4) (hown : s.vm.findClass "dev/lodestore/StoredMessageHasUnitPinLaw" = some m.cls) (hret : meth.sig.returnType = some .boolean) (hlk : meth.locks = false) (e0 : T0.heap = h0) (N0 : Fr n0 locs) (hr : r = f0_59 k0 k1) :
    own_Ends p e below s 0 0 (own_P (.int r) h0 n0) T0 (mkF m 59 #[.val (.int i0), .val (.int i1), .val (.int i2), .val (.int i3)] [(.int k0), (.int k1)]) := by
  unfold f0_59 at hr
  by_cases hc59_5 : k1 = k0
  · rw [if_pos hc59_5] at hr
    refine own_step (T' := T0) (f' := (mkF m 62 #[.val (.int i0), .val (.int i1), .val (.int i2), .val (.int i3)] [])) (fun t kt => ?_) ?_
    · show Steps p.tables e below (T0.setTop (mkF m 59 #[.val (.int i0), .val (.int i1), .val (.int i2), .val (.int i3)] [(.int k0), (.int k1)])) _
      refine XS.icmpNo X0.here hx rfl (hb hby at_59) rfl (teq hc59_5).2 kt
    refine own_step (T' := T0) (f' := (mkF m 67 #[.val (.int i0), .val (.int i1), .val (.int i2), .val (.int i3)] [(.int (1 : Int32))])) (fun t kt => ?_) ?_
    · show Steps p.tables e below (T0.setTop (mkF m 62 #[.val (.int i0), .val (.int i1), .val (.int i2), .val (.int i3)] [])) _
      refine XS.iconst X0.here hx rfl (hb hby at_62) ?_
      show Steps p.tables e below (T0.setTop (mkF m 63 #[.val (.int i0), .val (.int i1), .val (.int i2), .val (.int i3)] [(.int (1 : Int32))])) _
      refine XS.goto X0.here hx rfl (pc0 := 63) (pc' := 67) rfl (hb hby at_63) (by decide) (by decide) ?_
      exact kt
    exact own_retZ X0 hx hret (by simp) hlk (hb hby at_67) (Nat.le_refl _) (Nat.le_refl _) ⟨congrArg (fun z => some (Value.int z)) hr.symm, N0, e0⟩
  · rw [if_neg hc59_5] at hr
    refine own_step (T' := T0) (f' := (mkF m 66 #[.val (.int i0), .val (.int i1), .val (.int i2), .val (.int i3)] [])) (fun t kt => ?_) ?_
    · show Steps p.tables e below (T0.setTop (mkF m 59 #[.val (.int i0), .val (.int i1), .val (.int i2), .val (.int i3)] [(.int k0), (.int k1)])) _
      refine XS.icmpYes X0.here hx rfl (pc0 := 59) (pc' := 66) rfl (hb hby at_59) rfl (feq hc59_5).2 (by decide) (by decide) kt
    exact b0_66 i0 i1 i2 i3 X0 hx hZ hw hby hml hown hret hlk e0 N0 hr
def f0_42 (i0 : Int32) (i1 : Int32) (i3 : Int32) : Int32 :=
  if i1 = i3 then (if (i0 &&& (4 : Int32)) = (0 : Int32) then (f0_59 (1 : Int32) i1) else (f0_59 (0 : Int32) i1)) else (f0_66 )
set_option maxRecDepth 65536 in
set_option maxHeartbeats 4000000 in
theorem b0_42 {p : Program} {l : Launch} {e : Env} {s : State} {m : MethodId} {args : Array Value} {below : List Frame} {meth : Method} {c : Code} {T0 : State} {locs : List Loc} {Z : State} {a0 : Array Value} {h0 : Heap} {n0 : Nat} (i0 : Int32) (i1 : Int32) (i2 : Int32) (i3 : Int32) {r : Int32} (X0 : Stand p l e room_1 s m args below meth c T0 locs 0 0) (hx : p.tables.exec = Jvm.exec) (hZ : Z.Warmed39 s.vm) (hw : ∀ d ∈ tables_1, d.before a0 Z = true) (hby : c.code = code) (hml : c.maxLocals = 4) (hown : s.vm.findClass "dev/lodestore/StoredMessageHasUnitPinLaw" = some m.cls) (hret : meth.sig.returnType = some .boolean) (hlk : meth.locks = false) (e0 : T0.heap = h0) (N0 : Fr n0 locs) (hr : r = f0_42 i0 i1 i3) :
    own_Ends p e below s 0 0 (own_P (.int r) h0 n0) T0 (mkF m 42 #[.val (.int i0), .val (.int i1), .val (.int i2), .val (.int i3)] []) := by
  unfold f0_42 at hr
  refine own_step (T' := T0) (f' := (mkF m 44 #[.val (.int i0), .val (.int i1), .val (.int i2), .val (.int i3)] [(.int i3), (.int i1)])) (fun t kt => ?_) ?_
  · show Steps p.tables e below (T0.setTop (mkF m 42 #[.val (.int i0), .val (.int i1), .val (.int i2), .val (.int i3)] [])) _
    refine XS.iloadN X0.here hx rfl (hb hby at_42) rfl ?_
    show Steps p.tables e below (T0.setTop (mkF m 43 #[.val (.int i0), .val (.int i1), .val (.int i2), .val (.int i3)] [(.int i1)])) _
    refine XS.iloadN X0.here hx rfl (hb hby at_43) rfl ?_
    exact kt
  by_cases hc44_3 : i1 = i3
  · rw [if_pos hc44_3] at hr
    refine own_step (T' := T0) (f' := (mkF m 47 #[.val (.int i0), .val (.int i1), .val (.int i2), .val (.int i3)] [])) (fun t kt => ?_) ?_
    · show Steps p.tables e below (T0.setTop (mkF m 44 #[.val (.int i0), .val (.int i1), .val (.int i2), .val (.int i3)] [(.int i3), (.int i1)])) _
      refine XS.icmpNo X0.here hx rfl (hb hby at_44) rfl (teq hc44_3).2 kt
    refine own_step (T' := T0) (f' := (mkF m 51 #[.val (.int i0), .val (.int i1), .val (.int i2), .val (.int i3)] [(.int (i0 &&& (4 : Int32))), (.int i1)])) (fun t kt => ?_) ?_
    · show Steps p.tables e below (T0.setTop (mkF m 47 #[.val (.int i0), .val (.int i1), .val (.int i2), .val (.int i3)] [])) _
      refine XS.iloadN X0.here hx rfl (hb hby at_47) rfl ?_
      show Steps p.tables e below (T0.setTop (mkF m 48 #[.val (.int i0), .val (.int i1), .val (.int i2), .val (.int i3)] [(.int i1)])) _
      refine XS.iloadN X0.here hx rfl (hb hby at_48) rfl ?_
      show Steps p.tables e below (T0.setTop (mkF m 49 #[.val (.int i0), .val (.int i1), .val (.int i2), .val (.int i3)] [(.int i0), (.int i1)])) _
      refine XS.iconst X0.here hx rfl (hb hby at_49) ?_
      show Steps p.tables e below (T0.setTop (mkF m 50 #[.val (.int i0), .val (.int i1), .val (.int i2), .val (.int i3)] [(.int (4 : Int32)), (.int i0), (.int i1)])) _
      refine XS.iand X0.here hx rfl (hb hby at_50) rfl ?_
      exact kt
    by_cases hc51_4 : (i0 &&& (4 : Int32)) = (0 : Int32)
    · rw [if_pos hc51_4] at hr
      refine own_step (T' := T0) (f' := (mkF m 54 #[.val (.int i0), .val (.int i1), .val (.int i2), .val (.int i3)] [(.int i1)])) (fun t kt => ?_) ?_
      · show Steps p.tables e below (T0.setTop (mkF m 51 #[.val (.int i0), .val (.int i1), .val (.int i2), .val (.int i3)] [(.int (i0 &&& (4 : Int32))), (.int i1)])) _
        refine XS.ifNo X0.here hx rfl (hb hby at_51) rfl ((if0 _ _).trans (teq hc51_4).2) kt
      refine own_step (T' := T0) (f' := (mkF m 59 #[.val (.int i0), .val (.int i1), .val (.int i2), .val (.int i3)] [(.int (1 : Int32)), (.int i1)])) (fun t kt => ?_) ?_
      · show Steps p.tables e below (T0.setTop (mkF m 54 #[.val (.int i0), .val (.int i1), .val (.int i2), .val (.int i3)] [(.int i1)])) _
        refine XS.iconst X0.here hx rfl (hb hby at_54) ?_
        show Steps p.tables e below (T0.setTop (mkF m 55 #[.val (.int i0), .val (.int i1), .val (.int i2), .val (.int i3)] [(.int (1 : Int32)), (.int i1)])) _
        refine XS.goto X0.here hx rfl (pc0 := 55) (pc' := 59) rfl (hb hby at_55) (by decide) (by decide) ?_
        exact kt
      exact b0_59 i0 i1 i2 i3 (1 : Int32) i1 X0 hx hZ hw hby hml hown hret hlk e0 N0 hr
    · rw [if_neg hc51_4] at hr
      refine own_step (T' := T0) (f' := (mkF m 58 #[.val (.int i0), .val (.int i1), .val (.int i2), .val (.int i3)] [(.int i1)])) (fun t kt => ?_) ?_
      · show Steps p.tables e below (T0.setTop (mkF m 51 #[.val (.int i0), .val (.int i1), .val (.int i2), .val (.int i3)] [(.int (i0 &&& (4 : Int32))), (.int i1)])) _
        refine XS.ifYes X0.here hx rfl (pc0 := 51) (pc' := 58) rfl (hb hby at_51) rfl ((if0 _ _).trans (feq hc51_4).2) (by decide) (by decide) kt
      refine own_step (T' := T0) (f' := (mkF m 59 #[.val (.int i0), .val (.int i1), .val (.int i2), .val (.int i3)] [(.int (0 : Int32)), (.int i1)])) (fun t kt => ?_) ?_
      · show Steps p.tables e below (T0.setTop (mkF m 58 #[.val (.int i0), .val (.int i1), .val (.int i2), .val (.int i3)] [(.int i1)])) _
        refine XS.iconst X0.here hx rfl (hb hby at_58) ?_
        exact kt
      exact b0_59 i0 i1 i2 i3 (0 : Int32) i1 X0 hx hZ hw hby hml hown hret hlk e0 N0 hr
  · rw [if_neg hc44_3] at hr
    refine own_step (T' := T0) (f' := (mkF m 66 #[.val (.int i0), .val (.int i1), .val (.int i2), .val (.int i3)] [])) (fun t kt => ?_) ?_
    · show Steps p.tables e below (T0.setTop (mkF m 44 #[.val (.int i0), .val (.int i1), .val (.int i2), .val (.int i3)] [(.int i3), (.int i1)])) _
      refine XS.icmpYes X0.here hx rfl (pc0 := 44) (pc' := 66) rfl (hb hby at_44) rfl (feq hc44_3).2 (by decide) (by decide) kt
    exact b0_66 i0 i1 i2 i3 X0 hx hZ hw hby hml hown hret hlk e0 N0 hr
def f0_0 (p0 : Int32) : Int32 :=
  if ((p0 >>> ((2 : Int32) &&& 31)) &&& (3 : Int32)) = (0 : Int32) then (f0_42 p0 (f1_0 p0) (1 : Int32)) else (if ((p0 >>> ((2 : Int32) &&& 31)) &&& (3 : Int32)) = (1 : Int32) then (f0_42 p0 (f1_0 p0) (0 : Int32)) else (if ((p0 >>> ((2 : Int32) &&& 31)) &&& (3 : Int32)) = (2 : Int32) then (f0_42 p0 (f1_0 p0) (1 : Int32)) else (f0_42 p0 (f1_0 p0) (0 : Int32))))
set_option maxRecDepth 65536 in
set_option maxHeartbeats 4000000 in
theorem b0_0 {p : Program} {l : Launch} {e : Env} {s : State} {m : MethodId} {args : Array Value} {below : List Frame} {meth : Method} {c : Code} {T0 : State} {locs : List Loc} {Z : State} {a0 : Array Value} {h0 : Heap} {n0 : Nat} (p0 : Int32) {r : Int32} (X0 : Stand p l e room_1 s m args below meth c T0 locs 0 0) (hx : p.tables.exec = Jvm.exec) (hZ : Z.Warmed39 s.vm) (hw : ∀ d ∈ tables_1, d.before a0 Z = true) (hby : c.code = code) (hml : c.maxLocals = 4) (hown : s.vm.findClass "dev/lodestore/StoredMessageHasUnitPinLaw" = some m.cls) (hret : meth.sig.returnType = some .boolean) (hlk : meth.locks = false) (e0 : T0.heap = h0) (N0 : Fr n0 locs) (hr : r = f0_0 p0) :
    own_Ends p e below s 0 0 (own_P (.int r) h0 n0) T0 (mkF m 0 #[.val (.int p0), .unset, .unset, .unset] []) := by
  unfold f0_0 at hr
  refine own_step (T' := T0) (f' := (mkF m 1 #[.val (.int p0), .unset, .unset, .unset] [(.int p0)])) (fun t kt => ?_) ?_
  · show Steps p.tables e below (T0.setTop (mkF m 0 #[.val (.int p0), .unset, .unset, .unset] [])) _
    refine XS.iloadN X0.here hx rfl (hb hby at_0) rfl ?_
    exact kt
  obtain ⟨_, _, ⟨T1, L1, k1, n1⟩, -, X1, ⟨Lc1, hQ1, l1, y1, z1⟩, st1⟩ := Jvm.LawKit.callS X0 hx (y := (⟨"dev/lodestore/StoredMessage", "hasUnit", "(I)Z"⟩ : MethodName)) hown (mvT hZ (hw _ (List.mem_of_getElem? (i := 0) rfl))) (mvT hZ (hw _ (List.mem_of_getElem? (i := 1) rfl))) (mvT hZ (hw _ (List.mem_of_getElem? (i := 2) rfl))) (mvT hZ (hw _ (List.mem_of_getElem? (i := 3) rfl))) (by decide) (backOf (W := 0) (rm1 l Z a0 hw [] p0  h0 n0 ) hZ (hw _ (List.mem_of_getElem? (i := 3) rfl)) (hw _ (List.mem_of_getElem? (i := 2) rfl)) (by decide) (by decide)) (g := (mkF m 1 #[.val (.int p0), .unset, .unset, .unset] [(.int p0)])) rfl (by rw [hml]; rfl) (argsL := [(.int p0)]) (rest := []) (lenOf pd1 rfl) rfl (by show 2 * 0 + _ ≤ _; exact Nat.le_of_eq rfl) (hb hby at_1) (fun _ _ => ⟨rfl, e0, (by decide : 0 + 0 ≤ _), (by decide : 0 + 0 ≤ _)⟩)
  dsimp only [Pt.U, Pt.locs, Pt.cells, Pt.slots] at X1 l1 y1 z1 st1 hQ1
  subst l1 y1 z1
  obtain ⟨rfl, Nq1, e1⟩ := hQ1
  have N1 := Fr.app N0 Nq1
  refine own_step (T' := T1) (f' := (mkF m 4 #[.val (.int p0), .unset, .unset, .unset] [(.int (f1_0 p0))])) st1 ?_
  refine own_step (T' := T1) (f' := (mkF m 12 #[.val (.int p0), .val (.int (f1_0 p0)), .val (.int ((p0 >>> ((2 : Int32) &&& 31)) &&& (3 : Int32))), .unset] [(.int ((p0 >>> ((2 : Int32) &&& 31)) &&& (3 : Int32)))])) (fun t kt => ?_) ?_
  · show Steps p.tables e below (T1.setTop (mkF m 4 #[.val (.int p0), .unset, .unset, .unset] [(.int (f1_0 p0))])) _
    refine XS.istoreN X1.here hx rfl (hb hby at_4) rfl (l' := #[.val (.int p0), .val (.int (f1_0 p0)), .unset, .unset]) rfl ?_
    show Steps p.tables e below (T1.setTop (mkF m 5 #[.val (.int p0), .val (.int (f1_0 p0)), .unset, .unset] [])) _
    refine XS.iloadN X1.here hx rfl (hb hby at_5) rfl ?_
    show Steps p.tables e below (T1.setTop (mkF m 6 #[.val (.int p0), .val (.int (f1_0 p0)), .unset, .unset] [(.int p0)])) _
    refine XS.iconst X1.here hx rfl (hb hby at_6) ?_
    show Steps p.tables e below (T1.setTop (mkF m 7 #[.val (.int p0), .val (.int (f1_0 p0)), .unset, .unset] [(.int (2 : Int32)), (.int p0)])) _
    refine XS.ishr X1.here hx rfl (hb hby at_7) rfl ?_
    show Steps p.tables e below (T1.setTop (mkF m 8 #[.val (.int p0), .val (.int (f1_0 p0)), .unset, .unset] [(.int (p0 >>> ((2 : Int32) &&& 31)))])) _
    refine XS.iconst X1.here hx rfl (hb hby at_8) ?_
    show Steps p.tables e below (T1.setTop (mkF m 9 #[.val (.int p0), .val (.int (f1_0 p0)), .unset, .unset] [(.int (3 : Int32)), (.int (p0 >>> ((2 : Int32) &&& 31)))])) _
    refine XS.iand X1.here hx rfl (hb hby at_9) rfl ?_
    show Steps p.tables e below (T1.setTop (mkF m 10 #[.val (.int p0), .val (.int (f1_0 p0)), .unset, .unset] [(.int ((p0 >>> ((2 : Int32) &&& 31)) &&& (3 : Int32)))])) _
    refine XS.istoreN X1.here hx rfl (hb hby at_10) rfl (l' := #[.val (.int p0), .val (.int (f1_0 p0)), .val (.int ((p0 >>> ((2 : Int32) &&& 31)) &&& (3 : Int32))), .unset]) rfl ?_
    show Steps p.tables e below (T1.setTop (mkF m 11 #[.val (.int p0), .val (.int (f1_0 p0)), .val (.int ((p0 >>> ((2 : Int32) &&& 31)) &&& (3 : Int32))), .unset] [])) _
    refine XS.iloadN X1.here hx rfl (hb hby at_11) rfl ?_
    exact kt
  by_cases hc12_2 : ((p0 >>> ((2 : Int32) &&& 31)) &&& (3 : Int32)) = (0 : Int32)
  · rw [if_pos hc12_2] at hr
    refine own_step (T' := T1) (f' := (mkF m 15 #[.val (.int p0), .val (.int (f1_0 p0)), .val (.int ((p0 >>> ((2 : Int32) &&& 31)) &&& (3 : Int32))), .unset] [])) (fun t kt => ?_) ?_
    · show Steps p.tables e below (T1.setTop (mkF m 12 #[.val (.int p0), .val (.int (f1_0 p0)), .val (.int ((p0 >>> ((2 : Int32) &&& 31)) &&& (3 : Int32))), .unset] [(.int ((p0 >>> ((2 : Int32) &&& 31)) &&& (3 : Int32)))])) _
      refine XS.ifNo X1.here hx rfl (hb hby at_12) rfl ((if0 _ _).trans (teq hc12_2).2) kt
    refine own_step (T' := T1) (f' := (mkF m 42 #[.val (.int p0), .val (.int (f1_0 p0)), .val (.int ((p0 >>> ((2 : Int32) &&& 31)) &&& (3 : Int32))), .val (.int (1 : Int32))] [])) (fun t kt => ?_) ?_
    · show Steps p.tables e below (T1.setTop (mkF m 15 #[.val (.int p0), .val (.int (f1_0 p0)), .val (.int ((p0 >>> ((2 : Int32) &&& 31)) &&& (3 : Int32))), .unset] [])) _
      refine XS.iconst X1.here hx rfl (hb hby at_15) ?_
      show Steps p.tables e below (T1.setTop (mkF m 16 #[.val (.int p0), .val (.int (f1_0 p0)), .val (.int ((p0 >>> ((2 : Int32) &&& 31)) &&& (3 : Int32))), .unset] [(.int (1 : Int32))])) _
      refine XS.istoreN X1.here hx rfl (hb hby at_16) rfl (l' := #[.val (.int p0), .val (.int (f1_0 p0)), .val (.int ((p0 >>> ((2 : Int32) &&& 31)) &&& (3 : Int32))), .val (.int (1 : Int32))]) rfl ?_
      show Steps p.tables e below (T1.setTop (mkF m 17 #[.val (.int p0), .val (.int (f1_0 p0)), .val (.int ((p0 >>> ((2 : Int32) &&& 31)) &&& (3 : Int32))), .val (.int (1 : Int32))] [])) _
      refine XS.goto X1.here hx rfl (pc0 := 17) (pc' := 42) rfl (hb hby at_17) (by decide) (by decide) ?_
      exact kt
    exact b0_42 p0 (f1_0 p0) ((p0 >>> ((2 : Int32) &&& 31)) &&& (3 : Int32)) (1 : Int32) X1 hx hZ hw hby hml hown hret hlk e1 N1 hr
  · rw [if_neg hc12_2] at hr
    refine own_step (T' := T1) (f' := (mkF m 20 #[.val (.int p0), .val (.int (f1_0 p0)), .val (.int ((p0 >>> ((2 : Int32) &&& 31)) &&& (3 : Int32))), .unset] [])) (fun t kt => ?_) ?_
    · show Steps p.tables e below (T1.setTop (mkF m 12 #[.val (.int p0), .val (.int (f1_0 p0)), .val (.int ((p0 >>> ((2 : Int32) &&& 31)) &&& (3 : Int32))), .unset] [(.int ((p0 >>> ((2 : Int32) &&& 31)) &&& (3 : Int32)))])) _
      refine XS.ifYes X1.here hx rfl (pc0 := 12) (pc' := 20) rfl (hb hby at_12) rfl ((if0 _ _).trans (feq hc12_2).2) (by decide) (by decide) kt
    refine own_step (T' := T1) (f' := (mkF m 22 #[.val (.int p0), .val (.int (f1_0 p0)), .val (.int ((p0 >>> ((2 : Int32) &&& 31)) &&& (3 : Int32))), .unset] [(.int (1 : Int32)), (.int ((p0 >>> ((2 : Int32) &&& 31)) &&& (3 : Int32)))])) (fun t kt => ?_) ?_
    · show Steps p.tables e below (T1.setTop (mkF m 20 #[.val (.int p0), .val (.int (f1_0 p0)), .val (.int ((p0 >>> ((2 : Int32) &&& 31)) &&& (3 : Int32))), .unset] [])) _
      refine XS.iloadN X1.here hx rfl (hb hby at_20) rfl ?_
      show Steps p.tables e below (T1.setTop (mkF m 21 #[.val (.int p0), .val (.int (f1_0 p0)), .val (.int ((p0 >>> ((2 : Int32) &&& 31)) &&& (3 : Int32))), .unset] [(.int ((p0 >>> ((2 : Int32) &&& 31)) &&& (3 : Int32)))])) _
      refine XS.iconst X1.here hx rfl (hb hby at_21) ?_
      exact kt
    by_cases hc22_6 : ((p0 >>> ((2 : Int32) &&& 31)) &&& (3 : Int32)) = (1 : Int32)
    · rw [if_pos hc22_6] at hr
      refine own_step (T' := T1) (f' := (mkF m 25 #[.val (.int p0), .val (.int (f1_0 p0)), .val (.int ((p0 >>> ((2 : Int32) &&& 31)) &&& (3 : Int32))), .unset] [])) (fun t kt => ?_) ?_
      · show Steps p.tables e below (T1.setTop (mkF m 22 #[.val (.int p0), .val (.int (f1_0 p0)), .val (.int ((p0 >>> ((2 : Int32) &&& 31)) &&& (3 : Int32))), .unset] [(.int (1 : Int32)), (.int ((p0 >>> ((2 : Int32) &&& 31)) &&& (3 : Int32)))])) _
        refine XS.icmpNo X1.here hx rfl (hb hby at_22) rfl (teq hc22_6).2 kt
      refine own_step (T' := T1) (f' := (mkF m 42 #[.val (.int p0), .val (.int (f1_0 p0)), .val (.int ((p0 >>> ((2 : Int32) &&& 31)) &&& (3 : Int32))), .val (.int (0 : Int32))] [])) (fun t kt => ?_) ?_
      · show Steps p.tables e below (T1.setTop (mkF m 25 #[.val (.int p0), .val (.int (f1_0 p0)), .val (.int ((p0 >>> ((2 : Int32) &&& 31)) &&& (3 : Int32))), .unset] [])) _
        refine XS.iconst X1.here hx rfl (hb hby at_25) ?_
        show Steps p.tables e below (T1.setTop (mkF m 26 #[.val (.int p0), .val (.int (f1_0 p0)), .val (.int ((p0 >>> ((2 : Int32) &&& 31)) &&& (3 : Int32))), .unset] [(.int (0 : Int32))])) _
        refine XS.istoreN X1.here hx rfl (hb hby at_26) rfl (l' := #[.val (.int p0), .val (.int (f1_0 p0)), .val (.int ((p0 >>> ((2 : Int32) &&& 31)) &&& (3 : Int32))), .val (.int (0 : Int32))]) rfl ?_
        show Steps p.tables e below (T1.setTop (mkF m 27 #[.val (.int p0), .val (.int (f1_0 p0)), .val (.int ((p0 >>> ((2 : Int32) &&& 31)) &&& (3 : Int32))), .val (.int (0 : Int32))] [])) _
        refine XS.goto X1.here hx rfl (pc0 := 27) (pc' := 42) rfl (hb hby at_27) (by decide) (by decide) ?_
        exact kt
      exact b0_42 p0 (f1_0 p0) ((p0 >>> ((2 : Int32) &&& 31)) &&& (3 : Int32)) (0 : Int32) X1 hx hZ hw hby hml hown hret hlk e1 N1 hr
    · rw [if_neg hc22_6] at hr
      refine own_step (T' := T1) (f' := (mkF m 30 #[.val (.int p0), .val (.int (f1_0 p0)), .val (.int ((p0 >>> ((2 : Int32) &&& 31)) &&& (3 : Int32))), .unset] [])) (fun t kt => ?_) ?_
      · show Steps p.tables e below (T1.setTop (mkF m 22 #[.val (.int p0), .val (.int (f1_0 p0)), .val (.int ((p0 >>> ((2 : Int32) &&& 31)) &&& (3 : Int32))), .unset] [(.int (1 : Int32)), (.int ((p0 >>> ((2 : Int32) &&& 31)) &&& (3 : Int32)))])) _
        refine XS.icmpYes X1.here hx rfl (pc0 := 22) (pc' := 30) rfl (hb hby at_22) rfl (feq hc22_6).2 (by decide) (by decide) kt
      refine own_step (T' := T1) (f' := (mkF m 32 #[.val (.int p0), .val (.int (f1_0 p0)), .val (.int ((p0 >>> ((2 : Int32) &&& 31)) &&& (3 : Int32))), .unset] [(.int (2 : Int32)), (.int ((p0 >>> ((2 : Int32) &&& 31)) &&& (3 : Int32)))])) (fun t kt => ?_) ?_
      · show Steps p.tables e below (T1.setTop (mkF m 30 #[.val (.int p0), .val (.int (f1_0 p0)), .val (.int ((p0 >>> ((2 : Int32) &&& 31)) &&& (3 : Int32))), .unset] [])) _
        refine XS.iloadN X1.here hx rfl (hb hby at_30) rfl ?_
        show Steps p.tables e below (T1.setTop (mkF m 31 #[.val (.int p0), .val (.int (f1_0 p0)), .val (.int ((p0 >>> ((2 : Int32) &&& 31)) &&& (3 : Int32))), .unset] [(.int ((p0 >>> ((2 : Int32) &&& 31)) &&& (3 : Int32)))])) _
        refine XS.iconst X1.here hx rfl (hb hby at_31) ?_
        exact kt
      by_cases hc32_7 : ((p0 >>> ((2 : Int32) &&& 31)) &&& (3 : Int32)) = (2 : Int32)
      · rw [if_pos hc32_7] at hr
        refine own_step (T' := T1) (f' := (mkF m 35 #[.val (.int p0), .val (.int (f1_0 p0)), .val (.int ((p0 >>> ((2 : Int32) &&& 31)) &&& (3 : Int32))), .unset] [])) (fun t kt => ?_) ?_
        · show Steps p.tables e below (T1.setTop (mkF m 32 #[.val (.int p0), .val (.int (f1_0 p0)), .val (.int ((p0 >>> ((2 : Int32) &&& 31)) &&& (3 : Int32))), .unset] [(.int (2 : Int32)), (.int ((p0 >>> ((2 : Int32) &&& 31)) &&& (3 : Int32)))])) _
          refine XS.icmpNo X1.here hx rfl (hb hby at_32) rfl (teq hc32_7).2 kt
        refine own_step (T' := T1) (f' := (mkF m 42 #[.val (.int p0), .val (.int (f1_0 p0)), .val (.int ((p0 >>> ((2 : Int32) &&& 31)) &&& (3 : Int32))), .val (.int (1 : Int32))] [])) (fun t kt => ?_) ?_
        · show Steps p.tables e below (T1.setTop (mkF m 35 #[.val (.int p0), .val (.int (f1_0 p0)), .val (.int ((p0 >>> ((2 : Int32) &&& 31)) &&& (3 : Int32))), .unset] [])) _
          refine XS.iconst X1.here hx rfl (hb hby at_35) ?_
          show Steps p.tables e below (T1.setTop (mkF m 36 #[.val (.int p0), .val (.int (f1_0 p0)), .val (.int ((p0 >>> ((2 : Int32) &&& 31)) &&& (3 : Int32))), .unset] [(.int (1 : Int32))])) _
          refine XS.istoreN X1.here hx rfl (hb hby at_36) rfl (l' := #[.val (.int p0), .val (.int (f1_0 p0)), .val (.int ((p0 >>> ((2 : Int32) &&& 31)) &&& (3 : Int32))), .val (.int (1 : Int32))]) rfl ?_
          show Steps p.tables e below (T1.setTop (mkF m 37 #[.val (.int p0), .val (.int (f1_0 p0)), .val (.int ((p0 >>> ((2 : Int32) &&& 31)) &&& (3 : Int32))), .val (.int (1 : Int32))] [])) _
          refine XS.goto X1.here hx rfl (pc0 := 37) (pc' := 42) rfl (hb hby at_37) (by decide) (by decide) ?_
          exact kt
        exact b0_42 p0 (f1_0 p0) ((p0 >>> ((2 : Int32) &&& 31)) &&& (3 : Int32)) (1 : Int32) X1 hx hZ hw hby hml hown hret hlk e1 N1 hr
      · rw [if_neg hc32_7] at hr
        refine own_step (T' := T1) (f' := (mkF m 40 #[.val (.int p0), .val (.int (f1_0 p0)), .val (.int ((p0 >>> ((2 : Int32) &&& 31)) &&& (3 : Int32))), .unset] [])) (fun t kt => ?_) ?_
        · show Steps p.tables e below (T1.setTop (mkF m 32 #[.val (.int p0), .val (.int (f1_0 p0)), .val (.int ((p0 >>> ((2 : Int32) &&& 31)) &&& (3 : Int32))), .unset] [(.int (2 : Int32)), (.int ((p0 >>> ((2 : Int32) &&& 31)) &&& (3 : Int32)))])) _
          refine XS.icmpYes X1.here hx rfl (pc0 := 32) (pc' := 40) rfl (hb hby at_32) rfl (feq hc32_7).2 (by decide) (by decide) kt
        refine own_step (T' := T1) (f' := (mkF m 42 #[.val (.int p0), .val (.int (f1_0 p0)), .val (.int ((p0 >>> ((2 : Int32) &&& 31)) &&& (3 : Int32))), .val (.int (0 : Int32))] [])) (fun t kt => ?_) ?_
        · show Steps p.tables e below (T1.setTop (mkF m 40 #[.val (.int p0), .val (.int (f1_0 p0)), .val (.int ((p0 >>> ((2 : Int32) &&& 31)) &&& (3 : Int32))), .unset] [])) _
          refine XS.iconst X1.here hx rfl (hb hby at_40) ?_
          show Steps p.tables e below (T1.setTop (mkF m 41 #[.val (.int p0), .val (.int (f1_0 p0)), .val (.int ((p0 >>> ((2 : Int32) &&& 31)) &&& (3 : Int32))), .unset] [(.int (0 : Int32))])) _
          refine XS.istoreN X1.here hx rfl (hb hby at_41) rfl (l' := #[.val (.int p0), .val (.int (f1_0 p0)), .val (.int ((p0 >>> ((2 : Int32) &&& 31)) &&& (3 : Int32))), .val (.int (0 : Int32))]) rfl ?_
          exact kt
        exact b0_42 p0 (f1_0 p0) ((p0 >>> ((2 : Int32) &&& 31)) &&& (3 : Int32)) (0 : Int32) X1 hx hZ hw hby hml hown hret hlk e1 N1 hr
set_option maxRecDepth 65536 in
set_option maxHeartbeats 4000000 in
theorem rm0 (l : Launch) (Z : State) (a0 : Array Value) (hw : ∀ d ∈ tables_1, d.before a0 Z = true) (ws : List Jvm.Cond) (p0 : Int32) (h0 : Heap) (n0 : Nat) :
    MetFree l x (head1 (Jvm.Cond.code x code maxLocals ret :: ws) room_1) (fun a U => a = #[(.int p0)] ∧ Z.Warmed39 U.vm ∧ U.heap = h0) (fun _ _ _ _ _ => True) (fun _ U o U' => ∃ v L, o = .returned v ∧ (own_P (.int (f0_0 p0)) h0 n0) v U'.heap L ∧ FrameEnd U o U' L 0 0) := by
  refine MetFree.of_bodySF (plainFor_of_name pn0) hisR ?_
  intro p e s m args below meth c s₁ Bd hml0 hP hK
  obtain ⟨rfl, hZ, hh⟩ := hP
  have hown : s.vm.findClass "dev/lodestore/StoredMessageHasUnitPinLaw" = some m.cls := findClass_of_methodNamed Bd.named
  have X0 : Stand p l e room_1 s m #[(.int p0)] below meth c s₁ [] 0 0 := Stand.of_body Bd
  have e0 : s₁.heap = h0 := by rw [← hh, Bd.state]; rfl
  show own_Ends p e below s 0 0 (own_P (.int (f0_0 p0)) h0 n0) s₁ (entryFrame m #[(.int p0)] maxLocals)
  refine own_step (fun t k => castTop (ef0 m p0) k) ?_
  exact b0_0 p0 X0 Bd.exec hZ hw Bd.bytes hml0 hown Bd.returns (BodyLoose.notSynchronized Bd) e0 (Fr.nil n0) rfl
theorem law_true (p0 : Int32) : f0_0 p0 = 1 := by
  have h15 : (p0 &&& 15).toInt = p0.toInt % (2 ^ 4 : Nat) := c_mask p0 15 4 (by decide) (by decide)
  have hs : (p0 >>> ((2 : Int32) &&& 31)).toInt = p0.toInt / (2 ^ 2 : Nat) := c_ishr p0 2 2 (by decide)
  have h3 : ((p0 >>> ((2 : Int32) &&& 31)) &&& (3 : Int32)).toInt = (p0 >>> ((2 : Int32) &&& 31)).toInt % (2 ^ 2 : Nat) := c_mask _ 3 2 (by decide) (by decide)
  have h12 : p0 &&& (12 : Int32) = (p0 &&& 15) &&& 12 := by rw [Int32.and_assoc]; rfl
  have h4 : p0 &&& (4 : Int32) = (p0 &&& 15) &&& 4 := by rw [Int32.and_assoc]; rfl
  have key : ∀ k : Fin 16, ∀ y z : Int32, y = Int32.ofNat k.val → z = Int32.ofNat (k.val / 4) →
      (y &&& 12 = (if z = 1 then 4 else if z = 3 then 12 else if z = 0 then 0 else 8)) ∧ (y &&& 4 = (if z = 1 then 4 else if z = 3 then 4 else 0)) ∧ (z = 0 ∨ z = 1 ∨ z = 2 ∨ z = 3) := by
    intro k y z hy hz; subst hy hz; revert k; decide +kernel
  have hy : p0 &&& 15 = Int32.ofNat (p0.toInt % 16).toNat := by
    apply Int32.toInt_inj.mp
    rw [h15, Int32.toInt_ofNat_of_lt (by omega)]; omega
  have hz : (p0 >>> ((2 : Int32) &&& 31)) &&& (3 : Int32) = Int32.ofNat ((p0.toInt % 16).toNat / 4) := by
    apply Int32.toInt_inj.mp
    rw [h3, hs, Int32.toInt_ofNat_of_lt (by omega)]; omega
  obtain ⟨k1, k2, k3⟩ := key ⟨(p0.toInt % 16).toNat, by omega⟩ _ _ hy hz
  unfold f0_0 f0_42 f0_59 f0_66 f1_0 f1_20
  rw [h12, h4, k1, k2]
  clear k1 k2 hy hz key h12 h4 h3 hs h15
  generalize (p0 >>> ((2 : Int32) &&& 31)) &&& (3 : Int32) = z at *
  rcases k3 with rfl | rfl | rfl | rfl <;> decide

set_option maxRecDepth 65536 in
set_option maxHeartbeats 4000000 in
theorem comes_1 {Post : Tables → Env → Array Value → State → Outcome → State → Prop} (hpost : ∀ tb e args s v u, (limb_1_1.after args s (.returned v) u = true ∧ limb_1_2.after args s (.returned v) u = true ∧ True) → FrameEnd s (.returned v) u (Jvm.fieldLocs frame_1_writes args s ++ Jvm.arrayLocs frame_1_arrays args s ++ Jvm.staticLocs frame_1_statics s) 0 0 → Post tb e args s (.returned v) u) :
    ArmFor flags0 classFile x code maxLocals ret World_1 tables_1 room_1 Calls_1 rest_1 Pre_1 Post := by
  intro l hfl _ _ p e ha hc hk s m args below hf hA hF happ hP
  obtain ⟨hcalls, hrest, hpre⟩ := hP
  obtain ⟨-, -, -, hnamed, -, -, -, hat⟩ := (Spec.applies_iff hf).mp happ
  obtain ⟨hg, hn⟩ := and_e (Cond.before_iff.mp (show (Jvm.Cond.and given_1 narrow_1).before args s = true from hpre))
  obtain ⟨g1, g2⟩ := and_e hg
  obtain ⟨w0, rfl⟩ : ∃ w0 : Value, args = #[w0] := by
    have hs : args.size = 1 := by simpa [Cond.value, given_1] using g1
    obtain ⟨L⟩ := args
    match L, hs with
    | [w0], _ => exact ⟨w0, rfl⟩
  have hw := fun d (hd : d ∈ tables_1) => atoms_spec (ws := Jvm.Cond.code x code maxLocals ret :: tables_1) hat d (List.mem_cons_of_mem _ hd)
  obtain ⟨i0, ei0⟩ := is_v g2
  obtain rfl : w0 = (.int i0) := Option.some.inj ei0
  obtain ⟨n, o, h1, h2, h3, _, L, rfl, ⟨rfl, N, -⟩, hq⟩ := rm0 l s _ hw tables_1 i0 s.heap s.heap.size p e ha hc hk s m _ below hf ((Spec.applies_iff_loose hf).mp happ).1 ⟨rfl, State.Warmed39.refl s, rfl⟩ trivial
  rw [law_true] at *
  refine ⟨n, _, h1, h2, h3, hpost _ _ _ _ _ _ ⟨Cond.after_iff.mpr rfl, Cond.after_iff.mpr (eq_i res_at (Term.int_eval (1)) rfl), trivial⟩ ⟨hq.1, hq.2.1, (hq.2.2.sift fun y hy => Or.inr (N y hy)).mono (by decide) (by decide)⟩⟩
theorem main_1_1 : Claimed_1_1 := comes_1 fun _ _ _ _ _ _ h hF => ⟨h.1, hF⟩
theorem main_1_2 : Claimed_1_2 := comes_1 fun _ _ _ _ _ _ h hF => ⟨h.2.1, hF⟩
end Jvm.Pilot.@@N@@
namespace Jvm.Pilot.@@N@@
open Jvm Jvm.ClassFile Sem Op Lib Jvm.Free Jvm.Stand Jvm.Pilot.@@N@@.Jvm.D
/-! MADE BY PROGRAM (witnessworld.py) out of the Statement's table words and the real class files: 10 classes; the members and pool entries that the words name. The judged class is class 1, her method 1. -/
namespace start1
open Jvm.ClassFile
def u (s : String) : CpInfo := .utf8 (stringToUtf16 s)
/-- a pool by its gaps: so many unusable entries, then the entry; so many at the end -/
def gap : Nat → List CpInfo → List CpInfo
  | 0, r => r
  | n + 1, r => .unusable :: gap n r
def poolList (es : List (Nat × CpInfo)) (last : Nat) : List CpInfo := es.foldr (fun e r => gap e.1 (e.2 :: r)) (gap last [])
def pool (es : List (Nat × CpInfo)) (last : Nat) : Array CpInfo := ⟨poolList es last⟩
def fileOf (pool : Array CpInfo) (this : Nat) (attrs : Array Attribute := #[]) (ms : Array MethodInfo := #[]) (fl : Nat := 33) (sup : Nat := 0) (ifs : Array Nat := #[]) (fds : Array FieldInfo := #[]) : ClassFile where
  minorVersion := 0
  majorVersion := 65
  constantPool := pool
  accessFlags := fl
  thisClass := this
  superClass := sup
  interfaces := ifs
  fields := fds
  methods := ms
  attributes := attrs
def plain (name : String) (sup : Option ClassId) : Class where
  name := name
  kind := .ordinary
  loader := none
  accessFlags := 33
  super := sup
  interfaces := #[]
  cf := none
  fields := #[]
  methods := #[]
  instanceTypes := #[]
  staticTypes := #[]
  resolved := #[]
  callSites := []
  init := .initialized
  statics := none
  mirror := none

def pool0 : Array CpInfo := pool [(5, u "<init>"), (0, u "()V"), (1, .class_ 10), (1, u "java/lang/Object")] 113

def k0m0 : Method := { name := "<init>", desc := "()V", sig := { parameters := [], returnType := none }, accessFlags := 1, code := none }
/-- java/lang/Object -/
def k0 : Class := { plain "java/lang/Object" none with
  accessFlags := 33
  interfaces := #[]
  cf := some (fileOf pool0 8 #[] #[{ accessFlags := 1, nameIndex := 5, descriptorIndex := 6, attributes := #[] }] 33 0 #[] #[])
  fields := #[]
  methods := #[k0m0]
  instanceTypes := #[]
  staticTypes := #[]
  resolved := Array.replicate 124 none
  statics := none }

def pool1 : Array CpInfo := pool [(2, .class_ 4), (1, u "java/lang/Object"), (0, u "<init>"), (0, u "()V"), (0, .methodref 8 9), (0, .class_ 10), (0, .nameAndType 11 12), (0, u "dev/lodestore/StoredMessage"), (0, u "hasUnit"), (0, u "(I)Z"), (0, .class_ 14), (0, u "dev/lodestore/StoredMessageHasUnitPinLaw"), (2, u "law")] 3

def k1m0 : Method := { name := "<init>", desc := "()V", sig := { parameters := [], returnType := none }, accessFlags := 2, code := none }
def k1c1 : Code := { maxStack := 3, maxLocals := 4, code := code, exceptionTable := #[], attributes := #[] }
def k1m1 : Method := { name := "law", desc := "(I)Z", sig := { parameters := [.int], returnType := some .boolean }, accessFlags := 9, code := some k1c1 }
/-- dev/lodestore/StoredMessageHasUnitPinLaw -/
def k1 : Class := { plain "dev/lodestore/StoredMessageHasUnitPinLaw" (some 0) with
  accessFlags := 49
  interfaces := #[]
  cf := some (fileOf pool1 13 #[] #[{ accessFlags := 2, nameIndex := 5, descriptorIndex := 6, attributes := #[] }, { accessFlags := 9, nameIndex := 17, descriptorIndex := 12, attributes := #[] }] 49 2 #[] #[])
  fields := #[]
  methods := #[k1m0, k1m1]
  instanceTypes := #[]
  staticTypes := #[]
  resolved := Array.replicate 21 none
  statics := none }

def pool2 : Array CpInfo := pool [(2, .class_ 4), (1, u "java/lang/Object"), (0, u "<init>"), (0, u "()V"), (0, .class_ 8), (0, u "java/lang/Record")] 13

def k2m0 : Method := { name := "<init>", desc := "()V", sig := { parameters := [], returnType := none }, accessFlags := 4, code := none }
/-- java/lang/Record -/
def k2 : Class := { plain "java/lang/Record" (some 0) with
  accessFlags := 1057
  interfaces := #[]
  cf := some (fileOf pool2 7 #[] #[{ accessFlags := 4, nameIndex := 5, descriptorIndex := 6, attributes := #[] }] 1057 2 #[] #[])
  fields := #[]
  methods := #[k2m0]
  instanceTypes := #[]
  staticTypes := #[]
  resolved := Array.replicate 22 none
  statics := none }

def pool3 : Array CpInfo := pool [(2, .class_ 4), (1, u "java/lang/Record"), (3, .class_ 10), (1, u "dev/lodestore/StoredMessage"), (0, u "topic"), (0, u "Ljava/lang/String;"), (2, u "queueId"), (0, u "I"), (2, u "queueOffset"), (0, u "J"), (2, u "commitLogOffset"), (2, u "size"), (2, u "flag"), (2, u "systemFlag"), (2, u "bornTimestamp"), (2, u "storeTimestamp"), (2, u "properties"), (0, u "Ljava/util/SortedMap;"), (2, u "body"), (0, u "[B"), (23, u "hasUnit"), (0, u "(I)Z"), (15, .class_ 88), (0, u "dev/lodestore/StoredMessage$Place"), (154, .class_ 244), (0, u "dev/lodestore/StoredMessage$Beside"), (2, u "NO_HASHES"), (0, u "[I"), (51, u "QUEUE_OFFSET_DIGITS"), (34, .class_ 336), (0, u "dev/lodestore/StoredMessage$Beside$Queues")] 32

def k3c0 : Code := { maxStack := 2, maxLocals := 2, code := prog_108_method_22_code, exceptionTable := #[], attributes := #[] }
def k3m0 : Method := { name := "hasUnit", desc := "(I)Z", sig := { parameters := [.int], returnType := some .boolean }, accessFlags := 8, code := some k3c0 }
/-- dev/lodestore/StoredMessage -/
def k3 : Class := { plain "dev/lodestore/StoredMessage" (some 2) with
  accessFlags := 49
  interfaces := #[]
  cf := some (fileOf pool3 8 #[.nestMembers #[243, 335, 87]] #[{ accessFlags := 8, nameIndex := 70, descriptorIndex := 71, attributes := #[] }] 49 2 #[] #[{ accessFlags := 18, nameIndex := 11, descriptorIndex := 12, attributes := #[] }, { accessFlags := 18, nameIndex := 15, descriptorIndex := 16, attributes := #[] }, { accessFlags := 18, nameIndex := 19, descriptorIndex := 20, attributes := #[] }, { accessFlags := 18, nameIndex := 23, descriptorIndex := 20, attributes := #[] }, { accessFlags := 18, nameIndex := 26, descriptorIndex := 16, attributes := #[] }, { accessFlags := 18, nameIndex := 29, descriptorIndex := 16, attributes := #[] }, { accessFlags := 18, nameIndex := 32, descriptorIndex := 16, attributes := #[] }, { accessFlags := 18, nameIndex := 35, descriptorIndex := 20, attributes := #[] }, { accessFlags := 18, nameIndex := 38, descriptorIndex := 20, attributes := #[] }, { accessFlags := 18, nameIndex := 41, descriptorIndex := 42, attributes := #[] }, { accessFlags := 18, nameIndex := 45, descriptorIndex := 46, attributes := #[] }, { accessFlags := 26, nameIndex := 247, descriptorIndex := 248, attributes := #[] }, { accessFlags := 26, nameIndex := 300, descriptorIndex := 16, attributes := #[] }])
  fields := #[{ name := "topic", type := (.object "java/lang/String"), accessFlags := 18, slot := 0, constantValue := 0 }, { name := "queueId", type := .int, accessFlags := 18, slot := 1, constantValue := 0 }, { name := "queueOffset", type := .long, accessFlags := 18, slot := 2, constantValue := 0 }, { name := "commitLogOffset", type := .long, accessFlags := 18, slot := 3, constantValue := 0 }, { name := "size", type := .int, accessFlags := 18, slot := 4, constantValue := 0 }, { name := "flag", type := .int, accessFlags := 18, slot := 5, constantValue := 0 }, { name := "systemFlag", type := .int, accessFlags := 18, slot := 6, constantValue := 0 }, { name := "bornTimestamp", type := .long, accessFlags := 18, slot := 7, constantValue := 0 }, { name := "storeTimestamp", type := .long, accessFlags := 18, slot := 8, constantValue := 0 }, { name := "properties", type := (.object "java/util/SortedMap"), accessFlags := 18, slot := 9, constantValue := 0 }, { name := "body", type := (.array .byte), accessFlags := 18, slot := 10, constantValue := 0 }, { name := "NO_HASHES", type := (.array .int), accessFlags := 26, slot := 0, constantValue := 0 }, { name := "QUEUE_OFFSET_DIGITS", type := .int, accessFlags := 26, slot := 1, constantValue := 0 }]
  methods := #[k3m0]
  instanceTypes := #[(.object "java/lang/String"), .int, .long, .long, .int, .int, .int, .long, .long, (.object "java/util/SortedMap"), (.array .byte)]
  staticTypes := #[(.array .int), .int]
  resolved := Array.replicate 369 none
  statics := none }

def pool4 : Array CpInfo := pool [(1, u "java/lang/Cloneable"), (0, .class_ 1), (0, u "java/lang/Object"), (0, .class_ 3)] 3

/-- java/lang/Cloneable -/
def k4 : Class := { plain "java/lang/Cloneable" (some 0) with
  accessFlags := 1537
  interfaces := #[]
  cf := some (fileOf pool4 2 #[] #[] 1537 4 #[] #[])
  fields := #[]
  methods := #[]
  instanceTypes := #[]
  staticTypes := #[]
  resolved := Array.replicate 8 none
  statics := none }

def pool5 : Array CpInfo := pool [(1, u "java/io/Serializable"), (0, .class_ 1), (0, u "java/lang/Object"), (0, .class_ 3)] 3

/-- java/io/Serializable -/
def k5 : Class := { plain "java/io/Serializable" (some 0) with
  accessFlags := 1537
  interfaces := #[]
  cf := some (fileOf pool5 2 #[] #[] 1537 4 #[] #[])
  fields := #[]
  methods := #[]
  instanceTypes := #[]
  staticTypes := #[]
  resolved := Array.replicate 8 none
  statics := none }

/-- the primitive byte -/
def k6 : Class := { plain "byte" none with kind := .primitive 'B', accessFlags := 0x411 }
/-- [B -/
def k7 : Class := { plain "[B" (some 0) with kind := .array 6 .byte, interfaces := #[4, 5], accessFlags := 1041 }

/-- the primitive int -/
def k8 : Class := { plain "int" none with kind := .primitive 'I', accessFlags := 0x411 }
/-- [I -/
def k9 : Class := { plain "[I" (some 0) with kind := .array 8 .int, interfaces := #[4, 5], accessFlags := 1041 }

def heap : Heap := #[]
def classes : Array Class := #[k0, k1, k2, k3, k4, k5, k6, k7, k8, k9]
def interned : List (Array UInt16 × Addr) := []
def slotsUsed : Nat := 0
def theMethod : MethodId := ⟨1, 1⟩
def args0 : Array Value := #[.int 5]
def aboutOver (below : List Frame) : State where
  vm := { classes := classes, interned := interned.toArray }
  heap := heap
  slotsUsed := slotsUsed
  threads := #[{ frames := .invoking theMethod args0 :: below }]
def below0 : List Frame := [.native { method := ⟨0, 0⟩, args := #[] }]
def about1 : State := aboutOver below0
def p0 : Program := .bare "" "" ""
def e0 : Env := launch0.env 0 0 0
theorem w_frames : about1.frames = Frame.invoking theMethod args0 :: below0 := rfl
set_option maxRecDepth 65536 in
theorem w_args : argsFit about1.vm theMethod args0 = true := by decide +kernel
set_option maxRecDepth 65536 in
theorem w_heap : heapFits about1 = true := by decide +kernel
set_option maxRecDepth 65536 in
theorem w_runnable : about1.curStatus? = some .runnable := by decide +kernel
set_option maxRecDepth 65536 in
theorem w_alone : about1.alone = true := by decide +kernel
set_option maxRecDepth 65536 in
theorem w_named : about1.methodNamed? x = some theMethod := by decide +kernel
set_option maxRecDepth 65536 in
theorem w_hears : about1.hears theMethod below0 = true := by decide +kernel
set_option maxRecDepth 65536 in
theorem w_ripe : about1.ripe theMethod args0 below0 = true := by decide +kernel
theorem w_running : about1.status = .running := rfl
set_option maxRecDepth 65536 in
theorem w_room : about1.hasRoom e0.platform room_1 = true :=
  launch0.hasRoom_least _ room_1 (by decide +kernel) (by decide +kernel) (by decide +kernel) (by decide +kernel) (by decide +kernel) (by decide +kernel)
theorem allAtoms_all (ts : List Jvm.Cond) (a : Array Jvm.Value) (st : Jvm.State) : (allAtoms ts).before a st = ts.all (fun c => c.before a st) := by
  induction ts with
  | nil => rfl
  | cons c t ih =>
    show (Jvm.Cond.and c (allAtoms t)).before a st = _
    rw [Jvm.Cond.before_and, ih, List.all_cons]
def words1 : List Jvm.Cond := Jvm.Cond.code x code maxLocals ret :: tables_1
/-- a 'code' word, met by the world's own term for the bytes: nothing is compared byte by byte -/
theorem code_word {y : MethodName} {bytes : ByteArray} {mx : Nat} {rt : Option FieldType} {a : Array Value} {s : State} {m : MethodId} {meth : Method} {c : Code} (h1 : s.methodNamed? y = some m) (h2 : s.vm.method? m = some meth) (h3 : meth.code = some c) (h4 : c.code = bytes)
    (h5 : (c.maxLocals == mx && c.exceptionTable.isEmpty && decide (c.maxStack ≤ mostOperands) && decide (meth.sig.returnType = rt) && !meth.locks && decide (parseMethodDescriptor y.desc = some meth.sig)) = true) : (Jvm.Cond.code y bytes mx rt).before a s = true := by
  simp only [Bool.and_eq_true, beq_iff_eq, Bool.not_eq_true', decide_eq_true_eq] at h5
  obtain ⟨⟨⟨⟨⟨g1, g2⟩, g3⟩, g4⟩, g5⟩, g6⟩ := h5
  simp [Cond.before, Cond.holds, Cond.value, h1, h2, h3, h4, g1, g2, g3, g4, g5, g6]
def isCode : Jvm.Cond → Bool
  | .code _ _ _ _ => true
  | _ => false
theorem all_split {L : List Jvm.Cond} {P : Jvm.Cond → Bool} (h1 : L.all (fun c => isCode c || P c) = true) (h2 : ∀ c ∈ L.filter isCode, P c = true) : L.all P = true := by
  refine List.all_eq_true.mpr fun c hc => ?_
  have h := List.all_eq_true.mp h1 c hc
  rcases Bool.eq_false_or_eq_true (isCode c) with hi | hi
  · exact h2 c (List.mem_filter.mpr ⟨hc, hi⟩)
  · simpa [hi] using h
set_option maxRecDepth 65536 in
theorem w_c0 : (Jvm.Cond.code x code maxLocals ret).before args0 about1 = true := code_word (m := ⟨1, 1⟩) (meth := k1m1) (c := k1c1) (by decide +kernel) rfl rfl rfl (by decide +kernel)
set_option maxRecDepth 65536 in
theorem w_c1 : (Jvm.Cond.code ({ cls := "dev/lodestore/StoredMessage", name := "hasUnit", desc := "(I)Z" } : Jvm.MethodName) prog_108_method_22_code (2 : Nat) (Option.some Jvm.ClassFile.FieldType.boolean)).before args0 about1 = true := code_word (m := ⟨3, 0⟩) (meth := k3m0) (c := k3c0) (by decide +kernel) rfl rfl rfl (by decide +kernel)
def codes1 : List Jvm.Cond := [Jvm.Cond.code x code maxLocals ret, Jvm.Cond.code ({ cls := "dev/lodestore/StoredMessage", name := "hasUnit", desc := "(I)Z" } : Jvm.MethodName) prog_108_method_22_code (2 : Nat) (Option.some Jvm.ClassFile.FieldType.boolean)]
set_option maxRecDepth 65536 in
theorem codes_eq : words1.filter isCode = codes1 := rfl
theorem w_codes : ∀ c ∈ words1.filter isCode, c.before args0 about1 = true := by
  rw [codes_eq]
  intro c hc
  simp only [codes1, List.mem_cons, List.not_mem_nil, or_false] at hc
  rcases hc with rfl | rfl
  · exact w_c0
  · exact w_c1
set_option maxRecDepth 65536 in
theorem w_t1 : words1.all (fun c => isCode c || c.before args0 about1) = true := by decide +kernel
theorem w_tables : (allAtoms (Jvm.Cond.code x code maxLocals ret :: tables_1)).before args0 about1 = true := by
  rw [allAtoms_all]
  show words1.all (fun c => c.before args0 about1) = true
  refine all_split ?_ w_codes
  rw [w_t1]
set_option maxRecDepth 65536 in
theorem w_case : (Jvm.Cond.and given_1 narrow_1).before args0 about1 = true := by decide +kernel
theorem w_applies : (headSpec (Jvm.Cond.code x code maxLocals ret :: tables_1) room_1).applies x e0.platform about1 = true :=
  (Spec.applies_iff w_frames).mpr ⟨w_running, w_runnable, w_alone, w_named, w_hears, w_ripe, w_room, w_tables⟩
theorem atStart : AtStart classFile x code maxLocals ret World_1 tables_1 room_1 Calls_1 rest_1 Pre_1 launch0 p0 e0 about1 theMethod args0 below0 :=
  ⟨lists_1, trivial, launch0.admits_env _ _ _, launch0.least_env, fairChoices_fair.cas, fairChoices_fair.clock, w_frames, w_args, w_heap, w_applies, trivial, trivial, w_case⟩
end start1
theorem witness_1 : WitnessClaimed_1 := ⟨start1.p0, start1.e0, start1.about1, start1.theMethod, start1.args0, start1.below0, start1.atStart⟩
end Jvm.Pilot.@@N@@
