import JvmDerived
import JvmDerived.Pilot.@@N@@Statement
import JvmDerived.Pilot.@@N@@Code
set_option linter.unusedVariables false
set_option linter.unusedSimpArgs false
namespace Jvm.RoadKit
open Sem ClassFile Op Lib Jvm.Stand Jvm.Free Jvm.LawKit
section New
variable {p : Program} {l : Launch} {e : Env} {R : Room} {s : State} {m : MethodId} {args : Array Value} {below : List Frame} {meth : Method} {c : Code} {T : State} {locs : List Loc} {cells slots : Nat}
theorem retI (X : Stand p l e R s m args below meth c T locs cells slots) (hx : p.tables.exec = Jvm.exec) {pc : Nat} {Ls : Array Slot} {z : Int32} {rest : List Value} (hret : meth.sig.returnType = some .int) (hd : decode c.code pc = .ok (.ireturn, 1)) {fs : List Frame}
    (hl : ∀ (f : JFrame) (acts : List Action), f.method = m → f.locked = none → f.entered = [] → (doReturn e (T.setTop f) acts (some (.int z))).1 = T.setFrames fs) : Steps p.tables e below (T.setTop (mkF m pc Ls (.int z :: rest))) (T.setFrames fs) := by
  have hm' : T.vm.method? m = some meth := X.method'
  have hn : narrow .int (.int z) = .int z := rfl
  show Steps p.tables e below (T.setTop { method := m, pc := pc, locals := Ls, stack := _ :: rest, locked := none }) _
  jvm_step X.here [X.here.top, hx, hd, hm', hret, hn]
  first | (intro acts; rw [hl _ acts rfl rfl rfl]) | rw [hl _ _ rfl rfl rfl]
  exact Steps.refl _
end New
end Jvm.RoadKit
namespace Jvm.Pilot.@@N@@
open Jvm Jvm.ClassFile Sem Op Lib Jvm.Free Jvm.Stand Jvm.LawKit Jvm.RoadKit Bundle Jvm.Pilot.@@N@@.Jvm.D
section Own
variable {p : Program} {l : Launch} {e : Env} {R : Room} {s : State} {m : MethodId} {args : Array Value} {below : List Frame} {meth : Method} {c : Code} {T T' : State} {locs : List Loc} {cells slots : Nat}
/-- what a walk has still to come to: it ends, with an answer of which Q is true -/
def own_Ends (p : Program) (e : Env) (below : List Frame) (U : State) (C S : Nat) (Q : Option Value → Heap → List Loc → Prop) (T : State) (f : JFrame) : Prop :=
  ∃ s₂ o, Steps p.tables e below (T.setTop f) s₂ ∧ s₂.status = .running ∧ Ended s₂ below o ∧ ∃ v L, o = .returned v ∧ Q v s₂.heap L ∧ FrameEnd U o s₂ L C S
theorem own_step {U : State} {C S : Nat} {Q : Option Value → Heap → List Loc → Prop} {f f' : JFrame} (h : ∀ t, Steps p.tables e below (T'.setTop f') t → Steps p.tables e below (T.setTop f) t) (k : own_Ends p e below U C S Q T' f') : own_Ends p e below U C S Q T f := by
  obtain ⟨s₂, o, h1, h2⟩ := k
  exact ⟨s₂, o, h _ h1, h2⟩
/-- a pure answer: that value, nothing old written, the heap as it was -/
def own_P (w : Value) (h0 : Heap) (n0 : Nat) (v : Option Value) (h : Heap) (L : List Loc) : Prop := v = some w ∧ Fr n0 L ∧ h = h0
theorem own_retZ {C S : Nat} {Q : Option Value → Heap → List Loc → Prop} {pc : Nat} {Ls : Array Slot} {z : Int32} {t : FieldType} {rest : List Value} (X : Stand p l e R s m args below meth c T locs cells slots) (hx : p.tables.exec = Jvm.exec) (hret : meth.sig.returnType = some t) (ht : t = .boolean ∨ t = .byte ∨ t = .char ∨ t = .short) (hlk : meth.locks = false)
    (hd : decode c.code pc = .ok (.ireturn, 1)) (hC : cells ≤ C) (hS : slots ≤ S) (hq : Q (some (.int (nar t z))) T.heap locs) : own_Ends p e below s C S Q T (mkF m pc Ls (.int z :: rest)) := by
  obtain ⟨fs, hr, hrun, hended, hW, hsame⟩ := X.leave (v := some (.int (nar t z))) (fun h => by rw [hret] at h; cases h) hlk
  exact ⟨_, _, retN X hx hret ht hd hr, hrun, hended, _, _, rfl, hq, ⟨_, rfl⟩, hW, hsame.mono hC hS⟩
theorem own_retI {C S : Nat} {Q : Option Value → Heap → List Loc → Prop} {pc : Nat} {Ls : Array Slot} {z : Int32} {rest : List Value} (X : Stand p l e R s m args below meth c T locs cells slots) (hx : p.tables.exec = Jvm.exec) (hret : meth.sig.returnType = some .int) (hlk : meth.locks = false)
    (hd : decode c.code pc = .ok (.ireturn, 1)) (hC : cells ≤ C) (hS : slots ≤ S) (hq : Q (some (.int z)) T.heap locs) : own_Ends p e below s C S Q T (mkF m pc Ls (.int z :: rest)) := by
  obtain ⟨fs, hr, hrun, hended, hW, hsame⟩ := X.leave (v := some (.int z)) (fun h => by rw [hret] at h; cases h) hlk
  exact ⟨_, _, retI X hx hret hd hr, hrun, hended, _, _, rfl, hq, ⟨_, rfl⟩, hW, hsame.mono hC hS⟩
def own_V (h0 : Heap) (n0 : Nat) (v : Option Value) (h : Heap) (L : List Loc) : Prop := v = none ∧ Fr n0 L ∧ h = h0
theorem own_retV {C S : Nat} {Q : Option Value → Heap → List Loc → Prop} {pc : Nat} {Ls : Array Slot} (X : Stand p l e R s m args below meth c T locs cells slots) (hx : p.tables.exec = Jvm.exec) (hret : meth.sig.returnType = none) (hlk : meth.locks = false)
    (hd : decode c.code pc = .ok (.return_, 1)) (hC : cells ≤ C) (hS : slots ≤ S) (hq : Q none T.heap locs) : own_Ends p e below s C S Q T (mkF m pc Ls []) := by
  obtain ⟨fs, hr, hrun, hended, hW, hsame⟩ := X.leave (v := none) (fun _ => rfl) hlk
  exact ⟨_, _, X.returnOut hx hret hd hr, hrun, hended, _, _, rfl, hq, ⟨_, rfl⟩, hW, hsame.mono hC hS⟩
theorem own_retJ {C S : Nat} {Q : Option Value → Heap → List Loc → Prop} {pc : Nat} {Ls : Array Slot} {z : Int64} (X : Stand p l e R s m args below meth c T locs cells slots) (hx : p.tables.exec = Jvm.exec) (hret : meth.sig.returnType = some .long) (hlk : meth.locks = false)
    (hd : decode c.code pc = .ok (.lreturn, 1)) (hC : cells ≤ C) (hS : slots ≤ S) (hq : Q (some (.long z)) T.heap locs) : own_Ends p e below s C S Q T (mkF m pc Ls [.long z]) := by
  obtain ⟨fs, hr, hrun, hended, hW, hsame⟩ := X.leave (v := some (.long z)) (fun h => by rw [hret] at h; cases h) hlk
  exact ⟨_, _, X.lreturnOut hx hret hd hr, hrun, hended, _, _, rfl, hq, ⟨_, rfl⟩, hW, hsame.mono hC hS⟩
end Own
theorem d1_0 : decode prog_14_method_8_code 0 = .ok (.lload_n 0, 1) := by decide +kernel
theorem d1_1 : decode prog_14_method_8_code 1 = .ok (.ldc2_w 17, 3) := by decide +kernel
theorem d1_4 : decode prog_14_method_8_code 4 = .ok (.land, 1) := by decide +kernel
theorem d1_5 : decode prog_14_method_8_code 5 = .ok (.lconst 0, 1) := by decide +kernel
theorem d1_6 : decode prog_14_method_8_code 6 = .ok (.lcmp, 1) := by decide +kernel
theorem d1_7 : decode prog_14_method_8_code 7 = .ok (.ifCond .ne 8, 3) := by decide +kernel
theorem d1_10 : decode prog_14_method_8_code 10 = .ok (.iconst 0, 1) := by decide +kernel
theorem d1_11 : decode prog_14_method_8_code 11 = .ok (.istore_n 2, 1) := by decide +kernel
theorem d1_12 : decode prog_14_method_8_code 12 = .ok (.goto 35, 3) := by decide +kernel
theorem d1_15 : decode prog_14_method_8_code 15 = .ok (.lload_n 0, 1) := by decide +kernel
theorem d1_16 : decode prog_14_method_8_code 16 = .ok (.ldc2_w 19, 3) := by decide +kernel
theorem d1_19 : decode prog_14_method_8_code 19 = .ok (.land, 1) := by decide +kernel
theorem d1_20 : decode prog_14_method_8_code 20 = .ok (.lconst 0, 1) := by decide +kernel
theorem d1_21 : decode prog_14_method_8_code 21 = .ok (.lcmp, 1) := by decide +kernel
theorem d1_22 : decode prog_14_method_8_code 22 = .ok (.ifCond .ne 8, 3) := by decide +kernel
theorem d1_25 : decode prog_14_method_8_code 25 = .ok (.iconst 1, 1) := by decide +kernel
theorem d1_26 : decode prog_14_method_8_code 26 = .ok (.istore_n 2, 1) := by decide +kernel
theorem d1_27 : decode prog_14_method_8_code 27 = .ok (.goto 20, 3) := by decide +kernel
theorem d1_30 : decode prog_14_method_8_code 30 = .ok (.lload_n 0, 1) := by decide +kernel
theorem d1_31 : decode prog_14_method_8_code 31 = .ok (.ldc2_w 21, 3) := by decide +kernel
theorem d1_34 : decode prog_14_method_8_code 34 = .ok (.land, 1) := by decide +kernel
theorem d1_35 : decode prog_14_method_8_code 35 = .ok (.lconst 0, 1) := by decide +kernel
theorem d1_36 : decode prog_14_method_8_code 36 = .ok (.lcmp, 1) := by decide +kernel
theorem d1_37 : decode prog_14_method_8_code 37 = .ok (.ifCond .ne 8, 3) := by decide +kernel
theorem d1_40 : decode prog_14_method_8_code 40 = .ok (.iconst 2, 1) := by decide +kernel
theorem d1_41 : decode prog_14_method_8_code 41 = .ok (.istore_n 2, 1) := by decide +kernel
theorem d1_42 : decode prog_14_method_8_code 42 = .ok (.goto 5, 3) := by decide +kernel
theorem d1_45 : decode prog_14_method_8_code 45 = .ok (.iconst 3, 1) := by decide +kernel
theorem d1_46 : decode prog_14_method_8_code 46 = .ok (.istore_n 2, 1) := by decide +kernel
theorem d1_47 : decode prog_14_method_8_code 47 = .ok (.iload_n 2, 1) := by decide +kernel
theorem d1_48 : decode prog_14_method_8_code 48 = .ok (.ireturn, 1) := by decide +kernel
theorem pn1 : plainName "com/example/interjot/interjot/JsonB" = true := by first | (simp [plainName, overriddenIn]; done) | decide +kernel
theorem pd1 : parseMethodDescriptor "(J)I" = some ⟨[.long], some .int⟩ := by decide +kernel
theorem ef1 (m : MethodId) (q0 : Int64) : entryFrame m #[(.long q0)] 3 = mkF m 0 #[.val (.long q0), .second, .unset] [] := by first | (simp [entryFrame, mkF, argsToLocals, Value.category]; done) | rfl
def f1_47 (i2 : Int32) : Int32 :=
  i2
set_option maxRecDepth 65536 in
set_option maxHeartbeats 4000000 in
theorem b1_47 {p : Program} {l : Launch} {e : Env} {s : State} {m : MethodId} {args : Array Value} {below : List Frame} {meth : Method} {c : Code} {T0 : State} {locs : List Loc} {Z : State} {a0 : Array Value} {h0 : Heap} {n0 : Nat} (j0 : Int64) (i2 : Int32) {r : Int32} (X0 : Stand p l e ({ frames := 0, cells := 0, slots := 0, locals := 0 } : Room) s m args below meth c T0 locs 0 0) (hx : p.tables.exec = Jvm.exec) (hZ : Z.Warmed39 s.vm) (hw : ∀ d ∈ tables_1, d.before a0 Z = true) (hby : c.code = prog_14_method_8_code) (hml : c.maxLocals = 3) (hown : s.vm.findClass "com/example/interjot/interjot/JsonB" = some m.cls) (hret : meth.sig.returnType = some .int) (hlk : meth.locks = false) (e0 : T0.heap = h0) (N0 : Fr n0 locs) (hr : r = f1_47 i2) :
    own_Ends p e below s 0 0 (own_P (.int r) h0 n0) T0 (mkF m 47 #[.val (.long j0), .second, .val (.int i2)] []) := by
  unfold f1_47 at hr
  refine own_step (T' := T0) (f' := (mkF m 48 #[.val (.long j0), .second, .val (.int i2)] [(.int i2)])) (fun t kt => ?_) ?_
  · show Steps p.tables e below (T0.setTop (mkF m 47 #[.val (.long j0), .second, .val (.int i2)] [])) _
    refine XS.iloadN X0.here hx rfl (hb hby d1_47) rfl ?_
    exact kt
  exact own_retI X0 hx hret hlk (hb hby d1_48) (Nat.le_refl _) (Nat.le_refl _) ⟨congrArg (fun z => some (Value.int z)) hr.symm, N0, e0⟩
def f1_0 (q0 : Int64) : Int32 :=
  if (q0 &&& (-256 : Int64)) = (0 : Int64) then (f1_47 (0 : Int32)) else (if (q0 &&& (-65536 : Int64)) = (0 : Int64) then (f1_47 (1 : Int32)) else (if (q0 &&& (-4294967296 : Int64)) = (0 : Int64) then (f1_47 (2 : Int32)) else (f1_47 (3 : Int32))))
set_option maxRecDepth 65536 in
set_option maxHeartbeats 4000000 in
theorem b1_0 {p : Program} {l : Launch} {e : Env} {s : State} {m : MethodId} {args : Array Value} {below : List Frame} {meth : Method} {c : Code} {T0 : State} {locs : List Loc} {Z : State} {a0 : Array Value} {h0 : Heap} {n0 : Nat} (q0 : Int64) {r : Int32} (X0 : Stand p l e ({ frames := 0, cells := 0, slots := 0, locals := 0 } : Room) s m args below meth c T0 locs 0 0) (hx : p.tables.exec = Jvm.exec) (hZ : Z.Warmed39 s.vm) (hw : ∀ d ∈ tables_1, d.before a0 Z = true) (hby : c.code = prog_14_method_8_code) (hml : c.maxLocals = 3) (hown : s.vm.findClass "com/example/interjot/interjot/JsonB" = some m.cls) (hret : meth.sig.returnType = some .int) (hlk : meth.locks = false) (e0 : T0.heap = h0) (N0 : Fr n0 locs) (hr : r = f1_0 q0) :
    own_Ends p e below s 0 0 (own_P (.int r) h0 n0) T0 (mkF m 0 #[.val (.long q0), .second, .unset] []) := by
  unfold f1_0 at hr
  refine own_step (T' := T0) (f' := (mkF m 7 #[.val (.long q0), .second, .unset] [(.int (lcmpW (q0 &&& (-256 : Int64)) (0 : Int64)))])) (fun t kt => ?_) ?_
  · show Steps p.tables e below (T0.setTop (mkF m 0 #[.val (.long q0), .second, .unset] [])) _
    refine XS.lloadN X0.here hx rfl (hb hby d1_0) rfl ?_
    show Steps p.tables e below (T0.setTop (mkF m 1 #[.val (.long q0), .second, .unset] [(.long q0)])) _
    refine X0.ldc2Long hx hown (mvT hZ (hw _ (List.mem_of_getElem? (i := 4) rfl))) (g := (mkF m 1 #[.val (.long q0), .second, .unset] [(.long q0)])) rfl (hb hby d1_1) _ ?_
    show Steps p.tables e below (T0.setTop (mkF m 4 #[.val (.long q0), .second, .unset] [(.long (-256 : Int64)), (.long q0)])) _
    refine XS.land X0.here hx rfl (hb hby d1_4) rfl ?_
    show Steps p.tables e below (T0.setTop (mkF m 5 #[.val (.long q0), .second, .unset] [(.long (q0 &&& (-256 : Int64)))])) _
    refine XS.lconst X0.here hx rfl (hb hby d1_5) ?_
    show Steps p.tables e below (T0.setTop (mkF m 6 #[.val (.long q0), .second, .unset] [(.long (0 : Int64)), (.long (q0 &&& (-256 : Int64)))])) _
    refine XS.lcmp X0.here hx rfl (hb hby d1_6) rfl ?_
    exact kt
  by_cases hc7_1 : (q0 &&& (-256 : Int64)) = (0 : Int64)
  · rw [if_pos hc7_1] at hr
    refine own_step (T' := T0) (f' := (mkF m 10 #[.val (.long q0), .second, .unset] [])) (fun t kt => ?_) ?_
    · show Steps p.tables e below (T0.setTop (mkF m 7 #[.val (.long q0), .second, .unset] [(.int (lcmpW (q0 &&& (-256 : Int64)) (0 : Int64)))])) _
      refine XS.ifNo X0.here hx rfl (hb hby d1_7) rfl ((if0 _ _).trans (teq ((lw_eq _ _).mpr hc7_1)).2) kt
    refine own_step (T' := T0) (f' := (mkF m 47 #[.val (.long q0), .second, .val (.int (0 : Int32))] [])) (fun t kt => ?_) ?_
    · show Steps p.tables e below (T0.setTop (mkF m 10 #[.val (.long q0), .second, .unset] [])) _
      refine XS.iconst X0.here hx rfl (hb hby d1_10) ?_
      show Steps p.tables e below (T0.setTop (mkF m 11 #[.val (.long q0), .second, .unset] [(.int (0 : Int32))])) _
      refine XS.istoreN X0.here hx rfl (hb hby d1_11) rfl (l' := #[.val (.long q0), .second, .val (.int (0 : Int32))]) rfl ?_
      show Steps p.tables e below (T0.setTop (mkF m 12 #[.val (.long q0), .second, .val (.int (0 : Int32))] [])) _
      refine XS.goto X0.here hx rfl (pc0 := 12) (pc' := 47) rfl (hb hby d1_12) (by decide) (by decide) ?_
      exact kt
    exact b1_47 q0 (0 : Int32) X0 hx hZ hw hby hml hown hret hlk e0 N0 hr
  · rw [if_neg hc7_1] at hr
    refine own_step (T' := T0) (f' := (mkF m 15 #[.val (.long q0), .second, .unset] [])) (fun t kt => ?_) ?_
    · show Steps p.tables e below (T0.setTop (mkF m 7 #[.val (.long q0), .second, .unset] [(.int (lcmpW (q0 &&& (-256 : Int64)) (0 : Int64)))])) _
      refine XS.ifYes X0.here hx rfl (pc0 := 7) (pc' := 15) rfl (hb hby d1_7) rfl ((if0 _ _).trans (feq (mt (lw_eq _ _).mp hc7_1)).2) (by decide) (by decide) kt
    refine own_step (T' := T0) (f' := (mkF m 22 #[.val (.long q0), .second, .unset] [(.int (lcmpW (q0 &&& (-65536 : Int64)) (0 : Int64)))])) (fun t kt => ?_) ?_
    · show Steps p.tables e below (T0.setTop (mkF m 15 #[.val (.long q0), .second, .unset] [])) _
      refine XS.lloadN X0.here hx rfl (hb hby d1_15) rfl ?_
      show Steps p.tables e below (T0.setTop (mkF m 16 #[.val (.long q0), .second, .unset] [(.long q0)])) _
      refine X0.ldc2Long hx hown (mvT hZ (hw _ (List.mem_of_getElem? (i := 9) rfl))) (g := (mkF m 16 #[.val (.long q0), .second, .unset] [(.long q0)])) rfl (hb hby d1_16) _ ?_
      show Steps p.tables e below (T0.setTop (mkF m 19 #[.val (.long q0), .second, .unset] [(.long (-65536 : Int64)), (.long q0)])) _
      refine XS.land X0.here hx rfl (hb hby d1_19) rfl ?_
      show Steps p.tables e below (T0.setTop (mkF m 20 #[.val (.long q0), .second, .unset] [(.long (q0 &&& (-65536 : Int64)))])) _
      refine XS.lconst X0.here hx rfl (hb hby d1_20) ?_
      show Steps p.tables e below (T0.setTop (mkF m 21 #[.val (.long q0), .second, .unset] [(.long (0 : Int64)), (.long (q0 &&& (-65536 : Int64)))])) _
      refine XS.lcmp X0.here hx rfl (hb hby d1_21) rfl ?_
      exact kt
    by_cases hc22_2 : (q0 &&& (-65536 : Int64)) = (0 : Int64)
    · rw [if_pos hc22_2] at hr
      refine own_step (T' := T0) (f' := (mkF m 25 #[.val (.long q0), .second, .unset] [])) (fun t kt => ?_) ?_
      · show Steps p.tables e below (T0.setTop (mkF m 22 #[.val (.long q0), .second, .unset] [(.int (lcmpW (q0 &&& (-65536 : Int64)) (0 : Int64)))])) _
        refine XS.ifNo X0.here hx rfl (hb hby d1_22) rfl ((if0 _ _).trans (teq ((lw_eq _ _).mpr hc22_2)).2) kt
      refine own_step (T' := T0) (f' := (mkF m 47 #[.val (.long q0), .second, .val (.int (1 : Int32))] [])) (fun t kt => ?_) ?_
      · show Steps p.tables e below (T0.setTop (mkF m 25 #[.val (.long q0), .second, .unset] [])) _
        refine XS.iconst X0.here hx rfl (hb hby d1_25) ?_
        show Steps p.tables e below (T0.setTop (mkF m 26 #[.val (.long q0), .second, .unset] [(.int (1 : Int32))])) _
        refine XS.istoreN X0.here hx rfl (hb hby d1_26) rfl (l' := #[.val (.long q0), .second, .val (.int (1 : Int32))]) rfl ?_
        show Steps p.tables e below (T0.setTop (mkF m 27 #[.val (.long q0), .second, .val (.int (1 : Int32))] [])) _
        refine XS.goto X0.here hx rfl (pc0 := 27) (pc' := 47) rfl (hb hby d1_27) (by decide) (by decide) ?_
        exact kt
      exact b1_47 q0 (1 : Int32) X0 hx hZ hw hby hml hown hret hlk e0 N0 hr
    · rw [if_neg hc22_2] at hr
      refine own_step (T' := T0) (f' := (mkF m 30 #[.val (.long q0), .second, .unset] [])) (fun t kt => ?_) ?_
      · show Steps p.tables e below (T0.setTop (mkF m 22 #[.val (.long q0), .second, .unset] [(.int (lcmpW (q0 &&& (-65536 : Int64)) (0 : Int64)))])) _
        refine XS.ifYes X0.here hx rfl (pc0 := 22) (pc' := 30) rfl (hb hby d1_22) rfl ((if0 _ _).trans (feq (mt (lw_eq _ _).mp hc22_2)).2) (by decide) (by decide) kt
      refine own_step (T' := T0) (f' := (mkF m 37 #[.val (.long q0), .second, .unset] [(.int (lcmpW (q0 &&& (-4294967296 : Int64)) (0 : Int64)))])) (fun t kt => ?_) ?_
      · show Steps p.tables e below (T0.setTop (mkF m 30 #[.val (.long q0), .second, .unset] [])) _
        refine XS.lloadN X0.here hx rfl (hb hby d1_30) rfl ?_
        show Steps p.tables e below (T0.setTop (mkF m 31 #[.val (.long q0), .second, .unset] [(.long q0)])) _
        refine X0.ldc2Long hx hown (mvT hZ (hw _ (List.mem_of_getElem? (i := 10) rfl))) (g := (mkF m 31 #[.val (.long q0), .second, .unset] [(.long q0)])) rfl (hb hby d1_31) _ ?_
        show Steps p.tables e below (T0.setTop (mkF m 34 #[.val (.long q0), .second, .unset] [(.long (-4294967296 : Int64)), (.long q0)])) _
        refine XS.land X0.here hx rfl (hb hby d1_34) rfl ?_
        show Steps p.tables e below (T0.setTop (mkF m 35 #[.val (.long q0), .second, .unset] [(.long (q0 &&& (-4294967296 : Int64)))])) _
        refine XS.lconst X0.here hx rfl (hb hby d1_35) ?_
        show Steps p.tables e below (T0.setTop (mkF m 36 #[.val (.long q0), .second, .unset] [(.long (0 : Int64)), (.long (q0 &&& (-4294967296 : Int64)))])) _
        refine XS.lcmp X0.here hx rfl (hb hby d1_36) rfl ?_
        exact kt
      by_cases hc37_3 : (q0 &&& (-4294967296 : Int64)) = (0 : Int64)
      · rw [if_pos hc37_3] at hr
        refine own_step (T' := T0) (f' := (mkF m 40 #[.val (.long q0), .second, .unset] [])) (fun t kt => ?_) ?_
        · show Steps p.tables e below (T0.setTop (mkF m 37 #[.val (.long q0), .second, .unset] [(.int (lcmpW (q0 &&& (-4294967296 : Int64)) (0 : Int64)))])) _
          refine XS.ifNo X0.here hx rfl (hb hby d1_37) rfl ((if0 _ _).trans (teq ((lw_eq _ _).mpr hc37_3)).2) kt
        refine own_step (T' := T0) (f' := (mkF m 47 #[.val (.long q0), .second, .val (.int (2 : Int32))] [])) (fun t kt => ?_) ?_
        · show Steps p.tables e below (T0.setTop (mkF m 40 #[.val (.long q0), .second, .unset] [])) _
          refine XS.iconst X0.here hx rfl (hb hby d1_40) ?_
          show Steps p.tables e below (T0.setTop (mkF m 41 #[.val (.long q0), .second, .unset] [(.int (2 : Int32))])) _
          refine XS.istoreN X0.here hx rfl (hb hby d1_41) rfl (l' := #[.val (.long q0), .second, .val (.int (2 : Int32))]) rfl ?_
          show Steps p.tables e below (T0.setTop (mkF m 42 #[.val (.long q0), .second, .val (.int (2 : Int32))] [])) _
          refine XS.goto X0.here hx rfl (pc0 := 42) (pc' := 47) rfl (hb hby d1_42) (by decide) (by decide) ?_
          exact kt
        exact b1_47 q0 (2 : Int32) X0 hx hZ hw hby hml hown hret hlk e0 N0 hr
      · rw [if_neg hc37_3] at hr
        refine own_step (T' := T0) (f' := (mkF m 45 #[.val (.long q0), .second, .unset] [])) (fun t kt => ?_) ?_
        · show Steps p.tables e below (T0.setTop (mkF m 37 #[.val (.long q0), .second, .unset] [(.int (lcmpW (q0 &&& (-4294967296 : Int64)) (0 : Int64)))])) _
          refine XS.ifYes X0.here hx rfl (pc0 := 37) (pc' := 45) rfl (hb hby d1_37) rfl ((if0 _ _).trans (feq (mt (lw_eq _ _).mp hc37_3)).2) (by decide) (by decide) kt
        refine own_step (T' := T0) (f' := (mkF m 47 #[.val (.long q0), .second, .val (.int (3 : Int32))] [])) (fun t kt => ?_) ?_
        · show Steps p.tables e below (T0.setTop (mkF m 45 #[.val (.long q0), .second, .unset] [])) _
          refine XS.iconst X0.here hx rfl (hb hby d1_45) ?_
          show Steps p.tables e below (T0.setTop (mkF m 46 #[.val (.long q0), .second, .unset] [(.int (3 : Int32))])) _
          refine XS.istoreN X0.here hx rfl (hb hby d1_46) rfl (l' := #[.val (.long q0), .second, .val (.int (3 : Int32))]) rfl ?_
          exact kt
        exact b1_47 q0 (3 : Int32) X0 hx hZ hw hby hml hown hret hlk e0 N0 hr
set_option maxRecDepth 65536 in
set_option maxHeartbeats 4000000 in
theorem rm1 (l : Launch) (Z : State) (a0 : Array Value) (hw : ∀ d ∈ tables_1, d.before a0 Z = true) (ws : List Jvm.Cond) (q0 : Int64) (h0 : Heap) (n0 : Nat) :
    MetFree l (⟨"com/example/interjot/interjot/JsonB", "widthBits", "(J)I"⟩ : MethodName) (head1 (Jvm.Cond.code (⟨"com/example/interjot/interjot/JsonB", "widthBits", "(J)I"⟩ : MethodName) prog_14_method_8_code 3 (some .int) :: ws) ({ frames := 0, cells := 0, slots := 0, locals := 0 } : Room)) (fun a U => a = #[(.long q0)] ∧ Z.Warmed39 U.vm ∧ U.heap = h0) (fun _ _ _ _ _ => True) (fun _ U o U' => ∃ v L, o = .returned v ∧ (own_P (.int (f1_0 q0)) h0 n0) v U'.heap L ∧ FrameEnd U o U' L ({ frames := 0, cells := 0, slots := 0, locals := 0 } : Room).cells ({ frames := 0, cells := 0, slots := 0, locals := 0 } : Room).slots) := by
  refine MetFree.of_bodySF (plainFor_of_name pn1) hisR ?_
  intro p e s m args below meth c s₁ Bd hml0 hP hK
  obtain ⟨rfl, hZ, hh⟩ := hP
  have hown : s.vm.findClass "com/example/interjot/interjot/JsonB" = some m.cls := findClass_of_methodNamed Bd.named
  have X0 : Stand p l e ({ frames := 0, cells := 0, slots := 0, locals := 0 } : Room) s m #[(.long q0)] below meth c s₁ [] 0 0 := Stand.of_body Bd
  have e0 : s₁.heap = h0 := by rw [← hh, Bd.state]; rfl
  show own_Ends p e below s 0 0 (own_P (.int (f1_0 q0)) h0 n0) s₁ (entryFrame m #[(.long q0)] 3)
  refine own_step (fun t k => castTop (ef1 m q0) k) ?_
  exact b1_0 q0 X0 Bd.exec hZ hw Bd.bytes hml0 hown Bd.returns (BodyLoose.notSynchronized Bd) e0 (Fr.nil n0) rfl
theorem d2_0 : decode method_2_code 0 = .ok (.iload_n 2, 1) := by decide +kernel
theorem d2_1 : decode method_2_code 1 = .ok (.bipush 8, 2) := by decide +kernel
theorem d2_3 : decode method_2_code 3 = .ok (.if_icmp .lt 5, 3) := by decide +kernel
theorem d2_6 : decode method_2_code 6 = .ok (.iconst 1, 1) := by decide +kernel
theorem d2_7 : decode method_2_code 7 = .ok (.ireturn, 1) := by decide +kernel
theorem d2_8 : decode method_2_code 8 = .ok (.lload_n 0, 1) := by decide +kernel
theorem d2_9 : decode method_2_code 9 = .ok (.bipush 8, 2) := by decide +kernel
theorem d2_11 : decode method_2_code 11 = .ok (.iload_n 2, 1) := by decide +kernel
theorem d2_12 : decode method_2_code 12 = .ok (.imul, 1) := by decide +kernel
theorem d2_13 : decode method_2_code 13 = .ok (.lushr, 1) := by decide +kernel
theorem d2_14 : decode method_2_code 14 = .ok (.lconst 0, 1) := by decide +kernel
theorem d2_15 : decode method_2_code 15 = .ok (.lcmp, 1) := by decide +kernel
theorem d2_16 : decode method_2_code 16 = .ok (.ifCond .ne 7, 3) := by decide +kernel
theorem d2_19 : decode method_2_code 19 = .ok (.iconst 1, 1) := by decide +kernel
theorem d2_20 : decode method_2_code 20 = .ok (.goto 4, 3) := by decide +kernel
theorem d2_23 : decode method_2_code 23 = .ok (.iconst 0, 1) := by decide +kernel
theorem d2_24 : decode method_2_code 24 = .ok (.ireturn, 1) := by decide +kernel
theorem pn2 : plainName "com/example/interjot/interjot/JsonBWidthBitsPinLaw" = true := by first | (simp [plainName, overriddenIn]; done) | decide +kernel
theorem pd2 : parseMethodDescriptor "(JI)Z" = some ⟨[.long, .int], some .boolean⟩ := by decide +kernel
theorem ef2 (m : MethodId) (q0 : Int64) (p1 : Int32) : entryFrame m #[(.long q0), (.int p1)] 3 = mkF m 0 #[.val (.long q0), .second, .val (.int p1)] [] := by first | (simp [entryFrame, mkF, argsToLocals, Value.category]; done) | rfl
def f2_0 (q0 : Int64) (p1 : Int32) : Int32 :=
  if p1 < (8 : Int32) then (if ((q0.toUInt64 >>> (((8 : Int32) * p1) &&& 0x3f).toInt64.toUInt64).toInt64) = (0 : Int64) then ((1 : Int32)) else ((0 : Int32))) else ((1 : Int32))
set_option maxRecDepth 65536 in
set_option maxHeartbeats 4000000 in
theorem b2_0 {p : Program} {l : Launch} {e : Env} {s : State} {m : MethodId} {args : Array Value} {below : List Frame} {meth : Method} {c : Code} {T0 : State} {locs : List Loc} {Z : State} {a0 : Array Value} {h0 : Heap} {n0 : Nat} (q0 : Int64) (p1 : Int32) {r : Int32} (X0 : Stand p l e ({ frames := 0, cells := 0, slots := 0, locals := 0 } : Room) s m args below meth c T0 locs 0 0) (hx : p.tables.exec = Jvm.exec) (hZ : Z.Warmed39 s.vm) (hw : ∀ d ∈ tables_1, d.before a0 Z = true) (hby : c.code = method_2_code) (hml : c.maxLocals = 3) (hown : s.vm.findClass "com/example/interjot/interjot/JsonBWidthBitsPinLaw" = some m.cls) (hret : meth.sig.returnType = some .boolean) (hlk : meth.locks = false) (e0 : T0.heap = h0) (N0 : Fr n0 locs) (hr : r = f2_0 q0 p1) :
    own_Ends p e below s 0 0 (own_P (.int r) h0 n0) T0 (mkF m 0 #[.val (.long q0), .second, .val (.int p1)] []) := by
  unfold f2_0 at hr
  refine own_step (T' := T0) (f' := (mkF m 3 #[.val (.long q0), .second, .val (.int p1)] [(.int (8 : Int32)), (.int p1)])) (fun t kt => ?_) ?_
  · show Steps p.tables e below (T0.setTop (mkF m 0 #[.val (.long q0), .second, .val (.int p1)] [])) _
    refine XS.iloadN X0.here hx rfl (hb hby d2_0) rfl ?_
    show Steps p.tables e below (T0.setTop (mkF m 1 #[.val (.long q0), .second, .val (.int p1)] [(.int p1)])) _
    refine XS.bipush X0.here hx rfl (hb hby d2_1) ?_
    exact kt
  by_cases hc3_1 : p1 < (8 : Int32)
  · rw [if_pos hc3_1] at hr
    refine own_step (T' := T0) (f' := (mkF m 8 #[.val (.long q0), .second, .val (.int p1)] [])) (fun t kt => ?_) ?_
    · show Steps p.tables e below (T0.setTop (mkF m 3 #[.val (.long q0), .second, .val (.int p1)] [(.int (8 : Int32)), (.int p1)])) _
      refine XS.icmpYes X0.here hx rfl (pc0 := 3) (pc' := 8) rfl (hb hby d2_3) rfl (tlt hc3_1).1 (by decide) (by decide) kt
    refine own_step (T' := T0) (f' := (mkF m 16 #[.val (.long q0), .second, .val (.int p1)] [(.int (lcmpW ((q0.toUInt64 >>> (((8 : Int32) * p1) &&& 0x3f).toInt64.toUInt64).toInt64) (0 : Int64)))])) (fun t kt => ?_) ?_
    · show Steps p.tables e below (T0.setTop (mkF m 8 #[.val (.long q0), .second, .val (.int p1)] [])) _
      refine XS.lloadN X0.here hx rfl (hb hby d2_8) rfl ?_
      show Steps p.tables e below (T0.setTop (mkF m 9 #[.val (.long q0), .second, .val (.int p1)] [(.long q0)])) _
      refine XS.bipush X0.here hx rfl (hb hby d2_9) ?_
      show Steps p.tables e below (T0.setTop (mkF m 11 #[.val (.long q0), .second, .val (.int p1)] [(.int (8 : Int32)), (.long q0)])) _
      refine XS.iloadN X0.here hx rfl (hb hby d2_11) rfl ?_
      show Steps p.tables e below (T0.setTop (mkF m 12 #[.val (.long q0), .second, .val (.int p1)] [(.int p1), (.int (8 : Int32)), (.long q0)])) _
      refine XS.imul X0.here hx rfl (hb hby d2_12) rfl ?_
      show Steps p.tables e below (T0.setTop (mkF m 13 #[.val (.long q0), .second, .val (.int p1)] [(.int ((8 : Int32) * p1)), (.long q0)])) _
      refine XS.lushr X0.here hx rfl (hb hby d2_13) rfl ?_
      show Steps p.tables e below (T0.setTop (mkF m 14 #[.val (.long q0), .second, .val (.int p1)] [(.long ((q0.toUInt64 >>> (((8 : Int32) * p1) &&& 0x3f).toInt64.toUInt64).toInt64))])) _
      refine XS.lconst X0.here hx rfl (hb hby d2_14) ?_
      show Steps p.tables e below (T0.setTop (mkF m 15 #[.val (.long q0), .second, .val (.int p1)] [(.long (0 : Int64)), (.long ((q0.toUInt64 >>> (((8 : Int32) * p1) &&& 0x3f).toInt64.toUInt64).toInt64))])) _
      refine XS.lcmp X0.here hx rfl (hb hby d2_15) rfl ?_
      exact kt
    by_cases hc16_2 : ((q0.toUInt64 >>> (((8 : Int32) * p1) &&& 0x3f).toInt64.toUInt64).toInt64) = (0 : Int64)
    · rw [if_pos hc16_2] at hr
      refine own_step (T' := T0) (f' := (mkF m 19 #[.val (.long q0), .second, .val (.int p1)] [])) (fun t kt => ?_) ?_
      · show Steps p.tables e below (T0.setTop (mkF m 16 #[.val (.long q0), .second, .val (.int p1)] [(.int (lcmpW ((q0.toUInt64 >>> (((8 : Int32) * p1) &&& 0x3f).toInt64.toUInt64).toInt64) (0 : Int64)))])) _
        refine XS.ifNo X0.here hx rfl (hb hby d2_16) rfl ((if0 _ _).trans (teq ((lw_eq _ _).mpr hc16_2)).2) kt
      refine own_step (T' := T0) (f' := (mkF m 24 #[.val (.long q0), .second, .val (.int p1)] [(.int (1 : Int32))])) (fun t kt => ?_) ?_
      · show Steps p.tables e below (T0.setTop (mkF m 19 #[.val (.long q0), .second, .val (.int p1)] [])) _
        refine XS.iconst X0.here hx rfl (hb hby d2_19) ?_
        show Steps p.tables e below (T0.setTop (mkF m 20 #[.val (.long q0), .second, .val (.int p1)] [(.int (1 : Int32))])) _
        refine XS.goto X0.here hx rfl (pc0 := 20) (pc' := 24) rfl (hb hby d2_20) (by decide) (by decide) ?_
        exact kt
      exact own_retZ X0 hx hret (by simp) hlk (hb hby d2_24) (Nat.le_refl _) (Nat.le_refl _) ⟨congrArg (fun z => some (Value.int z)) hr.symm, N0, e0⟩
    · rw [if_neg hc16_2] at hr
      refine own_step (T' := T0) (f' := (mkF m 23 #[.val (.long q0), .second, .val (.int p1)] [])) (fun t kt => ?_) ?_
      · show Steps p.tables e below (T0.setTop (mkF m 16 #[.val (.long q0), .second, .val (.int p1)] [(.int (lcmpW ((q0.toUInt64 >>> (((8 : Int32) * p1) &&& 0x3f).toInt64.toUInt64).toInt64) (0 : Int64)))])) _
        refine XS.ifYes X0.here hx rfl (pc0 := 16) (pc' := 23) rfl (hb hby d2_16) rfl ((if0 _ _).trans (feq (mt (lw_eq _ _).mp hc16_2)).2) (by decide) (by decide) kt
      refine own_step (T' := T0) (f' := (mkF m 24 #[.val (.long q0), .second, .val (.int p1)] [(.int (0 : Int32))])) (fun t kt => ?_) ?_
      · show Steps p.tables e below (T0.setTop (mkF m 23 #[.val (.long q0), .second, .val (.int p1)] [])) _
        refine XS.iconst X0.here hx rfl (hb hby d2_23) ?_
        exact kt
      exact own_retZ X0 hx hret (by simp) hlk (hb hby d2_24) (Nat.le_refl _) (Nat.le_refl _) ⟨congrArg (fun z => some (Value.int z)) hr.symm, N0, e0⟩
  · rw [if_neg hc3_1] at hr
    refine own_step (T' := T0) (f' := (mkF m 6 #[.val (.long q0), .second, .val (.int p1)] [])) (fun t kt => ?_) ?_
    · show Steps p.tables e below (T0.setTop (mkF m 3 #[.val (.long q0), .second, .val (.int p1)] [(.int (8 : Int32)), (.int p1)])) _
      refine XS.icmpNo X0.here hx rfl (hb hby d2_3) rfl (flt hc3_1).1 kt
    refine own_step (T' := T0) (f' := (mkF m 7 #[.val (.long q0), .second, .val (.int p1)] [(.int (1 : Int32))])) (fun t kt => ?_) ?_
    · show Steps p.tables e below (T0.setTop (mkF m 6 #[.val (.long q0), .second, .val (.int p1)] [])) _
      refine XS.iconst X0.here hx rfl (hb hby d2_6) ?_
      exact kt
    exact own_retZ X0 hx hret (by simp) hlk (hb hby d2_7) (Nat.le_refl _) (Nat.le_refl _) ⟨congrArg (fun z => some (Value.int z)) hr.symm, N0, e0⟩
set_option maxRecDepth 65536 in
set_option maxHeartbeats 4000000 in
theorem rm2 (l : Launch) (Z : State) (a0 : Array Value) (hw : ∀ d ∈ tables_1, d.before a0 Z = true) (ws : List Jvm.Cond) (q0 : Int64) (p1 : Int32) (h0 : Heap) (n0 : Nat) :
    MetFree l (⟨"com/example/interjot/interjot/JsonBWidthBitsPinLaw", "fits", "(JI)Z"⟩ : MethodName) (head1 (Jvm.Cond.code (⟨"com/example/interjot/interjot/JsonBWidthBitsPinLaw", "fits", "(JI)Z"⟩ : MethodName) method_2_code 3 (some .boolean) :: ws) ({ frames := 0, cells := 0, slots := 0, locals := 0 } : Room)) (fun a U => a = #[(.long q0), (.int p1)] ∧ Z.Warmed39 U.vm ∧ U.heap = h0) (fun _ _ _ _ _ => True) (fun _ U o U' => ∃ v L, o = .returned v ∧ (own_P (.int (f2_0 q0 p1)) h0 n0) v U'.heap L ∧ FrameEnd U o U' L ({ frames := 0, cells := 0, slots := 0, locals := 0 } : Room).cells ({ frames := 0, cells := 0, slots := 0, locals := 0 } : Room).slots) := by
  refine MetFree.of_bodySF (plainFor_of_name pn2) hisR ?_
  intro p e s m args below meth c s₁ Bd hml0 hP hK
  obtain ⟨rfl, hZ, hh⟩ := hP
  have hown : s.vm.findClass "com/example/interjot/interjot/JsonBWidthBitsPinLaw" = some m.cls := findClass_of_methodNamed Bd.named
  have X0 : Stand p l e ({ frames := 0, cells := 0, slots := 0, locals := 0 } : Room) s m #[(.long q0), (.int p1)] below meth c s₁ [] 0 0 := Stand.of_body Bd
  have e0 : s₁.heap = h0 := by rw [← hh, Bd.state]; rfl
  show own_Ends p e below s 0 0 (own_P (.int (f2_0 q0 p1)) h0 n0) s₁ (entryFrame m #[(.long q0), (.int p1)] 3)
  refine own_step (fun t k => castTop (ef2 m q0 p1) k) ?_
  exact b2_0 q0 p1 X0 Bd.exec hZ hw Bd.bytes hml0 hown Bd.returns (BodyLoose.notSynchronized Bd) e0 (Fr.nil n0) rfl
theorem pn0 : plainName "com/example/interjot/interjot/JsonBWidthBitsPinLaw" = true := by first | (simp [plainName, overriddenIn]; done) | decide +kernel
theorem ef0 (m : MethodId) (q0 : Int64) (p1 : Int32) : entryFrame m #[(.long q0), (.int p1)] maxLocals = mkF m 0 #[.val (.long q0), .second, .val (.int p1), .unset, .unset, .unset, .unset, .unset] [] := by first | (simp [entryFrame, mkF, argsToLocals, Value.category, maxLocals]; done) | rfl
def f0_24  : Int32 :=
  (0 : Int32)
set_option maxRecDepth 65536 in
set_option maxHeartbeats 4000000 in
theorem b0_24 {p : Program} {l : Launch} {e : Env} {s : State} {m : MethodId} {args : Array Value} {below : List Frame} {meth : Method} {c : Code} {T0 : State} {locs : List Loc} {Z : State} {a0 : Array Value} {h0 : Heap} {n0 : Nat} (j0 : Int64) (i2 : Int32) (j3 : Int64) (i5 : Int32) {r : Int32} (X0 : Stand p l e room_1 s m args below meth c T0 locs 0 0) (hx : p.tables.exec = Jvm.exec) (hZ : Z.Warmed39 s.vm) (hw : ∀ d ∈ tables_1, d.before a0 Z = true) (hby : c.code = code) (hml : c.maxLocals = 8) (hown : s.vm.findClass "com/example/interjot/interjot/JsonBWidthBitsPinLaw" = some m.cls) (hret : meth.sig.returnType = some .boolean) (hlk : meth.locks = false) (e0 : T0.heap = h0) (N0 : Fr n0 locs) (hr : r = f0_24 ) :
    own_Ends p e below s 0 0 (own_P (.int r) h0 n0) T0 (mkF m 24 #[.val (.long j0), .second, .val (.int i2), .val (.long j3), .second, .val (.int i5), .unset, .unset] []) := by
  unfold f0_24 at hr
  refine own_step (T' := T0) (f' := (mkF m 25 #[.val (.long j0), .second, .val (.int i2), .val (.long j3), .second, .val (.int i5), .unset, .unset] [(.int (0 : Int32))])) (fun t kt => ?_) ?_
  · show Steps p.tables e below (T0.setTop (mkF m 24 #[.val (.long j0), .second, .val (.int i2), .val (.long j3), .second, .val (.int i5), .unset, .unset] [])) _
    refine XS.iconst X0.here hx rfl (hb hby at_24) ?_
    exact kt
  exact own_retZ X0 hx hret (by simp) hlk (hb hby at_25) (Nat.le_refl _) (Nat.le_refl _) ⟨congrArg (fun z => some (Value.int z)) hr.symm, N0, e0⟩
def f0_13 (j3 : Int64) (i5 : Int32) : Int32 :=
  if i5 < (0 : Int32) then (f0_24 ) else (if (3 : Int32) < i5 then (f0_24 ) else (if (f2_0 j3 ((1 : Int32) <<< (i5 &&& 31))) = (0 : Int32) then ((0 : Int32)) else (if i5 = (0 : Int32) then ((1 : Int32)) else (if (f2_0 j3 ((1 : Int32) <<< ((i5 - (1 : Int32)) &&& 31))) = (0 : Int32) then ((1 : Int32)) else ((0 : Int32))))))
set_option maxRecDepth 65536 in
set_option maxHeartbeats 4000000 in
theorem b0_13 {p : Program} {l : Launch} {e : Env} {s : State} {m : MethodId} {args : Array Value} {below : List Frame} {meth : Method} {c : Code} {T0 : State} {locs : List Loc} {Z : State} {a0 : Array Value} {h0 : Heap} {n0 : Nat} (j0 : Int64) (i2 : Int32) (j3 : Int64) (i5 : Int32) {r : Int32} (X0 : Stand p l e room_1 s m args below meth c T0 locs 0 0) (hx : p.tables.exec = Jvm.exec) (hZ : Z.Warmed39 s.vm) (hw : ∀ d ∈ tables_1, d.before a0 Z = true) (hby : c.code = code) (hml : c.maxLocals = 8) (hown : s.vm.findClass "com/example/interjot/interjot/JsonBWidthBitsPinLaw" = some m.cls) (hret : meth.sig.returnType = some .boolean) (hlk : meth.locks = false) (e0 : T0.heap = h0) (N0 : Fr n0 locs) (hr : r = f0_13 j3 i5) :
    own_Ends p e below s 0 0 (own_P (.int r) h0 n0) T0 (mkF m 13 #[.val (.long j0), .second, .val (.int i2), .val (.long j3), .second, .val (.int i5), .unset, .unset] []) := by
  unfold f0_13 at hr
  refine own_step (T' := T0) (f' := (mkF m 15 #[.val (.long j0), .second, .val (.int i2), .val (.long j3), .second, .val (.int i5), .unset, .unset] [(.int i5)])) (fun t kt => ?_) ?_
  · show Steps p.tables e below (T0.setTop (mkF m 13 #[.val (.long j0), .second, .val (.int i2), .val (.long j3), .second, .val (.int i5), .unset, .unset] [])) _
    refine XS.iload X0.here hx rfl (hb hby at_13) rfl ?_
    exact kt
  by_cases hc15_2 : i5 < (0 : Int32)
  · rw [if_pos hc15_2] at hr
    refine own_step (T' := T0) (f' := (mkF m 24 #[.val (.long j0), .second, .val (.int i2), .val (.long j3), .second, .val (.int i5), .unset, .unset] [])) (fun t kt => ?_) ?_
    · show Steps p.tables e below (T0.setTop (mkF m 15 #[.val (.long j0), .second, .val (.int i2), .val (.long j3), .second, .val (.int i5), .unset, .unset] [(.int i5)])) _
      refine XS.ifYes X0.here hx rfl (pc0 := 15) (pc' := 24) rfl (hb hby at_15) rfl ((if0 _ _).trans (tlt hc15_2).1) (by decide) (by decide) kt
    exact b0_24 j0 i2 j3 i5 X0 hx hZ hw hby hml hown hret hlk e0 N0 hr
  · rw [if_neg hc15_2] at hr
    refine own_step (T' := T0) (f' := (mkF m 18 #[.val (.long j0), .second, .val (.int i2), .val (.long j3), .second, .val (.int i5), .unset, .unset] [])) (fun t kt => ?_) ?_
    · show Steps p.tables e below (T0.setTop (mkF m 15 #[.val (.long j0), .second, .val (.int i2), .val (.long j3), .second, .val (.int i5), .unset, .unset] [(.int i5)])) _
      refine XS.ifNo X0.here hx rfl (hb hby at_15) rfl ((if0 _ _).trans (flt hc15_2).1) kt
    refine own_step (T' := T0) (f' := (mkF m 21 #[.val (.long j0), .second, .val (.int i2), .val (.long j3), .second, .val (.int i5), .unset, .unset] [(.int (3 : Int32)), (.int i5)])) (fun t kt => ?_) ?_
    · show Steps p.tables e below (T0.setTop (mkF m 18 #[.val (.long j0), .second, .val (.int i2), .val (.long j3), .second, .val (.int i5), .unset, .unset] [])) _
      refine XS.iload X0.here hx rfl (hb hby at_18) rfl ?_
      show Steps p.tables e below (T0.setTop (mkF m 20 #[.val (.long j0), .second, .val (.int i2), .val (.long j3), .second, .val (.int i5), .unset, .unset] [(.int i5)])) _
      refine XS.iconst X0.here hx rfl (hb hby at_20) ?_
      exact kt
    by_cases hc21_3 : (3 : Int32) < i5
    · rw [if_pos hc21_3] at hr
      refine own_step (T' := T0) (f' := (mkF m 24 #[.val (.long j0), .second, .val (.int i2), .val (.long j3), .second, .val (.int i5), .unset, .unset] [])) (fun t kt => ?_) ?_
      · show Steps p.tables e below (T0.setTop (mkF m 21 #[.val (.long j0), .second, .val (.int i2), .val (.long j3), .second, .val (.int i5), .unset, .unset] [(.int (3 : Int32)), (.int i5)])) _
        refine XS.icmpNo X0.here hx rfl (hb hby at_21) rfl (tlt hc21_3).2.2.2 kt
      exact b0_24 j0 i2 j3 i5 X0 hx hZ hw hby hml hown hret hlk e0 N0 hr
    · rw [if_neg hc21_3] at hr
      refine own_step (T' := T0) (f' := (mkF m 26 #[.val (.long j0), .second, .val (.int i2), .val (.long j3), .second, .val (.int i5), .unset, .unset] [])) (fun t kt => ?_) ?_
      · show Steps p.tables e below (T0.setTop (mkF m 21 #[.val (.long j0), .second, .val (.int i2), .val (.long j3), .second, .val (.int i5), .unset, .unset] [(.int (3 : Int32)), (.int i5)])) _
        refine XS.icmpYes X0.here hx rfl (pc0 := 21) (pc' := 26) rfl (hb hby at_21) rfl (flt hc21_3).2.2.2 (by decide) (by decide) kt
      refine own_step (T' := T0) (f' := (mkF m 35 #[.val (.long j0), .second, .val (.int i2), .val (.long j3), .second, .val (.int i5), .val (.int ((1 : Int32) <<< (i5 &&& 31))), .unset] [(.int ((1 : Int32) <<< (i5 &&& 31))), (.long j3)])) (fun t kt => ?_) ?_
      · show Steps p.tables e below (T0.setTop (mkF m 26 #[.val (.long j0), .second, .val (.int i2), .val (.long j3), .second, .val (.int i5), .unset, .unset] [])) _
        refine XS.iconst X0.here hx rfl (hb hby at_26) ?_
        show Steps p.tables e below (T0.setTop (mkF m 27 #[.val (.long j0), .second, .val (.int i2), .val (.long j3), .second, .val (.int i5), .unset, .unset] [(.int (1 : Int32))])) _
        refine XS.iload X0.here hx rfl (hb hby at_27) rfl ?_
        show Steps p.tables e below (T0.setTop (mkF m 29 #[.val (.long j0), .second, .val (.int i2), .val (.long j3), .second, .val (.int i5), .unset, .unset] [(.int i5), (.int (1 : Int32))])) _
        refine XS.ishl X0.here hx rfl (hb hby at_29) rfl ?_
        show Steps p.tables e below (T0.setTop (mkF m 30 #[.val (.long j0), .second, .val (.int i2), .val (.long j3), .second, .val (.int i5), .unset, .unset] [(.int ((1 : Int32) <<< (i5 &&& 31)))])) _
        refine XS.istore X0.here hx rfl (hb hby at_30) rfl (l' := #[.val (.long j0), .second, .val (.int i2), .val (.long j3), .second, .val (.int i5), .val (.int ((1 : Int32) <<< (i5 &&& 31))), .unset]) rfl ?_
        show Steps p.tables e below (T0.setTop (mkF m 32 #[.val (.long j0), .second, .val (.int i2), .val (.long j3), .second, .val (.int i5), .val (.int ((1 : Int32) <<< (i5 &&& 31))), .unset] [])) _
        refine XS.lloadN X0.here hx rfl (hb hby at_32) rfl ?_
        show Steps p.tables e below (T0.setTop (mkF m 33 #[.val (.long j0), .second, .val (.int i2), .val (.long j3), .second, .val (.int i5), .val (.int ((1 : Int32) <<< (i5 &&& 31))), .unset] [(.long j3)])) _
        refine XS.iload X0.here hx rfl (hb hby at_33) rfl ?_
        exact kt
      obtain ⟨_, _, ⟨T4, L4, k4, n4⟩, -, X4, ⟨Lc4, hQ4, l4, y4, z4⟩, st4⟩ := Jvm.LawKit.callS X0 hx (y := (⟨"com/example/interjot/interjot/JsonBWidthBitsPinLaw", "fits", "(JI)Z"⟩ : MethodName)) hown (mvT hZ (hw _ (List.mem_of_getElem? (i := 5) rfl))) (mvT hZ (hw _ (List.mem_of_getElem? (i := 6) rfl))) (mvT hZ (hw _ (List.mem_of_getElem? (i := 7) rfl))) (mvT hZ (hw _ (List.mem_of_getElem? (i := 8) rfl))) (by decide) (backOf (W := 0) (rm2 l Z a0 hw [] j3 ((1 : Int32) <<< (i5 &&& 31))  h0 n0 ) hZ (hw _ (List.mem_of_getElem? (i := 8) rfl)) (hw _ (List.mem_of_getElem? (i := 7) rfl)) (by decide) (by decide)) (g := (mkF m 35 #[.val (.long j0), .second, .val (.int i2), .val (.long j3), .second, .val (.int i5), .val (.int ((1 : Int32) <<< (i5 &&& 31))), .unset] [(.int ((1 : Int32) <<< (i5 &&& 31))), (.long j3)])) rfl (by rw [hml]; rfl) (argsL := [(.long j3), (.int ((1 : Int32) <<< (i5 &&& 31)))]) (rest := []) (lenOf pd2 rfl) rfl (by show 2 * 0 + _ ≤ _; exact Nat.le_of_eq rfl) (hb hby at_35) (fun _ _ => ⟨rfl, e0, (by decide : 0 + 0 ≤ _), (by decide : 0 + 0 ≤ _)⟩)
      dsimp only [Pt.U, Pt.locs, Pt.cells, Pt.slots] at X4 l4 y4 z4 st4 hQ4
      subst l4 y4 z4
      obtain ⟨rfl, Nq4, e4⟩ := hQ4
      have N4 := Fr.app N0 Nq4
      refine own_step (T' := T4) (f' := (mkF m 38 #[.val (.long j0), .second, .val (.int i2), .val (.long j3), .second, .val (.int i5), .val (.int ((1 : Int32) <<< (i5 &&& 31))), .unset] [(.int (f2_0 j3 ((1 : Int32) <<< (i5 &&& 31))))])) st4 ?_
      by_cases hc38_5 : (f2_0 j3 ((1 : Int32) <<< (i5 &&& 31))) = (0 : Int32)
      · rw [if_pos hc38_5] at hr
        refine own_step (T' := T4) (f' := (mkF m 41 #[.val (.long j0), .second, .val (.int i2), .val (.long j3), .second, .val (.int i5), .val (.int ((1 : Int32) <<< (i5 &&& 31))), .unset] [])) (fun t kt => ?_) ?_
        · show Steps p.tables e below (T4.setTop (mkF m 38 #[.val (.long j0), .second, .val (.int i2), .val (.long j3), .second, .val (.int i5), .val (.int ((1 : Int32) <<< (i5 &&& 31))), .unset] [(.int (f2_0 j3 ((1 : Int32) <<< (i5 &&& 31))))])) _
          refine XS.ifNo X4.here hx rfl (hb hby at_38) rfl ((if0 _ _).trans (teq hc38_5).2) kt
        refine own_step (T' := T4) (f' := (mkF m 42 #[.val (.long j0), .second, .val (.int i2), .val (.long j3), .second, .val (.int i5), .val (.int ((1 : Int32) <<< (i5 &&& 31))), .unset] [(.int (0 : Int32))])) (fun t kt => ?_) ?_
        · show Steps p.tables e below (T4.setTop (mkF m 41 #[.val (.long j0), .second, .val (.int i2), .val (.long j3), .second, .val (.int i5), .val (.int ((1 : Int32) <<< (i5 &&& 31))), .unset] [])) _
          refine XS.iconst X4.here hx rfl (hb hby at_41) ?_
          exact kt
        exact own_retZ X4 hx hret (by simp) hlk (hb hby at_42) (Nat.le_refl _) (Nat.le_refl _) ⟨congrArg (fun z => some (Value.int z)) hr.symm, N4, e4⟩
      · rw [if_neg hc38_5] at hr
        refine own_step (T' := T4) (f' := (mkF m 43 #[.val (.long j0), .second, .val (.int i2), .val (.long j3), .second, .val (.int i5), .val (.int ((1 : Int32) <<< (i5 &&& 31))), .unset] [])) (fun t kt => ?_) ?_
        · show Steps p.tables e below (T4.setTop (mkF m 38 #[.val (.long j0), .second, .val (.int i2), .val (.long j3), .second, .val (.int i5), .val (.int ((1 : Int32) <<< (i5 &&& 31))), .unset] [(.int (f2_0 j3 ((1 : Int32) <<< (i5 &&& 31))))])) _
          refine XS.ifYes X4.here hx rfl (pc0 := 38) (pc' := 43) rfl (hb hby at_38) rfl ((if0 _ _).trans (feq hc38_5).2) (by decide) (by decide) kt
        refine own_step (T' := T4) (f' := (mkF m 45 #[.val (.long j0), .second, .val (.int i2), .val (.long j3), .second, .val (.int i5), .val (.int ((1 : Int32) <<< (i5 &&& 31))), .unset] [(.int i5)])) (fun t kt => ?_) ?_
        · show Steps p.tables e below (T4.setTop (mkF m 43 #[.val (.long j0), .second, .val (.int i2), .val (.long j3), .second, .val (.int i5), .val (.int ((1 : Int32) <<< (i5 &&& 31))), .unset] [])) _
          refine XS.iload X4.here hx rfl (hb hby at_43) rfl ?_
          exact kt
        by_cases hc45_6 : i5 = (0 : Int32)
        · rw [if_pos hc45_6] at hr
          refine own_step (T' := T4) (f' := (mkF m 48 #[.val (.long j0), .second, .val (.int i2), .val (.long j3), .second, .val (.int i5), .val (.int ((1 : Int32) <<< (i5 &&& 31))), .unset] [])) (fun t kt => ?_) ?_
          · show Steps p.tables e below (T4.setTop (mkF m 45 #[.val (.long j0), .second, .val (.int i2), .val (.long j3), .second, .val (.int i5), .val (.int ((1 : Int32) <<< (i5 &&& 31))), .unset] [(.int i5)])) _
            refine XS.ifNo X4.here hx rfl (hb hby at_45) rfl ((if0 _ _).trans (teq hc45_6).2) kt
          refine own_step (T' := T4) (f' := (mkF m 49 #[.val (.long j0), .second, .val (.int i2), .val (.long j3), .second, .val (.int i5), .val (.int ((1 : Int32) <<< (i5 &&& 31))), .unset] [(.int (1 : Int32))])) (fun t kt => ?_) ?_
          · show Steps p.tables e below (T4.setTop (mkF m 48 #[.val (.long j0), .second, .val (.int i2), .val (.long j3), .second, .val (.int i5), .val (.int ((1 : Int32) <<< (i5 &&& 31))), .unset] [])) _
            refine XS.iconst X4.here hx rfl (hb hby at_48) ?_
            exact kt
          exact own_retZ X4 hx hret (by simp) hlk (hb hby at_49) (Nat.le_refl _) (Nat.le_refl _) ⟨congrArg (fun z => some (Value.int z)) hr.symm, N4, e4⟩
        · rw [if_neg hc45_6] at hr
          refine own_step (T' := T4) (f' := (mkF m 50 #[.val (.long j0), .second, .val (.int i2), .val (.long j3), .second, .val (.int i5), .val (.int ((1 : Int32) <<< (i5 &&& 31))), .unset] [])) (fun t kt => ?_) ?_
          · show Steps p.tables e below (T4.setTop (mkF m 45 #[.val (.long j0), .second, .val (.int i2), .val (.long j3), .second, .val (.int i5), .val (.int ((1 : Int32) <<< (i5 &&& 31))), .unset] [(.int i5)])) _
            refine XS.ifYes X4.here hx rfl (pc0 := 45) (pc' := 50) rfl (hb hby at_45) rfl ((if0 _ _).trans (feq hc45_6).2) (by decide) (by decide) kt
          refine own_step (T' := T4) (f' := (mkF m 61 #[.val (.long j0), .second, .val (.int i2), .val (.long j3), .second, .val (.int i5), .val (.int ((1 : Int32) <<< (i5 &&& 31))), .val (.int ((1 : Int32) <<< ((i5 - (1 : Int32)) &&& 31)))] [(.int ((1 : Int32) <<< ((i5 - (1 : Int32)) &&& 31))), (.long j3)])) (fun t kt => ?_) ?_
          · show Steps p.tables e below (T4.setTop (mkF m 50 #[.val (.long j0), .second, .val (.int i2), .val (.long j3), .second, .val (.int i5), .val (.int ((1 : Int32) <<< (i5 &&& 31))), .unset] [])) _
            refine XS.iconst X4.here hx rfl (hb hby at_50) ?_
            show Steps p.tables e below (T4.setTop (mkF m 51 #[.val (.long j0), .second, .val (.int i2), .val (.long j3), .second, .val (.int i5), .val (.int ((1 : Int32) <<< (i5 &&& 31))), .unset] [(.int (1 : Int32))])) _
            refine XS.iload X4.here hx rfl (hb hby at_51) rfl ?_
            show Steps p.tables e below (T4.setTop (mkF m 53 #[.val (.long j0), .second, .val (.int i2), .val (.long j3), .second, .val (.int i5), .val (.int ((1 : Int32) <<< (i5 &&& 31))), .unset] [(.int i5), (.int (1 : Int32))])) _
            refine XS.iconst X4.here hx rfl (hb hby at_53) ?_
            show Steps p.tables e below (T4.setTop (mkF m 54 #[.val (.long j0), .second, .val (.int i2), .val (.long j3), .second, .val (.int i5), .val (.int ((1 : Int32) <<< (i5 &&& 31))), .unset] [(.int (1 : Int32)), (.int i5), (.int (1 : Int32))])) _
            refine XS.isub X4.here hx rfl (hb hby at_54) rfl ?_
            show Steps p.tables e below (T4.setTop (mkF m 55 #[.val (.long j0), .second, .val (.int i2), .val (.long j3), .second, .val (.int i5), .val (.int ((1 : Int32) <<< (i5 &&& 31))), .unset] [(.int (i5 - (1 : Int32))), (.int (1 : Int32))])) _
            refine XS.ishl X4.here hx rfl (hb hby at_55) rfl ?_
            show Steps p.tables e below (T4.setTop (mkF m 56 #[.val (.long j0), .second, .val (.int i2), .val (.long j3), .second, .val (.int i5), .val (.int ((1 : Int32) <<< (i5 &&& 31))), .unset] [(.int ((1 : Int32) <<< ((i5 - (1 : Int32)) &&& 31)))])) _
            refine XS.istore X4.here hx rfl (hb hby at_56) rfl (l' := #[.val (.long j0), .second, .val (.int i2), .val (.long j3), .second, .val (.int i5), .val (.int ((1 : Int32) <<< (i5 &&& 31))), .val (.int ((1 : Int32) <<< ((i5 - (1 : Int32)) &&& 31)))]) rfl ?_
            show Steps p.tables e below (T4.setTop (mkF m 58 #[.val (.long j0), .second, .val (.int i2), .val (.long j3), .second, .val (.int i5), .val (.int ((1 : Int32) <<< (i5 &&& 31))), .val (.int ((1 : Int32) <<< ((i5 - (1 : Int32)) &&& 31)))] [])) _
            refine XS.lloadN X4.here hx rfl (hb hby at_58) rfl ?_
            show Steps p.tables e below (T4.setTop (mkF m 59 #[.val (.long j0), .second, .val (.int i2), .val (.long j3), .second, .val (.int i5), .val (.int ((1 : Int32) <<< (i5 &&& 31))), .val (.int ((1 : Int32) <<< ((i5 - (1 : Int32)) &&& 31)))] [(.long j3)])) _
            refine XS.iload X4.here hx rfl (hb hby at_59) rfl ?_
            exact kt
          obtain ⟨_, _, ⟨T7, L7, k7, n7⟩, -, X7, ⟨Lc7, hQ7, l7, y7, z7⟩, st7⟩ := Jvm.LawKit.callS X4 hx (y := (⟨"com/example/interjot/interjot/JsonBWidthBitsPinLaw", "fits", "(JI)Z"⟩ : MethodName)) hown (mvT hZ (hw _ (List.mem_of_getElem? (i := 5) rfl))) (mvT hZ (hw _ (List.mem_of_getElem? (i := 6) rfl))) (mvT hZ (hw _ (List.mem_of_getElem? (i := 7) rfl))) (mvT hZ (hw _ (List.mem_of_getElem? (i := 8) rfl))) (by decide) (backOf (W := 0) (rm2 l Z a0 hw [] j3 ((1 : Int32) <<< ((i5 - (1 : Int32)) &&& 31))  h0 n0 ) hZ (hw _ (List.mem_of_getElem? (i := 8) rfl)) (hw _ (List.mem_of_getElem? (i := 7) rfl)) (by decide) (by decide)) (g := (mkF m 61 #[.val (.long j0), .second, .val (.int i2), .val (.long j3), .second, .val (.int i5), .val (.int ((1 : Int32) <<< (i5 &&& 31))), .val (.int ((1 : Int32) <<< ((i5 - (1 : Int32)) &&& 31)))] [(.int ((1 : Int32) <<< ((i5 - (1 : Int32)) &&& 31))), (.long j3)])) rfl (by rw [hml]; rfl) (argsL := [(.long j3), (.int ((1 : Int32) <<< ((i5 - (1 : Int32)) &&& 31)))]) (rest := []) (lenOf pd2 rfl) rfl (by show 2 * 0 + _ ≤ _; exact Nat.le_of_eq rfl) (hb hby at_61) (fun _ _ => ⟨rfl, e4, (by decide : 0 + 0 ≤ _), (by decide : 0 + 0 ≤ _)⟩)
          dsimp only [Pt.U, Pt.locs, Pt.cells, Pt.slots] at X7 l7 y7 z7 st7 hQ7
          subst l7 y7 z7
          obtain ⟨rfl, Nq7, e7⟩ := hQ7
          have N7 := Fr.app N4 Nq7
          refine own_step (T' := T7) (f' := (mkF m 64 #[.val (.long j0), .second, .val (.int i2), .val (.long j3), .second, .val (.int i5), .val (.int ((1 : Int32) <<< (i5 &&& 31))), .val (.int ((1 : Int32) <<< ((i5 - (1 : Int32)) &&& 31)))] [(.int (f2_0 j3 ((1 : Int32) <<< ((i5 - (1 : Int32)) &&& 31))))])) st7 ?_
          by_cases hc64_8 : (f2_0 j3 ((1 : Int32) <<< ((i5 - (1 : Int32)) &&& 31))) = (0 : Int32)
          · rw [if_pos hc64_8] at hr
            refine own_step (T' := T7) (f' := (mkF m 67 #[.val (.long j0), .second, .val (.int i2), .val (.long j3), .second, .val (.int i5), .val (.int ((1 : Int32) <<< (i5 &&& 31))), .val (.int ((1 : Int32) <<< ((i5 - (1 : Int32)) &&& 31)))] [])) (fun t kt => ?_) ?_
            · show Steps p.tables e below (T7.setTop (mkF m 64 #[.val (.long j0), .second, .val (.int i2), .val (.long j3), .second, .val (.int i5), .val (.int ((1 : Int32) <<< (i5 &&& 31))), .val (.int ((1 : Int32) <<< ((i5 - (1 : Int32)) &&& 31)))] [(.int (f2_0 j3 ((1 : Int32) <<< ((i5 - (1 : Int32)) &&& 31))))])) _
              refine XS.ifNo X7.here hx rfl (hb hby at_64) rfl ((if0 _ _).trans (teq hc64_8).2) kt
            refine own_step (T' := T7) (f' := (mkF m 72 #[.val (.long j0), .second, .val (.int i2), .val (.long j3), .second, .val (.int i5), .val (.int ((1 : Int32) <<< (i5 &&& 31))), .val (.int ((1 : Int32) <<< ((i5 - (1 : Int32)) &&& 31)))] [(.int (1 : Int32))])) (fun t kt => ?_) ?_
            · show Steps p.tables e below (T7.setTop (mkF m 67 #[.val (.long j0), .second, .val (.int i2), .val (.long j3), .second, .val (.int i5), .val (.int ((1 : Int32) <<< (i5 &&& 31))), .val (.int ((1 : Int32) <<< ((i5 - (1 : Int32)) &&& 31)))] [])) _
              refine XS.iconst X7.here hx rfl (hb hby at_67) ?_
              show Steps p.tables e below (T7.setTop (mkF m 68 #[.val (.long j0), .second, .val (.int i2), .val (.long j3), .second, .val (.int i5), .val (.int ((1 : Int32) <<< (i5 &&& 31))), .val (.int ((1 : Int32) <<< ((i5 - (1 : Int32)) &&& 31)))] [(.int (1 : Int32))])) _
              refine XS.goto X7.here hx rfl (pc0 := 68) (pc' := 72) rfl (hb hby at_68) (by decide) (by decide) ?_
              exact kt
            exact own_retZ X7 hx hret (by simp) hlk (hb hby at_72) (Nat.le_refl _) (Nat.le_refl _) ⟨congrArg (fun z => some (Value.int z)) hr.symm, N7, e7⟩
          · rw [if_neg hc64_8] at hr
            refine own_step (T' := T7) (f' := (mkF m 71 #[.val (.long j0), .second, .val (.int i2), .val (.long j3), .second, .val (.int i5), .val (.int ((1 : Int32) <<< (i5 &&& 31))), .val (.int ((1 : Int32) <<< ((i5 - (1 : Int32)) &&& 31)))] [])) (fun t kt => ?_) ?_
            · show Steps p.tables e below (T7.setTop (mkF m 64 #[.val (.long j0), .second, .val (.int i2), .val (.long j3), .second, .val (.int i5), .val (.int ((1 : Int32) <<< (i5 &&& 31))), .val (.int ((1 : Int32) <<< ((i5 - (1 : Int32)) &&& 31)))] [(.int (f2_0 j3 ((1 : Int32) <<< ((i5 - (1 : Int32)) &&& 31))))])) _
              refine XS.ifYes X7.here hx rfl (pc0 := 64) (pc' := 71) rfl (hb hby at_64) rfl ((if0 _ _).trans (feq hc64_8).2) (by decide) (by decide) kt
            refine own_step (T' := T7) (f' := (mkF m 72 #[.val (.long j0), .second, .val (.int i2), .val (.long j3), .second, .val (.int i5), .val (.int ((1 : Int32) <<< (i5 &&& 31))), .val (.int ((1 : Int32) <<< ((i5 - (1 : Int32)) &&& 31)))] [(.int (0 : Int32))])) (fun t kt => ?_) ?_
            · show Steps p.tables e below (T7.setTop (mkF m 71 #[.val (.long j0), .second, .val (.int i2), .val (.long j3), .second, .val (.int i5), .val (.int ((1 : Int32) <<< (i5 &&& 31))), .val (.int ((1 : Int32) <<< ((i5 - (1 : Int32)) &&& 31)))] [])) _
              refine XS.iconst X7.here hx rfl (hb hby at_71) ?_
              exact kt
            exact own_retZ X7 hx hret (by simp) hlk (hb hby at_72) (Nat.le_refl _) (Nat.le_refl _) ⟨congrArg (fun z => some (Value.int z)) hr.symm, N7, e7⟩
def f0_7 (j3 : Int64) : Int32 :=
  f0_13 j3 (f1_0 j3)
set_option maxRecDepth 65536 in
set_option maxHeartbeats 4000000 in
theorem b0_7 {p : Program} {l : Launch} {e : Env} {s : State} {m : MethodId} {args : Array Value} {below : List Frame} {meth : Method} {c : Code} {T0 : State} {locs : List Loc} {Z : State} {a0 : Array Value} {h0 : Heap} {n0 : Nat} (j0 : Int64) (i2 : Int32) (j3 : Int64) {r : Int32} (X0 : Stand p l e room_1 s m args below meth c T0 locs 0 0) (hx : p.tables.exec = Jvm.exec) (hZ : Z.Warmed39 s.vm) (hw : ∀ d ∈ tables_1, d.before a0 Z = true) (hby : c.code = code) (hml : c.maxLocals = 8) (hown : s.vm.findClass "com/example/interjot/interjot/JsonBWidthBitsPinLaw" = some m.cls) (hret : meth.sig.returnType = some .boolean) (hlk : meth.locks = false) (e0 : T0.heap = h0) (N0 : Fr n0 locs) (hr : r = f0_7 j3) :
    own_Ends p e below s 0 0 (own_P (.int r) h0 n0) T0 (mkF m 7 #[.val (.long j0), .second, .val (.int i2), .val (.long j3), .second, .unset, .unset, .unset] []) := by
  unfold f0_7 at hr
  refine own_step (T' := T0) (f' := (mkF m 8 #[.val (.long j0), .second, .val (.int i2), .val (.long j3), .second, .unset, .unset, .unset] [(.long j3)])) (fun t kt => ?_) ?_
  · show Steps p.tables e below (T0.setTop (mkF m 7 #[.val (.long j0), .second, .val (.int i2), .val (.long j3), .second, .unset, .unset, .unset] [])) _
    refine XS.lloadN X0.here hx rfl (hb hby at_7) rfl ?_
    exact kt
  obtain ⟨_, _, ⟨T1, L1, k1, n1⟩, -, X1, ⟨Lc1, hQ1, l1, y1, z1⟩, st1⟩ := Jvm.LawKit.callS X0 hx (y := (⟨"com/example/interjot/interjot/JsonB", "widthBits", "(J)I"⟩ : MethodName)) hown (mvT hZ (hw _ (List.mem_of_getElem? (i := 0) rfl))) (mvT hZ (hw _ (List.mem_of_getElem? (i := 1) rfl))) (mvT hZ (hw _ (List.mem_of_getElem? (i := 2) rfl))) (mvT hZ (hw _ (List.mem_of_getElem? (i := 3) rfl))) (by decide) (backOf (W := 0) (rm1 l Z a0 hw [] j3  h0 n0 ) hZ (hw _ (List.mem_of_getElem? (i := 3) rfl)) (hw _ (List.mem_of_getElem? (i := 2) rfl)) (by decide) (by decide)) (g := (mkF m 8 #[.val (.long j0), .second, .val (.int i2), .val (.long j3), .second, .unset, .unset, .unset] [(.long j3)])) rfl (by rw [hml]; rfl) (argsL := [(.long j3)]) (rest := []) (lenOf pd1 rfl) rfl (by show 2 * 0 + _ ≤ _; exact Nat.le_of_eq rfl) (hb hby at_8) (fun _ _ => ⟨rfl, e0, (by decide : 0 + 0 ≤ _), (by decide : 0 + 0 ≤ _)⟩)
  dsimp only [Pt.U, Pt.locs, Pt.cells, Pt.slots] at X1 l1 y1 z1 st1 hQ1
  subst l1 y1 z1
  obtain ⟨rfl, Nq1, e1⟩ := hQ1
  have N1 := Fr.app N0 Nq1
  refine own_step (T' := T1) (f' := (mkF m 11 #[.val (.long j0), .second, .val (.int i2), .val (.long j3), .second, .unset, .unset, .unset] [(.int (f1_0 j3))])) st1 ?_
  refine own_step (T' := T1) (f' := (mkF m 13 #[.val (.long j0), .second, .val (.int i2), .val (.long j3), .second, .val (.int (f1_0 j3)), .unset, .unset] [])) (fun t kt => ?_) ?_
  · show Steps p.tables e below (T1.setTop (mkF m 11 #[.val (.long j0), .second, .val (.int i2), .val (.long j3), .second, .unset, .unset, .unset] [(.int (f1_0 j3))])) _
    refine XS.istore X1.here hx rfl (hb hby at_11) rfl (l' := #[.val (.long j0), .second, .val (.int i2), .val (.long j3), .second, .val (.int (f1_0 j3)), .unset, .unset]) rfl ?_
    exact kt
  exact b0_13 j0 i2 j3 (f1_0 j3) X1 hx hZ hw hby hml hown hret hlk e1 N1 hr
def f0_0 (q0 : Int64) (p1 : Int32) : Int32 :=
  f0_7 ((q0.toUInt64 >>> ((p1 &&& (63 : Int32)) &&& 0x3f).toInt64.toUInt64).toInt64)
set_option maxRecDepth 65536 in
set_option maxHeartbeats 4000000 in
theorem b0_0 {p : Program} {l : Launch} {e : Env} {s : State} {m : MethodId} {args : Array Value} {below : List Frame} {meth : Method} {c : Code} {T0 : State} {locs : List Loc} {Z : State} {a0 : Array Value} {h0 : Heap} {n0 : Nat} (q0 : Int64) (p1 : Int32) {r : Int32} (X0 : Stand p l e room_1 s m args below meth c T0 locs 0 0) (hx : p.tables.exec = Jvm.exec) (hZ : Z.Warmed39 s.vm) (hw : ∀ d ∈ tables_1, d.before a0 Z = true) (hby : c.code = code) (hml : c.maxLocals = 8) (hown : s.vm.findClass "com/example/interjot/interjot/JsonBWidthBitsPinLaw" = some m.cls) (hret : meth.sig.returnType = some .boolean) (hlk : meth.locks = false) (e0 : T0.heap = h0) (N0 : Fr n0 locs) (hr : r = f0_0 q0 p1) :
    own_Ends p e below s 0 0 (own_P (.int r) h0 n0) T0 (mkF m 0 #[.val (.long q0), .second, .val (.int p1), .unset, .unset, .unset, .unset, .unset] []) := by
  unfold f0_0 at hr
  refine own_step (T' := T0) (f' := (mkF m 7 #[.val (.long q0), .second, .val (.int p1), .val (.long ((q0.toUInt64 >>> ((p1 &&& (63 : Int32)) &&& 0x3f).toInt64.toUInt64).toInt64)), .second, .unset, .unset, .unset] [])) (fun t kt => ?_) ?_
  · show Steps p.tables e below (T0.setTop (mkF m 0 #[.val (.long q0), .second, .val (.int p1), .unset, .unset, .unset, .unset, .unset] [])) _
    refine XS.lloadN X0.here hx rfl (hb hby at_0) rfl ?_
    show Steps p.tables e below (T0.setTop (mkF m 1 #[.val (.long q0), .second, .val (.int p1), .unset, .unset, .unset, .unset, .unset] [(.long q0)])) _
    refine XS.iloadN X0.here hx rfl (hb hby at_1) rfl ?_
    show Steps p.tables e below (T0.setTop (mkF m 2 #[.val (.long q0), .second, .val (.int p1), .unset, .unset, .unset, .unset, .unset] [(.int p1), (.long q0)])) _
    refine XS.bipush X0.here hx rfl (hb hby at_2) ?_
    show Steps p.tables e below (T0.setTop (mkF m 4 #[.val (.long q0), .second, .val (.int p1), .unset, .unset, .unset, .unset, .unset] [(.int (63 : Int32)), (.int p1), (.long q0)])) _
    refine XS.iand X0.here hx rfl (hb hby at_4) rfl ?_
    show Steps p.tables e below (T0.setTop (mkF m 5 #[.val (.long q0), .second, .val (.int p1), .unset, .unset, .unset, .unset, .unset] [(.int (p1 &&& (63 : Int32))), (.long q0)])) _
    refine XS.lushr X0.here hx rfl (hb hby at_5) rfl ?_
    show Steps p.tables e below (T0.setTop (mkF m 6 #[.val (.long q0), .second, .val (.int p1), .unset, .unset, .unset, .unset, .unset] [(.long ((q0.toUInt64 >>> ((p1 &&& (63 : Int32)) &&& 0x3f).toInt64.toUInt64).toInt64))])) _
    refine XS.lstoreN X0.here hx rfl (hb hby at_6) rfl (l' := #[.val (.long q0), .second, .val (.int p1), .val (.long ((q0.toUInt64 >>> ((p1 &&& (63 : Int32)) &&& 0x3f).toInt64.toUInt64).toInt64)), .second, .unset, .unset, .unset]) rfl ?_
    exact kt
  exact b0_7 q0 p1 ((q0.toUInt64 >>> ((p1 &&& (63 : Int32)) &&& 0x3f).toInt64.toUInt64).toInt64) X0 hx hZ hw hby hml hown hret hlk e0 N0 hr
set_option maxRecDepth 65536 in
set_option maxHeartbeats 4000000 in
theorem rm0 (l : Launch) (Z : State) (a0 : Array Value) (hw : ∀ d ∈ tables_1, d.before a0 Z = true) (ws : List Jvm.Cond) (q0 : Int64) (p1 : Int32) (h0 : Heap) (n0 : Nat) :
    MetFree l x (head1 (Jvm.Cond.code x code maxLocals ret :: ws) room_1) (fun a U => a = #[(.long q0), (.int p1)] ∧ Z.Warmed39 U.vm ∧ U.heap = h0) (fun _ _ _ _ _ => True) (fun _ U o U' => ∃ v L, o = .returned v ∧ (own_P (.int (f0_0 q0 p1)) h0 n0) v U'.heap L ∧ FrameEnd U o U' L 0 0) := by
  refine MetFree.of_bodySF (plainFor_of_name pn0) hisR ?_
  intro p e s m args below meth c s₁ Bd hml0 hP hK
  obtain ⟨rfl, hZ, hh⟩ := hP
  have hown : s.vm.findClass "com/example/interjot/interjot/JsonBWidthBitsPinLaw" = some m.cls := findClass_of_methodNamed Bd.named
  have X0 : Stand p l e room_1 s m #[(.long q0), (.int p1)] below meth c s₁ [] 0 0 := Stand.of_body Bd
  have e0 : s₁.heap = h0 := by rw [← hh, Bd.state]; rfl
  show own_Ends p e below s 0 0 (own_P (.int (f0_0 q0 p1)) h0 n0) s₁ (entryFrame m #[(.long q0), (.int p1)] maxLocals)
  refine own_step (fun t k => castTop (ef0 m q0 p1) k) ?_
  exact b0_0 q0 p1 X0 Bd.exec hZ hw Bd.bytes hml0 hown Bd.returns (BodyLoose.notSynchronized Bd) e0 (Fr.nil n0) rfl
theorem own_and_zero (v : Int64) (k : Nat) (h0 : 0 < k) (hk : k ≤ 62) (mm nn : Int64) (hm : mm.toBitVec.toNat = 2 ^ k - 1) (hn : nn = ~~~ mm) : v &&& nn = 0 ↔ 0 ≤ v.toInt ∧ v.toInt < (2 ^ k : Nat) := by
  have e := c_maskL v mm k (by omega) hm
  have hp : (0 : Int) < (2 ^ k : Nat) := by have := Nat.pow_pos (n := k) (show 0 < 2 by decide); omega
  have b1 := Int.emod_nonneg v.toInt (show ((2 ^ k : Nat) : Int) ≠ 0 by omega)
  have b2 := Int.emod_lt_of_pos v.toInt hp
  subst hn
  constructor
  · intro h
    have hv : v = v &&& mm := by
      have : v = (v &&& mm) ||| (v &&& ~~~ mm) := by
        apply Int64.toBitVec_inj.mp
        show v.toBitVec = (v.toBitVec &&& mm.toBitVec) ||| (v.toBitVec &&& ~~~ mm.toBitVec)
        rw [← BitVec.and_or_distrib_left]
        have e1 : mm.toBitVec ||| ~~~ mm.toBitVec = BitVec.allOnes 64 := by simp
        rw [e1, BitVec.and_allOnes]
      rw [h, Int64.or_zero] at this
      exact this
    rw [hv, e]; exact ⟨b1, b2⟩
  · rintro ⟨h1, h2⟩
    have hv : v &&& mm = v := Int64.toInt_inj.mp (by rw [e, Int.emod_eq_of_lt h1 h2])
    rw [← hv, Int64.and_assoc, Int64.and_not_self, Int64.and_zero]
theorem own_shift_zero (v : Int64) (q : Int32) (k : Nat) (hq : q.toBitVec.toNat % 64 = k) (h0 : 0 < k) (hk : k ≤ 62) : ((v.toUInt64 >>> (q &&& 0x3f).toInt64.toUInt64).toInt64) = 0 ↔ 0 ≤ v.toInt ∧ v.toInt < (2 ^ k : Nat) := by
  have e := c_lushr v q k hq h0
  have hp : (0 : Int) < (2 ^ k : Nat) := by have := Nat.pow_pos (n := k) (show 0 < 2 by decide); omega
  have hp2 : ((2 ^ k : Nat) : Int) ≤ 4611686018427387904 := by
    have := Nat.pow_le_pow_right (show 0 < 2 by decide) hk
    have h62 : (2 : Nat) ^ 62 = 4611686018427387904 := by decide
    omega
  have l1 := Int64.le_toInt v
  have l2 := Int64.toInt_lt v
  rw [← Int64.toInt_inj, e, Int64.toInt_zero]
  generalize ((2 ^ k : Nat) : Int) = P at *
  constructor
  · intro h
    have h3 := Int.emod_lt_of_pos (v.toInt % 18446744073709551616) hp
    have h4 := Int.mul_ediv_add_emod (v.toInt % 18446744073709551616) P
    rw [h, Int.mul_zero] at h4
    omega
  · rintro ⟨a, b⟩
    rw [Int.emod_eq_of_lt a (by omega)]
    exact Int.ediv_eq_zero_of_lt a b
theorem own_g1 (v : Int64) : f2_0 v 1 = if v &&& (-256 : Int64) = 0 then 1 else 0 := by
  have a := own_and_zero v 8 (by decide) (by decide) 255 (-256) (by decide) (by decide)
  have b := own_shift_zero v ((8 : Int32) * 1) 8 (by decide) (by decide) (by decide)
  unfold f2_0
  rw [if_pos (by decide)]
  by_cases h : v &&& (-256 : Int64) = 0
  · rw [if_pos h, if_pos (b.mpr (a.mp h))]
  · rw [if_neg h, if_neg (fun z => h (a.mpr (b.mp z)))]
theorem own_g2 (v : Int64) : f2_0 v 2 = if v &&& (-65536 : Int64) = 0 then 1 else 0 := by
  have a := own_and_zero v 16 (by decide) (by decide) 65535 (-65536) (by decide) (by decide)
  have b := own_shift_zero v ((8 : Int32) * 2) 16 (by decide) (by decide) (by decide)
  unfold f2_0
  rw [if_pos (by decide)]
  by_cases h : v &&& (-65536 : Int64) = 0
  · rw [if_pos h, if_pos (b.mpr (a.mp h))]
  · rw [if_neg h, if_neg (fun z => h (a.mpr (b.mp z)))]
theorem own_g4 (v : Int64) : f2_0 v 4 = if v &&& (-4294967296 : Int64) = 0 then 1 else 0 := by
  have a := own_and_zero v 32 (by decide) (by decide) 4294967295 (-4294967296) (by decide) (by decide)
  have b := own_shift_zero v ((8 : Int32) * 4) 32 (by decide) (by decide) (by decide)
  unfold f2_0
  rw [if_pos (by decide)]
  by_cases h : v &&& (-4294967296 : Int64) = 0
  · rw [if_pos h, if_pos (b.mpr (a.mp h))]
  · rw [if_neg h, if_neg (fun z => h (a.mpr (b.mp z)))]
theorem own_g8 (v : Int64) : f2_0 v 8 = 1 := by
  unfold f2_0
  rw [if_neg (by decide)]
theorem own_seven (v : Int64) : f0_7 v = 1 := by
  have s0 : ((1 : Int32) <<< ((0 : Int32) &&& 31)) = 1 := by decide
  have s1 : ((1 : Int32) <<< ((1 : Int32) &&& 31)) = 2 := by decide
  have s2 : ((1 : Int32) <<< ((2 : Int32) &&& 31)) = 4 := by decide
  have s3 : ((1 : Int32) <<< ((3 : Int32) &&& 31)) = 8 := by decide
  have m1 : (1 : Int32) - 1 = 0 := by decide
  have m2 : (2 : Int32) - 1 = 1 := by decide
  have m3 : (3 : Int32) - 1 = 2 := by decide
  unfold f0_7 f1_0 f1_47
  by_cases h1 : v &&& (-256 : Int64) = 0
  · rw [if_pos h1]; unfold f0_13
    rw [if_neg (by decide), if_neg (by decide), s0, own_g1, if_pos h1, if_neg (by decide), if_pos rfl]
  · rw [if_neg h1]
    by_cases h2 : v &&& (-65536 : Int64) = 0
    · rw [if_pos h2]; unfold f0_13
      rw [if_neg (by decide), if_neg (by decide), s1, own_g2, if_pos h2, if_neg (by decide), if_neg (by decide), m1, s0, own_g1, if_neg h1, if_pos rfl]
    · rw [if_neg h2]
      by_cases h3 : v &&& (-4294967296 : Int64) = 0
      · rw [if_pos h3]; unfold f0_13
        rw [if_neg (by decide), if_neg (by decide), s2, own_g4, if_pos h3, if_neg (by decide), if_neg (by decide), m2, s1, own_g2, if_neg h2, if_pos rfl]
      · rw [if_neg h3]; unfold f0_13
        rw [if_neg (by decide), if_neg (by decide), s3, own_g8, if_neg (by decide), if_neg (by decide), m3, s2, own_g4, if_neg h3, if_pos rfl]
theorem law_true (q0 : Int64) (p1 : Int32) : f0_0 q0 p1 = 1 := by unfold f0_0; exact own_seven _

set_option maxRecDepth 65536 in
set_option maxHeartbeats 4000000 in
theorem comes_1 {Post : Tables → Env → Array Value → State → Outcome → State → Prop} (hpost : ∀ tb e args s v u, (limb_1_1.after args s (.returned v) u = true ∧ limb_1_2.after args s (.returned v) u = true ∧ True) → FrameEnd s (.returned v) u (Jvm.fieldLocs frame_1_writes args s ++ Jvm.arrayLocs frame_1_arrays args s ++ Jvm.staticLocs frame_1_statics s) 0 0 → Post tb e args s (.returned v) u) :
    ArmFor flags0 classFile x code maxLocals ret World_1 tables_1 room_1 Calls_1 rest_1 Pre_1 Post := by
  intro l hfl _ _ p e ha hc hk s m args below hf hA hF happ hP
  obtain ⟨hcalls, hrest, hpre⟩ := hP
  obtain ⟨-, -, -, hnamed, -, -, -, hat⟩ := (Spec.applies_iff hf).mp happ
  obtain ⟨hg, hn⟩ := and_e (Cond.before_iff.mp (show (Jvm.Cond.and given_1 narrow_1).before args s = true from hpre))
  obtain ⟨g1, g2⟩ := and_e hg
  obtain ⟨ga0, gb0⟩ := and_e g2
  obtain ⟨w0, w1, rfl⟩ : ∃ w0 w1 : Value, args = #[w0, w1] := by
    have hs : args.size = 2 := by simpa [Cond.value, given_1] using g1
    obtain ⟨L⟩ := args
    match L, hs with
    | [w0, w1], _ => exact ⟨w0, w1, rfl⟩
  have hw := fun d (hd : d ∈ tables_1) => atoms_spec (ws := Jvm.Cond.code x code maxLocals ret :: tables_1) hat d (List.mem_cons_of_mem _ hd)
  obtain ⟨i0, ei0⟩ := isL_v ga0
  obtain rfl : w0 = (.long i0) := Option.some.inj ei0
  obtain ⟨i1, ei1⟩ := is_v gb0
  obtain rfl : w1 = (.int i1) := Option.some.inj ei1
  obtain ⟨n, o, h1, h2, h3, _, L, rfl, ⟨rfl, N, -⟩, hq⟩ := rm0 l s _ hw tables_1 i0 i1 s.heap s.heap.size p e ha hc hk s m _ below hf ((Spec.applies_iff_loose hf).mp happ).1 ⟨rfl, State.Warmed39.refl s, rfl⟩ trivial
  rw [law_true] at *
  refine ⟨n, _, h1, h2, h3, hpost _ _ _ _ _ _ ⟨Cond.after_iff.mpr rfl, Cond.after_iff.mpr (eq_i res_at (Term.int_eval (1)) rfl), trivial⟩ ⟨hq.1, hq.2.1, (hq.2.2.sift fun y hy => Or.inr (N y hy)).mono (by decide) (by decide)⟩⟩
theorem main_1_1 : Claimed_1_1 := comes_1 fun _ _ _ _ _ _ h hF => ⟨h.1, hF⟩
theorem main_1_2 : Claimed_1_2 := comes_1 fun _ _ _ _ _ _ h hF => ⟨h.2.1, hF⟩
end Jvm.Pilot.@@N@@
namespace Jvm.Pilot.@@N@@
open Jvm Jvm.ClassFile Sem Op Lib Jvm.Free Jvm.Stand Jvm.Pilot.@@N@@.Jvm.D
/-! MADE BY PROGRAM (witnessworld.py) out of the Statement's table words and the real class files: 9 classes; the members and pool entries that the words name. The judged class is class 1, her method 2. -/
namespace start1
open Jvm.ClassFile
def u (s : String) : CpInfo := .utf8 (stringToUtf16 s)
/-- a pool by its gaps: so many unusable entries, then the entry; so many at the end -/
def gap : Nat → List CpInfo → List CpInfo
  | 0, r => r
  | n + 1, r => .unusable :: gap n r
def poolList (es : List (Nat × CpInfo)) (last : Nat) : List CpInfo := es.foldr (fun e r => gap e.1 (e.2 :: r)) (gap last [])
def pool (es : List (Nat × CpInfo)) (last : Nat) : Array CpInfo := ⟨poolList es last⟩
def fileOf (pool : Array CpInfo) (this : Nat) (attrs : Array Attribute := #[]) (ms : Array MethodInfo := #[]) (fl : Nat := 33) (sup : Nat := 0) (ifs : Array Nat := #[]) (fds : Array FieldInfo := #[]) : ClassFile where
  minorVersion := 0
  majorVersion := 65
  constantPool := pool
  accessFlags := fl
  thisClass := this
  superClass := sup
  interfaces := ifs
  fields := fds
  methods := ms
  attributes := attrs
def plain (name : String) (sup : Option ClassId) : Class where
  name := name
  kind := .ordinary
  loader := none
  accessFlags := 33
  super := sup
  interfaces := #[]
  cf := none
  fields := #[]
  methods := #[]
  instanceTypes := #[]
  staticTypes := #[]
  resolved := #[]
  callSites := []
  init := .initialized
  statics := none
  mirror := none

def pool0 : Array CpInfo := pool [(5, u "<init>"), (0, u "()V"), (1, .class_ 10), (1, u "java/lang/Object")] 113

def k0m0 : Method := { name := "<init>", desc := "()V", sig := { parameters := [], returnType := none }, accessFlags := 1, code := none }
/-- java/lang/Object -/
def k0 : Class := { plain "java/lang/Object" none with
  accessFlags := 33
  interfaces := #[]
  cf := some (fileOf pool0 8 #[] #[{ accessFlags := 1, nameIndex := 5, descriptorIndex := 6, attributes := #[] }] 33 0 #[] #[])
  fields := #[]
  methods := #[k0m0]
  instanceTypes := #[]
  staticTypes := #[]
  resolved := Array.replicate 124 none
  statics := none }

def pool1 : Array CpInfo := pool [(2, .class_ 4), (1, u "java/lang/Object"), (0, u "<init>"), (0, u "()V"), (0, .methodref 8 9), (0, .class_ 10), (0, .nameAndType 11 12), (0, u "com/example/interjot/interjot/JsonB"), (0, u "widthBits"), (0, u "(J)I"), (0, .methodref 14 15), (0, .class_ 16), (0, .nameAndType 17 18), (0, u "com/example/interjot/interjot/JsonBWidthBitsPinLaw"), (0, u "fits"), (0, u "(JI)Z"), (3, u "law")] 2

def k1m0 : Method := { name := "<init>", desc := "()V", sig := { parameters := [], returnType := none }, accessFlags := 2, code := none }
def k1c1 : Code := { maxStack := 4, maxLocals := 3, code := method_2_code, exceptionTable := #[], attributes := #[] }
def k1m1 : Method := { name := "fits", desc := "(JI)Z", sig := { parameters := [.long, .int], returnType := some .boolean }, accessFlags := 10, code := some k1c1 }
def k1c2 : Code := { maxStack := 4, maxLocals := 8, code := code, exceptionTable := #[], attributes := #[] }
def k1m2 : Method := { name := "law", desc := "(JI)Z", sig := { parameters := [.long, .int], returnType := some .boolean }, accessFlags := 9, code := some k1c2 }
/-- com/example/interjot/interjot/JsonBWidthBitsPinLaw -/
def k1 : Class := { plain "com/example/interjot/interjot/JsonBWidthBitsPinLaw" (some 0) with
  accessFlags := 49
  interfaces := #[]
  cf := some (fileOf pool1 14 #[] #[{ accessFlags := 2, nameIndex := 5, descriptorIndex := 6, attributes := #[] }, { accessFlags := 10, nameIndex := 17, descriptorIndex := 18, attributes := #[] }, { accessFlags := 9, nameIndex := 22, descriptorIndex := 18, attributes := #[] }] 49 2 #[] #[])
  fields := #[]
  methods := #[k1m0, k1m1, k1m2]
  instanceTypes := #[]
  staticTypes := #[]
  resolved := Array.replicate 25 none
  statics := none }

def pool2 : Array CpInfo := pool [(2, .class_ 4), (1, u "java/lang/Object"), (0, u "<init>"), (0, u "()V"), (0, .class_ 8), (0, u "com/example/interjot/interjot/JsonB"), (8, .long 18446744073709551360), (1, .long 18446744073709486080), (1, .long 18446744069414584320), (1, u "STRING"), (0, u "I"), (2, u "DATA"), (1, u "NOT_LAST"), (1, u "BINARY64"), (1, u "POSITIVE"), (1, u "NEGATIVE"), (1, u "BIGNUM"), (1, u "TRUE"), (1, u "FALSE"), (1, u "NULL"), (1, u "USE_CODE"), (1, u "DEFINE_CODE"), (1, u "DEFINE_AND_USE_CODE"), (1, u "KIND"), (1, u "CODE_KIND"), (8, u "widthBits"), (0, u "(J)I")] 2

def k2m0 : Method := { name := "<init>", desc := "()V", sig := { parameters := [], returnType := none }, accessFlags := 2, code := none }
def k2c1 : Code := { maxStack := 4, maxLocals := 3, code := prog_14_method_8_code, exceptionTable := #[], attributes := #[] }
def k2m1 : Method := { name := "widthBits", desc := "(J)I", sig := { parameters := [.long], returnType := some .int }, accessFlags := 8, code := some k2c1 }
/-- com/example/interjot/interjot/JsonB -/
def k2 : Class := { plain "com/example/interjot/interjot/JsonB" (some 0) with
  accessFlags := 48
  interfaces := #[]
  cf := some (fileOf pool2 7 #[] #[{ accessFlags := 2, nameIndex := 5, descriptorIndex := 6, attributes := #[] }, { accessFlags := 8, nameIndex := 62, descriptorIndex := 63, attributes := #[] }] 48 2 #[] #[{ accessFlags := 24, nameIndex := 23, descriptorIndex := 24, attributes := #[] }, { accessFlags := 24, nameIndex := 27, descriptorIndex := 24, attributes := #[] }, { accessFlags := 24, nameIndex := 29, descriptorIndex := 24, attributes := #[] }, { accessFlags := 24, nameIndex := 31, descriptorIndex := 24, attributes := #[] }, { accessFlags := 24, nameIndex := 33, descriptorIndex := 24, attributes := #[] }, { accessFlags := 24, nameIndex := 35, descriptorIndex := 24, attributes := #[] }, { accessFlags := 24, nameIndex := 37, descriptorIndex := 24, attributes := #[] }, { accessFlags := 24, nameIndex := 39, descriptorIndex := 24, attributes := #[] }, { accessFlags := 24, nameIndex := 41, descriptorIndex := 24, attributes := #[] }, { accessFlags := 24, nameIndex := 43, descriptorIndex := 24, attributes := #[] }, { accessFlags := 24, nameIndex := 45, descriptorIndex := 24, attributes := #[] }, { accessFlags := 24, nameIndex := 47, descriptorIndex := 24, attributes := #[] }, { accessFlags := 24, nameIndex := 49, descriptorIndex := 24, attributes := #[] }, { accessFlags := 26, nameIndex := 51, descriptorIndex := 24, attributes := #[] }, { accessFlags := 26, nameIndex := 53, descriptorIndex := 24, attributes := #[] }])
  fields := #[{ name := "STRING", type := .int, accessFlags := 24, slot := 0, constantValue := 0 }, { name := "DATA", type := .int, accessFlags := 24, slot := 1, constantValue := 0 }, { name := "NOT_LAST", type := .int, accessFlags := 24, slot := 2, constantValue := 0 }, { name := "BINARY64", type := .int, accessFlags := 24, slot := 3, constantValue := 0 }, { name := "POSITIVE", type := .int, accessFlags := 24, slot := 4, constantValue := 0 }, { name := "NEGATIVE", type := .int, accessFlags := 24, slot := 5, constantValue := 0 }, { name := "BIGNUM", type := .int, accessFlags := 24, slot := 6, constantValue := 0 }, { name := "TRUE", type := .int, accessFlags := 24, slot := 7, constantValue := 0 }, { name := "FALSE", type := .int, accessFlags := 24, slot := 8, constantValue := 0 }, { name := "NULL", type := .int, accessFlags := 24, slot := 9, constantValue := 0 }, { name := "USE_CODE", type := .int, accessFlags := 24, slot := 10, constantValue := 0 }, { name := "DEFINE_CODE", type := .int, accessFlags := 24, slot := 11, constantValue := 0 }, { name := "DEFINE_AND_USE_CODE", type := .int, accessFlags := 24, slot := 12, constantValue := 0 }, { name := "KIND", type := .int, accessFlags := 26, slot := 13, constantValue := 0 }, { name := "CODE_KIND", type := .int, accessFlags := 26, slot := 14, constantValue := 0 }]
  methods := #[k2m0, k2m1]
  instanceTypes := #[]
  staticTypes := #[.int, .int, .int, .int, .int, .int, .int, .int, .int, .int, .int, .int, .int, .int, .int]
  resolved := Array.replicate 66 none
  statics := none }

def pool3 : Array CpInfo := pool [(1, u "java/lang/Cloneable"), (0, .class_ 1), (0, u "java/lang/Object"), (0, .class_ 3)] 3

/-- java/lang/Cloneable -/
def k3 : Class := { plain "java/lang/Cloneable" (some 0) with
  accessFlags := 1537
  interfaces := #[]
  cf := some (fileOf pool3 2 #[] #[] 1537 4 #[] #[])
  fields := #[]
  methods := #[]
  instanceTypes := #[]
  staticTypes := #[]
  resolved := Array.replicate 8 none
  statics := none }

def pool4 : Array CpInfo := pool [(1, u "java/io/Serializable"), (0, .class_ 1), (0, u "java/lang/Object"), (0, .class_ 3)] 3

/-- java/io/Serializable -/
def k4 : Class := { plain "java/io/Serializable" (some 0) with
  accessFlags := 1537
  interfaces := #[]
  cf := some (fileOf pool4 2 #[] #[] 1537 4 #[] #[])
  fields := #[]
  methods := #[]
  instanceTypes := #[]
  staticTypes := #[]
  resolved := Array.replicate 8 none
  statics := none }

/-- the primitive byte -/
def k5 : Class := { plain "byte" none with kind := .primitive 'B', accessFlags := 0x411 }
/-- [B -/
def k6 : Class := { plain "[B" (some 0) with kind := .array 5 .byte, interfaces := #[3, 4], accessFlags := 1041 }

/-- the primitive int -/
def k7 : Class := { plain "int" none with kind := .primitive 'I', accessFlags := 0x411 }
/-- [I -/
def k8 : Class := { plain "[I" (some 0) with kind := .array 7 .int, interfaces := #[3, 4], accessFlags := 1041 }

def heap : Heap := #[]
def classes : Array Class := #[k0, k1, k2, k3, k4, k5, k6, k7, k8]
def interned : List (Array UInt16 × Addr) := []
def slotsUsed : Nat := 0
def theMethod : MethodId := ⟨1, 2⟩
def args0 : Array Value := #[.long 5, .int 7]
def aboutOver (below : List Frame) : State where
  vm := { classes := classes, interned := interned.toArray }
  heap := heap
  slotsUsed := slotsUsed
  threads := #[{ frames := .invoking theMethod args0 :: below }]
def below0 : List Frame := [.native { method := ⟨0, 0⟩, args := #[] }]
def about1 : State := aboutOver below0
def p0 : Program := .bare "" "" ""
def e0 : Env := launch0.env 0 0 0
theorem w_frames : about1.frames = Frame.invoking theMethod args0 :: below0 := rfl
set_option maxRecDepth 65536 in
theorem w_args : argsFit about1.vm theMethod args0 = true := by decide +kernel
set_option maxRecDepth 65536 in
theorem w_heap : heapFits about1 = true := by decide +kernel
set_option maxRecDepth 65536 in
theorem w_runnable : about1.curStatus? = some .runnable := by decide +kernel
set_option maxRecDepth 65536 in
theorem w_alone : about1.alone = true := by decide +kernel
set_option maxRecDepth 65536 in
theorem w_named : about1.methodNamed? x = some theMethod := by decide +kernel
set_option maxRecDepth 65536 in
theorem w_hears : about1.hears theMethod below0 = true := by decide +kernel
set_option maxRecDepth 65536 in
theorem w_ripe : about1.ripe theMethod args0 below0 = true := by decide +kernel
theorem w_running : about1.status = .running := rfl
set_option maxRecDepth 65536 in
theorem w_room : about1.hasRoom e0.platform room_1 = true :=
  launch0.hasRoom_least _ room_1 (by decide +kernel) (by decide +kernel) (by decide +kernel) (by decide +kernel) (by decide +kernel) (by decide +kernel)
theorem allAtoms_all (ts : List Jvm.Cond) (a : Array Jvm.Value) (st : Jvm.State) : (allAtoms ts).before a st = ts.all (fun c => c.before a st) := by
  induction ts with
  | nil => rfl
  | cons c t ih =>
    show (Jvm.Cond.and c (allAtoms t)).before a st = _
    rw [Jvm.Cond.before_and, ih, List.all_cons]
def words1 : List Jvm.Cond := Jvm.Cond.code x code maxLocals ret :: tables_1
/-- a 'code' word, met by the world's own term for the bytes: nothing is compared byte by byte -/
theorem code_word {y : MethodName} {bytes : ByteArray} {mx : Nat} {rt : Option FieldType} {a : Array Value} {s : State} {m : MethodId} {meth : Method} {c : Code} (h1 : s.methodNamed? y = some m) (h2 : s.vm.method? m = some meth) (h3 : meth.code = some c) (h4 : c.code = bytes)
    (h5 : (c.maxLocals == mx && c.exceptionTable.isEmpty && decide (c.maxStack ≤ mostOperands) && decide (meth.sig.returnType = rt) && !meth.locks && decide (parseMethodDescriptor y.desc = some meth.sig)) = true) : (Jvm.Cond.code y bytes mx rt).before a s = true := by
  simp only [Bool.and_eq_true, beq_iff_eq, Bool.not_eq_true', decide_eq_true_eq] at h5
  obtain ⟨⟨⟨⟨⟨g1, g2⟩, g3⟩, g4⟩, g5⟩, g6⟩ := h5
  simp [Cond.before, Cond.holds, Cond.value, h1, h2, h3, h4, g1, g2, g3, g4, g5, g6]
def isCode : Jvm.Cond → Bool
  | .code _ _ _ _ => true
  | _ => false
theorem all_split {L : List Jvm.Cond} {P : Jvm.Cond → Bool} (h1 : L.all (fun c => isCode c || P c) = true) (h2 : ∀ c ∈ L.filter isCode, P c = true) : L.all P = true := by
  refine List.all_eq_true.mpr fun c hc => ?_
  have h := List.all_eq_true.mp h1 c hc
  rcases Bool.eq_false_or_eq_true (isCode c) with hi | hi
  · exact h2 c (List.mem_filter.mpr ⟨hc, hi⟩)
  · simpa [hi] using h
set_option maxRecDepth 65536 in
theorem w_c0 : (Jvm.Cond.code x code maxLocals ret).before args0 about1 = true := code_word (m := ⟨1, 2⟩) (meth := k1m2) (c := k1c2) (by decide +kernel) rfl rfl rfl (by decide +kernel)
set_option maxRecDepth 65536 in
theorem w_c1 : (Jvm.Cond.code ({ cls := "com/example/interjot/interjot/JsonB", name := "widthBits", desc := "(J)I" } : Jvm.MethodName) prog_14_method_8_code (3 : Nat) (Option.some Jvm.ClassFile.FieldType.int)).before args0 about1 = true := code_word (m := ⟨2, 1⟩) (meth := k2m1) (c := k2c1) (by decide +kernel) rfl rfl rfl (by decide +kernel)
set_option maxRecDepth 65536 in
theorem w_c2 : (Jvm.Cond.code ({ cls := "com/example/interjot/interjot/JsonBWidthBitsPinLaw", name := "fits", desc := "(JI)Z" } : Jvm.MethodName) method_2_code (3 : Nat) (Option.some Jvm.ClassFile.FieldType.boolean)).before args0 about1 = true := code_word (m := ⟨1, 1⟩) (meth := k1m1) (c := k1c1) (by decide +kernel) rfl rfl rfl (by decide +kernel)
def codes1 : List Jvm.Cond := [Jvm.Cond.code x code maxLocals ret, Jvm.Cond.code ({ cls := "com/example/interjot/interjot/JsonB", name := "widthBits", desc := "(J)I" } : Jvm.MethodName) prog_14_method_8_code (3 : Nat) (Option.some Jvm.ClassFile.FieldType.int), Jvm.Cond.code ({ cls := "com/example/interjot/interjot/JsonBWidthBitsPinLaw", name := "fits", desc := "(JI)Z" } : Jvm.MethodName) method_2_code (3 : Nat) (Option.some Jvm.ClassFile.FieldType.boolean)]
set_option maxRecDepth 65536 in
theorem codes_eq : words1.filter isCode = codes1 := rfl
theorem w_codes : ∀ c ∈ words1.filter isCode, c.before args0 about1 = true := by
  rw [codes_eq]
  intro c hc
  simp only [codes1, List.mem_cons, List.not_mem_nil, or_false] at hc
  rcases hc with rfl | rfl | rfl
  · exact w_c0
  · exact w_c1
  · exact w_c2
set_option maxRecDepth 65536 in
theorem w_t1 : words1.all (fun c => isCode c || c.before args0 about1) = true := by decide +kernel
theorem w_tables : (allAtoms (Jvm.Cond.code x code maxLocals ret :: tables_1)).before args0 about1 = true := by
  rw [allAtoms_all]
  show words1.all (fun c => c.before args0 about1) = true
  refine all_split ?_ w_codes
  rw [w_t1]
set_option maxRecDepth 65536 in
theorem w_case : (Jvm.Cond.and given_1 narrow_1).before args0 about1 = true := by decide +kernel
theorem w_applies : (headSpec (Jvm.Cond.code x code maxLocals ret :: tables_1) room_1).applies x e0.platform about1 = true :=
  (Spec.applies_iff w_frames).mpr ⟨w_running, w_runnable, w_alone, w_named, w_hears, w_ripe, w_room, w_tables⟩
theorem atStart : AtStart classFile x code maxLocals ret World_1 tables_1 room_1 Calls_1 rest_1 Pre_1 launch0 p0 e0 about1 theMethod args0 below0 :=
  ⟨lists_1, trivial, launch0.admits_env _ _ _, launch0.least_env, fairChoices_fair.cas, fairChoices_fair.clock, w_frames, w_args, w_heap, w_applies, trivial, trivial, w_case⟩
end start1
theorem witness_1 : WitnessClaimed_1 := ⟨start1.p0, start1.e0, start1.about1, start1.theMethod, start1.args0, start1.below0, start1.atStart⟩
end Jvm.Pilot.@@N@@
