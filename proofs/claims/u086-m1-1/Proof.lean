import JvmDerived
import JvmDerived.Pilot.@@N@@Statement
import JvmDerived.Pilot.@@N@@Code
set_option linter.unusedVariables false
set_option linter.unusedSimpArgs false
namespace Jvm.RoadKit
open Sem ClassFile Op Lib Jvm.Stand Jvm.Free Jvm.LawKit
section New
variable {p : Program} {l : Launch} {e : Env} {R : Room} {s : State} {m : MethodId} {args : Array Value} {below : List Frame} {meth : Method} {c : Code} {T : State} {locs : List Loc} {cells slots : Nat}
theorem retI (X : Stand p l e R s m args below meth c T locs cells slots) (hx : p.tables.exec = Jvm.exec) {pc : Nat} {Ls : Array Slot} {z : Int32} {rest : List Value} (hret : meth.sig.returnType = some .int) (hd : decode c.code pc = .ok (.ireturn, 1)) {fs : List Frame}
    (hl : ∀ (f : JFrame) (acts : List Action), f.method = m → f.locked = none → f.entered = [] → (doReturn e (T.setTop f) acts (some (.int z))).1 = T.setFrames fs) : Steps p.tables e below (T.setTop (mkF m pc Ls (.int z :: rest))) (T.setFrames fs) := by
  have hm' : T.vm.method? m = some meth := X.method'
  have hn : narrow .int (.int z) = .int z := rfl
  show Steps p.tables e below (T.setTop { method := m, pc := pc, locals := Ls, stack := _ :: rest, locked := none }) _
  jvm_step X.here [X.here.top, hx, hd, hm', hret, hn]
  first | (intro acts; rw [hl _ acts rfl rfl rfl]) | rw [hl _ _ rfl rfl rfl]
  exact Steps.refl _
end New
end Jvm.RoadKit
namespace Jvm.Pilot.@@N@@
open Jvm Jvm.ClassFile Sem Op Lib Jvm.Free Jvm.Stand Jvm.LawKit Jvm.RoadKit Bundle Jvm.Pilot.@@N@@.Jvm.D
section Own
variable {p : Program} {l : Launch} {e : Env} {R : Room} {s : State} {m : MethodId} {args : Array Value} {below : List Frame} {meth : Method} {c : Code} {T T' : State} {locs : List Loc} {cells slots : Nat}
/-- what a walk has still to come to: it ends, with an answer of which Q is true -/
def own_Ends (p : Program) (e : Env) (below : List Frame) (U : State) (C S : Nat) (Q : Option Value → Heap → List Loc → Prop) (T : State) (f : JFrame) : Prop :=
  ∃ s₂ o, Steps p.tables e below (T.setTop f) s₂ ∧ s₂.status = .running ∧ Ended s₂ below o ∧ ∃ v L, o = .returned v ∧ Q v s₂.heap L ∧ FrameEnd U o s₂ L C S
theorem own_step {U : State} {C S : Nat} {Q : Option Value → Heap → List Loc → Prop} {f f' : JFrame} (h : ∀ t, Steps p.tables e below (T'.setTop f') t → Steps p.tables e below (T.setTop f) t) (k : own_Ends p e below U C S Q T' f') : own_Ends p e below U C S Q T f := by
  obtain ⟨s₂, o, h1, h2⟩ := k
  exact ⟨s₂, o, h _ h1, h2⟩
/-- a pure answer: that value, nothing old written, the heap as it was -/
def own_P (w : Value) (h0 : Heap) (n0 : Nat) (v : Option Value) (h : Heap) (L : List Loc) : Prop := v = some w ∧ Fr n0 L ∧ h = h0
theorem own_retZ {C S : Nat} {Q : Option Value → Heap → List Loc → Prop} {pc : Nat} {Ls : Array Slot} {z : Int32} {t : FieldType} {rest : List Value} (X : Stand p l e R s m args below meth c T locs cells slots) (hx : p.tables.exec = Jvm.exec) (hret : meth.sig.returnType = some t) (ht : t = .boolean ∨ t = .byte ∨ t = .char ∨ t = .short) (hlk : meth.locks = false)
    (hd : decode c.code pc = .ok (.ireturn, 1)) (hC : cells ≤ C) (hS : slots ≤ S) (hq : Q (some (.int (nar t z))) T.heap locs) : own_Ends p e below s C S Q T (mkF m pc Ls (.int z :: rest)) := by
  obtain ⟨fs, hr, hrun, hended, hW, hsame⟩ := X.leave (v := some (.int (nar t z))) (fun h => by rw [hret] at h; cases h) hlk
  exact ⟨_, _, retN X hx hret ht hd hr, hrun, hended, _, _, rfl, hq, ⟨_, rfl⟩, hW, hsame.mono hC hS⟩
theorem own_retI {C S : Nat} {Q : Option Value → Heap → List Loc → Prop} {pc : Nat} {Ls : Array Slot} {z : Int32} {rest : List Value} (X : Stand p l e R s m args below meth c T locs cells slots) (hx : p.tables.exec = Jvm.exec) (hret : meth.sig.returnType = some .int) (hlk : meth.locks = false)
    (hd : decode c.code pc = .ok (.ireturn, 1)) (hC : cells ≤ C) (hS : slots ≤ S) (hq : Q (some (.int z)) T.heap locs) : own_Ends p e below s C S Q T (mkF m pc Ls (.int z :: rest)) := by
  obtain ⟨fs, hr, hrun, hended, hW, hsame⟩ := X.leave (v := some (.int z)) (fun h => by rw [hret] at h; cases h) hlk
  exact ⟨_, _, retI X hx hret hd hr, hrun, hended, _, _, rfl, hq, ⟨_, rfl⟩, hW, hsame.mono hC hS⟩
def own_V (h0 : Heap) (n0 : Nat) (v : Option Value) (h : Heap) (L : List Loc) : Prop := v = none ∧ Fr n0 L ∧ h = h0
theorem own_retV {C S : Nat} {Q : Option Value → Heap → List Loc → Prop} {pc : Nat} {Ls : Array Slot} (X : Stand p l e R s m args below meth c T locs cells slots) (hx : p.tables.exec = Jvm.exec) (hret : meth.sig.returnType = none) (hlk : meth.locks = false)
    (hd : decode c.code pc = .ok (.return_, 1)) (hC : cells ≤ C) (hS : slots ≤ S) (hq : Q none T.heap locs) : own_Ends p e below s C S Q T (mkF m pc Ls []) := by
  obtain ⟨fs, hr, hrun, hended, hW, hsame⟩ := X.leave (v := none) (fun _ => rfl) hlk
  exact ⟨_, _, X.returnOut hx hret hd hr, hrun, hended, _, _, rfl, hq, ⟨_, rfl⟩, hW, hsame.mono hC hS⟩
theorem own_retJ {C S : Nat} {Q : Option Value → Heap → List Loc → Prop} {pc : Nat} {Ls : Array Slot} {z : Int64} (X : Stand p l e R s m args below meth c T locs cells slots) (hx : p.tables.exec = Jvm.exec) (hret : meth.sig.returnType = some .long) (hlk : meth.locks = false)
    (hd : decode c.code pc = .ok (.lreturn, 1)) (hC : cells ≤ C) (hS : slots ≤ S) (hq : Q (some (.long z)) T.heap locs) : own_Ends p e below s C S Q T (mkF m pc Ls [.long z]) := by
  obtain ⟨fs, hr, hrun, hended, hW, hsame⟩ := X.leave (v := some (.long z)) (fun h => by rw [hret] at h; cases h) hlk
  exact ⟨_, _, X.lreturnOut hx hret hd hr, hrun, hended, _, _, rfl, hq, ⟨_, rfl⟩, hW, hsame.mono hC hS⟩
end Own
theorem d1_0 : decode prog_12_method_3_code 0 = .ok (.lload_n 0, 1) := by decide +kernel
theorem d1_1 : decode prog_12_method_3_code 1 = .ok (.ldc2_w 13, 3) := by decide +kernel
theorem d1_4 : decode prog_12_method_3_code 4 = .ok (.lrem, 1) := by decide +kernel
theorem d1_5 : decode prog_12_method_3_code 5 = .ok (.lstore_n 2, 1) := by decide +kernel
theorem d1_6 : decode prog_12_method_3_code 6 = .ok (.lload_n 0, 1) := by decide +kernel
theorem d1_7 : decode prog_12_method_3_code 7 = .ok (.lconst 0, 1) := by decide +kernel
theorem d1_8 : decode prog_12_method_3_code 8 = .ok (.lcmp, 1) := by decide +kernel
theorem d1_9 : decode prog_12_method_3_code 9 = .ok (.ifCond .lt 17, 3) := by decide +kernel
theorem d1_12 : decode prog_12_method_3_code 12 = .ok (.lload_n 2, 1) := by decide +kernel
theorem d1_13 : decode prog_12_method_3_code 13 = .ok (.lconst 0, 1) := by decide +kernel
theorem d1_14 : decode prog_12_method_3_code 14 = .ok (.lcmp, 1) := by decide +kernel
theorem d1_15 : decode prog_12_method_3_code 15 = .ok (.ifCond .le 15, 3) := by decide +kernel
theorem d1_18 : decode prog_12_method_3_code 18 = .ok (.lload_n 2, 1) := by decide +kernel
theorem d1_19 : decode prog_12_method_3_code 19 = .ok (.ldc2_w 15, 3) := by decide +kernel
theorem d1_22 : decode prog_12_method_3_code 22 = .ok (.lcmp, 1) := by decide +kernel
theorem d1_23 : decode prog_12_method_3_code 23 = .ok (.ifCond .gt 7, 3) := by decide +kernel
theorem d1_26 : decode prog_12_method_3_code 26 = .ok (.ldc2_w 17, 3) := by decide +kernel
theorem d1_29 : decode prog_12_method_3_code 29 = .ok (.lreturn, 1) := by decide +kernel
theorem d1_30 : decode prog_12_method_3_code 30 = .ok (.lload_n 0, 1) := by decide +kernel
theorem d1_31 : decode prog_12_method_3_code 31 = .ok (.ldc2_w 13, 3) := by decide +kernel
theorem d1_34 : decode prog_12_method_3_code 34 = .ok (.ldiv, 1) := by decide +kernel
theorem d1_35 : decode prog_12_method_3_code 35 = .ok (.ldc2_w 11, 3) := by decide +kernel
theorem d1_38 : decode prog_12_method_3_code 38 = .ok (.lmul, 1) := by decide +kernel
theorem d1_39 : decode prog_12_method_3_code 39 = .ok (.lload_n 2, 1) := by decide +kernel
theorem d1_40 : decode prog_12_method_3_code 40 = .ok (.lconst 0, 1) := by decide +kernel
theorem d1_41 : decode prog_12_method_3_code 41 = .ok (.lcmp, 1) := by decide +kernel
theorem d1_42 : decode prog_12_method_3_code 42 = .ok (.ifCond .ne 7, 3) := by decide +kernel
theorem d1_45 : decode prog_12_method_3_code 45 = .ok (.lconst 0, 1) := by decide +kernel
theorem d1_46 : decode prog_12_method_3_code 46 = .ok (.goto 8, 3) := by decide +kernel
theorem d1_49 : decode prog_12_method_3_code 49 = .ok (.lload_n 2, 1) := by decide +kernel
theorem d1_50 : decode prog_12_method_3_code 50 = .ok (.ldc2_w 15, 3) := by decide +kernel
theorem d1_53 : decode prog_12_method_3_code 53 = .ok (.lsub, 1) := by decide +kernel
theorem d1_54 : decode prog_12_method_3_code 54 = .ok (.ladd, 1) := by decide +kernel
theorem d1_55 : decode prog_12_method_3_code 55 = .ok (.lreturn, 1) := by decide +kernel
theorem pn1 : plainName "com/example/nearsame/nearsame/BlockFile" = true := by first | (simp [plainName, overriddenIn]; done) | decide +kernel
theorem pd1 : parseMethodDescriptor "(J)J" = some ⟨[.long], some .long⟩ := by decide +kernel
theorem ef1 (m : MethodId) (q0 : Int64) : entryFrame m #[(.long q0)] 4 = mkF m 0 #[.val (.long q0), .second, .unset, .unset] [] := by first | (simp [entryFrame, mkF, argsToLocals, Value.category]; done) | rfl
def f1_26  : Int64 :=
  (-1 : Int64)
set_option maxRecDepth 65536 in
set_option maxHeartbeats 4000000 in
theorem b1_26 {p : Program} {l : Launch} {e : Env} {s : State} {m : MethodId} {args : Array Value} {below : List Frame} {meth : Method} {c : Code} {T0 : State} {locs : List Loc} {Z : State} {a0 : Array Value} {h0 : Heap} {n0 : Nat} (j0 : Int64) (j2 : Int64) {r : Int64} (X0 : Stand p l e ({ frames := 0, cells := 0, slots := 0, locals := 0 } : Room) s m args below meth c T0 locs 0 0) (hx : p.tables.exec = Jvm.exec) (hZ : Z.Warmed39 s.vm) (hw : ∀ d ∈ tables_1, d.before a0 Z = true) (hby : c.code = prog_12_method_3_code) (hml : c.maxLocals = 4) (hown : s.vm.findClass "com/example/nearsame/nearsame/BlockFile" = some m.cls) (hret : meth.sig.returnType = some .long) (hlk : meth.locks = false) (e0 : T0.heap = h0) (N0 : Fr n0 locs) (hr : r = f1_26 ) :
    own_Ends p e below s 0 0 (own_P (.long r) h0 n0) T0 (mkF m 26 #[.val (.long j0), .second, .val (.long j2), .second] []) := by
  unfold f1_26 at hr
  refine own_step (T' := T0) (f' := (mkF m 29 #[.val (.long j0), .second, .val (.long j2), .second] [(.long (-1 : Int64))])) (fun t kt => ?_) ?_
  · show Steps p.tables e below (T0.setTop (mkF m 26 #[.val (.long j0), .second, .val (.long j2), .second] [])) _
    refine X0.ldc2Long hx hown (mvT hZ (hw _ (List.mem_of_getElem? (i := 6) rfl))) (g := (mkF m 26 #[.val (.long j0), .second, .val (.long j2), .second] [])) rfl (hb hby d1_26) _ ?_
    exact kt
  exact own_retJ X0 hx hret hlk (hb hby d1_29) (Nat.le_refl _) (Nat.le_refl _) ⟨congrArg (fun z => some (Value.long z)) hr.symm, N0, e0⟩
def f1_54 (k0 : Int64) (k1 : Int64) : Int64 :=
  (k1 + k0)
set_option maxRecDepth 65536 in
set_option maxHeartbeats 4000000 in
theorem b1_54 {p : Program} {l : Launch} {e : Env} {s : State} {m : MethodId} {args : Array Value} {below : List Frame} {meth : Method} {c : Code} {T0 : State} {locs : List Loc} {Z : State} {a0 : Array Value} {h0 : Heap} {n0 : Nat} (j0 : Int64) (j2 : Int64) (k0 : Int64) (k1 : Int64) {r : Int64} (X0 : Stand p l e ({ frames := 0, cells := 0, slots := 0, locals := 0 } : Room) s m args below meth c T0 locs 0 0) (hx : p.tables.exec = Jvm.exec) (hZ : Z.Warmed39 s.vm) (hw : ∀ d ∈ tables_1, d.before a0 Z = true) (hby : c.code = prog_12_method_3_code) (hml : c.maxLocals = 4) (hown : s.vm.findClass "com/example/nearsame/nearsame/BlockFile" = some m.cls) (hret : meth.sig.returnType = some .long) (hlk : meth.locks = false) (e0 : T0.heap = h0) (N0 : Fr n0 locs) (hr : r = f1_54 k0 k1) :
    own_Ends p e below s 0 0 (own_P (.long r) h0 n0) T0 (mkF m 54 #[.val (.long j0), .second, .val (.long j2), .second] [(.long k0), (.long k1)]) := by
  unfold f1_54 at hr
  refine own_step (T' := T0) (f' := (mkF m 55 #[.val (.long j0), .second, .val (.long j2), .second] [(.long (k1 + k0))])) (fun t kt => ?_) ?_
  · show Steps p.tables e below (T0.setTop (mkF m 54 #[.val (.long j0), .second, .val (.long j2), .second] [(.long k0), (.long k1)])) _
    refine XS.ladd X0.here hx rfl (hb hby d1_54) rfl ?_
    exact kt
  exact own_retJ X0 hx hret hlk (hb hby d1_55) (Nat.le_refl _) (Nat.le_refl _) ⟨congrArg (fun z => some (Value.long z)) hr.symm, N0, e0⟩
def f1_30 (j0 : Int64) (j2 : Int64) : Int64 :=
  if j2 = (0 : Int64) then (f1_54 (0 : Int64) ((j0 / (4096 : Int64)) * (4092 : Int64))) else (f1_54 (j2 - (4 : Int64)) ((j0 / (4096 : Int64)) * (4092 : Int64)))
set_option maxRecDepth 65536 in
set_option maxHeartbeats 4000000 in
theorem b1_30 {p : Program} {l : Launch} {e : Env} {s : State} {m : MethodId} {args : Array Value} {below : List Frame} {meth : Method} {c : Code} {T0 : State} {locs : List Loc} {Z : State} {a0 : Array Value} {h0 : Heap} {n0 : Nat} (j0 : Int64) (j2 : Int64) {r : Int64} (X0 : Stand p l e ({ frames := 0, cells := 0, slots := 0, locals := 0 } : Room) s m args below meth c T0 locs 0 0) (hx : p.tables.exec = Jvm.exec) (hZ : Z.Warmed39 s.vm) (hw : ∀ d ∈ tables_1, d.before a0 Z = true) (hby : c.code = prog_12_method_3_code) (hml : c.maxLocals = 4) (hown : s.vm.findClass "com/example/nearsame/nearsame/BlockFile" = some m.cls) (hret : meth.sig.returnType = some .long) (hlk : meth.locks = false) (e0 : T0.heap = h0) (N0 : Fr n0 locs) (hr : r = f1_30 j0 j2) :
    own_Ends p e below s 0 0 (own_P (.long r) h0 n0) T0 (mkF m 30 #[.val (.long j0), .second, .val (.long j2), .second] []) := by
  unfold f1_30 at hr
  refine own_step (T' := T0) (f' := (mkF m 42 #[.val (.long j0), .second, .val (.long j2), .second] [(.int (lcmpW j2 (0 : Int64))), (.long ((j0 / (4096 : Int64)) * (4092 : Int64)))])) (fun t kt => ?_) ?_
  · show Steps p.tables e below (T0.setTop (mkF m 30 #[.val (.long j0), .second, .val (.long j2), .second] [])) _
    refine XS.lloadN X0.here hx rfl (hb hby d1_30) rfl ?_
    show Steps p.tables e below (T0.setTop (mkF m 31 #[.val (.long j0), .second, .val (.long j2), .second] [(.long j0)])) _
    refine X0.ldc2Long hx hown (mvT hZ (hw _ (List.mem_of_getElem? (i := 5) rfl))) (g := (mkF m 31 #[.val (.long j0), .second, .val (.long j2), .second] [(.long j0)])) rfl (hb hby d1_31) _ ?_
    show Steps p.tables e below (T0.setTop (mkF m 34 #[.val (.long j0), .second, .val (.long j2), .second] [(.long (4096 : Int64)), (.long j0)])) _
    refine XS.ldiv X0.here hx rfl (hb hby d1_34) rfl (by decide) ?_
    show Steps p.tables e below (T0.setTop (mkF m 35 #[.val (.long j0), .second, .val (.long j2), .second] [(.long (j0 / (4096 : Int64)))])) _
    refine X0.ldc2Long hx hown (mvT hZ (hw _ (List.mem_of_getElem? (i := 11) rfl))) (g := (mkF m 35 #[.val (.long j0), .second, .val (.long j2), .second] [(.long (j0 / (4096 : Int64)))])) rfl (hb hby d1_35) _ ?_
    show Steps p.tables e below (T0.setTop (mkF m 38 #[.val (.long j0), .second, .val (.long j2), .second] [(.long (4092 : Int64)), (.long (j0 / (4096 : Int64)))])) _
    refine XS.lmul X0.here hx rfl (hb hby d1_38) rfl ?_
    show Steps p.tables e below (T0.setTop (mkF m 39 #[.val (.long j0), .second, .val (.long j2), .second] [(.long ((j0 / (4096 : Int64)) * (4092 : Int64)))])) _
    refine XS.lloadN X0.here hx rfl (hb hby d1_39) rfl ?_
    show Steps p.tables e below (T0.setTop (mkF m 40 #[.val (.long j0), .second, .val (.long j2), .second] [(.long j2), (.long ((j0 / (4096 : Int64)) * (4092 : Int64)))])) _
    refine XS.lconst X0.here hx rfl (hb hby d1_40) ?_
    show Steps p.tables e below (T0.setTop (mkF m 41 #[.val (.long j0), .second, .val (.long j2), .second] [(.long (0 : Int64)), (.long j2), (.long ((j0 / (4096 : Int64)) * (4092 : Int64)))])) _
    refine XS.lcmp X0.here hx rfl (hb hby d1_41) rfl ?_
    exact kt
  by_cases hc42_4 : j2 = (0 : Int64)
  · rw [if_pos hc42_4] at hr
    refine own_step (T' := T0) (f' := (mkF m 45 #[.val (.long j0), .second, .val (.long j2), .second] [(.long ((j0 / (4096 : Int64)) * (4092 : Int64)))])) (fun t kt => ?_) ?_
    · show Steps p.tables e below (T0.setTop (mkF m 42 #[.val (.long j0), .second, .val (.long j2), .second] [(.int (lcmpW j2 (0 : Int64))), (.long ((j0 / (4096 : Int64)) * (4092 : Int64)))])) _
      refine XS.ifNo X0.here hx rfl (hb hby d1_42) rfl ((if0 _ _).trans (teq ((lw_eq _ _).mpr hc42_4)).2) kt
    refine own_step (T' := T0) (f' := (mkF m 54 #[.val (.long j0), .second, .val (.long j2), .second] [(.long (0 : Int64)), (.long ((j0 / (4096 : Int64)) * (4092 : Int64)))])) (fun t kt => ?_) ?_
    · show Steps p.tables e below (T0.setTop (mkF m 45 #[.val (.long j0), .second, .val (.long j2), .second] [(.long ((j0 / (4096 : Int64)) * (4092 : Int64)))])) _
      refine XS.lconst X0.here hx rfl (hb hby d1_45) ?_
      show Steps p.tables e below (T0.setTop (mkF m 46 #[.val (.long j0), .second, .val (.long j2), .second] [(.long (0 : Int64)), (.long ((j0 / (4096 : Int64)) * (4092 : Int64)))])) _
      refine XS.goto X0.here hx rfl (pc0 := 46) (pc' := 54) rfl (hb hby d1_46) (by decide) (by decide) ?_
      exact kt
    exact b1_54 j0 j2 (0 : Int64) ((j0 / (4096 : Int64)) * (4092 : Int64)) X0 hx hZ hw hby hml hown hret hlk e0 N0 hr
  · rw [if_neg hc42_4] at hr
    refine own_step (T' := T0) (f' := (mkF m 49 #[.val (.long j0), .second, .val (.long j2), .second] [(.long ((j0 / (4096 : Int64)) * (4092 : Int64)))])) (fun t kt => ?_) ?_
    · show Steps p.tables e below (T0.setTop (mkF m 42 #[.val (.long j0), .second, .val (.long j2), .second] [(.int (lcmpW j2 (0 : Int64))), (.long ((j0 / (4096 : Int64)) * (4092 : Int64)))])) _
      refine XS.ifYes X0.here hx rfl (pc0 := 42) (pc' := 49) rfl (hb hby d1_42) rfl ((if0 _ _).trans (feq (mt (lw_eq _ _).mp hc42_4)).2) (by decide) (by decide) kt
    refine own_step (T' := T0) (f' := (mkF m 54 #[.val (.long j0), .second, .val (.long j2), .second] [(.long (j2 - (4 : Int64))), (.long ((j0 / (4096 : Int64)) * (4092 : Int64)))])) (fun t kt => ?_) ?_
    · show Steps p.tables e below (T0.setTop (mkF m 49 #[.val (.long j0), .second, .val (.long j2), .second] [(.long ((j0 / (4096 : Int64)) * (4092 : Int64)))])) _
      refine XS.lloadN X0.here hx rfl (hb hby d1_49) rfl ?_
      show Steps p.tables e below (T0.setTop (mkF m 50 #[.val (.long j0), .second, .val (.long j2), .second] [(.long j2), (.long ((j0 / (4096 : Int64)) * (4092 : Int64)))])) _
      refine X0.ldc2Long hx hown (mvT hZ (hw _ (List.mem_of_getElem? (i := 15) rfl))) (g := (mkF m 50 #[.val (.long j0), .second, .val (.long j2), .second] [(.long j2), (.long ((j0 / (4096 : Int64)) * (4092 : Int64)))])) rfl (hb hby d1_50) _ ?_
      show Steps p.tables e below (T0.setTop (mkF m 53 #[.val (.long j0), .second, .val (.long j2), .second] [(.long (4 : Int64)), (.long j2), (.long ((j0 / (4096 : Int64)) * (4092 : Int64)))])) _
      refine XS.lsub X0.here hx rfl (hb hby d1_53) rfl ?_
      exact kt
    exact b1_54 j0 j2 (j2 - (4 : Int64)) ((j0 / (4096 : Int64)) * (4092 : Int64)) X0 hx hZ hw hby hml hown hret hlk e0 N0 hr
def f1_0 (q0 : Int64) : Int64 :=
  if q0 < (0 : Int64) then (f1_26 ) else (if (0 : Int64) < (q0 - q0 / (4096 : Int64) * (4096 : Int64)) then (if (4 : Int64) < (q0 - q0 / (4096 : Int64) * (4096 : Int64)) then (f1_30 q0 (q0 - q0 / (4096 : Int64) * (4096 : Int64))) else (f1_26 )) else (f1_30 q0 (q0 - q0 / (4096 : Int64) * (4096 : Int64))))
set_option maxRecDepth 65536 in
set_option maxHeartbeats 4000000 in
theorem b1_0 {p : Program} {l : Launch} {e : Env} {s : State} {m : MethodId} {args : Array Value} {below : List Frame} {meth : Method} {c : Code} {T0 : State} {locs : List Loc} {Z : State} {a0 : Array Value} {h0 : Heap} {n0 : Nat} (q0 : Int64) {r : Int64} (X0 : Stand p l e ({ frames := 0, cells := 0, slots := 0, locals := 0 } : Room) s m args below meth c T0 locs 0 0) (hx : p.tables.exec = Jvm.exec) (hZ : Z.Warmed39 s.vm) (hw : ∀ d ∈ tables_1, d.before a0 Z = true) (hby : c.code = prog_12_method_3_code) (hml : c.maxLocals = 4) (hown : s.vm.findClass "com/example/nearsame/nearsame/BlockFile" = some m.cls) (hret : meth.sig.returnType = some .long) (hlk : meth.locks = false) (e0 : T0.heap = h0) (N0 : Fr n0 locs) (hr : r = f1_0 q0) :
    own_Ends p e below s 0 0 (own_P (.long r) h0 n0) T0 (mkF m 0 #[.val (.long q0), .second, .unset, .unset] []) := by
  unfold f1_0 at hr
  refine own_step (T' := T0) (f' := (mkF m 9 #[.val (.long q0), .second, .val (.long (q0 - q0 / (4096 : Int64) * (4096 : Int64))), .second] [(.int (lcmpW q0 (0 : Int64)))])) (fun t kt => ?_) ?_
  · show Steps p.tables e below (T0.setTop (mkF m 0 #[.val (.long q0), .second, .unset, .unset] [])) _
    refine XS.lloadN X0.here hx rfl (hb hby d1_0) rfl ?_
    show Steps p.tables e below (T0.setTop (mkF m 1 #[.val (.long q0), .second, .unset, .unset] [(.long q0)])) _
    refine X0.ldc2Long hx hown (mvT hZ (hw _ (List.mem_of_getElem? (i := 5) rfl))) (g := (mkF m 1 #[.val (.long q0), .second, .unset, .unset] [(.long q0)])) rfl (hb hby d1_1) _ ?_
    show Steps p.tables e below (T0.setTop (mkF m 4 #[.val (.long q0), .second, .unset, .unset] [(.long (4096 : Int64)), (.long q0)])) _
    refine XS.lrem X0.here hx rfl (hb hby d1_4) rfl (by decide) ?_
    show Steps p.tables e below (T0.setTop (mkF m 5 #[.val (.long q0), .second, .unset, .unset] [(.long (q0 - q0 / (4096 : Int64) * (4096 : Int64)))])) _
    refine XS.lstoreN X0.here hx rfl (hb hby d1_5) rfl (l' := #[.val (.long q0), .second, .val (.long (q0 - q0 / (4096 : Int64) * (4096 : Int64))), .second]) rfl ?_
    show Steps p.tables e below (T0.setTop (mkF m 6 #[.val (.long q0), .second, .val (.long (q0 - q0 / (4096 : Int64) * (4096 : Int64))), .second] [])) _
    refine XS.lloadN X0.here hx rfl (hb hby d1_6) rfl ?_
    show Steps p.tables e below (T0.setTop (mkF m 7 #[.val (.long q0), .second, .val (.long (q0 - q0 / (4096 : Int64) * (4096 : Int64))), .second] [(.long q0)])) _
    refine XS.lconst X0.here hx rfl (hb hby d1_7) ?_
    show Steps p.tables e below (T0.setTop (mkF m 8 #[.val (.long q0), .second, .val (.long (q0 - q0 / (4096 : Int64) * (4096 : Int64))), .second] [(.long (0 : Int64)), (.long q0)])) _
    refine XS.lcmp X0.here hx rfl (hb hby d1_8) rfl ?_
    exact kt
  by_cases hc9_1 : q0 < (0 : Int64)
  · rw [if_pos hc9_1] at hr
    refine own_step (T' := T0) (f' := (mkF m 26 #[.val (.long q0), .second, .val (.long (q0 - q0 / (4096 : Int64) * (4096 : Int64))), .second] [])) (fun t kt => ?_) ?_
    · show Steps p.tables e below (T0.setTop (mkF m 9 #[.val (.long q0), .second, .val (.long (q0 - q0 / (4096 : Int64) * (4096 : Int64))), .second] [(.int (lcmpW q0 (0 : Int64)))])) _
      refine XS.ifYes X0.here hx rfl (pc0 := 9) (pc' := 26) rfl (hb hby d1_9) rfl ((if0 _ _).trans (tlt ((lw_lt _ _).mpr hc9_1)).1) (by decide) (by decide) kt
    exact b1_26 q0 (q0 - q0 / (4096 : Int64) * (4096 : Int64)) X0 hx hZ hw hby hml hown hret hlk e0 N0 hr
  · rw [if_neg hc9_1] at hr
    refine own_step (T' := T0) (f' := (mkF m 12 #[.val (.long q0), .second, .val (.long (q0 - q0 / (4096 : Int64) * (4096 : Int64))), .second] [])) (fun t kt => ?_) ?_
    · show Steps p.tables e below (T0.setTop (mkF m 9 #[.val (.long q0), .second, .val (.long (q0 - q0 / (4096 : Int64) * (4096 : Int64))), .second] [(.int (lcmpW q0 (0 : Int64)))])) _
      refine XS.ifNo X0.here hx rfl (hb hby d1_9) rfl ((if0 _ _).trans (flt (mt (lw_lt _ _).mp hc9_1)).1) kt
    refine own_step (T' := T0) (f' := (mkF m 15 #[.val (.long q0), .second, .val (.long (q0 - q0 / (4096 : Int64) * (4096 : Int64))), .second] [(.int (lcmpW (q0 - q0 / (4096 : Int64) * (4096 : Int64)) (0 : Int64)))])) (fun t kt => ?_) ?_
    · show Steps p.tables e below (T0.setTop (mkF m 12 #[.val (.long q0), .second, .val (.long (q0 - q0 / (4096 : Int64) * (4096 : Int64))), .second] [])) _
      refine XS.lloadN X0.here hx rfl (hb hby d1_12) rfl ?_
      show Steps p.tables e below (T0.setTop (mkF m 13 #[.val (.long q0), .second, .val (.long (q0 - q0 / (4096 : Int64) * (4096 : Int64))), .second] [(.long (q0 - q0 / (4096 : Int64) * (4096 : Int64)))])) _
      refine XS.lconst X0.here hx rfl (hb hby d1_13) ?_
      show Steps p.tables e below (T0.setTop (mkF m 14 #[.val (.long q0), .second, .val (.long (q0 - q0 / (4096 : Int64) * (4096 : Int64))), .second] [(.long (0 : Int64)), (.long (q0 - q0 / (4096 : Int64) * (4096 : Int64)))])) _
      refine XS.lcmp X0.here hx rfl (hb hby d1_14) rfl ?_
      exact kt
    by_cases hc15_2 : (0 : Int64) < (q0 - q0 / (4096 : Int64) * (4096 : Int64))
    · rw [if_pos hc15_2] at hr
      refine own_step (T' := T0) (f' := (mkF m 18 #[.val (.long q0), .second, .val (.long (q0 - q0 / (4096 : Int64) * (4096 : Int64))), .second] [])) (fun t kt => ?_) ?_
      · show Steps p.tables e below (T0.setTop (mkF m 15 #[.val (.long q0), .second, .val (.long (q0 - q0 / (4096 : Int64) * (4096 : Int64))), .second] [(.int (lcmpW (q0 - q0 / (4096 : Int64) * (4096 : Int64)) (0 : Int64)))])) _
        refine XS.ifNo X0.here hx rfl (hb hby d1_15) rfl ((if0 _ _).trans (tlt ((lw_gt _ _).mpr hc15_2)).2.2.2) kt
      refine own_step (T' := T0) (f' := (mkF m 23 #[.val (.long q0), .second, .val (.long (q0 - q0 / (4096 : Int64) * (4096 : Int64))), .second] [(.int (lcmpW (q0 - q0 / (4096 : Int64) * (4096 : Int64)) (4 : Int64)))])) (fun t kt => ?_) ?_
      · show Steps p.tables e below (T0.setTop (mkF m 18 #[.val (.long q0), .second, .val (.long (q0 - q0 / (4096 : Int64) * (4096 : Int64))), .second] [])) _
        refine XS.lloadN X0.here hx rfl (hb hby d1_18) rfl ?_
        show Steps p.tables e below (T0.setTop (mkF m 19 #[.val (.long q0), .second, .val (.long (q0 - q0 / (4096 : Int64) * (4096 : Int64))), .second] [(.long (q0 - q0 / (4096 : Int64) * (4096 : Int64)))])) _
        refine X0.ldc2Long hx hown (mvT hZ (hw _ (List.mem_of_getElem? (i := 15) rfl))) (g := (mkF m 19 #[.val (.long q0), .second, .val (.long (q0 - q0 / (4096 : Int64) * (4096 : Int64))), .second] [(.long (q0 - q0 / (4096 : Int64) * (4096 : Int64)))])) rfl (hb hby d1_19) _ ?_
        show Steps p.tables e below (T0.setTop (mkF m 22 #[.val (.long q0), .second, .val (.long (q0 - q0 / (4096 : Int64) * (4096 : Int64))), .second] [(.long (4 : Int64)), (.long (q0 - q0 / (4096 : Int64) * (4096 : Int64)))])) _
        refine XS.lcmp X0.here hx rfl (hb hby d1_22) rfl ?_
        exact kt
      by_cases hc23_3 : (4 : Int64) < (q0 - q0 / (4096 : Int64) * (4096 : Int64))
      · rw [if_pos hc23_3] at hr
        refine own_step (T' := T0) (f' := (mkF m 30 #[.val (.long q0), .second, .val (.long (q0 - q0 / (4096 : Int64) * (4096 : Int64))), .second] [])) (fun t kt => ?_) ?_
        · show Steps p.tables e below (T0.setTop (mkF m 23 #[.val (.long q0), .second, .val (.long (q0 - q0 / (4096 : Int64) * (4096 : Int64))), .second] [(.int (lcmpW (q0 - q0 / (4096 : Int64) * (4096 : Int64)) (4 : Int64)))])) _
          refine XS.ifYes X0.here hx rfl (pc0 := 23) (pc' := 30) rfl (hb hby d1_23) rfl ((if0 _ _).trans (tlt ((lw_gt _ _).mpr hc23_3)).2.2.1) (by decide) (by decide) kt
        exact b1_30 q0 (q0 - q0 / (4096 : Int64) * (4096 : Int64)) X0 hx hZ hw hby hml hown hret hlk e0 N0 hr
      · rw [if_neg hc23_3] at hr
        refine own_step (T' := T0) (f' := (mkF m 26 #[.val (.long q0), .second, .val (.long (q0 - q0 / (4096 : Int64) * (4096 : Int64))), .second] [])) (fun t kt => ?_) ?_
        · show Steps p.tables e below (T0.setTop (mkF m 23 #[.val (.long q0), .second, .val (.long (q0 - q0 / (4096 : Int64) * (4096 : Int64))), .second] [(.int (lcmpW (q0 - q0 / (4096 : Int64) * (4096 : Int64)) (4 : Int64)))])) _
          refine XS.ifNo X0.here hx rfl (hb hby d1_23) rfl ((if0 _ _).trans (flt (mt (lw_gt _ _).mp hc23_3)).2.2.1) kt
        exact b1_26 q0 (q0 - q0 / (4096 : Int64) * (4096 : Int64)) X0 hx hZ hw hby hml hown hret hlk e0 N0 hr
    · rw [if_neg hc15_2] at hr
      refine own_step (T' := T0) (f' := (mkF m 30 #[.val (.long q0), .second, .val (.long (q0 - q0 / (4096 : Int64) * (4096 : Int64))), .second] [])) (fun t kt => ?_) ?_
      · show Steps p.tables e below (T0.setTop (mkF m 15 #[.val (.long q0), .second, .val (.long (q0 - q0 / (4096 : Int64) * (4096 : Int64))), .second] [(.int (lcmpW (q0 - q0 / (4096 : Int64) * (4096 : Int64)) (0 : Int64)))])) _
        refine XS.ifYes X0.here hx rfl (pc0 := 15) (pc' := 30) rfl (hb hby d1_15) rfl ((if0 _ _).trans (flt (mt (lw_gt _ _).mp hc15_2)).2.2.2) (by decide) (by decide) kt
      exact b1_30 q0 (q0 - q0 / (4096 : Int64) * (4096 : Int64)) X0 hx hZ hw hby hml hown hret hlk e0 N0 hr
set_option maxRecDepth 65536 in
set_option maxHeartbeats 4000000 in
theorem rm1 (l : Launch) (Z : State) (a0 : Array Value) (hw : ∀ d ∈ tables_1, d.before a0 Z = true) (ws : List Jvm.Cond) (q0 : Int64) (h0 : Heap) (n0 : Nat) :
    MetFree l (⟨"com/example/nearsame/nearsame/BlockFile", "content", "(J)J"⟩ : MethodName) (head1 (Jvm.Cond.code (⟨"com/example/nearsame/nearsame/BlockFile", "content", "(J)J"⟩ : MethodName) prog_12_method_3_code 4 (some .long) :: ws) ({ frames := 0, cells := 0, slots := 0, locals := 0 } : Room)) (fun a U => a = #[(.long q0)] ∧ Z.Warmed39 U.vm ∧ U.heap = h0) (fun _ _ _ _ _ => True) (fun _ U o U' => ∃ v L, o = .returned v ∧ (own_P (.long (f1_0 q0)) h0 n0) v U'.heap L ∧ FrameEnd U o U' L ({ frames := 0, cells := 0, slots := 0, locals := 0 } : Room).cells ({ frames := 0, cells := 0, slots := 0, locals := 0 } : Room).slots) := by
  refine MetFree.of_bodySF (plainFor_of_name pn1) hisR ?_
  intro p e s m args below meth c s₁ Bd hml0 hP hK
  obtain ⟨rfl, hZ, hh⟩ := hP
  have hown : s.vm.findClass "com/example/nearsame/nearsame/BlockFile" = some m.cls := findClass_of_methodNamed Bd.named
  have X0 : Stand p l e ({ frames := 0, cells := 0, slots := 0, locals := 0 } : Room) s m #[(.long q0)] below meth c s₁ [] 0 0 := Stand.of_body Bd
  have e0 : s₁.heap = h0 := by rw [← hh, Bd.state]; rfl
  show own_Ends p e below s 0 0 (own_P (.long (f1_0 q0)) h0 n0) s₁ (entryFrame m #[(.long q0)] 4)
  refine own_step (fun t k => castTop (ef1 m q0) k) ?_
  exact b1_0 q0 X0 Bd.exec hZ hw Bd.bytes hml0 hown Bd.returns (BodyLoose.notSynchronized Bd) e0 (Fr.nil n0) rfl
theorem d2_0 : decode prog_12_method_2_code 0 = .ok (.lload_n 0, 1) := by decide +kernel
theorem d2_1 : decode prog_12_method_2_code 1 = .ok (.ldc2_w 11, 3) := by decide +kernel
theorem d2_4 : decode prog_12_method_2_code 4 = .ok (.lrem, 1) := by decide +kernel
theorem d2_5 : decode prog_12_method_2_code 5 = .ok (.lstore_n 2, 1) := by decide +kernel
theorem d2_6 : decode prog_12_method_2_code 6 = .ok (.lload_n 0, 1) := by decide +kernel
theorem d2_7 : decode prog_12_method_2_code 7 = .ok (.ldc2_w 11, 3) := by decide +kernel
theorem d2_10 : decode prog_12_method_2_code 10 = .ok (.ldiv, 1) := by decide +kernel
theorem d2_11 : decode prog_12_method_2_code 11 = .ok (.ldc2_w 13, 3) := by decide +kernel
theorem d2_14 : decode prog_12_method_2_code 14 = .ok (.lmul, 1) := by decide +kernel
theorem d2_15 : decode prog_12_method_2_code 15 = .ok (.lload_n 2, 1) := by decide +kernel
theorem d2_16 : decode prog_12_method_2_code 16 = .ok (.lconst 0, 1) := by decide +kernel
theorem d2_17 : decode prog_12_method_2_code 17 = .ok (.lcmp, 1) := by decide +kernel
theorem d2_18 : decode prog_12_method_2_code 18 = .ok (.ifCond .ne 7, 3) := by decide +kernel
theorem d2_21 : decode prog_12_method_2_code 21 = .ok (.lconst 0, 1) := by decide +kernel
theorem d2_22 : decode prog_12_method_2_code 22 = .ok (.goto 8, 3) := by decide +kernel
theorem d2_25 : decode prog_12_method_2_code 25 = .ok (.lload_n 2, 1) := by decide +kernel
theorem d2_26 : decode prog_12_method_2_code 26 = .ok (.ldc2_w 15, 3) := by decide +kernel
theorem d2_29 : decode prog_12_method_2_code 29 = .ok (.ladd, 1) := by decide +kernel
theorem d2_30 : decode prog_12_method_2_code 30 = .ok (.ladd, 1) := by decide +kernel
theorem d2_31 : decode prog_12_method_2_code 31 = .ok (.lreturn, 1) := by decide +kernel
theorem pn2 : plainName "com/example/nearsame/nearsame/BlockFile" = true := by first | (simp [plainName, overriddenIn]; done) | decide +kernel
theorem pd2 : parseMethodDescriptor "(J)J" = some ⟨[.long], some .long⟩ := by decide +kernel
theorem ef2 (m : MethodId) (q0 : Int64) : entryFrame m #[(.long q0)] 4 = mkF m 0 #[.val (.long q0), .second, .unset, .unset] [] := by first | (simp [entryFrame, mkF, argsToLocals, Value.category]; done) | rfl
def f2_30 (k0 : Int64) (k1 : Int64) : Int64 :=
  (k1 + k0)
set_option maxRecDepth 65536 in
set_option maxHeartbeats 4000000 in
theorem b2_30 {p : Program} {l : Launch} {e : Env} {s : State} {m : MethodId} {args : Array Value} {below : List Frame} {meth : Method} {c : Code} {T0 : State} {locs : List Loc} {Z : State} {a0 : Array Value} {h0 : Heap} {n0 : Nat} (j0 : Int64) (j2 : Int64) (k0 : Int64) (k1 : Int64) {r : Int64} (X0 : Stand p l e ({ frames := 0, cells := 0, slots := 0, locals := 0 } : Room) s m args below meth c T0 locs 0 0) (hx : p.tables.exec = Jvm.exec) (hZ : Z.Warmed39 s.vm) (hw : ∀ d ∈ tables_1, d.before a0 Z = true) (hby : c.code = prog_12_method_2_code) (hml : c.maxLocals = 4) (hown : s.vm.findClass "com/example/nearsame/nearsame/BlockFile" = some m.cls) (hret : meth.sig.returnType = some .long) (hlk : meth.locks = false) (e0 : T0.heap = h0) (N0 : Fr n0 locs) (hr : r = f2_30 k0 k1) :
    own_Ends p e below s 0 0 (own_P (.long r) h0 n0) T0 (mkF m 30 #[.val (.long j0), .second, .val (.long j2), .second] [(.long k0), (.long k1)]) := by
  unfold f2_30 at hr
  refine own_step (T' := T0) (f' := (mkF m 31 #[.val (.long j0), .second, .val (.long j2), .second] [(.long (k1 + k0))])) (fun t kt => ?_) ?_
  · show Steps p.tables e below (T0.setTop (mkF m 30 #[.val (.long j0), .second, .val (.long j2), .second] [(.long k0), (.long k1)])) _
    refine XS.ladd X0.here hx rfl (hb hby d2_30) rfl ?_
    exact kt
  exact own_retJ X0 hx hret hlk (hb hby d2_31) (Nat.le_refl _) (Nat.le_refl _) ⟨congrArg (fun z => some (Value.long z)) hr.symm, N0, e0⟩
def f2_0 (q0 : Int64) : Int64 :=
  if (q0 - q0 / (4092 : Int64) * (4092 : Int64)) = (0 : Int64) then (f2_30 (0 : Int64) ((q0 / (4092 : Int64)) * (4096 : Int64))) else (f2_30 ((q0 - q0 / (4092 : Int64) * (4092 : Int64)) + (4 : Int64)) ((q0 / (4092 : Int64)) * (4096 : Int64)))
set_option maxRecDepth 65536 in
set_option maxHeartbeats 4000000 in
theorem b2_0 {p : Program} {l : Launch} {e : Env} {s : State} {m : MethodId} {args : Array Value} {below : List Frame} {meth : Method} {c : Code} {T0 : State} {locs : List Loc} {Z : State} {a0 : Array Value} {h0 : Heap} {n0 : Nat} (q0 : Int64) {r : Int64} (X0 : Stand p l e ({ frames := 0, cells := 0, slots := 0, locals := 0 } : Room) s m args below meth c T0 locs 0 0) (hx : p.tables.exec = Jvm.exec) (hZ : Z.Warmed39 s.vm) (hw : ∀ d ∈ tables_1, d.before a0 Z = true) (hby : c.code = prog_12_method_2_code) (hml : c.maxLocals = 4) (hown : s.vm.findClass "com/example/nearsame/nearsame/BlockFile" = some m.cls) (hret : meth.sig.returnType = some .long) (hlk : meth.locks = false) (e0 : T0.heap = h0) (N0 : Fr n0 locs) (hr : r = f2_0 q0) :
    own_Ends p e below s 0 0 (own_P (.long r) h0 n0) T0 (mkF m 0 #[.val (.long q0), .second, .unset, .unset] []) := by
  unfold f2_0 at hr
  refine own_step (T' := T0) (f' := (mkF m 18 #[.val (.long q0), .second, .val (.long (q0 - q0 / (4092 : Int64) * (4092 : Int64))), .second] [(.int (lcmpW (q0 - q0 / (4092 : Int64) * (4092 : Int64)) (0 : Int64))), (.long ((q0 / (4092 : Int64)) * (4096 : Int64)))])) (fun t kt => ?_) ?_
  · show Steps p.tables e below (T0.setTop (mkF m 0 #[.val (.long q0), .second, .unset, .unset] [])) _
    refine XS.lloadN X0.here hx rfl (hb hby d2_0) rfl ?_
    show Steps p.tables e below (T0.setTop (mkF m 1 #[.val (.long q0), .second, .unset, .unset] [(.long q0)])) _
    refine X0.ldc2Long hx hown (mvT hZ (hw _ (List.mem_of_getElem? (i := 11) rfl))) (g := (mkF m 1 #[.val (.long q0), .second, .unset, .unset] [(.long q0)])) rfl (hb hby d2_1) _ ?_
    show Steps p.tables e below (T0.setTop (mkF m 4 #[.val (.long q0), .second, .unset, .unset] [(.long (4092 : Int64)), (.long q0)])) _
    refine XS.lrem X0.here hx rfl (hb hby d2_4) rfl (by decide) ?_
    show Steps p.tables e below (T0.setTop (mkF m 5 #[.val (.long q0), .second, .unset, .unset] [(.long (q0 - q0 / (4092 : Int64) * (4092 : Int64)))])) _
    refine XS.lstoreN X0.here hx rfl (hb hby d2_5) rfl (l' := #[.val (.long q0), .second, .val (.long (q0 - q0 / (4092 : Int64) * (4092 : Int64))), .second]) rfl ?_
    show Steps p.tables e below (T0.setTop (mkF m 6 #[.val (.long q0), .second, .val (.long (q0 - q0 / (4092 : Int64) * (4092 : Int64))), .second] [])) _
    refine XS.lloadN X0.here hx rfl (hb hby d2_6) rfl ?_
    show Steps p.tables e below (T0.setTop (mkF m 7 #[.val (.long q0), .second, .val (.long (q0 - q0 / (4092 : Int64) * (4092 : Int64))), .second] [(.long q0)])) _
    refine X0.ldc2Long hx hown (mvT hZ (hw _ (List.mem_of_getElem? (i := 11) rfl))) (g := (mkF m 7 #[.val (.long q0), .second, .val (.long (q0 - q0 / (4092 : Int64) * (4092 : Int64))), .second] [(.long q0)])) rfl (hb hby d2_7) _ ?_
    show Steps p.tables e below (T0.setTop (mkF m 10 #[.val (.long q0), .second, .val (.long (q0 - q0 / (4092 : Int64) * (4092 : Int64))), .second] [(.long (4092 : Int64)), (.long q0)])) _
    refine XS.ldiv X0.here hx rfl (hb hby d2_10) rfl (by decide) ?_
    show Steps p.tables e below (T0.setTop (mkF m 11 #[.val (.long q0), .second, .val (.long (q0 - q0 / (4092 : Int64) * (4092 : Int64))), .second] [(.long (q0 / (4092 : Int64)))])) _
    refine X0.ldc2Long hx hown (mvT hZ (hw _ (List.mem_of_getElem? (i := 5) rfl))) (g := (mkF m 11 #[.val (.long q0), .second, .val (.long (q0 - q0 / (4092 : Int64) * (4092 : Int64))), .second] [(.long (q0 / (4092 : Int64)))])) rfl (hb hby d2_11) _ ?_
    show Steps p.tables e below (T0.setTop (mkF m 14 #[.val (.long q0), .second, .val (.long (q0 - q0 / (4092 : Int64) * (4092 : Int64))), .second] [(.long (4096 : Int64)), (.long (q0 / (4092 : Int64)))])) _
    refine XS.lmul X0.here hx rfl (hb hby d2_14) rfl ?_
    show Steps p.tables e below (T0.setTop (mkF m 15 #[.val (.long q0), .second, .val (.long (q0 - q0 / (4092 : Int64) * (4092 : Int64))), .second] [(.long ((q0 / (4092 : Int64)) * (4096 : Int64)))])) _
    refine XS.lloadN X0.here hx rfl (hb hby d2_15) rfl ?_
    show Steps p.tables e below (T0.setTop (mkF m 16 #[.val (.long q0), .second, .val (.long (q0 - q0 / (4092 : Int64) * (4092 : Int64))), .second] [(.long (q0 - q0 / (4092 : Int64) * (4092 : Int64))), (.long ((q0 / (4092 : Int64)) * (4096 : Int64)))])) _
    refine XS.lconst X0.here hx rfl (hb hby d2_16) ?_
    show Steps p.tables e below (T0.setTop (mkF m 17 #[.val (.long q0), .second, .val (.long (q0 - q0 / (4092 : Int64) * (4092 : Int64))), .second] [(.long (0 : Int64)), (.long (q0 - q0 / (4092 : Int64) * (4092 : Int64))), (.long ((q0 / (4092 : Int64)) * (4096 : Int64)))])) _
    refine XS.lcmp X0.here hx rfl (hb hby d2_17) rfl ?_
    exact kt
  by_cases hc18_1 : (q0 - q0 / (4092 : Int64) * (4092 : Int64)) = (0 : Int64)
  · rw [if_pos hc18_1] at hr
    refine own_step (T' := T0) (f' := (mkF m 21 #[.val (.long q0), .second, .val (.long (q0 - q0 / (4092 : Int64) * (4092 : Int64))), .second] [(.long ((q0 / (4092 : Int64)) * (4096 : Int64)))])) (fun t kt => ?_) ?_
    · show Steps p.tables e below (T0.setTop (mkF m 18 #[.val (.long q0), .second, .val (.long (q0 - q0 / (4092 : Int64) * (4092 : Int64))), .second] [(.int (lcmpW (q0 - q0 / (4092 : Int64) * (4092 : Int64)) (0 : Int64))), (.long ((q0 / (4092 : Int64)) * (4096 : Int64)))])) _
      refine XS.ifNo X0.here hx rfl (hb hby d2_18) rfl ((if0 _ _).trans (teq ((lw_eq _ _).mpr hc18_1)).2) kt
    refine own_step (T' := T0) (f' := (mkF m 30 #[.val (.long q0), .second, .val (.long (q0 - q0 / (4092 : Int64) * (4092 : Int64))), .second] [(.long (0 : Int64)), (.long ((q0 / (4092 : Int64)) * (4096 : Int64)))])) (fun t kt => ?_) ?_
    · show Steps p.tables e below (T0.setTop (mkF m 21 #[.val (.long q0), .second, .val (.long (q0 - q0 / (4092 : Int64) * (4092 : Int64))), .second] [(.long ((q0 / (4092 : Int64)) * (4096 : Int64)))])) _
      refine XS.lconst X0.here hx rfl (hb hby d2_21) ?_
      show Steps p.tables e below (T0.setTop (mkF m 22 #[.val (.long q0), .second, .val (.long (q0 - q0 / (4092 : Int64) * (4092 : Int64))), .second] [(.long (0 : Int64)), (.long ((q0 / (4092 : Int64)) * (4096 : Int64)))])) _
      refine XS.goto X0.here hx rfl (pc0 := 22) (pc' := 30) rfl (hb hby d2_22) (by decide) (by decide) ?_
      exact kt
    exact b2_30 q0 (q0 - q0 / (4092 : Int64) * (4092 : Int64)) (0 : Int64) ((q0 / (4092 : Int64)) * (4096 : Int64)) X0 hx hZ hw hby hml hown hret hlk e0 N0 hr
  · rw [if_neg hc18_1] at hr
    refine own_step (T' := T0) (f' := (mkF m 25 #[.val (.long q0), .second, .val (.long (q0 - q0 / (4092 : Int64) * (4092 : Int64))), .second] [(.long ((q0 / (4092 : Int64)) * (4096 : Int64)))])) (fun t kt => ?_) ?_
    · show Steps p.tables e below (T0.setTop (mkF m 18 #[.val (.long q0), .second, .val (.long (q0 - q0 / (4092 : Int64) * (4092 : Int64))), .second] [(.int (lcmpW (q0 - q0 / (4092 : Int64) * (4092 : Int64)) (0 : Int64))), (.long ((q0 / (4092 : Int64)) * (4096 : Int64)))])) _
      refine XS.ifYes X0.here hx rfl (pc0 := 18) (pc' := 25) rfl (hb hby d2_18) rfl ((if0 _ _).trans (feq (mt (lw_eq _ _).mp hc18_1)).2) (by decide) (by decide) kt
    refine own_step (T' := T0) (f' := (mkF m 30 #[.val (.long q0), .second, .val (.long (q0 - q0 / (4092 : Int64) * (4092 : Int64))), .second] [(.long ((q0 - q0 / (4092 : Int64) * (4092 : Int64)) + (4 : Int64))), (.long ((q0 / (4092 : Int64)) * (4096 : Int64)))])) (fun t kt => ?_) ?_
    · show Steps p.tables e below (T0.setTop (mkF m 25 #[.val (.long q0), .second, .val (.long (q0 - q0 / (4092 : Int64) * (4092 : Int64))), .second] [(.long ((q0 / (4092 : Int64)) * (4096 : Int64)))])) _
      refine XS.lloadN X0.here hx rfl (hb hby d2_25) rfl ?_
      show Steps p.tables e below (T0.setTop (mkF m 26 #[.val (.long q0), .second, .val (.long (q0 - q0 / (4092 : Int64) * (4092 : Int64))), .second] [(.long (q0 - q0 / (4092 : Int64) * (4092 : Int64))), (.long ((q0 / (4092 : Int64)) * (4096 : Int64)))])) _
      refine X0.ldc2Long hx hown (mvT hZ (hw _ (List.mem_of_getElem? (i := 15) rfl))) (g := (mkF m 26 #[.val (.long q0), .second, .val (.long (q0 - q0 / (4092 : Int64) * (4092 : Int64))), .second] [(.long (q0 - q0 / (4092 : Int64) * (4092 : Int64))), (.long ((q0 / (4092 : Int64)) * (4096 : Int64)))])) rfl (hb hby d2_26) _ ?_
      show Steps p.tables e below (T0.setTop (mkF m 29 #[.val (.long q0), .second, .val (.long (q0 - q0 / (4092 : Int64) * (4092 : Int64))), .second] [(.long (4 : Int64)), (.long (q0 - q0 / (4092 : Int64) * (4092 : Int64))), (.long ((q0 / (4092 : Int64)) * (4096 : Int64)))])) _
      refine XS.ladd X0.here hx rfl (hb hby d2_29) rfl ?_
      exact kt
    exact b2_30 q0 (q0 - q0 / (4092 : Int64) * (4092 : Int64)) ((q0 - q0 / (4092 : Int64) * (4092 : Int64)) + (4 : Int64)) ((q0 / (4092 : Int64)) * (4096 : Int64)) X0 hx hZ hw hby hml hown hret hlk e0 N0 hr
set_option maxRecDepth 65536 in
set_option maxHeartbeats 4000000 in
theorem rm2 (l : Launch) (Z : State) (a0 : Array Value) (hw : ∀ d ∈ tables_1, d.before a0 Z = true) (ws : List Jvm.Cond) (q0 : Int64) (h0 : Heap) (n0 : Nat) :
    MetFree l (⟨"com/example/nearsame/nearsame/BlockFile", "length", "(J)J"⟩ : MethodName) (head1 (Jvm.Cond.code (⟨"com/example/nearsame/nearsame/BlockFile", "length", "(J)J"⟩ : MethodName) prog_12_method_2_code 4 (some .long) :: ws) ({ frames := 0, cells := 0, slots := 0, locals := 0 } : Room)) (fun a U => a = #[(.long q0)] ∧ Z.Warmed39 U.vm ∧ U.heap = h0) (fun _ _ _ _ _ => True) (fun _ U o U' => ∃ v L, o = .returned v ∧ (own_P (.long (f2_0 q0)) h0 n0) v U'.heap L ∧ FrameEnd U o U' L ({ frames := 0, cells := 0, slots := 0, locals := 0 } : Room).cells ({ frames := 0, cells := 0, slots := 0, locals := 0 } : Room).slots) := by
  refine MetFree.of_bodySF (plainFor_of_name pn2) hisR ?_
  intro p e s m args below meth c s₁ Bd hml0 hP hK
  obtain ⟨rfl, hZ, hh⟩ := hP
  have hown : s.vm.findClass "com/example/nearsame/nearsame/BlockFile" = some m.cls := findClass_of_methodNamed Bd.named
  have X0 : Stand p l e ({ frames := 0, cells := 0, slots := 0, locals := 0 } : Room) s m #[(.long q0)] below meth c s₁ [] 0 0 := Stand.of_body Bd
  have e0 : s₁.heap = h0 := by rw [← hh, Bd.state]; rfl
  show own_Ends p e below s 0 0 (own_P (.long (f2_0 q0)) h0 n0) s₁ (entryFrame m #[(.long q0)] 4)
  refine own_step (fun t k => castTop (ef2 m q0) k) ?_
  exact b2_0 q0 X0 Bd.exec hZ hw Bd.bytes hml0 hown Bd.returns (BodyLoose.notSynchronized Bd) e0 (Fr.nil n0) rfl
theorem pn0 : plainName "com/example/nearsame/nearsame/BlockFileContentPinLaw" = true := by first | (simp [plainName, overriddenIn]; done) | decide +kernel
theorem ef0 (m : MethodId) (q0 : Int64) (p1 : Int32) (p2 : Int32) : entryFrame m #[(.long q0), (.int p1), (.int p2)] maxLocals = mkF m 0 #[.val (.long q0), .second, .val (.int p1), .val (.int p2), .unset, .unset, .unset, .unset, .unset, .unset, .unset, .unset, .unset] [] := by first | (simp [entryFrame, mkF, argsToLocals, Value.category, maxLocals]; done) | rfl
def f0_101 (j7 : Int64) (j9 : Int64) : Int32 :=
  if (f1_0 j7) = j9 then (if (f1_0 j7) < (0 : Int64) then ((1 : Int32)) else (if (f2_0 (f1_0 j7)) = j7 then ((1 : Int32)) else ((0 : Int32)))) else ((0 : Int32))
set_option maxRecDepth 65536 in
set_option maxHeartbeats 4000000 in
theorem b0_101 {p : Program} {l : Launch} {e : Env} {s : State} {m : MethodId} {args : Array Value} {below : List Frame} {meth : Method} {c : Code} {T0 : State} {locs : List Loc} {Z : State} {a0 : Array Value} {h0 : Heap} {n0 : Nat} (j0 : Int64) (i2 : Int32) (i3 : Int32) (j4 : Int64) (i6 : Int32) (j7 : Int64) (j9 : Int64) {r : Int32} (X0 : Stand p l e room_1 s m args below meth c T0 locs 0 0) (hx : p.tables.exec = Jvm.exec) (hZ : Z.Warmed39 s.vm) (hw : ∀ d ∈ tables_1, d.before a0 Z = true) (hby : c.code = code) (hml : c.maxLocals = 13) (hown : s.vm.findClass "com/example/nearsame/nearsame/BlockFileContentPinLaw" = some m.cls) (hret : meth.sig.returnType = some .boolean) (hlk : meth.locks = false) (e0 : T0.heap = h0) (N0 : Fr n0 locs) (hr : r = f0_101 j7 j9) :
    own_Ends p e below s 0 0 (own_P (.int r) h0 n0) T0 (mkF m 101 #[.val (.long j0), .second, .val (.int i2), .val (.int i3), .val (.long j4), .second, .val (.int i6), .val (.long j7), .second, .val (.long j9), .second, .unset, .unset] []) := by
  unfold f0_101 at hr
  refine own_step (T' := T0) (f' := (mkF m 103 #[.val (.long j0), .second, .val (.int i2), .val (.int i3), .val (.long j4), .second, .val (.int i6), .val (.long j7), .second, .val (.long j9), .second, .unset, .unset] [(.long j7)])) (fun t kt => ?_) ?_
  · show Steps p.tables e below (T0.setTop (mkF m 101 #[.val (.long j0), .second, .val (.int i2), .val (.int i3), .val (.long j4), .second, .val (.int i6), .val (.long j7), .second, .val (.long j9), .second, .unset, .unset] [])) _
    refine XS.lload X0.here hx rfl (hb hby at_101) rfl ?_
    exact kt
  obtain ⟨_, _, ⟨T3, L3, k3, n3⟩, -, X3, ⟨Lc3, hQ3, l3, y3, z3⟩, st3⟩ := Jvm.LawKit.callS X0 hx (y := (⟨"com/example/nearsame/nearsame/BlockFile", "content", "(J)J"⟩ : MethodName)) hown (mvT hZ (hw _ (List.mem_of_getElem? (i := 1) rfl))) (mvT hZ (hw _ (List.mem_of_getElem? (i := 2) rfl))) (mvT hZ (hw _ (List.mem_of_getElem? (i := 3) rfl))) (mvT hZ (hw _ (List.mem_of_getElem? (i := 4) rfl))) (by decide) (backOf (W := 0) (rm1 l Z a0 hw [] j7  h0 n0 ) hZ (hw _ (List.mem_of_getElem? (i := 4) rfl)) (hw _ (List.mem_of_getElem? (i := 3) rfl)) (by decide) (by decide)) (g := (mkF m 103 #[.val (.long j0), .second, .val (.int i2), .val (.int i3), .val (.long j4), .second, .val (.int i6), .val (.long j7), .second, .val (.long j9), .second, .unset, .unset] [(.long j7)])) rfl (by rw [hml]; rfl) (argsL := [(.long j7)]) (rest := []) (lenOf pd1 rfl) rfl (by show 2 * 0 + _ ≤ _; exact Nat.le_of_eq rfl) (hb hby at_103) (fun _ _ => ⟨rfl, e0, (by decide : 0 + 0 ≤ _), (by decide : 0 + 0 ≤ _)⟩)
  dsimp only [Pt.U, Pt.locs, Pt.cells, Pt.slots] at X3 l3 y3 z3 st3 hQ3
  subst l3 y3 z3
  obtain ⟨rfl, Nq3, e3⟩ := hQ3
  have N3 := Fr.app N0 Nq3
  refine own_step (T' := T3) (f' := (mkF m 106 #[.val (.long j0), .second, .val (.int i2), .val (.int i3), .val (.long j4), .second, .val (.int i6), .val (.long j7), .second, .val (.long j9), .second, .unset, .unset] [(.long (f1_0 j7))])) st3 ?_
  refine own_step (T' := T3) (f' := (mkF m 113 #[.val (.long j0), .second, .val (.int i2), .val (.int i3), .val (.long j4), .second, .val (.int i6), .val (.long j7), .second, .val (.long j9), .second, .val (.long (f1_0 j7)), .second] [(.int (lcmpW (f1_0 j7) j9))])) (fun t kt => ?_) ?_
  · show Steps p.tables e below (T3.setTop (mkF m 106 #[.val (.long j0), .second, .val (.int i2), .val (.int i3), .val (.long j4), .second, .val (.int i6), .val (.long j7), .second, .val (.long j9), .second, .unset, .unset] [(.long (f1_0 j7))])) _
    refine XS.lstore X3.here hx rfl (hb hby at_106) rfl (l' := #[.val (.long j0), .second, .val (.int i2), .val (.int i3), .val (.long j4), .second, .val (.int i6), .val (.long j7), .second, .val (.long j9), .second, .val (.long (f1_0 j7)), .second]) rfl ?_
    show Steps p.tables e below (T3.setTop (mkF m 108 #[.val (.long j0), .second, .val (.int i2), .val (.int i3), .val (.long j4), .second, .val (.int i6), .val (.long j7), .second, .val (.long j9), .second, .val (.long (f1_0 j7)), .second] [])) _
    refine XS.lload X3.here hx rfl (hb hby at_108) rfl ?_
    show Steps p.tables e below (T3.setTop (mkF m 110 #[.val (.long j0), .second, .val (.int i2), .val (.int i3), .val (.long j4), .second, .val (.int i6), .val (.long j7), .second, .val (.long j9), .second, .val (.long (f1_0 j7)), .second] [(.long (f1_0 j7))])) _
    refine XS.lload X3.here hx rfl (hb hby at_110) rfl ?_
    show Steps p.tables e below (T3.setTop (mkF m 112 #[.val (.long j0), .second, .val (.int i2), .val (.int i3), .val (.long j4), .second, .val (.int i6), .val (.long j7), .second, .val (.long j9), .second, .val (.long (f1_0 j7)), .second] [(.long j9), (.long (f1_0 j7))])) _
    refine XS.lcmp X3.here hx rfl (hb hby at_112) rfl ?_
    exact kt
  by_cases hc113_4 : (f1_0 j7) = j9
  · rw [if_pos hc113_4] at hr
    refine own_step (T' := T3) (f' := (mkF m 118 #[.val (.long j0), .second, .val (.int i2), .val (.int i3), .val (.long j4), .second, .val (.int i6), .val (.long j7), .second, .val (.long j9), .second, .val (.long (f1_0 j7)), .second] [])) (fun t kt => ?_) ?_
    · show Steps p.tables e below (T3.setTop (mkF m 113 #[.val (.long j0), .second, .val (.int i2), .val (.int i3), .val (.long j4), .second, .val (.int i6), .val (.long j7), .second, .val (.long j9), .second, .val (.long (f1_0 j7)), .second] [(.int (lcmpW (f1_0 j7) j9))])) _
      refine XS.ifYes X3.here hx rfl (pc0 := 113) (pc' := 118) rfl (hb hby at_113) rfl ((if0 _ _).trans (teq ((lw_eq _ _).mpr hc113_4)).1) (by decide) (by decide) kt
    refine own_step (T' := T3) (f' := (mkF m 122 #[.val (.long j0), .second, .val (.int i2), .val (.int i3), .val (.long j4), .second, .val (.int i6), .val (.long j7), .second, .val (.long j9), .second, .val (.long (f1_0 j7)), .second] [(.int (lcmpW (f1_0 j7) (0 : Int64)))])) (fun t kt => ?_) ?_
    · show Steps p.tables e below (T3.setTop (mkF m 118 #[.val (.long j0), .second, .val (.int i2), .val (.int i3), .val (.long j4), .second, .val (.int i6), .val (.long j7), .second, .val (.long j9), .second, .val (.long (f1_0 j7)), .second] [])) _
      refine XS.lload X3.here hx rfl (hb hby at_118) rfl ?_
      show Steps p.tables e below (T3.setTop (mkF m 120 #[.val (.long j0), .second, .val (.int i2), .val (.int i3), .val (.long j4), .second, .val (.int i6), .val (.long j7), .second, .val (.long j9), .second, .val (.long (f1_0 j7)), .second] [(.long (f1_0 j7))])) _
      refine XS.lconst X3.here hx rfl (hb hby at_120) ?_
      show Steps p.tables e below (T3.setTop (mkF m 121 #[.val (.long j0), .second, .val (.int i2), .val (.int i3), .val (.long j4), .second, .val (.int i6), .val (.long j7), .second, .val (.long j9), .second, .val (.long (f1_0 j7)), .second] [(.long (0 : Int64)), (.long (f1_0 j7))])) _
      refine XS.lcmp X3.here hx rfl (hb hby at_121) rfl ?_
      exact kt
    by_cases hc122_5 : (f1_0 j7) < (0 : Int64)
    · rw [if_pos hc122_5] at hr
      refine own_step (T' := T3) (f' := (mkF m 142 #[.val (.long j0), .second, .val (.int i2), .val (.int i3), .val (.long j4), .second, .val (.int i6), .val (.long j7), .second, .val (.long j9), .second, .val (.long (f1_0 j7)), .second] [])) (fun t kt => ?_) ?_
      · show Steps p.tables e below (T3.setTop (mkF m 122 #[.val (.long j0), .second, .val (.int i2), .val (.int i3), .val (.long j4), .second, .val (.int i6), .val (.long j7), .second, .val (.long j9), .second, .val (.long (f1_0 j7)), .second] [(.int (lcmpW (f1_0 j7) (0 : Int64)))])) _
        refine XS.ifYes X3.here hx rfl (pc0 := 122) (pc' := 142) rfl (hb hby at_122) rfl ((if0 _ _).trans (tlt ((lw_lt _ _).mpr hc122_5)).1) (by decide) (by decide) kt
      refine own_step (T' := T3) (f' := (mkF m 143 #[.val (.long j0), .second, .val (.int i2), .val (.int i3), .val (.long j4), .second, .val (.int i6), .val (.long j7), .second, .val (.long j9), .second, .val (.long (f1_0 j7)), .second] [(.int (1 : Int32))])) (fun t kt => ?_) ?_
      · show Steps p.tables e below (T3.setTop (mkF m 142 #[.val (.long j0), .second, .val (.int i2), .val (.int i3), .val (.long j4), .second, .val (.int i6), .val (.long j7), .second, .val (.long j9), .second, .val (.long (f1_0 j7)), .second] [])) _
        refine XS.iconst X3.here hx rfl (hb hby at_142) ?_
        exact kt
      exact own_retZ X3 hx hret (by simp) hlk (hb hby at_143) (Nat.le_refl _) (Nat.le_refl _) ⟨congrArg (fun z => some (Value.int z)) hr.symm, N3, e3⟩
    · rw [if_neg hc122_5] at hr
      refine own_step (T' := T3) (f' := (mkF m 125 #[.val (.long j0), .second, .val (.int i2), .val (.int i3), .val (.long j4), .second, .val (.int i6), .val (.long j7), .second, .val (.long j9), .second, .val (.long (f1_0 j7)), .second] [])) (fun t kt => ?_) ?_
      · show Steps p.tables e below (T3.setTop (mkF m 122 #[.val (.long j0), .second, .val (.int i2), .val (.int i3), .val (.long j4), .second, .val (.int i6), .val (.long j7), .second, .val (.long j9), .second, .val (.long (f1_0 j7)), .second] [(.int (lcmpW (f1_0 j7) (0 : Int64)))])) _
        refine XS.ifNo X3.here hx rfl (hb hby at_122) rfl ((if0 _ _).trans (flt (mt (lw_lt _ _).mp hc122_5)).1) kt
      refine own_step (T' := T3) (f' := (mkF m 127 #[.val (.long j0), .second, .val (.int i2), .val (.int i3), .val (.long j4), .second, .val (.int i6), .val (.long j7), .second, .val (.long j9), .second, .val (.long (f1_0 j7)), .second] [(.long (f1_0 j7))])) (fun t kt => ?_) ?_
      · show Steps p.tables e below (T3.setTop (mkF m 125 #[.val (.long j0), .second, .val (.int i2), .val (.int i3), .val (.long j4), .second, .val (.int i6), .val (.long j7), .second, .val (.long j9), .second, .val (.long (f1_0 j7)), .second] [])) _
        refine XS.lload X3.here hx rfl (hb hby at_125) rfl ?_
        exact kt
      obtain ⟨_, _, ⟨T6, L6, k6, n6⟩, -, X6, ⟨Lc6, hQ6, l6, y6, z6⟩, st6⟩ := Jvm.LawKit.callS X3 hx (y := (⟨"com/example/nearsame/nearsame/BlockFile", "length", "(J)J"⟩ : MethodName)) hown (mvT hZ (hw _ (List.mem_of_getElem? (i := 12) rfl))) (mvT hZ (hw _ (List.mem_of_getElem? (i := 13) rfl))) (mvT hZ (hw _ (List.mem_of_getElem? (i := 3) rfl))) (mvT hZ (hw _ (List.mem_of_getElem? (i := 14) rfl))) (by decide) (backOf (W := 0) (rm2 l Z a0 hw [] (f1_0 j7)  h0 n0 ) hZ (hw _ (List.mem_of_getElem? (i := 14) rfl)) (hw _ (List.mem_of_getElem? (i := 3) rfl)) (by decide) (by decide)) (g := (mkF m 127 #[.val (.long j0), .second, .val (.int i2), .val (.int i3), .val (.long j4), .second, .val (.int i6), .val (.long j7), .second, .val (.long j9), .second, .val (.long (f1_0 j7)), .second] [(.long (f1_0 j7))])) rfl (by rw [hml]; rfl) (argsL := [(.long (f1_0 j7))]) (rest := []) (lenOf pd2 rfl) rfl (by show 2 * 0 + _ ≤ _; exact Nat.le_of_eq rfl) (hb hby at_127) (fun _ _ => ⟨rfl, e3, (by decide : 0 + 0 ≤ _), (by decide : 0 + 0 ≤ _)⟩)
      dsimp only [Pt.U, Pt.locs, Pt.cells, Pt.slots] at X6 l6 y6 z6 st6 hQ6
      subst l6 y6 z6
      obtain ⟨rfl, Nq6, e6⟩ := hQ6
      have N6 := Fr.app N3 Nq6
      refine own_step (T' := T6) (f' := (mkF m 130 #[.val (.long j0), .second, .val (.int i2), .val (.int i3), .val (.long j4), .second, .val (.int i6), .val (.long j7), .second, .val (.long j9), .second, .val (.long (f1_0 j7)), .second] [(.long (f2_0 (f1_0 j7)))])) st6 ?_
      refine own_step (T' := T6) (f' := (mkF m 133 #[.val (.long j0), .second, .val (.int i2), .val (.int i3), .val (.long j4), .second, .val (.int i6), .val (.long j7), .second, .val (.long j9), .second, .val (.long (f1_0 j7)), .second] [(.int (lcmpW (f2_0 (f1_0 j7)) j7))])) (fun t kt => ?_) ?_
      · show Steps p.tables e below (T6.setTop (mkF m 130 #[.val (.long j0), .second, .val (.int i2), .val (.int i3), .val (.long j4), .second, .val (.int i6), .val (.long j7), .second, .val (.long j9), .second, .val (.long (f1_0 j7)), .second] [(.long (f2_0 (f1_0 j7)))])) _
        refine XS.lload X6.here hx rfl (hb hby at_130) rfl ?_
        show Steps p.tables e below (T6.setTop (mkF m 132 #[.val (.long j0), .second, .val (.int i2), .val (.int i3), .val (.long j4), .second, .val (.int i6), .val (.long j7), .second, .val (.long j9), .second, .val (.long (f1_0 j7)), .second] [(.long j7), (.long (f2_0 (f1_0 j7)))])) _
        refine XS.lcmp X6.here hx rfl (hb hby at_132) rfl ?_
        exact kt
      by_cases hc133_7 : (f2_0 (f1_0 j7)) = j7
      · rw [if_pos hc133_7] at hr
        refine own_step (T' := T6) (f' := (mkF m 136 #[.val (.long j0), .second, .val (.int i2), .val (.int i3), .val (.long j4), .second, .val (.int i6), .val (.long j7), .second, .val (.long j9), .second, .val (.long (f1_0 j7)), .second] [])) (fun t kt => ?_) ?_
        · show Steps p.tables e below (T6.setTop (mkF m 133 #[.val (.long j0), .second, .val (.int i2), .val (.int i3), .val (.long j4), .second, .val (.int i6), .val (.long j7), .second, .val (.long j9), .second, .val (.long (f1_0 j7)), .second] [(.int (lcmpW (f2_0 (f1_0 j7)) j7))])) _
          refine XS.ifNo X6.here hx rfl (hb hby at_133) rfl ((if0 _ _).trans (teq ((lw_eq _ _).mpr hc133_7)).2) kt
        refine own_step (T' := T6) (f' := (mkF m 141 #[.val (.long j0), .second, .val (.int i2), .val (.int i3), .val (.long j4), .second, .val (.int i6), .val (.long j7), .second, .val (.long j9), .second, .val (.long (f1_0 j7)), .second] [(.int (1 : Int32))])) (fun t kt => ?_) ?_
        · show Steps p.tables e below (T6.setTop (mkF m 136 #[.val (.long j0), .second, .val (.int i2), .val (.int i3), .val (.long j4), .second, .val (.int i6), .val (.long j7), .second, .val (.long j9), .second, .val (.long (f1_0 j7)), .second] [])) _
          refine XS.iconst X6.here hx rfl (hb hby at_136) ?_
          show Steps p.tables e below (T6.setTop (mkF m 137 #[.val (.long j0), .second, .val (.int i2), .val (.int i3), .val (.long j4), .second, .val (.int i6), .val (.long j7), .second, .val (.long j9), .second, .val (.long (f1_0 j7)), .second] [(.int (1 : Int32))])) _
          refine XS.goto X6.here hx rfl (pc0 := 137) (pc' := 141) rfl (hb hby at_137) (by decide) (by decide) ?_
          exact kt
        exact own_retZ X6 hx hret (by simp) hlk (hb hby at_141) (Nat.le_refl _) (Nat.le_refl _) ⟨congrArg (fun z => some (Value.int z)) hr.symm, N6, e6⟩
      · rw [if_neg hc133_7] at hr
        refine own_step (T' := T6) (f' := (mkF m 140 #[.val (.long j0), .second, .val (.int i2), .val (.int i3), .val (.long j4), .second, .val (.int i6), .val (.long j7), .second, .val (.long j9), .second, .val (.long (f1_0 j7)), .second] [])) (fun t kt => ?_) ?_
        · show Steps p.tables e below (T6.setTop (mkF m 133 #[.val (.long j0), .second, .val (.int i2), .val (.int i3), .val (.long j4), .second, .val (.int i6), .val (.long j7), .second, .val (.long j9), .second, .val (.long (f1_0 j7)), .second] [(.int (lcmpW (f2_0 (f1_0 j7)) j7))])) _
          refine XS.ifYes X6.here hx rfl (pc0 := 133) (pc' := 140) rfl (hb hby at_133) rfl ((if0 _ _).trans (feq (mt (lw_eq _ _).mp hc133_7)).2) (by decide) (by decide) kt
        refine own_step (T' := T6) (f' := (mkF m 141 #[.val (.long j0), .second, .val (.int i2), .val (.int i3), .val (.long j4), .second, .val (.int i6), .val (.long j7), .second, .val (.long j9), .second, .val (.long (f1_0 j7)), .second] [(.int (0 : Int32))])) (fun t kt => ?_) ?_
        · show Steps p.tables e below (T6.setTop (mkF m 140 #[.val (.long j0), .second, .val (.int i2), .val (.int i3), .val (.long j4), .second, .val (.int i6), .val (.long j7), .second, .val (.long j9), .second, .val (.long (f1_0 j7)), .second] [])) _
          refine XS.iconst X6.here hx rfl (hb hby at_140) ?_
          exact kt
        exact own_retZ X6 hx hret (by simp) hlk (hb hby at_141) (Nat.le_refl _) (Nat.le_refl _) ⟨congrArg (fun z => some (Value.int z)) hr.symm, N6, e6⟩
  · rw [if_neg hc113_4] at hr
    refine own_step (T' := T3) (f' := (mkF m 116 #[.val (.long j0), .second, .val (.int i2), .val (.int i3), .val (.long j4), .second, .val (.int i6), .val (.long j7), .second, .val (.long j9), .second, .val (.long (f1_0 j7)), .second] [])) (fun t kt => ?_) ?_
    · show Steps p.tables e below (T3.setTop (mkF m 113 #[.val (.long j0), .second, .val (.int i2), .val (.int i3), .val (.long j4), .second, .val (.int i6), .val (.long j7), .second, .val (.long j9), .second, .val (.long (f1_0 j7)), .second] [(.int (lcmpW (f1_0 j7) j9))])) _
      refine XS.ifNo X3.here hx rfl (hb hby at_113) rfl ((if0 _ _).trans (feq (mt (lw_eq _ _).mp hc113_4)).1) kt
    refine own_step (T' := T3) (f' := (mkF m 117 #[.val (.long j0), .second, .val (.int i2), .val (.int i3), .val (.long j4), .second, .val (.int i6), .val (.long j7), .second, .val (.long j9), .second, .val (.long (f1_0 j7)), .second] [(.int (0 : Int32))])) (fun t kt => ?_) ?_
    · show Steps p.tables e below (T3.setTop (mkF m 116 #[.val (.long j0), .second, .val (.int i2), .val (.int i3), .val (.long j4), .second, .val (.int i6), .val (.long j7), .second, .val (.long j9), .second, .val (.long (f1_0 j7)), .second] [])) _
      refine XS.iconst X3.here hx rfl (hb hby at_116) ?_
      exact kt
    exact own_retZ X3 hx hret (by simp) hlk (hb hby at_117) (Nat.le_refl _) (Nat.le_refl _) ⟨congrArg (fun z => some (Value.int z)) hr.symm, N3, e3⟩
def f0_0 (q0 : Int64) (p1 : Int32) (p2 : Int32) : Int32 :=
  if (p2 &&& (1 : Int32)) = (0 : Int32) then (if (p1 &&& (4095 : Int32)) = (0 : Int32) then (f0_101 (((q0 &&& (2251799813685247 : Int64)) * (4096 : Int64)) + ((p1 &&& (4095 : Int32)).toInt64)) ((q0 &&& (2251799813685247 : Int64)) * (4092 : Int64))) else (if (4 : Int32) < (p1 &&& (4095 : Int32)) then (f0_101 (((q0 &&& (2251799813685247 : Int64)) * (4096 : Int64)) + ((p1 &&& (4095 : Int32)).toInt64)) (((q0 &&& (2251799813685247 : Int64)) * (4092 : Int64)) + (((p1 &&& (4095 : Int32)) - (4 : Int32)).toInt64))) else (f0_101 (((q0 &&& (2251799813685247 : Int64)) * (4096 : Int64)) + ((p1 &&& (4095 : Int32)).toInt64)) (-1 : Int64)))) else (if (f1_0 (q0 ||| (-9223372036854775808 : Int64))) = (-1 : Int64) then ((1 : Int32)) else ((0 : Int32)))
set_option maxRecDepth 65536 in
set_option maxHeartbeats 4000000 in
theorem b0_0 {p : Program} {l : Launch} {e : Env} {s : State} {m : MethodId} {args : Array Value} {below : List Frame} {meth : Method} {c : Code} {T0 : State} {locs : List Loc} {Z : State} {a0 : Array Value} {h0 : Heap} {n0 : Nat} (q0 : Int64) (p1 : Int32) (p2 : Int32) {r : Int32} (X0 : Stand p l e room_1 s m args below meth c T0 locs 0 0) (hx : p.tables.exec = Jvm.exec) (hZ : Z.Warmed39 s.vm) (hw : ∀ d ∈ tables_1, d.before a0 Z = true) (hby : c.code = code) (hml : c.maxLocals = 13) (hown : s.vm.findClass "com/example/nearsame/nearsame/BlockFileContentPinLaw" = some m.cls) (hret : meth.sig.returnType = some .boolean) (hlk : meth.locks = false) (e0 : T0.heap = h0) (N0 : Fr n0 locs) (hr : r = f0_0 q0 p1 p2) :
    own_Ends p e below s 0 0 (own_P (.int r) h0 n0) T0 (mkF m 0 #[.val (.long q0), .second, .val (.int p1), .val (.int p2), .unset, .unset, .unset, .unset, .unset, .unset, .unset, .unset, .unset] []) := by
  unfold f0_0 at hr
  refine own_step (T' := T0) (f' := (mkF m 3 #[.val (.long q0), .second, .val (.int p1), .val (.int p2), .unset, .unset, .unset, .unset, .unset, .unset, .unset, .unset, .unset] [(.int (p2 &&& (1 : Int32)))])) (fun t kt => ?_) ?_
  · show Steps p.tables e below (T0.setTop (mkF m 0 #[.val (.long q0), .second, .val (.int p1), .val (.int p2), .unset, .unset, .unset, .unset, .unset, .unset, .unset, .unset, .unset] [])) _
    refine XS.iloadN X0.here hx rfl (hb hby at_0) rfl ?_
    show Steps p.tables e below (T0.setTop (mkF m 1 #[.val (.long q0), .second, .val (.int p1), .val (.int p2), .unset, .unset, .unset, .unset, .unset, .unset, .unset, .unset, .unset] [(.int p2)])) _
    refine XS.iconst X0.here hx rfl (hb hby at_1) ?_
    show Steps p.tables e below (T0.setTop (mkF m 2 #[.val (.long q0), .second, .val (.int p1), .val (.int p2), .unset, .unset, .unset, .unset, .unset, .unset, .unset, .unset, .unset] [(.int (1 : Int32)), (.int p2)])) _
    refine XS.iand X0.here hx rfl (hb hby at_2) rfl ?_
    exact kt
  by_cases hc3_1 : (p2 &&& (1 : Int32)) = (0 : Int32)
  · rw [if_pos hc3_1] at hr
    refine own_step (T' := T0) (f' := (mkF m 31 #[.val (.long q0), .second, .val (.int p1), .val (.int p2), .unset, .unset, .unset, .unset, .unset, .unset, .unset, .unset, .unset] [])) (fun t kt => ?_) ?_
    · show Steps p.tables e below (T0.setTop (mkF m 3 #[.val (.long q0), .second, .val (.int p1), .val (.int p2), .unset, .unset, .unset, .unset, .unset, .unset, .unset, .unset, .unset] [(.int (p2 &&& (1 : Int32)))])) _
      refine XS.ifYes X0.here hx rfl (pc0 := 3) (pc' := 31) rfl (hb hby at_3) rfl ((if0 _ _).trans (teq hc3_1).1) (by decide) (by decide) kt
    refine own_step (T' := T0) (f' := (mkF m 59 #[.val (.long q0), .second, .val (.int p1), .val (.int p2), .val (.long (q0 &&& (2251799813685247 : Int64))), .second, .val (.int (p1 &&& (4095 : Int32))), .val (.long (((q0 &&& (2251799813685247 : Int64)) * (4096 : Int64)) + ((p1 &&& (4095 : Int32)).toInt64))), .second, .unset, .unset, .unset, .unset] [(.int (p1 &&& (4095 : Int32)))])) (fun t kt => ?_) ?_
    · show Steps p.tables e below (T0.setTop (mkF m 31 #[.val (.long q0), .second, .val (.int p1), .val (.int p2), .unset, .unset, .unset, .unset, .unset, .unset, .unset, .unset, .unset] [])) _
      refine XS.lloadN X0.here hx rfl (hb hby at_31) rfl ?_
      show Steps p.tables e below (T0.setTop (mkF m 32 #[.val (.long q0), .second, .val (.int p1), .val (.int p2), .unset, .unset, .unset, .unset, .unset, .unset, .unset, .unset, .unset] [(.long q0)])) _
      refine X0.ldc2Long hx hown (mvT hZ (hw _ (List.mem_of_getElem? (i := 8) rfl))) (g := (mkF m 32 #[.val (.long q0), .second, .val (.int p1), .val (.int p2), .unset, .unset, .unset, .unset, .unset, .unset, .unset, .unset, .unset] [(.long q0)])) rfl (hb hby at_32) _ ?_
      show Steps p.tables e below (T0.setTop (mkF m 35 #[.val (.long q0), .second, .val (.int p1), .val (.int p2), .unset, .unset, .unset, .unset, .unset, .unset, .unset, .unset, .unset] [(.long (2251799813685247 : Int64)), (.long q0)])) _
      refine XS.land X0.here hx rfl (hb hby at_35) rfl ?_
      show Steps p.tables e below (T0.setTop (mkF m 36 #[.val (.long q0), .second, .val (.int p1), .val (.int p2), .unset, .unset, .unset, .unset, .unset, .unset, .unset, .unset, .unset] [(.long (q0 &&& (2251799813685247 : Int64)))])) _
      refine XS.lstore X0.here hx rfl (hb hby at_36) rfl (l' := #[.val (.long q0), .second, .val (.int p1), .val (.int p2), .val (.long (q0 &&& (2251799813685247 : Int64))), .second, .unset, .unset, .unset, .unset, .unset, .unset, .unset]) rfl ?_
      show Steps p.tables e below (T0.setTop (mkF m 38 #[.val (.long q0), .second, .val (.int p1), .val (.int p2), .val (.long (q0 &&& (2251799813685247 : Int64))), .second, .unset, .unset, .unset, .unset, .unset, .unset, .unset] [])) _
      refine XS.iloadN X0.here hx rfl (hb hby at_38) rfl ?_
      show Steps p.tables e below (T0.setTop (mkF m 39 #[.val (.long q0), .second, .val (.int p1), .val (.int p2), .val (.long (q0 &&& (2251799813685247 : Int64))), .second, .unset, .unset, .unset, .unset, .unset, .unset, .unset] [(.int p1)])) _
      refine XS.sipush X0.here hx rfl (hb hby at_39) ?_
      show Steps p.tables e below (T0.setTop (mkF m 42 #[.val (.long q0), .second, .val (.int p1), .val (.int p2), .val (.long (q0 &&& (2251799813685247 : Int64))), .second, .unset, .unset, .unset, .unset, .unset, .unset, .unset] [(.int (4095 : Int32)), (.int p1)])) _
      refine XS.iand X0.here hx rfl (hb hby at_42) rfl ?_
      show Steps p.tables e below (T0.setTop (mkF m 43 #[.val (.long q0), .second, .val (.int p1), .val (.int p2), .val (.long (q0 &&& (2251799813685247 : Int64))), .second, .unset, .unset, .unset, .unset, .unset, .unset, .unset] [(.int (p1 &&& (4095 : Int32)))])) _
      refine XS.istore X0.here hx rfl (hb hby at_43) rfl (l' := #[.val (.long q0), .second, .val (.int p1), .val (.int p2), .val (.long (q0 &&& (2251799813685247 : Int64))), .second, .val (.int (p1 &&& (4095 : Int32))), .unset, .unset, .unset, .unset, .unset, .unset]) rfl ?_
      show Steps p.tables e below (T0.setTop (mkF m 45 #[.val (.long q0), .second, .val (.int p1), .val (.int p2), .val (.long (q0 &&& (2251799813685247 : Int64))), .second, .val (.int (p1 &&& (4095 : Int32))), .unset, .unset, .unset, .unset, .unset, .unset] [])) _
      refine XS.lload X0.here hx rfl (hb hby at_45) rfl ?_
      show Steps p.tables e below (T0.setTop (mkF m 47 #[.val (.long q0), .second, .val (.int p1), .val (.int p2), .val (.long (q0 &&& (2251799813685247 : Int64))), .second, .val (.int (p1 &&& (4095 : Int32))), .unset, .unset, .unset, .unset, .unset, .unset] [(.long (q0 &&& (2251799813685247 : Int64)))])) _
      refine X0.ldc2Long hx hown (mvT hZ (hw _ (List.mem_of_getElem? (i := 9) rfl))) (g := (mkF m 47 #[.val (.long q0), .second, .val (.int p1), .val (.int p2), .val (.long (q0 &&& (2251799813685247 : Int64))), .second, .val (.int (p1 &&& (4095 : Int32))), .unset, .unset, .unset, .unset, .unset, .unset] [(.long (q0 &&& (2251799813685247 : Int64)))])) rfl (hb hby at_47) _ ?_
      show Steps p.tables e below (T0.setTop (mkF m 50 #[.val (.long q0), .second, .val (.int p1), .val (.int p2), .val (.long (q0 &&& (2251799813685247 : Int64))), .second, .val (.int (p1 &&& (4095 : Int32))), .unset, .unset, .unset, .unset, .unset, .unset] [(.long (4096 : Int64)), (.long (q0 &&& (2251799813685247 : Int64)))])) _
      refine XS.lmul X0.here hx rfl (hb hby at_50) rfl ?_
      show Steps p.tables e below (T0.setTop (mkF m 51 #[.val (.long q0), .second, .val (.int p1), .val (.int p2), .val (.long (q0 &&& (2251799813685247 : Int64))), .second, .val (.int (p1 &&& (4095 : Int32))), .unset, .unset, .unset, .unset, .unset, .unset] [(.long ((q0 &&& (2251799813685247 : Int64)) * (4096 : Int64)))])) _
      refine XS.iload X0.here hx rfl (hb hby at_51) rfl ?_
      show Steps p.tables e below (T0.setTop (mkF m 53 #[.val (.long q0), .second, .val (.int p1), .val (.int p2), .val (.long (q0 &&& (2251799813685247 : Int64))), .second, .val (.int (p1 &&& (4095 : Int32))), .unset, .unset, .unset, .unset, .unset, .unset] [(.int (p1 &&& (4095 : Int32))), (.long ((q0 &&& (2251799813685247 : Int64)) * (4096 : Int64)))])) _
      refine XS.i2l X0.here hx rfl (hb hby at_53) rfl ?_
      show Steps p.tables e below (T0.setTop (mkF m 54 #[.val (.long q0), .second, .val (.int p1), .val (.int p2), .val (.long (q0 &&& (2251799813685247 : Int64))), .second, .val (.int (p1 &&& (4095 : Int32))), .unset, .unset, .unset, .unset, .unset, .unset] [(.long ((p1 &&& (4095 : Int32)).toInt64)), (.long ((q0 &&& (2251799813685247 : Int64)) * (4096 : Int64)))])) _
      refine XS.ladd X0.here hx rfl (hb hby at_54) rfl ?_
      show Steps p.tables e below (T0.setTop (mkF m 55 #[.val (.long q0), .second, .val (.int p1), .val (.int p2), .val (.long (q0 &&& (2251799813685247 : Int64))), .second, .val (.int (p1 &&& (4095 : Int32))), .unset, .unset, .unset, .unset, .unset, .unset] [(.long (((q0 &&& (2251799813685247 : Int64)) * (4096 : Int64)) + ((p1 &&& (4095 : Int32)).toInt64)))])) _
      refine XS.lstore X0.here hx rfl (hb hby at_55) rfl (l' := #[.val (.long q0), .second, .val (.int p1), .val (.int p2), .val (.long (q0 &&& (2251799813685247 : Int64))), .second, .val (.int (p1 &&& (4095 : Int32))), .val (.long (((q0 &&& (2251799813685247 : Int64)) * (4096 : Int64)) + ((p1 &&& (4095 : Int32)).toInt64))), .second, .unset, .unset, .unset, .unset]) rfl ?_
      show Steps p.tables e below (T0.setTop (mkF m 57 #[.val (.long q0), .second, .val (.int p1), .val (.int p2), .val (.long (q0 &&& (2251799813685247 : Int64))), .second, .val (.int (p1 &&& (4095 : Int32))), .val (.long (((q0 &&& (2251799813685247 : Int64)) * (4096 : Int64)) + ((p1 &&& (4095 : Int32)).toInt64))), .second, .unset, .unset, .unset, .unset] [])) _
      refine XS.iload X0.here hx rfl (hb hby at_57) rfl ?_
      exact kt
    by_cases hc59_2 : (p1 &&& (4095 : Int32)) = (0 : Int32)
    · rw [if_pos hc59_2] at hr
      refine own_step (T' := T0) (f' := (mkF m 62 #[.val (.long q0), .second, .val (.int p1), .val (.int p2), .val (.long (q0 &&& (2251799813685247 : Int64))), .second, .val (.int (p1 &&& (4095 : Int32))), .val (.long (((q0 &&& (2251799813685247 : Int64)) * (4096 : Int64)) + ((p1 &&& (4095 : Int32)).toInt64))), .second, .unset, .unset, .unset, .unset] [])) (fun t kt => ?_) ?_
      · show Steps p.tables e below (T0.setTop (mkF m 59 #[.val (.long q0), .second, .val (.int p1), .val (.int p2), .val (.long (q0 &&& (2251799813685247 : Int64))), .second, .val (.int (p1 &&& (4095 : Int32))), .val (.long (((q0 &&& (2251799813685247 : Int64)) * (4096 : Int64)) + ((p1 &&& (4095 : Int32)).toInt64))), .second, .unset, .unset, .unset, .unset] [(.int (p1 &&& (4095 : Int32)))])) _
        refine XS.ifNo X0.here hx rfl (hb hby at_59) rfl ((if0 _ _).trans (teq hc59_2).2) kt
      refine own_step (T' := T0) (f' := (mkF m 101 #[.val (.long q0), .second, .val (.int p1), .val (.int p2), .val (.long (q0 &&& (2251799813685247 : Int64))), .second, .val (.int (p1 &&& (4095 : Int32))), .val (.long (((q0 &&& (2251799813685247 : Int64)) * (4096 : Int64)) + ((p1 &&& (4095 : Int32)).toInt64))), .second, .val (.long ((q0 &&& (2251799813685247 : Int64)) * (4092 : Int64))), .second, .unset, .unset] [])) (fun t kt => ?_) ?_
      · show Steps p.tables e below (T0.setTop (mkF m 62 #[.val (.long q0), .second, .val (.int p1), .val (.int p2), .val (.long (q0 &&& (2251799813685247 : Int64))), .second, .val (.int (p1 &&& (4095 : Int32))), .val (.long (((q0 &&& (2251799813685247 : Int64)) * (4096 : Int64)) + ((p1 &&& (4095 : Int32)).toInt64))), .second, .unset, .unset, .unset, .unset] [])) _
        refine XS.lload X0.here hx rfl (hb hby at_62) rfl ?_
        show Steps p.tables e below (T0.setTop (mkF m 64 #[.val (.long q0), .second, .val (.int p1), .val (.int p2), .val (.long (q0 &&& (2251799813685247 : Int64))), .second, .val (.int (p1 &&& (4095 : Int32))), .val (.long (((q0 &&& (2251799813685247 : Int64)) * (4096 : Int64)) + ((p1 &&& (4095 : Int32)).toInt64))), .second, .unset, .unset, .unset, .unset] [(.long (q0 &&& (2251799813685247 : Int64)))])) _
        refine X0.ldc2Long hx hown (mvT hZ (hw _ (List.mem_of_getElem? (i := 10) rfl))) (g := (mkF m 64 #[.val (.long q0), .second, .val (.int p1), .val (.int p2), .val (.long (q0 &&& (2251799813685247 : Int64))), .second, .val (.int (p1 &&& (4095 : Int32))), .val (.long (((q0 &&& (2251799813685247 : Int64)) * (4096 : Int64)) + ((p1 &&& (4095 : Int32)).toInt64))), .second, .unset, .unset, .unset, .unset] [(.long (q0 &&& (2251799813685247 : Int64)))])) rfl (hb hby at_64) _ ?_
        show Steps p.tables e below (T0.setTop (mkF m 67 #[.val (.long q0), .second, .val (.int p1), .val (.int p2), .val (.long (q0 &&& (2251799813685247 : Int64))), .second, .val (.int (p1 &&& (4095 : Int32))), .val (.long (((q0 &&& (2251799813685247 : Int64)) * (4096 : Int64)) + ((p1 &&& (4095 : Int32)).toInt64))), .second, .unset, .unset, .unset, .unset] [(.long (4092 : Int64)), (.long (q0 &&& (2251799813685247 : Int64)))])) _
        refine XS.lmul X0.here hx rfl (hb hby at_67) rfl ?_
        show Steps p.tables e below (T0.setTop (mkF m 68 #[.val (.long q0), .second, .val (.int p1), .val (.int p2), .val (.long (q0 &&& (2251799813685247 : Int64))), .second, .val (.int (p1 &&& (4095 : Int32))), .val (.long (((q0 &&& (2251799813685247 : Int64)) * (4096 : Int64)) + ((p1 &&& (4095 : Int32)).toInt64))), .second, .unset, .unset, .unset, .unset] [(.long ((q0 &&& (2251799813685247 : Int64)) * (4092 : Int64)))])) _
        refine XS.lstore X0.here hx rfl (hb hby at_68) rfl (l' := #[.val (.long q0), .second, .val (.int p1), .val (.int p2), .val (.long (q0 &&& (2251799813685247 : Int64))), .second, .val (.int (p1 &&& (4095 : Int32))), .val (.long (((q0 &&& (2251799813685247 : Int64)) * (4096 : Int64)) + ((p1 &&& (4095 : Int32)).toInt64))), .second, .val (.long ((q0 &&& (2251799813685247 : Int64)) * (4092 : Int64))), .second, .unset, .unset]) rfl ?_
        show Steps p.tables e below (T0.setTop (mkF m 70 #[.val (.long q0), .second, .val (.int p1), .val (.int p2), .val (.long (q0 &&& (2251799813685247 : Int64))), .second, .val (.int (p1 &&& (4095 : Int32))), .val (.long (((q0 &&& (2251799813685247 : Int64)) * (4096 : Int64)) + ((p1 &&& (4095 : Int32)).toInt64))), .second, .val (.long ((q0 &&& (2251799813685247 : Int64)) * (4092 : Int64))), .second, .unset, .unset] [])) _
        refine XS.goto X0.here hx rfl (pc0 := 70) (pc' := 101) rfl (hb hby at_70) (by decide) (by decide) ?_
        exact kt
      exact b0_101 q0 p1 p2 (q0 &&& (2251799813685247 : Int64)) (p1 &&& (4095 : Int32)) (((q0 &&& (2251799813685247 : Int64)) * (4096 : Int64)) + ((p1 &&& (4095 : Int32)).toInt64)) ((q0 &&& (2251799813685247 : Int64)) * (4092 : Int64)) X0 hx hZ hw hby hml hown hret hlk e0 N0 hr
    · rw [if_neg hc59_2] at hr
      refine own_step (T' := T0) (f' := (mkF m 73 #[.val (.long q0), .second, .val (.int p1), .val (.int p2), .val (.long (q0 &&& (2251799813685247 : Int64))), .second, .val (.int (p1 &&& (4095 : Int32))), .val (.long (((q0 &&& (2251799813685247 : Int64)) * (4096 : Int64)) + ((p1 &&& (4095 : Int32)).toInt64))), .second, .unset, .unset, .unset, .unset] [])) (fun t kt => ?_) ?_
      · show Steps p.tables e below (T0.setTop (mkF m 59 #[.val (.long q0), .second, .val (.int p1), .val (.int p2), .val (.long (q0 &&& (2251799813685247 : Int64))), .second, .val (.int (p1 &&& (4095 : Int32))), .val (.long (((q0 &&& (2251799813685247 : Int64)) * (4096 : Int64)) + ((p1 &&& (4095 : Int32)).toInt64))), .second, .unset, .unset, .unset, .unset] [(.int (p1 &&& (4095 : Int32)))])) _
        refine XS.ifYes X0.here hx rfl (pc0 := 59) (pc' := 73) rfl (hb hby at_59) rfl ((if0 _ _).trans (feq hc59_2).2) (by decide) (by decide) kt
      refine own_step (T' := T0) (f' := (mkF m 76 #[.val (.long q0), .second, .val (.int p1), .val (.int p2), .val (.long (q0 &&& (2251799813685247 : Int64))), .second, .val (.int (p1 &&& (4095 : Int32))), .val (.long (((q0 &&& (2251799813685247 : Int64)) * (4096 : Int64)) + ((p1 &&& (4095 : Int32)).toInt64))), .second, .unset, .unset, .unset, .unset] [(.int (4 : Int32)), (.int (p1 &&& (4095 : Int32)))])) (fun t kt => ?_) ?_
      · show Steps p.tables e below (T0.setTop (mkF m 73 #[.val (.long q0), .second, .val (.int p1), .val (.int p2), .val (.long (q0 &&& (2251799813685247 : Int64))), .second, .val (.int (p1 &&& (4095 : Int32))), .val (.long (((q0 &&& (2251799813685247 : Int64)) * (4096 : Int64)) + ((p1 &&& (4095 : Int32)).toInt64))), .second, .unset, .unset, .unset, .unset] [])) _
        refine XS.iload X0.here hx rfl (hb hby at_73) rfl ?_
        show Steps p.tables e below (T0.setTop (mkF m 75 #[.val (.long q0), .second, .val (.int p1), .val (.int p2), .val (.long (q0 &&& (2251799813685247 : Int64))), .second, .val (.int (p1 &&& (4095 : Int32))), .val (.long (((q0 &&& (2251799813685247 : Int64)) * (4096 : Int64)) + ((p1 &&& (4095 : Int32)).toInt64))), .second, .unset, .unset, .unset, .unset] [(.int (p1 &&& (4095 : Int32)))])) _
        refine XS.iconst X0.here hx rfl (hb hby at_75) ?_
        exact kt
      by_cases hc76_8 : (4 : Int32) < (p1 &&& (4095 : Int32))
      · rw [if_pos hc76_8] at hr
        refine own_step (T' := T0) (f' := (mkF m 87 #[.val (.long q0), .second, .val (.int p1), .val (.int p2), .val (.long (q0 &&& (2251799813685247 : Int64))), .second, .val (.int (p1 &&& (4095 : Int32))), .val (.long (((q0 &&& (2251799813685247 : Int64)) * (4096 : Int64)) + ((p1 &&& (4095 : Int32)).toInt64))), .second, .unset, .unset, .unset, .unset] [])) (fun t kt => ?_) ?_
        · show Steps p.tables e below (T0.setTop (mkF m 76 #[.val (.long q0), .second, .val (.int p1), .val (.int p2), .val (.long (q0 &&& (2251799813685247 : Int64))), .second, .val (.int (p1 &&& (4095 : Int32))), .val (.long (((q0 &&& (2251799813685247 : Int64)) * (4096 : Int64)) + ((p1 &&& (4095 : Int32)).toInt64))), .second, .unset, .unset, .unset, .unset] [(.int (4 : Int32)), (.int (p1 &&& (4095 : Int32)))])) _
          refine XS.icmpYes X0.here hx rfl (pc0 := 76) (pc' := 87) rfl (hb hby at_76) rfl (tlt hc76_8).2.2.1 (by decide) (by decide) kt
        refine own_step (T' := T0) (f' := (mkF m 101 #[.val (.long q0), .second, .val (.int p1), .val (.int p2), .val (.long (q0 &&& (2251799813685247 : Int64))), .second, .val (.int (p1 &&& (4095 : Int32))), .val (.long (((q0 &&& (2251799813685247 : Int64)) * (4096 : Int64)) + ((p1 &&& (4095 : Int32)).toInt64))), .second, .val (.long (((q0 &&& (2251799813685247 : Int64)) * (4092 : Int64)) + (((p1 &&& (4095 : Int32)) - (4 : Int32)).toInt64))), .second, .unset, .unset] [])) (fun t kt => ?_) ?_
        · show Steps p.tables e below (T0.setTop (mkF m 87 #[.val (.long q0), .second, .val (.int p1), .val (.int p2), .val (.long (q0 &&& (2251799813685247 : Int64))), .second, .val (.int (p1 &&& (4095 : Int32))), .val (.long (((q0 &&& (2251799813685247 : Int64)) * (4096 : Int64)) + ((p1 &&& (4095 : Int32)).toInt64))), .second, .unset, .unset, .unset, .unset] [])) _
          refine XS.lload X0.here hx rfl (hb hby at_87) rfl ?_
          show Steps p.tables e below (T0.setTop (mkF m 89 #[.val (.long q0), .second, .val (.int p1), .val (.int p2), .val (.long (q0 &&& (2251799813685247 : Int64))), .second, .val (.int (p1 &&& (4095 : Int32))), .val (.long (((q0 &&& (2251799813685247 : Int64)) * (4096 : Int64)) + ((p1 &&& (4095 : Int32)).toInt64))), .second, .unset, .unset, .unset, .unset] [(.long (q0 &&& (2251799813685247 : Int64)))])) _
          refine X0.ldc2Long hx hown (mvT hZ (hw _ (List.mem_of_getElem? (i := 10) rfl))) (g := (mkF m 89 #[.val (.long q0), .second, .val (.int p1), .val (.int p2), .val (.long (q0 &&& (2251799813685247 : Int64))), .second, .val (.int (p1 &&& (4095 : Int32))), .val (.long (((q0 &&& (2251799813685247 : Int64)) * (4096 : Int64)) + ((p1 &&& (4095 : Int32)).toInt64))), .second, .unset, .unset, .unset, .unset] [(.long (q0 &&& (2251799813685247 : Int64)))])) rfl (hb hby at_89) _ ?_
          show Steps p.tables e below (T0.setTop (mkF m 92 #[.val (.long q0), .second, .val (.int p1), .val (.int p2), .val (.long (q0 &&& (2251799813685247 : Int64))), .second, .val (.int (p1 &&& (4095 : Int32))), .val (.long (((q0 &&& (2251799813685247 : Int64)) * (4096 : Int64)) + ((p1 &&& (4095 : Int32)).toInt64))), .second, .unset, .unset, .unset, .unset] [(.long (4092 : Int64)), (.long (q0 &&& (2251799813685247 : Int64)))])) _
          refine XS.lmul X0.here hx rfl (hb hby at_92) rfl ?_
          show Steps p.tables e below (T0.setTop (mkF m 93 #[.val (.long q0), .second, .val (.int p1), .val (.int p2), .val (.long (q0 &&& (2251799813685247 : Int64))), .second, .val (.int (p1 &&& (4095 : Int32))), .val (.long (((q0 &&& (2251799813685247 : Int64)) * (4096 : Int64)) + ((p1 &&& (4095 : Int32)).toInt64))), .second, .unset, .unset, .unset, .unset] [(.long ((q0 &&& (2251799813685247 : Int64)) * (4092 : Int64)))])) _
          refine XS.iload X0.here hx rfl (hb hby at_93) rfl ?_
          show Steps p.tables e below (T0.setTop (mkF m 95 #[.val (.long q0), .second, .val (.int p1), .val (.int p2), .val (.long (q0 &&& (2251799813685247 : Int64))), .second, .val (.int (p1 &&& (4095 : Int32))), .val (.long (((q0 &&& (2251799813685247 : Int64)) * (4096 : Int64)) + ((p1 &&& (4095 : Int32)).toInt64))), .second, .unset, .unset, .unset, .unset] [(.int (p1 &&& (4095 : Int32))), (.long ((q0 &&& (2251799813685247 : Int64)) * (4092 : Int64)))])) _
          refine XS.iconst X0.here hx rfl (hb hby at_95) ?_
          show Steps p.tables e below (T0.setTop (mkF m 96 #[.val (.long q0), .second, .val (.int p1), .val (.int p2), .val (.long (q0 &&& (2251799813685247 : Int64))), .second, .val (.int (p1 &&& (4095 : Int32))), .val (.long (((q0 &&& (2251799813685247 : Int64)) * (4096 : Int64)) + ((p1 &&& (4095 : Int32)).toInt64))), .second, .unset, .unset, .unset, .unset] [(.int (4 : Int32)), (.int (p1 &&& (4095 : Int32))), (.long ((q0 &&& (2251799813685247 : Int64)) * (4092 : Int64)))])) _
          refine XS.isub X0.here hx rfl (hb hby at_96) rfl ?_
          show Steps p.tables e below (T0.setTop (mkF m 97 #[.val (.long q0), .second, .val (.int p1), .val (.int p2), .val (.long (q0 &&& (2251799813685247 : Int64))), .second, .val (.int (p1 &&& (4095 : Int32))), .val (.long (((q0 &&& (2251799813685247 : Int64)) * (4096 : Int64)) + ((p1 &&& (4095 : Int32)).toInt64))), .second, .unset, .unset, .unset, .unset] [(.int ((p1 &&& (4095 : Int32)) - (4 : Int32))), (.long ((q0 &&& (2251799813685247 : Int64)) * (4092 : Int64)))])) _
          refine XS.i2l X0.here hx rfl (hb hby at_97) rfl ?_
          show Steps p.tables e below (T0.setTop (mkF m 98 #[.val (.long q0), .second, .val (.int p1), .val (.int p2), .val (.long (q0 &&& (2251799813685247 : Int64))), .second, .val (.int (p1 &&& (4095 : Int32))), .val (.long (((q0 &&& (2251799813685247 : Int64)) * (4096 : Int64)) + ((p1 &&& (4095 : Int32)).toInt64))), .second, .unset, .unset, .unset, .unset] [(.long (((p1 &&& (4095 : Int32)) - (4 : Int32)).toInt64)), (.long ((q0 &&& (2251799813685247 : Int64)) * (4092 : Int64)))])) _
          refine XS.ladd X0.here hx rfl (hb hby at_98) rfl ?_
          show Steps p.tables e below (T0.setTop (mkF m 99 #[.val (.long q0), .second, .val (.int p1), .val (.int p2), .val (.long (q0 &&& (2251799813685247 : Int64))), .second, .val (.int (p1 &&& (4095 : Int32))), .val (.long (((q0 &&& (2251799813685247 : Int64)) * (4096 : Int64)) + ((p1 &&& (4095 : Int32)).toInt64))), .second, .unset, .unset, .unset, .unset] [(.long (((q0 &&& (2251799813685247 : Int64)) * (4092 : Int64)) + (((p1 &&& (4095 : Int32)) - (4 : Int32)).toInt64)))])) _
          refine XS.lstore X0.here hx rfl (hb hby at_99) rfl (l' := #[.val (.long q0), .second, .val (.int p1), .val (.int p2), .val (.long (q0 &&& (2251799813685247 : Int64))), .second, .val (.int (p1 &&& (4095 : Int32))), .val (.long (((q0 &&& (2251799813685247 : Int64)) * (4096 : Int64)) + ((p1 &&& (4095 : Int32)).toInt64))), .second, .val (.long (((q0 &&& (2251799813685247 : Int64)) * (4092 : Int64)) + (((p1 &&& (4095 : Int32)) - (4 : Int32)).toInt64))), .second, .unset, .unset]) rfl ?_
          exact kt
        exact b0_101 q0 p1 p2 (q0 &&& (2251799813685247 : Int64)) (p1 &&& (4095 : Int32)) (((q0 &&& (2251799813685247 : Int64)) * (4096 : Int64)) + ((p1 &&& (4095 : Int32)).toInt64)) (((q0 &&& (2251799813685247 : Int64)) * (4092 : Int64)) + (((p1 &&& (4095 : Int32)) - (4 : Int32)).toInt64)) X0 hx hZ hw hby hml hown hret hlk e0 N0 hr
      · rw [if_neg hc76_8] at hr
        refine own_step (T' := T0) (f' := (mkF m 79 #[.val (.long q0), .second, .val (.int p1), .val (.int p2), .val (.long (q0 &&& (2251799813685247 : Int64))), .second, .val (.int (p1 &&& (4095 : Int32))), .val (.long (((q0 &&& (2251799813685247 : Int64)) * (4096 : Int64)) + ((p1 &&& (4095 : Int32)).toInt64))), .second, .unset, .unset, .unset, .unset] [])) (fun t kt => ?_) ?_
        · show Steps p.tables e below (T0.setTop (mkF m 76 #[.val (.long q0), .second, .val (.int p1), .val (.int p2), .val (.long (q0 &&& (2251799813685247 : Int64))), .second, .val (.int (p1 &&& (4095 : Int32))), .val (.long (((q0 &&& (2251799813685247 : Int64)) * (4096 : Int64)) + ((p1 &&& (4095 : Int32)).toInt64))), .second, .unset, .unset, .unset, .unset] [(.int (4 : Int32)), (.int (p1 &&& (4095 : Int32)))])) _
          refine XS.icmpNo X0.here hx rfl (hb hby at_76) rfl (flt hc76_8).2.2.1 kt
        refine own_step (T' := T0) (f' := (mkF m 101 #[.val (.long q0), .second, .val (.int p1), .val (.int p2), .val (.long (q0 &&& (2251799813685247 : Int64))), .second, .val (.int (p1 &&& (4095 : Int32))), .val (.long (((q0 &&& (2251799813685247 : Int64)) * (4096 : Int64)) + ((p1 &&& (4095 : Int32)).toInt64))), .second, .val (.long (-1 : Int64)), .second, .unset, .unset] [])) (fun t kt => ?_) ?_
        · show Steps p.tables e below (T0.setTop (mkF m 79 #[.val (.long q0), .second, .val (.int p1), .val (.int p2), .val (.long (q0 &&& (2251799813685247 : Int64))), .second, .val (.int (p1 &&& (4095 : Int32))), .val (.long (((q0 &&& (2251799813685247 : Int64)) * (4096 : Int64)) + ((p1 &&& (4095 : Int32)).toInt64))), .second, .unset, .unset, .unset, .unset] [])) _
          refine X0.ldc2Long hx hown (mvT hZ (hw _ (List.mem_of_getElem? (i := 7) rfl))) (g := (mkF m 79 #[.val (.long q0), .second, .val (.int p1), .val (.int p2), .val (.long (q0 &&& (2251799813685247 : Int64))), .second, .val (.int (p1 &&& (4095 : Int32))), .val (.long (((q0 &&& (2251799813685247 : Int64)) * (4096 : Int64)) + ((p1 &&& (4095 : Int32)).toInt64))), .second, .unset, .unset, .unset, .unset] [])) rfl (hb hby at_79) _ ?_
          show Steps p.tables e below (T0.setTop (mkF m 82 #[.val (.long q0), .second, .val (.int p1), .val (.int p2), .val (.long (q0 &&& (2251799813685247 : Int64))), .second, .val (.int (p1 &&& (4095 : Int32))), .val (.long (((q0 &&& (2251799813685247 : Int64)) * (4096 : Int64)) + ((p1 &&& (4095 : Int32)).toInt64))), .second, .unset, .unset, .unset, .unset] [(.long (-1 : Int64))])) _
          refine XS.lstore X0.here hx rfl (hb hby at_82) rfl (l' := #[.val (.long q0), .second, .val (.int p1), .val (.int p2), .val (.long (q0 &&& (2251799813685247 : Int64))), .second, .val (.int (p1 &&& (4095 : Int32))), .val (.long (((q0 &&& (2251799813685247 : Int64)) * (4096 : Int64)) + ((p1 &&& (4095 : Int32)).toInt64))), .second, .val (.long (-1 : Int64)), .second, .unset, .unset]) rfl ?_
          show Steps p.tables e below (T0.setTop (mkF m 84 #[.val (.long q0), .second, .val (.int p1), .val (.int p2), .val (.long (q0 &&& (2251799813685247 : Int64))), .second, .val (.int (p1 &&& (4095 : Int32))), .val (.long (((q0 &&& (2251799813685247 : Int64)) * (4096 : Int64)) + ((p1 &&& (4095 : Int32)).toInt64))), .second, .val (.long (-1 : Int64)), .second, .unset, .unset] [])) _
          refine XS.goto X0.here hx rfl (pc0 := 84) (pc' := 101) rfl (hb hby at_84) (by decide) (by decide) ?_
          exact kt
        exact b0_101 q0 p1 p2 (q0 &&& (2251799813685247 : Int64)) (p1 &&& (4095 : Int32)) (((q0 &&& (2251799813685247 : Int64)) * (4096 : Int64)) + ((p1 &&& (4095 : Int32)).toInt64)) (-1 : Int64) X0 hx hZ hw hby hml hown hret hlk e0 N0 hr
  · rw [if_neg hc3_1] at hr
    refine own_step (T' := T0) (f' := (mkF m 6 #[.val (.long q0), .second, .val (.int p1), .val (.int p2), .unset, .unset, .unset, .unset, .unset, .unset, .unset, .unset, .unset] [])) (fun t kt => ?_) ?_
    · show Steps p.tables e below (T0.setTop (mkF m 3 #[.val (.long q0), .second, .val (.int p1), .val (.int p2), .unset, .unset, .unset, .unset, .unset, .unset, .unset, .unset, .unset] [(.int (p2 &&& (1 : Int32)))])) _
      refine XS.ifNo X0.here hx rfl (hb hby at_3) rfl ((if0 _ _).trans (feq hc3_1).1) kt
    refine own_step (T' := T0) (f' := (mkF m 15 #[.val (.long q0), .second, .val (.int p1), .val (.int p2), .val (.long (q0 ||| (-9223372036854775808 : Int64))), .second, .unset, .unset, .unset, .unset, .unset, .unset, .unset] [(.long (q0 ||| (-9223372036854775808 : Int64)))])) (fun t kt => ?_) ?_
    · show Steps p.tables e below (T0.setTop (mkF m 6 #[.val (.long q0), .second, .val (.int p1), .val (.int p2), .unset, .unset, .unset, .unset, .unset, .unset, .unset, .unset, .unset] [])) _
      refine XS.lloadN X0.here hx rfl (hb hby at_6) rfl ?_
      show Steps p.tables e below (T0.setTop (mkF m 7 #[.val (.long q0), .second, .val (.int p1), .val (.int p2), .unset, .unset, .unset, .unset, .unset, .unset, .unset, .unset, .unset] [(.long q0)])) _
      refine X0.ldc2Long hx hown (mvT hZ (hw _ (List.mem_of_getElem? (i := 0) rfl))) (g := (mkF m 7 #[.val (.long q0), .second, .val (.int p1), .val (.int p2), .unset, .unset, .unset, .unset, .unset, .unset, .unset, .unset, .unset] [(.long q0)])) rfl (hb hby at_7) _ ?_
      show Steps p.tables e below (T0.setTop (mkF m 10 #[.val (.long q0), .second, .val (.int p1), .val (.int p2), .unset, .unset, .unset, .unset, .unset, .unset, .unset, .unset, .unset] [(.long (-9223372036854775808 : Int64)), (.long q0)])) _
      refine XS.lor X0.here hx rfl (hb hby at_10) rfl ?_
      show Steps p.tables e below (T0.setTop (mkF m 11 #[.val (.long q0), .second, .val (.int p1), .val (.int p2), .unset, .unset, .unset, .unset, .unset, .unset, .unset, .unset, .unset] [(.long (q0 ||| (-9223372036854775808 : Int64)))])) _
      refine XS.lstore X0.here hx rfl (hb hby at_11) rfl (l' := #[.val (.long q0), .second, .val (.int p1), .val (.int p2), .val (.long (q0 ||| (-9223372036854775808 : Int64))), .second, .unset, .unset, .unset, .unset, .unset, .unset, .unset]) rfl ?_
      show Steps p.tables e below (T0.setTop (mkF m 13 #[.val (.long q0), .second, .val (.int p1), .val (.int p2), .val (.long (q0 ||| (-9223372036854775808 : Int64))), .second, .unset, .unset, .unset, .unset, .unset, .unset, .unset] [])) _
      refine XS.lload X0.here hx rfl (hb hby at_13) rfl ?_
      exact kt
    obtain ⟨_, _, ⟨T9, L9, k9, n9⟩, -, X9, ⟨Lc9, hQ9, l9, y9, z9⟩, st9⟩ := Jvm.LawKit.callS X0 hx (y := (⟨"com/example/nearsame/nearsame/BlockFile", "content", "(J)J"⟩ : MethodName)) hown (mvT hZ (hw _ (List.mem_of_getElem? (i := 1) rfl))) (mvT hZ (hw _ (List.mem_of_getElem? (i := 2) rfl))) (mvT hZ (hw _ (List.mem_of_getElem? (i := 3) rfl))) (mvT hZ (hw _ (List.mem_of_getElem? (i := 4) rfl))) (by decide) (backOf (W := 0) (rm1 l Z a0 hw [] (q0 ||| (-9223372036854775808 : Int64))  h0 n0 ) hZ (hw _ (List.mem_of_getElem? (i := 4) rfl)) (hw _ (List.mem_of_getElem? (i := 3) rfl)) (by decide) (by decide)) (g := (mkF m 15 #[.val (.long q0), .second, .val (.int p1), .val (.int p2), .val (.long (q0 ||| (-9223372036854775808 : Int64))), .second, .unset, .unset, .unset, .unset, .unset, .unset, .unset] [(.long (q0 ||| (-9223372036854775808 : Int64)))])) rfl (by rw [hml]; rfl) (argsL := [(.long (q0 ||| (-9223372036854775808 : Int64)))]) (rest := []) (lenOf pd1 rfl) rfl (by show 2 * 0 + _ ≤ _; exact Nat.le_of_eq rfl) (hb hby at_15) (fun _ _ => ⟨rfl, e0, (by decide : 0 + 0 ≤ _), (by decide : 0 + 0 ≤ _)⟩)
    dsimp only [Pt.U, Pt.locs, Pt.cells, Pt.slots] at X9 l9 y9 z9 st9 hQ9
    subst l9 y9 z9
    obtain ⟨rfl, Nq9, e9⟩ := hQ9
    have N9 := Fr.app N0 Nq9
    refine own_step (T' := T9) (f' := (mkF m 18 #[.val (.long q0), .second, .val (.int p1), .val (.int p2), .val (.long (q0 ||| (-9223372036854775808 : Int64))), .second, .unset, .unset, .unset, .unset, .unset, .unset, .unset] [(.long (f1_0 (q0 ||| (-9223372036854775808 : Int64))))])) st9 ?_
    refine own_step (T' := T9) (f' := (mkF m 22 #[.val (.long q0), .second, .val (.int p1), .val (.int p2), .val (.long (q0 ||| (-9223372036854775808 : Int64))), .second, .unset, .unset, .unset, .unset, .unset, .unset, .unset] [(.int (lcmpW (f1_0 (q0 ||| (-9223372036854775808 : Int64))) (-1 : Int64)))])) (fun t kt => ?_) ?_
    · show Steps p.tables e below (T9.setTop (mkF m 18 #[.val (.long q0), .second, .val (.int p1), .val (.int p2), .val (.long (q0 ||| (-9223372036854775808 : Int64))), .second, .unset, .unset, .unset, .unset, .unset, .unset, .unset] [(.long (f1_0 (q0 ||| (-9223372036854775808 : Int64))))])) _
      refine X9.ldc2Long hx hown (mvT hZ (hw _ (List.mem_of_getElem? (i := 7) rfl))) (g := (mkF m 18 #[.val (.long q0), .second, .val (.int p1), .val (.int p2), .val (.long (q0 ||| (-9223372036854775808 : Int64))), .second, .unset, .unset, .unset, .unset, .unset, .unset, .unset] [(.long (f1_0 (q0 ||| (-9223372036854775808 : Int64))))])) rfl (hb hby at_18) _ ?_
      show Steps p.tables e below (T9.setTop (mkF m 21 #[.val (.long q0), .second, .val (.int p1), .val (.int p2), .val (.long (q0 ||| (-9223372036854775808 : Int64))), .second, .unset, .unset, .unset, .unset, .unset, .unset, .unset] [(.long (-1 : Int64)), (.long (f1_0 (q0 ||| (-9223372036854775808 : Int64))))])) _
      refine XS.lcmp X9.here hx rfl (hb hby at_21) rfl ?_
      exact kt
    by_cases hc22_10 : (f1_0 (q0 ||| (-9223372036854775808 : Int64))) = (-1 : Int64)
    · rw [if_pos hc22_10] at hr
      refine own_step (T' := T9) (f' := (mkF m 25 #[.val (.long q0), .second, .val (.int p1), .val (.int p2), .val (.long (q0 ||| (-9223372036854775808 : Int64))), .second, .unset, .unset, .unset, .unset, .unset, .unset, .unset] [])) (fun t kt => ?_) ?_
      · show Steps p.tables e below (T9.setTop (mkF m 22 #[.val (.long q0), .second, .val (.int p1), .val (.int p2), .val (.long (q0 ||| (-9223372036854775808 : Int64))), .second, .unset, .unset, .unset, .unset, .unset, .unset, .unset] [(.int (lcmpW (f1_0 (q0 ||| (-9223372036854775808 : Int64))) (-1 : Int64)))])) _
        refine XS.ifNo X9.here hx rfl (hb hby at_22) rfl ((if0 _ _).trans (teq ((lw_eq _ _).mpr hc22_10)).2) kt
      refine own_step (T' := T9) (f' := (mkF m 30 #[.val (.long q0), .second, .val (.int p1), .val (.int p2), .val (.long (q0 ||| (-9223372036854775808 : Int64))), .second, .unset, .unset, .unset, .unset, .unset, .unset, .unset] [(.int (1 : Int32))])) (fun t kt => ?_) ?_
      · show Steps p.tables e below (T9.setTop (mkF m 25 #[.val (.long q0), .second, .val (.int p1), .val (.int p2), .val (.long (q0 ||| (-9223372036854775808 : Int64))), .second, .unset, .unset, .unset, .unset, .unset, .unset, .unset] [])) _
        refine XS.iconst X9.here hx rfl (hb hby at_25) ?_
        show Steps p.tables e below (T9.setTop (mkF m 26 #[.val (.long q0), .second, .val (.int p1), .val (.int p2), .val (.long (q0 ||| (-9223372036854775808 : Int64))), .second, .unset, .unset, .unset, .unset, .unset, .unset, .unset] [(.int (1 : Int32))])) _
        refine XS.goto X9.here hx rfl (pc0 := 26) (pc' := 30) rfl (hb hby at_26) (by decide) (by decide) ?_
        exact kt
      exact own_retZ X9 hx hret (by simp) hlk (hb hby at_30) (Nat.le_refl _) (Nat.le_refl _) ⟨congrArg (fun z => some (Value.int z)) hr.symm, N9, e9⟩
    · rw [if_neg hc22_10] at hr
      refine own_step (T' := T9) (f' := (mkF m 29 #[.val (.long q0), .second, .val (.int p1), .val (.int p2), .val (.long (q0 ||| (-9223372036854775808 : Int64))), .second, .unset, .unset, .unset, .unset, .unset, .unset, .unset] [])) (fun t kt => ?_) ?_
      · show Steps p.tables e below (T9.setTop (mkF m 22 #[.val (.long q0), .second, .val (.int p1), .val (.int p2), .val (.long (q0 ||| (-9223372036854775808 : Int64))), .second, .unset, .unset, .unset, .unset, .unset, .unset, .unset] [(.int (lcmpW (f1_0 (q0 ||| (-9223372036854775808 : Int64))) (-1 : Int64)))])) _
        refine XS.ifYes X9.here hx rfl (pc0 := 22) (pc' := 29) rfl (hb hby at_22) rfl ((if0 _ _).trans (feq (mt (lw_eq _ _).mp hc22_10)).2) (by decide) (by decide) kt
      refine own_step (T' := T9) (f' := (mkF m 30 #[.val (.long q0), .second, .val (.int p1), .val (.int p2), .val (.long (q0 ||| (-9223372036854775808 : Int64))), .second, .unset, .unset, .unset, .unset, .unset, .unset, .unset] [(.int (0 : Int32))])) (fun t kt => ?_) ?_
      · show Steps p.tables e below (T9.setTop (mkF m 29 #[.val (.long q0), .second, .val (.int p1), .val (.int p2), .val (.long (q0 ||| (-9223372036854775808 : Int64))), .second, .unset, .unset, .unset, .unset, .unset, .unset, .unset] [])) _
        refine XS.iconst X9.here hx rfl (hb hby at_29) ?_
        exact kt
      exact own_retZ X9 hx hret (by simp) hlk (hb hby at_30) (Nat.le_refl _) (Nat.le_refl _) ⟨congrArg (fun z => some (Value.int z)) hr.symm, N9, e9⟩
set_option maxRecDepth 65536 in
set_option maxHeartbeats 4000000 in
theorem rm0 (l : Launch) (Z : State) (a0 : Array Value) (hw : ∀ d ∈ tables_1, d.before a0 Z = true) (ws : List Jvm.Cond) (q0 : Int64) (p1 : Int32) (p2 : Int32) (h0 : Heap) (n0 : Nat) :
    MetFree l x (head1 (Jvm.Cond.code x code maxLocals ret :: ws) room_1) (fun a U => a = #[(.long q0), (.int p1), (.int p2)] ∧ Z.Warmed39 U.vm ∧ U.heap = h0) (fun _ _ _ _ _ => True) (fun _ U o U' => ∃ v L, o = .returned v ∧ (own_P (.int (f0_0 q0 p1 p2)) h0 n0) v U'.heap L ∧ FrameEnd U o U' L 0 0) := by
  refine MetFree.of_bodySF (plainFor_of_name pn0) hisR ?_
  intro p e s m args below meth c s₁ Bd hml0 hP hK
  obtain ⟨rfl, hZ, hh⟩ := hP
  have hown : s.vm.findClass "com/example/nearsame/nearsame/BlockFileContentPinLaw" = some m.cls := findClass_of_methodNamed Bd.named
  have X0 : Stand p l e room_1 s m #[(.long q0), (.int p1), (.int p2)] below meth c s₁ [] 0 0 := Stand.of_body Bd
  have e0 : s₁.heap = h0 := by rw [← hh, Bd.state]; rfl
  show own_Ends p e below s 0 0 (own_P (.int (f0_0 q0 p1 p2)) h0 n0) s₁ (entryFrame m #[(.long q0), (.int p1), (.int p2)] maxLocals)
  refine own_step (fun t k => castTop (ef0 m q0 p1 p2) k) ?_
  exact b0_0 q0 p1 p2 X0 Bd.exec hZ hw Bd.bytes hml0 hown Bd.returns (BodyLoose.notSynchronized Bd) e0 (Fr.nil n0) rfl
theorem own_lt64 (a b : Int64) : a < b ↔ a.toInt < b.toInt := Int64.lt_iff_toInt_lt
theorem own_c (x : Int64) (h : 0 ≤ x.toInt) : (f1_0 x).toInt = if 0 < x.toInt % 4096 ∧ x.toInt % 4096 ≤ 4 then -1 else x.toInt / 4096 * 4092 + (if x.toInt % 4096 = 0 then 0 else x.toInt % 4096 - 4) := by
  have u := Int64.toInt_lt x
  have r1 := (c_lrem x 4096 4096 rfl).1 h
  have d1 := (c_ldiv x 4096 4096 rfl (by decide)).1 h
  have z0 : (0 : Int64).toInt = 0 := rfl
  have z4 : (4 : Int64).toInt = 4 := rfl
  have m1 := c_lmul (x / 4096) 4092
  have z5 : (4092 : Int64).toInt = 4092 := rfl
  rw [z5, d1] at m1
  have m1l := Int64.le_toInt (x / 4096 * 4092)
  have m1u := Int64.toInt_lt (x / 4096 * 4092)
  have m2 : (x / 4096 * 4092).toInt = x.toInt / 4096 * 4092 := by omega
  unfold f1_0 f1_26
  rw [if_neg (by rw [own_lt64, z0]; omega)]
  have a1 := c_ladd (x / 4096 * 4092) 0
  have a1l := Int64.le_toInt (x / 4096 * 4092 + 0)
  have a1u := Int64.toInt_lt (x / 4096 * 4092 + 0)
  have s1 := c_lsub (x - x / 4096 * 4096) 4
  have s1l := Int64.le_toInt (x - x / 4096 * 4096 - 4)
  have s1u := Int64.toInt_lt (x - x / 4096 * 4096 - 4)
  have a2 := c_ladd (x / 4096 * 4092) (x - x / 4096 * 4096 - 4)
  have a2l := Int64.le_toInt (x / 4096 * 4092 + (x - x / 4096 * 4096 - 4))
  have a2u := Int64.toInt_lt (x / 4096 * 4092 + (x - x / 4096 * 4096 - 4))
  by_cases h1 : (0 : Int64) < (x - x / (4096 : Int64) * (4096 : Int64))
  · rw [if_pos h1]
    rw [own_lt64, z0, r1] at h1
    by_cases h2 : (4 : Int64) < (x - x / (4096 : Int64) * (4096 : Int64))
    · rw [if_pos h2]
      rw [own_lt64, z4, r1] at h2
      rw [if_neg (by omega)]
      unfold f1_30 f1_54
      rw [if_neg (by intro q; rw [← Int64.toInt_inj, r1, z0] at q; omega), if_neg (by omega)]
      omega
    · rw [if_neg h2]
      rw [own_lt64, z4, r1] at h2
      rw [if_pos (by omega)]
      rfl
  · rw [if_neg h1]
    rw [own_lt64, z0, r1] at h1
    rw [if_neg (by omega)]
    unfold f1_30 f1_54
    rw [if_pos (by rw [← Int64.toInt_inj, r1, z0]; omega), if_pos (by omega)]
    omega
theorem own_l (x : Int64) (h : 0 ≤ x.toInt) (hb : x.toInt / 4092 * 4096 + 4096 ≤ 9223372036854775808) : (f2_0 x).toInt = x.toInt / 4092 * 4096 + (if x.toInt % 4092 = 0 then 0 else x.toInt % 4092 + 4) := by
  have u := Int64.toInt_lt x
  have r1 := (c_lrem x 4092 4092 rfl).1 h
  have d1 := (c_ldiv x 4092 4092 rfl (by decide)).1 h
  have z0 : (0 : Int64).toInt = 0 := rfl
  have z4 : (4 : Int64).toInt = 4 := rfl
  have m1 := c_lmul (x / 4092) 4096
  have z5 : (4096 : Int64).toInt = 4096 := rfl
  rw [z5, d1] at m1
  have m1l := Int64.le_toInt (x / 4092 * 4096)
  have m1u := Int64.toInt_lt (x / 4092 * 4096)
  have m2 : (x / 4092 * 4096).toInt = x.toInt / 4092 * 4096 := by omega
  unfold f2_0 f2_30
  have a1 := c_ladd (x / 4092 * 4096) 0
  have a1l := Int64.le_toInt (x / 4092 * 4096 + 0)
  have a1u := Int64.toInt_lt (x / 4092 * 4096 + 0)
  have s1 := c_ladd (x - x / 4092 * 4092) 4
  have s1l := Int64.le_toInt (x - x / 4092 * 4092 + 4)
  have s1u := Int64.toInt_lt (x - x / 4092 * 4092 + 4)
  have a2 := c_ladd (x / 4092 * 4096) (x - x / 4092 * 4092 + 4)
  have a2l := Int64.le_toInt (x / 4092 * 4096 + (x - x / 4092 * 4092 + 4))
  have a2u := Int64.toInt_lt (x / 4092 * 4096 + (x - x / 4092 * 4092 + 4))
  by_cases h1 : (x - x / (4092 : Int64) * (4092 : Int64)) = 0
  · rw [if_pos h1]
    rw [← Int64.toInt_inj, r1, z0] at h1
    rw [if_pos (by omega)]
    omega
  · rw [if_neg h1]
    rw [← Int64.toInt_inj, r1, z0] at h1
    rw [if_neg (by omega)]
    omega
theorem own_101 (len e : Int64) (q r : Int) (hq : 0 ≤ q) (hq2 : q < 2251799813685248) (hr0 : 0 ≤ r) (hr1 : r < 4096) (hl : len.toInt = q * 4096 + r) (he : e.toInt = if r = 0 then q * 4092 else if r ≤ 4 then -1 else q * 4092 + (r - 4)) : f0_101 len e = 1 := by
  have hc := own_c len (by omega)
  have e1 : len.toInt % 4096 = r := by omega
  have e2 : len.toInt / 4096 = q := by omega
  rw [e1, e2] at hc
  have z0 : (0 : Int64).toInt = 0 := rfl
  have same : f1_0 len = e := by
    apply Int64.toInt_inj.mp
    rw [hc, he]
    split <;> split <;> (try split) <;> omega
  unfold f0_101
  rw [same, if_pos rfl]
  by_cases h1 : e < 0
  · rw [if_pos h1]
  · rw [if_neg h1]
    rw [own_lt64, z0] at h1
    have he' : e.toInt = q * 4092 + (if r = 0 then 0 else r - 4) ∧ ¬ (0 < r ∧ r ≤ 4) := by
      rw [he] at h1 ⊢
      split at h1 <;> split <;> simp_all <;> omega
    have w1 : e.toInt / 4092 = q := by obtain ⟨w, w'⟩ := he'; split at w <;> omega
    have w2 : e.toInt % 4092 = if r = 0 then 0 else r - 4 := by obtain ⟨w, w'⟩ := he'; split at w <;> split <;> omega
    have hL := own_l e (by omega) (by rw [w1]; omega)
    rw [w1, w2] at hL
    rw [if_pos]
    apply Int64.toInt_inj.mp
    rw [hL, hl]
    obtain ⟨-, w'⟩ := he'
    split <;> split at * <;> omega
theorem law_true (q0 : Int64) (p1 p2 : Int32) : f0_0 q0 p1 p2 = 1 := by
  unfold f0_0
  by_cases hp : (p2 &&& (1 : Int32)) = (0 : Int32)
  · rw [if_pos hp]
    have hq : (q0 &&& (2251799813685247 : Int64)).toInt = q0.toInt % (2 ^ 51 : Nat) := c_maskL q0 _ 51 (by decide) (by decide)
    have hr : (p1 &&& (4095 : Int32)).toInt = p1.toInt % (2 ^ 12 : Nat) := c_mask p1 _ 12 (by decide) (by decide)
    generalize (q0 &&& (2251799813685247 : Int64)) = Q at *
    generalize (p1 &&& (4095 : Int32)) = R at *
    have q1 : 0 ≤ Q.toInt := by omega
    have q2 : Q.toInt < 2251799813685248 := by omega
    have r1 : 0 ≤ R.toInt := by omega
    have r2 : R.toInt < 4096 := by omega
    have z1 : (4096 : Int64).toInt = 4096 := rfl
    have z2 : (4092 : Int64).toInt = 4092 := rfl
    have z4 : (4 : Int32).toInt = 4 := rfl
    have z0 : (0 : Int32).toInt = 0 := rfl
    have zm : (-1 : Int64).toInt = -1 := rfl
    have m1 := c_lmul Q 4096
    have m1l := Int64.le_toInt (Q * 4096)
    have m1u := Int64.toInt_lt (Q * 4096)
    have m2 := c_lmul Q 4092
    have m2l := Int64.le_toInt (Q * 4092)
    have m2u := Int64.toInt_lt (Q * 4092)
    rw [z1] at m1; rw [z2] at m2
    have i1 := c_i2l R
    have a1 := c_ladd (Q * 4096) R.toInt64
    have a1l := Int64.le_toInt (Q * 4096 + R.toInt64)
    have a1u := Int64.toInt_lt (Q * 4096 + R.toInt64)
    have b1 := c_isub R 4
    have b1l := Int32.le_toInt (R - 4)
    have b1u := Int32.toInt_lt (R - 4)
    have i2 := c_i2l (R - 4)
    have a2 := c_ladd (Q * 4092) (R - 4).toInt64
    have a2l := Int64.le_toInt (Q * 4092 + (R - 4).toInt64)
    have a2u := Int64.toInt_lt (Q * 4092 + (R - 4).toInt64)
    have hlen : (Q * 4096 + R.toInt64).toInt = Q.toInt * 4096 + R.toInt := by omega
    by_cases hR : R = 0
    · rw [if_pos hR]
      have hR' : R.toInt = 0 := by rw [hR]; rfl
      refine own_101 _ _ Q.toInt R.toInt q1 q2 r1 r2 hlen ?_
      rw [if_pos hR']; omega
    · rw [if_neg hR]
      have hR' : ¬ R.toInt = 0 := fun z => hR (Int32.toInt_inj.mp z)
      by_cases h4 : (4 : Int32) < R
      · rw [if_pos h4]
        rw [Int32.lt_iff_toInt_lt, z4] at h4
        refine own_101 _ _ Q.toInt R.toInt q1 q2 r1 r2 hlen ?_
        rw [if_neg hR', if_neg (by omega)]; omega
      · rw [if_neg h4]
        rw [Int32.lt_iff_toInt_lt, z4] at h4
        refine own_101 _ _ Q.toInt R.toInt q1 q2 r1 r2 hlen ?_
        rw [if_neg hR', if_pos (by omega)]; rfl
  · rw [if_neg hp]
    have hn := (c_orSL q0 (-9223372036854775808)).2.2 (by decide)
    rw [if_pos]
    unfold f1_0 f1_26
    rw [if_pos]
    rw [own_lt64]; exact hn

set_option maxRecDepth 65536 in
set_option maxHeartbeats 4000000 in
theorem comes_1 {Post : Tables → Env → Array Value → State → Outcome → State → Prop} (hpost : ∀ tb e args s v u, (limb_1_1.after args s (.returned v) u = true ∧ limb_1_2.after args s (.returned v) u = true ∧ True) → FrameEnd s (.returned v) u (Jvm.fieldLocs frame_1_writes args s ++ Jvm.arrayLocs frame_1_arrays args s ++ Jvm.staticLocs frame_1_statics s) 0 0 → Post tb e args s (.returned v) u) :
    ArmFor flags0 classFile x code maxLocals ret World_1 tables_1 room_1 Calls_1 rest_1 Pre_1 Post := by
  intro l hfl _ _ p e ha hc hk s m args below hf hA hF happ hP
  obtain ⟨hcalls, hrest, hpre⟩ := hP
  obtain ⟨-, -, -, hnamed, -, -, -, hat⟩ := (Spec.applies_iff hf).mp happ
  obtain ⟨hg, hn⟩ := and_e (Cond.before_iff.mp (show (Jvm.Cond.and given_1 narrow_1).before args s = true from hpre))
  obtain ⟨g1, g2⟩ := and_e hg
  obtain ⟨ga0, gb0⟩ := and_e g2
  obtain ⟨ga1, gb1⟩ := and_e gb0
  obtain ⟨w0, w1, w2, rfl⟩ : ∃ w0 w1 w2 : Value, args = #[w0, w1, w2] := by
    have hs : args.size = 3 := by simpa [Cond.value, given_1] using g1
    obtain ⟨L⟩ := args
    match L, hs with
    | [w0, w1, w2], _ => exact ⟨w0, w1, w2, rfl⟩
  have hw := fun d (hd : d ∈ tables_1) => atoms_spec (ws := Jvm.Cond.code x code maxLocals ret :: tables_1) hat d (List.mem_cons_of_mem _ hd)
  obtain ⟨i0, ei0⟩ := isL_v ga0
  obtain rfl : w0 = (.long i0) := Option.some.inj ei0
  obtain ⟨i1, ei1⟩ := is_v ga1
  obtain rfl : w1 = (.int i1) := Option.some.inj ei1
  obtain ⟨i2, ei2⟩ := is_v gb1
  obtain rfl : w2 = (.int i2) := Option.some.inj ei2
  obtain ⟨n, o, h1, h2, h3, _, L, rfl, ⟨rfl, N, -⟩, hq⟩ := rm0 l s _ hw tables_1 i0 i1 i2 s.heap s.heap.size p e ha hc hk s m _ below hf ((Spec.applies_iff_loose hf).mp happ).1 ⟨rfl, State.Warmed39.refl s, rfl⟩ trivial
  rw [law_true] at *
  refine ⟨n, _, h1, h2, h3, hpost _ _ _ _ _ _ ⟨Cond.after_iff.mpr rfl, Cond.after_iff.mpr (eq_i res_at (Term.int_eval (1)) rfl), trivial⟩ ⟨hq.1, hq.2.1, (hq.2.2.sift fun y hy => Or.inr (N y hy)).mono (by decide) (by decide)⟩⟩
theorem main_1_1 : Claimed_1_1 := comes_1 fun _ _ _ _ _ _ h hF => ⟨h.1, hF⟩
theorem main_1_2 : Claimed_1_2 := comes_1 fun _ _ _ _ _ _ h hF => ⟨h.2.1, hF⟩
end Jvm.Pilot.@@N@@
namespace Jvm.Pilot.@@N@@
open Jvm Jvm.ClassFile Sem Op Lib Jvm.Free Jvm.Stand Jvm.Pilot.@@N@@.Jvm.D
/-! MADE BY PROGRAM (witnessworld.py) out of the Statement's table words and the real class files: 9 classes; the members and pool entries that the words name. The judged class is class 1, her method 1. -/
namespace start1
open Jvm.ClassFile
def u (s : String) : CpInfo := .utf8 (stringToUtf16 s)
/-- a pool by its gaps: so many unusable entries, then the entry; so many at the end -/
def gap : Nat → List CpInfo → List CpInfo
  | 0, r => r
  | n + 1, r => .unusable :: gap n r
def poolList (es : List (Nat × CpInfo)) (last : Nat) : List CpInfo := es.foldr (fun e r => gap e.1 (e.2 :: r)) (gap last [])
def pool (es : List (Nat × CpInfo)) (last : Nat) : Array CpInfo := ⟨poolList es last⟩
def fileOf (pool : Array CpInfo) (this : Nat) (attrs : Array Attribute := #[]) (ms : Array MethodInfo := #[]) (fl : Nat := 33) (sup : Nat := 0) (ifs : Array Nat := #[]) (fds : Array FieldInfo := #[]) : ClassFile where
  minorVersion := 0
  majorVersion := 65
  constantPool := pool
  accessFlags := fl
  thisClass := this
  superClass := sup
  interfaces := ifs
  fields := fds
  methods := ms
  attributes := attrs
def plain (name : String) (sup : Option ClassId) : Class where
  name := name
  kind := .ordinary
  loader := none
  accessFlags := 33
  super := sup
  interfaces := #[]
  cf := none
  fields := #[]
  methods := #[]
  instanceTypes := #[]
  staticTypes := #[]
  resolved := #[]
  callSites := []
  init := .initialized
  statics := none
  mirror := none

def pool0 : Array CpInfo := pool [(5, u "<init>"), (0, u "()V"), (1, .class_ 10), (1, u "java/lang/Object")] 113

def k0m0 : Method := { name := "<init>", desc := "()V", sig := { parameters := [], returnType := none }, accessFlags := 1, code := none }
/-- java/lang/Object -/
def k0 : Class := { plain "java/lang/Object" none with
  accessFlags := 33
  interfaces := #[]
  cf := some (fileOf pool0 8 #[] #[{ accessFlags := 1, nameIndex := 5, descriptorIndex := 6, attributes := #[] }] 33 0 #[] #[])
  fields := #[]
  methods := #[k0m0]
  instanceTypes := #[]
  staticTypes := #[]
  resolved := Array.replicate 124 none
  statics := none }

def pool1 : Array CpInfo := pool [(2, .class_ 4), (1, u "java/lang/Object"), (0, u "<init>"), (0, u "()V"), (2, .long 9223372036854775808), (1, .methodref 12 13), (0, .class_ 14), (0, .nameAndType 15 16), (0, u "com/example/nearsame/nearsame/BlockFile"), (0, u "content"), (0, u "(J)J"), (0, .long 18446744073709551615), (1, .long 2251799813685247), (1, .long 4096), (1, .long 4092), (1, .methodref 12 26), (0, .nameAndType 27 16), (0, u "length"), (0, .class_ 29), (0, u "com/example/nearsame/nearsame/BlockFileContentPinLaw"), (2, u "law"), (0, u "(JII)Z")] 3

def k1m0 : Method := { name := "<init>", desc := "()V", sig := { parameters := [], returnType := none }, accessFlags := 1, code := none }
def k1c1 : Code := { maxStack := 4, maxLocals := 13, code := code, exceptionTable := #[], attributes := #[] }
def k1m1 : Method := { name := "law", desc := "(JII)Z", sig := { parameters := [.long, .int, .int], returnType := some .boolean }, accessFlags := 9, code := some k1c1 }
/-- com/example/nearsame/nearsame/BlockFileContentPinLaw -/
def k1 : Class := { plain "com/example/nearsame/nearsame/BlockFileContentPinLaw" (some 0) with
  accessFlags := 49
  interfaces := #[]
  cf := some (fileOf pool1 28 #[] #[{ accessFlags := 1, nameIndex := 5, descriptorIndex := 6, attributes := #[] }, { accessFlags := 9, nameIndex := 32, descriptorIndex := 33, attributes := #[] }] 49 2 #[] #[])
  fields := #[]
  methods := #[k1m0, k1m1]
  instanceTypes := #[]
  staticTypes := #[]
  resolved := Array.replicate 37 none
  statics := none }

def pool2 : Array CpInfo := pool [(1, .class_ 2), (0, u "com/example/nearsame/nearsame/BlockFile"), (3, .class_ 8), (1, u "java/lang/Object"), (0, u "<init>"), (0, u "()V"), (0, .long 4092), (1, .long 4096), (1, .long 4), (1, .long 18446744073709551615), (12, u "content"), (0, u "(J)J"), (103, u "BLOCK"), (0, u "I"), (2, u "CONTENT"), (1, u "BLOCKS_AT_ONCE"), (3, u "length"), (13, .class_ 160), (0, u "com/example/nearsame/nearsame/BlockFile$Input"), (0, .class_ 162), (0, u "com/example/nearsame/nearsame/BlockFile$Output")] 19

def k2m0 : Method := { name := "<init>", desc := "()V", sig := { parameters := [], returnType := none }, accessFlags := 2, code := none }
def k2c1 : Code := { maxStack := 6, maxLocals := 4, code := prog_12_method_2_code, exceptionTable := #[], attributes := #[] }
def k2m1 : Method := { name := "length", desc := "(J)J", sig := { parameters := [.long], returnType := some .long }, accessFlags := 8, code := some k2c1 }
def k2c2 : Code := { maxStack := 6, maxLocals := 4, code := prog_12_method_3_code, exceptionTable := #[], attributes := #[] }
def k2m2 : Method := { name := "content", desc := "(J)J", sig := { parameters := [.long], returnType := some .long }, accessFlags := 8, code := some k2c2 }
/-- com/example/nearsame/nearsame/BlockFile -/
def k2 : Class := { plain "com/example/nearsame/nearsame/BlockFile" (some 0) with
  accessFlags := 48
  interfaces := #[]
  cf := some (fileOf pool2 1 #[.nestMembers #[159, 161]] #[{ accessFlags := 2, nameIndex := 9, descriptorIndex := 10, attributes := #[] }, { accessFlags := 8, nameIndex := 145, descriptorIndex := 31, attributes := #[] }, { accessFlags := 8, nameIndex := 30, descriptorIndex := 31, attributes := #[] }] 48 6 #[] #[{ accessFlags := 24, nameIndex := 135, descriptorIndex := 136, attributes := #[] }, { accessFlags := 24, nameIndex := 139, descriptorIndex := 136, attributes := #[] }, { accessFlags := 26, nameIndex := 141, descriptorIndex := 136, attributes := #[] }])
  fields := #[{ name := "BLOCK", type := .int, accessFlags := 24, slot := 0, constantValue := 0 }, { name := "CONTENT", type := .int, accessFlags := 24, slot := 1, constantValue := 0 }, { name := "BLOCKS_AT_ONCE", type := .int, accessFlags := 26, slot := 2, constantValue := 0 }]
  methods := #[k2m0, k2m1, k2m2]
  instanceTypes := #[]
  staticTypes := #[.int, .int, .int]
  resolved := Array.replicate 182 none
  statics := none }

def pool3 : Array CpInfo := pool [(1, u "java/lang/Cloneable"), (0, .class_ 1), (0, u "java/lang/Object"), (0, .class_ 3)] 3

/-- java/lang/Cloneable -/
def k3 : Class := { plain "java/lang/Cloneable" (some 0) with
  accessFlags := 1537
  interfaces := #[]
  cf := some (fileOf pool3 2 #[] #[] 1537 4 #[] #[])
  fields := #[]
  methods := #[]
  instanceTypes := #[]
  staticTypes := #[]
  resolved := Array.replicate 8 none
  statics := none }

def pool4 : Array CpInfo := pool [(1, u "java/io/Serializable"), (0, .class_ 1), (0, u "java/lang/Object"), (0, .class_ 3)] 3

/-- java/io/Serializable -/
def k4 : Class := { plain "java/io/Serializable" (some 0) with
  accessFlags := 1537
  interfaces := #[]
  cf := some (fileOf pool4 2 #[] #[] 1537 4 #[] #[])
  fields := #[]
  methods := #[]
  instanceTypes := #[]
  staticTypes := #[]
  resolved := Array.replicate 8 none
  statics := none }

/-- the primitive byte -/
def k5 : Class := { plain "byte" none with kind := .primitive 'B', accessFlags := 0x411 }
/-- [B -/
def k6 : Class := { plain "[B" (some 0) with kind := .array 5 .byte, interfaces := #[3, 4], accessFlags := 1041 }

/-- the primitive int -/
def k7 : Class := { plain "int" none with kind := .primitive 'I', accessFlags := 0x411 }
/-- [I -/
def k8 : Class := { plain "[I" (some 0) with kind := .array 7 .int, interfaces := #[3, 4], accessFlags := 1041 }

def heap : Heap := #[]
def classes : Array Class := #[k0, k1, k2, k3, k4, k5, k6, k7, k8]
def interned : List (Array UInt16 × Addr) := []
def slotsUsed : Nat := 0
def theMethod : MethodId := ⟨1, 1⟩
def args0 : Array Value := #[.long 5, .int 7, .int 0]
def aboutOver (below : List Frame) : State where
  vm := { classes := classes, interned := interned.toArray }
  heap := heap
  slotsUsed := slotsUsed
  threads := #[{ frames := .invoking theMethod args0 :: below }]
def below0 : List Frame := [.native { method := ⟨0, 0⟩, args := #[] }]
def about1 : State := aboutOver below0
def p0 : Program := .bare "" "" ""
def e0 : Env := launch0.env 0 0 0
theorem w_frames : about1.frames = Frame.invoking theMethod args0 :: below0 := rfl
set_option maxRecDepth 65536 in
theorem w_args : argsFit about1.vm theMethod args0 = true := by decide +kernel
set_option maxRecDepth 65536 in
theorem w_heap : heapFits about1 = true := by decide +kernel
set_option maxRecDepth 65536 in
theorem w_runnable : about1.curStatus? = some .runnable := by decide +kernel
set_option maxRecDepth 65536 in
theorem w_alone : about1.alone = true := by decide +kernel
set_option maxRecDepth 65536 in
theorem w_named : about1.methodNamed? x = some theMethod := by decide +kernel
set_option maxRecDepth 65536 in
theorem w_hears : about1.hears theMethod below0 = true := by decide +kernel
set_option maxRecDepth 65536 in
theorem w_ripe : about1.ripe theMethod args0 below0 = true := by decide +kernel
theorem w_running : about1.status = .running := rfl
set_option maxRecDepth 65536 in
theorem w_room : about1.hasRoom e0.platform room_1 = true :=
  launch0.hasRoom_least _ room_1 (by decide +kernel) (by decide +kernel) (by decide +kernel) (by decide +kernel) (by decide +kernel) (by decide +kernel)
theorem allAtoms_all (ts : List Jvm.Cond) (a : Array Jvm.Value) (st : Jvm.State) : (allAtoms ts).before a st = ts.all (fun c => c.before a st) := by
  induction ts with
  | nil => rfl
  | cons c t ih =>
    show (Jvm.Cond.and c (allAtoms t)).before a st = _
    rw [Jvm.Cond.before_and, ih, List.all_cons]
def words1 : List Jvm.Cond := Jvm.Cond.code x code maxLocals ret :: tables_1
/-- a 'code' word, met by the world's own term for the bytes: nothing is compared byte by byte -/
theorem code_word {y : MethodName} {bytes : ByteArray} {mx : Nat} {rt : Option FieldType} {a : Array Value} {s : State} {m : MethodId} {meth : Method} {c : Code} (h1 : s.methodNamed? y = some m) (h2 : s.vm.method? m = some meth) (h3 : meth.code = some c) (h4 : c.code = bytes)
    (h5 : (c.maxLocals == mx && c.exceptionTable.isEmpty && decide (c.maxStack ≤ mostOperands) && decide (meth.sig.returnType = rt) && !meth.locks && decide (parseMethodDescriptor y.desc = some meth.sig)) = true) : (Jvm.Cond.code y bytes mx rt).before a s = true := by
  simp only [Bool.and_eq_true, beq_iff_eq, Bool.not_eq_true', decide_eq_true_eq] at h5
  obtain ⟨⟨⟨⟨⟨g1, g2⟩, g3⟩, g4⟩, g5⟩, g6⟩ := h5
  simp [Cond.before, Cond.holds, Cond.value, h1, h2, h3, h4, g1, g2, g3, g4, g5, g6]
def isCode : Jvm.Cond → Bool
  | .code _ _ _ _ => true
  | _ => false
theorem all_split {L : List Jvm.Cond} {P : Jvm.Cond → Bool} (h1 : L.all (fun c => isCode c || P c) = true) (h2 : ∀ c ∈ L.filter isCode, P c = true) : L.all P = true := by
  refine List.all_eq_true.mpr fun c hc => ?_
  have h := List.all_eq_true.mp h1 c hc
  rcases Bool.eq_false_or_eq_true (isCode c) with hi | hi
  · exact h2 c (List.mem_filter.mpr ⟨hc, hi⟩)
  · simpa [hi] using h
set_option maxRecDepth 65536 in
theorem w_c0 : (Jvm.Cond.code x code maxLocals ret).before args0 about1 = true := code_word (m := ⟨1, 1⟩) (meth := k1m1) (c := k1c1) (by decide +kernel) rfl rfl rfl (by decide +kernel)
set_option maxRecDepth 65536 in
theorem w_c1 : (Jvm.Cond.code ({ cls := "com/example/nearsame/nearsame/BlockFile", name := "content", desc := "(J)J" } : Jvm.MethodName) prog_12_method_3_code (4 : Nat) (Option.some Jvm.ClassFile.FieldType.long)).before args0 about1 = true := code_word (m := ⟨2, 2⟩) (meth := k2m2) (c := k2c2) (by decide +kernel) rfl rfl rfl (by decide +kernel)
set_option maxRecDepth 65536 in
theorem w_c2 : (Jvm.Cond.code ({ cls := "com/example/nearsame/nearsame/BlockFile", name := "length", desc := "(J)J" } : Jvm.MethodName) prog_12_method_2_code (4 : Nat) (Option.some Jvm.ClassFile.FieldType.long)).before args0 about1 = true := code_word (m := ⟨2, 1⟩) (meth := k2m1) (c := k2c1) (by decide +kernel) rfl rfl rfl (by decide +kernel)
def codes1 : List Jvm.Cond := [Jvm.Cond.code x code maxLocals ret, Jvm.Cond.code ({ cls := "com/example/nearsame/nearsame/BlockFile", name := "content", desc := "(J)J" } : Jvm.MethodName) prog_12_method_3_code (4 : Nat) (Option.some Jvm.ClassFile.FieldType.long), Jvm.Cond.code ({ cls := "com/example/nearsame/nearsame/BlockFile", name := "length", desc := "(J)J" } : Jvm.MethodName) prog_12_method_2_code (4 : Nat) (Option.some Jvm.ClassFile.FieldType.long)]
set_option maxRecDepth 65536 in
theorem codes_eq : words1.filter isCode = codes1 := rfl
theorem w_codes : ∀ c ∈ words1.filter isCode, c.before args0 about1 = true := by
  rw [codes_eq]
  intro c hc
  simp only [codes1, List.mem_cons, List.not_mem_nil, or_false] at hc
  rcases hc with rfl | rfl | rfl
  · exact w_c0
  · exact w_c1
  · exact w_c2
set_option maxRecDepth 65536 in
theorem w_t1 : words1.all (fun c => isCode c || c.before args0 about1) = true := by decide +kernel
theorem w_tables : (allAtoms (Jvm.Cond.code x code maxLocals ret :: tables_1)).before args0 about1 = true := by
  rw [allAtoms_all]
  show words1.all (fun c => c.before args0 about1) = true
  refine all_split ?_ w_codes
  rw [w_t1]
set_option maxRecDepth 65536 in
theorem w_case : (Jvm.Cond.and given_1 narrow_1).before args0 about1 = true := by decide +kernel
theorem w_applies : (headSpec (Jvm.Cond.code x code maxLocals ret :: tables_1) room_1).applies x e0.platform about1 = true :=
  (Spec.applies_iff w_frames).mpr ⟨w_running, w_runnable, w_alone, w_named, w_hears, w_ripe, w_room, w_tables⟩
theorem atStart : AtStart classFile x code maxLocals ret World_1 tables_1 room_1 Calls_1 rest_1 Pre_1 launch0 p0 e0 about1 theMethod args0 below0 :=
  ⟨lists_1, trivial, launch0.admits_env _ _ _, launch0.least_env, fairChoices_fair.cas, fairChoices_fair.clock, w_frames, w_args, w_heap, w_applies, trivial, trivial, w_case⟩
end start1
theorem witness_1 : WitnessClaimed_1 := ⟨start1.p0, start1.e0, start1.about1, start1.theMethod, start1.args0, start1.below0, start1.atStart⟩
end Jvm.Pilot.@@N@@
