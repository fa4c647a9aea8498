import JvmDerived
import JvmDerived.Pilot.@@N@@Statement
import JvmDerived.Pilot.@@N@@Code
set_option linter.unusedVariables false
set_option linter.unusedSimpArgs false
namespace Jvm.Pilot.@@N@@
open Jvm Jvm.ClassFile Sem Op Lib Jvm.Free Jvm.Stand Jvm.LawKit Jvm.RoadKit Bundle Jvm.Pilot.@@N@@.Jvm.D
/-! from a frame on, the body comes to its end as Q says -/
section OwnKit
variable {p : Program} {l : Launch} {e : Env} {R : Room} {s : State} {m : MethodId} {args : Array Value} {below : List Frame} {meth : Method} {c : Code} {T T' : State} {locs : List Loc} {cells slots C D : Nat} {Q Q' : Option Value → Heap → List Loc → Prop} {g g' : JFrame}
def Go (p : Program) (e : Env) (below : List Frame) (s : State) (C D : Nat) (Q : Option Value → Heap → List Loc → Prop) (T : State) (g : JFrame) : Prop :=
  ∃ u o, Steps p.tables e below (T.setTop g) u ∧ u.status = .running ∧ Ended u below o ∧ ∃ v L, o = .returned v ∧ Q v u.heap L ∧ FrameEnd s o u L C D
def PureQ (r : Value) (h0 : Heap) (v : Option Value) (h : Heap) (L : List Loc) : Prop := v = some r ∧ L = [] ∧ h = h0
theorem Go.step (k : ∀ t, Steps p.tables e below (T'.setTop g') t → Steps p.tables e below (T.setTop g) t) (h : Go p e below s C D Q T' g') : Go p e below s C D Q T g := by
  obtain ⟨u, o, h1, r⟩ := h
  exact ⟨u, o, k _ h1, r⟩
theorem Go.mono (h : Go p e below s C D Q T g) (q : ∀ v h L, Q v h L → Q' v h L) : Go p e below s C D Q' T g := by
  obtain ⟨u, o, h1, h2, h3, v, L, h4, h5, h6⟩ := h
  exact ⟨u, o, h1, h2, h3, v, L, h4, q _ _ _ h5, h6⟩
theorem Go.retN (X : Stand p l e R s m args below meth c T locs cells slots) (hx : p.tables.exec = Jvm.exec) (hlk : meth.locks = false) {pc : Nat} {Ls : Array Slot} {z : Int32} {t : FieldType} {rest : List Value} (hret : meth.sig.returnType = some t) (ht : t = .boolean ∨ t = .byte ∨ t = .char ∨ t = .short)
    (hd : decode c.code pc = .ok (.ireturn, 1)) (hC : cells ≤ C) (hD : slots ≤ D) (hq : Q (some (.int (nar t z))) T.heap locs) : Go p e below s C D Q T (mkF m pc Ls (.int z :: rest)) := by
  obtain ⟨fs, hr, hrun, hended, hW, hsame⟩ := X.leave (v := some (.int (nar t z))) (fun h => by rw [hret] at h; cases h) hlk
  exact ⟨_, _, Jvm.RoadKit.retN X hx hret ht hd hr, hrun, hended, _, _, rfl, hq, ⟨_, rfl⟩, hW, hsame.mono hC hD⟩
theorem Go.retW (X : Stand p l e R s m args below meth c T locs cells slots) (hx : p.tables.exec = Jvm.exec) (hlk : meth.locks = false) {pc : Nat} {Ls : Array Slot} {w : Value} {t : FieldType} {i : Instr} {rest : List Value} (hret : meth.sig.returnType = some t) (hn : narrow t w = w)
    (hi : (i = .ireturn ∧ (t = .int ∨ t = .boolean ∨ t = .byte ∨ t = .char ∨ t = .short) ∧ ∃ z, w = .int z) ∨ (i = .lreturn ∧ t = .long ∧ ∃ z, w = .long z) ∨ (i = .dreturn ∧ t = .double ∧ ∃ z, w = .double z) ∨ (i = .freturn ∧ t = .float ∧ ∃ z, w = .float z) ∨ (i = .areturn ∧ t.isReference = true ∧ w.isRef = true))
    (hd : decode c.code pc = .ok (i, 1)) (hC : cells ≤ C) (hD : slots ≤ D) (hq : Q (some w) T.heap locs) : Go p e below s C D Q T (mkF m pc Ls (w :: rest)) := by
  obtain ⟨fs, hr, hrun, hended, hW, hsame⟩ := X.leave (v := some w) (fun h => by rw [hret] at h; cases h) hlk
  exact ⟨_, _, retOut X hx hret hn hi hd hr, hrun, hended, _, _, rfl, hq, ⟨_, rfl⟩, hW, hsame.mono hC hD⟩
theorem Go.ret0 (X : Stand p l e R s m args below meth c T locs cells slots) (hx : p.tables.exec = Jvm.exec) (hlk : meth.locks = false) {pc : Nat} {Ls : Array Slot} (hret : meth.sig.returnType = none)
    (hd : decode c.code pc = .ok (.return_, 1)) (hC : cells ≤ C) (hD : slots ≤ D) (hq : Q none T.heap locs) : Go p e below s C D Q T (mkF m pc Ls []) := by
  obtain ⟨fs, hr, hrun, hended, hW, hsame⟩ := X.leave (v := none) (fun _ => rfl) hlk
  exact ⟨_, _, X.returnOut hx hret hd hr, hrun, hended, _, _, rfl, hq, ⟨_, rfl⟩, hW, hsame.mono hC hD⟩
end OwnKit
theorem pd_0 : parseMethodDescriptor "(I)Z" = some ⟨[.int], some .boolean⟩ := by decide +kernel
theorem d1_0 : decode prog_68_method_7_code 0 = .ok (.iload_n 0, 1) := by decide +kernel
theorem d1_1 : decode prog_68_method_7_code 1 = .ok (.ldc 68, 2) := by decide +kernel
theorem d1_3 : decode prog_68_method_7_code 3 = .ok (.if_icmp .lt 13, 3) := by decide +kernel
theorem d1_6 : decode prog_68_method_7_code 6 = .ok (.iload_n 0, 1) := by decide +kernel
theorem d1_7 : decode prog_68_method_7_code 7 = .ok (.ldc 69, 2) := by decide +kernel
theorem d1_9 : decode prog_68_method_7_code 9 = .ok (.if_icmp .gt 7, 3) := by decide +kernel
theorem d1_12 : decode prog_68_method_7_code 12 = .ok (.iconst 1, 1) := by decide +kernel
theorem d1_13 : decode prog_68_method_7_code 13 = .ok (.goto 4, 3) := by decide +kernel
theorem d1_16 : decode prog_68_method_7_code 16 = .ok (.iconst 0, 1) := by decide +kernel
theorem d1_17 : decode prog_68_method_7_code 17 = .ok (.ireturn, 1) := by decide +kernel
theorem pn_1 : plainName "com/example/lattice_node/latticenode/core/query/PatternMatch" = true := by first | (simp [plainName, overriddenIn]; done) | decide +kernel
theorem ef_1 (m : MethodId) (p0 : Int32) : entryFrame m #[(.int p0)] 1 = mkF m 0 #[.val (.int p0)] [] := by first | (simp [entryFrame, mkF, argsToLocals, Value.category]; done) | rfl
def f1_17 (v17_s0 : Int32) : Int32 := (nar .boolean v17_s0)
def f1_16 : Int32 := (f1_17 (0 : Int32))
def f1_12 : Int32 := (f1_17 (1 : Int32))
def f1_6 (p0 : Int32) : Int32 := if (65007 : Int32) < p0 then f1_16 else f1_12
def f1_0 (p0 : Int32) : Int32 := if p0 < (64976 : Int32) then f1_16 else (f1_6 p0)
set_option maxRecDepth 65536 in
set_option maxHeartbeats 40000000 in
theorem rm1 (l : Launch) (Z : State) (a0 : Array Value) (hw : ∀ d ∈ tables_1, d.before a0 Z = true) (ws : List Jvm.Cond) (p0 : Int32)  (h0 : Heap) :
    MetFree l (⟨"com/example/lattice_node/latticenode/core/query/PatternMatch", "isUnheld", "(I)Z"⟩ : MethodName) (head1 (Jvm.Cond.code (⟨"com/example/lattice_node/latticenode/core/query/PatternMatch", "isUnheld", "(I)Z"⟩ : MethodName) prog_68_method_7_code 1 (some .boolean) :: ws) ({ frames := 0, cells := 0, slots := 0, locals := 0 } : Room)) (fun a U => a = #[(.int p0)] ∧ Z.Warmed39 U.vm ∧ U.heap = h0) (fun _ _ _ _ _ => True) (fun _ U o U' => ∃ v L, o = .returned v ∧ (PureQ (.int (f1_0 p0)) h0) v U'.heap L ∧ FrameEnd U o U' L ({ frames := 0, cells := 0, slots := 0, locals := 0 } : Room).cells ({ frames := 0, cells := 0, slots := 0, locals := 0 } : Room).slots) := by
  refine MetFree.of_bodySF (plainFor_of_name pn_1) hisR ?_
  intro p e s m args below meth c s₁ Bd hml0 hP hK
  obtain ⟨rfl, hZ, hh⟩ := hP
  have hx := Bd.exec
  have hby := Bd.bytes
  have hlk : meth.locks = false := BodyLoose.notSynchronized Bd
  have hml : c.maxLocals = 1 := hml0
  have hown : s.vm.findClass "com/example/lattice_node/latticenode/core/query/PatternMatch" = some m.cls := findClass_of_methodNamed Bd.named
  have hnm := (name_of_methodNamed Bd.named Bd.method).1
  have X0 : Stand p l e ({ frames := 0, cells := 0, slots := 0, locals := 0 } : Room) s m #[(.int p0)] below meth c s₁ ([] : List Loc) 0 0 := Stand.of_body Bd
  have e0 : s₁.heap = h0 := by rw [← hh, Bd.state]; rfl
  show Go p e below s 0 0 (PureQ (.int (f1_0 p0)) h0) s₁ (entryFrame m #[(.int p0)] 1)
  rw [ef_1 m p0]
  refine Go.step (g' := (mkF m 1 #[.val (.int p0)] [(.int p0)])) (fun _ k => XS.iloadN X0.here hx rfl (hb hby d1_0) rfl  k) ?_
  refine Go.step (g' := (mkF m 3 #[.val (.int p0)] [(.int (64976 : Int32)), (.int p0)])) (fun _ k => X0.ldcI hx hown (mvT hZ (hw _ (List.mem_of_getElem? (i := 5) rfl))) rfl (hb hby d1_1) k) ?_
  have t17 : ∀ (v17_s0 : Int32), Go p e below s 0 0 (PureQ (.int (f1_17 v17_s0)) h0) s₁ (mkF m 17 #[.val (.int p0)] [(.int v17_s0)]) := by
    intro v17_s0
    exact Go.retN X0 hx hlk (t := .boolean) Bd.returns (by simp) (hb hby d1_17) (by decide) (by decide) ⟨rfl, rfl, e0⟩
  have t16 : Go p e below s 0 0 (PureQ (.int f1_16) h0) s₁ (mkF m 16 #[.val (.int p0)] []) := by
    refine Go.step (g' := (mkF m 17 #[.val (.int p0)] [(.int (0 : Int32))])) (fun _ k => XS.iconst X0.here hx rfl (hb hby d1_16) k) ?_
    rw [show f1_16 = (f1_17 (0 : Int32)) from rfl]
    exact t17 (0 : Int32)
  by_cases hc3 : p0 < (64976 : Int32)
  · rw [show (f1_0 p0) = f1_16 from if_pos hc3]
    refine Go.step (g' := (mkF m 16 #[.val (.int p0)] [])) (fun _ k => XS.icmpYes X0.here hx rfl (pc0 := 3) (pc' := 16) rfl (hb hby d1_3) rfl (tlt hc3).1 (by decide) (by decide) k) ?_
    exact t16 
  · rw [show (f1_0 p0) = (f1_6 p0) from if_neg hc3]
    refine Go.step (g' := (mkF m 6 #[.val (.int p0)] [])) (fun _ k => XS.icmpNo X0.here hx rfl (hb hby d1_3) rfl (flt hc3).1 k) ?_
    refine Go.step (g' := (mkF m 7 #[.val (.int p0)] [(.int p0)])) (fun _ k => XS.iloadN X0.here hx rfl (hb hby d1_6) rfl  k) ?_
    refine Go.step (g' := (mkF m 9 #[.val (.int p0)] [(.int (65007 : Int32)), (.int p0)])) (fun _ k => X0.ldcI hx hown (mvT hZ (hw _ (List.mem_of_getElem? (i := 6) rfl))) rfl (hb hby d1_7) k) ?_
    by_cases hc9 : (65007 : Int32) < p0
    · rw [show (f1_6 p0) = f1_16 from if_pos hc9]
      refine Go.step (g' := (mkF m 16 #[.val (.int p0)] [])) (fun _ k => XS.icmpYes X0.here hx rfl (pc0 := 9) (pc' := 16) rfl (hb hby d1_9) rfl (tlt hc9).2.2.1 (by decide) (by decide) k) ?_
      exact t16 
    · rw [show (f1_6 p0) = f1_12 from if_neg hc9]
      refine Go.step (g' := (mkF m 12 #[.val (.int p0)] [])) (fun _ k => XS.icmpNo X0.here hx rfl (hb hby d1_9) rfl (flt hc9).2.2.1 k) ?_
      refine Go.step (g' := (mkF m 13 #[.val (.int p0)] [(.int (1 : Int32))])) (fun _ k => XS.iconst X0.here hx rfl (hb hby d1_12) k) ?_
      refine Go.step (g' := (mkF m 17 #[.val (.int p0)] [(.int (1 : Int32))])) (fun _ k => XS.goto X0.here hx rfl (pc0 := 13) (pc' := 17) rfl (hb hby d1_13) (by decide) (by decide) k) ?_
      rw [show f1_12 = (f1_17 (1 : Int32)) from rfl]
      exact t17 (1 : Int32)
theorem pn_0 : plainName "com/example/lattice_node/latticenode/core/query/PatternMatchIsUnheldPinLaw" = true := by first | (simp [plainName, overriddenIn]; done) | decide +kernel
theorem ef_0 (m : MethodId) (p0 : Int32) (p1 : Int32) : entryFrame m #[(.int p0), (.int p1)] maxLocals = mkF m 0 #[.val (.int p0), .val (.int p1), .unset, .unset, .unset] [] := by first | (simp [entryFrame, mkF, argsToLocals, Value.category, maxLocals]; done) | rfl
def f0_72 (v72_s0 : Int32) : Int32 := (nar .boolean v72_s0)
def f0_71 : Int32 := (f0_72 (0 : Int32))
def f0_67 : Int32 := (f0_72 (1 : Int32))
def f0_56 (v41_3 : Int32) (v56_s0 : Int32) : Int32 := if (f1_0 v41_3) = v56_s0 then f0_67 else f0_71
def f0_55 (v41_3 : Int32) : Int32 := (f0_56 v41_3 (0 : Int32))
def f0_51 (v41_3 : Int32) : Int32 := (f0_56 v41_3 (1 : Int32))
def f0_41 (v41_3 : Int32) : Int32 := if ((v41_3 - (64976 : Int32)) &&& (-32 : Int32)) = (0 : Int32) then (f0_51 v41_3) else (f0_55 v41_3)
def f0_39 (p0 : Int32) : Int32 := (f0_41 p0)
def f0_28 (p0 : Int32) : Int32 := (f0_41 ((64976 : Int32) + (p0 &&& (31 : Int32))))
def f0_23 (p0 : Int32) (p1 : Int32) : Int32 := if (p1 &&& (3 : Int32)) = (2 : Int32) then (f0_28 p0) else (f0_39 p0)
def f0_9 (p0 : Int32) : Int32 := (f0_41 ((64976 : Int32) + ((p0 &&& (63 : Int32)) - (16 : Int32))))
def f0_0 (p0 : Int32) (p1 : Int32) : Int32 := if (p1 &&& (3 : Int32)) = (1 : Int32) then (f0_9 p0) else (f0_23 p0 p1)
set_option maxRecDepth 65536 in
set_option maxHeartbeats 40000000 in
theorem rm0 (l : Launch) (Z : State) (a0 : Array Value) (hw : ∀ d ∈ tables_1, d.before a0 Z = true) (ws : List Jvm.Cond) (p0 : Int32) (p1 : Int32)  (h0 : Heap) :
    MetFree l x (head1 (Jvm.Cond.code x code maxLocals ret :: ws) room_1) (fun a U => a = #[(.int p0), (.int p1)] ∧ Z.Warmed39 U.vm ∧ U.heap = h0) (fun _ _ _ _ _ => True) (fun _ U o U' => ∃ v L, o = .returned v ∧ (PureQ (.int (f0_0 p0 p1)) h0) v U'.heap L ∧ FrameEnd U o U' L room_1.cells room_1.slots) := by
  refine MetFree.of_bodySF (plainFor_of_name pn_0) hisR ?_
  intro p e s m args below meth c s₁ Bd hml0 hP hK
  obtain ⟨rfl, hZ, hh⟩ := hP
  have hx := Bd.exec
  have hby := Bd.bytes
  have hlk : meth.locks = false := BodyLoose.notSynchronized Bd
  have hml : c.maxLocals = 5 := hml0
  have hown : s.vm.findClass "com/example/lattice_node/latticenode/core/query/PatternMatchIsUnheldPinLaw" = some m.cls := findClass_of_methodNamed Bd.named
  have hnm := (name_of_methodNamed Bd.named Bd.method).1
  have X0 : Stand p l e room_1 s m #[(.int p0), (.int p1)] below meth c s₁ ([] : List Loc) 0 0 := Stand.of_body Bd
  have e0 : s₁.heap = h0 := by rw [← hh, Bd.state]; rfl
  show Go p e below s room_1.cells room_1.slots (PureQ (.int (f0_0 p0 p1)) h0) s₁ (entryFrame m #[(.int p0), (.int p1)] maxLocals)
  rw [ef_0 m p0 p1]
  refine Go.step (g' := (mkF m 1 #[.val (.int p0), .val (.int p1), .unset, .unset, .unset] [(.int p1)])) (fun _ k => XS.iloadN X0.here hx rfl (hb hby at_0) rfl  k) ?_
  refine Go.step (g' := (mkF m 2 #[.val (.int p0), .val (.int p1), .unset, .unset, .unset] [(.int (3 : Int32)), (.int p1)])) (fun _ k => XS.iconst X0.here hx rfl (hb hby at_1) k) ?_
  refine Go.step (g' := (mkF m 3 #[.val (.int p0), .val (.int p1), .unset, .unset, .unset] [(.int (p1 &&& (3 : Int32)))])) (fun _ k => XS.iand X0.here hx rfl (hb hby at_2) rfl k) ?_
  refine Go.step (g' := (mkF m 4 #[.val (.int p0), .val (.int p1), .val (.int (p1 &&& (3 : Int32))), .unset, .unset] [])) (fun _ k => XS.istoreN X0.here hx rfl (hb hby at_3) rfl (l' := #[.val (.int p0), .val (.int p1), .val (.int (p1 &&& (3 : Int32))), .unset, .unset]) rfl k) ?_
  refine Go.step (g' := (mkF m 5 #[.val (.int p0), .val (.int p1), .val (.int (p1 &&& (3 : Int32))), .unset, .unset] [(.int (p1 &&& (3 : Int32)))])) (fun _ k => XS.iloadN X0.here hx rfl (hb hby at_4) rfl  k) ?_
  refine Go.step (g' := (mkF m 6 #[.val (.int p0), .val (.int p1), .val (.int (p1 &&& (3 : Int32))), .unset, .unset] [(.int (1 : Int32)), (.int (p1 &&& (3 : Int32)))])) (fun _ k => XS.iconst X0.here hx rfl (hb hby at_5) k) ?_
  have t41 : ∀ (v41_3 : Int32), Go p e below s room_1.cells room_1.slots (PureQ (.int (f0_41 v41_3)) h0) s₁ (mkF m 41 #[.val (.int p0), .val (.int p1), .val (.int (p1 &&& (3 : Int32))), .val (.int v41_3), .unset] []) := by
    intro v41_3
    refine Go.step (g' := (mkF m 42 #[.val (.int p0), .val (.int p1), .val (.int (p1 &&& (3 : Int32))), .val (.int v41_3), .unset] [(.int v41_3)])) (fun _ k => XS.iloadN X0.here hx rfl (hb hby at_41) rfl  k) ?_
    refine Go.step (g' := (mkF m 44 #[.val (.int p0), .val (.int p1), .val (.int (p1 &&& (3 : Int32))), .val (.int v41_3), .unset] [(.int (64976 : Int32)), (.int v41_3)])) (fun _ k => X0.ldcI hx hown (mvT hZ (hw _ (List.mem_of_getElem? (i := 0) rfl))) rfl (hb hby at_42) k) ?_
    refine Go.step (g' := (mkF m 45 #[.val (.int p0), .val (.int p1), .val (.int (p1 &&& (3 : Int32))), .val (.int v41_3), .unset] [(.int (v41_3 - (64976 : Int32)))])) (fun _ k => XS.isub X0.here hx rfl (hb hby at_44) rfl k) ?_
    refine Go.step (g' := (mkF m 47 #[.val (.int p0), .val (.int p1), .val (.int (p1 &&& (3 : Int32))), .val (.int v41_3), .unset] [(.int (-32 : Int32)), (.int (v41_3 - (64976 : Int32)))])) (fun _ k => XS.bipush X0.here hx rfl (hb hby at_45) k) ?_
    refine Go.step (g' := (mkF m 48 #[.val (.int p0), .val (.int p1), .val (.int (p1 &&& (3 : Int32))), .val (.int v41_3), .unset] [(.int ((v41_3 - (64976 : Int32)) &&& (-32 : Int32)))])) (fun _ k => XS.iand X0.here hx rfl (hb hby at_47) rfl k) ?_
    have t56 : ∀ (v56_s0 : Int32), Go p e below s room_1.cells room_1.slots (PureQ (.int (f0_56 v41_3 v56_s0)) h0) s₁ (mkF m 56 #[.val (.int p0), .val (.int p1), .val (.int (p1 &&& (3 : Int32))), .val (.int v41_3), .unset] [(.int v56_s0)]) := by
      intro v56_s0
      refine Go.step (g' := (mkF m 58 #[.val (.int p0), .val (.int p1), .val (.int (p1 &&& (3 : Int32))), .val (.int v41_3), .val (.int v56_s0)] [])) (fun _ k => XS.istore X0.here hx rfl (hb hby at_56) rfl (l' := #[.val (.int p0), .val (.int p1), .val (.int (p1 &&& (3 : Int32))), .val (.int v41_3), .val (.int v56_s0)]) rfl k) ?_
      refine Go.step (g' := (mkF m 59 #[.val (.int p0), .val (.int p1), .val (.int (p1 &&& (3 : Int32))), .val (.int v41_3), .val (.int v56_s0)] [(.int v41_3)])) (fun _ k => XS.iloadN X0.here hx rfl (hb hby at_58) rfl  k) ?_
      obtain ⟨_, _, ⟨T1, L1, k1, n1⟩, -, X1, ⟨Lc1, hQ1, l1, y1, z1⟩, st1⟩ := Jvm.LawKit.callS X0 hx (y := (⟨"com/example/lattice_node/latticenode/core/query/PatternMatch", "isUnheld", "(I)Z"⟩ : MethodName)) hown (mvT hZ (hw _ (List.mem_of_getElem? (i := 1) rfl))) (mvT hZ (hw _ (List.mem_of_getElem? (i := 2) rfl))) (mvT hZ (hw _ (List.mem_of_getElem? (i := 3) rfl))) (mvT hZ (hw _ (List.mem_of_getElem? (i := 4) rfl))) (by decide) (backOf (W := 0) (rm1 l Z a0 hw [] v41_3 h0 ) hZ (hw _ (List.mem_of_getElem? (i := 4) rfl)) (hw _ (List.mem_of_getElem? (i := 3) rfl)) (by decide) (by decide)) (g := (mkF m 59 #[.val (.int p0), .val (.int p1), .val (.int (p1 &&& (3 : Int32))), .val (.int v41_3), .val (.int v56_s0)] [(.int v41_3)])) rfl (by rw [hml]; rfl) (argsL := [(.int v41_3)]) (rest := []) (lenOf pd_0 rfl) rfl (by show 2 * 0 + _ ≤ _; exact Nat.le_of_eq rfl) (hb hby at_59) (fun _ _ => ⟨rfl, e0, (by decide : 0 + 0 ≤ _), (by decide : 0 + 0 ≤ _)⟩)
      dsimp only [Pt.U, Pt.locs, Pt.cells, Pt.slots] at X1 l1 y1 z1 st1 hQ1
      subst l1 y1 z1
      obtain ⟨rfl, rfl, e1⟩ := hQ1
      try rw [List.append_nil] at X1
      refine Go.step (g' := (mkF m 62 #[.val (.int p0), .val (.int p1), .val (.int (p1 &&& (3 : Int32))), .val (.int v41_3), .val (.int v56_s0)] [(.int (f1_0 v41_3))])) st1 ?_
      refine Go.step (g' := (mkF m 64 #[.val (.int p0), .val (.int p1), .val (.int (p1 &&& (3 : Int32))), .val (.int v41_3), .val (.int v56_s0)] [(.int v56_s0), (.int (f1_0 v41_3))])) (fun _ k => XS.iload X1.here hx rfl (hb hby at_62) rfl  k) ?_
      have t72 : ∀ (v72_s0 : Int32), Go p e below s room_1.cells room_1.slots (PureQ (.int (f0_72 v72_s0)) h0) T1 (mkF m 72 #[.val (.int p0), .val (.int p1), .val (.int (p1 &&& (3 : Int32))), .val (.int v41_3), .val (.int v56_s0)] [(.int v72_s0)]) := by
        intro v72_s0
        exact Go.retN X1 hx hlk (t := .boolean) Bd.returns (by simp) (hb hby at_72) (by decide) (by decide) ⟨rfl, rfl, e1⟩
      by_cases hc64 : (f1_0 v41_3) = v56_s0
      · rw [show (f0_56 v41_3 v56_s0) = f0_67 from if_pos hc64]
        refine Go.step (g' := (mkF m 67 #[.val (.int p0), .val (.int p1), .val (.int (p1 &&& (3 : Int32))), .val (.int v41_3), .val (.int v56_s0)] [])) (fun _ k => XS.icmpNo X1.here hx rfl (hb hby at_64) rfl (teq hc64).2 k) ?_
        refine Go.step (g' := (mkF m 68 #[.val (.int p0), .val (.int p1), .val (.int (p1 &&& (3 : Int32))), .val (.int v41_3), .val (.int v56_s0)] [(.int (1 : Int32))])) (fun _ k => XS.iconst X1.here hx rfl (hb hby at_67) k) ?_
        refine Go.step (g' := (mkF m 72 #[.val (.int p0), .val (.int p1), .val (.int (p1 &&& (3 : Int32))), .val (.int v41_3), .val (.int v56_s0)] [(.int (1 : Int32))])) (fun _ k => XS.goto X1.here hx rfl (pc0 := 68) (pc' := 72) rfl (hb hby at_68) (by decide) (by decide) k) ?_
        rw [show f0_67 = (f0_72 (1 : Int32)) from rfl]
        exact t72 (1 : Int32)
      · rw [show (f0_56 v41_3 v56_s0) = f0_71 from if_neg hc64]
        refine Go.step (g' := (mkF m 71 #[.val (.int p0), .val (.int p1), .val (.int (p1 &&& (3 : Int32))), .val (.int v41_3), .val (.int v56_s0)] [])) (fun _ k => XS.icmpYes X1.here hx rfl (pc0 := 64) (pc' := 71) rfl (hb hby at_64) rfl (feq hc64).2 (by decide) (by decide) k) ?_
        refine Go.step (g' := (mkF m 72 #[.val (.int p0), .val (.int p1), .val (.int (p1 &&& (3 : Int32))), .val (.int v41_3), .val (.int v56_s0)] [(.int (0 : Int32))])) (fun _ k => XS.iconst X1.here hx rfl (hb hby at_71) k) ?_
        rw [show f0_71 = (f0_72 (0 : Int32)) from rfl]
        exact t72 (0 : Int32)
    by_cases hc48 : ((v41_3 - (64976 : Int32)) &&& (-32 : Int32)) = (0 : Int32)
    · rw [show (f0_41 v41_3) = (f0_51 v41_3) from if_pos hc48]
      refine Go.step (g' := (mkF m 51 #[.val (.int p0), .val (.int p1), .val (.int (p1 &&& (3 : Int32))), .val (.int v41_3), .unset] [])) (fun _ k => XS.ifNo X0.here hx rfl (hb hby at_48) rfl ((if0 _ _).trans (teq hc48).2) k) ?_
      refine Go.step (g' := (mkF m 52 #[.val (.int p0), .val (.int p1), .val (.int (p1 &&& (3 : Int32))), .val (.int v41_3), .unset] [(.int (1 : Int32))])) (fun _ k => XS.iconst X0.here hx rfl (hb hby at_51) k) ?_
      refine Go.step (g' := (mkF m 56 #[.val (.int p0), .val (.int p1), .val (.int (p1 &&& (3 : Int32))), .val (.int v41_3), .unset] [(.int (1 : Int32))])) (fun _ k => XS.goto X0.here hx rfl (pc0 := 52) (pc' := 56) rfl (hb hby at_52) (by decide) (by decide) k) ?_
      rw [show (f0_51 v41_3) = (f0_56 v41_3 (1 : Int32)) from rfl]
      exact t56 (1 : Int32)
    · rw [show (f0_41 v41_3) = (f0_55 v41_3) from if_neg hc48]
      refine Go.step (g' := (mkF m 55 #[.val (.int p0), .val (.int p1), .val (.int (p1 &&& (3 : Int32))), .val (.int v41_3), .unset] [])) (fun _ k => XS.ifYes X0.here hx rfl (pc0 := 48) (pc' := 55) rfl (hb hby at_48) rfl ((if0 _ _).trans (feq hc48).2) (by decide) (by decide) k) ?_
      refine Go.step (g' := (mkF m 56 #[.val (.int p0), .val (.int p1), .val (.int (p1 &&& (3 : Int32))), .val (.int v41_3), .unset] [(.int (0 : Int32))])) (fun _ k => XS.iconst X0.here hx rfl (hb hby at_55) k) ?_
      rw [show (f0_55 v41_3) = (f0_56 v41_3 (0 : Int32)) from rfl]
      exact t56 (0 : Int32)
  by_cases hc6 : (p1 &&& (3 : Int32)) = (1 : Int32)
  · rw [show (f0_0 p0 p1) = (f0_9 p0) from if_pos hc6]
    refine Go.step (g' := (mkF m 9 #[.val (.int p0), .val (.int p1), .val (.int (p1 &&& (3 : Int32))), .unset, .unset] [])) (fun _ k => XS.icmpNo X0.here hx rfl (hb hby at_6) rfl (teq hc6).2 k) ?_
    refine Go.step (g' := (mkF m 11 #[.val (.int p0), .val (.int p1), .val (.int (p1 &&& (3 : Int32))), .unset, .unset] [(.int (64976 : Int32))])) (fun _ k => X0.ldcI hx hown (mvT hZ (hw _ (List.mem_of_getElem? (i := 0) rfl))) rfl (hb hby at_9) k) ?_
    refine Go.step (g' := (mkF m 12 #[.val (.int p0), .val (.int p1), .val (.int (p1 &&& (3 : Int32))), .unset, .unset] [(.int p0), (.int (64976 : Int32))])) (fun _ k => XS.iloadN X0.here hx rfl (hb hby at_11) rfl  k) ?_
    refine Go.step (g' := (mkF m 14 #[.val (.int p0), .val (.int p1), .val (.int (p1 &&& (3 : Int32))), .unset, .unset] [(.int (63 : Int32)), (.int p0), (.int (64976 : Int32))])) (fun _ k => XS.bipush X0.here hx rfl (hb hby at_12) k) ?_
    refine Go.step (g' := (mkF m 15 #[.val (.int p0), .val (.int p1), .val (.int (p1 &&& (3 : Int32))), .unset, .unset] [(.int (p0 &&& (63 : Int32))), (.int (64976 : Int32))])) (fun _ k => XS.iand X0.here hx rfl (hb hby at_14) rfl k) ?_
    refine Go.step (g' := (mkF m 17 #[.val (.int p0), .val (.int p1), .val (.int (p1 &&& (3 : Int32))), .unset, .unset] [(.int (16 : Int32)), (.int (p0 &&& (63 : Int32))), (.int (64976 : Int32))])) (fun _ k => XS.bipush X0.here hx rfl (hb hby at_15) k) ?_
    refine Go.step (g' := (mkF m 18 #[.val (.int p0), .val (.int p1), .val (.int (p1 &&& (3 : Int32))), .unset, .unset] [(.int ((p0 &&& (63 : Int32)) - (16 : Int32))), (.int (64976 : Int32))])) (fun _ k => XS.isub X0.here hx rfl (hb hby at_17) rfl k) ?_
    refine Go.step (g' := (mkF m 19 #[.val (.int p0), .val (.int p1), .val (.int (p1 &&& (3 : Int32))), .unset, .unset] [(.int ((64976 : Int32) + ((p0 &&& (63 : Int32)) - (16 : Int32))))])) (fun _ k => XS.iadd X0.here hx rfl (hb hby at_18) rfl k) ?_
    refine Go.step (g' := (mkF m 20 #[.val (.int p0), .val (.int p1), .val (.int (p1 &&& (3 : Int32))), .val (.int ((64976 : Int32) + ((p0 &&& (63 : Int32)) - (16 : Int32)))), .unset] [])) (fun _ k => XS.istoreN X0.here hx rfl (hb hby at_19) rfl (l' := #[.val (.int p0), .val (.int p1), .val (.int (p1 &&& (3 : Int32))), .val (.int ((64976 : Int32) + ((p0 &&& (63 : Int32)) - (16 : Int32)))), .unset]) rfl k) ?_
    refine Go.step (g' := (mkF m 41 #[.val (.int p0), .val (.int p1), .val (.int (p1 &&& (3 : Int32))), .val (.int ((64976 : Int32) + ((p0 &&& (63 : Int32)) - (16 : Int32)))), .unset] [])) (fun _ k => XS.goto X0.here hx rfl (pc0 := 20) (pc' := 41) rfl (hb hby at_20) (by decide) (by decide) k) ?_
    rw [show (f0_9 p0) = (f0_41 ((64976 : Int32) + ((p0 &&& (63 : Int32)) - (16 : Int32)))) from rfl]
    exact t41 ((64976 : Int32) + ((p0 &&& (63 : Int32)) - (16 : Int32)))
  · rw [show (f0_0 p0 p1) = (f0_23 p0 p1) from if_neg hc6]
    refine Go.step (g' := (mkF m 23 #[.val (.int p0), .val (.int p1), .val (.int (p1 &&& (3 : Int32))), .unset, .unset] [])) (fun _ k => XS.icmpYes X0.here hx rfl (pc0 := 6) (pc' := 23) rfl (hb hby at_6) rfl (feq hc6).2 (by decide) (by decide) k) ?_
    refine Go.step (g' := (mkF m 24 #[.val (.int p0), .val (.int p1), .val (.int (p1 &&& (3 : Int32))), .unset, .unset] [(.int (p1 &&& (3 : Int32)))])) (fun _ k => XS.iloadN X0.here hx rfl (hb hby at_23) rfl  k) ?_
    refine Go.step (g' := (mkF m 25 #[.val (.int p0), .val (.int p1), .val (.int (p1 &&& (3 : Int32))), .unset, .unset] [(.int (2 : Int32)), (.int (p1 &&& (3 : Int32)))])) (fun _ k => XS.iconst X0.here hx rfl (hb hby at_24) k) ?_
    by_cases hc25 : (p1 &&& (3 : Int32)) = (2 : Int32)
    · rw [show (f0_23 p0 p1) = (f0_28 p0) from if_pos hc25]
      refine Go.step (g' := (mkF m 28 #[.val (.int p0), .val (.int p1), .val (.int (p1 &&& (3 : Int32))), .unset, .unset] [])) (fun _ k => XS.icmpNo X0.here hx rfl (hb hby at_25) rfl (teq hc25).2 k) ?_
      refine Go.step (g' := (mkF m 30 #[.val (.int p0), .val (.int p1), .val (.int (p1 &&& (3 : Int32))), .unset, .unset] [(.int (64976 : Int32))])) (fun _ k => X0.ldcI hx hown (mvT hZ (hw _ (List.mem_of_getElem? (i := 0) rfl))) rfl (hb hby at_28) k) ?_
      refine Go.step (g' := (mkF m 31 #[.val (.int p0), .val (.int p1), .val (.int (p1 &&& (3 : Int32))), .unset, .unset] [(.int p0), (.int (64976 : Int32))])) (fun _ k => XS.iloadN X0.here hx rfl (hb hby at_30) rfl  k) ?_
      refine Go.step (g' := (mkF m 33 #[.val (.int p0), .val (.int p1), .val (.int (p1 &&& (3 : Int32))), .unset, .unset] [(.int (31 : Int32)), (.int p0), (.int (64976 : Int32))])) (fun _ k => XS.bipush X0.here hx rfl (hb hby at_31) k) ?_
      refine Go.step (g' := (mkF m 34 #[.val (.int p0), .val (.int p1), .val (.int (p1 &&& (3 : Int32))), .unset, .unset] [(.int (p0 &&& (31 : Int32))), (.int (64976 : Int32))])) (fun _ k => XS.iand X0.here hx rfl (hb hby at_33) rfl k) ?_
      refine Go.step (g' := (mkF m 35 #[.val (.int p0), .val (.int p1), .val (.int (p1 &&& (3 : Int32))), .unset, .unset] [(.int ((64976 : Int32) + (p0 &&& (31 : Int32))))])) (fun _ k => XS.iadd X0.here hx rfl (hb hby at_34) rfl k) ?_
      refine Go.step (g' := (mkF m 36 #[.val (.int p0), .val (.int p1), .val (.int (p1 &&& (3 : Int32))), .val (.int ((64976 : Int32) + (p0 &&& (31 : Int32)))), .unset] [])) (fun _ k => XS.istoreN X0.here hx rfl (hb hby at_35) rfl (l' := #[.val (.int p0), .val (.int p1), .val (.int (p1 &&& (3 : Int32))), .val (.int ((64976 : Int32) + (p0 &&& (31 : Int32)))), .unset]) rfl k) ?_
      refine Go.step (g' := (mkF m 41 #[.val (.int p0), .val (.int p1), .val (.int (p1 &&& (3 : Int32))), .val (.int ((64976 : Int32) + (p0 &&& (31 : Int32)))), .unset] [])) (fun _ k => XS.goto X0.here hx rfl (pc0 := 36) (pc' := 41) rfl (hb hby at_36) (by decide) (by decide) k) ?_
      rw [show (f0_28 p0) = (f0_41 ((64976 : Int32) + (p0 &&& (31 : Int32)))) from rfl]
      exact t41 ((64976 : Int32) + (p0 &&& (31 : Int32)))
    · rw [show (f0_23 p0 p1) = (f0_39 p0) from if_neg hc25]
      refine Go.step (g' := (mkF m 39 #[.val (.int p0), .val (.int p1), .val (.int (p1 &&& (3 : Int32))), .unset, .unset] [])) (fun _ k => XS.icmpYes X0.here hx rfl (pc0 := 25) (pc' := 39) rfl (hb hby at_25) rfl (feq hc25).2 (by decide) (by decide) k) ?_
      refine Go.step (g' := (mkF m 40 #[.val (.int p0), .val (.int p1), .val (.int (p1 &&& (3 : Int32))), .unset, .unset] [(.int p0)])) (fun _ k => XS.iloadN X0.here hx rfl (hb hby at_39) rfl  k) ?_
      refine Go.step (g' := (mkF m 41 #[.val (.int p0), .val (.int p1), .val (.int (p1 &&& (3 : Int32))), .val (.int p0), .unset] [])) (fun _ k => XS.istoreN X0.here hx rfl (hb hby at_40) rfl (l' := #[.val (.int p0), .val (.int p1), .val (.int (p1 &&& (3 : Int32))), .val (.int p0), .unset]) rfl k) ?_
      rw [show (f0_39 p0) = (f0_41 p0) from rfl]
      exact t41 p0
theorem own_band (x : Int32) : (x &&& (-32 : Int32) = 0) ↔ (x = x &&& 31) := by
  constructor
  · intro h
    have e : x = (x &&& 31) ||| (x &&& (-32 : Int32)) := by
      apply Int32.toBitVec_inj.mp
      show x.toBitVec = (x.toBitVec &&& (31 : BitVec 32)) ||| (x.toBitVec &&& (-32 : BitVec 32))
      rw [← BitVec.and_or_distrib_left]
      have : (31 : BitVec 32) ||| (-32) = BitVec.allOnes 32 := by decide
      rw [this, BitVec.and_allOnes]
    rw [h] at e; rw [Int32.or_zero] at e; exact e
  · intro h; rw [h, Int32.and_assoc]
    have : (31 : Int32) &&& (-32) = 0 := by decide
    rw [this, Int32.and_zero]
theorem own_in (c : Int32) : ((c - 64976) &&& (-32 : Int32) = 0) ↔ (¬ c < 64976 ∧ ¬ 65007 < c) := by
  have e1 : ((c - 64976) &&& (31 : Int32)).toInt = (c - 64976).toInt % (2 ^ 5 : Nat) := c_mask (c - 64976) 31 5 (by decide) (by decide)
  have e2 := c_isub c 64976
  have e3 := rng32 (c - 64976)
  have e4 := rng32 c
  have q1 : (64976 : Int32).toInt = 64976 := by decide
  have q2 : (65007 : Int32).toInt = 65007 := by decide
  rw [own_band, ← Int32.toInt_inj, e1, Int32.lt_iff_toInt_lt, Int32.lt_iff_toInt_lt, q1, q2]
  rw [q1] at e2
  constructor
  · intro h; omega
  · intro h; omega
theorem law_at (c : Int32) : f0_41 c = 1 := by
  have n1 : nar .boolean 1 = 1 := by decide
  have n0 : nar .boolean 0 = 0 := by decide
  simp only [f0_41, own_in, f0_51, f0_55, f0_56, f1_0, f1_6, f1_12, f1_16, f1_17, f0_67, f0_71, f0_72]
  by_cases h1 : c < 64976 <;> by_cases h2 : 65007 < c <;> simp [h1, h2, n1, n0]
theorem law_eq (a b : Int32) : f0_0 a b = 1 := by
  simp only [f0_0, f0_9, f0_23, f0_28, f0_39, law_at]
  split <;> (try split) <;> rfl
set_option maxRecDepth 65536 in
set_option maxHeartbeats 40000000 in
theorem comes_1 {Post : Tables → Env → Array Value → State → Outcome → State → Prop} (hpost : ∀ tb e args s v u, (limb_1_1.after args s (.returned v) u = true ∧ limb_1_2.after args s (.returned v) u = true) → FrameEnd s (.returned v) u (Jvm.fieldLocs frame_1_writes args s ++ Jvm.arrayLocs frame_1_arrays args s ++ Jvm.staticLocs frame_1_statics s) 0 0 → Post tb e args s (.returned v) u) :
    ArmFor flags0 classFile x code maxLocals ret World_1 tables_1 room_1 Calls_1 rest_1 Pre_1 Post := by
  intro l hfl _ _ p e ha hc hk s m args below hf hA hF happ hP
  obtain ⟨hcalls, hrest, hpre⟩ := hP
  obtain ⟨-, -, -, hnamed, -, -, -, hat⟩ := (Spec.applies_iff hf).mp happ
  obtain ⟨hg, hn⟩ := and_e (Cond.before_iff.mp (show (Jvm.Cond.and given_1 narrow_1).before args s = true from hpre))
  obtain ⟨gc, hg⟩ := and_e hg
  obtain ⟨g0, hg⟩ := and_e hg
  have g1 := hg
  obtain ⟨w0, w1, rfl⟩ : ∃ w0 w1 : Value, args = #[w0, w1] := by
    have hs : args.size = 2 := by simpa [Cond.value, given_1] using gc
    obtain ⟨L⟩ := args
    match L, hs with
    | [w0, w1], _ => exact ⟨w0, w1, rfl⟩
  have hw := fun d (hd : d ∈ tables_1) => atoms_spec (ws := Jvm.Cond.code x code maxLocals ret :: tables_1) hat d (List.mem_cons_of_mem _ hd)
  have hfit : Fit s := fun {y c} hc i hi => by
    obtain ⟨ha, rfl⟩ := Array.getElem?_eq_some_iff.mp hc
    have q := List.all_eq_true.mp ((Array.all_eq_true_iff_forall_mem.mp hF) _ (Array.getElem_mem ha)) i (List.mem_range.mpr hi)
    simpa [Array.getElem?_eq_getElem hi] using q
  obtain ⟨i0, ei0⟩ := is_v g0
  obtain rfl : w0 = (.int i0) := Option.some.inj ei0
  obtain ⟨i1, ei1⟩ := is_v g1
  obtain rfl : w1 = (.int i1) := Option.some.inj ei1
  obtain ⟨n, o, h1, h2, h3, v, L, rfl, hQ, hq⟩ := rm0 l s _ hw tables_1 i0 i1  s.heap   p e ha hc hk s m _ below hf ((Spec.applies_iff_loose hf).mp happ).1 ⟨rfl, State.Warmed39.refl s, rfl⟩ trivial
  obtain ⟨rfl, rfl, -⟩ := hQ
  rw [law_eq] at *
  refine ⟨n, _, h1, h2, h3, hpost _ _ _ _ _ _ ⟨Cond.after_iff.mpr rfl, Cond.after_iff.mpr (eq_i res_at (Term.int_eval (1)) rfl)⟩ ⟨hq.1, hq.2.1, (hq.2.2.sift fun y hy => nomatch hy).mono (by decide) (by decide)⟩⟩
theorem main_1_1 : Claimed_1_1 := comes_1 fun _ _ _ _ _ _ h hF => ⟨h.1, hF⟩
theorem main_1_2 : Claimed_1_2 := comes_1 fun _ _ _ _ _ _ h hF => ⟨h.2, hF⟩
end Jvm.Pilot.@@N@@
namespace Jvm.Pilot.@@N@@
open Jvm Jvm.ClassFile Sem Op Lib Jvm.Free Jvm.Stand Jvm.Pilot.@@N@@.Jvm.D
/-! MADE BY PROGRAM (witnessworld.py) out of the Statement's table words and the real class files: 11 classes; the members and pool entries that the words name. The judged class is class 1, her method 1. -/
namespace start1
open Jvm.ClassFile
def u (s : String) : CpInfo := .utf8 (stringToUtf16 s)
/-- a pool by its gaps: so many unusable entries, then the entry; so many at the end -/
def gap : Nat → List CpInfo → List CpInfo
  | 0, r => r
  | n + 1, r => .unusable :: gap n r
def poolList (es : List (Nat × CpInfo)) (last : Nat) : List CpInfo := es.foldr (fun e r => gap e.1 (e.2 :: r)) (gap last [])
def pool (es : List (Nat × CpInfo)) (last : Nat) : Array CpInfo := ⟨poolList es last⟩
def fileOf (pool : Array CpInfo) (this : Nat) (attrs : Array Attribute := #[]) (ms : Array MethodInfo := #[]) (fl : Nat := 33) (sup : Nat := 0) (ifs : Array Nat := #[]) (fds : Array FieldInfo := #[]) : ClassFile where
  minorVersion := 0
  majorVersion := 65
  constantPool := pool
  accessFlags := fl
  thisClass := this
  superClass := sup
  interfaces := ifs
  fields := fds
  methods := ms
  attributes := attrs
def plain (name : String) (sup : Option ClassId) : Class where
  name := name
  kind := .ordinary
  loader := none
  accessFlags := 33
  super := sup
  interfaces := #[]
  cf := none
  fields := #[]
  methods := #[]
  instanceTypes := #[]
  staticTypes := #[]
  resolved := #[]
  callSites := []
  init := .initialized
  statics := none
  mirror := none

def pool0 : Array CpInfo := pool [(5, u "<init>"), (0, u "()V"), (1, .class_ 10), (1, u "java/lang/Object")] 113

def k0m0 : Method := { name := "<init>", desc := "()V", sig := { parameters := [], returnType := none }, accessFlags := 1, code := none }
/-- java/lang/Object -/
def k0 : Class := { plain "java/lang/Object" none with
  accessFlags := 33
  interfaces := #[]
  cf := some (fileOf pool0 8 #[] #[{ accessFlags := 1, nameIndex := 5, descriptorIndex := 6, attributes := #[] }] 33 0 #[] #[])
  fields := #[]
  methods := #[k0m0]
  instanceTypes := #[]
  staticTypes := #[]
  resolved := Array.replicate 124 none
  statics := none }

def pool1 : Array CpInfo := pool [(2, .class_ 4), (1, u "java/lang/Object"), (0, u "<init>"), (0, u "()V"), (0, .integer 64976), (0, .methodref 9 10), (0, .class_ 11), (0, .nameAndType 12 13), (0, u "com/example/lattice_node/latticenode/core/query/PatternMatch"), (0, u "isUnheld"), (0, u "(I)Z"), (0, .class_ 15), (0, u "com/example/lattice_node/latticenode/core/query/PatternMatchIsUnheldPinLaw"), (2, u "law"), (0, u "(II)Z")] 3

def k1m0 : Method := { name := "<init>", desc := "()V", sig := { parameters := [], returnType := none }, accessFlags := 2, code := none }
def k1c1 : Code := { maxStack := 3, maxLocals := 5, code := code, exceptionTable := #[], attributes := #[] }
def k1m1 : Method := { name := "law", desc := "(II)Z", sig := { parameters := [.int, .int], returnType := some .boolean }, accessFlags := 9, code := some k1c1 }
/-- com/example/lattice_node/latticenode/core/query/PatternMatchIsUnheldPinLaw -/
def k1 : Class := { plain "com/example/lattice_node/latticenode/core/query/PatternMatchIsUnheldPinLaw" (some 0) with
  accessFlags := 49
  interfaces := #[]
  cf := some (fileOf pool1 14 #[] #[{ accessFlags := 2, nameIndex := 5, descriptorIndex := 6, attributes := #[] }, { accessFlags := 9, nameIndex := 18, descriptorIndex := 19, attributes := #[] }] 49 2 #[] #[])
  fields := #[]
  methods := #[k1m0, k1m1]
  instanceTypes := #[]
  staticTypes := #[]
  resolved := Array.replicate 23 none
  statics := none }

def pool2 : Array CpInfo := pool [(1, .class_ 2), (0, u "com/example/lattice_node/latticenode/core/query/Restriction"), (0, .class_ 4), (0, u "java/lang/Object")] 11

/-- com/example/lattice_node/latticenode/core/query/Restriction -/
def k2 : Class := { plain "com/example/lattice_node/latticenode/core/query/Restriction" (some 0) with
  accessFlags := 1537
  interfaces := #[]
  cf := some (fileOf pool2 1 #[] #[] 1537 3 #[] #[])
  fields := #[]
  methods := #[]
  instanceTypes := #[]
  staticTypes := #[]
  resolved := Array.replicate 16 none
  statics := none }

def pool3 : Array CpInfo := pool [(1, .class_ 2), (0, u "com/example/lattice_node/latticenode/core/query/Condition"), (0, .class_ 4), (0, u "java/lang/Object"), (0, .class_ 6), (0, u "com/example/lattice_node/latticenode/core/query/Restriction")] 18

/-- com/example/lattice_node/latticenode/core/query/Condition -/
def k3 : Class := { plain "com/example/lattice_node/latticenode/core/query/Condition" (some 0) with
  accessFlags := 1537
  interfaces := #[2]
  cf := some (fileOf pool3 1 #[] #[] 1537 3 #[5] #[])
  fields := #[]
  methods := #[]
  instanceTypes := #[]
  staticTypes := #[]
  resolved := Array.replicate 25 none
  statics := none }

def pool4 : Array CpInfo := pool [(1, .class_ 2), (0, u "com/example/lattice_node/latticenode/core/query/PatternMatch"), (1, .class_ 6), (1, u "java/lang/Object"), (4, u "subject"), (0, u "Ljava/lang/Object;"), (2, u "pattern"), (0, u "Ljava/lang/String;"), (14, u "characters"), (0, u "[I"), (35, .integer 64976), (0, .integer 65007), (0, .class_ 71), (0, u "com/example/lattice_node/latticenode/core/query/Condition"), (0, u "FIRST_UNHELD"), (0, u "C"), (1, u "LAST_UNHELD"), (0, u "MAX_DISTINCT_CHARACTERS"), (0, u "I"), (18, u "isUnheld"), (0, u "(I)Z")] 18

def k4c0 : Code := { maxStack := 2, maxLocals := 1, code := prog_68_method_7_code, exceptionTable := #[], attributes := #[] }
def k4m0 : Method := { name := "isUnheld", desc := "(I)Z", sig := { parameters := [.int], returnType := some .boolean }, accessFlags := 9, code := some k4c0 }
/-- com/example/lattice_node/latticenode/core/query/PatternMatch -/
def k4 : Class := { plain "com/example/lattice_node/latticenode/core/query/PatternMatch" (some 0) with
  accessFlags := 49
  interfaces := #[3]
  cf := some (fileOf pool4 1 #[] #[{ accessFlags := 9, nameIndex := 96, descriptorIndex := 97, attributes := #[] }] 49 4 #[70] #[{ accessFlags := 25, nameIndex := 72, descriptorIndex := 73, attributes := #[] }, { accessFlags := 25, nameIndex := 75, descriptorIndex := 73, attributes := #[] }, { accessFlags := 25, nameIndex := 76, descriptorIndex := 77, attributes := #[] }, { accessFlags := 18, nameIndex := 11, descriptorIndex := 12, attributes := #[] }, { accessFlags := 18, nameIndex := 15, descriptorIndex := 16, attributes := #[] }, { accessFlags := 18, nameIndex := 31, descriptorIndex := 32, attributes := #[] }])
  fields := #[{ name := "FIRST_UNHELD", type := .char, accessFlags := 25, slot := 0, constantValue := 0 }, { name := "LAST_UNHELD", type := .char, accessFlags := 25, slot := 1, constantValue := 0 }, { name := "MAX_DISTINCT_CHARACTERS", type := .int, accessFlags := 25, slot := 2, constantValue := 0 }, { name := "subject", type := (.object "java/lang/Object"), accessFlags := 18, slot := 0, constantValue := 0 }, { name := "pattern", type := (.object "java/lang/String"), accessFlags := 18, slot := 1, constantValue := 0 }, { name := "characters", type := (.array .int), accessFlags := 18, slot := 2, constantValue := 0 }]
  methods := #[k4m0]
  instanceTypes := #[(.object "java/lang/Object"), (.object "java/lang/String"), (.array .int)]
  staticTypes := #[.char, .char, .int]
  resolved := Array.replicate 116 none
  statics := none }

def pool5 : Array CpInfo := pool [(1, u "java/lang/Cloneable"), (0, .class_ 1), (0, u "java/lang/Object"), (0, .class_ 3)] 3

/-- java/lang/Cloneable -/
def k5 : Class := { plain "java/lang/Cloneable" (some 0) with
  accessFlags := 1537
  interfaces := #[]
  cf := some (fileOf pool5 2 #[] #[] 1537 4 #[] #[])
  fields := #[]
  methods := #[]
  instanceTypes := #[]
  staticTypes := #[]
  resolved := Array.replicate 8 none
  statics := none }

def pool6 : Array CpInfo := pool [(1, u "java/io/Serializable"), (0, .class_ 1), (0, u "java/lang/Object"), (0, .class_ 3)] 3

/-- java/io/Serializable -/
def k6 : Class := { plain "java/io/Serializable" (some 0) with
  accessFlags := 1537
  interfaces := #[]
  cf := some (fileOf pool6 2 #[] #[] 1537 4 #[] #[])
  fields := #[]
  methods := #[]
  instanceTypes := #[]
  staticTypes := #[]
  resolved := Array.replicate 8 none
  statics := none }

/-- the primitive byte -/
def k7 : Class := { plain "byte" none with kind := .primitive 'B', accessFlags := 0x411 }
/-- [B -/
def k8 : Class := { plain "[B" (some 0) with kind := .array 7 .byte, interfaces := #[5, 6], accessFlags := 1041 }

/-- the primitive int -/
def k9 : Class := { plain "int" none with kind := .primitive 'I', accessFlags := 0x411 }
/-- [I -/
def k10 : Class := { plain "[I" (some 0) with kind := .array 9 .int, interfaces := #[5, 6], accessFlags := 1041 }

def heap : Heap := #[]
def classes : Array Class := #[k0, k1, k2, k3, k4, k5, k6, k7, k8, k9, k10]
def interned : List (Array UInt16 × Addr) := []
def slotsUsed : Nat := 0
def theMethod : MethodId := ⟨1, 1⟩
def args0 : Array Value := #[.int 5, .int 1]
def aboutOver (below : List Frame) : State where
  vm := { classes := classes, interned := interned.toArray }
  heap := heap
  slotsUsed := slotsUsed
  threads := #[{ frames := .invoking theMethod args0 :: below }]
def below0 : List Frame := [.native { method := ⟨0, 0⟩, args := #[] }]
def about1 : State := aboutOver below0
def p0 : Program := .bare "" "" ""
def e0 : Env := launch0.env 0 0 0
theorem w_frames : about1.frames = Frame.invoking theMethod args0 :: below0 := rfl
set_option maxRecDepth 65536 in
theorem w_args : argsFit about1.vm theMethod args0 = true := by decide +kernel
set_option maxRecDepth 65536 in
theorem w_heap : heapFits about1 = true := by decide +kernel
set_option maxRecDepth 65536 in
theorem w_runnable : about1.curStatus? = some .runnable := by decide +kernel
set_option maxRecDepth 65536 in
theorem w_alone : about1.alone = true := by decide +kernel
set_option maxRecDepth 65536 in
theorem w_named : about1.methodNamed? x = some theMethod := by decide +kernel
set_option maxRecDepth 65536 in
theorem w_hears : about1.hears theMethod below0 = true := by decide +kernel
set_option maxRecDepth 65536 in
theorem w_ripe : about1.ripe theMethod args0 below0 = true := by decide +kernel
theorem w_running : about1.status = .running := rfl
set_option maxRecDepth 65536 in
theorem w_room : about1.hasRoom e0.platform room_1 = true :=
  launch0.hasRoom_least _ room_1 (by decide +kernel) (by decide +kernel) (by decide +kernel) (by decide +kernel) (by decide +kernel) (by decide +kernel)
theorem allAtoms_all (ts : List Jvm.Cond) (a : Array Jvm.Value) (st : Jvm.State) : (allAtoms ts).before a st = ts.all (fun c => c.before a st) := by
  induction ts with
  | nil => rfl
  | cons c t ih =>
    show (Jvm.Cond.and c (allAtoms t)).before a st = _
    rw [Jvm.Cond.before_and, ih, List.all_cons]
def words1 : List Jvm.Cond := Jvm.Cond.code x code maxLocals ret :: tables_1
/-- a 'code' word, met by the world's own term for the bytes: nothing is compared byte by byte -/
theorem code_word {y : MethodName} {bytes : ByteArray} {mx : Nat} {rt : Option FieldType} {a : Array Value} {s : State} {m : MethodId} {meth : Method} {c : Code} (h1 : s.methodNamed? y = some m) (h2 : s.vm.method? m = some meth) (h3 : meth.code = some c) (h4 : c.code = bytes)
    (h5 : (c.maxLocals == mx && c.exceptionTable.isEmpty && decide (c.maxStack ≤ mostOperands) && decide (meth.sig.returnType = rt) && !meth.locks && decide (parseMethodDescriptor y.desc = some meth.sig)) = true) : (Jvm.Cond.code y bytes mx rt).before a s = true := by
  simp only [Bool.and_eq_true, beq_iff_eq, Bool.not_eq_true', decide_eq_true_eq] at h5
  obtain ⟨⟨⟨⟨⟨g1, g2⟩, g3⟩, g4⟩, g5⟩, g6⟩ := h5
  simp [Cond.before, Cond.holds, Cond.value, h1, h2, h3, h4, g1, g2, g3, g4, g5, g6]
def isCode : Jvm.Cond → Bool
  | .code _ _ _ _ => true
  | _ => false
theorem all_split {L : List Jvm.Cond} {P : Jvm.Cond → Bool} (h1 : L.all (fun c => isCode c || P c) = true) (h2 : ∀ c ∈ L.filter isCode, P c = true) : L.all P = true := by
  refine List.all_eq_true.mpr fun c hc => ?_
  have h := List.all_eq_true.mp h1 c hc
  rcases Bool.eq_false_or_eq_true (isCode c) with hi | hi
  · exact h2 c (List.mem_filter.mpr ⟨hc, hi⟩)
  · simpa [hi] using h
set_option maxRecDepth 65536 in
theorem w_c0 : (Jvm.Cond.code x code maxLocals ret).before args0 about1 = true := code_word (m := ⟨1, 1⟩) (meth := k1m1) (c := k1c1) (by decide +kernel) rfl rfl rfl (by decide +kernel)
set_option maxRecDepth 65536 in
theorem w_c1 : (Jvm.Cond.code ({ cls := "com/example/lattice_node/latticenode/core/query/PatternMatch", name := "isUnheld", desc := "(I)Z" } : Jvm.MethodName) prog_68_method_7_code (1 : Nat) (Option.some Jvm.ClassFile.FieldType.boolean)).before args0 about1 = true := code_word (m := ⟨4, 0⟩) (meth := k4m0) (c := k4c0) (by decide +kernel) rfl rfl rfl (by decide +kernel)
def codes1 : List Jvm.Cond := [Jvm.Cond.code x code maxLocals ret, Jvm.Cond.code ({ cls := "com/example/lattice_node/latticenode/core/query/PatternMatch", name := "isUnheld", desc := "(I)Z" } : Jvm.MethodName) prog_68_method_7_code (1 : Nat) (Option.some Jvm.ClassFile.FieldType.boolean)]
set_option maxRecDepth 65536 in
theorem codes_eq : words1.filter isCode = codes1 := rfl
theorem w_codes : ∀ c ∈ words1.filter isCode, c.before args0 about1 = true := by
  rw [codes_eq]
  intro c hc
  simp only [codes1, List.mem_cons, List.not_mem_nil, or_false] at hc
  rcases hc with rfl | rfl
  · exact w_c0
  · exact w_c1
set_option maxRecDepth 65536 in
theorem w_t1 : words1.all (fun c => isCode c || c.before args0 about1) = true := by decide +kernel
theorem w_tables : (allAtoms (Jvm.Cond.code x code maxLocals ret :: tables_1)).before args0 about1 = true := by
  rw [allAtoms_all]
  show words1.all (fun c => c.before args0 about1) = true
  refine all_split ?_ w_codes
  rw [w_t1]
set_option maxRecDepth 65536 in
theorem w_case : (Jvm.Cond.and given_1 narrow_1).before args0 about1 = true := by decide +kernel
theorem w_applies : (headSpec (Jvm.Cond.code x code maxLocals ret :: tables_1) room_1).applies x e0.platform about1 = true :=
  (Spec.applies_iff w_frames).mpr ⟨w_running, w_runnable, w_alone, w_named, w_hears, w_ripe, w_room, w_tables⟩
theorem atStart : AtStart classFile x code maxLocals ret World_1 tables_1 room_1 Calls_1 rest_1 Pre_1 launch0 p0 e0 about1 theMethod args0 below0 :=
  ⟨lists_1, trivial, launch0.admits_env _ _ _, launch0.least_env, fairChoices_fair.cas, fairChoices_fair.clock, w_frames, w_args, w_heap, w_applies, trivial, trivial, w_case⟩
end start1
theorem witness_1 : WitnessClaimed_1 := ⟨start1.p0, start1.e0, start1.about1, start1.theMethod, start1.args0, start1.below0, start1.atStart⟩
end Jvm.Pilot.@@N@@
