import JvmDerived
import JvmDerived.Pilot.@@N@@Statement
import JvmDerived.Pilot.@@N@@Code
set_option linter.unusedVariables false
set_option linter.unusedSimpArgs false
namespace Jvm.Pilot.@@N@@
open Jvm Jvm.ClassFile Sem Op Lib Jvm.Free Jvm.Stand Jvm.LawKit Jvm.RoadKit Bundle Jvm.Pilot.@@N@@.Jvm.D
/-! from a frame on, the body comes to its end as Q says -/
section OwnKit
variable {p : Program} {l : Launch} {e : Env} {R : Room} {s : State} {m : MethodId} {args : Array Value} {below : List Frame} {meth : Method} {c : Code} {T T' : State} {locs : List Loc} {cells slots C D : Nat} {Q Q' : Option Value → Heap → List Loc → Prop} {g g' : JFrame}
def Go (p : Program) (e : Env) (below : List Frame) (s : State) (C D : Nat) (Q : Option Value → Heap → List Loc → Prop) (T : State) (g : JFrame) : Prop :=
  ∃ u o, Steps p.tables e below (T.setTop g) u ∧ u.status = .running ∧ Ended u below o ∧ ∃ v L, o = .returned v ∧ Q v u.heap L ∧ FrameEnd s o u L C D
def PureQ (r : Value) (h0 : Heap) (v : Option Value) (h : Heap) (L : List Loc) : Prop := v = some r ∧ L = [] ∧ h = h0
theorem Go.step (k : ∀ t, Steps p.tables e below (T'.setTop g') t → Steps p.tables e below (T.setTop g) t) (h : Go p e below s C D Q T' g') : Go p e below s C D Q T g := by
  obtain ⟨u, o, h1, r⟩ := h
  exact ⟨u, o, k _ h1, r⟩
theorem Go.mono (h : Go p e below s C D Q T g) (q : ∀ v h L, Q v h L → Q' v h L) : Go p e below s C D Q' T g := by
  obtain ⟨u, o, h1, h2, h3, v, L, h4, h5, h6⟩ := h
  exact ⟨u, o, h1, h2, h3, v, L, h4, q _ _ _ h5, h6⟩
theorem Go.retN (X : Stand p l e R s m args below meth c T locs cells slots) (hx : p.tables.exec = Jvm.exec) (hlk : meth.locks = false) {pc : Nat} {Ls : Array Slot} {z : Int32} {t : FieldType} {rest : List Value} (hret : meth.sig.returnType = some t) (ht : t = .boolean ∨ t = .byte ∨ t = .char ∨ t = .short)
    (hd : decode c.code pc = .ok (.ireturn, 1)) (hC : cells ≤ C) (hD : slots ≤ D) (hq : Q (some (.int (nar t z))) T.heap locs) : Go p e below s C D Q T (mkF m pc Ls (.int z :: rest)) := by
  obtain ⟨fs, hr, hrun, hended, hW, hsame⟩ := X.leave (v := some (.int (nar t z))) (fun h => by rw [hret] at h; cases h) hlk
  exact ⟨_, _, Jvm.RoadKit.retN X hx hret ht hd hr, hrun, hended, _, _, rfl, hq, ⟨_, rfl⟩, hW, hsame.mono hC hD⟩
theorem Go.retW (X : Stand p l e R s m args below meth c T locs cells slots) (hx : p.tables.exec = Jvm.exec) (hlk : meth.locks = false) {pc : Nat} {Ls : Array Slot} {w : Value} {t : FieldType} {i : Instr} {rest : List Value} (hret : meth.sig.returnType = some t) (hn : narrow t w = w)
    (hi : (i = .ireturn ∧ (t = .int ∨ t = .boolean ∨ t = .byte ∨ t = .char ∨ t = .short) ∧ ∃ z, w = .int z) ∨ (i = .lreturn ∧ t = .long ∧ ∃ z, w = .long z) ∨ (i = .dreturn ∧ t = .double ∧ ∃ z, w = .double z) ∨ (i = .freturn ∧ t = .float ∧ ∃ z, w = .float z) ∨ (i = .areturn ∧ t.isReference = true ∧ w.isRef = true))
    (hd : decode c.code pc = .ok (i, 1)) (hC : cells ≤ C) (hD : slots ≤ D) (hq : Q (some w) T.heap locs) : Go p e below s C D Q T (mkF m pc Ls (w :: rest)) := by
  obtain ⟨fs, hr, hrun, hended, hW, hsame⟩ := X.leave (v := some w) (fun h => by rw [hret] at h; cases h) hlk
  exact ⟨_, _, retOut X hx hret hn hi hd hr, hrun, hended, _, _, rfl, hq, ⟨_, rfl⟩, hW, hsame.mono hC hD⟩
theorem Go.ret0 (X : Stand p l e R s m args below meth c T locs cells slots) (hx : p.tables.exec = Jvm.exec) (hlk : meth.locks = false) {pc : Nat} {Ls : Array Slot} (hret : meth.sig.returnType = none)
    (hd : decode c.code pc = .ok (.return_, 1)) (hC : cells ≤ C) (hD : slots ≤ D) (hq : Q none T.heap locs) : Go p e below s C D Q T (mkF m pc Ls []) := by
  obtain ⟨fs, hr, hrun, hended, hW, hsame⟩ := X.leave (v := none) (fun _ => rfl) hlk
  exact ⟨_, _, X.returnOut hx hret hd hr, hrun, hended, _, _, rfl, hq, ⟨_, rfl⟩, hW, hsame.mono hC hD⟩
end OwnKit
theorem pd_0 : parseMethodDescriptor "(J)Z" = some ⟨[.long], some .boolean⟩ := by decide +kernel
theorem d1_0 : decode prog_14_method_2_code 0 = .ok (.lload_n 0, 1) := by decide +kernel
theorem d1_1 : decode prog_14_method_2_code 1 = .ok (.ldc2_w 7, 3) := by decide +kernel
theorem d1_4 : decode prog_14_method_2_code 4 = .ok (.lcmp, 1) := by decide +kernel
theorem d1_5 : decode prog_14_method_2_code 5 = .ok (.ifCond .lt 15, 3) := by decide +kernel
theorem d1_8 : decode prog_14_method_2_code 8 = .ok (.lload_n 0, 1) := by decide +kernel
theorem d1_9 : decode prog_14_method_2_code 9 = .ok (.ldc2_w 9, 3) := by decide +kernel
theorem d1_12 : decode prog_14_method_2_code 12 = .ok (.lcmp, 1) := by decide +kernel
theorem d1_13 : decode prog_14_method_2_code 13 = .ok (.ifCond .ge 7, 3) := by decide +kernel
theorem d1_16 : decode prog_14_method_2_code 16 = .ok (.iconst 1, 1) := by decide +kernel
theorem d1_17 : decode prog_14_method_2_code 17 = .ok (.goto 4, 3) := by decide +kernel
theorem d1_20 : decode prog_14_method_2_code 20 = .ok (.iconst 0, 1) := by decide +kernel
theorem d1_21 : decode prog_14_method_2_code 21 = .ok (.ireturn, 1) := by decide +kernel
theorem pn_1 : plainName "com/example/quotarail/quotarail/io/ResultCode" = true := by first | (simp [plainName, overriddenIn]; done) | decide +kernel
theorem ef_1 (m : MethodId) (q0 : Int64) : entryFrame m #[(.long q0)] 2 = mkF m 0 #[.val (.long q0), .second] [] := by first | (simp [entryFrame, mkF, argsToLocals, Value.category]; done) | rfl
def f1_21 (v21_s0 : Int32) : Int32 := (nar .boolean v21_s0)
def f1_20 : Int32 := (f1_21 (0 : Int32))
def f1_16 : Int32 := (f1_21 (1 : Int32))
def f1_8 (q0 : Int64) : Int32 := if (lcmpW q0 (4000 : Int64)) < (0 : Int32) then f1_16 else f1_20
def f1_0 (q0 : Int64) : Int32 := if (lcmpW q0 (3000 : Int64)) < (0 : Int32) then f1_20 else (f1_8 q0)
set_option maxRecDepth 65536 in
set_option maxHeartbeats 40000000 in
theorem rm1 (l : Launch) (Z : State) (a0 : Array Value) (hw : ∀ d ∈ tables_1, d.before a0 Z = true) (ws : List Jvm.Cond) (q0 : Int64)  (h0 : Heap) :
    MetFree l (⟨"com/example/quotarail/quotarail/io/ResultCode", "isProtocolError", "(J)Z"⟩ : MethodName) (head1 (Jvm.Cond.code (⟨"com/example/quotarail/quotarail/io/ResultCode", "isProtocolError", "(J)Z"⟩ : MethodName) prog_14_method_2_code 2 (some .boolean) :: ws) ({ frames := 0, cells := 0, slots := 0, locals := 0 } : Room)) (fun a U => a = #[(.long q0)] ∧ Z.Warmed39 U.vm ∧ U.heap = h0) (fun _ _ _ _ _ => True) (fun _ U o U' => ∃ v L, o = .returned v ∧ (PureQ (.int (f1_0 q0)) h0) v U'.heap L ∧ FrameEnd U o U' L ({ frames := 0, cells := 0, slots := 0, locals := 0 } : Room).cells ({ frames := 0, cells := 0, slots := 0, locals := 0 } : Room).slots) := by
  refine MetFree.of_bodySF (plainFor_of_name pn_1) hisR ?_
  intro p e s m args below meth c s₁ Bd hml0 hP hK
  obtain ⟨rfl, hZ, hh⟩ := hP
  have hx := Bd.exec
  have hby := Bd.bytes
  have hlk : meth.locks = false := BodyLoose.notSynchronized Bd
  have hml : c.maxLocals = 2 := hml0
  have hown : s.vm.findClass "com/example/quotarail/quotarail/io/ResultCode" = some m.cls := findClass_of_methodNamed Bd.named
  have hnm := (name_of_methodNamed Bd.named Bd.method).1
  have X0 : Stand p l e ({ frames := 0, cells := 0, slots := 0, locals := 0 } : Room) s m #[(.long q0)] below meth c s₁ ([] : List Loc) 0 0 := Stand.of_body Bd
  have e0 : s₁.heap = h0 := by rw [← hh, Bd.state]; rfl
  show Go p e below s 0 0 (PureQ (.int (f1_0 q0)) h0) s₁ (entryFrame m #[(.long q0)] 2)
  rw [ef_1 m q0]
  refine Go.step (g' := (mkF m 1 #[.val (.long q0), .second] [(.long q0)])) (fun _ k => XS.lloadN X0.here hx rfl (hb hby d1_0) rfl  k) ?_
  refine Go.step (g' := (mkF m 4 #[.val (.long q0), .second] [(.long (3000 : Int64)), (.long q0)])) (fun _ k => X0.ldc2J hx hown (mvT hZ (hw _ (List.mem_of_getElem? (i := 4) rfl))) rfl (hb hby d1_1) k) ?_
  refine Go.step (g' := (mkF m 5 #[.val (.long q0), .second] [(.int (lcmpW q0 (3000 : Int64)))])) (fun _ k => XS.lcmp X0.here hx rfl (hb hby d1_4) rfl k) ?_
  have t21 : ∀ (v21_s0 : Int32), Go p e below s 0 0 (PureQ (.int (f1_21 v21_s0)) h0) s₁ (mkF m 21 #[.val (.long q0), .second] [(.int v21_s0)]) := by
    intro v21_s0
    exact Go.retN X0 hx hlk (t := .boolean) Bd.returns (by simp) (hb hby d1_21) (by decide) (by decide) ⟨rfl, rfl, e0⟩
  have t20 : Go p e below s 0 0 (PureQ (.int f1_20) h0) s₁ (mkF m 20 #[.val (.long q0), .second] []) := by
    refine Go.step (g' := (mkF m 21 #[.val (.long q0), .second] [(.int (0 : Int32))])) (fun _ k => XS.iconst X0.here hx rfl (hb hby d1_20) k) ?_
    rw [show f1_20 = (f1_21 (0 : Int32)) from rfl]
    exact t21 (0 : Int32)
  by_cases hc5 : (lcmpW q0 (3000 : Int64)) < (0 : Int32)
  · rw [show (f1_0 q0) = f1_20 from if_pos hc5]
    refine Go.step (g' := (mkF m 20 #[.val (.long q0), .second] [])) (fun _ k => XS.ifYes X0.here hx rfl (pc0 := 5) (pc' := 20) rfl (hb hby d1_5) rfl ((if0 _ _).trans (tlt hc5).1) (by decide) (by decide) k) ?_
    exact t20 
  · rw [show (f1_0 q0) = (f1_8 q0) from if_neg hc5]
    refine Go.step (g' := (mkF m 8 #[.val (.long q0), .second] [])) (fun _ k => XS.ifNo X0.here hx rfl (hb hby d1_5) rfl ((if0 _ _).trans (flt hc5).1) k) ?_
    refine Go.step (g' := (mkF m 9 #[.val (.long q0), .second] [(.long q0)])) (fun _ k => XS.lloadN X0.here hx rfl (hb hby d1_8) rfl  k) ?_
    refine Go.step (g' := (mkF m 12 #[.val (.long q0), .second] [(.long (4000 : Int64)), (.long q0)])) (fun _ k => X0.ldc2J hx hown (mvT hZ (hw _ (List.mem_of_getElem? (i := 13) rfl))) rfl (hb hby d1_9) k) ?_
    refine Go.step (g' := (mkF m 13 #[.val (.long q0), .second] [(.int (lcmpW q0 (4000 : Int64)))])) (fun _ k => XS.lcmp X0.here hx rfl (hb hby d1_12) rfl k) ?_
    by_cases hc13 : (lcmpW q0 (4000 : Int64)) < (0 : Int32)
    · rw [show (f1_8 q0) = f1_16 from if_pos hc13]
      refine Go.step (g' := (mkF m 16 #[.val (.long q0), .second] [])) (fun _ k => XS.ifNo X0.here hx rfl (hb hby d1_13) rfl ((if0 _ _).trans (tlt hc13).2.1) k) ?_
      refine Go.step (g' := (mkF m 17 #[.val (.long q0), .second] [(.int (1 : Int32))])) (fun _ k => XS.iconst X0.here hx rfl (hb hby d1_16) k) ?_
      refine Go.step (g' := (mkF m 21 #[.val (.long q0), .second] [(.int (1 : Int32))])) (fun _ k => XS.goto X0.here hx rfl (pc0 := 17) (pc' := 21) rfl (hb hby d1_17) (by decide) (by decide) k) ?_
      rw [show f1_16 = (f1_21 (1 : Int32)) from rfl]
      exact t21 (1 : Int32)
    · rw [show (f1_8 q0) = f1_20 from if_neg hc13]
      refine Go.step (g' := (mkF m 20 #[.val (.long q0), .second] [])) (fun _ k => XS.ifYes X0.here hx rfl (pc0 := 13) (pc' := 20) rfl (hb hby d1_13) rfl ((if0 _ _).trans (flt hc13).2.1) (by decide) (by decide) k) ?_
      exact t20 
theorem d2_0 : decode method_2_code 0 = .ok (.lload_n 0, 1) := by decide +kernel
theorem d2_1 : decode method_2_code 1 = .ok (.ldc2_w 7, 3) := by decide +kernel
theorem d2_4 : decode method_2_code 4 = .ok (.ldiv, 1) := by decide +kernel
theorem d2_5 : decode method_2_code 5 = .ok (.ldc2_w 9, 3) := by decide +kernel
theorem d2_8 : decode method_2_code 8 = .ok (.lcmp, 1) := by decide +kernel
theorem d2_9 : decode method_2_code 9 = .ok (.ifCond .ne 7, 3) := by decide +kernel
theorem d2_12 : decode method_2_code 12 = .ok (.iconst 1, 1) := by decide +kernel
theorem d2_13 : decode method_2_code 13 = .ok (.goto 4, 3) := by decide +kernel
theorem d2_16 : decode method_2_code 16 = .ok (.iconst 0, 1) := by decide +kernel
theorem d2_17 : decode method_2_code 17 = .ok (.ireturn, 1) := by decide +kernel
theorem pn_2 : plainName "com/example/quotarail/quotarail/io/ResultCodeIsProtocolErrorPinLaw" = true := by first | (simp [plainName, overriddenIn]; done) | decide +kernel
theorem ef_2 (m : MethodId) (q0 : Int64) : entryFrame m #[(.long q0)] 2 = mkF m 0 #[.val (.long q0), .second] [] := by first | (simp [entryFrame, mkF, argsToLocals, Value.category]; done) | rfl
def f2_17 (v17_s0 : Int32) : Int32 := (nar .boolean v17_s0)
def f2_16 : Int32 := (f2_17 (0 : Int32))
def f2_12 : Int32 := (f2_17 (1 : Int32))
def f2_0 (q0 : Int64) : Int32 := if (lcmpW (q0 / (1000 : Int64)) (3 : Int64)) = (0 : Int32) then f2_12 else f2_16
set_option maxRecDepth 65536 in
set_option maxHeartbeats 40000000 in
theorem rm2 (l : Launch) (Z : State) (a0 : Array Value) (hw : ∀ d ∈ tables_1, d.before a0 Z = true) (ws : List Jvm.Cond) (q0 : Int64)  (h0 : Heap) :
    MetFree l (⟨"com/example/quotarail/quotarail/io/ResultCodeIsProtocolErrorPinLaw", "thousandsClassIsThree", "(J)Z"⟩ : MethodName) (head1 (Jvm.Cond.code (⟨"com/example/quotarail/quotarail/io/ResultCodeIsProtocolErrorPinLaw", "thousandsClassIsThree", "(J)Z"⟩ : MethodName) method_2_code 2 (some .boolean) :: ws) ({ frames := 0, cells := 0, slots := 0, locals := 0 } : Room)) (fun a U => a = #[(.long q0)] ∧ Z.Warmed39 U.vm ∧ U.heap = h0) (fun _ _ _ _ _ => True) (fun _ U o U' => ∃ v L, o = .returned v ∧ (PureQ (.int (f2_0 q0)) h0) v U'.heap L ∧ FrameEnd U o U' L ({ frames := 0, cells := 0, slots := 0, locals := 0 } : Room).cells ({ frames := 0, cells := 0, slots := 0, locals := 0 } : Room).slots) := by
  refine MetFree.of_bodySF (plainFor_of_name pn_2) hisR ?_
  intro p e s m args below meth c s₁ Bd hml0 hP hK
  obtain ⟨rfl, hZ, hh⟩ := hP
  have hx := Bd.exec
  have hby := Bd.bytes
  have hlk : meth.locks = false := BodyLoose.notSynchronized Bd
  have hml : c.maxLocals = 2 := hml0
  have hown : s.vm.findClass "com/example/quotarail/quotarail/io/ResultCodeIsProtocolErrorPinLaw" = some m.cls := findClass_of_methodNamed Bd.named
  have hnm := (name_of_methodNamed Bd.named Bd.method).1
  have X0 : Stand p l e ({ frames := 0, cells := 0, slots := 0, locals := 0 } : Room) s m #[(.long q0)] below meth c s₁ ([] : List Loc) 0 0 := Stand.of_body Bd
  have e0 : s₁.heap = h0 := by rw [← hh, Bd.state]; rfl
  show Go p e below s 0 0 (PureQ (.int (f2_0 q0)) h0) s₁ (entryFrame m #[(.long q0)] 2)
  rw [ef_2 m q0]
  refine Go.step (g' := (mkF m 1 #[.val (.long q0), .second] [(.long q0)])) (fun _ k => XS.lloadN X0.here hx rfl (hb hby d2_0) rfl  k) ?_
  refine Go.step (g' := (mkF m 4 #[.val (.long q0), .second] [(.long (1000 : Int64)), (.long q0)])) (fun _ k => X0.ldc2J hx hown (mvT hZ (hw _ (List.mem_of_getElem? (i := 9) rfl))) rfl (hb hby d2_1) k) ?_
  refine Go.step (g' := (mkF m 5 #[.val (.long q0), .second] [(.long (q0 / (1000 : Int64)))])) (fun _ k => XS.ldiv X0.here hx rfl (hb hby d2_4) rfl (by decide) k) ?_
  refine Go.step (g' := (mkF m 8 #[.val (.long q0), .second] [(.long (3 : Int64)), (.long (q0 / (1000 : Int64)))])) (fun _ k => X0.ldc2J hx hown (mvT hZ (hw _ (List.mem_of_getElem? (i := 10) rfl))) rfl (hb hby d2_5) k) ?_
  refine Go.step (g' := (mkF m 9 #[.val (.long q0), .second] [(.int (lcmpW (q0 / (1000 : Int64)) (3 : Int64)))])) (fun _ k => XS.lcmp X0.here hx rfl (hb hby d2_8) rfl k) ?_
  have t17 : ∀ (v17_s0 : Int32), Go p e below s 0 0 (PureQ (.int (f2_17 v17_s0)) h0) s₁ (mkF m 17 #[.val (.long q0), .second] [(.int v17_s0)]) := by
    intro v17_s0
    exact Go.retN X0 hx hlk (t := .boolean) Bd.returns (by simp) (hb hby d2_17) (by decide) (by decide) ⟨rfl, rfl, e0⟩
  by_cases hc9 : (lcmpW (q0 / (1000 : Int64)) (3 : Int64)) = (0 : Int32)
  · rw [show (f2_0 q0) = f2_12 from if_pos hc9]
    refine Go.step (g' := (mkF m 12 #[.val (.long q0), .second] [])) (fun _ k => XS.ifNo X0.here hx rfl (hb hby d2_9) rfl ((if0 _ _).trans (teq hc9).2) k) ?_
    refine Go.step (g' := (mkF m 13 #[.val (.long q0), .second] [(.int (1 : Int32))])) (fun _ k => XS.iconst X0.here hx rfl (hb hby d2_12) k) ?_
    refine Go.step (g' := (mkF m 17 #[.val (.long q0), .second] [(.int (1 : Int32))])) (fun _ k => XS.goto X0.here hx rfl (pc0 := 13) (pc' := 17) rfl (hb hby d2_13) (by decide) (by decide) k) ?_
    rw [show f2_12 = (f2_17 (1 : Int32)) from rfl]
    exact t17 (1 : Int32)
  · rw [show (f2_0 q0) = f2_16 from if_neg hc9]
    refine Go.step (g' := (mkF m 16 #[.val (.long q0), .second] [])) (fun _ k => XS.ifYes X0.here hx rfl (pc0 := 9) (pc' := 16) rfl (hb hby d2_9) rfl ((if0 _ _).trans (feq hc9).2) (by decide) (by decide) k) ?_
    refine Go.step (g' := (mkF m 17 #[.val (.long q0), .second] [(.int (0 : Int32))])) (fun _ k => XS.iconst X0.here hx rfl (hb hby d2_16) k) ?_
    rw [show f2_16 = (f2_17 (0 : Int32)) from rfl]
    exact t17 (0 : Int32)
theorem pn_0 : plainName "com/example/quotarail/quotarail/io/ResultCodeIsProtocolErrorPinLaw" = true := by first | (simp [plainName, overriddenIn]; done) | decide +kernel
theorem ef_0 (m : MethodId) (q0 : Int64) (p1 : Int32) : entryFrame m #[(.long q0), (.int p1)] maxLocals = mkF m 0 #[.val (.long q0), .second, .val (.int p1), .unset, .unset, .unset] [] := by first | (simp [entryFrame, mkF, argsToLocals, Value.category, maxLocals]; done) | rfl
def f0_146 (v146_s0 : Int32) : Int32 := (nar .boolean v146_s0)
def f0_145 : Int32 := (f0_146 (0 : Int32))
def f0_141 : Int32 := (f0_146 (1 : Int32))
def f0_132 : Int32 := if (f1_0 (5001 : Int64)) = (0 : Int32) then f0_141 else f0_145
def f0_127 (v127_s0 : Int32) : Int32 := if v127_s0 = (0 : Int32) then f0_145 else f0_132
def f0_126 : Int32 := (f0_127 (0 : Int32))
def f0_122 : Int32 := (f0_127 (1 : Int32))
def f0_113 : Int32 := if (f1_0 (4010 : Int64)) = (0 : Int32) then f0_122 else f0_126
def f0_108 (v108_s0 : Int32) : Int32 := if v108_s0 = (0 : Int32) then f0_126 else f0_113
def f0_107 : Int32 := (f0_108 (0 : Int32))
def f0_103 : Int32 := (f0_108 (1 : Int32))
def f0_94 : Int32 := if (f1_0 (2001 : Int64)) = (0 : Int32) then f0_103 else f0_107
def f0_89 (v89_s0 : Int32) : Int32 := if v89_s0 = (0 : Int32) then f0_107 else f0_94
def f0_88 : Int32 := (f0_89 (0 : Int32))
def f0_84 : Int32 := (f0_89 (1 : Int32))
def f0_75 : Int32 := if (f1_0 (3010 : Int64)) = (0 : Int32) then f0_88 else f0_84
def f0_70 (v70_s0 : Int32) : Int32 := if v70_s0 = (0 : Int32) then f0_88 else f0_75
def f0_69 : Int32 := (f0_70 (0 : Int32))
def f0_65 : Int32 := (f0_70 (1 : Int32))
def f0_56 : Int32 := if (f1_0 (3001 : Int64)) = (0 : Int32) then f0_69 else f0_65
def f0_51 (v51_s0 : Int32) : Int32 := if v51_s0 = (0 : Int32) then f0_69 else f0_56
def f0_50 : Int32 := (f0_51 (0 : Int32))
def f0_46 : Int32 := (f0_51 (1 : Int32))
def f0_33 (p1 : Int32) : Int32 := if (f1_0 ((2990 : Int64) + ((p1 &&& (1023 : Int32)).toInt64))) = (f2_0 ((2990 : Int64) + ((p1 &&& (1023 : Int32)).toInt64))) then f0_46 else f0_50
def f0_16 (p1 : Int32) (v16_s0 : Int32) : Int32 := if v16_s0 = (0 : Int32) then f0_50 else (f0_33 p1)
def f0_15 (p1 : Int32) : Int32 := (f0_16 p1 (0 : Int32))
def f0_11 (p1 : Int32) : Int32 := (f0_16 p1 (1 : Int32))
def f0_0 (q0 : Int64) (p1 : Int32) : Int32 := if (f1_0 q0) = (f2_0 q0) then (f0_11 p1) else (f0_15 p1)
set_option maxRecDepth 65536 in
set_option maxHeartbeats 40000000 in
theorem rm0 (l : Launch) (Z : State) (a0 : Array Value) (hw : ∀ d ∈ tables_1, d.before a0 Z = true) (ws : List Jvm.Cond) (q0 : Int64) (p1 : Int32)  (h0 : Heap) :
    MetFree l x (head1 (Jvm.Cond.code x code maxLocals ret :: ws) room_1) (fun a U => a = #[(.long q0), (.int p1)] ∧ Z.Warmed39 U.vm ∧ U.heap = h0) (fun _ _ _ _ _ => True) (fun _ U o U' => ∃ v L, o = .returned v ∧ (PureQ (.int (f0_0 q0 p1)) h0) v U'.heap L ∧ FrameEnd U o U' L room_1.cells room_1.slots) := by
  refine MetFree.of_bodySF (plainFor_of_name pn_0) hisR ?_
  intro p e s m args below meth c s₁ Bd hml0 hP hK
  obtain ⟨rfl, hZ, hh⟩ := hP
  have hx := Bd.exec
  have hby := Bd.bytes
  have hlk : meth.locks = false := BodyLoose.notSynchronized Bd
  have hml : c.maxLocals = 6 := hml0
  have hown : s.vm.findClass "com/example/quotarail/quotarail/io/ResultCodeIsProtocolErrorPinLaw" = some m.cls := findClass_of_methodNamed Bd.named
  have hnm := (name_of_methodNamed Bd.named Bd.method).1
  have X0 : Stand p l e room_1 s m #[(.long q0), (.int p1)] below meth c s₁ ([] : List Loc) 0 0 := Stand.of_body Bd
  have e0 : s₁.heap = h0 := by rw [← hh, Bd.state]; rfl
  show Go p e below s room_1.cells room_1.slots (PureQ (.int (f0_0 q0 p1)) h0) s₁ (entryFrame m #[(.long q0), (.int p1)] maxLocals)
  rw [ef_0 m q0 p1]
  refine Go.step (g' := (mkF m 1 #[.val (.long q0), .second, .val (.int p1), .unset, .unset, .unset] [(.long q0)])) (fun _ k => XS.lloadN X0.here hx rfl (hb hby at_0) rfl  k) ?_
  obtain ⟨_, _, ⟨T1, L1, k1, n1⟩, -, X1, ⟨Lc1, hQ1, l1, y1, z1⟩, st1⟩ := Jvm.LawKit.callS X0 hx (y := (⟨"com/example/quotarail/quotarail/io/ResultCode", "isProtocolError", "(J)Z"⟩ : MethodName)) hown (mvT hZ (hw _ (List.mem_of_getElem? (i := 0) rfl))) (mvT hZ (hw _ (List.mem_of_getElem? (i := 1) rfl))) (mvT hZ (hw _ (List.mem_of_getElem? (i := 2) rfl))) (mvT hZ (hw _ (List.mem_of_getElem? (i := 3) rfl))) (by decide) (backOf (W := 0) (rm1 l Z a0 hw [] q0 h0 ) hZ (hw _ (List.mem_of_getElem? (i := 3) rfl)) (hw _ (List.mem_of_getElem? (i := 2) rfl)) (by decide) (by decide)) (g := (mkF m 1 #[.val (.long q0), .second, .val (.int p1), .unset, .unset, .unset] [(.long q0)])) rfl (by rw [hml]; rfl) (argsL := [(.long q0)]) (rest := []) (lenOf pd_0 rfl) rfl (by show 2 * 0 + _ ≤ _; exact Nat.le_of_eq rfl) (hb hby at_1) (fun _ _ => ⟨rfl, e0, (by decide : 0 + 0 ≤ _), (by decide : 0 + 0 ≤ _)⟩)
  dsimp only [Pt.U, Pt.locs, Pt.cells, Pt.slots] at X1 l1 y1 z1 st1 hQ1
  subst l1 y1 z1
  obtain ⟨rfl, rfl, e1⟩ := hQ1
  try rw [List.append_nil] at X1
  refine Go.step (g' := (mkF m 4 #[.val (.long q0), .second, .val (.int p1), .unset, .unset, .unset] [(.int (f1_0 q0))])) st1 ?_
  refine Go.step (g' := (mkF m 5 #[.val (.long q0), .second, .val (.int p1), .unset, .unset, .unset] [(.long q0), (.int (f1_0 q0))])) (fun _ k => XS.lloadN X1.here hx rfl (hb hby at_4) rfl  k) ?_
  obtain ⟨_, _, ⟨T2, L2, k2, n2⟩, -, X2, ⟨Lc2, hQ2, l2, y2, z2⟩, st2⟩ := Jvm.LawKit.callS X1 hx (y := (⟨"com/example/quotarail/quotarail/io/ResultCodeIsProtocolErrorPinLaw", "thousandsClassIsThree", "(J)Z"⟩ : MethodName)) hown (mvT hZ (hw _ (List.mem_of_getElem? (i := 5) rfl))) (mvT hZ (hw _ (List.mem_of_getElem? (i := 6) rfl))) (mvT hZ (hw _ (List.mem_of_getElem? (i := 7) rfl))) (mvT hZ (hw _ (List.mem_of_getElem? (i := 8) rfl))) (by decide) (backOf (W := 1) (rm2 l Z a0 hw [] q0 h0 ) hZ (hw _ (List.mem_of_getElem? (i := 8) rfl)) (hw _ (List.mem_of_getElem? (i := 7) rfl)) (by decide) (by decide)) (g := (mkF m 5 #[.val (.long q0), .second, .val (.int p1), .unset, .unset, .unset] [(.long q0), (.int (f1_0 q0))])) rfl (by rw [hml]; rfl) (argsL := [(.long q0)]) (rest := [(.int (f1_0 q0))]) (lenOf pd_0 rfl) rfl (by show 2 * 0 + _ ≤ _; exact Nat.le_of_eq rfl) (hb hby at_5) (fun _ _ => ⟨rfl, e1, (by decide : 0 + 0 ≤ _), (by decide : 0 + 0 ≤ _)⟩)
  dsimp only [Pt.U, Pt.locs, Pt.cells, Pt.slots] at X2 l2 y2 z2 st2 hQ2
  subst l2 y2 z2
  obtain ⟨rfl, rfl, e2⟩ := hQ2
  try rw [List.append_nil] at X2
  refine Go.step (g' := (mkF m 8 #[.val (.long q0), .second, .val (.int p1), .unset, .unset, .unset] [(.int (f2_0 q0)), (.int (f1_0 q0))])) st2 ?_
  have t16 : ∀ (v16_s0 : Int32), Go p e below s room_1.cells room_1.slots (PureQ (.int (f0_16 p1 v16_s0)) h0) T2 (mkF m 16 #[.val (.long q0), .second, .val (.int p1), .unset, .unset, .unset] [(.int v16_s0)]) := by
    intro v16_s0
    refine Go.step (g' := (mkF m 17 #[.val (.long q0), .second, .val (.int p1), .val (.int v16_s0), .unset, .unset] [])) (fun _ k => XS.istoreN X2.here hx rfl (hb hby at_16) rfl (l' := #[.val (.long q0), .second, .val (.int p1), .val (.int v16_s0), .unset, .unset]) rfl k) ?_
    refine Go.step (g' := (mkF m 20 #[.val (.long q0), .second, .val (.int p1), .val (.int v16_s0), .unset, .unset] [(.long (2990 : Int64))])) (fun _ k => X2.ldc2J hx hown (mvT hZ (hw _ (List.mem_of_getElem? (i := 11) rfl))) rfl (hb hby at_17) k) ?_
    refine Go.step (g' := (mkF m 21 #[.val (.long q0), .second, .val (.int p1), .val (.int v16_s0), .unset, .unset] [(.int p1), (.long (2990 : Int64))])) (fun _ k => XS.iloadN X2.here hx rfl (hb hby at_20) rfl  k) ?_
    refine Go.step (g' := (mkF m 24 #[.val (.long q0), .second, .val (.int p1), .val (.int v16_s0), .unset, .unset] [(.int (1023 : Int32)), (.int p1), (.long (2990 : Int64))])) (fun _ k => XS.sipush X2.here hx rfl (hb hby at_21) k) ?_
    refine Go.step (g' := (mkF m 25 #[.val (.long q0), .second, .val (.int p1), .val (.int v16_s0), .unset, .unset] [(.int (p1 &&& (1023 : Int32))), (.long (2990 : Int64))])) (fun _ k => XS.iand X2.here hx rfl (hb hby at_24) rfl k) ?_
    refine Go.step (g' := (mkF m 26 #[.val (.long q0), .second, .val (.int p1), .val (.int v16_s0), .unset, .unset] [(.long ((p1 &&& (1023 : Int32)).toInt64)), (.long (2990 : Int64))])) (fun _ k => XS.i2l X2.here hx rfl (hb hby at_25) rfl k) ?_
    refine Go.step (g' := (mkF m 27 #[.val (.long q0), .second, .val (.int p1), .val (.int v16_s0), .unset, .unset] [(.long ((2990 : Int64) + ((p1 &&& (1023 : Int32)).toInt64)))])) (fun _ k => XS.ladd X2.here hx rfl (hb hby at_26) rfl k) ?_
    refine Go.step (g' := (mkF m 29 #[.val (.long q0), .second, .val (.int p1), .val (.int v16_s0), .val (.long ((2990 : Int64) + ((p1 &&& (1023 : Int32)).toInt64))), .second] [])) (fun _ k => XS.lstore X2.here hx rfl (hb hby at_27) rfl (l' := #[.val (.long q0), .second, .val (.int p1), .val (.int v16_s0), .val (.long ((2990 : Int64) + ((p1 &&& (1023 : Int32)).toInt64))), .second]) rfl k) ?_
    refine Go.step (g' := (mkF m 30 #[.val (.long q0), .second, .val (.int p1), .val (.int v16_s0), .val (.long ((2990 : Int64) + ((p1 &&& (1023 : Int32)).toInt64))), .second] [(.int v16_s0)])) (fun _ k => XS.iloadN X2.here hx rfl (hb hby at_29) rfl  k) ?_
    have t51 : ∀ (T_51 : State) (X_51 : Stand p l e room_1 s m #[(.long q0), (.int p1)] below meth c T_51 ([] : List Loc) 0 0) (e_51 : T_51.heap = h0) (v51_s0 : Int32), Go p e below s room_1.cells room_1.slots (PureQ (.int (f0_51 v51_s0)) h0) T_51 (mkF m 51 #[.val (.long q0), .second, .val (.int p1), .val (.int v16_s0), .val (.long ((2990 : Int64) + ((p1 &&& (1023 : Int32)).toInt64))), .second] [(.int v51_s0)]) := by
      intro T_51 X_51 e_51 v51_s0
      refine Go.step (g' := (mkF m 52 #[.val (.long q0), .second, .val (.int p1), .val (.int v51_s0), .val (.long ((2990 : Int64) + ((p1 &&& (1023 : Int32)).toInt64))), .second] [])) (fun _ k => XS.istoreN X_51.here hx rfl (hb hby at_51) rfl (l' := #[.val (.long q0), .second, .val (.int p1), .val (.int v51_s0), .val (.long ((2990 : Int64) + ((p1 &&& (1023 : Int32)).toInt64))), .second]) rfl k) ?_
      refine Go.step (g' := (mkF m 53 #[.val (.long q0), .second, .val (.int p1), .val (.int v51_s0), .val (.long ((2990 : Int64) + ((p1 &&& (1023 : Int32)).toInt64))), .second] [(.int v51_s0)])) (fun _ k => XS.iloadN X_51.here hx rfl (hb hby at_52) rfl  k) ?_
      have t70 : ∀ (T_70 : State) (X_70 : Stand p l e room_1 s m #[(.long q0), (.int p1)] below meth c T_70 ([] : List Loc) 0 0) (e_70 : T_70.heap = h0) (v70_s0 : Int32), Go p e below s room_1.cells room_1.slots (PureQ (.int (f0_70 v70_s0)) h0) T_70 (mkF m 70 #[.val (.long q0), .second, .val (.int p1), .val (.int v51_s0), .val (.long ((2990 : Int64) + ((p1 &&& (1023 : Int32)).toInt64))), .second] [(.int v70_s0)]) := by
        intro T_70 X_70 e_70 v70_s0
        refine Go.step (g' := (mkF m 71 #[.val (.long q0), .second, .val (.int p1), .val (.int v70_s0), .val (.long ((2990 : Int64) + ((p1 &&& (1023 : Int32)).toInt64))), .second] [])) (fun _ k => XS.istoreN X_70.here hx rfl (hb hby at_70) rfl (l' := #[.val (.long q0), .second, .val (.int p1), .val (.int v70_s0), .val (.long ((2990 : Int64) + ((p1 &&& (1023 : Int32)).toInt64))), .second]) rfl k) ?_
        refine Go.step (g' := (mkF m 72 #[.val (.long q0), .second, .val (.int p1), .val (.int v70_s0), .val (.long ((2990 : Int64) + ((p1 &&& (1023 : Int32)).toInt64))), .second] [(.int v70_s0)])) (fun _ k => XS.iloadN X_70.here hx rfl (hb hby at_71) rfl  k) ?_
        have t89 : ∀ (T_89 : State) (X_89 : Stand p l e room_1 s m #[(.long q0), (.int p1)] below meth c T_89 ([] : List Loc) 0 0) (e_89 : T_89.heap = h0) (v89_s0 : Int32), Go p e below s room_1.cells room_1.slots (PureQ (.int (f0_89 v89_s0)) h0) T_89 (mkF m 89 #[.val (.long q0), .second, .val (.int p1), .val (.int v70_s0), .val (.long ((2990 : Int64) + ((p1 &&& (1023 : Int32)).toInt64))), .second] [(.int v89_s0)]) := by
          intro T_89 X_89 e_89 v89_s0
          refine Go.step (g' := (mkF m 90 #[.val (.long q0), .second, .val (.int p1), .val (.int v89_s0), .val (.long ((2990 : Int64) + ((p1 &&& (1023 : Int32)).toInt64))), .second] [])) (fun _ k => XS.istoreN X_89.here hx rfl (hb hby at_89) rfl (l' := #[.val (.long q0), .second, .val (.int p1), .val (.int v89_s0), .val (.long ((2990 : Int64) + ((p1 &&& (1023 : Int32)).toInt64))), .second]) rfl k) ?_
          refine Go.step (g' := (mkF m 91 #[.val (.long q0), .second, .val (.int p1), .val (.int v89_s0), .val (.long ((2990 : Int64) + ((p1 &&& (1023 : Int32)).toInt64))), .second] [(.int v89_s0)])) (fun _ k => XS.iloadN X_89.here hx rfl (hb hby at_90) rfl  k) ?_
          have t108 : ∀ (T_108 : State) (X_108 : Stand p l e room_1 s m #[(.long q0), (.int p1)] below meth c T_108 ([] : List Loc) 0 0) (e_108 : T_108.heap = h0) (v108_s0 : Int32), Go p e below s room_1.cells room_1.slots (PureQ (.int (f0_108 v108_s0)) h0) T_108 (mkF m 108 #[.val (.long q0), .second, .val (.int p1), .val (.int v89_s0), .val (.long ((2990 : Int64) + ((p1 &&& (1023 : Int32)).toInt64))), .second] [(.int v108_s0)]) := by
            intro T_108 X_108 e_108 v108_s0
            refine Go.step (g' := (mkF m 109 #[.val (.long q0), .second, .val (.int p1), .val (.int v108_s0), .val (.long ((2990 : Int64) + ((p1 &&& (1023 : Int32)).toInt64))), .second] [])) (fun _ k => XS.istoreN X_108.here hx rfl (hb hby at_108) rfl (l' := #[.val (.long q0), .second, .val (.int p1), .val (.int v108_s0), .val (.long ((2990 : Int64) + ((p1 &&& (1023 : Int32)).toInt64))), .second]) rfl k) ?_
            refine Go.step (g' := (mkF m 110 #[.val (.long q0), .second, .val (.int p1), .val (.int v108_s0), .val (.long ((2990 : Int64) + ((p1 &&& (1023 : Int32)).toInt64))), .second] [(.int v108_s0)])) (fun _ k => XS.iloadN X_108.here hx rfl (hb hby at_109) rfl  k) ?_
            have t127 : ∀ (T_127 : State) (X_127 : Stand p l e room_1 s m #[(.long q0), (.int p1)] below meth c T_127 ([] : List Loc) 0 0) (e_127 : T_127.heap = h0) (v127_s0 : Int32), Go p e below s room_1.cells room_1.slots (PureQ (.int (f0_127 v127_s0)) h0) T_127 (mkF m 127 #[.val (.long q0), .second, .val (.int p1), .val (.int v108_s0), .val (.long ((2990 : Int64) + ((p1 &&& (1023 : Int32)).toInt64))), .second] [(.int v127_s0)]) := by
              intro T_127 X_127 e_127 v127_s0
              refine Go.step (g' := (mkF m 128 #[.val (.long q0), .second, .val (.int p1), .val (.int v127_s0), .val (.long ((2990 : Int64) + ((p1 &&& (1023 : Int32)).toInt64))), .second] [])) (fun _ k => XS.istoreN X_127.here hx rfl (hb hby at_127) rfl (l' := #[.val (.long q0), .second, .val (.int p1), .val (.int v127_s0), .val (.long ((2990 : Int64) + ((p1 &&& (1023 : Int32)).toInt64))), .second]) rfl k) ?_
              refine Go.step (g' := (mkF m 129 #[.val (.long q0), .second, .val (.int p1), .val (.int v127_s0), .val (.long ((2990 : Int64) + ((p1 &&& (1023 : Int32)).toInt64))), .second] [(.int v127_s0)])) (fun _ k => XS.iloadN X_127.here hx rfl (hb hby at_128) rfl  k) ?_
              have t146 : ∀ (T_146 : State) (X_146 : Stand p l e room_1 s m #[(.long q0), (.int p1)] below meth c T_146 ([] : List Loc) 0 0) (e_146 : T_146.heap = h0) (v146_s0 : Int32), Go p e below s room_1.cells room_1.slots (PureQ (.int (f0_146 v146_s0)) h0) T_146 (mkF m 146 #[.val (.long q0), .second, .val (.int p1), .val (.int v127_s0), .val (.long ((2990 : Int64) + ((p1 &&& (1023 : Int32)).toInt64))), .second] [(.int v146_s0)]) := by
                intro T_146 X_146 e_146 v146_s0
                refine Go.step (g' := (mkF m 147 #[.val (.long q0), .second, .val (.int p1), .val (.int v146_s0), .val (.long ((2990 : Int64) + ((p1 &&& (1023 : Int32)).toInt64))), .second] [])) (fun _ k => XS.istoreN X_146.here hx rfl (hb hby at_146) rfl (l' := #[.val (.long q0), .second, .val (.int p1), .val (.int v146_s0), .val (.long ((2990 : Int64) + ((p1 &&& (1023 : Int32)).toInt64))), .second]) rfl k) ?_
                refine Go.step (g' := (mkF m 148 #[.val (.long q0), .second, .val (.int p1), .val (.int v146_s0), .val (.long ((2990 : Int64) + ((p1 &&& (1023 : Int32)).toInt64))), .second] [(.int v146_s0)])) (fun _ k => XS.iloadN X_146.here hx rfl (hb hby at_147) rfl  k) ?_
                exact Go.retN X_146 hx hlk (t := .boolean) Bd.returns (by simp) (hb hby at_148) (by decide) (by decide) ⟨rfl, rfl, e_146⟩
              have t145 : ∀ (T_145 : State) (X_145 : Stand p l e room_1 s m #[(.long q0), (.int p1)] below meth c T_145 ([] : List Loc) 0 0) (e_145 : T_145.heap = h0), Go p e below s room_1.cells room_1.slots (PureQ (.int f0_145) h0) T_145 (mkF m 145 #[.val (.long q0), .second, .val (.int p1), .val (.int v127_s0), .val (.long ((2990 : Int64) + ((p1 &&& (1023 : Int32)).toInt64))), .second] []) := by
                intro T_145 X_145 e_145
                refine Go.step (g' := (mkF m 146 #[.val (.long q0), .second, .val (.int p1), .val (.int v127_s0), .val (.long ((2990 : Int64) + ((p1 &&& (1023 : Int32)).toInt64))), .second] [(.int (0 : Int32))])) (fun _ k => XS.iconst X_145.here hx rfl (hb hby at_145) k) ?_
                rw [show f0_145 = (f0_146 (0 : Int32)) from rfl]
                exact t146 T_145 X_145 e_145 (0 : Int32)
              by_cases hc129 : v127_s0 = (0 : Int32)
              · rw [show (f0_127 v127_s0) = f0_145 from if_pos hc129]
                refine Go.step (g' := (mkF m 145 #[.val (.long q0), .second, .val (.int p1), .val (.int v127_s0), .val (.long ((2990 : Int64) + ((p1 &&& (1023 : Int32)).toInt64))), .second] [])) (fun _ k => XS.ifYes X_127.here hx rfl (pc0 := 129) (pc' := 145) rfl (hb hby at_129) rfl ((if0 _ _).trans (teq hc129).1) (by decide) (by decide) k) ?_
                exact t145 T_127 X_127 e_127
              · rw [show (f0_127 v127_s0) = f0_132 from if_neg hc129]
                refine Go.step (g' := (mkF m 132 #[.val (.long q0), .second, .val (.int p1), .val (.int v127_s0), .val (.long ((2990 : Int64) + ((p1 &&& (1023 : Int32)).toInt64))), .second] [])) (fun _ k => XS.ifNo X_127.here hx rfl (hb hby at_129) rfl ((if0 _ _).trans (feq hc129).1) k) ?_
                refine Go.step (g' := (mkF m 135 #[.val (.long q0), .second, .val (.int p1), .val (.int v127_s0), .val (.long ((2990 : Int64) + ((p1 &&& (1023 : Int32)).toInt64))), .second] [(.long (5001 : Int64))])) (fun _ k => X_127.ldc2J hx hown (mvT hZ (hw _ (List.mem_of_getElem? (i := 17) rfl))) rfl (hb hby at_132) k) ?_
                obtain ⟨_, _, ⟨T9, L9, k9, n9⟩, -, X9, ⟨Lc9, hQ9, l9, y9, z9⟩, st9⟩ := Jvm.LawKit.callS X_127 hx (y := (⟨"com/example/quotarail/quotarail/io/ResultCode", "isProtocolError", "(J)Z"⟩ : MethodName)) hown (mvT hZ (hw _ (List.mem_of_getElem? (i := 0) rfl))) (mvT hZ (hw _ (List.mem_of_getElem? (i := 1) rfl))) (mvT hZ (hw _ (List.mem_of_getElem? (i := 2) rfl))) (mvT hZ (hw _ (List.mem_of_getElem? (i := 3) rfl))) (by decide) (backOf (W := 0) (rm1 l Z a0 hw [] (5001 : Int64) h0 ) hZ (hw _ (List.mem_of_getElem? (i := 3) rfl)) (hw _ (List.mem_of_getElem? (i := 2) rfl)) (by decide) (by decide)) (g := (mkF m 135 #[.val (.long q0), .second, .val (.int p1), .val (.int v127_s0), .val (.long ((2990 : Int64) + ((p1 &&& (1023 : Int32)).toInt64))), .second] [(.long (5001 : Int64))])) rfl (by rw [hml]; rfl) (argsL := [(.long (5001 : Int64))]) (rest := []) (lenOf pd_0 rfl) rfl (by show 2 * 0 + _ ≤ _; exact Nat.le_of_eq rfl) (hb hby at_135) (fun _ _ => ⟨rfl, e_127, (by decide : 0 + 0 ≤ _), (by decide : 0 + 0 ≤ _)⟩)
                dsimp only [Pt.U, Pt.locs, Pt.cells, Pt.slots] at X9 l9 y9 z9 st9 hQ9
                subst l9 y9 z9
                obtain ⟨rfl, rfl, e9⟩ := hQ9
                try rw [List.append_nil] at X9
                refine Go.step (g' := (mkF m 138 #[.val (.long q0), .second, .val (.int p1), .val (.int v127_s0), .val (.long ((2990 : Int64) + ((p1 &&& (1023 : Int32)).toInt64))), .second] [(.int (f1_0 (5001 : Int64)))])) st9 ?_
                by_cases hc138 : (f1_0 (5001 : Int64)) = (0 : Int32)
                · rw [show f0_132 = f0_141 from if_pos hc138]
                  refine Go.step (g' := (mkF m 141 #[.val (.long q0), .second, .val (.int p1), .val (.int v127_s0), .val (.long ((2990 : Int64) + ((p1 &&& (1023 : Int32)).toInt64))), .second] [])) (fun _ k => XS.ifNo X9.here hx rfl (hb hby at_138) rfl ((if0 _ _).trans (teq hc138).2) k) ?_
                  refine Go.step (g' := (mkF m 142 #[.val (.long q0), .second, .val (.int p1), .val (.int v127_s0), .val (.long ((2990 : Int64) + ((p1 &&& (1023 : Int32)).toInt64))), .second] [(.int (1 : Int32))])) (fun _ k => XS.iconst X9.here hx rfl (hb hby at_141) k) ?_
                  refine Go.step (g' := (mkF m 146 #[.val (.long q0), .second, .val (.int p1), .val (.int v127_s0), .val (.long ((2990 : Int64) + ((p1 &&& (1023 : Int32)).toInt64))), .second] [(.int (1 : Int32))])) (fun _ k => XS.goto X9.here hx rfl (pc0 := 142) (pc' := 146) rfl (hb hby at_142) (by decide) (by decide) k) ?_
                  rw [show f0_141 = (f0_146 (1 : Int32)) from rfl]
                  exact t146 T9 X9 e9 (1 : Int32)
                · rw [show f0_132 = f0_145 from if_neg hc138]
                  refine Go.step (g' := (mkF m 145 #[.val (.long q0), .second, .val (.int p1), .val (.int v127_s0), .val (.long ((2990 : Int64) + ((p1 &&& (1023 : Int32)).toInt64))), .second] [])) (fun _ k => XS.ifYes X9.here hx rfl (pc0 := 138) (pc' := 145) rfl (hb hby at_138) rfl ((if0 _ _).trans (feq hc138).2) (by decide) (by decide) k) ?_
                  exact t145 T9 X9 e9
            have t126 : ∀ (T_126 : State) (X_126 : Stand p l e room_1 s m #[(.long q0), (.int p1)] below meth c T_126 ([] : List Loc) 0 0) (e_126 : T_126.heap = h0), Go p e below s room_1.cells room_1.slots (PureQ (.int f0_126) h0) T_126 (mkF m 126 #[.val (.long q0), .second, .val (.int p1), .val (.int v108_s0), .val (.long ((2990 : Int64) + ((p1 &&& (1023 : Int32)).toInt64))), .second] []) := by
              intro T_126 X_126 e_126
              refine Go.step (g' := (mkF m 127 #[.val (.long q0), .second, .val (.int p1), .val (.int v108_s0), .val (.long ((2990 : Int64) + ((p1 &&& (1023 : Int32)).toInt64))), .second] [(.int (0 : Int32))])) (fun _ k => XS.iconst X_126.here hx rfl (hb hby at_126) k) ?_
              rw [show f0_126 = (f0_127 (0 : Int32)) from rfl]
              exact t127 T_126 X_126 e_126 (0 : Int32)
            by_cases hc110 : v108_s0 = (0 : Int32)
            · rw [show (f0_108 v108_s0) = f0_126 from if_pos hc110]
              refine Go.step (g' := (mkF m 126 #[.val (.long q0), .second, .val (.int p1), .val (.int v108_s0), .val (.long ((2990 : Int64) + ((p1 &&& (1023 : Int32)).toInt64))), .second] [])) (fun _ k => XS.ifYes X_108.here hx rfl (pc0 := 110) (pc' := 126) rfl (hb hby at_110) rfl ((if0 _ _).trans (teq hc110).1) (by decide) (by decide) k) ?_
              exact t126 T_108 X_108 e_108
            · rw [show (f0_108 v108_s0) = f0_113 from if_neg hc110]
              refine Go.step (g' := (mkF m 113 #[.val (.long q0), .second, .val (.int p1), .val (.int v108_s0), .val (.long ((2990 : Int64) + ((p1 &&& (1023 : Int32)).toInt64))), .second] [])) (fun _ k => XS.ifNo X_108.here hx rfl (hb hby at_110) rfl ((if0 _ _).trans (feq hc110).1) k) ?_
              refine Go.step (g' := (mkF m 116 #[.val (.long q0), .second, .val (.int p1), .val (.int v108_s0), .val (.long ((2990 : Int64) + ((p1 &&& (1023 : Int32)).toInt64))), .second] [(.long (4010 : Int64))])) (fun _ k => X_108.ldc2J hx hown (mvT hZ (hw _ (List.mem_of_getElem? (i := 16) rfl))) rfl (hb hby at_113) k) ?_
              obtain ⟨_, _, ⟨T8, L8, k8, n8⟩, -, X8, ⟨Lc8, hQ8, l8, y8, z8⟩, st8⟩ := Jvm.LawKit.callS X_108 hx (y := (⟨"com/example/quotarail/quotarail/io/ResultCode", "isProtocolError", "(J)Z"⟩ : MethodName)) hown (mvT hZ (hw _ (List.mem_of_getElem? (i := 0) rfl))) (mvT hZ (hw _ (List.mem_of_getElem? (i := 1) rfl))) (mvT hZ (hw _ (List.mem_of_getElem? (i := 2) rfl))) (mvT hZ (hw _ (List.mem_of_getElem? (i := 3) rfl))) (by decide) (backOf (W := 0) (rm1 l Z a0 hw [] (4010 : Int64) h0 ) hZ (hw _ (List.mem_of_getElem? (i := 3) rfl)) (hw _ (List.mem_of_getElem? (i := 2) rfl)) (by decide) (by decide)) (g := (mkF m 116 #[.val (.long q0), .second, .val (.int p1), .val (.int v108_s0), .val (.long ((2990 : Int64) + ((p1 &&& (1023 : Int32)).toInt64))), .second] [(.long (4010 : Int64))])) rfl (by rw [hml]; rfl) (argsL := [(.long (4010 : Int64))]) (rest := []) (lenOf pd_0 rfl) rfl (by show 2 * 0 + _ ≤ _; exact Nat.le_of_eq rfl) (hb hby at_116) (fun _ _ => ⟨rfl, e_108, (by decide : 0 + 0 ≤ _), (by decide : 0 + 0 ≤ _)⟩)
              dsimp only [Pt.U, Pt.locs, Pt.cells, Pt.slots] at X8 l8 y8 z8 st8 hQ8
              subst l8 y8 z8
              obtain ⟨rfl, rfl, e8⟩ := hQ8
              try rw [List.append_nil] at X8
              refine Go.step (g' := (mkF m 119 #[.val (.long q0), .second, .val (.int p1), .val (.int v108_s0), .val (.long ((2990 : Int64) + ((p1 &&& (1023 : Int32)).toInt64))), .second] [(.int (f1_0 (4010 : Int64)))])) st8 ?_
              by_cases hc119 : (f1_0 (4010 : Int64)) = (0 : Int32)
              · rw [show f0_113 = f0_122 from if_pos hc119]
                refine Go.step (g' := (mkF m 122 #[.val (.long q0), .second, .val (.int p1), .val (.int v108_s0), .val (.long ((2990 : Int64) + ((p1 &&& (1023 : Int32)).toInt64))), .second] [])) (fun _ k => XS.ifNo X8.here hx rfl (hb hby at_119) rfl ((if0 _ _).trans (teq hc119).2) k) ?_
                refine Go.step (g' := (mkF m 123 #[.val (.long q0), .second, .val (.int p1), .val (.int v108_s0), .val (.long ((2990 : Int64) + ((p1 &&& (1023 : Int32)).toInt64))), .second] [(.int (1 : Int32))])) (fun _ k => XS.iconst X8.here hx rfl (hb hby at_122) k) ?_
                refine Go.step (g' := (mkF m 127 #[.val (.long q0), .second, .val (.int p1), .val (.int v108_s0), .val (.long ((2990 : Int64) + ((p1 &&& (1023 : Int32)).toInt64))), .second] [(.int (1 : Int32))])) (fun _ k => XS.goto X8.here hx rfl (pc0 := 123) (pc' := 127) rfl (hb hby at_123) (by decide) (by decide) k) ?_
                rw [show f0_122 = (f0_127 (1 : Int32)) from rfl]
                exact t127 T8 X8 e8 (1 : Int32)
              · rw [show f0_113 = f0_126 from if_neg hc119]
                refine Go.step (g' := (mkF m 126 #[.val (.long q0), .second, .val (.int p1), .val (.int v108_s0), .val (.long ((2990 : Int64) + ((p1 &&& (1023 : Int32)).toInt64))), .second] [])) (fun _ k => XS.ifYes X8.here hx rfl (pc0 := 119) (pc' := 126) rfl (hb hby at_119) rfl ((if0 _ _).trans (feq hc119).2) (by decide) (by decide) k) ?_
                exact t126 T8 X8 e8
          have t107 : ∀ (T_107 : State) (X_107 : Stand p l e room_1 s m #[(.long q0), (.int p1)] below meth c T_107 ([] : List Loc) 0 0) (e_107 : T_107.heap = h0), Go p e below s room_1.cells room_1.slots (PureQ (.int f0_107) h0) T_107 (mkF m 107 #[.val (.long q0), .second, .val (.int p1), .val (.int v89_s0), .val (.long ((2990 : Int64) + ((p1 &&& (1023 : Int32)).toInt64))), .second] []) := by
            intro T_107 X_107 e_107
            refine Go.step (g' := (mkF m 108 #[.val (.long q0), .second, .val (.int p1), .val (.int v89_s0), .val (.long ((2990 : Int64) + ((p1 &&& (1023 : Int32)).toInt64))), .second] [(.int (0 : Int32))])) (fun _ k => XS.iconst X_107.here hx rfl (hb hby at_107) k) ?_
            rw [show f0_107 = (f0_108 (0 : Int32)) from rfl]
            exact t108 T_107 X_107 e_107 (0 : Int32)
          by_cases hc91 : v89_s0 = (0 : Int32)
          · rw [show (f0_89 v89_s0) = f0_107 from if_pos hc91]
            refine Go.step (g' := (mkF m 107 #[.val (.long q0), .second, .val (.int p1), .val (.int v89_s0), .val (.long ((2990 : Int64) + ((p1 &&& (1023 : Int32)).toInt64))), .second] [])) (fun _ k => XS.ifYes X_89.here hx rfl (pc0 := 91) (pc' := 107) rfl (hb hby at_91) rfl ((if0 _ _).trans (teq hc91).1) (by decide) (by decide) k) ?_
            exact t107 T_89 X_89 e_89
          · rw [show (f0_89 v89_s0) = f0_94 from if_neg hc91]
            refine Go.step (g' := (mkF m 94 #[.val (.long q0), .second, .val (.int p1), .val (.int v89_s0), .val (.long ((2990 : Int64) + ((p1 &&& (1023 : Int32)).toInt64))), .second] [])) (fun _ k => XS.ifNo X_89.here hx rfl (hb hby at_91) rfl ((if0 _ _).trans (feq hc91).1) k) ?_
            refine Go.step (g' := (mkF m 97 #[.val (.long q0), .second, .val (.int p1), .val (.int v89_s0), .val (.long ((2990 : Int64) + ((p1 &&& (1023 : Int32)).toInt64))), .second] [(.long (2001 : Int64))])) (fun _ k => X_89.ldc2J hx hown (mvT hZ (hw _ (List.mem_of_getElem? (i := 15) rfl))) rfl (hb hby at_94) k) ?_
            obtain ⟨_, _, ⟨T7, L7, k7, n7⟩, -, X7, ⟨Lc7, hQ7, l7, y7, z7⟩, st7⟩ := Jvm.LawKit.callS X_89 hx (y := (⟨"com/example/quotarail/quotarail/io/ResultCode", "isProtocolError", "(J)Z"⟩ : MethodName)) hown (mvT hZ (hw _ (List.mem_of_getElem? (i := 0) rfl))) (mvT hZ (hw _ (List.mem_of_getElem? (i := 1) rfl))) (mvT hZ (hw _ (List.mem_of_getElem? (i := 2) rfl))) (mvT hZ (hw _ (List.mem_of_getElem? (i := 3) rfl))) (by decide) (backOf (W := 0) (rm1 l Z a0 hw [] (2001 : Int64) h0 ) hZ (hw _ (List.mem_of_getElem? (i := 3) rfl)) (hw _ (List.mem_of_getElem? (i := 2) rfl)) (by decide) (by decide)) (g := (mkF m 97 #[.val (.long q0), .second, .val (.int p1), .val (.int v89_s0), .val (.long ((2990 : Int64) + ((p1 &&& (1023 : Int32)).toInt64))), .second] [(.long (2001 : Int64))])) rfl (by rw [hml]; rfl) (argsL := [(.long (2001 : Int64))]) (rest := []) (lenOf pd_0 rfl) rfl (by show 2 * 0 + _ ≤ _; exact Nat.le_of_eq rfl) (hb hby at_97) (fun _ _ => ⟨rfl, e_89, (by decide : 0 + 0 ≤ _), (by decide : 0 + 0 ≤ _)⟩)
            dsimp only [Pt.U, Pt.locs, Pt.cells, Pt.slots] at X7 l7 y7 z7 st7 hQ7
            subst l7 y7 z7
            obtain ⟨rfl, rfl, e7⟩ := hQ7
            try rw [List.append_nil] at X7
            refine Go.step (g' := (mkF m 100 #[.val (.long q0), .second, .val (.int p1), .val (.int v89_s0), .val (.long ((2990 : Int64) + ((p1 &&& (1023 : Int32)).toInt64))), .second] [(.int (f1_0 (2001 : Int64)))])) st7 ?_
            by_cases hc100 : (f1_0 (2001 : Int64)) = (0 : Int32)
            · rw [show f0_94 = f0_103 from if_pos hc100]
              refine Go.step (g' := (mkF m 103 #[.val (.long q0), .second, .val (.int p1), .val (.int v89_s0), .val (.long ((2990 : Int64) + ((p1 &&& (1023 : Int32)).toInt64))), .second] [])) (fun _ k => XS.ifNo X7.here hx rfl (hb hby at_100) rfl ((if0 _ _).trans (teq hc100).2) k) ?_
              refine Go.step (g' := (mkF m 104 #[.val (.long q0), .second, .val (.int p1), .val (.int v89_s0), .val (.long ((2990 : Int64) + ((p1 &&& (1023 : Int32)).toInt64))), .second] [(.int (1 : Int32))])) (fun _ k => XS.iconst X7.here hx rfl (hb hby at_103) k) ?_
              refine Go.step (g' := (mkF m 108 #[.val (.long q0), .second, .val (.int p1), .val (.int v89_s0), .val (.long ((2990 : Int64) + ((p1 &&& (1023 : Int32)).toInt64))), .second] [(.int (1 : Int32))])) (fun _ k => XS.goto X7.here hx rfl (pc0 := 104) (pc' := 108) rfl (hb hby at_104) (by decide) (by decide) k) ?_
              rw [show f0_103 = (f0_108 (1 : Int32)) from rfl]
              exact t108 T7 X7 e7 (1 : Int32)
            · rw [show f0_94 = f0_107 from if_neg hc100]
              refine Go.step (g' := (mkF m 107 #[.val (.long q0), .second, .val (.int p1), .val (.int v89_s0), .val (.long ((2990 : Int64) + ((p1 &&& (1023 : Int32)).toInt64))), .second] [])) (fun _ k => XS.ifYes X7.here hx rfl (pc0 := 100) (pc' := 107) rfl (hb hby at_100) rfl ((if0 _ _).trans (feq hc100).2) (by decide) (by decide) k) ?_
              exact t107 T7 X7 e7
        have t88 : ∀ (T_88 : State) (X_88 : Stand p l e room_1 s m #[(.long q0), (.int p1)] below meth c T_88 ([] : List Loc) 0 0) (e_88 : T_88.heap = h0), Go p e below s room_1.cells room_1.slots (PureQ (.int f0_88) h0) T_88 (mkF m 88 #[.val (.long q0), .second, .val (.int p1), .val (.int v70_s0), .val (.long ((2990 : Int64) + ((p1 &&& (1023 : Int32)).toInt64))), .second] []) := by
          intro T_88 X_88 e_88
          refine Go.step (g' := (mkF m 89 #[.val (.long q0), .second, .val (.int p1), .val (.int v70_s0), .val (.long ((2990 : Int64) + ((p1 &&& (1023 : Int32)).toInt64))), .second] [(.int (0 : Int32))])) (fun _ k => XS.iconst X_88.here hx rfl (hb hby at_88) k) ?_
          rw [show f0_88 = (f0_89 (0 : Int32)) from rfl]
          exact t89 T_88 X_88 e_88 (0 : Int32)
        by_cases hc72 : v70_s0 = (0 : Int32)
        · rw [show (f0_70 v70_s0) = f0_88 from if_pos hc72]
          refine Go.step (g' := (mkF m 88 #[.val (.long q0), .second, .val (.int p1), .val (.int v70_s0), .val (.long ((2990 : Int64) + ((p1 &&& (1023 : Int32)).toInt64))), .second] [])) (fun _ k => XS.ifYes X_70.here hx rfl (pc0 := 72) (pc' := 88) rfl (hb hby at_72) rfl ((if0 _ _).trans (teq hc72).1) (by decide) (by decide) k) ?_
          exact t88 T_70 X_70 e_70
        · rw [show (f0_70 v70_s0) = f0_75 from if_neg hc72]
          refine Go.step (g' := (mkF m 75 #[.val (.long q0), .second, .val (.int p1), .val (.int v70_s0), .val (.long ((2990 : Int64) + ((p1 &&& (1023 : Int32)).toInt64))), .second] [])) (fun _ k => XS.ifNo X_70.here hx rfl (hb hby at_72) rfl ((if0 _ _).trans (feq hc72).1) k) ?_
          refine Go.step (g' := (mkF m 78 #[.val (.long q0), .second, .val (.int p1), .val (.int v70_s0), .val (.long ((2990 : Int64) + ((p1 &&& (1023 : Int32)).toInt64))), .second] [(.long (3010 : Int64))])) (fun _ k => X_70.ldc2J hx hown (mvT hZ (hw _ (List.mem_of_getElem? (i := 14) rfl))) rfl (hb hby at_75) k) ?_
          obtain ⟨_, _, ⟨T6, L6, k6, n6⟩, -, X6, ⟨Lc6, hQ6, l6, y6, z6⟩, st6⟩ := Jvm.LawKit.callS X_70 hx (y := (⟨"com/example/quotarail/quotarail/io/ResultCode", "isProtocolError", "(J)Z"⟩ : MethodName)) hown (mvT hZ (hw _ (List.mem_of_getElem? (i := 0) rfl))) (mvT hZ (hw _ (List.mem_of_getElem? (i := 1) rfl))) (mvT hZ (hw _ (List.mem_of_getElem? (i := 2) rfl))) (mvT hZ (hw _ (List.mem_of_getElem? (i := 3) rfl))) (by decide) (backOf (W := 0) (rm1 l Z a0 hw [] (3010 : Int64) h0 ) hZ (hw _ (List.mem_of_getElem? (i := 3) rfl)) (hw _ (List.mem_of_getElem? (i := 2) rfl)) (by decide) (by decide)) (g := (mkF m 78 #[.val (.long q0), .second, .val (.int p1), .val (.int v70_s0), .val (.long ((2990 : Int64) + ((p1 &&& (1023 : Int32)).toInt64))), .second] [(.long (3010 : Int64))])) rfl (by rw [hml]; rfl) (argsL := [(.long (3010 : Int64))]) (rest := []) (lenOf pd_0 rfl) rfl (by show 2 * 0 + _ ≤ _; exact Nat.le_of_eq rfl) (hb hby at_78) (fun _ _ => ⟨rfl, e_70, (by decide : 0 + 0 ≤ _), (by decide : 0 + 0 ≤ _)⟩)
          dsimp only [Pt.U, Pt.locs, Pt.cells, Pt.slots] at X6 l6 y6 z6 st6 hQ6
          subst l6 y6 z6
          obtain ⟨rfl, rfl, e6⟩ := hQ6
          try rw [List.append_nil] at X6
          refine Go.step (g' := (mkF m 81 #[.val (.long q0), .second, .val (.int p1), .val (.int v70_s0), .val (.long ((2990 : Int64) + ((p1 &&& (1023 : Int32)).toInt64))), .second] [(.int (f1_0 (3010 : Int64)))])) st6 ?_
          by_cases hc81 : (f1_0 (3010 : Int64)) = (0 : Int32)
          · rw [show f0_75 = f0_88 from if_pos hc81]
            refine Go.step (g' := (mkF m 88 #[.val (.long q0), .second, .val (.int p1), .val (.int v70_s0), .val (.long ((2990 : Int64) + ((p1 &&& (1023 : Int32)).toInt64))), .second] [])) (fun _ k => XS.ifYes X6.here hx rfl (pc0 := 81) (pc' := 88) rfl (hb hby at_81) rfl ((if0 _ _).trans (teq hc81).1) (by decide) (by decide) k) ?_
            exact t88 T6 X6 e6
          · rw [show f0_75 = f0_84 from if_neg hc81]
            refine Go.step (g' := (mkF m 84 #[.val (.long q0), .second, .val (.int p1), .val (.int v70_s0), .val (.long ((2990 : Int64) + ((p1 &&& (1023 : Int32)).toInt64))), .second] [])) (fun _ k => XS.ifNo X6.here hx rfl (hb hby at_81) rfl ((if0 _ _).trans (feq hc81).1) k) ?_
            refine Go.step (g' := (mkF m 85 #[.val (.long q0), .second, .val (.int p1), .val (.int v70_s0), .val (.long ((2990 : Int64) + ((p1 &&& (1023 : Int32)).toInt64))), .second] [(.int (1 : Int32))])) (fun _ k => XS.iconst X6.here hx rfl (hb hby at_84) k) ?_
            refine Go.step (g' := (mkF m 89 #[.val (.long q0), .second, .val (.int p1), .val (.int v70_s0), .val (.long ((2990 : Int64) + ((p1 &&& (1023 : Int32)).toInt64))), .second] [(.int (1 : Int32))])) (fun _ k => XS.goto X6.here hx rfl (pc0 := 85) (pc' := 89) rfl (hb hby at_85) (by decide) (by decide) k) ?_
            rw [show f0_84 = (f0_89 (1 : Int32)) from rfl]
            exact t89 T6 X6 e6 (1 : Int32)
      have t69 : ∀ (T_69 : State) (X_69 : Stand p l e room_1 s m #[(.long q0), (.int p1)] below meth c T_69 ([] : List Loc) 0 0) (e_69 : T_69.heap = h0), Go p e below s room_1.cells room_1.slots (PureQ (.int f0_69) h0) T_69 (mkF m 69 #[.val (.long q0), .second, .val (.int p1), .val (.int v51_s0), .val (.long ((2990 : Int64) + ((p1 &&& (1023 : Int32)).toInt64))), .second] []) := by
        intro T_69 X_69 e_69
        refine Go.step (g' := (mkF m 70 #[.val (.long q0), .second, .val (.int p1), .val (.int v51_s0), .val (.long ((2990 : Int64) + ((p1 &&& (1023 : Int32)).toInt64))), .second] [(.int (0 : Int32))])) (fun _ k => XS.iconst X_69.here hx rfl (hb hby at_69) k) ?_
        rw [show f0_69 = (f0_70 (0 : Int32)) from rfl]
        exact t70 T_69 X_69 e_69 (0 : Int32)
      by_cases hc53 : v51_s0 = (0 : Int32)
      · rw [show (f0_51 v51_s0) = f0_69 from if_pos hc53]
        refine Go.step (g' := (mkF m 69 #[.val (.long q0), .second, .val (.int p1), .val (.int v51_s0), .val (.long ((2990 : Int64) + ((p1 &&& (1023 : Int32)).toInt64))), .second] [])) (fun _ k => XS.ifYes X_51.here hx rfl (pc0 := 53) (pc' := 69) rfl (hb hby at_53) rfl ((if0 _ _).trans (teq hc53).1) (by decide) (by decide) k) ?_
        exact t69 T_51 X_51 e_51
      · rw [show (f0_51 v51_s0) = f0_56 from if_neg hc53]
        refine Go.step (g' := (mkF m 56 #[.val (.long q0), .second, .val (.int p1), .val (.int v51_s0), .val (.long ((2990 : Int64) + ((p1 &&& (1023 : Int32)).toInt64))), .second] [])) (fun _ k => XS.ifNo X_51.here hx rfl (hb hby at_53) rfl ((if0 _ _).trans (feq hc53).1) k) ?_
        refine Go.step (g' := (mkF m 59 #[.val (.long q0), .second, .val (.int p1), .val (.int v51_s0), .val (.long ((2990 : Int64) + ((p1 &&& (1023 : Int32)).toInt64))), .second] [(.long (3001 : Int64))])) (fun _ k => X_51.ldc2J hx hown (mvT hZ (hw _ (List.mem_of_getElem? (i := 12) rfl))) rfl (hb hby at_56) k) ?_
        obtain ⟨_, _, ⟨T5, L5, k5, n5⟩, -, X5, ⟨Lc5, hQ5, l5, y5, z5⟩, st5⟩ := Jvm.LawKit.callS X_51 hx (y := (⟨"com/example/quotarail/quotarail/io/ResultCode", "isProtocolError", "(J)Z"⟩ : MethodName)) hown (mvT hZ (hw _ (List.mem_of_getElem? (i := 0) rfl))) (mvT hZ (hw _ (List.mem_of_getElem? (i := 1) rfl))) (mvT hZ (hw _ (List.mem_of_getElem? (i := 2) rfl))) (mvT hZ (hw _ (List.mem_of_getElem? (i := 3) rfl))) (by decide) (backOf (W := 0) (rm1 l Z a0 hw [] (3001 : Int64) h0 ) hZ (hw _ (List.mem_of_getElem? (i := 3) rfl)) (hw _ (List.mem_of_getElem? (i := 2) rfl)) (by decide) (by decide)) (g := (mkF m 59 #[.val (.long q0), .second, .val (.int p1), .val (.int v51_s0), .val (.long ((2990 : Int64) + ((p1 &&& (1023 : Int32)).toInt64))), .second] [(.long (3001 : Int64))])) rfl (by rw [hml]; rfl) (argsL := [(.long (3001 : Int64))]) (rest := []) (lenOf pd_0 rfl) rfl (by show 2 * 0 + _ ≤ _; exact Nat.le_of_eq rfl) (hb hby at_59) (fun _ _ => ⟨rfl, e_51, (by decide : 0 + 0 ≤ _), (by decide : 0 + 0 ≤ _)⟩)
        dsimp only [Pt.U, Pt.locs, Pt.cells, Pt.slots] at X5 l5 y5 z5 st5 hQ5
        subst l5 y5 z5
        obtain ⟨rfl, rfl, e5⟩ := hQ5
        try rw [List.append_nil] at X5
        refine Go.step (g' := (mkF m 62 #[.val (.long q0), .second, .val (.int p1), .val (.int v51_s0), .val (.long ((2990 : Int64) + ((p1 &&& (1023 : Int32)).toInt64))), .second] [(.int (f1_0 (3001 : Int64)))])) st5 ?_
        by_cases hc62 : (f1_0 (3001 : Int64)) = (0 : Int32)
        · rw [show f0_56 = f0_69 from if_pos hc62]
          refine Go.step (g' := (mkF m 69 #[.val (.long q0), .second, .val (.int p1), .val (.int v51_s0), .val (.long ((2990 : Int64) + ((p1 &&& (1023 : Int32)).toInt64))), .second] [])) (fun _ k => XS.ifYes X5.here hx rfl (pc0 := 62) (pc' := 69) rfl (hb hby at_62) rfl ((if0 _ _).trans (teq hc62).1) (by decide) (by decide) k) ?_
          exact t69 T5 X5 e5
        · rw [show f0_56 = f0_65 from if_neg hc62]
          refine Go.step (g' := (mkF m 65 #[.val (.long q0), .second, .val (.int p1), .val (.int v51_s0), .val (.long ((2990 : Int64) + ((p1 &&& (1023 : Int32)).toInt64))), .second] [])) (fun _ k => XS.ifNo X5.here hx rfl (hb hby at_62) rfl ((if0 _ _).trans (feq hc62).1) k) ?_
          refine Go.step (g' := (mkF m 66 #[.val (.long q0), .second, .val (.int p1), .val (.int v51_s0), .val (.long ((2990 : Int64) + ((p1 &&& (1023 : Int32)).toInt64))), .second] [(.int (1 : Int32))])) (fun _ k => XS.iconst X5.here hx rfl (hb hby at_65) k) ?_
          refine Go.step (g' := (mkF m 70 #[.val (.long q0), .second, .val (.int p1), .val (.int v51_s0), .val (.long ((2990 : Int64) + ((p1 &&& (1023 : Int32)).toInt64))), .second] [(.int (1 : Int32))])) (fun _ k => XS.goto X5.here hx rfl (pc0 := 66) (pc' := 70) rfl (hb hby at_66) (by decide) (by decide) k) ?_
          rw [show f0_65 = (f0_70 (1 : Int32)) from rfl]
          exact t70 T5 X5 e5 (1 : Int32)
    have t50 : ∀ (T_50 : State) (X_50 : Stand p l e room_1 s m #[(.long q0), (.int p1)] below meth c T_50 ([] : List Loc) 0 0) (e_50 : T_50.heap = h0), Go p e below s room_1.cells room_1.slots (PureQ (.int f0_50) h0) T_50 (mkF m 50 #[.val (.long q0), .second, .val (.int p1), .val (.int v16_s0), .val (.long ((2990 : Int64) + ((p1 &&& (1023 : Int32)).toInt64))), .second] []) := by
      intro T_50 X_50 e_50
      refine Go.step (g' := (mkF m 51 #[.val (.long q0), .second, .val (.int p1), .val (.int v16_s0), .val (.long ((2990 : Int64) + ((p1 &&& (1023 : Int32)).toInt64))), .second] [(.int (0 : Int32))])) (fun _ k => XS.iconst X_50.here hx rfl (hb hby at_50) k) ?_
      rw [show f0_50 = (f0_51 (0 : Int32)) from rfl]
      exact t51 T_50 X_50 e_50 (0 : Int32)
    by_cases hc30 : v16_s0 = (0 : Int32)
    · rw [show (f0_16 p1 v16_s0) = f0_50 from if_pos hc30]
      refine Go.step (g' := (mkF m 50 #[.val (.long q0), .second, .val (.int p1), .val (.int v16_s0), .val (.long ((2990 : Int64) + ((p1 &&& (1023 : Int32)).toInt64))), .second] [])) (fun _ k => XS.ifYes X2.here hx rfl (pc0 := 30) (pc' := 50) rfl (hb hby at_30) rfl ((if0 _ _).trans (teq hc30).1) (by decide) (by decide) k) ?_
      exact t50 T2 X2 e2
    · rw [show (f0_16 p1 v16_s0) = (f0_33 p1) from if_neg hc30]
      refine Go.step (g' := (mkF m 33 #[.val (.long q0), .second, .val (.int p1), .val (.int v16_s0), .val (.long ((2990 : Int64) + ((p1 &&& (1023 : Int32)).toInt64))), .second] [])) (fun _ k => XS.ifNo X2.here hx rfl (hb hby at_30) rfl ((if0 _ _).trans (feq hc30).1) k) ?_
      refine Go.step (g' := (mkF m 35 #[.val (.long q0), .second, .val (.int p1), .val (.int v16_s0), .val (.long ((2990 : Int64) + ((p1 &&& (1023 : Int32)).toInt64))), .second] [(.long ((2990 : Int64) + ((p1 &&& (1023 : Int32)).toInt64)))])) (fun _ k => XS.lload X2.here hx rfl (hb hby at_33) rfl  k) ?_
      obtain ⟨_, _, ⟨T3, L3, k3, n3⟩, -, X3, ⟨Lc3, hQ3, l3, y3, z3⟩, st3⟩ := Jvm.LawKit.callS X2 hx (y := (⟨"com/example/quotarail/quotarail/io/ResultCode", "isProtocolError", "(J)Z"⟩ : MethodName)) hown (mvT hZ (hw _ (List.mem_of_getElem? (i := 0) rfl))) (mvT hZ (hw _ (List.mem_of_getElem? (i := 1) rfl))) (mvT hZ (hw _ (List.mem_of_getElem? (i := 2) rfl))) (mvT hZ (hw _ (List.mem_of_getElem? (i := 3) rfl))) (by decide) (backOf (W := 0) (rm1 l Z a0 hw [] ((2990 : Int64) + ((p1 &&& (1023 : Int32)).toInt64)) h0 ) hZ (hw _ (List.mem_of_getElem? (i := 3) rfl)) (hw _ (List.mem_of_getElem? (i := 2) rfl)) (by decide) (by decide)) (g := (mkF m 35 #[.val (.long q0), .second, .val (.int p1), .val (.int v16_s0), .val (.long ((2990 : Int64) + ((p1 &&& (1023 : Int32)).toInt64))), .second] [(.long ((2990 : Int64) + ((p1 &&& (1023 : Int32)).toInt64)))])) rfl (by rw [hml]; rfl) (argsL := [(.long ((2990 : Int64) + ((p1 &&& (1023 : Int32)).toInt64)))]) (rest := []) (lenOf pd_0 rfl) rfl (by show 2 * 0 + _ ≤ _; exact Nat.le_of_eq rfl) (hb hby at_35) (fun _ _ => ⟨rfl, e2, (by decide : 0 + 0 ≤ _), (by decide : 0 + 0 ≤ _)⟩)
      dsimp only [Pt.U, Pt.locs, Pt.cells, Pt.slots] at X3 l3 y3 z3 st3 hQ3
      subst l3 y3 z3
      obtain ⟨rfl, rfl, e3⟩ := hQ3
      try rw [List.append_nil] at X3
      refine Go.step (g' := (mkF m 38 #[.val (.long q0), .second, .val (.int p1), .val (.int v16_s0), .val (.long ((2990 : Int64) + ((p1 &&& (1023 : Int32)).toInt64))), .second] [(.int (f1_0 ((2990 : Int64) + ((p1 &&& (1023 : Int32)).toInt64))))])) st3 ?_
      refine Go.step (g' := (mkF m 40 #[.val (.long q0), .second, .val (.int p1), .val (.int v16_s0), .val (.long ((2990 : Int64) + ((p1 &&& (1023 : Int32)).toInt64))), .second] [(.long ((2990 : Int64) + ((p1 &&& (1023 : Int32)).toInt64))), (.int (f1_0 ((2990 : Int64) + ((p1 &&& (1023 : Int32)).toInt64))))])) (fun _ k => XS.lload X3.here hx rfl (hb hby at_38) rfl  k) ?_
      obtain ⟨_, _, ⟨T4, L4, k4, n4⟩, -, X4, ⟨Lc4, hQ4, l4, y4, z4⟩, st4⟩ := Jvm.LawKit.callS X3 hx (y := (⟨"com/example/quotarail/quotarail/io/ResultCodeIsProtocolErrorPinLaw", "thousandsClassIsThree", "(J)Z"⟩ : MethodName)) hown (mvT hZ (hw _ (List.mem_of_getElem? (i := 5) rfl))) (mvT hZ (hw _ (List.mem_of_getElem? (i := 6) rfl))) (mvT hZ (hw _ (List.mem_of_getElem? (i := 7) rfl))) (mvT hZ (hw _ (List.mem_of_getElem? (i := 8) rfl))) (by decide) (backOf (W := 1) (rm2 l Z a0 hw [] ((2990 : Int64) + ((p1 &&& (1023 : Int32)).toInt64)) h0 ) hZ (hw _ (List.mem_of_getElem? (i := 8) rfl)) (hw _ (List.mem_of_getElem? (i := 7) rfl)) (by decide) (by decide)) (g := (mkF m 40 #[.val (.long q0), .second, .val (.int p1), .val (.int v16_s0), .val (.long ((2990 : Int64) + ((p1 &&& (1023 : Int32)).toInt64))), .second] [(.long ((2990 : Int64) + ((p1 &&& (1023 : Int32)).toInt64))), (.int (f1_0 ((2990 : Int64) + ((p1 &&& (1023 : Int32)).toInt64))))])) rfl (by rw [hml]; rfl) (argsL := [(.long ((2990 : Int64) + ((p1 &&& (1023 : Int32)).toInt64)))]) (rest := [(.int (f1_0 ((2990 : Int64) + ((p1 &&& (1023 : Int32)).toInt64))))]) (lenOf pd_0 rfl) rfl (by show 2 * 0 + _ ≤ _; exact Nat.le_of_eq rfl) (hb hby at_40) (fun _ _ => ⟨rfl, e3, (by decide : 0 + 0 ≤ _), (by decide : 0 + 0 ≤ _)⟩)
      dsimp only [Pt.U, Pt.locs, Pt.cells, Pt.slots] at X4 l4 y4 z4 st4 hQ4
      subst l4 y4 z4
      obtain ⟨rfl, rfl, e4⟩ := hQ4
      try rw [List.append_nil] at X4
      refine Go.step (g' := (mkF m 43 #[.val (.long q0), .second, .val (.int p1), .val (.int v16_s0), .val (.long ((2990 : Int64) + ((p1 &&& (1023 : Int32)).toInt64))), .second] [(.int (f2_0 ((2990 : Int64) + ((p1 &&& (1023 : Int32)).toInt64)))), (.int (f1_0 ((2990 : Int64) + ((p1 &&& (1023 : Int32)).toInt64))))])) st4 ?_
      by_cases hc43 : (f1_0 ((2990 : Int64) + ((p1 &&& (1023 : Int32)).toInt64))) = (f2_0 ((2990 : Int64) + ((p1 &&& (1023 : Int32)).toInt64)))
      · rw [show (f0_33 p1) = f0_46 from if_pos hc43]
        refine Go.step (g' := (mkF m 46 #[.val (.long q0), .second, .val (.int p1), .val (.int v16_s0), .val (.long ((2990 : Int64) + ((p1 &&& (1023 : Int32)).toInt64))), .second] [])) (fun _ k => XS.icmpNo X4.here hx rfl (hb hby at_43) rfl (teq hc43).2 k) ?_
        refine Go.step (g' := (mkF m 47 #[.val (.long q0), .second, .val (.int p1), .val (.int v16_s0), .val (.long ((2990 : Int64) + ((p1 &&& (1023 : Int32)).toInt64))), .second] [(.int (1 : Int32))])) (fun _ k => XS.iconst X4.here hx rfl (hb hby at_46) k) ?_
        refine Go.step (g' := (mkF m 51 #[.val (.long q0), .second, .val (.int p1), .val (.int v16_s0), .val (.long ((2990 : Int64) + ((p1 &&& (1023 : Int32)).toInt64))), .second] [(.int (1 : Int32))])) (fun _ k => XS.goto X4.here hx rfl (pc0 := 47) (pc' := 51) rfl (hb hby at_47) (by decide) (by decide) k) ?_
        rw [show f0_46 = (f0_51 (1 : Int32)) from rfl]
        exact t51 T4 X4 e4 (1 : Int32)
      · rw [show (f0_33 p1) = f0_50 from if_neg hc43]
        refine Go.step (g' := (mkF m 50 #[.val (.long q0), .second, .val (.int p1), .val (.int v16_s0), .val (.long ((2990 : Int64) + ((p1 &&& (1023 : Int32)).toInt64))), .second] [])) (fun _ k => XS.icmpYes X4.here hx rfl (pc0 := 43) (pc' := 50) rfl (hb hby at_43) rfl (feq hc43).2 (by decide) (by decide) k) ?_
        exact t50 T4 X4 e4
  by_cases hc8 : (f1_0 q0) = (f2_0 q0)
  · rw [show (f0_0 q0 p1) = (f0_11 p1) from if_pos hc8]
    refine Go.step (g' := (mkF m 11 #[.val (.long q0), .second, .val (.int p1), .unset, .unset, .unset] [])) (fun _ k => XS.icmpNo X2.here hx rfl (hb hby at_8) rfl (teq hc8).2 k) ?_
    refine Go.step (g' := (mkF m 12 #[.val (.long q0), .second, .val (.int p1), .unset, .unset, .unset] [(.int (1 : Int32))])) (fun _ k => XS.iconst X2.here hx rfl (hb hby at_11) k) ?_
    refine Go.step (g' := (mkF m 16 #[.val (.long q0), .second, .val (.int p1), .unset, .unset, .unset] [(.int (1 : Int32))])) (fun _ k => XS.goto X2.here hx rfl (pc0 := 12) (pc' := 16) rfl (hb hby at_12) (by decide) (by decide) k) ?_
    rw [show (f0_11 p1) = (f0_16 p1 (1 : Int32)) from rfl]
    exact t16 (1 : Int32)
  · rw [show (f0_0 q0 p1) = (f0_15 p1) from if_neg hc8]
    refine Go.step (g' := (mkF m 15 #[.val (.long q0), .second, .val (.int p1), .unset, .unset, .unset] [])) (fun _ k => XS.icmpYes X2.here hx rfl (pc0 := 8) (pc' := 15) rfl (hb hby at_8) rfl (feq hc8).2 (by decide) (by decide) k) ?_
    refine Go.step (g' := (mkF m 16 #[.val (.long q0), .second, .val (.int p1), .unset, .unset, .unset] [(.int (0 : Int32))])) (fun _ k => XS.iconst X2.here hx rfl (hb hby at_15) k) ?_
    rw [show (f0_15 p1) = (f0_16 p1 (0 : Int32)) from rfl]
    exact t16 (0 : Int32)
theorem own_same (r : Int64) : f1_0 r = f2_0 r := by
  have q3 : (3000 : Int64).toInt = 3000 := by decide
  have q4 : (4000 : Int64).toInt = 4000 := by decide
  have qk : (1000 : Int64).toInt = 1000 := by decide
  have q : (3 : Int64).toInt = 3 := by decide
  have e := c_ldiv r 1000 1000 qk (by decide)
  have g : (r / 1000 = 3) ↔ (¬ r < 3000 ∧ r < 4000) := by
    rw [← Int64.toInt_inj, Int64.lt_iff_toInt_lt, Int64.lt_iff_toInt_lt, q, q3, q4]
    rcases Int.lt_or_le r.toInt 0 with h | h
    · rw [e.2 h]; omega
    · rw [e.1 h]; omega
  simp only [f1_0, f1_8, f1_16, f1_20, f1_21, f2_0, f2_12, f2_16, f2_17, lw_lt, lw_eq, g]
  by_cases h1 : r < 3000 <;> by_cases h2 : r < 4000 <;> simp [h1, h2]
theorem law_eq (a : Int64) (b : Int32) : f0_0 a b = 1 := by
  have s1 := own_same a
  have s2 := own_same (2990 + (b &&& 1023).toInt64)
  rw [f0_0, if_pos s1, f0_11, f0_16, if_neg (by decide), f0_33, if_pos s2]
  decide
set_option maxRecDepth 65536 in
set_option maxHeartbeats 40000000 in
theorem comes_1 {Post : Tables → Env → Array Value → State → Outcome → State → Prop} (hpost : ∀ tb e args s v u, (limb_1_1.after args s (.returned v) u = true ∧ limb_1_2.after args s (.returned v) u = true) → FrameEnd s (.returned v) u (Jvm.fieldLocs frame_1_writes args s ++ Jvm.arrayLocs frame_1_arrays args s ++ Jvm.staticLocs frame_1_statics s) 0 0 → Post tb e args s (.returned v) u) :
    ArmFor flags0 classFile x code maxLocals ret World_1 tables_1 room_1 Calls_1 rest_1 Pre_1 Post := by
  intro l hfl _ _ p e ha hc hk s m args below hf hA hF happ hP
  obtain ⟨hcalls, hrest, hpre⟩ := hP
  obtain ⟨-, -, -, hnamed, -, -, -, hat⟩ := (Spec.applies_iff hf).mp happ
  obtain ⟨hg, hn⟩ := and_e (Cond.before_iff.mp (show (Jvm.Cond.and given_1 narrow_1).before args s = true from hpre))
  obtain ⟨gc, hg⟩ := and_e hg
  obtain ⟨g0, hg⟩ := and_e hg
  have g1 := hg
  obtain ⟨w0, w1, rfl⟩ : ∃ w0 w1 : Value, args = #[w0, w1] := by
    have hs : args.size = 2 := by simpa [Cond.value, given_1] using gc
    obtain ⟨L⟩ := args
    match L, hs with
    | [w0, w1], _ => exact ⟨w0, w1, rfl⟩
  have hw := fun d (hd : d ∈ tables_1) => atoms_spec (ws := Jvm.Cond.code x code maxLocals ret :: tables_1) hat d (List.mem_cons_of_mem _ hd)
  have hfit : Fit s := fun {y c} hc i hi => by
    obtain ⟨ha, rfl⟩ := Array.getElem?_eq_some_iff.mp hc
    have q := List.all_eq_true.mp ((Array.all_eq_true_iff_forall_mem.mp hF) _ (Array.getElem_mem ha)) i (List.mem_range.mpr hi)
    simpa [Array.getElem?_eq_getElem hi] using q
  obtain ⟨i0, ei0⟩ := isL_v g0
  obtain rfl : w0 = (.long i0) := Option.some.inj ei0
  obtain ⟨i1, ei1⟩ := is_v g1
  obtain rfl : w1 = (.int i1) := Option.some.inj ei1
  obtain ⟨n, o, h1, h2, h3, v, L, rfl, hQ, hq⟩ := rm0 l s _ hw tables_1 i0 i1  s.heap   p e ha hc hk s m _ below hf ((Spec.applies_iff_loose hf).mp happ).1 ⟨rfl, State.Warmed39.refl s, rfl⟩ trivial
  obtain ⟨rfl, rfl, -⟩ := hQ
  rw [law_eq] at *
  refine ⟨n, _, h1, h2, h3, hpost _ _ _ _ _ _ ⟨Cond.after_iff.mpr rfl, Cond.after_iff.mpr (eq_i res_at (Term.int_eval (1)) rfl)⟩ ⟨hq.1, hq.2.1, (hq.2.2.sift fun y hy => nomatch hy).mono (by decide) (by decide)⟩⟩
theorem main_1_1 : Claimed_1_1 := comes_1 fun _ _ _ _ _ _ h hF => ⟨h.1, hF⟩
theorem main_1_2 : Claimed_1_2 := comes_1 fun _ _ _ _ _ _ h hF => ⟨h.2, hF⟩
end Jvm.Pilot.@@N@@
namespace Jvm.Pilot.@@N@@
open Jvm Jvm.ClassFile Sem Op Lib Jvm.Free Jvm.Stand Jvm.Pilot.@@N@@.Jvm.D
/-! MADE BY PROGRAM (witnessworld.py) out of the Statement's table words and the real class files: 9 classes; the members and pool entries that the words name. The judged class is class 1, her method 2. -/
namespace start1
open Jvm.ClassFile
def u (s : String) : CpInfo := .utf8 (stringToUtf16 s)
/-- a pool by its gaps: so many unusable entries, then the entry; so many at the end -/
def gap : Nat → List CpInfo → List CpInfo
  | 0, r => r
  | n + 1, r => .unusable :: gap n r
def poolList (es : List (Nat × CpInfo)) (last : Nat) : List CpInfo := es.foldr (fun e r => gap e.1 (e.2 :: r)) (gap last [])
def pool (es : List (Nat × CpInfo)) (last : Nat) : Array CpInfo := ⟨poolList es last⟩
def fileOf (pool : Array CpInfo) (this : Nat) (attrs : Array Attribute := #[]) (ms : Array MethodInfo := #[]) (fl : Nat := 33) (sup : Nat := 0) (ifs : Array Nat := #[]) (fds : Array FieldInfo := #[]) : ClassFile where
  minorVersion := 0
  majorVersion := 65
  constantPool := pool
  accessFlags := fl
  thisClass := this
  superClass := sup
  interfaces := ifs
  fields := fds
  methods := ms
  attributes := attrs
def plain (name : String) (sup : Option ClassId) : Class where
  name := name
  kind := .ordinary
  loader := none
  accessFlags := 33
  super := sup
  interfaces := #[]
  cf := none
  fields := #[]
  methods := #[]
  instanceTypes := #[]
  staticTypes := #[]
  resolved := #[]
  callSites := []
  init := .initialized
  statics := none
  mirror := none

def pool0 : Array CpInfo := pool [(5, u "<init>"), (0, u "()V"), (1, .class_ 10), (1, u "java/lang/Object")] 113

def k0m0 : Method := { name := "<init>", desc := "()V", sig := { parameters := [], returnType := none }, accessFlags := 1, code := none }
/-- java/lang/Object -/
def k0 : Class := { plain "java/lang/Object" none with
  accessFlags := 33
  interfaces := #[]
  cf := some (fileOf pool0 8 #[] #[{ accessFlags := 1, nameIndex := 5, descriptorIndex := 6, attributes := #[] }] 33 0 #[] #[])
  fields := #[]
  methods := #[k0m0]
  instanceTypes := #[]
  staticTypes := #[]
  resolved := Array.replicate 124 none
  statics := none }

def pool1 : Array CpInfo := pool [(2, .class_ 4), (1, u "java/lang/Object"), (0, u "<init>"), (0, u "()V"), (0, .long 1000), (1, .long 3), (1, .methodref 12 13), (0, .class_ 14), (0, .nameAndType 15 16), (0, u "com/example/quotarail/quotarail/io/ResultCode"), (0, u "isProtocolError"), (0, u "(J)Z"), (0, .methodref 18 19), (0, .class_ 20), (0, .nameAndType 21 16), (0, u "com/example/quotarail/quotarail/io/ResultCodeIsProtocolErrorPinLaw"), (0, u "thousandsClassIsThree"), (0, .long 2990), (1, .long 3001), (1, .long 3010), (1, .long 2001), (1, .long 4010), (1, .long 5001), (4, u "law"), (0, u "(JI)Z")] 2

def k1m0 : Method := { name := "<init>", desc := "()V", sig := { parameters := [], returnType := none }, accessFlags := 2, code := none }
def k1c1 : Code := { maxStack := 4, maxLocals := 2, code := method_2_code, exceptionTable := #[], attributes := #[] }
def k1m1 : Method := { name := "thousandsClassIsThree", desc := "(J)Z", sig := { parameters := [.long], returnType := some .boolean }, accessFlags := 10, code := some k1c1 }
def k1c2 : Code := { maxStack := 4, maxLocals := 6, code := code, exceptionTable := #[], attributes := #[] }
def k1m2 : Method := { name := "law", desc := "(JI)Z", sig := { parameters := [.long, .int], returnType := some .boolean }, accessFlags := 9, code := some k1c2 }
/-- com/example/quotarail/quotarail/io/ResultCodeIsProtocolErrorPinLaw -/
def k1 : Class := { plain "com/example/quotarail/quotarail/io/ResultCodeIsProtocolErrorPinLaw" (some 0) with
  accessFlags := 49
  interfaces := #[]
  cf := some (fileOf pool1 18 #[] #[{ accessFlags := 2, nameIndex := 5, descriptorIndex := 6, attributes := #[] }, { accessFlags := 10, nameIndex := 21, descriptorIndex := 16, attributes := #[] }, { accessFlags := 9, nameIndex := 37, descriptorIndex := 38, attributes := #[] }] 49 2 #[] #[])
  fields := #[]
  methods := #[k1m0, k1m1, k1m2]
  instanceTypes := #[]
  staticTypes := #[]
  resolved := Array.replicate 41 none
  statics := none }

def pool2 : Array CpInfo := pool [(2, .class_ 4), (1, u "java/lang/Object"), (0, u "<init>"), (0, u "()V"), (0, .long 3000), (1, .long 4000), (63, .class_ 74), (0, u "com/example/quotarail/quotarail/io/ResultCode"), (0, u "SUCCESS"), (0, u "I"), (2, u "COMMAND_UNSUPPORTED"), (1, u "UNABLE_TO_DELIVER"), (1, u "REALM_NOT_SERVED"), (1, u "TOO_BUSY"), (1, u "APPLICATION_UNSUPPORTED"), (1, u "INVALID_HDR_BITS"), (1, u "UNKNOWN_PEER"), (1, u "END_USER_SERVICE_DENIED"), (1, u "CREDIT_CONTROL_NOT_APPLICABLE"), (1, u "CREDIT_LIMIT_REACHED"), (1, u "AVP_UNSUPPORTED"), (1, u "UNKNOWN_SESSION_ID"), (1, u "INVALID_AVP_VALUE"), (1, u "MISSING_AVP"), (1, u "NO_COMMON_APPLICATION"), (1, u "UNSUPPORTED_VERSION"), (1, u "UNABLE_TO_COMPLY"), (1, u "INVALID_AVP_LENGTH"), (1, u "INVALID_MESSAGE_LENGTH"), (1, u "USER_UNKNOWN"), (1, u "RATING_FAILED"), (3, u "isProtocolError"), (0, u "(J)Z")] 19

def k2m0 : Method := { name := "<init>", desc := "()V", sig := { parameters := [], returnType := none }, accessFlags := 2, code := none }
def k2c1 : Code := { maxStack := 4, maxLocals := 2, code := prog_14_method_2_code, exceptionTable := #[], attributes := #[] }
def k2m1 : Method := { name := "isProtocolError", desc := "(J)Z", sig := { parameters := [.long], returnType := some .boolean }, accessFlags := 9, code := some k2c1 }
/-- com/example/quotarail/quotarail/io/ResultCode -/
def k2 : Class := { plain "com/example/quotarail/quotarail/io/ResultCode" (some 0) with
  accessFlags := 49
  interfaces := #[]
  cf := some (fileOf pool2 73 #[] #[{ accessFlags := 2, nameIndex := 5, descriptorIndex := 6, attributes := #[] }, { accessFlags := 9, nameIndex := 123, descriptorIndex := 124, attributes := #[] }] 49 2 #[] #[{ accessFlags := 25, nameIndex := 75, descriptorIndex := 76, attributes := #[] }, { accessFlags := 25, nameIndex := 79, descriptorIndex := 76, attributes := #[] }, { accessFlags := 25, nameIndex := 81, descriptorIndex := 76, attributes := #[] }, { accessFlags := 25, nameIndex := 83, descriptorIndex := 76, attributes := #[] }, { accessFlags := 25, nameIndex := 85, descriptorIndex := 76, attributes := #[] }, { accessFlags := 25, nameIndex := 87, descriptorIndex := 76, attributes := #[] }, { accessFlags := 25, nameIndex := 89, descriptorIndex := 76, attributes := #[] }, { accessFlags := 25, nameIndex := 91, descriptorIndex := 76, attributes := #[] }, { accessFlags := 25, nameIndex := 93, descriptorIndex := 76, attributes := #[] }, { accessFlags := 25, nameIndex := 95, descriptorIndex := 76, attributes := #[] }, { accessFlags := 25, nameIndex := 97, descriptorIndex := 76, attributes := #[] }, { accessFlags := 25, nameIndex := 99, descriptorIndex := 76, attributes := #[] }, { accessFlags := 25, nameIndex := 101, descriptorIndex := 76, attributes := #[] }, { accessFlags := 25, nameIndex := 103, descriptorIndex := 76, attributes := #[] }, { accessFlags := 25, nameIndex := 105, descriptorIndex := 76, attributes := #[] }, { accessFlags := 25, nameIndex := 107, descriptorIndex := 76, attributes := #[] }, { accessFlags := 25, nameIndex := 109, descriptorIndex := 76, attributes := #[] }, { accessFlags := 25, nameIndex := 111, descriptorIndex := 76, attributes := #[] }, { accessFlags := 25, nameIndex := 113, descriptorIndex := 76, attributes := #[] }, { accessFlags := 25, nameIndex := 115, descriptorIndex := 76, attributes := #[] }, { accessFlags := 25, nameIndex := 117, descriptorIndex := 76, attributes := #[] }, { accessFlags := 25, nameIndex := 119, descriptorIndex := 76, attributes := #[] }])
  fields := #[{ name := "SUCCESS", type := .int, accessFlags := 25, slot := 0, constantValue := 0 }, { name := "COMMAND_UNSUPPORTED", type := .int, accessFlags := 25, slot := 1, constantValue := 0 }, { name := "UNABLE_TO_DELIVER", type := .int, accessFlags := 25, slot := 2, constantValue := 0 }, { name := "REALM_NOT_SERVED", type := .int, accessFlags := 25, slot := 3, constantValue := 0 }, { name := "TOO_BUSY", type := .int, accessFlags := 25, slot := 4, constantValue := 0 }, { name := "APPLICATION_UNSUPPORTED", type := .int, accessFlags := 25, slot := 5, constantValue := 0 }, { name := "INVALID_HDR_BITS", type := .int, accessFlags := 25, slot := 6, constantValue := 0 }, { name := "UNKNOWN_PEER", type := .int, accessFlags := 25, slot := 7, constantValue := 0 }, { name := "END_USER_SERVICE_DENIED", type := .int, accessFlags := 25, slot := 8, constantValue := 0 }, { name := "CREDIT_CONTROL_NOT_APPLICABLE", type := .int, accessFlags := 25, slot := 9, constantValue := 0 }, { name := "CREDIT_LIMIT_REACHED", type := .int, accessFlags := 25, slot := 10, constantValue := 0 }, { name := "AVP_UNSUPPORTED", type := .int, accessFlags := 25, slot := 11, constantValue := 0 }, { name := "UNKNOWN_SESSION_ID", type := .int, accessFlags := 25, slot := 12, constantValue := 0 }, { name := "INVALID_AVP_VALUE", type := .int, accessFlags := 25, slot := 13, constantValue := 0 }, { name := "MISSING_AVP", type := .int, accessFlags := 25, slot := 14, constantValue := 0 }, { name := "NO_COMMON_APPLICATION", type := .int, accessFlags := 25, slot := 15, constantValue := 0 }, { name := "UNSUPPORTED_VERSION", type := .int, accessFlags := 25, slot := 16, constantValue := 0 }, { name := "UNABLE_TO_COMPLY", type := .int, accessFlags := 25, slot := 17, constantValue := 0 }, { name := "INVALID_AVP_LENGTH", type := .int, accessFlags := 25, slot := 18, constantValue := 0 }, { name := "INVALID_MESSAGE_LENGTH", type := .int, accessFlags := 25, slot := 19, constantValue := 0 }, { name := "USER_UNKNOWN", type := .int, accessFlags := 25, slot := 20, constantValue := 0 }, { name := "RATING_FAILED", type := .int, accessFlags := 25, slot := 21, constantValue := 0 }]
  methods := #[k2m0, k2m1]
  instanceTypes := #[]
  staticTypes := #[.int, .int, .int, .int, .int, .int, .int, .int, .int, .int, .int, .int, .int, .int, .int, .int, .int, .int, .int, .int, .int, .int]
  resolved := Array.replicate 144 none
  statics := none }

def pool3 : Array CpInfo := pool [(1, u "java/lang/Cloneable"), (0, .class_ 1), (0, u "java/lang/Object"), (0, .class_ 3)] 3

/-- java/lang/Cloneable -/
def k3 : Class := { plain "java/lang/Cloneable" (some 0) with
  accessFlags := 1537
  interfaces := #[]
  cf := some (fileOf pool3 2 #[] #[] 1537 4 #[] #[])
  fields := #[]
  methods := #[]
  instanceTypes := #[]
  staticTypes := #[]
  resolved := Array.replicate 8 none
  statics := none }

def pool4 : Array CpInfo := pool [(1, u "java/io/Serializable"), (0, .class_ 1), (0, u "java/lang/Object"), (0, .class_ 3)] 3

/-- java/io/Serializable -/
def k4 : Class := { plain "java/io/Serializable" (some 0) with
  accessFlags := 1537
  interfaces := #[]
  cf := some (fileOf pool4 2 #[] #[] 1537 4 #[] #[])
  fields := #[]
  methods := #[]
  instanceTypes := #[]
  staticTypes := #[]
  resolved := Array.replicate 8 none
  statics := none }

/-- the primitive byte -/
def k5 : Class := { plain "byte" none with kind := .primitive 'B', accessFlags := 0x411 }
/-- [B -/
def k6 : Class := { plain "[B" (some 0) with kind := .array 5 .byte, interfaces := #[3, 4], accessFlags := 1041 }

/-- the primitive int -/
def k7 : Class := { plain "int" none with kind := .primitive 'I', accessFlags := 0x411 }
/-- [I -/
def k8 : Class := { plain "[I" (some 0) with kind := .array 7 .int, interfaces := #[3, 4], accessFlags := 1041 }

def heap : Heap := #[]
def classes : Array Class := #[k0, k1, k2, k3, k4, k5, k6, k7, k8]
def interned : List (Array UInt16 × Addr) := []
def slotsUsed : Nat := 0
def theMethod : MethodId := ⟨1, 2⟩
def args0 : Array Value := #[.long 3500, .int 12]
def aboutOver (below : List Frame) : State where
  vm := { classes := classes, interned := interned.toArray }
  heap := heap
  slotsUsed := slotsUsed
  threads := #[{ frames := .invoking theMethod args0 :: below }]
def below0 : List Frame := [.native { method := ⟨0, 0⟩, args := #[] }]
def about1 : State := aboutOver below0
def p0 : Program := .bare "" "" ""
def e0 : Env := launch0.env 0 0 0
theorem w_frames : about1.frames = Frame.invoking theMethod args0 :: below0 := rfl
set_option maxRecDepth 65536 in
theorem w_args : argsFit about1.vm theMethod args0 = true := by decide +kernel
set_option maxRecDepth 65536 in
theorem w_heap : heapFits about1 = true := by decide +kernel
set_option maxRecDepth 65536 in
theorem w_runnable : about1.curStatus? = some .runnable := by decide +kernel
set_option maxRecDepth 65536 in
theorem w_alone : about1.alone = true := by decide +kernel
set_option maxRecDepth 65536 in
theorem w_named : about1.methodNamed? x = some theMethod := by decide +kernel
set_option maxRecDepth 65536 in
theorem w_hears : about1.hears theMethod below0 = true := by decide +kernel
set_option maxRecDepth 65536 in
theorem w_ripe : about1.ripe theMethod args0 below0 = true := by decide +kernel
theorem w_running : about1.status = .running := rfl
set_option maxRecDepth 65536 in
theorem w_room : about1.hasRoom e0.platform room_1 = true :=
  launch0.hasRoom_least _ room_1 (by decide +kernel) (by decide +kernel) (by decide +kernel) (by decide +kernel) (by decide +kernel) (by decide +kernel)
theorem allAtoms_all (ts : List Jvm.Cond) (a : Array Jvm.Value) (st : Jvm.State) : (allAtoms ts).before a st = ts.all (fun c => c.before a st) := by
  induction ts with
  | nil => rfl
  | cons c t ih =>
    show (Jvm.Cond.and c (allAtoms t)).before a st = _
    rw [Jvm.Cond.before_and, ih, List.all_cons]
def words1 : List Jvm.Cond := Jvm.Cond.code x code maxLocals ret :: tables_1
/-- a 'code' word, met by the world's own term for the bytes: nothing is compared byte by byte -/
theorem code_word {y : MethodName} {bytes : ByteArray} {mx : Nat} {rt : Option FieldType} {a : Array Value} {s : State} {m : MethodId} {meth : Method} {c : Code} (h1 : s.methodNamed? y = some m) (h2 : s.vm.method? m = some meth) (h3 : meth.code = some c) (h4 : c.code = bytes)
    (h5 : (c.maxLocals == mx && c.exceptionTable.isEmpty && decide (c.maxStack ≤ mostOperands) && decide (meth.sig.returnType = rt) && !meth.locks && decide (parseMethodDescriptor y.desc = some meth.sig)) = true) : (Jvm.Cond.code y bytes mx rt).before a s = true := by
  simp only [Bool.and_eq_true, beq_iff_eq, Bool.not_eq_true', decide_eq_true_eq] at h5
  obtain ⟨⟨⟨⟨⟨g1, g2⟩, g3⟩, g4⟩, g5⟩, g6⟩ := h5
  simp [Cond.before, Cond.holds, Cond.value, h1, h2, h3, h4, g1, g2, g3, g4, g5, g6]
def isCode : Jvm.Cond → Bool
  | .code _ _ _ _ => true
  | _ => false
theorem all_split {L : List Jvm.Cond} {P : Jvm.Cond → Bool} (h1 : L.all (fun c => isCode c || P c) = true) (h2 : ∀ c ∈ L.filter isCode, P c = true) : L.all P = true := by
  refine List.all_eq_true.mpr fun c hc => ?_
  have h := List.all_eq_true.mp h1 c hc
  rcases Bool.eq_false_or_eq_true (isCode c) with hi | hi
  · exact h2 c (List.mem_filter.mpr ⟨hc, hi⟩)
  · simpa [hi] using h
set_option maxRecDepth 65536 in
theorem w_c0 : (Jvm.Cond.code x code maxLocals ret).before args0 about1 = true := code_word (m := ⟨1, 2⟩) (meth := k1m2) (c := k1c2) (by decide +kernel) rfl rfl rfl (by decide +kernel)
set_option maxRecDepth 65536 in
theorem w_c1 : (Jvm.Cond.code ({ cls := "com/example/quotarail/quotarail/io/ResultCode", name := "isProtocolError", desc := "(J)Z" } : Jvm.MethodName) prog_14_method_2_code (2 : Nat) (Option.some Jvm.ClassFile.FieldType.boolean)).before args0 about1 = true := code_word (m := ⟨2, 1⟩) (meth := k2m1) (c := k2c1) (by decide +kernel) rfl rfl rfl (by decide +kernel)
set_option maxRecDepth 65536 in
theorem w_c2 : (Jvm.Cond.code ({ cls := "com/example/quotarail/quotarail/io/ResultCodeIsProtocolErrorPinLaw", name := "thousandsClassIsThree", desc := "(J)Z" } : Jvm.MethodName) method_2_code (2 : Nat) (Option.some Jvm.ClassFile.FieldType.boolean)).before args0 about1 = true := code_word (m := ⟨1, 1⟩) (meth := k1m1) (c := k1c1) (by decide +kernel) rfl rfl rfl (by decide +kernel)
def codes1 : List Jvm.Cond := [Jvm.Cond.code x code maxLocals ret, Jvm.Cond.code ({ cls := "com/example/quotarail/quotarail/io/ResultCode", name := "isProtocolError", desc := "(J)Z" } : Jvm.MethodName) prog_14_method_2_code (2 : Nat) (Option.some Jvm.ClassFile.FieldType.boolean), Jvm.Cond.code ({ cls := "com/example/quotarail/quotarail/io/ResultCodeIsProtocolErrorPinLaw", name := "thousandsClassIsThree", desc := "(J)Z" } : Jvm.MethodName) method_2_code (2 : Nat) (Option.some Jvm.ClassFile.FieldType.boolean)]
set_option maxRecDepth 65536 in
theorem codes_eq : words1.filter isCode = codes1 := rfl
theorem w_codes : ∀ c ∈ words1.filter isCode, c.before args0 about1 = true := by
  rw [codes_eq]
  intro c hc
  simp only [codes1, List.mem_cons, List.not_mem_nil, or_false] at hc
  rcases hc with rfl | rfl | rfl
  · exact w_c0
  · exact w_c1
  · exact w_c2
set_option maxRecDepth 65536 in
theorem w_t1 : words1.all (fun c => isCode c || c.before args0 about1) = true := by decide +kernel
theorem w_tables : (allAtoms (Jvm.Cond.code x code maxLocals ret :: tables_1)).before args0 about1 = true := by
  rw [allAtoms_all]
  show words1.all (fun c => c.before args0 about1) = true
  refine all_split ?_ w_codes
  rw [w_t1]
set_option maxRecDepth 65536 in
theorem w_case : (Jvm.Cond.and given_1 narrow_1).before args0 about1 = true := by decide +kernel
theorem w_applies : (headSpec (Jvm.Cond.code x code maxLocals ret :: tables_1) room_1).applies x e0.platform about1 = true :=
  (Spec.applies_iff w_frames).mpr ⟨w_running, w_runnable, w_alone, w_named, w_hears, w_ripe, w_room, w_tables⟩
theorem atStart : AtStart classFile x code maxLocals ret World_1 tables_1 room_1 Calls_1 rest_1 Pre_1 launch0 p0 e0 about1 theMethod args0 below0 :=
  ⟨lists_1, trivial, launch0.admits_env _ _ _, launch0.least_env, fairChoices_fair.cas, fairChoices_fair.clock, w_frames, w_args, w_heap, w_applies, trivial, trivial, w_case⟩
end start1
theorem witness_1 : WitnessClaimed_1 := ⟨start1.p0, start1.e0, start1.about1, start1.theMethod, start1.args0, start1.below0, start1.atStart⟩
end Jvm.Pilot.@@N@@
