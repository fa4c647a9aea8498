import JvmDerived
import JvmDerived.Pilot.@@N@@Statement
import JvmDerived.Pilot.@@N@@Code
set_option linter.unusedVariables false
set_option linter.unusedSimpArgs false
namespace Jvm.Pilot.@@N@@
open Jvm Jvm.ClassFile Sem Op Lib Jvm.Free Jvm.Stand Jvm.LawKit Jvm.RoadKit Bundle Jvm.Pilot.@@N@@.Jvm.D
/-! from a frame on, the body comes to its end as Q says -/
section OwnKit
variable {p : Program} {l : Launch} {e : Env} {R : Room} {s : State} {m : MethodId} {args : Array Value} {below : List Frame} {meth : Method} {c : Code} {T T' : State} {locs : List Loc} {cells slots C D : Nat} {Q Q' : Option Value → Heap → List Loc → Prop} {g g' : JFrame}
def Go (p : Program) (e : Env) (below : List Frame) (s : State) (C D : Nat) (Q : Option Value → Heap → List Loc → Prop) (T : State) (g : JFrame) : Prop :=
  ∃ u o, Steps p.tables e below (T.setTop g) u ∧ u.status = .running ∧ Ended u below o ∧ ∃ v L, o = .returned v ∧ Q v u.heap L ∧ FrameEnd s o u L C D
def PureQ (r : Value) (h0 : Heap) (v : Option Value) (h : Heap) (L : List Loc) : Prop := v = some r ∧ L = [] ∧ h = h0
theorem Go.step (k : ∀ t, Steps p.tables e below (T'.setTop g') t → Steps p.tables e below (T.setTop g) t) (h : Go p e below s C D Q T' g') : Go p e below s C D Q T g := by
  obtain ⟨u, o, h1, r⟩ := h
  exact ⟨u, o, k _ h1, r⟩
theorem Go.mono (h : Go p e below s C D Q T g) (q : ∀ v h L, Q v h L → Q' v h L) : Go p e below s C D Q' T g := by
  obtain ⟨u, o, h1, h2, h3, v, L, h4, h5, h6⟩ := h
  exact ⟨u, o, h1, h2, h3, v, L, h4, q _ _ _ h5, h6⟩
theorem Go.retN (X : Stand p l e R s m args below meth c T locs cells slots) (hx : p.tables.exec = Jvm.exec) (hlk : meth.locks = false) {pc : Nat} {Ls : Array Slot} {z : Int32} {t : FieldType} {rest : List Value} (hret : meth.sig.returnType = some t) (ht : t = .boolean ∨ t = .byte ∨ t = .char ∨ t = .short)
    (hd : decode c.code pc = .ok (.ireturn, 1)) (hC : cells ≤ C) (hD : slots ≤ D) (hq : Q (some (.int (nar t z))) T.heap locs) : Go p e below s C D Q T (mkF m pc Ls (.int z :: rest)) := by
  obtain ⟨fs, hr, hrun, hended, hW, hsame⟩ := X.leave (v := some (.int (nar t z))) (fun h => by rw [hret] at h; cases h) hlk
  exact ⟨_, _, Jvm.RoadKit.retN X hx hret ht hd hr, hrun, hended, _, _, rfl, hq, ⟨_, rfl⟩, hW, hsame.mono hC hD⟩
theorem Go.retW (X : Stand p l e R s m args below meth c T locs cells slots) (hx : p.tables.exec = Jvm.exec) (hlk : meth.locks = false) {pc : Nat} {Ls : Array Slot} {w : Value} {t : FieldType} {i : Instr} {rest : List Value} (hret : meth.sig.returnType = some t) (hn : narrow t w = w)
    (hi : (i = .ireturn ∧ (t = .int ∨ t = .boolean ∨ t = .byte ∨ t = .char ∨ t = .short) ∧ ∃ z, w = .int z) ∨ (i = .lreturn ∧ t = .long ∧ ∃ z, w = .long z) ∨ (i = .dreturn ∧ t = .double ∧ ∃ z, w = .double z) ∨ (i = .freturn ∧ t = .float ∧ ∃ z, w = .float z) ∨ (i = .areturn ∧ t.isReference = true ∧ w.isRef = true))
    (hd : decode c.code pc = .ok (i, 1)) (hC : cells ≤ C) (hD : slots ≤ D) (hq : Q (some w) T.heap locs) : Go p e below s C D Q T (mkF m pc Ls (w :: rest)) := by
  obtain ⟨fs, hr, hrun, hended, hW, hsame⟩ := X.leave (v := some w) (fun h => by rw [hret] at h; cases h) hlk
  exact ⟨_, _, retOut X hx hret hn hi hd hr, hrun, hended, _, _, rfl, hq, ⟨_, rfl⟩, hW, hsame.mono hC hD⟩
theorem Go.ret0 (X : Stand p l e R s m args below meth c T locs cells slots) (hx : p.tables.exec = Jvm.exec) (hlk : meth.locks = false) {pc : Nat} {Ls : Array Slot} (hret : meth.sig.returnType = none)
    (hd : decode c.code pc = .ok (.return_, 1)) (hC : cells ≤ C) (hD : slots ≤ D) (hq : Q none T.heap locs) : Go p e below s C D Q T (mkF m pc Ls []) := by
  obtain ⟨fs, hr, hrun, hended, hW, hsame⟩ := X.leave (v := none) (fun _ => rfl) hlk
  exact ⟨_, _, X.returnOut hx hret hd hr, hrun, hended, _, _, rfl, hq, ⟨_, rfl⟩, hW, hsame.mono hC hD⟩
end OwnKit
theorem pd_0 : parseMethodDescriptor "(I)Z" = some ⟨[.int], some .boolean⟩ := by decide +kernel
theorem own_ord {t : Term} {a : Addr} {k : Int32} {args : Array Value} {s : State} {C n d : String} (ev : t.eval args s none [] s = some (.ref a)) (h : (Jvm.Cond.eq (.field t C n d) (.int k)).value args s none s [] = some true) : s.fieldOf? a C n d = some (.int k) := by
  have e := fld_at (C := C) (n := n) (dd := d) ev
  cases hf : s.fieldOf? a C n d with
  | none => rw [hf] at e; simp [Cond.value, e] at h
  | some v => rw [hf] at e; cases v <;> simp [Cond.value, e, Term.int_eval] at h ⊢; exact h
theorem own_ref {t u : Term} {a b : Addr} {args : Array Value} {s : State} {C n d : String} (ev : t.eval args s none [] s = some (.ref a)) (eu : u.eval args s none [] s = some (.ref b)) (h : (Jvm.Cond.eq (.field t C n d) u).value args s none s [] = some true) : s.fieldOf? a C n d = some (.ref b) := by
  have e := fld_at (C := C) (n := n) (dd := d) ev
  cases hf : s.fieldOf? a C n d with
  | none => rw [hf] at e; simp [Cond.value, e] at h
  | some v => rw [hf] at e; cases v <;> simp [Cond.value, e, eu] at h ⊢; exact h
theorem own_ne {a b : Addr} {v w : Value} {s : State} {C n d : String} (h1 : s.fieldOf? a C n d = some v) (h2 : s.fieldOf? b C n d = some w) (hn : v ≠ w) : a ≠ b := fun e => by
  subst e; exact hn (Option.some.inj (h1.symm.trans h2))
theorem d1_0 : decode prog_59_method_7_code 0 = .ok (.iload_n 1, 1) := by decide +kernel
theorem d1_1 : decode prog_59_method_7_code 1 = .ok (.ifCond .ge 11, 3) := by decide +kernel
theorem d1_4 : decode prog_59_method_7_code 4 = .ok (.aload_n 0, 1) := by decide +kernel
theorem d1_5 : decode prog_59_method_7_code 5 = .ok (.getfield 45, 3) := by decide +kernel
theorem d1_8 : decode prog_59_method_7_code 8 = .ok (.istore_n 2, 1) := by decide +kernel
theorem d1_9 : decode prog_59_method_7_code 9 = .ok (.goto 20, 3) := by decide +kernel
theorem d1_12 : decode prog_59_method_7_code 12 = .ok (.iload_n 1, 1) := by decide +kernel
theorem d1_13 : decode prog_59_method_7_code 13 = .ok (.ifCond .ne 11, 3) := by decide +kernel
theorem d1_16 : decode prog_59_method_7_code 16 = .ok (.aload_n 0, 1) := by decide +kernel
theorem d1_17 : decode prog_59_method_7_code 17 = .ok (.getfield 49, 3) := by decide +kernel
theorem d1_20 : decode prog_59_method_7_code 20 = .ok (.istore_n 2, 1) := by decide +kernel
theorem d1_21 : decode prog_59_method_7_code 21 = .ok (.goto 8, 3) := by decide +kernel
theorem d1_24 : decode prog_59_method_7_code 24 = .ok (.aload_n 0, 1) := by decide +kernel
theorem d1_25 : decode prog_59_method_7_code 25 = .ok (.getfield 52, 3) := by decide +kernel
theorem d1_28 : decode prog_59_method_7_code 28 = .ok (.istore_n 2, 1) := by decide +kernel
theorem d1_29 : decode prog_59_method_7_code 29 = .ok (.iload_n 2, 1) := by decide +kernel
theorem d1_30 : decode prog_59_method_7_code 30 = .ok (.ireturn, 1) := by decide +kernel
theorem pn_1 : plainName "com/example/lattice_node/latticenode/core/query/Comparison$Operator" = true := by first | (simp [plainName, overriddenIn]; done) | decide +kernel
theorem ef_1 (m : MethodId) (o0 : Addr) (p1 : Int32) : entryFrame m #[(.ref o0), (.int p1)] 3 = mkF m 0 #[.val (.ref o0), .val (.int p1), .unset] [] := by first | (simp [entryFrame, mkF, argsToLocals, Value.category]; done) | rfl
def f1_29 (v29_2 : Int32) : Int32 := (nar .boolean v29_2)
def f1_24 (holdsAbove : Int32) : Int32 := (f1_29 holdsAbove)
def f1_16 (holdsAt : Int32) : Int32 := (f1_29 holdsAt)
def f1_12 (p1 : Int32) (holdsAt : Int32) (holdsAbove : Int32) : Int32 := if p1 = (0 : Int32) then (f1_16 holdsAt) else (f1_24 holdsAbove)
def f1_4 (holdsBelow : Int32) : Int32 := (f1_29 holdsBelow)
def f1_0 (p1 : Int32) (holdsBelow : Int32) (holdsAt : Int32) (holdsAbove : Int32) : Int32 := if p1 < (0 : Int32) then (f1_4 holdsBelow) else (f1_12 p1 holdsAt holdsAbove)
set_option maxRecDepth 65536 in
set_option maxHeartbeats 40000000 in
theorem rm1 (l : Launch) (Z : State) (a0 : Array Value) (hw : ∀ d ∈ tables_1, d.before a0 Z = true) (ws : List Jvm.Cond) (o0 : Addr) (p1 : Int32) (holdsBelow : Int32) (holdsAt : Int32) (holdsAbove : Int32) (h0 : Heap) (F_holdsBelow : Fld Z h0 o0 "com/example/lattice_node/latticenode/core/query/Comparison$Operator" "holdsBelow" "Z" (.int holdsBelow)) (F_holdsAt : Fld Z h0 o0 "com/example/lattice_node/latticenode/core/query/Comparison$Operator" "holdsAt" "Z" (.int holdsAt)) (F_holdsAbove : Fld Z h0 o0 "com/example/lattice_node/latticenode/core/query/Comparison$Operator" "holdsAbove" "Z" (.int holdsAbove)) :
    MetFree l (⟨"com/example/lattice_node/latticenode/core/query/Comparison$Operator", "holdsFor", "(I)Z"⟩ : MethodName) (head1 (Jvm.Cond.code (⟨"com/example/lattice_node/latticenode/core/query/Comparison$Operator", "holdsFor", "(I)Z"⟩ : MethodName) prog_59_method_7_code 3 (some .boolean) :: ws) ({ frames := 0, cells := 0, slots := 0, locals := 0 } : Room)) (fun a U => a = #[(.ref o0), (.int p1)] ∧ Z.Warmed39 U.vm ∧ U.heap = h0) (fun _ _ _ _ _ => True) (fun _ U o U' => ∃ v L, o = .returned v ∧ (PureQ (.int (f1_0 p1 holdsBelow holdsAt holdsAbove)) h0) v U'.heap L ∧ FrameEnd U o U' L ({ frames := 0, cells := 0, slots := 0, locals := 0 } : Room).cells ({ frames := 0, cells := 0, slots := 0, locals := 0 } : Room).slots) := by
  refine MetFree.of_bodySF (plainFor_of_name pn_1) hisR ?_
  intro p e s m args below meth c s₁ Bd hml0 hP hK
  obtain ⟨rfl, hZ, hh⟩ := hP
  have hx := Bd.exec
  have hby := Bd.bytes
  have hlk : meth.locks = false := BodyLoose.notSynchronized Bd
  have hml : c.maxLocals = 3 := hml0
  have hown : s.vm.findClass "com/example/lattice_node/latticenode/core/query/Comparison$Operator" = some m.cls := findClass_of_methodNamed Bd.named
  have hnm := (name_of_methodNamed Bd.named Bd.method).1
  have X0 : Stand p l e ({ frames := 0, cells := 0, slots := 0, locals := 0 } : Room) s m #[(.ref o0), (.int p1)] below meth c s₁ ([] : List Loc) 0 0 := Stand.of_body Bd
  have e0 : s₁.heap = h0 := by rw [← hh, Bd.state]; rfl
  show Go p e below s 0 0 (PureQ (.int (f1_0 p1 holdsBelow holdsAt holdsAbove)) h0) s₁ (entryFrame m #[(.ref o0), (.int p1)] 3)
  rw [ef_1 m o0 p1]
  refine Go.step (g' := (mkF m 1 #[.val (.ref o0), .val (.int p1), .unset] [(.int p1)])) (fun _ k => XS.iloadN X0.here hx rfl (hb hby d1_0) rfl  k) ?_
  have t29 : ∀ (T_29 : State) (X_29 : Stand p l e ({ frames := 0, cells := 0, slots := 0, locals := 0 } : Room) s m #[(.ref o0), (.int p1)] below meth c T_29 ([] : List Loc) 0 0) (e_29 : T_29.heap = h0) (v29_2 : Int32), Go p e below s 0 0 (PureQ (.int (f1_29 v29_2)) h0) T_29 (mkF m 29 #[.val (.ref o0), .val (.int p1), .val (.int v29_2)] []) := by
    intro T_29 X_29 e_29 v29_2
    refine Go.step (g' := (mkF m 30 #[.val (.ref o0), .val (.int p1), .val (.int v29_2)] [(.int v29_2)])) (fun _ k => XS.iloadN X_29.here hx rfl (hb hby d1_29) rfl  k) ?_
    exact Go.retN X_29 hx hlk (t := .boolean) Bd.returns (by simp) (hb hby d1_30) (by decide) (by decide) ⟨rfl, rfl, e_29⟩
  by_cases hc1 : p1 < (0 : Int32)
  · rw [show (f1_0 p1 holdsBelow holdsAt holdsAbove) = (f1_4 holdsBelow) from if_pos hc1]
    refine Go.step (g' := (mkF m 4 #[.val (.ref o0), .val (.int p1), .unset] [])) (fun _ k => XS.ifNo X0.here hx rfl (hb hby d1_1) rfl ((if0 _ _).trans (tlt hc1).2.1) k) ?_
    refine Go.step (g' := (mkF m 5 #[.val (.ref o0), .val (.int p1), .unset] [(.ref o0)])) (fun _ k => XS.aloadN X0.here hx rfl (hb hby d1_4) rfl rfl  k) ?_
    obtain ⟨T1, X1, e1, st1⟩ := getF X0 hx hZ hown (host := "") (Or.inl (hw _ (List.mem_of_getElem? (i := 13) rfl))) Via.refl e0 F_holdsBelow (g := (mkF m 5 #[.val (.ref o0), .val (.int p1), .unset] [(.ref o0)])) rfl rfl (hb hby d1_5)
    refine Go.step (g' := (mkF m 8 #[.val (.ref o0), .val (.int p1), .unset] [(.int holdsBelow)])) st1 ?_
    refine Go.step (g' := (mkF m 9 #[.val (.ref o0), .val (.int p1), .val (.int holdsBelow)] [])) (fun _ k => XS.istoreN X1.here hx rfl (hb hby d1_8) rfl (l' := #[.val (.ref o0), .val (.int p1), .val (.int holdsBelow)]) rfl k) ?_
    refine Go.step (g' := (mkF m 29 #[.val (.ref o0), .val (.int p1), .val (.int holdsBelow)] [])) (fun _ k => XS.goto X1.here hx rfl (pc0 := 9) (pc' := 29) rfl (hb hby d1_9) (by decide) (by decide) k) ?_
    rw [show (f1_4 holdsBelow) = (f1_29 holdsBelow) from rfl]
    exact t29 T1 X1 e1 holdsBelow
  · rw [show (f1_0 p1 holdsBelow holdsAt holdsAbove) = (f1_12 p1 holdsAt holdsAbove) from if_neg hc1]
    refine Go.step (g' := (mkF m 12 #[.val (.ref o0), .val (.int p1), .unset] [])) (fun _ k => XS.ifYes X0.here hx rfl (pc0 := 1) (pc' := 12) rfl (hb hby d1_1) rfl ((if0 _ _).trans (flt hc1).2.1) (by decide) (by decide) k) ?_
    refine Go.step (g' := (mkF m 13 #[.val (.ref o0), .val (.int p1), .unset] [(.int p1)])) (fun _ k => XS.iloadN X0.here hx rfl (hb hby d1_12) rfl  k) ?_
    by_cases hc13 : p1 = (0 : Int32)
    · rw [show (f1_12 p1 holdsAt holdsAbove) = (f1_16 holdsAt) from if_pos hc13]
      refine Go.step (g' := (mkF m 16 #[.val (.ref o0), .val (.int p1), .unset] [])) (fun _ k => XS.ifNo X0.here hx rfl (hb hby d1_13) rfl ((if0 _ _).trans (teq hc13).2) k) ?_
      refine Go.step (g' := (mkF m 17 #[.val (.ref o0), .val (.int p1), .unset] [(.ref o0)])) (fun _ k => XS.aloadN X0.here hx rfl (hb hby d1_16) rfl rfl  k) ?_
      obtain ⟨T2, X2, e2, st2⟩ := getF X0 hx hZ hown (host := "") (Or.inl (hw _ (List.mem_of_getElem? (i := 23) rfl))) Via.refl e0 F_holdsAt (g := (mkF m 17 #[.val (.ref o0), .val (.int p1), .unset] [(.ref o0)])) rfl rfl (hb hby d1_17)
      refine Go.step (g' := (mkF m 20 #[.val (.ref o0), .val (.int p1), .unset] [(.int holdsAt)])) st2 ?_
      refine Go.step (g' := (mkF m 21 #[.val (.ref o0), .val (.int p1), .val (.int holdsAt)] [])) (fun _ k => XS.istoreN X2.here hx rfl (hb hby d1_20) rfl (l' := #[.val (.ref o0), .val (.int p1), .val (.int holdsAt)]) rfl k) ?_
      refine Go.step (g' := (mkF m 29 #[.val (.ref o0), .val (.int p1), .val (.int holdsAt)] [])) (fun _ k => XS.goto X2.here hx rfl (pc0 := 21) (pc' := 29) rfl (hb hby d1_21) (by decide) (by decide) k) ?_
      rw [show (f1_16 holdsAt) = (f1_29 holdsAt) from rfl]
      exact t29 T2 X2 e2 holdsAt
    · rw [show (f1_12 p1 holdsAt holdsAbove) = (f1_24 holdsAbove) from if_neg hc13]
      refine Go.step (g' := (mkF m 24 #[.val (.ref o0), .val (.int p1), .unset] [])) (fun _ k => XS.ifYes X0.here hx rfl (pc0 := 13) (pc' := 24) rfl (hb hby d1_13) rfl ((if0 _ _).trans (feq hc13).2) (by decide) (by decide) k) ?_
      refine Go.step (g' := (mkF m 25 #[.val (.ref o0), .val (.int p1), .unset] [(.ref o0)])) (fun _ k => XS.aloadN X0.here hx rfl (hb hby d1_24) rfl rfl  k) ?_
      obtain ⟨T3, X3, e3, st3⟩ := getF X0 hx hZ hown (host := "") (Or.inl (hw _ (List.mem_of_getElem? (i := 9) rfl))) Via.refl e0 F_holdsAbove (g := (mkF m 25 #[.val (.ref o0), .val (.int p1), .unset] [(.ref o0)])) rfl rfl (hb hby d1_25)
      refine Go.step (g' := (mkF m 28 #[.val (.ref o0), .val (.int p1), .unset] [(.int holdsAbove)])) st3 ?_
      refine Go.step (g' := (mkF m 29 #[.val (.ref o0), .val (.int p1), .val (.int holdsAbove)] [])) (fun _ k => XS.istoreN X3.here hx rfl (hb hby d1_28) rfl (l' := #[.val (.ref o0), .val (.int p1), .val (.int holdsAbove)]) rfl k) ?_
      rw [show (f1_24 holdsAbove) = (f1_29 holdsAbove) from rfl]
      exact t29 T3 X3 e3 holdsAbove
theorem pn_0 : plainName "com/example/lattice_node/latticenode/core/query/OperatorHoldsForPinLaw" = true := by first | (simp [plainName, overriddenIn]; done) | decide +kernel
theorem ef_0 (m : MethodId) (p0 : Int32) (p1 : Int32) : entryFrame m #[(.int p0), (.int p1)] maxLocals = mkF m 0 #[.val (.int p0), .val (.int p1), .unset, .unset, .unset] [] := by first | (simp [entryFrame, mkF, argsToLocals, Value.category, maxLocals]; done) | rfl
def f0_152d135 (v152d135_s0 : Int32) : Int32 := (nar .boolean v152d135_s0)
def f0_151d135 : Int32 := (f0_152d135 (0 : Int32))
def f0_147d135 : Int32 := (f0_152d135 (1 : Int32))
def f0_137d135 (p1 : Int32) (v135_s0 : Int32) : Int32 := if (f1_0 p1 (0 : Int32) (1 : Int32) (1 : Int32)) = v135_s0 then f0_147d135 else f0_151d135
def f0_135 (p1 : Int32) (v135_s0 : Int32) : Int32 := (f0_137d135 p1 v135_s0)
def f0_134 (p1 : Int32) : Int32 := (f0_135 p1 (0 : Int32))
def f0_130 (p1 : Int32) : Int32 := (f0_135 p1 (1 : Int32))
def f0_122 (p1 : Int32) : Int32 := if p1 < (0 : Int32) then (f0_134 p1) else (f0_130 p1)
def f0_152d119 (v152d119_s0 : Int32) : Int32 := (nar .boolean v152d119_s0)
def f0_151d119 : Int32 := (f0_152d119 (0 : Int32))
def f0_147d119 : Int32 := (f0_152d119 (1 : Int32))
def f0_137d119 (p1 : Int32) (v117_s0 : Int32) : Int32 := if (f1_0 p1 (1 : Int32) (1 : Int32) (0 : Int32)) = v117_s0 then f0_147d119 else f0_151d119
def f0_117 (p1 : Int32) (v117_s0 : Int32) : Int32 := (f0_137d119 p1 v117_s0)
def f0_116 (p1 : Int32) : Int32 := (f0_117 p1 (0 : Int32))
def f0_112 (p1 : Int32) : Int32 := (f0_117 p1 (1 : Int32))
def f0_104 (p1 : Int32) : Int32 := if (0 : Int32) < p1 then (f0_116 p1) else (f0_112 p1)
def f0_99 (p0 : Int32) (p1 : Int32) : Int32 := if ((p0 &&& (2147483647 : Int32)) % (6 : Int32)) = (4 : Int32) then (f0_104 p1) else (f0_122 p1)
def f0_152d96 (v152d96_s0 : Int32) : Int32 := (nar .boolean v152d96_s0)
def f0_151d96 : Int32 := (f0_152d96 (0 : Int32))
def f0_147d96 : Int32 := (f0_152d96 (1 : Int32))
def f0_137d96 (p1 : Int32) (v94_s0 : Int32) : Int32 := if (f1_0 p1 (0 : Int32) (0 : Int32) (1 : Int32)) = v94_s0 then f0_147d96 else f0_151d96
def f0_94 (p1 : Int32) (v94_s0 : Int32) : Int32 := (f0_137d96 p1 v94_s0)
def f0_93 (p1 : Int32) : Int32 := (f0_94 p1 (0 : Int32))
def f0_89 (p1 : Int32) : Int32 := (f0_94 p1 (1 : Int32))
def f0_81 (p1 : Int32) : Int32 := if (0 : Int32) < p1 then (f0_89 p1) else (f0_93 p1)
def f0_76 (p0 : Int32) (p1 : Int32) : Int32 := if ((p0 &&& (2147483647 : Int32)) % (6 : Int32)) = (3 : Int32) then (f0_81 p1) else (f0_99 p0 p1)
def f0_152d73 (v152d73_s0 : Int32) : Int32 := (nar .boolean v152d73_s0)
def f0_151d73 : Int32 := (f0_152d73 (0 : Int32))
def f0_147d73 : Int32 := (f0_152d73 (1 : Int32))
def f0_137d73 (p1 : Int32) (v71_s0 : Int32) : Int32 := if (f1_0 p1 (1 : Int32) (0 : Int32) (0 : Int32)) = v71_s0 then f0_147d73 else f0_151d73
def f0_71 (p1 : Int32) (v71_s0 : Int32) : Int32 := (f0_137d73 p1 v71_s0)
def f0_70 (p1 : Int32) : Int32 := (f0_71 p1 (0 : Int32))
def f0_66 (p1 : Int32) : Int32 := (f0_71 p1 (1 : Int32))
def f0_58 (p1 : Int32) : Int32 := if p1 < (0 : Int32) then (f0_66 p1) else (f0_70 p1)
def f0_53 (p0 : Int32) (p1 : Int32) : Int32 := if ((p0 &&& (2147483647 : Int32)) % (6 : Int32)) = (2 : Int32) then (f0_58 p1) else (f0_76 p0 p1)
def f0_152d50 (v152d50_s0 : Int32) : Int32 := (nar .boolean v152d50_s0)
def f0_151d50 : Int32 := (f0_152d50 (0 : Int32))
def f0_147d50 : Int32 := (f0_152d50 (1 : Int32))
def f0_137d50 (p1 : Int32) (v48_s0 : Int32) : Int32 := if (f1_0 p1 (1 : Int32) (0 : Int32) (1 : Int32)) = v48_s0 then f0_147d50 else f0_151d50
def f0_48 (p1 : Int32) (v48_s0 : Int32) : Int32 := (f0_137d50 p1 v48_s0)
def f0_47 (p1 : Int32) : Int32 := (f0_48 p1 (0 : Int32))
def f0_43 (p1 : Int32) : Int32 := (f0_48 p1 (1 : Int32))
def f0_35 (p1 : Int32) : Int32 := if p1 = (0 : Int32) then (f0_47 p1) else (f0_43 p1)
def f0_30 (p0 : Int32) (p1 : Int32) : Int32 := if ((p0 &&& (2147483647 : Int32)) % (6 : Int32)) = (1 : Int32) then (f0_35 p1) else (f0_53 p0 p1)
def f0_152d27 (v152d27_s0 : Int32) : Int32 := (nar .boolean v152d27_s0)
def f0_151d27 : Int32 := (f0_152d27 (0 : Int32))
def f0_147d27 : Int32 := (f0_152d27 (1 : Int32))
def f0_137d27 (p1 : Int32) (v25_s0 : Int32) : Int32 := if (f1_0 p1 (0 : Int32) (1 : Int32) (0 : Int32)) = v25_s0 then f0_147d27 else f0_151d27
def f0_25 (p1 : Int32) (v25_s0 : Int32) : Int32 := (f0_137d27 p1 v25_s0)
def f0_24 (p1 : Int32) : Int32 := (f0_25 p1 (0 : Int32))
def f0_20 (p1 : Int32) : Int32 := (f0_25 p1 (1 : Int32))
def f0_12 (p1 : Int32) : Int32 := if p1 = (0 : Int32) then (f0_20 p1) else (f0_24 p1)
def f0_0 (p0 : Int32) (p1 : Int32) : Int32 := if ((p0 &&& (2147483647 : Int32)) % (6 : Int32)) = (0 : Int32) then (f0_12 p1) else (f0_30 p0 p1)
set_option maxRecDepth 65536 in
set_option maxHeartbeats 40000000 in
theorem rm0 (l : Launch) (Z : State) (a0 : Array Value) (hw : ∀ d ∈ tables_1, d.before a0 Z = true) (ws : List Jvm.Cond) (p0 : Int32) (p1 : Int32) (w_EQUAL : Addr) (w_LESS : Addr) (w_LESS_OR_EQUAL : Addr) (w_NOT_EQUAL : Addr) (w_GREATER_OR_EQUAL : Addr) (w_GREATER : Addr) (h0 : Heap) (S_EQUAL : Sta Z h0 "com/example/lattice_node/latticenode/core/query/Comparison$Operator" "EQUAL" "Lcom/example/lattice_node/latticenode/core/query/Comparison$Operator;" (.ref w_EQUAL)) (S_LESS : Sta Z h0 "com/example/lattice_node/latticenode/core/query/Comparison$Operator" "LESS" "Lcom/example/lattice_node/latticenode/core/query/Comparison$Operator;" (.ref w_LESS)) (S_LESS_OR_EQUAL : Sta Z h0 "com/example/lattice_node/latticenode/core/query/Comparison$Operator" "LESS_OR_EQUAL" "Lcom/example/lattice_node/latticenode/core/query/Comparison$Operator;" (.ref w_LESS_OR_EQUAL)) (S_NOT_EQUAL : Sta Z h0 "com/example/lattice_node/latticenode/core/query/Comparison$Operator" "NOT_EQUAL" "Lcom/example/lattice_node/latticenode/core/query/Comparison$Operator;" (.ref w_NOT_EQUAL)) (S_GREATER_OR_EQUAL : Sta Z h0 "com/example/lattice_node/latticenode/core/query/Comparison$Operator" "GREATER_OR_EQUAL" "Lcom/example/lattice_node/latticenode/core/query/Comparison$Operator;" (.ref w_GREATER_OR_EQUAL)) (S_GREATER : Sta Z h0 "com/example/lattice_node/latticenode/core/query/Comparison$Operator" "GREATER" "Lcom/example/lattice_node/latticenode/core/query/Comparison$Operator;" (.ref w_GREATER)) (E_EQUAL : Exa Z h0 w_EQUAL "com/example/lattice_node/latticenode/core/query/Comparison$Operator") (E_LESS : Exa Z h0 w_LESS "com/example/lattice_node/latticenode/core/query/Comparison$Operator") (E_LESS_OR_EQUAL : Exa Z h0 w_LESS_OR_EQUAL "com/example/lattice_node/latticenode/core/query/Comparison$Operator") (E_NOT_EQUAL : Exa Z h0 w_NOT_EQUAL "com/example/lattice_node/latticenode/core/query/Comparison$Operator") (E_GREATER_OR_EQUAL : Exa Z h0 w_GREATER_OR_EQUAL "com/example/lattice_node/latticenode/core/query/Comparison$Operator") (E_GREATER : Exa Z h0 w_GREATER "com/example/lattice_node/latticenode/core/query/Comparison$Operator") (F_EQUAL_holdsAbove : Fld Z h0 w_EQUAL "com/example/lattice_node/latticenode/core/query/Comparison$Operator" "holdsAbove" "Z" (.int (0 : Int32))) (F_LESS_holdsAbove : Fld Z h0 w_LESS "com/example/lattice_node/latticenode/core/query/Comparison$Operator" "holdsAbove" "Z" (.int (0 : Int32))) (F_LESS_holdsBelow : Fld Z h0 w_LESS "com/example/lattice_node/latticenode/core/query/Comparison$Operator" "holdsBelow" "Z" (.int (1 : Int32))) (F_LESS_OR_EQUAL_holdsBelow : Fld Z h0 w_LESS_OR_EQUAL "com/example/lattice_node/latticenode/core/query/Comparison$Operator" "holdsBelow" "Z" (.int (1 : Int32))) (F_NOT_EQUAL_holdsAbove : Fld Z h0 w_NOT_EQUAL "com/example/lattice_node/latticenode/core/query/Comparison$Operator" "holdsAbove" "Z" (.int (1 : Int32))) (F_EQUAL_holdsBelow : Fld Z h0 w_EQUAL "com/example/lattice_node/latticenode/core/query/Comparison$Operator" "holdsBelow" "Z" (.int (0 : Int32))) (F_GREATER_OR_EQUAL_holdsAbove : Fld Z h0 w_GREATER_OR_EQUAL "com/example/lattice_node/latticenode/core/query/Comparison$Operator" "holdsAbove" "Z" (.int (1 : Int32))) (F_GREATER_holdsAbove : Fld Z h0 w_GREATER "com/example/lattice_node/latticenode/core/query/Comparison$Operator" "holdsAbove" "Z" (.int (1 : Int32))) (F_GREATER_holdsBelow : Fld Z h0 w_GREATER "com/example/lattice_node/latticenode/core/query/Comparison$Operator" "holdsBelow" "Z" (.int (0 : Int32))) (F_LESS_OR_EQUAL_holdsAbove : Fld Z h0 w_LESS_OR_EQUAL "com/example/lattice_node/latticenode/core/query/Comparison$Operator" "holdsAbove" "Z" (.int (0 : Int32))) (F_NOT_EQUAL_holdsBelow : Fld Z h0 w_NOT_EQUAL "com/example/lattice_node/latticenode/core/query/Comparison$Operator" "holdsBelow" "Z" (.int (1 : Int32))) (F_GREATER_OR_EQUAL_holdsBelow : Fld Z h0 w_GREATER_OR_EQUAL "com/example/lattice_node/latticenode/core/query/Comparison$Operator" "holdsBelow" "Z" (.int (0 : Int32))) (F_GREATER_holdsAt : Fld Z h0 w_GREATER "com/example/lattice_node/latticenode/core/query/Comparison$Operator" "holdsAt" "Z" (.int (0 : Int32))) (F_EQUAL_holdsAt : Fld Z h0 w_EQUAL "com/example/lattice_node/latticenode/core/query/Comparison$Operator" "holdsAt" "Z" (.int (1 : Int32))) (F_LESS_holdsAt : Fld Z h0 w_LESS "com/example/lattice_node/latticenode/core/query/Comparison$Operator" "holdsAt" "Z" (.int (0 : Int32))) (F_NOT_EQUAL_holdsAt : Fld Z h0 w_NOT_EQUAL "com/example/lattice_node/latticenode/core/query/Comparison$Operator" "holdsAt" "Z" (.int (0 : Int32))) (F_LESS_OR_EQUAL_holdsAt : Fld Z h0 w_LESS_OR_EQUAL "com/example/lattice_node/latticenode/core/query/Comparison$Operator" "holdsAt" "Z" (.int (1 : Int32))) (F_GREATER_OR_EQUAL_holdsAt : Fld Z h0 w_GREATER_OR_EQUAL "com/example/lattice_node/latticenode/core/query/Comparison$Operator" "holdsAt" "Z" (.int (1 : Int32))) :
    MetFree l x (head1 (Jvm.Cond.code x code maxLocals ret :: ws) room_1) (fun a U => a = #[(.int p0), (.int p1)] ∧ Z.Warmed39 U.vm ∧ U.heap = h0) (fun _ _ _ _ _ => True) (fun _ U o U' => ∃ v L, o = .returned v ∧ (PureQ (.int (f0_0 p0 p1)) h0) v U'.heap L ∧ FrameEnd U o U' L room_1.cells room_1.slots) := by
  refine MetFree.of_bodySF (plainFor_of_name pn_0) hisR ?_
  intro p e s m args below meth c s₁ Bd hml0 hP hK
  obtain ⟨rfl, hZ, hh⟩ := hP
  have hx := Bd.exec
  have hby := Bd.bytes
  have hlk : meth.locks = false := BodyLoose.notSynchronized Bd
  have hml : c.maxLocals = 5 := hml0
  have hown : s.vm.findClass "com/example/lattice_node/latticenode/core/query/OperatorHoldsForPinLaw" = some m.cls := findClass_of_methodNamed Bd.named
  have hnm := (name_of_methodNamed Bd.named Bd.method).1
  have X0 : Stand p l e room_1 s m #[(.int p0), (.int p1)] below meth c s₁ ([] : List Loc) 0 0 := Stand.of_body Bd
  have e0 : s₁.heap = h0 := by rw [← hh, Bd.state]; rfl
  show Go p e below s room_1.cells room_1.slots (PureQ (.int (f0_0 p0 p1)) h0) s₁ (entryFrame m #[(.int p0), (.int p1)] maxLocals)
  rw [ef_0 m p0 p1]
  refine Go.step (g' := (mkF m 1 #[.val (.int p0), .val (.int p1), .unset, .unset, .unset] [(.int p0)])) (fun _ k => XS.iloadN X0.here hx rfl (hb hby at_0) rfl  k) ?_
  refine Go.step (g' := (mkF m 3 #[.val (.int p0), .val (.int p1), .unset, .unset, .unset] [(.int (2147483647 : Int32)), (.int p0)])) (fun _ k => X0.ldcI hx hown (mvT hZ (hw _ (List.mem_of_getElem? (i := 0) rfl))) rfl (hb hby at_1) k) ?_
  refine Go.step (g' := (mkF m 4 #[.val (.int p0), .val (.int p1), .unset, .unset, .unset] [(.int (p0 &&& (2147483647 : Int32)))])) (fun _ k => XS.iand X0.here hx rfl (hb hby at_3) rfl k) ?_
  refine Go.step (g' := (mkF m 6 #[.val (.int p0), .val (.int p1), .unset, .unset, .unset] [(.int (6 : Int32)), (.int (p0 &&& (2147483647 : Int32)))])) (fun _ k => XS.bipush X0.here hx rfl (hb hby at_4) k) ?_
  refine Go.step (g' := (mkF m 7 #[.val (.int p0), .val (.int p1), .unset, .unset, .unset] [(.int ((p0 &&& (2147483647 : Int32)) % (6 : Int32)))])) (fun _ k => Jvm.RoadKit.iremM X0 hx rfl (hb hby at_6) rfl (by decide) k) ?_
  refine Go.step (g' := (mkF m 8 #[.val (.int p0), .val (.int p1), .val (.int ((p0 &&& (2147483647 : Int32)) % (6 : Int32))), .unset, .unset] [])) (fun _ k => XS.istoreN X0.here hx rfl (hb hby at_7) rfl (l' := #[.val (.int p0), .val (.int p1), .val (.int ((p0 &&& (2147483647 : Int32)) % (6 : Int32))), .unset, .unset]) rfl k) ?_
  refine Go.step (g' := (mkF m 9 #[.val (.int p0), .val (.int p1), .val (.int ((p0 &&& (2147483647 : Int32)) % (6 : Int32))), .unset, .unset] [(.int ((p0 &&& (2147483647 : Int32)) % (6 : Int32)))])) (fun _ k => XS.iloadN X0.here hx rfl (hb hby at_8) rfl  k) ?_
  by_cases hc9 : ((p0 &&& (2147483647 : Int32)) % (6 : Int32)) = (0 : Int32)
  · rw [show (f0_0 p0 p1) = (f0_12 p1) from if_pos hc9]
    refine Go.step (g' := (mkF m 12 #[.val (.int p0), .val (.int p1), .val (.int ((p0 &&& (2147483647 : Int32)) % (6 : Int32))), .unset, .unset] [])) (fun _ k => XS.ifNo X0.here hx rfl (hb hby at_9) rfl ((if0 _ _).trans (teq hc9).2) k) ?_
    obtain ⟨T1, X1, e1, st1⟩ := getS2 X0 hx hZ hown (host := "") (Or.inl (hw _ (List.mem_of_getElem? (i := 1) rfl))) Via.refl e0 S_EQUAL (g := (mkF m 12 #[.val (.int p0), .val (.int p1), .val (.int ((p0 &&& (2147483647 : Int32)) % (6 : Int32))), .unset, .unset] [])) rfl (hb hby at_12)
    refine Go.step (g' := (mkF m 15 #[.val (.int p0), .val (.int p1), .val (.int ((p0 &&& (2147483647 : Int32)) % (6 : Int32))), .unset, .unset] [(.ref w_EQUAL)])) st1 ?_
    refine Go.step (g' := (mkF m 16 #[.val (.int p0), .val (.int p1), .val (.int ((p0 &&& (2147483647 : Int32)) % (6 : Int32))), .val (.ref w_EQUAL), .unset] [])) (fun _ k => XS.astoreN X1.here hx rfl (hb hby at_15) rfl rfl (l' := #[.val (.int p0), .val (.int p1), .val (.int ((p0 &&& (2147483647 : Int32)) % (6 : Int32))), .val (.ref w_EQUAL), .unset]) rfl k) ?_
    refine Go.step (g' := (mkF m 17 #[.val (.int p0), .val (.int p1), .val (.int ((p0 &&& (2147483647 : Int32)) % (6 : Int32))), .val (.ref w_EQUAL), .unset] [(.int p1)])) (fun _ k => XS.iloadN X1.here hx rfl (hb hby at_16) rfl  k) ?_
    have t25 : ∀ (v25_s0 : Int32), Go p e below s room_1.cells room_1.slots (PureQ (.int (f0_25 p1 v25_s0)) h0) T1 (mkF m 25 #[.val (.int p0), .val (.int p1), .val (.int ((p0 &&& (2147483647 : Int32)) % (6 : Int32))), .val (.ref w_EQUAL), .unset] [(.int v25_s0)]) := by
      intro v25_s0
      refine Go.step (g' := (mkF m 27 #[.val (.int p0), .val (.int p1), .val (.int ((p0 &&& (2147483647 : Int32)) % (6 : Int32))), .val (.ref w_EQUAL), .val (.int v25_s0)] [])) (fun _ k => XS.istore X1.here hx rfl (hb hby at_25) rfl (l' := #[.val (.int p0), .val (.int p1), .val (.int ((p0 &&& (2147483647 : Int32)) % (6 : Int32))), .val (.ref w_EQUAL), .val (.int v25_s0)]) rfl k) ?_
      refine Go.step (g' := (mkF m 137 #[.val (.int p0), .val (.int p1), .val (.int ((p0 &&& (2147483647 : Int32)) % (6 : Int32))), .val (.ref w_EQUAL), .val (.int v25_s0)] [])) (fun _ k => XS.goto X1.here hx rfl (pc0 := 27) (pc' := 137) rfl (hb hby at_27) (by decide) (by decide) k) ?_
      rw [show (f0_25 p1 v25_s0) = (f0_137d27 p1 v25_s0) from rfl]
      refine Go.step (g' := (mkF m 138 #[.val (.int p0), .val (.int p1), .val (.int ((p0 &&& (2147483647 : Int32)) % (6 : Int32))), .val (.ref w_EQUAL), .val (.int v25_s0)] [(.ref w_EQUAL)])) (fun _ k => XS.aloadN X1.here hx rfl (hb hby at_137) rfl rfl  k) ?_
      refine Go.step (g' := (mkF m 139 #[.val (.int p0), .val (.int p1), .val (.int ((p0 &&& (2147483647 : Int32)) % (6 : Int32))), .val (.ref w_EQUAL), .val (.int v25_s0)] [(.int p1), (.ref w_EQUAL)])) (fun _ k => XS.iloadN X1.here hx rfl (hb hby at_138) rfl  k) ?_
      obtain ⟨cq2, kq2, q2a, q2b, q2c⟩ := isOf hZ e1 E_EQUAL
      obtain ⟨_, _, ⟨T2, L2, k2, n2⟩, -, X2, ⟨Lc2, hQ2, l2, y2, z2⟩, st2⟩ := X1.virtualBack hx (y := (⟨"com/example/lattice_node/latticenode/core/query/Comparison$Operator", "holdsFor", "(I)Z"⟩ : MethodName)) (z := (⟨"com/example/lattice_node/latticenode/core/query/Comparison$Operator", "holdsFor", "(I)Z"⟩ : MethodName)) hown (mvT hZ (hw _ (List.mem_of_getElem? (i := 4) rfl))) (mvT hZ (hw _ (List.mem_of_getElem? (i := 5) rfl))) (notFace_of_selects (args := #[]) (mvT hZ (hw _ (List.mem_of_getElem? (i := 7) rfl)))) (mvT hZ (hw _ (List.mem_of_getElem? (i := 7) rfl))) (mvT hZ (hw _ (List.mem_of_getElem? (i := 6) rfl))) (by decide) (backOf (W := 0) (rm1 l Z a0 hw [] w_EQUAL p1 (0 : Int32) (1 : Int32) (0 : Int32) h0 F_EQUAL_holdsBelow F_EQUAL_holdsAt F_EQUAL_holdsAbove) hZ (hw _ (List.mem_of_getElem? (i := 8) rfl)) (hw _ (List.mem_of_getElem? (i := 2) rfl)) (by decide) (by decide)) q2a q2c (g := (mkF m 139 #[.val (.int p0), .val (.int p1), .val (.int ((p0 &&& (2147483647 : Int32)) % (6 : Int32))), .val (.ref w_EQUAL), .val (.int v25_s0)] [(.int p1), (.ref w_EQUAL)])) rfl (by rw [hml]; rfl) (Steps.refl _) (argsL := [(.int p1)]) (rest := []) (lenOf pd_0 rfl) rfl (by show 2 * 0 + _ ≤ _; exact Nat.le_of_eq rfl) (hb hby at_139) (fun _ _ => ⟨rfl, e1, (by decide : 0 + 0 ≤ _), (by decide : 0 + 0 ≤ _)⟩)
      dsimp only [Pt.U, Pt.locs, Pt.cells, Pt.slots] at X2 l2 y2 z2 st2 hQ2
      subst l2 y2 z2
      obtain ⟨rfl, rfl, e2⟩ := hQ2
      try rw [List.append_nil] at X2
      refine Go.step (g' := (mkF m 142 #[.val (.int p0), .val (.int p1), .val (.int ((p0 &&& (2147483647 : Int32)) % (6 : Int32))), .val (.ref w_EQUAL), .val (.int v25_s0)] [(.int (f1_0 p1 (0 : Int32) (1 : Int32) (0 : Int32)))])) (fun _ k => st2.trans k) ?_
      refine Go.step (g' := (mkF m 144 #[.val (.int p0), .val (.int p1), .val (.int ((p0 &&& (2147483647 : Int32)) % (6 : Int32))), .val (.ref w_EQUAL), .val (.int v25_s0)] [(.int v25_s0), (.int (f1_0 p1 (0 : Int32) (1 : Int32) (0 : Int32)))])) (fun _ k => XS.iload X2.here hx rfl (hb hby at_142) rfl  k) ?_
      have t152d27 : ∀ (v152d27_s0 : Int32), Go p e below s room_1.cells room_1.slots (PureQ (.int (f0_152d27 v152d27_s0)) h0) T2 (mkF m 152 #[.val (.int p0), .val (.int p1), .val (.int ((p0 &&& (2147483647 : Int32)) % (6 : Int32))), .val (.ref w_EQUAL), .val (.int v25_s0)] [(.int v152d27_s0)]) := by
        intro v152d27_s0
        exact Go.retN X2 hx hlk (t := .boolean) Bd.returns (by simp) (hb hby at_152) (by decide) (by decide) ⟨rfl, rfl, e2⟩
      by_cases hc144d27 : (f1_0 p1 (0 : Int32) (1 : Int32) (0 : Int32)) = v25_s0
      · rw [show (f0_137d27 p1 v25_s0) = f0_147d27 from if_pos hc144d27]
        refine Go.step (g' := (mkF m 147 #[.val (.int p0), .val (.int p1), .val (.int ((p0 &&& (2147483647 : Int32)) % (6 : Int32))), .val (.ref w_EQUAL), .val (.int v25_s0)] [])) (fun _ k => XS.icmpNo X2.here hx rfl (hb hby at_144) rfl (teq hc144d27).2 k) ?_
        refine Go.step (g' := (mkF m 148 #[.val (.int p0), .val (.int p1), .val (.int ((p0 &&& (2147483647 : Int32)) % (6 : Int32))), .val (.ref w_EQUAL), .val (.int v25_s0)] [(.int (1 : Int32))])) (fun _ k => XS.iconst X2.here hx rfl (hb hby at_147) k) ?_
        refine Go.step (g' := (mkF m 152 #[.val (.int p0), .val (.int p1), .val (.int ((p0 &&& (2147483647 : Int32)) % (6 : Int32))), .val (.ref w_EQUAL), .val (.int v25_s0)] [(.int (1 : Int32))])) (fun _ k => XS.goto X2.here hx rfl (pc0 := 148) (pc' := 152) rfl (hb hby at_148) (by decide) (by decide) k) ?_
        rw [show f0_147d27 = (f0_152d27 (1 : Int32)) from rfl]
        exact t152d27 (1 : Int32)
      · rw [show (f0_137d27 p1 v25_s0) = f0_151d27 from if_neg hc144d27]
        refine Go.step (g' := (mkF m 151 #[.val (.int p0), .val (.int p1), .val (.int ((p0 &&& (2147483647 : Int32)) % (6 : Int32))), .val (.ref w_EQUAL), .val (.int v25_s0)] [])) (fun _ k => XS.icmpYes X2.here hx rfl (pc0 := 144) (pc' := 151) rfl (hb hby at_144) rfl (feq hc144d27).2 (by decide) (by decide) k) ?_
        refine Go.step (g' := (mkF m 152 #[.val (.int p0), .val (.int p1), .val (.int ((p0 &&& (2147483647 : Int32)) % (6 : Int32))), .val (.ref w_EQUAL), .val (.int v25_s0)] [(.int (0 : Int32))])) (fun _ k => XS.iconst X2.here hx rfl (hb hby at_151) k) ?_
        rw [show f0_151d27 = (f0_152d27 (0 : Int32)) from rfl]
        exact t152d27 (0 : Int32)
    by_cases hc17 : p1 = (0 : Int32)
    · rw [show (f0_12 p1) = (f0_20 p1) from if_pos hc17]
      refine Go.step (g' := (mkF m 20 #[.val (.int p0), .val (.int p1), .val (.int ((p0 &&& (2147483647 : Int32)) % (6 : Int32))), .val (.ref w_EQUAL), .unset] [])) (fun _ k => XS.ifNo X1.here hx rfl (hb hby at_17) rfl ((if0 _ _).trans (teq hc17).2) k) ?_
      refine Go.step (g' := (mkF m 21 #[.val (.int p0), .val (.int p1), .val (.int ((p0 &&& (2147483647 : Int32)) % (6 : Int32))), .val (.ref w_EQUAL), .unset] [(.int (1 : Int32))])) (fun _ k => XS.iconst X1.here hx rfl (hb hby at_20) k) ?_
      refine Go.step (g' := (mkF m 25 #[.val (.int p0), .val (.int p1), .val (.int ((p0 &&& (2147483647 : Int32)) % (6 : Int32))), .val (.ref w_EQUAL), .unset] [(.int (1 : Int32))])) (fun _ k => XS.goto X1.here hx rfl (pc0 := 21) (pc' := 25) rfl (hb hby at_21) (by decide) (by decide) k) ?_
      rw [show (f0_20 p1) = (f0_25 p1 (1 : Int32)) from rfl]
      exact t25 (1 : Int32)
    · rw [show (f0_12 p1) = (f0_24 p1) from if_neg hc17]
      refine Go.step (g' := (mkF m 24 #[.val (.int p0), .val (.int p1), .val (.int ((p0 &&& (2147483647 : Int32)) % (6 : Int32))), .val (.ref w_EQUAL), .unset] [])) (fun _ k => XS.ifYes X1.here hx rfl (pc0 := 17) (pc' := 24) rfl (hb hby at_17) rfl ((if0 _ _).trans (feq hc17).2) (by decide) (by decide) k) ?_
      refine Go.step (g' := (mkF m 25 #[.val (.int p0), .val (.int p1), .val (.int ((p0 &&& (2147483647 : Int32)) % (6 : Int32))), .val (.ref w_EQUAL), .unset] [(.int (0 : Int32))])) (fun _ k => XS.iconst X1.here hx rfl (hb hby at_24) k) ?_
      rw [show (f0_24 p1) = (f0_25 p1 (0 : Int32)) from rfl]
      exact t25 (0 : Int32)
  · rw [show (f0_0 p0 p1) = (f0_30 p0 p1) from if_neg hc9]
    refine Go.step (g' := (mkF m 30 #[.val (.int p0), .val (.int p1), .val (.int ((p0 &&& (2147483647 : Int32)) % (6 : Int32))), .unset, .unset] [])) (fun _ k => XS.ifYes X0.here hx rfl (pc0 := 9) (pc' := 30) rfl (hb hby at_9) rfl ((if0 _ _).trans (feq hc9).2) (by decide) (by decide) k) ?_
    refine Go.step (g' := (mkF m 31 #[.val (.int p0), .val (.int p1), .val (.int ((p0 &&& (2147483647 : Int32)) % (6 : Int32))), .unset, .unset] [(.int ((p0 &&& (2147483647 : Int32)) % (6 : Int32)))])) (fun _ k => XS.iloadN X0.here hx rfl (hb hby at_30) rfl  k) ?_
    refine Go.step (g' := (mkF m 32 #[.val (.int p0), .val (.int p1), .val (.int ((p0 &&& (2147483647 : Int32)) % (6 : Int32))), .unset, .unset] [(.int (1 : Int32)), (.int ((p0 &&& (2147483647 : Int32)) % (6 : Int32)))])) (fun _ k => XS.iconst X0.here hx rfl (hb hby at_31) k) ?_
    by_cases hc32 : ((p0 &&& (2147483647 : Int32)) % (6 : Int32)) = (1 : Int32)
    · rw [show (f0_30 p0 p1) = (f0_35 p1) from if_pos hc32]
      refine Go.step (g' := (mkF m 35 #[.val (.int p0), .val (.int p1), .val (.int ((p0 &&& (2147483647 : Int32)) % (6 : Int32))), .unset, .unset] [])) (fun _ k => XS.icmpNo X0.here hx rfl (hb hby at_32) rfl (teq hc32).2 k) ?_
      obtain ⟨T3, X3, e3, st3⟩ := getS2 X0 hx hZ hown (host := "") (Or.inl (hw _ (List.mem_of_getElem? (i := 17) rfl))) Via.refl e0 S_NOT_EQUAL (g := (mkF m 35 #[.val (.int p0), .val (.int p1), .val (.int ((p0 &&& (2147483647 : Int32)) % (6 : Int32))), .unset, .unset] [])) rfl (hb hby at_35)
      refine Go.step (g' := (mkF m 38 #[.val (.int p0), .val (.int p1), .val (.int ((p0 &&& (2147483647 : Int32)) % (6 : Int32))), .unset, .unset] [(.ref w_NOT_EQUAL)])) st3 ?_
      refine Go.step (g' := (mkF m 39 #[.val (.int p0), .val (.int p1), .val (.int ((p0 &&& (2147483647 : Int32)) % (6 : Int32))), .val (.ref w_NOT_EQUAL), .unset] [])) (fun _ k => XS.astoreN X3.here hx rfl (hb hby at_38) rfl rfl (l' := #[.val (.int p0), .val (.int p1), .val (.int ((p0 &&& (2147483647 : Int32)) % (6 : Int32))), .val (.ref w_NOT_EQUAL), .unset]) rfl k) ?_
      refine Go.step (g' := (mkF m 40 #[.val (.int p0), .val (.int p1), .val (.int ((p0 &&& (2147483647 : Int32)) % (6 : Int32))), .val (.ref w_NOT_EQUAL), .unset] [(.int p1)])) (fun _ k => XS.iloadN X3.here hx rfl (hb hby at_39) rfl  k) ?_
      have t48 : ∀ (v48_s0 : Int32), Go p e below s room_1.cells room_1.slots (PureQ (.int (f0_48 p1 v48_s0)) h0) T3 (mkF m 48 #[.val (.int p0), .val (.int p1), .val (.int ((p0 &&& (2147483647 : Int32)) % (6 : Int32))), .val (.ref w_NOT_EQUAL), .unset] [(.int v48_s0)]) := by
        intro v48_s0
        refine Go.step (g' := (mkF m 50 #[.val (.int p0), .val (.int p1), .val (.int ((p0 &&& (2147483647 : Int32)) % (6 : Int32))), .val (.ref w_NOT_EQUAL), .val (.int v48_s0)] [])) (fun _ k => XS.istore X3.here hx rfl (hb hby at_48) rfl (l' := #[.val (.int p0), .val (.int p1), .val (.int ((p0 &&& (2147483647 : Int32)) % (6 : Int32))), .val (.ref w_NOT_EQUAL), .val (.int v48_s0)]) rfl k) ?_
        refine Go.step (g' := (mkF m 137 #[.val (.int p0), .val (.int p1), .val (.int ((p0 &&& (2147483647 : Int32)) % (6 : Int32))), .val (.ref w_NOT_EQUAL), .val (.int v48_s0)] [])) (fun _ k => XS.goto X3.here hx rfl (pc0 := 50) (pc' := 137) rfl (hb hby at_50) (by decide) (by decide) k) ?_
        rw [show (f0_48 p1 v48_s0) = (f0_137d50 p1 v48_s0) from rfl]
        refine Go.step (g' := (mkF m 138 #[.val (.int p0), .val (.int p1), .val (.int ((p0 &&& (2147483647 : Int32)) % (6 : Int32))), .val (.ref w_NOT_EQUAL), .val (.int v48_s0)] [(.ref w_NOT_EQUAL)])) (fun _ k => XS.aloadN X3.here hx rfl (hb hby at_137) rfl rfl  k) ?_
        refine Go.step (g' := (mkF m 139 #[.val (.int p0), .val (.int p1), .val (.int ((p0 &&& (2147483647 : Int32)) % (6 : Int32))), .val (.ref w_NOT_EQUAL), .val (.int v48_s0)] [(.int p1), (.ref w_NOT_EQUAL)])) (fun _ k => XS.iloadN X3.here hx rfl (hb hby at_138) rfl  k) ?_
        obtain ⟨cq4, kq4, q4a, q4b, q4c⟩ := isOf hZ e3 E_NOT_EQUAL
        obtain ⟨_, _, ⟨T4, L4, k4, n4⟩, -, X4, ⟨Lc4, hQ4, l4, y4, z4⟩, st4⟩ := X3.virtualBack hx (y := (⟨"com/example/lattice_node/latticenode/core/query/Comparison$Operator", "holdsFor", "(I)Z"⟩ : MethodName)) (z := (⟨"com/example/lattice_node/latticenode/core/query/Comparison$Operator", "holdsFor", "(I)Z"⟩ : MethodName)) hown (mvT hZ (hw _ (List.mem_of_getElem? (i := 4) rfl))) (mvT hZ (hw _ (List.mem_of_getElem? (i := 5) rfl))) (notFace_of_selects (args := #[]) (mvT hZ (hw _ (List.mem_of_getElem? (i := 7) rfl)))) (mvT hZ (hw _ (List.mem_of_getElem? (i := 7) rfl))) (mvT hZ (hw _ (List.mem_of_getElem? (i := 6) rfl))) (by decide) (backOf (W := 0) (rm1 l Z a0 hw [] w_NOT_EQUAL p1 (1 : Int32) (0 : Int32) (1 : Int32) h0 F_NOT_EQUAL_holdsBelow F_NOT_EQUAL_holdsAt F_NOT_EQUAL_holdsAbove) hZ (hw _ (List.mem_of_getElem? (i := 8) rfl)) (hw _ (List.mem_of_getElem? (i := 2) rfl)) (by decide) (by decide)) q4a q4c (g := (mkF m 139 #[.val (.int p0), .val (.int p1), .val (.int ((p0 &&& (2147483647 : Int32)) % (6 : Int32))), .val (.ref w_NOT_EQUAL), .val (.int v48_s0)] [(.int p1), (.ref w_NOT_EQUAL)])) rfl (by rw [hml]; rfl) (Steps.refl _) (argsL := [(.int p1)]) (rest := []) (lenOf pd_0 rfl) rfl (by show 2 * 0 + _ ≤ _; exact Nat.le_of_eq rfl) (hb hby at_139) (fun _ _ => ⟨rfl, e3, (by decide : 0 + 0 ≤ _), (by decide : 0 + 0 ≤ _)⟩)
        dsimp only [Pt.U, Pt.locs, Pt.cells, Pt.slots] at X4 l4 y4 z4 st4 hQ4
        subst l4 y4 z4
        obtain ⟨rfl, rfl, e4⟩ := hQ4
        try rw [List.append_nil] at X4
        refine Go.step (g' := (mkF m 142 #[.val (.int p0), .val (.int p1), .val (.int ((p0 &&& (2147483647 : Int32)) % (6 : Int32))), .val (.ref w_NOT_EQUAL), .val (.int v48_s0)] [(.int (f1_0 p1 (1 : Int32) (0 : Int32) (1 : Int32)))])) (fun _ k => st4.trans k) ?_
        refine Go.step (g' := (mkF m 144 #[.val (.int p0), .val (.int p1), .val (.int ((p0 &&& (2147483647 : Int32)) % (6 : Int32))), .val (.ref w_NOT_EQUAL), .val (.int v48_s0)] [(.int v48_s0), (.int (f1_0 p1 (1 : Int32) (0 : Int32) (1 : Int32)))])) (fun _ k => XS.iload X4.here hx rfl (hb hby at_142) rfl  k) ?_
        have t152d50 : ∀ (v152d50_s0 : Int32), Go p e below s room_1.cells room_1.slots (PureQ (.int (f0_152d50 v152d50_s0)) h0) T4 (mkF m 152 #[.val (.int p0), .val (.int p1), .val (.int ((p0 &&& (2147483647 : Int32)) % (6 : Int32))), .val (.ref w_NOT_EQUAL), .val (.int v48_s0)] [(.int v152d50_s0)]) := by
          intro v152d50_s0
          exact Go.retN X4 hx hlk (t := .boolean) Bd.returns (by simp) (hb hby at_152) (by decide) (by decide) ⟨rfl, rfl, e4⟩
        by_cases hc144d50 : (f1_0 p1 (1 : Int32) (0 : Int32) (1 : Int32)) = v48_s0
        · rw [show (f0_137d50 p1 v48_s0) = f0_147d50 from if_pos hc144d50]
          refine Go.step (g' := (mkF m 147 #[.val (.int p0), .val (.int p1), .val (.int ((p0 &&& (2147483647 : Int32)) % (6 : Int32))), .val (.ref w_NOT_EQUAL), .val (.int v48_s0)] [])) (fun _ k => XS.icmpNo X4.here hx rfl (hb hby at_144) rfl (teq hc144d50).2 k) ?_
          refine Go.step (g' := (mkF m 148 #[.val (.int p0), .val (.int p1), .val (.int ((p0 &&& (2147483647 : Int32)) % (6 : Int32))), .val (.ref w_NOT_EQUAL), .val (.int v48_s0)] [(.int (1 : Int32))])) (fun _ k => XS.iconst X4.here hx rfl (hb hby at_147) k) ?_
          refine Go.step (g' := (mkF m 152 #[.val (.int p0), .val (.int p1), .val (.int ((p0 &&& (2147483647 : Int32)) % (6 : Int32))), .val (.ref w_NOT_EQUAL), .val (.int v48_s0)] [(.int (1 : Int32))])) (fun _ k => XS.goto X4.here hx rfl (pc0 := 148) (pc' := 152) rfl (hb hby at_148) (by decide) (by decide) k) ?_
          rw [show f0_147d50 = (f0_152d50 (1 : Int32)) from rfl]
          exact t152d50 (1 : Int32)
        · rw [show (f0_137d50 p1 v48_s0) = f0_151d50 from if_neg hc144d50]
          refine Go.step (g' := (mkF m 151 #[.val (.int p0), .val (.int p1), .val (.int ((p0 &&& (2147483647 : Int32)) % (6 : Int32))), .val (.ref w_NOT_EQUAL), .val (.int v48_s0)] [])) (fun _ k => XS.icmpYes X4.here hx rfl (pc0 := 144) (pc' := 151) rfl (hb hby at_144) rfl (feq hc144d50).2 (by decide) (by decide) k) ?_
          refine Go.step (g' := (mkF m 152 #[.val (.int p0), .val (.int p1), .val (.int ((p0 &&& (2147483647 : Int32)) % (6 : Int32))), .val (.ref w_NOT_EQUAL), .val (.int v48_s0)] [(.int (0 : Int32))])) (fun _ k => XS.iconst X4.here hx rfl (hb hby at_151) k) ?_
          rw [show f0_151d50 = (f0_152d50 (0 : Int32)) from rfl]
          exact t152d50 (0 : Int32)
      by_cases hc40 : p1 = (0 : Int32)
      · rw [show (f0_35 p1) = (f0_47 p1) from if_pos hc40]
        refine Go.step (g' := (mkF m 47 #[.val (.int p0), .val (.int p1), .val (.int ((p0 &&& (2147483647 : Int32)) % (6 : Int32))), .val (.ref w_NOT_EQUAL), .unset] [])) (fun _ k => XS.ifYes X3.here hx rfl (pc0 := 40) (pc' := 47) rfl (hb hby at_40) rfl ((if0 _ _).trans (teq hc40).1) (by decide) (by decide) k) ?_
        refine Go.step (g' := (mkF m 48 #[.val (.int p0), .val (.int p1), .val (.int ((p0 &&& (2147483647 : Int32)) % (6 : Int32))), .val (.ref w_NOT_EQUAL), .unset] [(.int (0 : Int32))])) (fun _ k => XS.iconst X3.here hx rfl (hb hby at_47) k) ?_
        rw [show (f0_47 p1) = (f0_48 p1 (0 : Int32)) from rfl]
        exact t48 (0 : Int32)
      · rw [show (f0_35 p1) = (f0_43 p1) from if_neg hc40]
        refine Go.step (g' := (mkF m 43 #[.val (.int p0), .val (.int p1), .val (.int ((p0 &&& (2147483647 : Int32)) % (6 : Int32))), .val (.ref w_NOT_EQUAL), .unset] [])) (fun _ k => XS.ifNo X3.here hx rfl (hb hby at_40) rfl ((if0 _ _).trans (feq hc40).1) k) ?_
        refine Go.step (g' := (mkF m 44 #[.val (.int p0), .val (.int p1), .val (.int ((p0 &&& (2147483647 : Int32)) % (6 : Int32))), .val (.ref w_NOT_EQUAL), .unset] [(.int (1 : Int32))])) (fun _ k => XS.iconst X3.here hx rfl (hb hby at_43) k) ?_
        refine Go.step (g' := (mkF m 48 #[.val (.int p0), .val (.int p1), .val (.int ((p0 &&& (2147483647 : Int32)) % (6 : Int32))), .val (.ref w_NOT_EQUAL), .unset] [(.int (1 : Int32))])) (fun _ k => XS.goto X3.here hx rfl (pc0 := 44) (pc' := 48) rfl (hb hby at_44) (by decide) (by decide) k) ?_
        rw [show (f0_43 p1) = (f0_48 p1 (1 : Int32)) from rfl]
        exact t48 (1 : Int32)
    · rw [show (f0_30 p0 p1) = (f0_53 p0 p1) from if_neg hc32]
      refine Go.step (g' := (mkF m 53 #[.val (.int p0), .val (.int p1), .val (.int ((p0 &&& (2147483647 : Int32)) % (6 : Int32))), .unset, .unset] [])) (fun _ k => XS.icmpYes X0.here hx rfl (pc0 := 32) (pc' := 53) rfl (hb hby at_32) rfl (feq hc32).2 (by decide) (by decide) k) ?_
      refine Go.step (g' := (mkF m 54 #[.val (.int p0), .val (.int p1), .val (.int ((p0 &&& (2147483647 : Int32)) % (6 : Int32))), .unset, .unset] [(.int ((p0 &&& (2147483647 : Int32)) % (6 : Int32)))])) (fun _ k => XS.iloadN X0.here hx rfl (hb hby at_53) rfl  k) ?_
      refine Go.step (g' := (mkF m 55 #[.val (.int p0), .val (.int p1), .val (.int ((p0 &&& (2147483647 : Int32)) % (6 : Int32))), .unset, .unset] [(.int (2 : Int32)), (.int ((p0 &&& (2147483647 : Int32)) % (6 : Int32)))])) (fun _ k => XS.iconst X0.here hx rfl (hb hby at_54) k) ?_
      by_cases hc55 : ((p0 &&& (2147483647 : Int32)) % (6 : Int32)) = (2 : Int32)
      · rw [show (f0_53 p0 p1) = (f0_58 p1) from if_pos hc55]
        refine Go.step (g' := (mkF m 58 #[.val (.int p0), .val (.int p1), .val (.int ((p0 &&& (2147483647 : Int32)) % (6 : Int32))), .unset, .unset] [])) (fun _ k => XS.icmpNo X0.here hx rfl (hb hby at_55) rfl (teq hc55).2 k) ?_
        obtain ⟨T5, X5, e5, st5⟩ := getS2 X0 hx hZ hown (host := "") (Or.inl (hw _ (List.mem_of_getElem? (i := 11) rfl))) Via.refl e0 S_LESS (g := (mkF m 58 #[.val (.int p0), .val (.int p1), .val (.int ((p0 &&& (2147483647 : Int32)) % (6 : Int32))), .unset, .unset] [])) rfl (hb hby at_58)
        refine Go.step (g' := (mkF m 61 #[.val (.int p0), .val (.int p1), .val (.int ((p0 &&& (2147483647 : Int32)) % (6 : Int32))), .unset, .unset] [(.ref w_LESS)])) st5 ?_
        refine Go.step (g' := (mkF m 62 #[.val (.int p0), .val (.int p1), .val (.int ((p0 &&& (2147483647 : Int32)) % (6 : Int32))), .val (.ref w_LESS), .unset] [])) (fun _ k => XS.astoreN X5.here hx rfl (hb hby at_61) rfl rfl (l' := #[.val (.int p0), .val (.int p1), .val (.int ((p0 &&& (2147483647 : Int32)) % (6 : Int32))), .val (.ref w_LESS), .unset]) rfl k) ?_
        refine Go.step (g' := (mkF m 63 #[.val (.int p0), .val (.int p1), .val (.int ((p0 &&& (2147483647 : Int32)) % (6 : Int32))), .val (.ref w_LESS), .unset] [(.int p1)])) (fun _ k => XS.iloadN X5.here hx rfl (hb hby at_62) rfl  k) ?_
        have t71 : ∀ (v71_s0 : Int32), Go p e below s room_1.cells room_1.slots (PureQ (.int (f0_71 p1 v71_s0)) h0) T5 (mkF m 71 #[.val (.int p0), .val (.int p1), .val (.int ((p0 &&& (2147483647 : Int32)) % (6 : Int32))), .val (.ref w_LESS), .unset] [(.int v71_s0)]) := by
          intro v71_s0
          refine Go.step (g' := (mkF m 73 #[.val (.int p0), .val (.int p1), .val (.int ((p0 &&& (2147483647 : Int32)) % (6 : Int32))), .val (.ref w_LESS), .val (.int v71_s0)] [])) (fun _ k => XS.istore X5.here hx rfl (hb hby at_71) rfl (l' := #[.val (.int p0), .val (.int p1), .val (.int ((p0 &&& (2147483647 : Int32)) % (6 : Int32))), .val (.ref w_LESS), .val (.int v71_s0)]) rfl k) ?_
          refine Go.step (g' := (mkF m 137 #[.val (.int p0), .val (.int p1), .val (.int ((p0 &&& (2147483647 : Int32)) % (6 : Int32))), .val (.ref w_LESS), .val (.int v71_s0)] [])) (fun _ k => XS.goto X5.here hx rfl (pc0 := 73) (pc' := 137) rfl (hb hby at_73) (by decide) (by decide) k) ?_
          rw [show (f0_71 p1 v71_s0) = (f0_137d73 p1 v71_s0) from rfl]
          refine Go.step (g' := (mkF m 138 #[.val (.int p0), .val (.int p1), .val (.int ((p0 &&& (2147483647 : Int32)) % (6 : Int32))), .val (.ref w_LESS), .val (.int v71_s0)] [(.ref w_LESS)])) (fun _ k => XS.aloadN X5.here hx rfl (hb hby at_137) rfl rfl  k) ?_
          refine Go.step (g' := (mkF m 139 #[.val (.int p0), .val (.int p1), .val (.int ((p0 &&& (2147483647 : Int32)) % (6 : Int32))), .val (.ref w_LESS), .val (.int v71_s0)] [(.int p1), (.ref w_LESS)])) (fun _ k => XS.iloadN X5.here hx rfl (hb hby at_138) rfl  k) ?_
          obtain ⟨cq6, kq6, q6a, q6b, q6c⟩ := isOf hZ e5 E_LESS
          obtain ⟨_, _, ⟨T6, L6, k6, n6⟩, -, X6, ⟨Lc6, hQ6, l6, y6, z6⟩, st6⟩ := X5.virtualBack hx (y := (⟨"com/example/lattice_node/latticenode/core/query/Comparison$Operator", "holdsFor", "(I)Z"⟩ : MethodName)) (z := (⟨"com/example/lattice_node/latticenode/core/query/Comparison$Operator", "holdsFor", "(I)Z"⟩ : MethodName)) hown (mvT hZ (hw _ (List.mem_of_getElem? (i := 4) rfl))) (mvT hZ (hw _ (List.mem_of_getElem? (i := 5) rfl))) (notFace_of_selects (args := #[]) (mvT hZ (hw _ (List.mem_of_getElem? (i := 7) rfl)))) (mvT hZ (hw _ (List.mem_of_getElem? (i := 7) rfl))) (mvT hZ (hw _ (List.mem_of_getElem? (i := 6) rfl))) (by decide) (backOf (W := 0) (rm1 l Z a0 hw [] w_LESS p1 (1 : Int32) (0 : Int32) (0 : Int32) h0 F_LESS_holdsBelow F_LESS_holdsAt F_LESS_holdsAbove) hZ (hw _ (List.mem_of_getElem? (i := 8) rfl)) (hw _ (List.mem_of_getElem? (i := 2) rfl)) (by decide) (by decide)) q6a q6c (g := (mkF m 139 #[.val (.int p0), .val (.int p1), .val (.int ((p0 &&& (2147483647 : Int32)) % (6 : Int32))), .val (.ref w_LESS), .val (.int v71_s0)] [(.int p1), (.ref w_LESS)])) rfl (by rw [hml]; rfl) (Steps.refl _) (argsL := [(.int p1)]) (rest := []) (lenOf pd_0 rfl) rfl (by show 2 * 0 + _ ≤ _; exact Nat.le_of_eq rfl) (hb hby at_139) (fun _ _ => ⟨rfl, e5, (by decide : 0 + 0 ≤ _), (by decide : 0 + 0 ≤ _)⟩)
          dsimp only [Pt.U, Pt.locs, Pt.cells, Pt.slots] at X6 l6 y6 z6 st6 hQ6
          subst l6 y6 z6
          obtain ⟨rfl, rfl, e6⟩ := hQ6
          try rw [List.append_nil] at X6
          refine Go.step (g' := (mkF m 142 #[.val (.int p0), .val (.int p1), .val (.int ((p0 &&& (2147483647 : Int32)) % (6 : Int32))), .val (.ref w_LESS), .val (.int v71_s0)] [(.int (f1_0 p1 (1 : Int32) (0 : Int32) (0 : Int32)))])) (fun _ k => st6.trans k) ?_
          refine Go.step (g' := (mkF m 144 #[.val (.int p0), .val (.int p1), .val (.int ((p0 &&& (2147483647 : Int32)) % (6 : Int32))), .val (.ref w_LESS), .val (.int v71_s0)] [(.int v71_s0), (.int (f1_0 p1 (1 : Int32) (0 : Int32) (0 : Int32)))])) (fun _ k => XS.iload X6.here hx rfl (hb hby at_142) rfl  k) ?_
          have t152d73 : ∀ (v152d73_s0 : Int32), Go p e below s room_1.cells room_1.slots (PureQ (.int (f0_152d73 v152d73_s0)) h0) T6 (mkF m 152 #[.val (.int p0), .val (.int p1), .val (.int ((p0 &&& (2147483647 : Int32)) % (6 : Int32))), .val (.ref w_LESS), .val (.int v71_s0)] [(.int v152d73_s0)]) := by
            intro v152d73_s0
            exact Go.retN X6 hx hlk (t := .boolean) Bd.returns (by simp) (hb hby at_152) (by decide) (by decide) ⟨rfl, rfl, e6⟩
          by_cases hc144d73 : (f1_0 p1 (1 : Int32) (0 : Int32) (0 : Int32)) = v71_s0
          · rw [show (f0_137d73 p1 v71_s0) = f0_147d73 from if_pos hc144d73]
            refine Go.step (g' := (mkF m 147 #[.val (.int p0), .val (.int p1), .val (.int ((p0 &&& (2147483647 : Int32)) % (6 : Int32))), .val (.ref w_LESS), .val (.int v71_s0)] [])) (fun _ k => XS.icmpNo X6.here hx rfl (hb hby at_144) rfl (teq hc144d73).2 k) ?_
            refine Go.step (g' := (mkF m 148 #[.val (.int p0), .val (.int p1), .val (.int ((p0 &&& (2147483647 : Int32)) % (6 : Int32))), .val (.ref w_LESS), .val (.int v71_s0)] [(.int (1 : Int32))])) (fun _ k => XS.iconst X6.here hx rfl (hb hby at_147) k) ?_
            refine Go.step (g' := (mkF m 152 #[.val (.int p0), .val (.int p1), .val (.int ((p0 &&& (2147483647 : Int32)) % (6 : Int32))), .val (.ref w_LESS), .val (.int v71_s0)] [(.int (1 : Int32))])) (fun _ k => XS.goto X6.here hx rfl (pc0 := 148) (pc' := 152) rfl (hb hby at_148) (by decide) (by decide) k) ?_
            rw [show f0_147d73 = (f0_152d73 (1 : Int32)) from rfl]
            exact t152d73 (1 : Int32)
          · rw [show (f0_137d73 p1 v71_s0) = f0_151d73 from if_neg hc144d73]
            refine Go.step (g' := (mkF m 151 #[.val (.int p0), .val (.int p1), .val (.int ((p0 &&& (2147483647 : Int32)) % (6 : Int32))), .val (.ref w_LESS), .val (.int v71_s0)] [])) (fun _ k => XS.icmpYes X6.here hx rfl (pc0 := 144) (pc' := 151) rfl (hb hby at_144) rfl (feq hc144d73).2 (by decide) (by decide) k) ?_
            refine Go.step (g' := (mkF m 152 #[.val (.int p0), .val (.int p1), .val (.int ((p0 &&& (2147483647 : Int32)) % (6 : Int32))), .val (.ref w_LESS), .val (.int v71_s0)] [(.int (0 : Int32))])) (fun _ k => XS.iconst X6.here hx rfl (hb hby at_151) k) ?_
            rw [show f0_151d73 = (f0_152d73 (0 : Int32)) from rfl]
            exact t152d73 (0 : Int32)
        by_cases hc63 : p1 < (0 : Int32)
        · rw [show (f0_58 p1) = (f0_66 p1) from if_pos hc63]
          refine Go.step (g' := (mkF m 66 #[.val (.int p0), .val (.int p1), .val (.int ((p0 &&& (2147483647 : Int32)) % (6 : Int32))), .val (.ref w_LESS), .unset] [])) (fun _ k => XS.ifNo X5.here hx rfl (hb hby at_63) rfl ((if0 _ _).trans (tlt hc63).2.1) k) ?_
          refine Go.step (g' := (mkF m 67 #[.val (.int p0), .val (.int p1), .val (.int ((p0 &&& (2147483647 : Int32)) % (6 : Int32))), .val (.ref w_LESS), .unset] [(.int (1 : Int32))])) (fun _ k => XS.iconst X5.here hx rfl (hb hby at_66) k) ?_
          refine Go.step (g' := (mkF m 71 #[.val (.int p0), .val (.int p1), .val (.int ((p0 &&& (2147483647 : Int32)) % (6 : Int32))), .val (.ref w_LESS), .unset] [(.int (1 : Int32))])) (fun _ k => XS.goto X5.here hx rfl (pc0 := 67) (pc' := 71) rfl (hb hby at_67) (by decide) (by decide) k) ?_
          rw [show (f0_66 p1) = (f0_71 p1 (1 : Int32)) from rfl]
          exact t71 (1 : Int32)
        · rw [show (f0_58 p1) = (f0_70 p1) from if_neg hc63]
          refine Go.step (g' := (mkF m 70 #[.val (.int p0), .val (.int p1), .val (.int ((p0 &&& (2147483647 : Int32)) % (6 : Int32))), .val (.ref w_LESS), .unset] [])) (fun _ k => XS.ifYes X5.here hx rfl (pc0 := 63) (pc' := 70) rfl (hb hby at_63) rfl ((if0 _ _).trans (flt hc63).2.1) (by decide) (by decide) k) ?_
          refine Go.step (g' := (mkF m 71 #[.val (.int p0), .val (.int p1), .val (.int ((p0 &&& (2147483647 : Int32)) % (6 : Int32))), .val (.ref w_LESS), .unset] [(.int (0 : Int32))])) (fun _ k => XS.iconst X5.here hx rfl (hb hby at_70) k) ?_
          rw [show (f0_70 p1) = (f0_71 p1 (0 : Int32)) from rfl]
          exact t71 (0 : Int32)
      · rw [show (f0_53 p0 p1) = (f0_76 p0 p1) from if_neg hc55]
        refine Go.step (g' := (mkF m 76 #[.val (.int p0), .val (.int p1), .val (.int ((p0 &&& (2147483647 : Int32)) % (6 : Int32))), .unset, .unset] [])) (fun _ k => XS.icmpYes X0.here hx rfl (pc0 := 55) (pc' := 76) rfl (hb hby at_55) rfl (feq hc55).2 (by decide) (by decide) k) ?_
        refine Go.step (g' := (mkF m 77 #[.val (.int p0), .val (.int p1), .val (.int ((p0 &&& (2147483647 : Int32)) % (6 : Int32))), .unset, .unset] [(.int ((p0 &&& (2147483647 : Int32)) % (6 : Int32)))])) (fun _ k => XS.iloadN X0.here hx rfl (hb hby at_76) rfl  k) ?_
        refine Go.step (g' := (mkF m 78 #[.val (.int p0), .val (.int p1), .val (.int ((p0 &&& (2147483647 : Int32)) % (6 : Int32))), .unset, .unset] [(.int (3 : Int32)), (.int ((p0 &&& (2147483647 : Int32)) % (6 : Int32)))])) (fun _ k => XS.iconst X0.here hx rfl (hb hby at_77) k) ?_
        by_cases hc78 : ((p0 &&& (2147483647 : Int32)) % (6 : Int32)) = (3 : Int32)
        · rw [show (f0_76 p0 p1) = (f0_81 p1) from if_pos hc78]
          refine Go.step (g' := (mkF m 81 #[.val (.int p0), .val (.int p1), .val (.int ((p0 &&& (2147483647 : Int32)) % (6 : Int32))), .unset, .unset] [])) (fun _ k => XS.icmpNo X0.here hx rfl (hb hby at_78) rfl (teq hc78).2 k) ?_
          obtain ⟨T7, X7, e7, st7⟩ := getS2 X0 hx hZ hown (host := "") (Or.inl (hw _ (List.mem_of_getElem? (i := 21) rfl))) Via.refl e0 S_GREATER (g := (mkF m 81 #[.val (.int p0), .val (.int p1), .val (.int ((p0 &&& (2147483647 : Int32)) % (6 : Int32))), .unset, .unset] [])) rfl (hb hby at_81)
          refine Go.step (g' := (mkF m 84 #[.val (.int p0), .val (.int p1), .val (.int ((p0 &&& (2147483647 : Int32)) % (6 : Int32))), .unset, .unset] [(.ref w_GREATER)])) st7 ?_
          refine Go.step (g' := (mkF m 85 #[.val (.int p0), .val (.int p1), .val (.int ((p0 &&& (2147483647 : Int32)) % (6 : Int32))), .val (.ref w_GREATER), .unset] [])) (fun _ k => XS.astoreN X7.here hx rfl (hb hby at_84) rfl rfl (l' := #[.val (.int p0), .val (.int p1), .val (.int ((p0 &&& (2147483647 : Int32)) % (6 : Int32))), .val (.ref w_GREATER), .unset]) rfl k) ?_
          refine Go.step (g' := (mkF m 86 #[.val (.int p0), .val (.int p1), .val (.int ((p0 &&& (2147483647 : Int32)) % (6 : Int32))), .val (.ref w_GREATER), .unset] [(.int p1)])) (fun _ k => XS.iloadN X7.here hx rfl (hb hby at_85) rfl  k) ?_
          have t94 : ∀ (v94_s0 : Int32), Go p e below s room_1.cells room_1.slots (PureQ (.int (f0_94 p1 v94_s0)) h0) T7 (mkF m 94 #[.val (.int p0), .val (.int p1), .val (.int ((p0 &&& (2147483647 : Int32)) % (6 : Int32))), .val (.ref w_GREATER), .unset] [(.int v94_s0)]) := by
            intro v94_s0
            refine Go.step (g' := (mkF m 96 #[.val (.int p0), .val (.int p1), .val (.int ((p0 &&& (2147483647 : Int32)) % (6 : Int32))), .val (.ref w_GREATER), .val (.int v94_s0)] [])) (fun _ k => XS.istore X7.here hx rfl (hb hby at_94) rfl (l' := #[.val (.int p0), .val (.int p1), .val (.int ((p0 &&& (2147483647 : Int32)) % (6 : Int32))), .val (.ref w_GREATER), .val (.int v94_s0)]) rfl k) ?_
            refine Go.step (g' := (mkF m 137 #[.val (.int p0), .val (.int p1), .val (.int ((p0 &&& (2147483647 : Int32)) % (6 : Int32))), .val (.ref w_GREATER), .val (.int v94_s0)] [])) (fun _ k => XS.goto X7.here hx rfl (pc0 := 96) (pc' := 137) rfl (hb hby at_96) (by decide) (by decide) k) ?_
            rw [show (f0_94 p1 v94_s0) = (f0_137d96 p1 v94_s0) from rfl]
            refine Go.step (g' := (mkF m 138 #[.val (.int p0), .val (.int p1), .val (.int ((p0 &&& (2147483647 : Int32)) % (6 : Int32))), .val (.ref w_GREATER), .val (.int v94_s0)] [(.ref w_GREATER)])) (fun _ k => XS.aloadN X7.here hx rfl (hb hby at_137) rfl rfl  k) ?_
            refine Go.step (g' := (mkF m 139 #[.val (.int p0), .val (.int p1), .val (.int ((p0 &&& (2147483647 : Int32)) % (6 : Int32))), .val (.ref w_GREATER), .val (.int v94_s0)] [(.int p1), (.ref w_GREATER)])) (fun _ k => XS.iloadN X7.here hx rfl (hb hby at_138) rfl  k) ?_
            obtain ⟨cq8, kq8, q8a, q8b, q8c⟩ := isOf hZ e7 E_GREATER
            obtain ⟨_, _, ⟨T8, L8, k8, n8⟩, -, X8, ⟨Lc8, hQ8, l8, y8, z8⟩, st8⟩ := X7.virtualBack hx (y := (⟨"com/example/lattice_node/latticenode/core/query/Comparison$Operator", "holdsFor", "(I)Z"⟩ : MethodName)) (z := (⟨"com/example/lattice_node/latticenode/core/query/Comparison$Operator", "holdsFor", "(I)Z"⟩ : MethodName)) hown (mvT hZ (hw _ (List.mem_of_getElem? (i := 4) rfl))) (mvT hZ (hw _ (List.mem_of_getElem? (i := 5) rfl))) (notFace_of_selects (args := #[]) (mvT hZ (hw _ (List.mem_of_getElem? (i := 7) rfl)))) (mvT hZ (hw _ (List.mem_of_getElem? (i := 7) rfl))) (mvT hZ (hw _ (List.mem_of_getElem? (i := 6) rfl))) (by decide) (backOf (W := 0) (rm1 l Z a0 hw [] w_GREATER p1 (0 : Int32) (0 : Int32) (1 : Int32) h0 F_GREATER_holdsBelow F_GREATER_holdsAt F_GREATER_holdsAbove) hZ (hw _ (List.mem_of_getElem? (i := 8) rfl)) (hw _ (List.mem_of_getElem? (i := 2) rfl)) (by decide) (by decide)) q8a q8c (g := (mkF m 139 #[.val (.int p0), .val (.int p1), .val (.int ((p0 &&& (2147483647 : Int32)) % (6 : Int32))), .val (.ref w_GREATER), .val (.int v94_s0)] [(.int p1), (.ref w_GREATER)])) rfl (by rw [hml]; rfl) (Steps.refl _) (argsL := [(.int p1)]) (rest := []) (lenOf pd_0 rfl) rfl (by show 2 * 0 + _ ≤ _; exact Nat.le_of_eq rfl) (hb hby at_139) (fun _ _ => ⟨rfl, e7, (by decide : 0 + 0 ≤ _), (by decide : 0 + 0 ≤ _)⟩)
            dsimp only [Pt.U, Pt.locs, Pt.cells, Pt.slots] at X8 l8 y8 z8 st8 hQ8
            subst l8 y8 z8
            obtain ⟨rfl, rfl, e8⟩ := hQ8
            try rw [List.append_nil] at X8
            refine Go.step (g' := (mkF m 142 #[.val (.int p0), .val (.int p1), .val (.int ((p0 &&& (2147483647 : Int32)) % (6 : Int32))), .val (.ref w_GREATER), .val (.int v94_s0)] [(.int (f1_0 p1 (0 : Int32) (0 : Int32) (1 : Int32)))])) (fun _ k => st8.trans k) ?_
            refine Go.step (g' := (mkF m 144 #[.val (.int p0), .val (.int p1), .val (.int ((p0 &&& (2147483647 : Int32)) % (6 : Int32))), .val (.ref w_GREATER), .val (.int v94_s0)] [(.int v94_s0), (.int (f1_0 p1 (0 : Int32) (0 : Int32) (1 : Int32)))])) (fun _ k => XS.iload X8.here hx rfl (hb hby at_142) rfl  k) ?_
            have t152d96 : ∀ (v152d96_s0 : Int32), Go p e below s room_1.cells room_1.slots (PureQ (.int (f0_152d96 v152d96_s0)) h0) T8 (mkF m 152 #[.val (.int p0), .val (.int p1), .val (.int ((p0 &&& (2147483647 : Int32)) % (6 : Int32))), .val (.ref w_GREATER), .val (.int v94_s0)] [(.int v152d96_s0)]) := by
              intro v152d96_s0
              exact Go.retN X8 hx hlk (t := .boolean) Bd.returns (by simp) (hb hby at_152) (by decide) (by decide) ⟨rfl, rfl, e8⟩
            by_cases hc144d96 : (f1_0 p1 (0 : Int32) (0 : Int32) (1 : Int32)) = v94_s0
            · rw [show (f0_137d96 p1 v94_s0) = f0_147d96 from if_pos hc144d96]
              refine Go.step (g' := (mkF m 147 #[.val (.int p0), .val (.int p1), .val (.int ((p0 &&& (2147483647 : Int32)) % (6 : Int32))), .val (.ref w_GREATER), .val (.int v94_s0)] [])) (fun _ k => XS.icmpNo X8.here hx rfl (hb hby at_144) rfl (teq hc144d96).2 k) ?_
              refine Go.step (g' := (mkF m 148 #[.val (.int p0), .val (.int p1), .val (.int ((p0 &&& (2147483647 : Int32)) % (6 : Int32))), .val (.ref w_GREATER), .val (.int v94_s0)] [(.int (1 : Int32))])) (fun _ k => XS.iconst X8.here hx rfl (hb hby at_147) k) ?_
              refine Go.step (g' := (mkF m 152 #[.val (.int p0), .val (.int p1), .val (.int ((p0 &&& (2147483647 : Int32)) % (6 : Int32))), .val (.ref w_GREATER), .val (.int v94_s0)] [(.int (1 : Int32))])) (fun _ k => XS.goto X8.here hx rfl (pc0 := 148) (pc' := 152) rfl (hb hby at_148) (by decide) (by decide) k) ?_
              rw [show f0_147d96 = (f0_152d96 (1 : Int32)) from rfl]
              exact t152d96 (1 : Int32)
            · rw [show (f0_137d96 p1 v94_s0) = f0_151d96 from if_neg hc144d96]
              refine Go.step (g' := (mkF m 151 #[.val (.int p0), .val (.int p1), .val (.int ((p0 &&& (2147483647 : Int32)) % (6 : Int32))), .val (.ref w_GREATER), .val (.int v94_s0)] [])) (fun _ k => XS.icmpYes X8.here hx rfl (pc0 := 144) (pc' := 151) rfl (hb hby at_144) rfl (feq hc144d96).2 (by decide) (by decide) k) ?_
              refine Go.step (g' := (mkF m 152 #[.val (.int p0), .val (.int p1), .val (.int ((p0 &&& (2147483647 : Int32)) % (6 : Int32))), .val (.ref w_GREATER), .val (.int v94_s0)] [(.int (0 : Int32))])) (fun _ k => XS.iconst X8.here hx rfl (hb hby at_151) k) ?_
              rw [show f0_151d96 = (f0_152d96 (0 : Int32)) from rfl]
              exact t152d96 (0 : Int32)
          by_cases hc86 : (0 : Int32) < p1
          · rw [show (f0_81 p1) = (f0_89 p1) from if_pos hc86]
            refine Go.step (g' := (mkF m 89 #[.val (.int p0), .val (.int p1), .val (.int ((p0 &&& (2147483647 : Int32)) % (6 : Int32))), .val (.ref w_GREATER), .unset] [])) (fun _ k => XS.ifNo X7.here hx rfl (hb hby at_86) rfl ((if0 _ _).trans (tlt hc86).2.2.2) k) ?_
            refine Go.step (g' := (mkF m 90 #[.val (.int p0), .val (.int p1), .val (.int ((p0 &&& (2147483647 : Int32)) % (6 : Int32))), .val (.ref w_GREATER), .unset] [(.int (1 : Int32))])) (fun _ k => XS.iconst X7.here hx rfl (hb hby at_89) k) ?_
            refine Go.step (g' := (mkF m 94 #[.val (.int p0), .val (.int p1), .val (.int ((p0 &&& (2147483647 : Int32)) % (6 : Int32))), .val (.ref w_GREATER), .unset] [(.int (1 : Int32))])) (fun _ k => XS.goto X7.here hx rfl (pc0 := 90) (pc' := 94) rfl (hb hby at_90) (by decide) (by decide) k) ?_
            rw [show (f0_89 p1) = (f0_94 p1 (1 : Int32)) from rfl]
            exact t94 (1 : Int32)
          · rw [show (f0_81 p1) = (f0_93 p1) from if_neg hc86]
            refine Go.step (g' := (mkF m 93 #[.val (.int p0), .val (.int p1), .val (.int ((p0 &&& (2147483647 : Int32)) % (6 : Int32))), .val (.ref w_GREATER), .unset] [])) (fun _ k => XS.ifYes X7.here hx rfl (pc0 := 86) (pc' := 93) rfl (hb hby at_86) rfl ((if0 _ _).trans (flt hc86).2.2.2) (by decide) (by decide) k) ?_
            refine Go.step (g' := (mkF m 94 #[.val (.int p0), .val (.int p1), .val (.int ((p0 &&& (2147483647 : Int32)) % (6 : Int32))), .val (.ref w_GREATER), .unset] [(.int (0 : Int32))])) (fun _ k => XS.iconst X7.here hx rfl (hb hby at_93) k) ?_
            rw [show (f0_93 p1) = (f0_94 p1 (0 : Int32)) from rfl]
            exact t94 (0 : Int32)
        · rw [show (f0_76 p0 p1) = (f0_99 p0 p1) from if_neg hc78]
          refine Go.step (g' := (mkF m 99 #[.val (.int p0), .val (.int p1), .val (.int ((p0 &&& (2147483647 : Int32)) % (6 : Int32))), .unset, .unset] [])) (fun _ k => XS.icmpYes X0.here hx rfl (pc0 := 78) (pc' := 99) rfl (hb hby at_78) rfl (feq hc78).2 (by decide) (by decide) k) ?_
          refine Go.step (g' := (mkF m 100 #[.val (.int p0), .val (.int p1), .val (.int ((p0 &&& (2147483647 : Int32)) % (6 : Int32))), .unset, .unset] [(.int ((p0 &&& (2147483647 : Int32)) % (6 : Int32)))])) (fun _ k => XS.iloadN X0.here hx rfl (hb hby at_99) rfl  k) ?_
          refine Go.step (g' := (mkF m 101 #[.val (.int p0), .val (.int p1), .val (.int ((p0 &&& (2147483647 : Int32)) % (6 : Int32))), .unset, .unset] [(.int (4 : Int32)), (.int ((p0 &&& (2147483647 : Int32)) % (6 : Int32)))])) (fun _ k => XS.iconst X0.here hx rfl (hb hby at_100) k) ?_
          by_cases hc101 : ((p0 &&& (2147483647 : Int32)) % (6 : Int32)) = (4 : Int32)
          · rw [show (f0_99 p0 p1) = (f0_104 p1) from if_pos hc101]
            refine Go.step (g' := (mkF m 104 #[.val (.int p0), .val (.int p1), .val (.int ((p0 &&& (2147483647 : Int32)) % (6 : Int32))), .unset, .unset] [])) (fun _ k => XS.icmpNo X0.here hx rfl (hb hby at_101) rfl (teq hc101).2 k) ?_
            obtain ⟨T9, X9, e9, st9⟩ := getS2 X0 hx hZ hown (host := "") (Or.inl (hw _ (List.mem_of_getElem? (i := 15) rfl))) Via.refl e0 S_LESS_OR_EQUAL (g := (mkF m 104 #[.val (.int p0), .val (.int p1), .val (.int ((p0 &&& (2147483647 : Int32)) % (6 : Int32))), .unset, .unset] [])) rfl (hb hby at_104)
            refine Go.step (g' := (mkF m 107 #[.val (.int p0), .val (.int p1), .val (.int ((p0 &&& (2147483647 : Int32)) % (6 : Int32))), .unset, .unset] [(.ref w_LESS_OR_EQUAL)])) st9 ?_
            refine Go.step (g' := (mkF m 108 #[.val (.int p0), .val (.int p1), .val (.int ((p0 &&& (2147483647 : Int32)) % (6 : Int32))), .val (.ref w_LESS_OR_EQUAL), .unset] [])) (fun _ k => XS.astoreN X9.here hx rfl (hb hby at_107) rfl rfl (l' := #[.val (.int p0), .val (.int p1), .val (.int ((p0 &&& (2147483647 : Int32)) % (6 : Int32))), .val (.ref w_LESS_OR_EQUAL), .unset]) rfl k) ?_
            refine Go.step (g' := (mkF m 109 #[.val (.int p0), .val (.int p1), .val (.int ((p0 &&& (2147483647 : Int32)) % (6 : Int32))), .val (.ref w_LESS_OR_EQUAL), .unset] [(.int p1)])) (fun _ k => XS.iloadN X9.here hx rfl (hb hby at_108) rfl  k) ?_
            have t117 : ∀ (v117_s0 : Int32), Go p e below s room_1.cells room_1.slots (PureQ (.int (f0_117 p1 v117_s0)) h0) T9 (mkF m 117 #[.val (.int p0), .val (.int p1), .val (.int ((p0 &&& (2147483647 : Int32)) % (6 : Int32))), .val (.ref w_LESS_OR_EQUAL), .unset] [(.int v117_s0)]) := by
              intro v117_s0
              refine Go.step (g' := (mkF m 119 #[.val (.int p0), .val (.int p1), .val (.int ((p0 &&& (2147483647 : Int32)) % (6 : Int32))), .val (.ref w_LESS_OR_EQUAL), .val (.int v117_s0)] [])) (fun _ k => XS.istore X9.here hx rfl (hb hby at_117) rfl (l' := #[.val (.int p0), .val (.int p1), .val (.int ((p0 &&& (2147483647 : Int32)) % (6 : Int32))), .val (.ref w_LESS_OR_EQUAL), .val (.int v117_s0)]) rfl k) ?_
              refine Go.step (g' := (mkF m 137 #[.val (.int p0), .val (.int p1), .val (.int ((p0 &&& (2147483647 : Int32)) % (6 : Int32))), .val (.ref w_LESS_OR_EQUAL), .val (.int v117_s0)] [])) (fun _ k => XS.goto X9.here hx rfl (pc0 := 119) (pc' := 137) rfl (hb hby at_119) (by decide) (by decide) k) ?_
              rw [show (f0_117 p1 v117_s0) = (f0_137d119 p1 v117_s0) from rfl]
              refine Go.step (g' := (mkF m 138 #[.val (.int p0), .val (.int p1), .val (.int ((p0 &&& (2147483647 : Int32)) % (6 : Int32))), .val (.ref w_LESS_OR_EQUAL), .val (.int v117_s0)] [(.ref w_LESS_OR_EQUAL)])) (fun _ k => XS.aloadN X9.here hx rfl (hb hby at_137) rfl rfl  k) ?_
              refine Go.step (g' := (mkF m 139 #[.val (.int p0), .val (.int p1), .val (.int ((p0 &&& (2147483647 : Int32)) % (6 : Int32))), .val (.ref w_LESS_OR_EQUAL), .val (.int v117_s0)] [(.int p1), (.ref w_LESS_OR_EQUAL)])) (fun _ k => XS.iloadN X9.here hx rfl (hb hby at_138) rfl  k) ?_
              obtain ⟨cq10, kq10, q10a, q10b, q10c⟩ := isOf hZ e9 E_LESS_OR_EQUAL
              obtain ⟨_, _, ⟨T10, L10, k10, n10⟩, -, X10, ⟨Lc10, hQ10, l10, y10, z10⟩, st10⟩ := X9.virtualBack hx (y := (⟨"com/example/lattice_node/latticenode/core/query/Comparison$Operator", "holdsFor", "(I)Z"⟩ : MethodName)) (z := (⟨"com/example/lattice_node/latticenode/core/query/Comparison$Operator", "holdsFor", "(I)Z"⟩ : MethodName)) hown (mvT hZ (hw _ (List.mem_of_getElem? (i := 4) rfl))) (mvT hZ (hw _ (List.mem_of_getElem? (i := 5) rfl))) (notFace_of_selects (args := #[]) (mvT hZ (hw _ (List.mem_of_getElem? (i := 7) rfl)))) (mvT hZ (hw _ (List.mem_of_getElem? (i := 7) rfl))) (mvT hZ (hw _ (List.mem_of_getElem? (i := 6) rfl))) (by decide) (backOf (W := 0) (rm1 l Z a0 hw [] w_LESS_OR_EQUAL p1 (1 : Int32) (1 : Int32) (0 : Int32) h0 F_LESS_OR_EQUAL_holdsBelow F_LESS_OR_EQUAL_holdsAt F_LESS_OR_EQUAL_holdsAbove) hZ (hw _ (List.mem_of_getElem? (i := 8) rfl)) (hw _ (List.mem_of_getElem? (i := 2) rfl)) (by decide) (by decide)) q10a q10c (g := (mkF m 139 #[.val (.int p0), .val (.int p1), .val (.int ((p0 &&& (2147483647 : Int32)) % (6 : Int32))), .val (.ref w_LESS_OR_EQUAL), .val (.int v117_s0)] [(.int p1), (.ref w_LESS_OR_EQUAL)])) rfl (by rw [hml]; rfl) (Steps.refl _) (argsL := [(.int p1)]) (rest := []) (lenOf pd_0 rfl) rfl (by show 2 * 0 + _ ≤ _; exact Nat.le_of_eq rfl) (hb hby at_139) (fun _ _ => ⟨rfl, e9, (by decide : 0 + 0 ≤ _), (by decide : 0 + 0 ≤ _)⟩)
              dsimp only [Pt.U, Pt.locs, Pt.cells, Pt.slots] at X10 l10 y10 z10 st10 hQ10
              subst l10 y10 z10
              obtain ⟨rfl, rfl, e10⟩ := hQ10
              try rw [List.append_nil] at X10
              refine Go.step (g' := (mkF m 142 #[.val (.int p0), .val (.int p1), .val (.int ((p0 &&& (2147483647 : Int32)) % (6 : Int32))), .val (.ref w_LESS_OR_EQUAL), .val (.int v117_s0)] [(.int (f1_0 p1 (1 : Int32) (1 : Int32) (0 : Int32)))])) (fun _ k => st10.trans k) ?_
              refine Go.step (g' := (mkF m 144 #[.val (.int p0), .val (.int p1), .val (.int ((p0 &&& (2147483647 : Int32)) % (6 : Int32))), .val (.ref w_LESS_OR_EQUAL), .val (.int v117_s0)] [(.int v117_s0), (.int (f1_0 p1 (1 : Int32) (1 : Int32) (0 : Int32)))])) (fun _ k => XS.iload X10.here hx rfl (hb hby at_142) rfl  k) ?_
              have t152d119 : ∀ (v152d119_s0 : Int32), Go p e below s room_1.cells room_1.slots (PureQ (.int (f0_152d119 v152d119_s0)) h0) T10 (mkF m 152 #[.val (.int p0), .val (.int p1), .val (.int ((p0 &&& (2147483647 : Int32)) % (6 : Int32))), .val (.ref w_LESS_OR_EQUAL), .val (.int v117_s0)] [(.int v152d119_s0)]) := by
                intro v152d119_s0
                exact Go.retN X10 hx hlk (t := .boolean) Bd.returns (by simp) (hb hby at_152) (by decide) (by decide) ⟨rfl, rfl, e10⟩
              by_cases hc144d119 : (f1_0 p1 (1 : Int32) (1 : Int32) (0 : Int32)) = v117_s0
              · rw [show (f0_137d119 p1 v117_s0) = f0_147d119 from if_pos hc144d119]
                refine Go.step (g' := (mkF m 147 #[.val (.int p0), .val (.int p1), .val (.int ((p0 &&& (2147483647 : Int32)) % (6 : Int32))), .val (.ref w_LESS_OR_EQUAL), .val (.int v117_s0)] [])) (fun _ k => XS.icmpNo X10.here hx rfl (hb hby at_144) rfl (teq hc144d119).2 k) ?_
                refine Go.step (g' := (mkF m 148 #[.val (.int p0), .val (.int p1), .val (.int ((p0 &&& (2147483647 : Int32)) % (6 : Int32))), .val (.ref w_LESS_OR_EQUAL), .val (.int v117_s0)] [(.int (1 : Int32))])) (fun _ k => XS.iconst X10.here hx rfl (hb hby at_147) k) ?_
                refine Go.step (g' := (mkF m 152 #[.val (.int p0), .val (.int p1), .val (.int ((p0 &&& (2147483647 : Int32)) % (6 : Int32))), .val (.ref w_LESS_OR_EQUAL), .val (.int v117_s0)] [(.int (1 : Int32))])) (fun _ k => XS.goto X10.here hx rfl (pc0 := 148) (pc' := 152) rfl (hb hby at_148) (by decide) (by decide) k) ?_
                rw [show f0_147d119 = (f0_152d119 (1 : Int32)) from rfl]
                exact t152d119 (1 : Int32)
              · rw [show (f0_137d119 p1 v117_s0) = f0_151d119 from if_neg hc144d119]
                refine Go.step (g' := (mkF m 151 #[.val (.int p0), .val (.int p1), .val (.int ((p0 &&& (2147483647 : Int32)) % (6 : Int32))), .val (.ref w_LESS_OR_EQUAL), .val (.int v117_s0)] [])) (fun _ k => XS.icmpYes X10.here hx rfl (pc0 := 144) (pc' := 151) rfl (hb hby at_144) rfl (feq hc144d119).2 (by decide) (by decide) k) ?_
                refine Go.step (g' := (mkF m 152 #[.val (.int p0), .val (.int p1), .val (.int ((p0 &&& (2147483647 : Int32)) % (6 : Int32))), .val (.ref w_LESS_OR_EQUAL), .val (.int v117_s0)] [(.int (0 : Int32))])) (fun _ k => XS.iconst X10.here hx rfl (hb hby at_151) k) ?_
                rw [show f0_151d119 = (f0_152d119 (0 : Int32)) from rfl]
                exact t152d119 (0 : Int32)
            by_cases hc109 : (0 : Int32) < p1
            · rw [show (f0_104 p1) = (f0_116 p1) from if_pos hc109]
              refine Go.step (g' := (mkF m 116 #[.val (.int p0), .val (.int p1), .val (.int ((p0 &&& (2147483647 : Int32)) % (6 : Int32))), .val (.ref w_LESS_OR_EQUAL), .unset] [])) (fun _ k => XS.ifYes X9.here hx rfl (pc0 := 109) (pc' := 116) rfl (hb hby at_109) rfl ((if0 _ _).trans (tlt hc109).2.2.1) (by decide) (by decide) k) ?_
              refine Go.step (g' := (mkF m 117 #[.val (.int p0), .val (.int p1), .val (.int ((p0 &&& (2147483647 : Int32)) % (6 : Int32))), .val (.ref w_LESS_OR_EQUAL), .unset] [(.int (0 : Int32))])) (fun _ k => XS.iconst X9.here hx rfl (hb hby at_116) k) ?_
              rw [show (f0_116 p1) = (f0_117 p1 (0 : Int32)) from rfl]
              exact t117 (0 : Int32)
            · rw [show (f0_104 p1) = (f0_112 p1) from if_neg hc109]
              refine Go.step (g' := (mkF m 112 #[.val (.int p0), .val (.int p1), .val (.int ((p0 &&& (2147483647 : Int32)) % (6 : Int32))), .val (.ref w_LESS_OR_EQUAL), .unset] [])) (fun _ k => XS.ifNo X9.here hx rfl (hb hby at_109) rfl ((if0 _ _).trans (flt hc109).2.2.1) k) ?_
              refine Go.step (g' := (mkF m 113 #[.val (.int p0), .val (.int p1), .val (.int ((p0 &&& (2147483647 : Int32)) % (6 : Int32))), .val (.ref w_LESS_OR_EQUAL), .unset] [(.int (1 : Int32))])) (fun _ k => XS.iconst X9.here hx rfl (hb hby at_112) k) ?_
              refine Go.step (g' := (mkF m 117 #[.val (.int p0), .val (.int p1), .val (.int ((p0 &&& (2147483647 : Int32)) % (6 : Int32))), .val (.ref w_LESS_OR_EQUAL), .unset] [(.int (1 : Int32))])) (fun _ k => XS.goto X9.here hx rfl (pc0 := 113) (pc' := 117) rfl (hb hby at_113) (by decide) (by decide) k) ?_
              rw [show (f0_112 p1) = (f0_117 p1 (1 : Int32)) from rfl]
              exact t117 (1 : Int32)
          · rw [show (f0_99 p0 p1) = (f0_122 p1) from if_neg hc101]
            refine Go.step (g' := (mkF m 122 #[.val (.int p0), .val (.int p1), .val (.int ((p0 &&& (2147483647 : Int32)) % (6 : Int32))), .unset, .unset] [])) (fun _ k => XS.icmpYes X0.here hx rfl (pc0 := 101) (pc' := 122) rfl (hb hby at_101) rfl (feq hc101).2 (by decide) (by decide) k) ?_
            obtain ⟨T11, X11, e11, st11⟩ := getS2 X0 hx hZ hown (host := "") (Or.inl (hw _ (List.mem_of_getElem? (i := 19) rfl))) Via.refl e0 S_GREATER_OR_EQUAL (g := (mkF m 122 #[.val (.int p0), .val (.int p1), .val (.int ((p0 &&& (2147483647 : Int32)) % (6 : Int32))), .unset, .unset] [])) rfl (hb hby at_122)
            refine Go.step (g' := (mkF m 125 #[.val (.int p0), .val (.int p1), .val (.int ((p0 &&& (2147483647 : Int32)) % (6 : Int32))), .unset, .unset] [(.ref w_GREATER_OR_EQUAL)])) st11 ?_
            refine Go.step (g' := (mkF m 126 #[.val (.int p0), .val (.int p1), .val (.int ((p0 &&& (2147483647 : Int32)) % (6 : Int32))), .val (.ref w_GREATER_OR_EQUAL), .unset] [])) (fun _ k => XS.astoreN X11.here hx rfl (hb hby at_125) rfl rfl (l' := #[.val (.int p0), .val (.int p1), .val (.int ((p0 &&& (2147483647 : Int32)) % (6 : Int32))), .val (.ref w_GREATER_OR_EQUAL), .unset]) rfl k) ?_
            refine Go.step (g' := (mkF m 127 #[.val (.int p0), .val (.int p1), .val (.int ((p0 &&& (2147483647 : Int32)) % (6 : Int32))), .val (.ref w_GREATER_OR_EQUAL), .unset] [(.int p1)])) (fun _ k => XS.iloadN X11.here hx rfl (hb hby at_126) rfl  k) ?_
            have t135 : ∀ (v135_s0 : Int32), Go p e below s room_1.cells room_1.slots (PureQ (.int (f0_135 p1 v135_s0)) h0) T11 (mkF m 135 #[.val (.int p0), .val (.int p1), .val (.int ((p0 &&& (2147483647 : Int32)) % (6 : Int32))), .val (.ref w_GREATER_OR_EQUAL), .unset] [(.int v135_s0)]) := by
              intro v135_s0
              refine Go.step (g' := (mkF m 137 #[.val (.int p0), .val (.int p1), .val (.int ((p0 &&& (2147483647 : Int32)) % (6 : Int32))), .val (.ref w_GREATER_OR_EQUAL), .val (.int v135_s0)] [])) (fun _ k => XS.istore X11.here hx rfl (hb hby at_135) rfl (l' := #[.val (.int p0), .val (.int p1), .val (.int ((p0 &&& (2147483647 : Int32)) % (6 : Int32))), .val (.ref w_GREATER_OR_EQUAL), .val (.int v135_s0)]) rfl k) ?_
              rw [show (f0_135 p1 v135_s0) = (f0_137d135 p1 v135_s0) from rfl]
              refine Go.step (g' := (mkF m 138 #[.val (.int p0), .val (.int p1), .val (.int ((p0 &&& (2147483647 : Int32)) % (6 : Int32))), .val (.ref w_GREATER_OR_EQUAL), .val (.int v135_s0)] [(.ref w_GREATER_OR_EQUAL)])) (fun _ k => XS.aloadN X11.here hx rfl (hb hby at_137) rfl rfl  k) ?_
              refine Go.step (g' := (mkF m 139 #[.val (.int p0), .val (.int p1), .val (.int ((p0 &&& (2147483647 : Int32)) % (6 : Int32))), .val (.ref w_GREATER_OR_EQUAL), .val (.int v135_s0)] [(.int p1), (.ref w_GREATER_OR_EQUAL)])) (fun _ k => XS.iloadN X11.here hx rfl (hb hby at_138) rfl  k) ?_
              obtain ⟨cq12, kq12, q12a, q12b, q12c⟩ := isOf hZ e11 E_GREATER_OR_EQUAL
              obtain ⟨_, _, ⟨T12, L12, k12, n12⟩, -, X12, ⟨Lc12, hQ12, l12, y12, z12⟩, st12⟩ := X11.virtualBack hx (y := (⟨"com/example/lattice_node/latticenode/core/query/Comparison$Operator", "holdsFor", "(I)Z"⟩ : MethodName)) (z := (⟨"com/example/lattice_node/latticenode/core/query/Comparison$Operator", "holdsFor", "(I)Z"⟩ : MethodName)) hown (mvT hZ (hw _ (List.mem_of_getElem? (i := 4) rfl))) (mvT hZ (hw _ (List.mem_of_getElem? (i := 5) rfl))) (notFace_of_selects (args := #[]) (mvT hZ (hw _ (List.mem_of_getElem? (i := 7) rfl)))) (mvT hZ (hw _ (List.mem_of_getElem? (i := 7) rfl))) (mvT hZ (hw _ (List.mem_of_getElem? (i := 6) rfl))) (by decide) (backOf (W := 0) (rm1 l Z a0 hw [] w_GREATER_OR_EQUAL p1 (0 : Int32) (1 : Int32) (1 : Int32) h0 F_GREATER_OR_EQUAL_holdsBelow F_GREATER_OR_EQUAL_holdsAt F_GREATER_OR_EQUAL_holdsAbove) hZ (hw _ (List.mem_of_getElem? (i := 8) rfl)) (hw _ (List.mem_of_getElem? (i := 2) rfl)) (by decide) (by decide)) q12a q12c (g := (mkF m 139 #[.val (.int p0), .val (.int p1), .val (.int ((p0 &&& (2147483647 : Int32)) % (6 : Int32))), .val (.ref w_GREATER_OR_EQUAL), .val (.int v135_s0)] [(.int p1), (.ref w_GREATER_OR_EQUAL)])) rfl (by rw [hml]; rfl) (Steps.refl _) (argsL := [(.int p1)]) (rest := []) (lenOf pd_0 rfl) rfl (by show 2 * 0 + _ ≤ _; exact Nat.le_of_eq rfl) (hb hby at_139) (fun _ _ => ⟨rfl, e11, (by decide : 0 + 0 ≤ _), (by decide : 0 + 0 ≤ _)⟩)
              dsimp only [Pt.U, Pt.locs, Pt.cells, Pt.slots] at X12 l12 y12 z12 st12 hQ12
              subst l12 y12 z12
              obtain ⟨rfl, rfl, e12⟩ := hQ12
              try rw [List.append_nil] at X12
              refine Go.step (g' := (mkF m 142 #[.val (.int p0), .val (.int p1), .val (.int ((p0 &&& (2147483647 : Int32)) % (6 : Int32))), .val (.ref w_GREATER_OR_EQUAL), .val (.int v135_s0)] [(.int (f1_0 p1 (0 : Int32) (1 : Int32) (1 : Int32)))])) (fun _ k => st12.trans k) ?_
              refine Go.step (g' := (mkF m 144 #[.val (.int p0), .val (.int p1), .val (.int ((p0 &&& (2147483647 : Int32)) % (6 : Int32))), .val (.ref w_GREATER_OR_EQUAL), .val (.int v135_s0)] [(.int v135_s0), (.int (f1_0 p1 (0 : Int32) (1 : Int32) (1 : Int32)))])) (fun _ k => XS.iload X12.here hx rfl (hb hby at_142) rfl  k) ?_
              have t152d135 : ∀ (v152d135_s0 : Int32), Go p e below s room_1.cells room_1.slots (PureQ (.int (f0_152d135 v152d135_s0)) h0) T12 (mkF m 152 #[.val (.int p0), .val (.int p1), .val (.int ((p0 &&& (2147483647 : Int32)) % (6 : Int32))), .val (.ref w_GREATER_OR_EQUAL), .val (.int v135_s0)] [(.int v152d135_s0)]) := by
                intro v152d135_s0
                exact Go.retN X12 hx hlk (t := .boolean) Bd.returns (by simp) (hb hby at_152) (by decide) (by decide) ⟨rfl, rfl, e12⟩
              by_cases hc144d135 : (f1_0 p1 (0 : Int32) (1 : Int32) (1 : Int32)) = v135_s0
              · rw [show (f0_137d135 p1 v135_s0) = f0_147d135 from if_pos hc144d135]
                refine Go.step (g' := (mkF m 147 #[.val (.int p0), .val (.int p1), .val (.int ((p0 &&& (2147483647 : Int32)) % (6 : Int32))), .val (.ref w_GREATER_OR_EQUAL), .val (.int v135_s0)] [])) (fun _ k => XS.icmpNo X12.here hx rfl (hb hby at_144) rfl (teq hc144d135).2 k) ?_
                refine Go.step (g' := (mkF m 148 #[.val (.int p0), .val (.int p1), .val (.int ((p0 &&& (2147483647 : Int32)) % (6 : Int32))), .val (.ref w_GREATER_OR_EQUAL), .val (.int v135_s0)] [(.int (1 : Int32))])) (fun _ k => XS.iconst X12.here hx rfl (hb hby at_147) k) ?_
                refine Go.step (g' := (mkF m 152 #[.val (.int p0), .val (.int p1), .val (.int ((p0 &&& (2147483647 : Int32)) % (6 : Int32))), .val (.ref w_GREATER_OR_EQUAL), .val (.int v135_s0)] [(.int (1 : Int32))])) (fun _ k => XS.goto X12.here hx rfl (pc0 := 148) (pc' := 152) rfl (hb hby at_148) (by decide) (by decide) k) ?_
                rw [show f0_147d135 = (f0_152d135 (1 : Int32)) from rfl]
                exact t152d135 (1 : Int32)
              · rw [show (f0_137d135 p1 v135_s0) = f0_151d135 from if_neg hc144d135]
                refine Go.step (g' := (mkF m 151 #[.val (.int p0), .val (.int p1), .val (.int ((p0 &&& (2147483647 : Int32)) % (6 : Int32))), .val (.ref w_GREATER_OR_EQUAL), .val (.int v135_s0)] [])) (fun _ k => XS.icmpYes X12.here hx rfl (pc0 := 144) (pc' := 151) rfl (hb hby at_144) rfl (feq hc144d135).2 (by decide) (by decide) k) ?_
                refine Go.step (g' := (mkF m 152 #[.val (.int p0), .val (.int p1), .val (.int ((p0 &&& (2147483647 : Int32)) % (6 : Int32))), .val (.ref w_GREATER_OR_EQUAL), .val (.int v135_s0)] [(.int (0 : Int32))])) (fun _ k => XS.iconst X12.here hx rfl (hb hby at_151) k) ?_
                rw [show f0_151d135 = (f0_152d135 (0 : Int32)) from rfl]
                exact t152d135 (0 : Int32)
            by_cases hc127 : p1 < (0 : Int32)
            · rw [show (f0_122 p1) = (f0_134 p1) from if_pos hc127]
              refine Go.step (g' := (mkF m 134 #[.val (.int p0), .val (.int p1), .val (.int ((p0 &&& (2147483647 : Int32)) % (6 : Int32))), .val (.ref w_GREATER_OR_EQUAL), .unset] [])) (fun _ k => XS.ifYes X11.here hx rfl (pc0 := 127) (pc' := 134) rfl (hb hby at_127) rfl ((if0 _ _).trans (tlt hc127).1) (by decide) (by decide) k) ?_
              refine Go.step (g' := (mkF m 135 #[.val (.int p0), .val (.int p1), .val (.int ((p0 &&& (2147483647 : Int32)) % (6 : Int32))), .val (.ref w_GREATER_OR_EQUAL), .unset] [(.int (0 : Int32))])) (fun _ k => XS.iconst X11.here hx rfl (hb hby at_134) k) ?_
              rw [show (f0_134 p1) = (f0_135 p1 (0 : Int32)) from rfl]
              exact t135 (0 : Int32)
            · rw [show (f0_122 p1) = (f0_130 p1) from if_neg hc127]
              refine Go.step (g' := (mkF m 130 #[.val (.int p0), .val (.int p1), .val (.int ((p0 &&& (2147483647 : Int32)) % (6 : Int32))), .val (.ref w_GREATER_OR_EQUAL), .unset] [])) (fun _ k => XS.ifNo X11.here hx rfl (hb hby at_127) rfl ((if0 _ _).trans (flt hc127).1) k) ?_
              refine Go.step (g' := (mkF m 131 #[.val (.int p0), .val (.int p1), .val (.int ((p0 &&& (2147483647 : Int32)) % (6 : Int32))), .val (.ref w_GREATER_OR_EQUAL), .unset] [(.int (1 : Int32))])) (fun _ k => XS.iconst X11.here hx rfl (hb hby at_130) k) ?_
              refine Go.step (g' := (mkF m 135 #[.val (.int p0), .val (.int p1), .val (.int ((p0 &&& (2147483647 : Int32)) % (6 : Int32))), .val (.ref w_GREATER_OR_EQUAL), .unset] [(.int (1 : Int32))])) (fun _ k => XS.goto X11.here hx rfl (pc0 := 131) (pc' := 135) rfl (hb hby at_131) (by decide) (by decide) k) ?_
              rw [show (f0_130 p1) = (f0_135 p1 (1 : Int32)) from rfl]
              exact t135 (1 : Int32)
theorem own_tri (y : Int32) : (y < 0 ∧ ¬ y = 0 ∧ ¬ 0 < y) ∨ (¬ y < 0 ∧ y = 0 ∧ ¬ 0 < y) ∨ (¬ y < 0 ∧ ¬ y = 0 ∧ 0 < y) := by
  simp only [Int32.lt_iff_toInt_lt, ← Int32.toInt_inj]
  have : (0 : Int32).toInt = 0 := by decide
  omega
theorem law_eq (x y : Int32) : (f0_0 x y) = 1 := by
  have n1 : nar .boolean 1 = 1 := by decide
  have n0 : nar .boolean 0 = 0 := by decide
  simp only [f1_29, f1_24, f1_16, f1_12, f1_4, f1_0, f0_152d135, f0_151d135, f0_147d135, f0_137d135, f0_135, f0_134, f0_130, f0_122, f0_152d119, f0_151d119, f0_147d119, f0_137d119, f0_117, f0_116, f0_112, f0_104, f0_99, f0_152d96, f0_151d96, f0_147d96, f0_137d96, f0_94, f0_93, f0_89, f0_81, f0_76, f0_152d73, f0_151d73, f0_147d73, f0_137d73, f0_71, f0_70, f0_66, f0_58, f0_53, f0_152d50, f0_151d50, f0_147d50, f0_137d50, f0_48, f0_47, f0_43, f0_35, f0_30, f0_152d27, f0_151d27, f0_147d27, f0_137d27, f0_25, f0_24, f0_20, f0_12, f0_0]
  generalize (x &&& 2147483647) % 6 = k
  rcases own_tri y with ⟨h1, h2, h3⟩ | ⟨h1, h2, h3⟩ | ⟨h1, h2, h3⟩ <;> by_cases k0 : k = 0 <;> by_cases k1 : k = 1 <;> by_cases k2 : k = 2 <;> by_cases k3 : k = 3 <;> by_cases k4 : k = 4 <;> simp_all
set_option maxRecDepth 65536 in
set_option maxHeartbeats 40000000 in
theorem comes_1 {Post : Tables → Env → Array Value → State → Outcome → State → Prop} (hpost : ∀ tb e args s v u, (limb_1_1.after args s (.returned v) u = true ∧ limb_1_2.after args s (.returned v) u = true) → FrameEnd s (.returned v) u (Jvm.fieldLocs frame_1_writes args s ++ Jvm.arrayLocs frame_1_arrays args s ++ Jvm.staticLocs frame_1_statics s) 0 0 → Post tb e args s (.returned v) u) :
    ArmFor flags0 classFile x code maxLocals ret World_1 tables_1 room_1 Calls_1 rest_1 Pre_1 Post := by
  intro l hfl _ _ p e ha hc hk s m args below hf hA hF happ hP
  obtain ⟨hcalls, hrest, hpre⟩ := hP
  obtain ⟨-, -, -, hnamed, -, -, -, hat⟩ := (Spec.applies_iff hf).mp happ
  obtain ⟨hg, hn⟩ := and_e (Cond.before_iff.mp (show (Jvm.Cond.and given_1 narrow_1).before args s = true from hpre))
  obtain ⟨gc, hg⟩ := and_e hg
  obtain ⟨g0, hg⟩ := and_e hg
  have g1 := hg
  obtain ⟨w0, w1, rfl⟩ : ∃ w0 w1 : Value, args = #[w0, w1] := by
    have hs : args.size = 2 := by simpa [Cond.value, given_1] using gc
    obtain ⟨L⟩ := args
    match L, hs with
    | [w0, w1], _ => exact ⟨w0, w1, rfl⟩
  have hw := fun d (hd : d ∈ tables_1) => atoms_spec (ws := Jvm.Cond.code x code maxLocals ret :: tables_1) hat d (List.mem_cons_of_mem _ hd)
  have hfit : Fit s := fun {y c} hc i hi => by
    obtain ⟨ha, rfl⟩ := Array.getElem?_eq_some_iff.mp hc
    have q := List.all_eq_true.mp ((Array.all_eq_true_iff_forall_mem.mp hF) _ (Array.getElem_mem ha)) i (List.mem_range.mpr hi)
    simpa [Array.getElem?_eq_getElem hi] using q
  obtain ⟨i0, ei0⟩ := is_v g0
  obtain rfl : w0 = (.int i0) := Option.some.inj ei0
  obtain ⟨i1, ei1⟩ := is_v g1
  obtain rfl : w1 = (.int i1) := Option.some.inj ei1
  obtain ⟨na0, nb0⟩ := and_e hn
  obtain ⟨na1, nb1⟩ := and_e nb0
  obtain ⟨na2, nb2⟩ := and_e nb1
  obtain ⟨na3, nb3⟩ := and_e nb2
  obtain ⟨na4, nb4⟩ := and_e nb3
  obtain ⟨na5, nb5⟩ := and_e nb4
  obtain ⟨na6, nb6⟩ := and_e nb5
  obtain ⟨na7, nb7⟩ := and_e nb6
  obtain ⟨na8, nb8⟩ := and_e nb7
  obtain ⟨na9, nb9⟩ := and_e nb8
  obtain ⟨na10, nb10⟩ := and_e nb9
  obtain ⟨na11, nb11⟩ := and_e nb10
  obtain ⟨na12, nb12⟩ := and_e nb11
  obtain ⟨na13, nb13⟩ := and_e nb12
  obtain ⟨na14, nb14⟩ := and_e nb13
  obtain ⟨na15, nb15⟩ := and_e nb14
  obtain ⟨na16, nb16⟩ := and_e nb15
  obtain ⟨na17, nb17⟩ := and_e nb16
  obtain ⟨na18, nb18⟩ := and_e nb17
  obtain ⟨na19, nb19⟩ := and_e nb18
  obtain ⟨na20, nb20⟩ := and_e nb19
  obtain ⟨na21, nb21⟩ := and_e nb20
  obtain ⟨na22, nb22⟩ := and_e nb21
  obtain ⟨w_EQUAL, ev_EQUAL⟩ := exa_v na0
  have E_EQUAL : Exa s s.heap w_EQUAL "com/example/lattice_node/latticenode/core/query/Comparison$Operator" := Exa.start ev_EQUAL na0
  have S_EQUAL : Sta s s.heap "com/example/lattice_node/latticenode/core/query/Comparison$Operator" "EQUAL" "Lcom/example/lattice_node/latticenode/core/query/Comparison$Operator;" (.ref w_EQUAL) := Sta.start ev_EQUAL (Or.inr ⟨(hw _ (List.mem_of_getElem? (i := 2) rfl)), (hw _ (List.mem_of_getElem? (i := 3) rfl))⟩)
  obtain ⟨w_LESS, ev_LESS⟩ := exa_v na2
  have E_LESS : Exa s s.heap w_LESS "com/example/lattice_node/latticenode/core/query/Comparison$Operator" := Exa.start ev_LESS na2
  have S_LESS : Sta s s.heap "com/example/lattice_node/latticenode/core/query/Comparison$Operator" "LESS" "Lcom/example/lattice_node/latticenode/core/query/Comparison$Operator;" (.ref w_LESS) := Sta.start ev_LESS (Or.inr ⟨(hw _ (List.mem_of_getElem? (i := 2) rfl)), (hw _ (List.mem_of_getElem? (i := 12) rfl))⟩)
  obtain ⟨w_LESS_OR_EQUAL, ev_LESS_OR_EQUAL⟩ := exa_v na5
  have E_LESS_OR_EQUAL : Exa s s.heap w_LESS_OR_EQUAL "com/example/lattice_node/latticenode/core/query/Comparison$Operator" := Exa.start ev_LESS_OR_EQUAL na5
  have S_LESS_OR_EQUAL : Sta s s.heap "com/example/lattice_node/latticenode/core/query/Comparison$Operator" "LESS_OR_EQUAL" "Lcom/example/lattice_node/latticenode/core/query/Comparison$Operator;" (.ref w_LESS_OR_EQUAL) := Sta.start ev_LESS_OR_EQUAL (Or.inr ⟨(hw _ (List.mem_of_getElem? (i := 2) rfl)), (hw _ (List.mem_of_getElem? (i := 16) rfl))⟩)
  obtain ⟨w_NOT_EQUAL, ev_NOT_EQUAL⟩ := exa_v na7
  have E_NOT_EQUAL : Exa s s.heap w_NOT_EQUAL "com/example/lattice_node/latticenode/core/query/Comparison$Operator" := Exa.start ev_NOT_EQUAL na7
  have S_NOT_EQUAL : Sta s s.heap "com/example/lattice_node/latticenode/core/query/Comparison$Operator" "NOT_EQUAL" "Lcom/example/lattice_node/latticenode/core/query/Comparison$Operator;" (.ref w_NOT_EQUAL) := Sta.start ev_NOT_EQUAL (Or.inr ⟨(hw _ (List.mem_of_getElem? (i := 2) rfl)), (hw _ (List.mem_of_getElem? (i := 18) rfl))⟩)
  obtain ⟨w_GREATER_OR_EQUAL, ev_GREATER_OR_EQUAL⟩ := exa_v na10
  have E_GREATER_OR_EQUAL : Exa s s.heap w_GREATER_OR_EQUAL "com/example/lattice_node/latticenode/core/query/Comparison$Operator" := Exa.start ev_GREATER_OR_EQUAL na10
  have S_GREATER_OR_EQUAL : Sta s s.heap "com/example/lattice_node/latticenode/core/query/Comparison$Operator" "GREATER_OR_EQUAL" "Lcom/example/lattice_node/latticenode/core/query/Comparison$Operator;" (.ref w_GREATER_OR_EQUAL) := Sta.start ev_GREATER_OR_EQUAL (Or.inr ⟨(hw _ (List.mem_of_getElem? (i := 2) rfl)), (hw _ (List.mem_of_getElem? (i := 20) rfl))⟩)
  obtain ⟨w_GREATER, ev_GREATER⟩ := exa_v na12
  have E_GREATER : Exa s s.heap w_GREATER "com/example/lattice_node/latticenode/core/query/Comparison$Operator" := Exa.start ev_GREATER na12
  have S_GREATER : Sta s s.heap "com/example/lattice_node/latticenode/core/query/Comparison$Operator" "GREATER" "Lcom/example/lattice_node/latticenode/core/query/Comparison$Operator;" (.ref w_GREATER) := Sta.start ev_GREATER (Or.inr ⟨(hw _ (List.mem_of_getElem? (i := 2) rfl)), (hw _ (List.mem_of_getElem? (i := 22) rfl))⟩)
  have F_EQUAL_holdsAbove : Fld s s.heap w_EQUAL "com/example/lattice_node/latticenode/core/query/Comparison$Operator" "holdsAbove" "Z" (.int (0 : Int32)) := Fld.start (own_ord ev_EQUAL na1)
  have F_LESS_holdsAbove : Fld s s.heap w_LESS "com/example/lattice_node/latticenode/core/query/Comparison$Operator" "holdsAbove" "Z" (.int (0 : Int32)) := Fld.start (own_ord ev_LESS na3)
  have F_LESS_holdsBelow : Fld s s.heap w_LESS "com/example/lattice_node/latticenode/core/query/Comparison$Operator" "holdsBelow" "Z" (.int (1 : Int32)) := Fld.start (own_ord ev_LESS na4)
  have F_LESS_OR_EQUAL_holdsBelow : Fld s s.heap w_LESS_OR_EQUAL "com/example/lattice_node/latticenode/core/query/Comparison$Operator" "holdsBelow" "Z" (.int (1 : Int32)) := Fld.start (own_ord ev_LESS_OR_EQUAL na6)
  have F_NOT_EQUAL_holdsAbove : Fld s s.heap w_NOT_EQUAL "com/example/lattice_node/latticenode/core/query/Comparison$Operator" "holdsAbove" "Z" (.int (1 : Int32)) := Fld.start (own_ord ev_NOT_EQUAL na8)
  have F_EQUAL_holdsBelow : Fld s s.heap w_EQUAL "com/example/lattice_node/latticenode/core/query/Comparison$Operator" "holdsBelow" "Z" (.int (0 : Int32)) := Fld.start (own_ord ev_EQUAL na9)
  have F_GREATER_OR_EQUAL_holdsAbove : Fld s s.heap w_GREATER_OR_EQUAL "com/example/lattice_node/latticenode/core/query/Comparison$Operator" "holdsAbove" "Z" (.int (1 : Int32)) := Fld.start (own_ord ev_GREATER_OR_EQUAL na11)
  have F_GREATER_holdsAbove : Fld s s.heap w_GREATER "com/example/lattice_node/latticenode/core/query/Comparison$Operator" "holdsAbove" "Z" (.int (1 : Int32)) := Fld.start (own_ord ev_GREATER na13)
  have F_GREATER_holdsBelow : Fld s s.heap w_GREATER "com/example/lattice_node/latticenode/core/query/Comparison$Operator" "holdsBelow" "Z" (.int (0 : Int32)) := Fld.start (own_ord ev_GREATER na14)
  have F_LESS_OR_EQUAL_holdsAbove : Fld s s.heap w_LESS_OR_EQUAL "com/example/lattice_node/latticenode/core/query/Comparison$Operator" "holdsAbove" "Z" (.int (0 : Int32)) := Fld.start (own_ord ev_LESS_OR_EQUAL na15)
  have F_NOT_EQUAL_holdsBelow : Fld s s.heap w_NOT_EQUAL "com/example/lattice_node/latticenode/core/query/Comparison$Operator" "holdsBelow" "Z" (.int (1 : Int32)) := Fld.start (own_ord ev_NOT_EQUAL na16)
  have F_GREATER_OR_EQUAL_holdsBelow : Fld s s.heap w_GREATER_OR_EQUAL "com/example/lattice_node/latticenode/core/query/Comparison$Operator" "holdsBelow" "Z" (.int (0 : Int32)) := Fld.start (own_ord ev_GREATER_OR_EQUAL na17)
  have F_GREATER_holdsAt : Fld s s.heap w_GREATER "com/example/lattice_node/latticenode/core/query/Comparison$Operator" "holdsAt" "Z" (.int (0 : Int32)) := Fld.start (own_ord ev_GREATER na18)
  have F_EQUAL_holdsAt : Fld s s.heap w_EQUAL "com/example/lattice_node/latticenode/core/query/Comparison$Operator" "holdsAt" "Z" (.int (1 : Int32)) := Fld.start (own_ord ev_EQUAL na19)
  have F_LESS_holdsAt : Fld s s.heap w_LESS "com/example/lattice_node/latticenode/core/query/Comparison$Operator" "holdsAt" "Z" (.int (0 : Int32)) := Fld.start (own_ord ev_LESS na20)
  have F_NOT_EQUAL_holdsAt : Fld s s.heap w_NOT_EQUAL "com/example/lattice_node/latticenode/core/query/Comparison$Operator" "holdsAt" "Z" (.int (0 : Int32)) := Fld.start (own_ord ev_NOT_EQUAL na21)
  have F_LESS_OR_EQUAL_holdsAt : Fld s s.heap w_LESS_OR_EQUAL "com/example/lattice_node/latticenode/core/query/Comparison$Operator" "holdsAt" "Z" (.int (1 : Int32)) := Fld.start (own_ord ev_LESS_OR_EQUAL na22)
  have F_GREATER_OR_EQUAL_holdsAt : Fld s s.heap w_GREATER_OR_EQUAL "com/example/lattice_node/latticenode/core/query/Comparison$Operator" "holdsAt" "Z" (.int (1 : Int32)) := Fld.start (own_ord ev_GREATER_OR_EQUAL nb22)
  obtain ⟨n, o, h1, h2, h3, v, L, rfl, hQ, hq⟩ := rm0 l s _ hw tables_1 i0 i1 w_EQUAL w_LESS w_LESS_OR_EQUAL w_NOT_EQUAL w_GREATER_OR_EQUAL w_GREATER s.heap  S_EQUAL S_LESS S_LESS_OR_EQUAL S_NOT_EQUAL S_GREATER_OR_EQUAL S_GREATER E_EQUAL E_LESS E_LESS_OR_EQUAL E_NOT_EQUAL E_GREATER_OR_EQUAL E_GREATER F_EQUAL_holdsAbove F_LESS_holdsAbove F_LESS_holdsBelow F_LESS_OR_EQUAL_holdsBelow F_NOT_EQUAL_holdsAbove F_EQUAL_holdsBelow F_GREATER_OR_EQUAL_holdsAbove F_GREATER_holdsAbove F_GREATER_holdsBelow F_LESS_OR_EQUAL_holdsAbove F_NOT_EQUAL_holdsBelow F_GREATER_OR_EQUAL_holdsBelow F_GREATER_holdsAt F_EQUAL_holdsAt F_LESS_holdsAt F_NOT_EQUAL_holdsAt F_LESS_OR_EQUAL_holdsAt F_GREATER_OR_EQUAL_holdsAt p e ha hc hk s m _ below hf ((Spec.applies_iff_loose hf).mp happ).1 ⟨rfl, State.Warmed39.refl s, rfl⟩ trivial
  obtain ⟨rfl, rfl, -⟩ := hQ
  rw [law_eq] at *
  refine ⟨n, _, h1, h2, h3, hpost _ _ _ _ _ _ ⟨Cond.after_iff.mpr rfl, Cond.after_iff.mpr (eq_i res_at (Term.int_eval (1)) rfl)⟩ ⟨hq.1, hq.2.1, (hq.2.2.sift fun y hy => nomatch hy).mono (by decide) (by decide)⟩⟩
theorem main_1_1 : Claimed_1_1 := comes_1 fun _ _ _ _ _ _ h hF => ⟨h.1, hF⟩
theorem main_1_2 : Claimed_1_2 := comes_1 fun _ _ _ _ _ _ h hF => ⟨h.2, hF⟩
end Jvm.Pilot.@@N@@
namespace Jvm.Pilot.@@N@@
open Jvm Jvm.ClassFile Sem Op Lib Jvm.Free Jvm.Stand Jvm.Pilot.@@N@@.Jvm.D
/-! MADE BY PROGRAM (witnessworld.py) out of the Statement's table words and the real class files: 12 classes; the members and pool entries that the words name. The judged class is class 1, her method 1. -/
namespace start1
open Jvm.ClassFile
def u (s : String) : CpInfo := .utf8 (stringToUtf16 s)
/-- a pool by its gaps: so many unusable entries, then the entry; so many at the end -/
def gap : Nat → List CpInfo → List CpInfo
  | 0, r => r
  | n + 1, r => .unusable :: gap n r
def poolList (es : List (Nat × CpInfo)) (last : Nat) : List CpInfo := es.foldr (fun e r => gap e.1 (e.2 :: r)) (gap last [])
def pool (es : List (Nat × CpInfo)) (last : Nat) : Array CpInfo := ⟨poolList es last⟩
def fileOf (pool : Array CpInfo) (this : Nat) (attrs : Array Attribute := #[]) (ms : Array MethodInfo := #[]) (fl : Nat := 33) (sup : Nat := 0) (ifs : Array Nat := #[]) (fds : Array FieldInfo := #[]) : ClassFile where
  minorVersion := 0
  majorVersion := 65
  constantPool := pool
  accessFlags := fl
  thisClass := this
  superClass := sup
  interfaces := ifs
  fields := fds
  methods := ms
  attributes := attrs
def plain (name : String) (sup : Option ClassId) : Class where
  name := name
  kind := .ordinary
  loader := none
  accessFlags := 33
  super := sup
  interfaces := #[]
  cf := none
  fields := #[]
  methods := #[]
  instanceTypes := #[]
  staticTypes := #[]
  resolved := #[]
  callSites := []
  init := .initialized
  statics := none
  mirror := none

def pool0 : Array CpInfo := pool [(5, u "<init>"), (0, u "()V"), (1, .class_ 10), (1, u "java/lang/Object")] 113

def k0m0 : Method := { name := "<init>", desc := "()V", sig := { parameters := [], returnType := none }, accessFlags := 1, code := none }
/-- java/lang/Object -/
def k0 : Class := { plain "java/lang/Object" none with
  accessFlags := 33
  interfaces := #[]
  cf := some (fileOf pool0 8 #[] #[{ accessFlags := 1, nameIndex := 5, descriptorIndex := 6, attributes := #[] }] 33 0 #[] #[])
  fields := #[]
  methods := #[k0m0]
  instanceTypes := #[]
  staticTypes := #[]
  resolved := Array.replicate 124 none
  statics := none }

def pool1 : Array CpInfo := pool [(2, .class_ 4), (1, u "java/lang/Object"), (0, u "<init>"), (0, u "()V"), (0, .integer 2147483647), (0, .fieldref 9 10), (0, .class_ 11), (0, .nameAndType 12 13), (0, u "com/example/lattice_node/latticenode/core/query/Comparison$Operator"), (0, u "EQUAL"), (0, u "Lcom/example/lattice_node/latticenode/core/query/Comparison$Operator;"), (0, .fieldref 9 15), (0, .nameAndType 16 13), (0, u "NOT_EQUAL"), (0, .fieldref 9 18), (0, .nameAndType 19 13), (0, u "LESS"), (0, .fieldref 9 21), (0, .nameAndType 22 13), (0, u "GREATER"), (0, .fieldref 9 24), (0, .nameAndType 25 13), (0, u "LESS_OR_EQUAL"), (0, .fieldref 9 27), (0, .nameAndType 28 13), (0, u "GREATER_OR_EQUAL"), (0, .methodref 9 30), (0, .nameAndType 31 32), (0, u "holdsFor"), (0, u "(I)Z"), (0, .class_ 34), (0, u "com/example/lattice_node/latticenode/core/query/OperatorHoldsForPinLaw"), (2, u "law"), (0, u "(II)Z")] 7

def k1m0 : Method := { name := "<init>", desc := "()V", sig := { parameters := [], returnType := none }, accessFlags := 2, code := none }
def k1c1 : Code := { maxStack := 2, maxLocals := 5, code := code, exceptionTable := #[], attributes := #[] }
def k1m1 : Method := { name := "law", desc := "(II)Z", sig := { parameters := [.int, .int], returnType := some .boolean }, accessFlags := 9, code := some k1c1 }
/-- com/example/lattice_node/latticenode/core/query/OperatorHoldsForPinLaw -/
def k1 : Class := { plain "com/example/lattice_node/latticenode/core/query/OperatorHoldsForPinLaw" (some 0) with
  accessFlags := 49
  interfaces := #[]
  cf := some (fileOf pool1 33 #[] #[{ accessFlags := 2, nameIndex := 5, descriptorIndex := 6, attributes := #[] }, { accessFlags := 9, nameIndex := 37, descriptorIndex := 38, attributes := #[] }] 49 2 #[] #[])
  fields := #[]
  methods := #[k1m0, k1m1]
  instanceTypes := #[]
  staticTypes := #[]
  resolved := Array.replicate 46 none
  statics := none }

def pool2 : Array CpInfo := pool [(1, .class_ 2), (0, u "java/lang/constant/Constable"), (0, .class_ 4), (0, u "java/lang/Object")] 6

/-- java/lang/constant/Constable -/
def k2 : Class := { plain "java/lang/constant/Constable" (some 0) with
  accessFlags := 1537
  interfaces := #[]
  cf := some (fileOf pool2 1 #[] #[] 1537 3 #[] #[])
  fields := #[]
  methods := #[]
  instanceTypes := #[]
  staticTypes := #[]
  resolved := Array.replicate 11 none
  statics := none }

def pool3 : Array CpInfo := pool [(1, .class_ 2), (0, u "java/lang/Comparable"), (0, .class_ 4), (0, u "java/lang/Object")] 7

/-- java/lang/Comparable -/
def k3 : Class := { plain "java/lang/Comparable" (some 0) with
  accessFlags := 1537
  interfaces := #[]
  cf := some (fileOf pool3 1 #[] #[] 1537 3 #[] #[])
  fields := #[]
  methods := #[]
  instanceTypes := #[]
  staticTypes := #[]
  resolved := Array.replicate 12 none
  statics := none }

def pool4 : Array CpInfo := pool [(1, .class_ 2), (0, u "java/io/Serializable"), (0, .class_ 4), (0, u "java/lang/Object")] 2

/-- java/io/Serializable -/
def k4 : Class := { plain "java/io/Serializable" (some 0) with
  accessFlags := 1537
  interfaces := #[]
  cf := some (fileOf pool4 1 #[] #[] 1537 3 #[] #[])
  fields := #[]
  methods := #[]
  instanceTypes := #[]
  staticTypes := #[]
  resolved := Array.replicate 7 none
  statics := none }

def pool5 : Array CpInfo := pool [(2, .class_ 4), (1, u "java/lang/Enum"), (0, u "name"), (0, u "Ljava/lang/String;"), (2, u "ordinal"), (0, u "I"), (1, .class_ 14), (1, u "java/lang/Object"), (4, u "hash"), (86, .class_ 108), (1, u "java/lang/Enum$EnumDesc"), (2, .class_ 112), (0, u "java/lang/constant/Constable"), (0, .class_ 114), (0, u "java/lang/Comparable"), (0, .class_ 116), (0, u "java/io/Serializable")] 87

/-- java/lang/Enum -/
def k5 : Class := { plain "java/lang/Enum" (some 0) with
  accessFlags := 1057
  interfaces := #[2, 3, 4]
  cf := some (fileOf pool5 2 #[.nestMembers #[106]] #[] 1057 12 #[111, 113, 115] #[{ accessFlags := 18, nameIndex := 5, descriptorIndex := 6, attributes := #[] }, { accessFlags := 18, nameIndex := 9, descriptorIndex := 10, attributes := #[] }, { accessFlags := 2, nameIndex := 19, descriptorIndex := 10, attributes := #[] }])
  fields := #[{ name := "name", type := (.object "java/lang/String"), accessFlags := 18, slot := 0, constantValue := 0 }, { name := "ordinal", type := .int, accessFlags := 18, slot := 1, constantValue := 0 }, { name := "hash", type := .int, accessFlags := 2, slot := 2, constantValue := 0 }]
  methods := #[]
  instanceTypes := #[(.object "java/lang/String"), .int, .int]
  staticTypes := #[]
  resolved := Array.replicate 204 none
  statics := none }

def pool6 : Array CpInfo := pool [(1, .class_ 2), (0, u "com/example/lattice_node/latticenode/core/query/Comparison$Operator"), (2, u "EQUAL"), (0, u "Lcom/example/lattice_node/latticenode/core/query/Comparison$Operator;"), (2, u "NOT_EQUAL"), (2, u "LESS"), (2, u "GREATER"), (2, u "LESS_OR_EQUAL"), (2, u "GREATER_OR_EQUAL"), (2, u "$VALUES"), (0, u "[Lcom/example/lattice_node/latticenode/core/query/Comparison$Operator;"), (6, .class_ 34), (1, u "java/lang/Enum"), (8, u "symbol"), (0, u "Ljava/lang/String;"), (0, .fieldref 1 46), (0, .nameAndType 47 48), (0, u "holdsBelow"), (0, u "Z"), (0, .fieldref 1 50), (0, .nameAndType 51 48), (0, u "holdsAt"), (0, .fieldref 1 53), (0, .nameAndType 54 48), (0, u "holdsAbove"), (63, u "holdsFor"), (0, u "(I)Z"), (6, .class_ 127), (0, u "com/example/lattice_node/latticenode/core/query/Comparison")] 2

def k6c0 : Code := { maxStack := 1, maxLocals := 3, code := prog_59_method_7_code, exceptionTable := #[], attributes := #[] }
def k6m0 : Method := { name := "holdsFor", desc := "(I)Z", sig := { parameters := [.int], returnType := some .boolean }, accessFlags := 1, code := some k6c0 }
/-- com/example/lattice_node/latticenode/core/query/Comparison$Operator -/
def k6 : Class := { plain "com/example/lattice_node/latticenode/core/query/Comparison$Operator" (some 5) with
  accessFlags := 16433
  interfaces := #[]
  cf := some (fileOf pool6 1 #[.nestHost 126] #[{ accessFlags := 1, nameIndex := 118, descriptorIndex := 119, attributes := #[] }] 16433 32 #[] #[{ accessFlags := 16409, nameIndex := 5, descriptorIndex := 6, attributes := #[] }, { accessFlags := 16409, nameIndex := 9, descriptorIndex := 6, attributes := #[] }, { accessFlags := 16409, nameIndex := 12, descriptorIndex := 6, attributes := #[] }, { accessFlags := 16409, nameIndex := 15, descriptorIndex := 6, attributes := #[] }, { accessFlags := 16409, nameIndex := 18, descriptorIndex := 6, attributes := #[] }, { accessFlags := 16409, nameIndex := 21, descriptorIndex := 6, attributes := #[] }, { accessFlags := 18, nameIndex := 43, descriptorIndex := 44, attributes := #[] }, { accessFlags := 18, nameIndex := 47, descriptorIndex := 48, attributes := #[] }, { accessFlags := 18, nameIndex := 51, descriptorIndex := 48, attributes := #[] }, { accessFlags := 18, nameIndex := 54, descriptorIndex := 48, attributes := #[] }, { accessFlags := 4122, nameIndex := 24, descriptorIndex := 25, attributes := #[] }])
  fields := #[{ name := "EQUAL", type := (.object "com/example/lattice_node/latticenode/core/query/Comparison$Operator"), accessFlags := 16409, slot := 0, constantValue := 0 }, { name := "NOT_EQUAL", type := (.object "com/example/lattice_node/latticenode/core/query/Comparison$Operator"), accessFlags := 16409, slot := 1, constantValue := 0 }, { name := "LESS", type := (.object "com/example/lattice_node/latticenode/core/query/Comparison$Operator"), accessFlags := 16409, slot := 2, constantValue := 0 }, { name := "GREATER", type := (.object "com/example/lattice_node/latticenode/core/query/Comparison$Operator"), accessFlags := 16409, slot := 3, constantValue := 0 }, { name := "LESS_OR_EQUAL", type := (.object "com/example/lattice_node/latticenode/core/query/Comparison$Operator"), accessFlags := 16409, slot := 4, constantValue := 0 }, { name := "GREATER_OR_EQUAL", type := (.object "com/example/lattice_node/latticenode/core/query/Comparison$Operator"), accessFlags := 16409, slot := 5, constantValue := 0 }, { name := "symbol", type := (.object "java/lang/String"), accessFlags := 18, slot := 3, constantValue := 0 }, { name := "holdsBelow", type := .boolean, accessFlags := 18, slot := 4, constantValue := 0 }, { name := "holdsAt", type := .boolean, accessFlags := 18, slot := 5, constantValue := 0 }, { name := "holdsAbove", type := .boolean, accessFlags := 18, slot := 6, constantValue := 0 }, { name := "$VALUES", type := (.array (.object "com/example/lattice_node/latticenode/core/query/Comparison$Operator")), accessFlags := 4122, slot := 6, constantValue := 0 }]
  methods := #[k6m0]
  instanceTypes := #[(.object "java/lang/String"), .int, .int, (.object "java/lang/String"), .boolean, .boolean, .boolean]
  staticTypes := #[(.object "com/example/lattice_node/latticenode/core/query/Comparison$Operator"), (.object "com/example/lattice_node/latticenode/core/query/Comparison$Operator"), (.object "com/example/lattice_node/latticenode/core/query/Comparison$Operator"), (.object "com/example/lattice_node/latticenode/core/query/Comparison$Operator"), (.object "com/example/lattice_node/latticenode/core/query/Comparison$Operator"), (.object "com/example/lattice_node/latticenode/core/query/Comparison$Operator"), (.array (.object "com/example/lattice_node/latticenode/core/query/Comparison$Operator"))]
  resolved := Array.replicate 130 none
  statics := some 0 }

def pool7 : Array CpInfo := pool [(1, u "java/lang/Cloneable"), (0, .class_ 1), (0, u "java/lang/Object"), (0, .class_ 3)] 3

/-- java/lang/Cloneable -/
def k7 : Class := { plain "java/lang/Cloneable" (some 0) with
  accessFlags := 1537
  interfaces := #[]
  cf := some (fileOf pool7 2 #[] #[] 1537 4 #[] #[])
  fields := #[]
  methods := #[]
  instanceTypes := #[]
  staticTypes := #[]
  resolved := Array.replicate 8 none
  statics := none }

/-- the primitive byte -/
def k8 : Class := { plain "byte" none with kind := .primitive 'B', accessFlags := 0x411 }
/-- [B -/
def k9 : Class := { plain "[B" (some 0) with kind := .array 8 .byte, interfaces := #[7, 4], accessFlags := 1041 }

/-- the primitive int -/
def k10 : Class := { plain "int" none with kind := .primitive 'I', accessFlags := 0x411 }
/-- [I -/
def k11 : Class := { plain "[I" (some 0) with kind := .array 10 .int, interfaces := #[7, 4], accessFlags := 1041 }

def heap : Heap := #[{ cls := 6, slots := #[.ref 1, .ref 2, .ref 3, .ref 4, .ref 5, .ref 6, .null], vm := .statics 6 },
  { cls := 6, slots := #[.null, .int 0, .int 0, .null, .int 0, .int 1, .int 0], vm := .none },
  { cls := 6, slots := #[.null, .int 1, .int 0, .null, .int 1, .int 0, .int 1], vm := .none },
  { cls := 6, slots := #[.null, .int 2, .int 0, .null, .int 1, .int 0, .int 0], vm := .none },
  { cls := 6, slots := #[.null, .int 3, .int 0, .null, .int 0, .int 0, .int 1], vm := .none },
  { cls := 6, slots := #[.null, .int 4, .int 0, .null, .int 1, .int 1, .int 0], vm := .none },
  { cls := 6, slots := #[.null, .int 5, .int 0, .null, .int 0, .int 1, .int 1], vm := .none }]
def classes : Array Class := #[k0, k1, k2, k3, k4, k5, k6, k7, k8, k9, k10, k11]
def interned : List (Array UInt16 × Addr) := []
def slotsUsed : Nat := 49
def theMethod : MethodId := ⟨1, 1⟩
def args0 : Array Value := #[.int 2, .int 1]
def aboutOver (below : List Frame) : State where
  vm := { classes := classes, interned := interned.toArray }
  heap := heap
  slotsUsed := slotsUsed
  threads := #[{ frames := .invoking theMethod args0 :: below }]
def below0 : List Frame := [.native { method := ⟨0, 0⟩, args := #[] }]
def about1 : State := aboutOver below0
def p0 : Program := .bare "" "" ""
def e0 : Env := launch0.env 0 0 0
theorem w_frames : about1.frames = Frame.invoking theMethod args0 :: below0 := rfl
set_option maxRecDepth 65536 in
theorem w_args : argsFit about1.vm theMethod args0 = true := by decide +kernel
set_option maxRecDepth 65536 in
theorem w_heap : heapFits about1 = true := by decide +kernel
set_option maxRecDepth 65536 in
theorem w_runnable : about1.curStatus? = some .runnable := by decide +kernel
set_option maxRecDepth 65536 in
theorem w_alone : about1.alone = true := by decide +kernel
set_option maxRecDepth 65536 in
theorem w_named : about1.methodNamed? x = some theMethod := by decide +kernel
set_option maxRecDepth 65536 in
theorem w_hears : about1.hears theMethod below0 = true := by decide +kernel
set_option maxRecDepth 65536 in
theorem w_ripe : about1.ripe theMethod args0 below0 = true := by decide +kernel
theorem w_running : about1.status = .running := rfl
set_option maxRecDepth 65536 in
theorem w_room : about1.hasRoom e0.platform room_1 = true :=
  launch0.hasRoom_least _ room_1 (by decide +kernel) (by decide +kernel) (by decide +kernel) (by decide +kernel) (by decide +kernel) (by decide +kernel)
theorem allAtoms_all (ts : List Jvm.Cond) (a : Array Jvm.Value) (st : Jvm.State) : (allAtoms ts).before a st = ts.all (fun c => c.before a st) := by
  induction ts with
  | nil => rfl
  | cons c t ih =>
    show (Jvm.Cond.and c (allAtoms t)).before a st = _
    rw [Jvm.Cond.before_and, ih, List.all_cons]
def words1 : List Jvm.Cond := Jvm.Cond.code x code maxLocals ret :: tables_1
/-- a 'code' word, met by the world's own term for the bytes: nothing is compared byte by byte -/
theorem code_word {y : MethodName} {bytes : ByteArray} {mx : Nat} {rt : Option FieldType} {a : Array Value} {s : State} {m : MethodId} {meth : Method} {c : Code} (h1 : s.methodNamed? y = some m) (h2 : s.vm.method? m = some meth) (h3 : meth.code = some c) (h4 : c.code = bytes)
    (h5 : (c.maxLocals == mx && c.exceptionTable.isEmpty && decide (c.maxStack ≤ mostOperands) && decide (meth.sig.returnType = rt) && !meth.locks && decide (parseMethodDescriptor y.desc = some meth.sig)) = true) : (Jvm.Cond.code y bytes mx rt).before a s = true := by
  simp only [Bool.and_eq_true, beq_iff_eq, Bool.not_eq_true', decide_eq_true_eq] at h5
  obtain ⟨⟨⟨⟨⟨g1, g2⟩, g3⟩, g4⟩, g5⟩, g6⟩ := h5
  simp [Cond.before, Cond.holds, Cond.value, h1, h2, h3, h4, g1, g2, g3, g4, g5, g6]
def isCode : Jvm.Cond → Bool
  | .code _ _ _ _ => true
  | _ => false
theorem all_split {L : List Jvm.Cond} {P : Jvm.Cond → Bool} (h1 : L.all (fun c => isCode c || P c) = true) (h2 : ∀ c ∈ L.filter isCode, P c = true) : L.all P = true := by
  refine List.all_eq_true.mpr fun c hc => ?_
  have h := List.all_eq_true.mp h1 c hc
  rcases Bool.eq_false_or_eq_true (isCode c) with hi | hi
  · exact h2 c (List.mem_filter.mpr ⟨hc, hi⟩)
  · simpa [hi] using h
set_option maxRecDepth 65536 in
theorem w_c0 : (Jvm.Cond.code x code maxLocals ret).before args0 about1 = true := code_word (m := ⟨1, 1⟩) (meth := k1m1) (c := k1c1) (by decide +kernel) rfl rfl rfl (by decide +kernel)
set_option maxRecDepth 65536 in
theorem w_c1 : (Jvm.Cond.code ({ cls := "com/example/lattice_node/latticenode/core/query/Comparison$Operator", name := "holdsFor", desc := "(I)Z" } : Jvm.MethodName) prog_59_method_7_code (3 : Nat) (Option.some Jvm.ClassFile.FieldType.boolean)).before args0 about1 = true := code_word (m := ⟨6, 0⟩) (meth := k6m0) (c := k6c0) (by decide +kernel) rfl rfl rfl (by decide +kernel)
def codes1 : List Jvm.Cond := [Jvm.Cond.code x code maxLocals ret, Jvm.Cond.code ({ cls := "com/example/lattice_node/latticenode/core/query/Comparison$Operator", name := "holdsFor", desc := "(I)Z" } : Jvm.MethodName) prog_59_method_7_code (3 : Nat) (Option.some Jvm.ClassFile.FieldType.boolean)]
set_option maxRecDepth 65536 in
theorem codes_eq : words1.filter isCode = codes1 := rfl
theorem w_codes : ∀ c ∈ words1.filter isCode, c.before args0 about1 = true := by
  rw [codes_eq]
  intro c hc
  simp only [codes1, List.mem_cons, List.not_mem_nil, or_false] at hc
  rcases hc with rfl | rfl
  · exact w_c0
  · exact w_c1
set_option maxRecDepth 65536 in
theorem w_t1 : (words1.take 24).all (fun c => isCode c || c.before args0 about1) = true := by decide +kernel
set_option maxRecDepth 65536 in
theorem w_t2 : (words1.drop 24).all (fun c => isCode c || c.before args0 about1) = true := by decide +kernel
theorem w_tables : (allAtoms (Jvm.Cond.code x code maxLocals ret :: tables_1)).before args0 about1 = true := by
  rw [allAtoms_all]
  show words1.all (fun c => c.before args0 about1) = true
  refine all_split ?_ w_codes
  rw [← List.take_append_drop 24 words1, List.all_append, w_t1, w_t2]
  rfl
set_option maxRecDepth 65536 in
theorem w_case : (Jvm.Cond.and given_1 narrow_1).before args0 about1 = true := by decide +kernel
theorem w_applies : (headSpec (Jvm.Cond.code x code maxLocals ret :: tables_1) room_1).applies x e0.platform about1 = true :=
  (Spec.applies_iff w_frames).mpr ⟨w_running, w_runnable, w_alone, w_named, w_hears, w_ripe, w_room, w_tables⟩
theorem atStart : AtStart classFile x code maxLocals ret World_1 tables_1 room_1 Calls_1 rest_1 Pre_1 launch0 p0 e0 about1 theMethod args0 below0 :=
  ⟨lists_1, trivial, launch0.admits_env _ _ _, launch0.least_env, fairChoices_fair.cas, fairChoices_fair.clock, w_frames, w_args, w_heap, w_applies, trivial, trivial, w_case⟩
end start1
theorem witness_1 : WitnessClaimed_1 := ⟨start1.p0, start1.e0, start1.about1, start1.theMethod, start1.args0, start1.below0, start1.atStart⟩
end Jvm.Pilot.@@N@@
