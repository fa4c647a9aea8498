import JvmDerived
import JvmDerived.Pilot.@@N@@Statement
import JvmDerived.Pilot.@@N@@Code
set_option linter.unusedVariables false
set_option linter.unusedSimpArgs false
namespace Jvm.Pilot.@@N@@
open Jvm Jvm.ClassFile Sem Op Lib Jvm.Free Jvm.Stand Jvm.LawKit Jvm.RoadKit Bundle Jvm.Pilot.@@N@@.Jvm.D
/-! from a frame on, the body comes to its end as Q says -/
section OwnKit
variable {p : Program} {l : Launch} {e : Env} {R : Room} {s : State} {m : MethodId} {args : Array Value} {below : List Frame} {meth : Method} {c : Code} {T T' : State} {locs : List Loc} {cells slots C D : Nat} {Q Q' : Option Value → Heap → List Loc → Prop} {g g' : JFrame}
def Go (p : Program) (e : Env) (below : List Frame) (s : State) (C D : Nat) (Q : Option Value → Heap → List Loc → Prop) (T : State) (g : JFrame) : Prop :=
  ∃ u o, Steps p.tables e below (T.setTop g) u ∧ u.status = .running ∧ Ended u below o ∧ ∃ v L, o = .returned v ∧ Q v u.heap L ∧ FrameEnd s o u L C D
def PureQ (r : Value) (h0 : Heap) (v : Option Value) (h : Heap) (L : List Loc) : Prop := v = some r ∧ L = [] ∧ h = h0
theorem Go.step (k : ∀ t, Steps p.tables e below (T'.setTop g') t → Steps p.tables e below (T.setTop g) t) (h : Go p e below s C D Q T' g') : Go p e below s C D Q T g := by
  obtain ⟨u, o, h1, r⟩ := h
  exact ⟨u, o, k _ h1, r⟩
theorem Go.mono (h : Go p e below s C D Q T g) (q : ∀ v h L, Q v h L → Q' v h L) : Go p e below s C D Q' T g := by
  obtain ⟨u, o, h1, h2, h3, v, L, h4, h5, h6⟩ := h
  exact ⟨u, o, h1, h2, h3, v, L, h4, q _ _ _ h5, h6⟩
theorem Go.retN (X : Stand p l e R s m args below meth c T locs cells slots) (hx : p.tables.exec = Jvm.exec) (hlk : meth.locks = false) {pc : Nat} {Ls : Array Slot} {z : Int32} {t : FieldType} {rest : List Value} (hret : meth.sig.returnType = some t) (ht : t = .boolean ∨ t = .byte ∨ t = .char ∨ t = .short)
    (hd : decode c.code pc = .ok (.ireturn, 1)) (hC : cells ≤ C) (hD : slots ≤ D) (hq : Q (some (.int (nar t z))) T.heap locs) : Go p e below s C D Q T (mkF m pc Ls (.int z :: rest)) := by
  obtain ⟨fs, hr, hrun, hended, hW, hsame⟩ := X.leave (v := some (.int (nar t z))) (fun h => by rw [hret] at h; cases h) hlk
  exact ⟨_, _, Jvm.RoadKit.retN X hx hret ht hd hr, hrun, hended, _, _, rfl, hq, ⟨_, rfl⟩, hW, hsame.mono hC hD⟩
theorem Go.retW (X : Stand p l e R s m args below meth c T locs cells slots) (hx : p.tables.exec = Jvm.exec) (hlk : meth.locks = false) {pc : Nat} {Ls : Array Slot} {w : Value} {t : FieldType} {i : Instr} {rest : List Value} (hret : meth.sig.returnType = some t) (hn : narrow t w = w)
    (hi : (i = .ireturn ∧ (t = .int ∨ t = .boolean ∨ t = .byte ∨ t = .char ∨ t = .short) ∧ ∃ z, w = .int z) ∨ (i = .lreturn ∧ t = .long ∧ ∃ z, w = .long z) ∨ (i = .dreturn ∧ t = .double ∧ ∃ z, w = .double z) ∨ (i = .freturn ∧ t = .float ∧ ∃ z, w = .float z) ∨ (i = .areturn ∧ t.isReference = true ∧ w.isRef = true))
    (hd : decode c.code pc = .ok (i, 1)) (hC : cells ≤ C) (hD : slots ≤ D) (hq : Q (some w) T.heap locs) : Go p e below s C D Q T (mkF m pc Ls (w :: rest)) := by
  obtain ⟨fs, hr, hrun, hended, hW, hsame⟩ := X.leave (v := some w) (fun h => by rw [hret] at h; cases h) hlk
  exact ⟨_, _, retOut X hx hret hn hi hd hr, hrun, hended, _, _, rfl, hq, ⟨_, rfl⟩, hW, hsame.mono hC hD⟩
theorem Go.ret0 (X : Stand p l e R s m args below meth c T locs cells slots) (hx : p.tables.exec = Jvm.exec) (hlk : meth.locks = false) {pc : Nat} {Ls : Array Slot} (hret : meth.sig.returnType = none)
    (hd : decode c.code pc = .ok (.return_, 1)) (hC : cells ≤ C) (hD : slots ≤ D) (hq : Q none T.heap locs) : Go p e below s C D Q T (mkF m pc Ls []) := by
  obtain ⟨fs, hr, hrun, hended, hW, hsame⟩ := X.leave (v := none) (fun _ => rfl) hlk
  exact ⟨_, _, X.returnOut hx hret hd hr, hrun, hended, _, _, rfl, hq, ⟨_, rfl⟩, hW, hsame.mono hC hD⟩
end OwnKit
theorem pd_0 : parseMethodDescriptor "(I)I" = some ⟨[.int], some .int⟩ := by decide +kernel
theorem pd_1 : parseMethodDescriptor "(I)Lcom/example/lattice_node/latticenode/core/Unit;" = some ⟨[.int], some (.object "com/example/lattice_node/latticenode/core/Unit")⟩ := by decide +kernel
theorem pd_2 : parseMethodDescriptor "(Lcom/example/lattice_node/latticenode/core/Unit;)Z" = some ⟨[(.object "com/example/lattice_node/latticenode/core/Unit")], some .boolean⟩ := by decide +kernel
theorem own_ord {t : Term} {a : Addr} {k : Int32} {args : Array Value} {s : State} {C n d : String} (ev : t.eval args s none [] s = some (.ref a)) (h : (Jvm.Cond.eq (.field t C n d) (.int k)).value args s none s [] = some true) : s.fieldOf? a C n d = some (.int k) := by
  have e := fld_at (C := C) (n := n) (dd := d) ev
  cases hf : s.fieldOf? a C n d with
  | none => rw [hf] at e; simp [Cond.value, e] at h
  | some v => rw [hf] at e; cases v <;> simp [Cond.value, e, Term.int_eval] at h ⊢; exact h
theorem own_ref {t u : Term} {a b : Addr} {args : Array Value} {s : State} {C n d : String} (ev : t.eval args s none [] s = some (.ref a)) (eu : u.eval args s none [] s = some (.ref b)) (h : (Jvm.Cond.eq (.field t C n d) u).value args s none s [] = some true) : s.fieldOf? a C n d = some (.ref b) := by
  have e := fld_at (C := C) (n := n) (dd := d) ev
  cases hf : s.fieldOf? a C n d with
  | none => rw [hf] at e; simp [Cond.value, e] at h
  | some v => rw [hf] at e; cases v <;> simp [Cond.value, e, eu] at h ⊢; exact h
theorem own_ne {a b : Addr} {v w : Value} {s : State} {C n d : String} (h1 : s.fieldOf? a C n d = some v) (h2 : s.fieldOf? b C n d = some w) (hn : v ≠ w) : a ≠ b := fun e => by
  subst e; exact hn (Option.some.inj (h1.symm.trans h2))
theorem own_ifnullYes {tb : Tables} [Ours tb] {e : Env} {below : List Frame} {T target : State} {m : MethodId} {c : Code} {g : JFrame} (h : At T m c below) (hx : tb.exec = Jvm.exec) (hg : g.method = m) {w : Value} {rest : List Value} {o : Int} {pc0 pc' : Nat} (hpc : g.pc = pc0) (hd : decode c.code g.pc = .ok (.ifnull o, 3)) (hs : g.stack = w :: rest) (hw : w = .null) (ho : 0 ≤ (pc0 : Int) + o) (hp : ((pc0 : Int) + o).toNat = pc')
    (hr : Steps tb e below (T.setTop { g with pc := pc', stack := rest }) target) : Steps tb e below (T.setTop g) target := XS.ifnullYes h hx hg hpc hd (hw ▸ hs) ho hp hr
theorem own_ifnullNo {tb : Tables} [Ours tb] {e : Env} {below : List Frame} {T target : State} {m : MethodId} {c : Code} {g : JFrame} (h : At T m c below) (hx : tb.exec = Jvm.exec) (hg : g.method = m) {o : Int} {w : Value} {rest : List Value} (hd : decode c.code g.pc = .ok (.ifnull o, 3)) (hs : g.stack = w :: rest) (hw : w.isRef = true) (hn : ¬ w = .null)
    (hr : Steps tb e below (T.setTop { g with pc := g.pc + 3, stack := rest }) target) : Steps tb e below (T.setTop g) target := by
  rcases ref_cases hw with q | ⟨b, q⟩
  · exact absurd q hn
  · exact XS.ifnullNo h hx hg hd (q ▸ hs) hr
theorem own_getR {p : Program} {l : Launch} {e : Env} {R : Room} {s : State} {m : MethodId} {args : Array Value} {below : List Frame} {meth : Method} {c : Code} {T : State} {locs : List Loc} {cells slots : Nat} {Z : State} {a0 : Array Value} {h : Heap}
    (X : Stand p l e R s m args below meth c T locs cells slots) (hx : p.tables.exec = Jvm.exec) (hZ : Z.Warmed39 s.vm) {own O n d : String} {index : Nat} (hown : s.vm.findClass own = some m.cls) (w : (Jvm.Cond.fieldRef own index O n d).before a0 Z = true) (eT : T.heap = h)
    {a : Addr} {v : Value} (F : Fld Z h a O n d v) {g : JFrame} (hg : g.method = m) {rest : List Value} (hs : g.stack = .ref a :: rest) (hd : decode c.code g.pc = .ok (.getfield index, 3)) (target : State)
    (hr : Steps p.tables e below (T.setTop { g with pc := g.pc + 3, stack := v :: rest }) target) : Steps p.tables e below (T.setTop g) target := by
  have hT : Z.Warmed39 T.vm := wtrans hZ X.warmed
  have w' := Jvm.Cond.fieldRef_warmed39 hT w
  have hcur : (Z.setVm T.vm).vm.findClass own = some m.cls := by
    show T.vm.findClass own = _
    rw [X.warmed.alike.findClass]; exact hown
  obtain ⟨c', k', i', f', q1, q2⟩ := Jvm.Cond.fieldRef_spec hcur w'
  obtain ⟨cell, cf, k, i, f, h1, h2, h3, h4, h5, h6, h7⟩ := F
  obtain ⟨k'', q3, -⟩ := State.fieldFound?_setVm (s := Z) hT.alike h2
  cases q1.symm.trans q3
  exact (X.getfieldR hx hg q2 h3 hs (by rw [eT]; exact h1) h4 h7 hd (Steps.refl _)).trans hr
def OkU (Z : State) (h : Heap) (gq : Addr → Addr) (gp : Addr → Value) (gi : Addr → Int32) (u : Addr) : Prop :=
  Exa Z h u "com/example/lattice_node/latticenode/core/Unit" ∧ Fld Z h u "com/example/lattice_node/latticenode/core/Unit" "quantity" "Lcom/example/lattice_node/latticenode/core/Unit$Quantity;" (.ref (gq u)) ∧ Fld Z h (gq u) "com/example/lattice_node/latticenode/core/Unit$Quantity" "perHertz" "Ljava/math/BigDecimal;" (gp (gq u)) ∧ (gp (gq u)).isRef = true ∧ Fld Z h (gq u) "com/example/lattice_node/latticenode/core/Unit$Quantity" "inverse" "Z" (.int (gi (gq u)))
def own_gq (s : State) (u : Addr) : Addr := match s.fieldOf? u "com/example/lattice_node/latticenode/core/Unit" "quantity" "Lcom/example/lattice_node/latticenode/core/Unit$Quantity;" with | some (.ref q) => q | _ => 0
def own_gp (s : State) (q : Addr) : Value := match s.fieldOf? q "com/example/lattice_node/latticenode/core/Unit$Quantity" "perHertz" "Ljava/math/BigDecimal;" with | some v => v | _ => .null
def own_gi (s : State) (q : Addr) : Int32 := match s.fieldOf? q "com/example/lattice_node/latticenode/core/Unit$Quantity" "inverse" "Z" with | some (.int z) => z | _ => 0
theorem own_ok {s : State} {u q : Addr} {v : Value} {z : Int32} (E : Exa s s.heap u "com/example/lattice_node/latticenode/core/Unit") (h1 : s.fieldOf? u "com/example/lattice_node/latticenode/core/Unit" "quantity" "Lcom/example/lattice_node/latticenode/core/Unit$Quantity;" = some (.ref q)) (h2 : s.fieldOf? q "com/example/lattice_node/latticenode/core/Unit$Quantity" "perHertz" "Ljava/math/BigDecimal;" = some v) (hv : v.isRef = true) (h3 : s.fieldOf? q "com/example/lattice_node/latticenode/core/Unit$Quantity" "inverse" "Z" = some (.int z)) :
    OkU s s.heap (own_gq s) (own_gp s) (own_gi s) u ∧ own_gp s (own_gq s u) = v ∧ own_gi s (own_gq s u) = z := by
  have e1 : own_gq s u = q := by simp [own_gq, h1]
  have e2 : own_gp s q = v := by simp [own_gp, h2]
  have e3 : own_gi s q = z := by simp [own_gi, h3]
  refine ⟨⟨E, ?_, ?_, ?_, ?_⟩, ?_, ?_⟩
  · rw [e1]; exact Fld.start h1
  · rw [e1, e2]; exact Fld.start h2
  · rw [e1, e2]; exact hv
  · rw [e1, e3]; exact Fld.start h3
  · rw [e1, e2]
  · rw [e1, e3]
theorem own_fex {t : Term} {a : Addr} {args : Array Value} {s : State} {C n d K : String} (ev : t.eval args s none [] s = some (.ref a)) (h : (Jvm.Cond.exactly (.field t C n d) K).value args s none s [] = some true) : ∃ x, s.fieldOf? a C n d = some (.ref x) := by
  obtain ⟨x, e⟩ := exa_v h
  rw [fld_at ev] at e
  exact ⟨x, e⟩
theorem own_fnull {t : Term} {a : Addr} {args : Array Value} {s : State} {C n d : String} (ev : t.eval args s none [] s = some (.ref a)) (h : (Jvm.Cond.eq (.field t C n d) .null).value args s none s [] = some true) : s.fieldOf? a C n d = some .null := by
  have e := null_v h
  rw [fld_at ev] at e
  exact e
theorem d1_0 : decode method_3_code 0 = .ok (.iload_n 0, 1) := by decide +kernel
theorem d1_1 : decode method_3_code 1 = .ok (.iconst 4, 1) := by decide +kernel
theorem d1_2 : decode method_3_code 2 = .ok (.if_icmp .gt 5, 3) := by decide +kernel
theorem d1_5 : decode method_3_code 5 = .ok (.iconst 0, 1) := by decide +kernel
theorem d1_6 : decode method_3_code 6 = .ok (.ireturn, 1) := by decide +kernel
theorem d1_7 : decode method_3_code 7 = .ok (.iload_n 0, 1) := by decide +kernel
theorem d1_8 : decode method_3_code 8 = .ok (.bipush 7, 2) := by decide +kernel
theorem d1_10 : decode method_3_code 10 = .ok (.if_icmp .gt 5, 3) := by decide +kernel
theorem d1_13 : decode method_3_code 13 = .ok (.iconst 1, 1) := by decide +kernel
theorem d1_14 : decode method_3_code 14 = .ok (.ireturn, 1) := by decide +kernel
theorem d1_15 : decode method_3_code 15 = .ok (.iload_n 0, 1) := by decide +kernel
theorem d1_16 : decode method_3_code 16 = .ok (.bipush 8, 2) := by decide +kernel
theorem d1_18 : decode method_3_code 18 = .ok (.if_icmp .ne 5, 3) := by decide +kernel
theorem d1_21 : decode method_3_code 21 = .ok (.iconst 2, 1) := by decide +kernel
theorem d1_22 : decode method_3_code 22 = .ok (.ireturn, 1) := by decide +kernel
theorem d1_23 : decode method_3_code 23 = .ok (.iconst 3, 1) := by decide +kernel
theorem d1_24 : decode method_3_code 24 = .ok (.ireturn, 1) := by decide +kernel
theorem pn_1 : plainName "com/example/lattice_node/latticenode/core/UnitInvertsSpectrallyPinLaw" = true := by first | (simp [plainName, overriddenIn]; done) | decide +kernel
theorem ef_1 (m : MethodId) (p0 : Int32) : entryFrame m #[(.int p0)] 1 = mkF m 0 #[.val (.int p0)] [] := by first | (simp [entryFrame, mkF, argsToLocals, Value.category]; done) | rfl
def f1_23 : Int32 := (3 : Int32)
def f1_21 : Int32 := (2 : Int32)
def f1_15 (p0 : Int32) : Int32 := if p0 = (8 : Int32) then f1_21 else f1_23
def f1_13 : Int32 := (1 : Int32)
def f1_7 (p0 : Int32) : Int32 := if (7 : Int32) < p0 then (f1_15 p0) else f1_13
def f1_5 : Int32 := (0 : Int32)
def f1_0 (p0 : Int32) : Int32 := if (4 : Int32) < p0 then (f1_7 p0) else f1_5
set_option maxRecDepth 65536 in
set_option maxHeartbeats 40000000 in
theorem rm1 (l : Launch) (Z : State) (a0 : Array Value) (hw : ∀ d ∈ tables_1, d.before a0 Z = true) (ws : List Jvm.Cond) (p0 : Int32)  (h0 : Heap) :
    MetFree l (⟨"com/example/lattice_node/latticenode/core/UnitInvertsSpectrallyPinLaw", "kind", "(I)I"⟩ : MethodName) (head1 (Jvm.Cond.code (⟨"com/example/lattice_node/latticenode/core/UnitInvertsSpectrallyPinLaw", "kind", "(I)I"⟩ : MethodName) method_3_code 1 (some .int) :: ws) ({ frames := 0, cells := 0, slots := 0, locals := 0 } : Room)) (fun a U => a = #[(.int p0)] ∧ Z.Warmed39 U.vm ∧ U.heap = h0) (fun _ _ _ _ _ => True) (fun _ U o U' => ∃ v L, o = .returned v ∧ (PureQ (.int (f1_0 p0)) h0) v U'.heap L ∧ FrameEnd U o U' L ({ frames := 0, cells := 0, slots := 0, locals := 0 } : Room).cells ({ frames := 0, cells := 0, slots := 0, locals := 0 } : Room).slots) := by
  refine MetFree.of_bodySF (plainFor_of_name pn_1) hisR ?_
  intro p e s m args below meth c s₁ Bd hml0 hP hK
  obtain ⟨rfl, hZ, hh⟩ := hP
  have hx := Bd.exec
  have hby := Bd.bytes
  have hlk : meth.locks = false := BodyLoose.notSynchronized Bd
  have hml : c.maxLocals = 1 := hml0
  have hown : s.vm.findClass "com/example/lattice_node/latticenode/core/UnitInvertsSpectrallyPinLaw" = some m.cls := findClass_of_methodNamed Bd.named
  have hnm := (name_of_methodNamed Bd.named Bd.method).1
  have X0 : Stand p l e ({ frames := 0, cells := 0, slots := 0, locals := 0 } : Room) s m #[(.int p0)] below meth c s₁ ([] : List Loc) 0 0 := Stand.of_body Bd
  have e0 : s₁.heap = h0 := by rw [← hh, Bd.state]; rfl
  show Go p e below s 0 0 (PureQ (.int (f1_0 p0)) h0) s₁ (entryFrame m #[(.int p0)] 1)
  rw [ef_1 m p0]
  refine Go.step (g' := (mkF m 1 #[.val (.int p0)] [(.int p0)])) (fun _ k => XS.iloadN X0.here hx rfl (hb hby d1_0) rfl  k) ?_
  refine Go.step (g' := (mkF m 2 #[.val (.int p0)] [(.int (4 : Int32)), (.int p0)])) (fun _ k => XS.iconst X0.here hx rfl (hb hby d1_1) k) ?_
  by_cases hc2 : (4 : Int32) < p0
  · rw [show (f1_0 p0) = (f1_7 p0) from if_pos hc2]
    refine Go.step (g' := (mkF m 7 #[.val (.int p0)] [])) (fun _ k => XS.icmpYes X0.here hx rfl (pc0 := 2) (pc' := 7) rfl (hb hby d1_2) rfl (tlt hc2).2.2.1 (by decide) (by decide) k) ?_
    refine Go.step (g' := (mkF m 8 #[.val (.int p0)] [(.int p0)])) (fun _ k => XS.iloadN X0.here hx rfl (hb hby d1_7) rfl  k) ?_
    refine Go.step (g' := (mkF m 10 #[.val (.int p0)] [(.int (7 : Int32)), (.int p0)])) (fun _ k => XS.bipush X0.here hx rfl (hb hby d1_8) k) ?_
    by_cases hc10 : (7 : Int32) < p0
    · rw [show (f1_7 p0) = (f1_15 p0) from if_pos hc10]
      refine Go.step (g' := (mkF m 15 #[.val (.int p0)] [])) (fun _ k => XS.icmpYes X0.here hx rfl (pc0 := 10) (pc' := 15) rfl (hb hby d1_10) rfl (tlt hc10).2.2.1 (by decide) (by decide) k) ?_
      refine Go.step (g' := (mkF m 16 #[.val (.int p0)] [(.int p0)])) (fun _ k => XS.iloadN X0.here hx rfl (hb hby d1_15) rfl  k) ?_
      refine Go.step (g' := (mkF m 18 #[.val (.int p0)] [(.int (8 : Int32)), (.int p0)])) (fun _ k => XS.bipush X0.here hx rfl (hb hby d1_16) k) ?_
      by_cases hc18 : p0 = (8 : Int32)
      · rw [show (f1_15 p0) = f1_21 from if_pos hc18]
        refine Go.step (g' := (mkF m 21 #[.val (.int p0)] [])) (fun _ k => XS.icmpNo X0.here hx rfl (hb hby d1_18) rfl (teq hc18).2 k) ?_
        refine Go.step (g' := (mkF m 22 #[.val (.int p0)] [(.int (2 : Int32))])) (fun _ k => XS.iconst X0.here hx rfl (hb hby d1_21) k) ?_
        exact Go.retW X0 hx hlk (t := .int) Bd.returns rfl (Or.inl ⟨rfl, Or.inl rfl, _, rfl⟩) (hb hby d1_22) (by decide) (by decide) ⟨rfl, rfl, e0⟩
      · rw [show (f1_15 p0) = f1_23 from if_neg hc18]
        refine Go.step (g' := (mkF m 23 #[.val (.int p0)] [])) (fun _ k => XS.icmpYes X0.here hx rfl (pc0 := 18) (pc' := 23) rfl (hb hby d1_18) rfl (feq hc18).2 (by decide) (by decide) k) ?_
        refine Go.step (g' := (mkF m 24 #[.val (.int p0)] [(.int (3 : Int32))])) (fun _ k => XS.iconst X0.here hx rfl (hb hby d1_23) k) ?_
        exact Go.retW X0 hx hlk (t := .int) Bd.returns rfl (Or.inl ⟨rfl, Or.inl rfl, _, rfl⟩) (hb hby d1_24) (by decide) (by decide) ⟨rfl, rfl, e0⟩
    · rw [show (f1_7 p0) = f1_13 from if_neg hc10]
      refine Go.step (g' := (mkF m 13 #[.val (.int p0)] [])) (fun _ k => XS.icmpNo X0.here hx rfl (hb hby d1_10) rfl (flt hc10).2.2.1 k) ?_
      refine Go.step (g' := (mkF m 14 #[.val (.int p0)] [(.int (1 : Int32))])) (fun _ k => XS.iconst X0.here hx rfl (hb hby d1_13) k) ?_
      exact Go.retW X0 hx hlk (t := .int) Bd.returns rfl (Or.inl ⟨rfl, Or.inl rfl, _, rfl⟩) (hb hby d1_14) (by decide) (by decide) ⟨rfl, rfl, e0⟩
  · rw [show (f1_0 p0) = f1_5 from if_neg hc2]
    refine Go.step (g' := (mkF m 5 #[.val (.int p0)] [])) (fun _ k => XS.icmpNo X0.here hx rfl (hb hby d1_2) rfl (flt hc2).2.2.1 k) ?_
    refine Go.step (g' := (mkF m 6 #[.val (.int p0)] [(.int (0 : Int32))])) (fun _ k => XS.iconst X0.here hx rfl (hb hby d1_5) k) ?_
    exact Go.retW X0 hx hlk (t := .int) Bd.returns rfl (Or.inl ⟨rfl, Or.inl rfl, _, rfl⟩) (hb hby d1_6) (by decide) (by decide) ⟨rfl, rfl, e0⟩
theorem d2_0 : decode method_4_code 0 = .ok (.iload_n 0, 1) := by decide +kernel
theorem d2_1 : decode method_4_code 1 = .ok (.ifCond .ne 7, 3) := by decide +kernel
theorem d2_4 : decode method_4_code 4 = .ok (.getstatic 24, 3) := by decide +kernel
theorem d2_7 : decode method_4_code 7 = .ok (.areturn, 1) := by decide +kernel
theorem d2_8 : decode method_4_code 8 = .ok (.iload_n 0, 1) := by decide +kernel
theorem d2_9 : decode method_4_code 9 = .ok (.iconst 1, 1) := by decide +kernel
theorem d2_10 : decode method_4_code 10 = .ok (.if_icmp .ne 7, 3) := by decide +kernel
theorem d2_13 : decode method_4_code 13 = .ok (.getstatic 28, 3) := by decide +kernel
theorem d2_16 : decode method_4_code 16 = .ok (.areturn, 1) := by decide +kernel
theorem d2_17 : decode method_4_code 17 = .ok (.iload_n 0, 1) := by decide +kernel
theorem d2_18 : decode method_4_code 18 = .ok (.iconst 2, 1) := by decide +kernel
theorem d2_19 : decode method_4_code 19 = .ok (.if_icmp .ne 7, 3) := by decide +kernel
theorem d2_22 : decode method_4_code 22 = .ok (.getstatic 31, 3) := by decide +kernel
theorem d2_25 : decode method_4_code 25 = .ok (.areturn, 1) := by decide +kernel
theorem d2_26 : decode method_4_code 26 = .ok (.iload_n 0, 1) := by decide +kernel
theorem d2_27 : decode method_4_code 27 = .ok (.iconst 3, 1) := by decide +kernel
theorem d2_28 : decode method_4_code 28 = .ok (.if_icmp .ne 7, 3) := by decide +kernel
theorem d2_31 : decode method_4_code 31 = .ok (.getstatic 34, 3) := by decide +kernel
theorem d2_34 : decode method_4_code 34 = .ok (.areturn, 1) := by decide +kernel
theorem d2_35 : decode method_4_code 35 = .ok (.iload_n 0, 1) := by decide +kernel
theorem d2_36 : decode method_4_code 36 = .ok (.iconst 4, 1) := by decide +kernel
theorem d2_37 : decode method_4_code 37 = .ok (.if_icmp .ne 7, 3) := by decide +kernel
theorem d2_40 : decode method_4_code 40 = .ok (.getstatic 37, 3) := by decide +kernel
theorem d2_43 : decode method_4_code 43 = .ok (.areturn, 1) := by decide +kernel
theorem d2_44 : decode method_4_code 44 = .ok (.iload_n 0, 1) := by decide +kernel
theorem d2_45 : decode method_4_code 45 = .ok (.iconst 5, 1) := by decide +kernel
theorem d2_46 : decode method_4_code 46 = .ok (.if_icmp .ne 7, 3) := by decide +kernel
theorem d2_49 : decode method_4_code 49 = .ok (.getstatic 40, 3) := by decide +kernel
theorem d2_52 : decode method_4_code 52 = .ok (.areturn, 1) := by decide +kernel
theorem d2_53 : decode method_4_code 53 = .ok (.iload_n 0, 1) := by decide +kernel
theorem d2_54 : decode method_4_code 54 = .ok (.bipush 6, 2) := by decide +kernel
theorem d2_56 : decode method_4_code 56 = .ok (.if_icmp .ne 7, 3) := by decide +kernel
theorem d2_59 : decode method_4_code 59 = .ok (.getstatic 43, 3) := by decide +kernel
theorem d2_62 : decode method_4_code 62 = .ok (.areturn, 1) := by decide +kernel
theorem d2_63 : decode method_4_code 63 = .ok (.iload_n 0, 1) := by decide +kernel
theorem d2_64 : decode method_4_code 64 = .ok (.bipush 7, 2) := by decide +kernel
theorem d2_66 : decode method_4_code 66 = .ok (.if_icmp .ne 7, 3) := by decide +kernel
theorem d2_69 : decode method_4_code 69 = .ok (.getstatic 46, 3) := by decide +kernel
theorem d2_72 : decode method_4_code 72 = .ok (.areturn, 1) := by decide +kernel
theorem d2_73 : decode method_4_code 73 = .ok (.iload_n 0, 1) := by decide +kernel
theorem d2_74 : decode method_4_code 74 = .ok (.bipush 8, 2) := by decide +kernel
theorem d2_76 : decode method_4_code 76 = .ok (.if_icmp .ne 7, 3) := by decide +kernel
theorem d2_79 : decode method_4_code 79 = .ok (.getstatic 49, 3) := by decide +kernel
theorem d2_82 : decode method_4_code 82 = .ok (.areturn, 1) := by decide +kernel
theorem d2_83 : decode method_4_code 83 = .ok (.iload_n 0, 1) := by decide +kernel
theorem d2_84 : decode method_4_code 84 = .ok (.bipush 9, 2) := by decide +kernel
theorem d2_86 : decode method_4_code 86 = .ok (.if_icmp .ne 7, 3) := by decide +kernel
theorem d2_89 : decode method_4_code 89 = .ok (.getstatic 52, 3) := by decide +kernel
theorem d2_92 : decode method_4_code 92 = .ok (.areturn, 1) := by decide +kernel
theorem d2_93 : decode method_4_code 93 = .ok (.getstatic 55, 3) := by decide +kernel
theorem d2_96 : decode method_4_code 96 = .ok (.areturn, 1) := by decide +kernel
theorem pn_2 : plainName "com/example/lattice_node/latticenode/core/UnitInvertsSpectrallyPinLaw" = true := by first | (simp [plainName, overriddenIn]; done) | decide +kernel
theorem ef_2 (m : MethodId) (p0 : Int32) : entryFrame m #[(.int p0)] 1 = mkF m 0 #[.val (.int p0)] [] := by first | (simp [entryFrame, mkF, argsToLocals, Value.category]; done) | rfl
def f2_93 (w_NANOMETRE : Addr) : Addr := w_NANOMETRE
def f2_89 (w_ANGSTROM : Addr) : Addr := w_ANGSTROM
def f2_83 (p0 : Int32) (w_ANGSTROM : Addr) (w_NANOMETRE : Addr) : Addr := if p0 = (9 : Int32) then (f2_89 w_ANGSTROM) else (f2_93 w_NANOMETRE)
def f2_79 (w_PER_SECOND : Addr) : Addr := w_PER_SECOND
def f2_73 (p0 : Int32) (w_ANGSTROM : Addr) (w_NANOMETRE : Addr) (w_PER_SECOND : Addr) : Addr := if p0 = (8 : Int32) then (f2_79 w_PER_SECOND) else (f2_83 p0 w_ANGSTROM w_NANOMETRE)
def f2_69 (w_ELECTRONVOLT : Addr) : Addr := w_ELECTRONVOLT
def f2_63 (p0 : Int32) (w_ANGSTROM : Addr) (w_NANOMETRE : Addr) (w_PER_SECOND : Addr) (w_ELECTRONVOLT : Addr) : Addr := if p0 = (7 : Int32) then (f2_69 w_ELECTRONVOLT) else (f2_73 p0 w_ANGSTROM w_NANOMETRE w_PER_SECOND)
def f2_59 (w_PER_CENTIMETRE : Addr) : Addr := w_PER_CENTIMETRE
def f2_53 (p0 : Int32) (w_ANGSTROM : Addr) (w_NANOMETRE : Addr) (w_PER_CENTIMETRE : Addr) (w_PER_SECOND : Addr) (w_ELECTRONVOLT : Addr) : Addr := if p0 = (6 : Int32) then (f2_59 w_PER_CENTIMETRE) else (f2_63 p0 w_ANGSTROM w_NANOMETRE w_PER_SECOND w_ELECTRONVOLT)
def f2_49 (w_JOULE : Addr) : Addr := w_JOULE
def f2_44 (p0 : Int32) (w_ANGSTROM : Addr) (w_NANOMETRE : Addr) (w_JOULE : Addr) (w_PER_CENTIMETRE : Addr) (w_PER_SECOND : Addr) (w_ELECTRONVOLT : Addr) : Addr := if p0 = (5 : Int32) then (f2_49 w_JOULE) else (f2_53 p0 w_ANGSTROM w_NANOMETRE w_PER_CENTIMETRE w_PER_SECOND w_ELECTRONVOLT)
def f2_40 (w_TERAHERTZ : Addr) : Addr := w_TERAHERTZ
def f2_35 (p0 : Int32) (w_ANGSTROM : Addr) (w_NANOMETRE : Addr) (w_JOULE : Addr) (w_PER_CENTIMETRE : Addr) (w_PER_SECOND : Addr) (w_ELECTRONVOLT : Addr) (w_TERAHERTZ : Addr) : Addr := if p0 = (4 : Int32) then (f2_40 w_TERAHERTZ) else (f2_44 p0 w_ANGSTROM w_NANOMETRE w_JOULE w_PER_CENTIMETRE w_PER_SECOND w_ELECTRONVOLT)
def f2_31 (w_GIGAHERTZ : Addr) : Addr := w_GIGAHERTZ
def f2_26 (p0 : Int32) (w_GIGAHERTZ : Addr) (w_ANGSTROM : Addr) (w_NANOMETRE : Addr) (w_JOULE : Addr) (w_PER_CENTIMETRE : Addr) (w_PER_SECOND : Addr) (w_ELECTRONVOLT : Addr) (w_TERAHERTZ : Addr) : Addr := if p0 = (3 : Int32) then (f2_31 w_GIGAHERTZ) else (f2_35 p0 w_ANGSTROM w_NANOMETRE w_JOULE w_PER_CENTIMETRE w_PER_SECOND w_ELECTRONVOLT w_TERAHERTZ)
def f2_22 (w_MEGAHERTZ : Addr) : Addr := w_MEGAHERTZ
def f2_17 (p0 : Int32) (w_GIGAHERTZ : Addr) (w_ANGSTROM : Addr) (w_NANOMETRE : Addr) (w_JOULE : Addr) (w_MEGAHERTZ : Addr) (w_PER_CENTIMETRE : Addr) (w_PER_SECOND : Addr) (w_ELECTRONVOLT : Addr) (w_TERAHERTZ : Addr) : Addr := if p0 = (2 : Int32) then (f2_22 w_MEGAHERTZ) else (f2_26 p0 w_GIGAHERTZ w_ANGSTROM w_NANOMETRE w_JOULE w_PER_CENTIMETRE w_PER_SECOND w_ELECTRONVOLT w_TERAHERTZ)
def f2_13 (w_KILOHERTZ : Addr) : Addr := w_KILOHERTZ
def f2_8 (p0 : Int32) (w_GIGAHERTZ : Addr) (w_KILOHERTZ : Addr) (w_ANGSTROM : Addr) (w_NANOMETRE : Addr) (w_JOULE : Addr) (w_MEGAHERTZ : Addr) (w_PER_CENTIMETRE : Addr) (w_PER_SECOND : Addr) (w_ELECTRONVOLT : Addr) (w_TERAHERTZ : Addr) : Addr := if p0 = (1 : Int32) then (f2_13 w_KILOHERTZ) else (f2_17 p0 w_GIGAHERTZ w_ANGSTROM w_NANOMETRE w_JOULE w_MEGAHERTZ w_PER_CENTIMETRE w_PER_SECOND w_ELECTRONVOLT w_TERAHERTZ)
def f2_4 (w_HERTZ : Addr) : Addr := w_HERTZ
def f2_0 (p0 : Int32) (w_HERTZ : Addr) (w_GIGAHERTZ : Addr) (w_KILOHERTZ : Addr) (w_ANGSTROM : Addr) (w_NANOMETRE : Addr) (w_JOULE : Addr) (w_MEGAHERTZ : Addr) (w_PER_CENTIMETRE : Addr) (w_PER_SECOND : Addr) (w_ELECTRONVOLT : Addr) (w_TERAHERTZ : Addr) : Addr := if p0 = (0 : Int32) then (f2_4 w_HERTZ) else (f2_8 p0 w_GIGAHERTZ w_KILOHERTZ w_ANGSTROM w_NANOMETRE w_JOULE w_MEGAHERTZ w_PER_CENTIMETRE w_PER_SECOND w_ELECTRONVOLT w_TERAHERTZ)
set_option maxRecDepth 65536 in
set_option maxHeartbeats 40000000 in
theorem rm2 (l : Launch) (Z : State) (a0 : Array Value) (hw : ∀ d ∈ tables_1, d.before a0 Z = true) (ws : List Jvm.Cond) (p0 : Int32) (w_HERTZ : Addr) (w_GIGAHERTZ : Addr) (w_KILOHERTZ : Addr) (w_ANGSTROM : Addr) (w_NANOMETRE : Addr) (w_JOULE : Addr) (w_MEGAHERTZ : Addr) (w_PER_CENTIMETRE : Addr) (w_PER_SECOND : Addr) (w_ELECTRONVOLT : Addr) (w_TERAHERTZ : Addr) (h0 : Heap) (S_HERTZ : Sta Z h0 "com/example/lattice_node/latticenode/core/Unit" "HERTZ" "Lcom/example/lattice_node/latticenode/core/Unit;" (.ref w_HERTZ)) (S_GIGAHERTZ : Sta Z h0 "com/example/lattice_node/latticenode/core/Unit" "GIGAHERTZ" "Lcom/example/lattice_node/latticenode/core/Unit;" (.ref w_GIGAHERTZ)) (S_KILOHERTZ : Sta Z h0 "com/example/lattice_node/latticenode/core/Unit" "KILOHERTZ" "Lcom/example/lattice_node/latticenode/core/Unit;" (.ref w_KILOHERTZ)) (S_ANGSTROM : Sta Z h0 "com/example/lattice_node/latticenode/core/Unit" "ANGSTROM" "Lcom/example/lattice_node/latticenode/core/Unit;" (.ref w_ANGSTROM)) (S_NANOMETRE : Sta Z h0 "com/example/lattice_node/latticenode/core/Unit" "NANOMETRE" "Lcom/example/lattice_node/latticenode/core/Unit;" (.ref w_NANOMETRE)) (S_JOULE : Sta Z h0 "com/example/lattice_node/latticenode/core/Unit" "JOULE" "Lcom/example/lattice_node/latticenode/core/Unit;" (.ref w_JOULE)) (S_MEGAHERTZ : Sta Z h0 "com/example/lattice_node/latticenode/core/Unit" "MEGAHERTZ" "Lcom/example/lattice_node/latticenode/core/Unit;" (.ref w_MEGAHERTZ)) (S_PER_CENTIMETRE : Sta Z h0 "com/example/lattice_node/latticenode/core/Unit" "PER_CENTIMETRE" "Lcom/example/lattice_node/latticenode/core/Unit;" (.ref w_PER_CENTIMETRE)) (S_PER_SECOND : Sta Z h0 "com/example/lattice_node/latticenode/core/Unit" "PER_SECOND" "Lcom/example/lattice_node/latticenode/core/Unit;" (.ref w_PER_SECOND)) (S_ELECTRONVOLT : Sta Z h0 "com/example/lattice_node/latticenode/core/Unit" "ELECTRONVOLT" "Lcom/example/lattice_node/latticenode/core/Unit;" (.ref w_ELECTRONVOLT)) (S_TERAHERTZ : Sta Z h0 "com/example/lattice_node/latticenode/core/Unit" "TERAHERTZ" "Lcom/example/lattice_node/latticenode/core/Unit;" (.ref w_TERAHERTZ)) :
    MetFree l (⟨"com/example/lattice_node/latticenode/core/UnitInvertsSpectrallyPinLaw", "unit", "(I)Lcom/example/lattice_node/latticenode/core/Unit;"⟩ : MethodName) (head1 (Jvm.Cond.code (⟨"com/example/lattice_node/latticenode/core/UnitInvertsSpectrallyPinLaw", "unit", "(I)Lcom/example/lattice_node/latticenode/core/Unit;"⟩ : MethodName) method_4_code 1 (some (.object "com/example/lattice_node/latticenode/core/Unit")) :: ws) ({ frames := 0, cells := 0, slots := 0, locals := 0 } : Room)) (fun a U => a = #[(.int p0)] ∧ Z.Warmed39 U.vm ∧ U.heap = h0) (fun _ _ _ _ _ => True) (fun _ U o U' => ∃ v L, o = .returned v ∧ (PureQ (.ref (f2_0 p0 w_HERTZ w_GIGAHERTZ w_KILOHERTZ w_ANGSTROM w_NANOMETRE w_JOULE w_MEGAHERTZ w_PER_CENTIMETRE w_PER_SECOND w_ELECTRONVOLT w_TERAHERTZ)) h0) v U'.heap L ∧ FrameEnd U o U' L ({ frames := 0, cells := 0, slots := 0, locals := 0 } : Room).cells ({ frames := 0, cells := 0, slots := 0, locals := 0 } : Room).slots) := by
  refine MetFree.of_bodySF (plainFor_of_name pn_2) hisR ?_
  intro p e s m args below meth c s₁ Bd hml0 hP hK
  obtain ⟨rfl, hZ, hh⟩ := hP
  have hx := Bd.exec
  have hby := Bd.bytes
  have hlk : meth.locks = false := BodyLoose.notSynchronized Bd
  have hml : c.maxLocals = 1 := hml0
  have hown : s.vm.findClass "com/example/lattice_node/latticenode/core/UnitInvertsSpectrallyPinLaw" = some m.cls := findClass_of_methodNamed Bd.named
  have hnm := (name_of_methodNamed Bd.named Bd.method).1
  have X0 : Stand p l e ({ frames := 0, cells := 0, slots := 0, locals := 0 } : Room) s m #[(.int p0)] below meth c s₁ ([] : List Loc) 0 0 := Stand.of_body Bd
  have e0 : s₁.heap = h0 := by rw [← hh, Bd.state]; rfl
  show Go p e below s 0 0 (PureQ (.ref (f2_0 p0 w_HERTZ w_GIGAHERTZ w_KILOHERTZ w_ANGSTROM w_NANOMETRE w_JOULE w_MEGAHERTZ w_PER_CENTIMETRE w_PER_SECOND w_ELECTRONVOLT w_TERAHERTZ)) h0) s₁ (entryFrame m #[(.int p0)] 1)
  rw [ef_2 m p0]
  refine Go.step (g' := (mkF m 1 #[.val (.int p0)] [(.int p0)])) (fun _ k => XS.iloadN X0.here hx rfl (hb hby d2_0) rfl  k) ?_
  by_cases hc1 : p0 = (0 : Int32)
  · rw [show (f2_0 p0 w_HERTZ w_GIGAHERTZ w_KILOHERTZ w_ANGSTROM w_NANOMETRE w_JOULE w_MEGAHERTZ w_PER_CENTIMETRE w_PER_SECOND w_ELECTRONVOLT w_TERAHERTZ) = (f2_4 w_HERTZ) from if_pos hc1]
    refine Go.step (g' := (mkF m 4 #[.val (.int p0)] [])) (fun _ k => XS.ifNo X0.here hx rfl (hb hby d2_1) rfl ((if0 _ _).trans (teq hc1).2) k) ?_
    obtain ⟨T1, X1, e1, st1⟩ := getS2 X0 hx hZ hown (host := "") (Or.inl (hw _ (List.mem_of_getElem? (i := 8) rfl))) Via.refl e0 S_HERTZ (g := (mkF m 4 #[.val (.int p0)] [])) rfl (hb hby d2_4)
    refine Go.step (g' := (mkF m 7 #[.val (.int p0)] [(.ref w_HERTZ)])) st1 ?_
    exact Go.retW X1 hx hlk (t := (.object "com/example/lattice_node/latticenode/core/Unit")) Bd.returns rfl (Or.inr (Or.inr (Or.inr (Or.inr ⟨rfl, rfl, rfl⟩)))) (hb hby d2_7) (by decide) (by decide) ⟨rfl, rfl, e1⟩
  · rw [show (f2_0 p0 w_HERTZ w_GIGAHERTZ w_KILOHERTZ w_ANGSTROM w_NANOMETRE w_JOULE w_MEGAHERTZ w_PER_CENTIMETRE w_PER_SECOND w_ELECTRONVOLT w_TERAHERTZ) = (f2_8 p0 w_GIGAHERTZ w_KILOHERTZ w_ANGSTROM w_NANOMETRE w_JOULE w_MEGAHERTZ w_PER_CENTIMETRE w_PER_SECOND w_ELECTRONVOLT w_TERAHERTZ) from if_neg hc1]
    refine Go.step (g' := (mkF m 8 #[.val (.int p0)] [])) (fun _ k => XS.ifYes X0.here hx rfl (pc0 := 1) (pc' := 8) rfl (hb hby d2_1) rfl ((if0 _ _).trans (feq hc1).2) (by decide) (by decide) k) ?_
    refine Go.step (g' := (mkF m 9 #[.val (.int p0)] [(.int p0)])) (fun _ k => XS.iloadN X0.here hx rfl (hb hby d2_8) rfl  k) ?_
    refine Go.step (g' := (mkF m 10 #[.val (.int p0)] [(.int (1 : Int32)), (.int p0)])) (fun _ k => XS.iconst X0.here hx rfl (hb hby d2_9) k) ?_
    by_cases hc10 : p0 = (1 : Int32)
    · rw [show (f2_8 p0 w_GIGAHERTZ w_KILOHERTZ w_ANGSTROM w_NANOMETRE w_JOULE w_MEGAHERTZ w_PER_CENTIMETRE w_PER_SECOND w_ELECTRONVOLT w_TERAHERTZ) = (f2_13 w_KILOHERTZ) from if_pos hc10]
      refine Go.step (g' := (mkF m 13 #[.val (.int p0)] [])) (fun _ k => XS.icmpNo X0.here hx rfl (hb hby d2_10) rfl (teq hc10).2 k) ?_
      obtain ⟨T2, X2, e2, st2⟩ := getS2 X0 hx hZ hown (host := "") (Or.inl (hw _ (List.mem_of_getElem? (i := 26) rfl))) Via.refl e0 S_KILOHERTZ (g := (mkF m 13 #[.val (.int p0)] [])) rfl (hb hby d2_13)
      refine Go.step (g' := (mkF m 16 #[.val (.int p0)] [(.ref w_KILOHERTZ)])) st2 ?_
      exact Go.retW X2 hx hlk (t := (.object "com/example/lattice_node/latticenode/core/Unit")) Bd.returns rfl (Or.inr (Or.inr (Or.inr (Or.inr ⟨rfl, rfl, rfl⟩)))) (hb hby d2_16) (by decide) (by decide) ⟨rfl, rfl, e2⟩
    · rw [show (f2_8 p0 w_GIGAHERTZ w_KILOHERTZ w_ANGSTROM w_NANOMETRE w_JOULE w_MEGAHERTZ w_PER_CENTIMETRE w_PER_SECOND w_ELECTRONVOLT w_TERAHERTZ) = (f2_17 p0 w_GIGAHERTZ w_ANGSTROM w_NANOMETRE w_JOULE w_MEGAHERTZ w_PER_CENTIMETRE w_PER_SECOND w_ELECTRONVOLT w_TERAHERTZ) from if_neg hc10]
      refine Go.step (g' := (mkF m 17 #[.val (.int p0)] [])) (fun _ k => XS.icmpYes X0.here hx rfl (pc0 := 10) (pc' := 17) rfl (hb hby d2_10) rfl (feq hc10).2 (by decide) (by decide) k) ?_
      refine Go.step (g' := (mkF m 18 #[.val (.int p0)] [(.int p0)])) (fun _ k => XS.iloadN X0.here hx rfl (hb hby d2_17) rfl  k) ?_
      refine Go.step (g' := (mkF m 19 #[.val (.int p0)] [(.int (2 : Int32)), (.int p0)])) (fun _ k => XS.iconst X0.here hx rfl (hb hby d2_18) k) ?_
      by_cases hc19 : p0 = (2 : Int32)
      · rw [show (f2_17 p0 w_GIGAHERTZ w_ANGSTROM w_NANOMETRE w_JOULE w_MEGAHERTZ w_PER_CENTIMETRE w_PER_SECOND w_ELECTRONVOLT w_TERAHERTZ) = (f2_22 w_MEGAHERTZ) from if_pos hc19]
        refine Go.step (g' := (mkF m 22 #[.val (.int p0)] [])) (fun _ k => XS.icmpNo X0.here hx rfl (hb hby d2_19) rfl (teq hc19).2 k) ?_
        obtain ⟨T3, X3, e3, st3⟩ := getS2 X0 hx hZ hown (host := "") (Or.inl (hw _ (List.mem_of_getElem? (i := 35) rfl))) Via.refl e0 S_MEGAHERTZ (g := (mkF m 22 #[.val (.int p0)] [])) rfl (hb hby d2_22)
        refine Go.step (g' := (mkF m 25 #[.val (.int p0)] [(.ref w_MEGAHERTZ)])) st3 ?_
        exact Go.retW X3 hx hlk (t := (.object "com/example/lattice_node/latticenode/core/Unit")) Bd.returns rfl (Or.inr (Or.inr (Or.inr (Or.inr ⟨rfl, rfl, rfl⟩)))) (hb hby d2_25) (by decide) (by decide) ⟨rfl, rfl, e3⟩
      · rw [show (f2_17 p0 w_GIGAHERTZ w_ANGSTROM w_NANOMETRE w_JOULE w_MEGAHERTZ w_PER_CENTIMETRE w_PER_SECOND w_ELECTRONVOLT w_TERAHERTZ) = (f2_26 p0 w_GIGAHERTZ w_ANGSTROM w_NANOMETRE w_JOULE w_PER_CENTIMETRE w_PER_SECOND w_ELECTRONVOLT w_TERAHERTZ) from if_neg hc19]
        refine Go.step (g' := (mkF m 26 #[.val (.int p0)] [])) (fun _ k => XS.icmpYes X0.here hx rfl (pc0 := 19) (pc' := 26) rfl (hb hby d2_19) rfl (feq hc19).2 (by decide) (by decide) k) ?_
        refine Go.step (g' := (mkF m 27 #[.val (.int p0)] [(.int p0)])) (fun _ k => XS.iloadN X0.here hx rfl (hb hby d2_26) rfl  k) ?_
        refine Go.step (g' := (mkF m 28 #[.val (.int p0)] [(.int (3 : Int32)), (.int p0)])) (fun _ k => XS.iconst X0.here hx rfl (hb hby d2_27) k) ?_
        by_cases hc28 : p0 = (3 : Int32)
        · rw [show (f2_26 p0 w_GIGAHERTZ w_ANGSTROM w_NANOMETRE w_JOULE w_PER_CENTIMETRE w_PER_SECOND w_ELECTRONVOLT w_TERAHERTZ) = (f2_31 w_GIGAHERTZ) from if_pos hc28]
          refine Go.step (g' := (mkF m 31 #[.val (.int p0)] [])) (fun _ k => XS.icmpNo X0.here hx rfl (hb hby d2_28) rfl (teq hc28).2 k) ?_
          obtain ⟨T4, X4, e4, st4⟩ := getS2 X0 hx hZ hown (host := "") (Or.inl (hw _ (List.mem_of_getElem? (i := 11) rfl))) Via.refl e0 S_GIGAHERTZ (g := (mkF m 31 #[.val (.int p0)] [])) rfl (hb hby d2_31)
          refine Go.step (g' := (mkF m 34 #[.val (.int p0)] [(.ref w_GIGAHERTZ)])) st4 ?_
          exact Go.retW X4 hx hlk (t := (.object "com/example/lattice_node/latticenode/core/Unit")) Bd.returns rfl (Or.inr (Or.inr (Or.inr (Or.inr ⟨rfl, rfl, rfl⟩)))) (hb hby d2_34) (by decide) (by decide) ⟨rfl, rfl, e4⟩
        · rw [show (f2_26 p0 w_GIGAHERTZ w_ANGSTROM w_NANOMETRE w_JOULE w_PER_CENTIMETRE w_PER_SECOND w_ELECTRONVOLT w_TERAHERTZ) = (f2_35 p0 w_ANGSTROM w_NANOMETRE w_JOULE w_PER_CENTIMETRE w_PER_SECOND w_ELECTRONVOLT w_TERAHERTZ) from if_neg hc28]
          refine Go.step (g' := (mkF m 35 #[.val (.int p0)] [])) (fun _ k => XS.icmpYes X0.here hx rfl (pc0 := 28) (pc' := 35) rfl (hb hby d2_28) rfl (feq hc28).2 (by decide) (by decide) k) ?_
          refine Go.step (g' := (mkF m 36 #[.val (.int p0)] [(.int p0)])) (fun _ k => XS.iloadN X0.here hx rfl (hb hby d2_35) rfl  k) ?_
          refine Go.step (g' := (mkF m 37 #[.val (.int p0)] [(.int (4 : Int32)), (.int p0)])) (fun _ k => XS.iconst X0.here hx rfl (hb hby d2_36) k) ?_
          by_cases hc37 : p0 = (4 : Int32)
          · rw [show (f2_35 p0 w_ANGSTROM w_NANOMETRE w_JOULE w_PER_CENTIMETRE w_PER_SECOND w_ELECTRONVOLT w_TERAHERTZ) = (f2_40 w_TERAHERTZ) from if_pos hc37]
            refine Go.step (g' := (mkF m 40 #[.val (.int p0)] [])) (fun _ k => XS.icmpNo X0.here hx rfl (hb hby d2_37) rfl (teq hc37).2 k) ?_
            obtain ⟨T5, X5, e5, st5⟩ := getS2 X0 hx hZ hown (host := "") (Or.inl (hw _ (List.mem_of_getElem? (i := 45) rfl))) Via.refl e0 S_TERAHERTZ (g := (mkF m 40 #[.val (.int p0)] [])) rfl (hb hby d2_40)
            refine Go.step (g' := (mkF m 43 #[.val (.int p0)] [(.ref w_TERAHERTZ)])) st5 ?_
            exact Go.retW X5 hx hlk (t := (.object "com/example/lattice_node/latticenode/core/Unit")) Bd.returns rfl (Or.inr (Or.inr (Or.inr (Or.inr ⟨rfl, rfl, rfl⟩)))) (hb hby d2_43) (by decide) (by decide) ⟨rfl, rfl, e5⟩
          · rw [show (f2_35 p0 w_ANGSTROM w_NANOMETRE w_JOULE w_PER_CENTIMETRE w_PER_SECOND w_ELECTRONVOLT w_TERAHERTZ) = (f2_44 p0 w_ANGSTROM w_NANOMETRE w_JOULE w_PER_CENTIMETRE w_PER_SECOND w_ELECTRONVOLT) from if_neg hc37]
            refine Go.step (g' := (mkF m 44 #[.val (.int p0)] [])) (fun _ k => XS.icmpYes X0.here hx rfl (pc0 := 37) (pc' := 44) rfl (hb hby d2_37) rfl (feq hc37).2 (by decide) (by decide) k) ?_
            refine Go.step (g' := (mkF m 45 #[.val (.int p0)] [(.int p0)])) (fun _ k => XS.iloadN X0.here hx rfl (hb hby d2_44) rfl  k) ?_
            refine Go.step (g' := (mkF m 46 #[.val (.int p0)] [(.int (5 : Int32)), (.int p0)])) (fun _ k => XS.iconst X0.here hx rfl (hb hby d2_45) k) ?_
            by_cases hc46 : p0 = (5 : Int32)
            · rw [show (f2_44 p0 w_ANGSTROM w_NANOMETRE w_JOULE w_PER_CENTIMETRE w_PER_SECOND w_ELECTRONVOLT) = (f2_49 w_JOULE) from if_pos hc46]
              refine Go.step (g' := (mkF m 49 #[.val (.int p0)] [])) (fun _ k => XS.icmpNo X0.here hx rfl (hb hby d2_46) rfl (teq hc46).2 k) ?_
              obtain ⟨T6, X6, e6, st6⟩ := getS2 X0 hx hZ hown (host := "") (Or.inl (hw _ (List.mem_of_getElem? (i := 33) rfl))) Via.refl e0 S_JOULE (g := (mkF m 49 #[.val (.int p0)] [])) rfl (hb hby d2_49)
              refine Go.step (g' := (mkF m 52 #[.val (.int p0)] [(.ref w_JOULE)])) st6 ?_
              exact Go.retW X6 hx hlk (t := (.object "com/example/lattice_node/latticenode/core/Unit")) Bd.returns rfl (Or.inr (Or.inr (Or.inr (Or.inr ⟨rfl, rfl, rfl⟩)))) (hb hby d2_52) (by decide) (by decide) ⟨rfl, rfl, e6⟩
            · rw [show (f2_44 p0 w_ANGSTROM w_NANOMETRE w_JOULE w_PER_CENTIMETRE w_PER_SECOND w_ELECTRONVOLT) = (f2_53 p0 w_ANGSTROM w_NANOMETRE w_PER_CENTIMETRE w_PER_SECOND w_ELECTRONVOLT) from if_neg hc46]
              refine Go.step (g' := (mkF m 53 #[.val (.int p0)] [])) (fun _ k => XS.icmpYes X0.here hx rfl (pc0 := 46) (pc' := 53) rfl (hb hby d2_46) rfl (feq hc46).2 (by decide) (by decide) k) ?_
              refine Go.step (g' := (mkF m 54 #[.val (.int p0)] [(.int p0)])) (fun _ k => XS.iloadN X0.here hx rfl (hb hby d2_53) rfl  k) ?_
              refine Go.step (g' := (mkF m 56 #[.val (.int p0)] [(.int (6 : Int32)), (.int p0)])) (fun _ k => XS.bipush X0.here hx rfl (hb hby d2_54) k) ?_
              by_cases hc56 : p0 = (6 : Int32)
              · rw [show (f2_53 p0 w_ANGSTROM w_NANOMETRE w_PER_CENTIMETRE w_PER_SECOND w_ELECTRONVOLT) = (f2_59 w_PER_CENTIMETRE) from if_pos hc56]
                refine Go.step (g' := (mkF m 59 #[.val (.int p0)] [])) (fun _ k => XS.icmpNo X0.here hx rfl (hb hby d2_56) rfl (teq hc56).2 k) ?_
                obtain ⟨T7, X7, e7, st7⟩ := getS2 X0 hx hZ hown (host := "") (Or.inl (hw _ (List.mem_of_getElem? (i := 38) rfl))) Via.refl e0 S_PER_CENTIMETRE (g := (mkF m 59 #[.val (.int p0)] [])) rfl (hb hby d2_59)
                refine Go.step (g' := (mkF m 62 #[.val (.int p0)] [(.ref w_PER_CENTIMETRE)])) st7 ?_
                exact Go.retW X7 hx hlk (t := (.object "com/example/lattice_node/latticenode/core/Unit")) Bd.returns rfl (Or.inr (Or.inr (Or.inr (Or.inr ⟨rfl, rfl, rfl⟩)))) (hb hby d2_62) (by decide) (by decide) ⟨rfl, rfl, e7⟩
              · rw [show (f2_53 p0 w_ANGSTROM w_NANOMETRE w_PER_CENTIMETRE w_PER_SECOND w_ELECTRONVOLT) = (f2_63 p0 w_ANGSTROM w_NANOMETRE w_PER_SECOND w_ELECTRONVOLT) from if_neg hc56]
                refine Go.step (g' := (mkF m 63 #[.val (.int p0)] [])) (fun _ k => XS.icmpYes X0.here hx rfl (pc0 := 56) (pc' := 63) rfl (hb hby d2_56) rfl (feq hc56).2 (by decide) (by decide) k) ?_
                refine Go.step (g' := (mkF m 64 #[.val (.int p0)] [(.int p0)])) (fun _ k => XS.iloadN X0.here hx rfl (hb hby d2_63) rfl  k) ?_
                refine Go.step (g' := (mkF m 66 #[.val (.int p0)] [(.int (7 : Int32)), (.int p0)])) (fun _ k => XS.bipush X0.here hx rfl (hb hby d2_64) k) ?_
                by_cases hc66 : p0 = (7 : Int32)
                · rw [show (f2_63 p0 w_ANGSTROM w_NANOMETRE w_PER_SECOND w_ELECTRONVOLT) = (f2_69 w_ELECTRONVOLT) from if_pos hc66]
                  refine Go.step (g' := (mkF m 69 #[.val (.int p0)] [])) (fun _ k => XS.icmpNo X0.here hx rfl (hb hby d2_66) rfl (teq hc66).2 k) ?_
                  obtain ⟨T8, X8, e8, st8⟩ := getS2 X0 hx hZ hown (host := "") (Or.inl (hw _ (List.mem_of_getElem? (i := 43) rfl))) Via.refl e0 S_ELECTRONVOLT (g := (mkF m 69 #[.val (.int p0)] [])) rfl (hb hby d2_69)
                  refine Go.step (g' := (mkF m 72 #[.val (.int p0)] [(.ref w_ELECTRONVOLT)])) st8 ?_
                  exact Go.retW X8 hx hlk (t := (.object "com/example/lattice_node/latticenode/core/Unit")) Bd.returns rfl (Or.inr (Or.inr (Or.inr (Or.inr ⟨rfl, rfl, rfl⟩)))) (hb hby d2_72) (by decide) (by decide) ⟨rfl, rfl, e8⟩
                · rw [show (f2_63 p0 w_ANGSTROM w_NANOMETRE w_PER_SECOND w_ELECTRONVOLT) = (f2_73 p0 w_ANGSTROM w_NANOMETRE w_PER_SECOND) from if_neg hc66]
                  refine Go.step (g' := (mkF m 73 #[.val (.int p0)] [])) (fun _ k => XS.icmpYes X0.here hx rfl (pc0 := 66) (pc' := 73) rfl (hb hby d2_66) rfl (feq hc66).2 (by decide) (by decide) k) ?_
                  refine Go.step (g' := (mkF m 74 #[.val (.int p0)] [(.int p0)])) (fun _ k => XS.iloadN X0.here hx rfl (hb hby d2_73) rfl  k) ?_
                  refine Go.step (g' := (mkF m 76 #[.val (.int p0)] [(.int (8 : Int32)), (.int p0)])) (fun _ k => XS.bipush X0.here hx rfl (hb hby d2_74) k) ?_
                  by_cases hc76 : p0 = (8 : Int32)
                  · rw [show (f2_73 p0 w_ANGSTROM w_NANOMETRE w_PER_SECOND) = (f2_79 w_PER_SECOND) from if_pos hc76]
                    refine Go.step (g' := (mkF m 79 #[.val (.int p0)] [])) (fun _ k => XS.icmpNo X0.here hx rfl (hb hby d2_76) rfl (teq hc76).2 k) ?_
                    obtain ⟨T9, X9, e9, st9⟩ := getS2 X0 hx hZ hown (host := "") (Or.inl (hw _ (List.mem_of_getElem? (i := 40) rfl))) Via.refl e0 S_PER_SECOND (g := (mkF m 79 #[.val (.int p0)] [])) rfl (hb hby d2_79)
                    refine Go.step (g' := (mkF m 82 #[.val (.int p0)] [(.ref w_PER_SECOND)])) st9 ?_
                    exact Go.retW X9 hx hlk (t := (.object "com/example/lattice_node/latticenode/core/Unit")) Bd.returns rfl (Or.inr (Or.inr (Or.inr (Or.inr ⟨rfl, rfl, rfl⟩)))) (hb hby d2_82) (by decide) (by decide) ⟨rfl, rfl, e9⟩
                  · rw [show (f2_73 p0 w_ANGSTROM w_NANOMETRE w_PER_SECOND) = (f2_83 p0 w_ANGSTROM w_NANOMETRE) from if_neg hc76]
                    refine Go.step (g' := (mkF m 83 #[.val (.int p0)] [])) (fun _ k => XS.icmpYes X0.here hx rfl (pc0 := 76) (pc' := 83) rfl (hb hby d2_76) rfl (feq hc76).2 (by decide) (by decide) k) ?_
                    refine Go.step (g' := (mkF m 84 #[.val (.int p0)] [(.int p0)])) (fun _ k => XS.iloadN X0.here hx rfl (hb hby d2_83) rfl  k) ?_
                    refine Go.step (g' := (mkF m 86 #[.val (.int p0)] [(.int (9 : Int32)), (.int p0)])) (fun _ k => XS.bipush X0.here hx rfl (hb hby d2_84) k) ?_
                    by_cases hc86 : p0 = (9 : Int32)
                    · rw [show (f2_83 p0 w_ANGSTROM w_NANOMETRE) = (f2_89 w_ANGSTROM) from if_pos hc86]
                      refine Go.step (g' := (mkF m 89 #[.val (.int p0)] [])) (fun _ k => XS.icmpNo X0.here hx rfl (hb hby d2_86) rfl (teq hc86).2 k) ?_
                      obtain ⟨T10, X10, e10, st10⟩ := getS2 X0 hx hZ hown (host := "") (Or.inl (hw _ (List.mem_of_getElem? (i := 28) rfl))) Via.refl e0 S_ANGSTROM (g := (mkF m 89 #[.val (.int p0)] [])) rfl (hb hby d2_89)
                      refine Go.step (g' := (mkF m 92 #[.val (.int p0)] [(.ref w_ANGSTROM)])) st10 ?_
                      exact Go.retW X10 hx hlk (t := (.object "com/example/lattice_node/latticenode/core/Unit")) Bd.returns rfl (Or.inr (Or.inr (Or.inr (Or.inr ⟨rfl, rfl, rfl⟩)))) (hb hby d2_92) (by decide) (by decide) ⟨rfl, rfl, e10⟩
                    · rw [show (f2_83 p0 w_ANGSTROM w_NANOMETRE) = (f2_93 w_NANOMETRE) from if_neg hc86]
                      refine Go.step (g' := (mkF m 93 #[.val (.int p0)] [])) (fun _ k => XS.icmpYes X0.here hx rfl (pc0 := 86) (pc' := 93) rfl (hb hby d2_86) rfl (feq hc86).2 (by decide) (by decide) k) ?_
                      obtain ⟨T11, X11, e11, st11⟩ := getS2 X0 hx hZ hown (host := "") (Or.inl (hw _ (List.mem_of_getElem? (i := 30) rfl))) Via.refl e0 S_NANOMETRE (g := (mkF m 93 #[.val (.int p0)] [])) rfl (hb hby d2_93)
                      refine Go.step (g' := (mkF m 96 #[.val (.int p0)] [(.ref w_NANOMETRE)])) st11 ?_
                      exact Go.retW X11 hx hlk (t := (.object "com/example/lattice_node/latticenode/core/Unit")) Bd.returns rfl (Or.inr (Or.inr (Or.inr (Or.inr ⟨rfl, rfl, rfl⟩)))) (hb hby d2_96) (by decide) (by decide) ⟨rfl, rfl, e11⟩
theorem d3_0 : decode prog_18_method_10_code 0 = .ok (.aload_n 0, 1) := by decide +kernel
theorem d3_1 : decode prog_18_method_10_code 1 = .ok (.getfield 60, 3) := by decide +kernel
theorem d3_4 : decode prog_18_method_10_code 4 = .ok (.getfield 132, 3) := by decide +kernel
theorem d3_7 : decode prog_18_method_10_code 7 = .ok (.ifnull 34, 3) := by decide +kernel
theorem d3_10 : decode prog_18_method_10_code 10 = .ok (.aload_n 1, 1) := by decide +kernel
theorem d3_11 : decode prog_18_method_10_code 11 = .ok (.getfield 60, 3) := by decide +kernel
theorem d3_14 : decode prog_18_method_10_code 14 = .ok (.getfield 132, 3) := by decide +kernel
theorem d3_17 : decode prog_18_method_10_code 17 = .ok (.ifnull 24, 3) := by decide +kernel
theorem d3_20 : decode prog_18_method_10_code 20 = .ok (.aload_n 0, 1) := by decide +kernel
theorem d3_21 : decode prog_18_method_10_code 21 = .ok (.getfield 60, 3) := by decide +kernel
theorem d3_24 : decode prog_18_method_10_code 24 = .ok (.getfield 158, 3) := by decide +kernel
theorem d3_27 : decode prog_18_method_10_code 27 = .ok (.aload_n 1, 1) := by decide +kernel
theorem d3_28 : decode prog_18_method_10_code 28 = .ok (.getfield 60, 3) := by decide +kernel
theorem d3_31 : decode prog_18_method_10_code 31 = .ok (.getfield 158, 3) := by decide +kernel
theorem d3_34 : decode prog_18_method_10_code 34 = .ok (.if_icmp .eq 7, 3) := by decide +kernel
theorem d3_37 : decode prog_18_method_10_code 37 = .ok (.iconst 1, 1) := by decide +kernel
theorem d3_38 : decode prog_18_method_10_code 38 = .ok (.goto 4, 3) := by decide +kernel
theorem d3_41 : decode prog_18_method_10_code 41 = .ok (.iconst 0, 1) := by decide +kernel
theorem d3_42 : decode prog_18_method_10_code 42 = .ok (.ireturn, 1) := by decide +kernel
theorem pn_3 : plainName "com/example/lattice_node/latticenode/core/Unit" = true := by first | (simp [plainName, overriddenIn]; done) | decide +kernel
theorem ef_3 (m : MethodId) (o0 : Addr) (o1 : Addr) : entryFrame m #[(.ref o0), (.ref o1)] 2 = mkF m 0 #[.val (.ref o0), .val (.ref o1)] [] := by first | (simp [entryFrame, mkF, argsToLocals, Value.category]; done) | rfl
def f3_42 (v42_s0 : Int32) : Int32 := (nar .boolean v42_s0)
def f3_41 : Int32 := (f3_42 (0 : Int32))
def f3_37 : Int32 := (f3_42 (1 : Int32))
def f3_20 (o0 : Addr) (o1 : Addr) (gq : Addr → Addr) (gi : Addr → Int32) : Int32 := if (gi (gq o0)) = (gi (gq o1)) then f3_41 else f3_37
def f3_10 (o0 : Addr) (o1 : Addr) (gq : Addr → Addr) (gp : Addr → Value) (gi : Addr → Int32) : Int32 := if (gp (gq o1)) = .null then f3_41 else (f3_20 o0 o1 gq gi)
def f3_0 (o0 : Addr) (o1 : Addr) (gq : Addr → Addr) (gp : Addr → Value) (gi : Addr → Int32) : Int32 := if (gp (gq o0)) = .null then f3_41 else (f3_10 o0 o1 gq gp gi)
set_option maxRecDepth 65536 in
set_option maxHeartbeats 40000000 in
theorem rm3 (l : Launch) (Z : State) (a0 : Array Value) (hw : ∀ d ∈ tables_1, d.before a0 Z = true) (ws : List Jvm.Cond) (o0 : Addr) (o1 : Addr) (gq : Addr → Addr) (gp : Addr → Value) (gi : Addr → Int32) (h0 : Heap) (U0 : OkU Z h0 gq gp gi o0) (U1 : OkU Z h0 gq gp gi o1) :
    MetFree l (⟨"com/example/lattice_node/latticenode/core/Unit", "invertsSpectrally", "(Lcom/example/lattice_node/latticenode/core/Unit;)Z"⟩ : MethodName) (head1 (Jvm.Cond.code (⟨"com/example/lattice_node/latticenode/core/Unit", "invertsSpectrally", "(Lcom/example/lattice_node/latticenode/core/Unit;)Z"⟩ : MethodName) prog_18_method_10_code 2 (some .boolean) :: ws) ({ frames := 0, cells := 0, slots := 0, locals := 0 } : Room)) (fun a U => a = #[(.ref o0), (.ref o1)] ∧ Z.Warmed39 U.vm ∧ U.heap = h0) (fun _ _ _ _ _ => True) (fun _ U o U' => ∃ v L, o = .returned v ∧ (PureQ (.int (f3_0 o0 o1 gq gp gi)) h0) v U'.heap L ∧ FrameEnd U o U' L ({ frames := 0, cells := 0, slots := 0, locals := 0 } : Room).cells ({ frames := 0, cells := 0, slots := 0, locals := 0 } : Room).slots) := by
  refine MetFree.of_bodySF (plainFor_of_name pn_3) hisR ?_
  intro p e s m args below meth c s₁ Bd hml0 hP hK
  obtain ⟨rfl, hZ, hh⟩ := hP
  have hx := Bd.exec
  have hby := Bd.bytes
  have hlk : meth.locks = false := BodyLoose.notSynchronized Bd
  have hml : c.maxLocals = 2 := hml0
  have hown : s.vm.findClass "com/example/lattice_node/latticenode/core/Unit" = some m.cls := findClass_of_methodNamed Bd.named
  have hnm := (name_of_methodNamed Bd.named Bd.method).1
  have X0 : Stand p l e ({ frames := 0, cells := 0, slots := 0, locals := 0 } : Room) s m #[(.ref o0), (.ref o1)] below meth c s₁ ([] : List Loc) 0 0 := Stand.of_body Bd
  have e0 : s₁.heap = h0 := by rw [← hh, Bd.state]; rfl
  show Go p e below s 0 0 (PureQ (.int (f3_0 o0 o1 gq gp gi)) h0) s₁ (entryFrame m #[(.ref o0), (.ref o1)] 2)
  rw [ef_3 m o0 o1]
  refine Go.step (g' := (mkF m 1 #[.val (.ref o0), .val (.ref o1)] [(.ref o0)])) (fun _ k => XS.aloadN X0.here hx rfl (hb hby d3_0) rfl rfl  k) ?_
  obtain ⟨T1, X1, e1, st1⟩ := getF X0 hx hZ hown (host := "") (Or.inl (hw _ (List.mem_of_getElem? (i := 18) rfl))) Via.refl e0 U0.2.1 (g := (mkF m 1 #[.val (.ref o0), .val (.ref o1)] [(.ref o0)])) rfl rfl (hb hby d3_1)
  refine Go.step (g' := (mkF m 4 #[.val (.ref o0), .val (.ref o1)] [(.ref (gq o0))])) st1 ?_
  refine Go.step (g' := (mkF m 7 #[.val (.ref o0), .val (.ref o1)] [(gp (gq o0))])) (fun _ k => own_getR X1 hx hZ hown (hw _ (List.mem_of_getElem? (i := 22) rfl)) e1 U0.2.2.1 (g := (mkF m 4 #[.val (.ref o0), .val (.ref o1)] [(.ref (gq o0))])) rfl rfl (hb hby d3_4) _ k) ?_
  have t42 : ∀ (T_42 : State) (X_42 : Stand p l e ({ frames := 0, cells := 0, slots := 0, locals := 0 } : Room) s m #[(.ref o0), (.ref o1)] below meth c T_42 ([] : List Loc) 0 0) (e_42 : T_42.heap = h0) (v42_s0 : Int32), Go p e below s 0 0 (PureQ (.int (f3_42 v42_s0)) h0) T_42 (mkF m 42 #[.val (.ref o0), .val (.ref o1)] [(.int v42_s0)]) := by
    intro T_42 X_42 e_42 v42_s0
    exact Go.retN X_42 hx hlk (t := .boolean) Bd.returns (by simp) (hb hby d3_42) (by decide) (by decide) ⟨rfl, rfl, e_42⟩
  have t41 : ∀ (T_41 : State) (X_41 : Stand p l e ({ frames := 0, cells := 0, slots := 0, locals := 0 } : Room) s m #[(.ref o0), (.ref o1)] below meth c T_41 ([] : List Loc) 0 0) (e_41 : T_41.heap = h0), Go p e below s 0 0 (PureQ (.int f3_41) h0) T_41 (mkF m 41 #[.val (.ref o0), .val (.ref o1)] []) := by
    intro T_41 X_41 e_41
    refine Go.step (g' := (mkF m 42 #[.val (.ref o0), .val (.ref o1)] [(.int (0 : Int32))])) (fun _ k => XS.iconst X_41.here hx rfl (hb hby d3_41) k) ?_
    rw [show f3_41 = (f3_42 (0 : Int32)) from rfl]
    exact t42 T_41 X_41 e_41 (0 : Int32)
  by_cases hc7 : (gp (gq o0)) = .null
  · rw [show (f3_0 o0 o1 gq gp gi) = f3_41 from if_pos hc7]
    refine Go.step (g' := (mkF m 41 #[.val (.ref o0), .val (.ref o1)] [])) (fun _ k => own_ifnullYes X1.here hx rfl (pc0 := 7) (pc' := 41) rfl (hb hby d3_7) rfl hc7 (by decide) (by decide) k) ?_
    exact t41 T1 X1 e1
  · rw [show (f3_0 o0 o1 gq gp gi) = (f3_10 o0 o1 gq gp gi) from if_neg hc7]
    refine Go.step (g' := (mkF m 10 #[.val (.ref o0), .val (.ref o1)] [])) (fun _ k => own_ifnullNo X1.here hx rfl (hb hby d3_7) rfl U0.2.2.2.1 hc7 k) ?_
    refine Go.step (g' := (mkF m 11 #[.val (.ref o0), .val (.ref o1)] [(.ref o1)])) (fun _ k => XS.aloadN X1.here hx rfl (hb hby d3_10) rfl rfl  k) ?_
    obtain ⟨T2, X2, e2, st2⟩ := getF X1 hx hZ hown (host := "") (Or.inl (hw _ (List.mem_of_getElem? (i := 18) rfl))) Via.refl e1 U1.2.1 (g := (mkF m 11 #[.val (.ref o0), .val (.ref o1)] [(.ref o1)])) rfl rfl (hb hby d3_11)
    refine Go.step (g' := (mkF m 14 #[.val (.ref o0), .val (.ref o1)] [(.ref (gq o1))])) st2 ?_
    refine Go.step (g' := (mkF m 17 #[.val (.ref o0), .val (.ref o1)] [(gp (gq o1))])) (fun _ k => own_getR X2 hx hZ hown (hw _ (List.mem_of_getElem? (i := 22) rfl)) e2 U1.2.2.1 (g := (mkF m 14 #[.val (.ref o0), .val (.ref o1)] [(.ref (gq o1))])) rfl rfl (hb hby d3_14) _ k) ?_
    by_cases hc17 : (gp (gq o1)) = .null
    · rw [show (f3_10 o0 o1 gq gp gi) = f3_41 from if_pos hc17]
      refine Go.step (g' := (mkF m 41 #[.val (.ref o0), .val (.ref o1)] [])) (fun _ k => own_ifnullYes X2.here hx rfl (pc0 := 17) (pc' := 41) rfl (hb hby d3_17) rfl hc17 (by decide) (by decide) k) ?_
      exact t41 T2 X2 e2
    · rw [show (f3_10 o0 o1 gq gp gi) = (f3_20 o0 o1 gq gi) from if_neg hc17]
      refine Go.step (g' := (mkF m 20 #[.val (.ref o0), .val (.ref o1)] [])) (fun _ k => own_ifnullNo X2.here hx rfl (hb hby d3_17) rfl U1.2.2.2.1 hc17 k) ?_
      refine Go.step (g' := (mkF m 21 #[.val (.ref o0), .val (.ref o1)] [(.ref o0)])) (fun _ k => XS.aloadN X2.here hx rfl (hb hby d3_20) rfl rfl  k) ?_
      obtain ⟨T3, X3, e3, st3⟩ := getF X2 hx hZ hown (host := "") (Or.inl (hw _ (List.mem_of_getElem? (i := 18) rfl))) Via.refl e2 U0.2.1 (g := (mkF m 21 #[.val (.ref o0), .val (.ref o1)] [(.ref o0)])) rfl rfl (hb hby d3_21)
      refine Go.step (g' := (mkF m 24 #[.val (.ref o0), .val (.ref o1)] [(.ref (gq o0))])) st3 ?_
      refine Go.step (g' := (mkF m 27 #[.val (.ref o0), .val (.ref o1)] [(.int (gi (gq o0)))])) (fun _ k => own_getR X3 hx hZ hown (hw _ (List.mem_of_getElem? (i := 24) rfl)) e3 U0.2.2.2.2 (g := (mkF m 24 #[.val (.ref o0), .val (.ref o1)] [(.ref (gq o0))])) rfl rfl (hb hby d3_24) _ k) ?_
      refine Go.step (g' := (mkF m 28 #[.val (.ref o0), .val (.ref o1)] [(.ref o1), (.int (gi (gq o0)))])) (fun _ k => XS.aloadN X3.here hx rfl (hb hby d3_27) rfl rfl  k) ?_
      obtain ⟨T4, X4, e4, st4⟩ := getF X3 hx hZ hown (host := "") (Or.inl (hw _ (List.mem_of_getElem? (i := 18) rfl))) Via.refl e3 U1.2.1 (g := (mkF m 28 #[.val (.ref o0), .val (.ref o1)] [(.ref o1), (.int (gi (gq o0)))])) rfl rfl (hb hby d3_28)
      refine Go.step (g' := (mkF m 31 #[.val (.ref o0), .val (.ref o1)] [(.ref (gq o1)), (.int (gi (gq o0)))])) st4 ?_
      refine Go.step (g' := (mkF m 34 #[.val (.ref o0), .val (.ref o1)] [(.int (gi (gq o1))), (.int (gi (gq o0)))])) (fun _ k => own_getR X4 hx hZ hown (hw _ (List.mem_of_getElem? (i := 24) rfl)) e4 U1.2.2.2.2 (g := (mkF m 31 #[.val (.ref o0), .val (.ref o1)] [(.ref (gq o1)), (.int (gi (gq o0)))])) rfl rfl (hb hby d3_31) _ k) ?_
      by_cases hc34 : (gi (gq o0)) = (gi (gq o1))
      · rw [show (f3_20 o0 o1 gq gi) = f3_41 from if_pos hc34]
        refine Go.step (g' := (mkF m 41 #[.val (.ref o0), .val (.ref o1)] [])) (fun _ k => XS.icmpYes X4.here hx rfl (pc0 := 34) (pc' := 41) rfl (hb hby d3_34) rfl (teq hc34).1 (by decide) (by decide) k) ?_
        exact t41 T4 X4 e4
      · rw [show (f3_20 o0 o1 gq gi) = f3_37 from if_neg hc34]
        refine Go.step (g' := (mkF m 37 #[.val (.ref o0), .val (.ref o1)] [])) (fun _ k => XS.icmpNo X4.here hx rfl (hb hby d3_34) rfl (feq hc34).1 k) ?_
        refine Go.step (g' := (mkF m 38 #[.val (.ref o0), .val (.ref o1)] [(.int (1 : Int32))])) (fun _ k => XS.iconst X4.here hx rfl (hb hby d3_37) k) ?_
        refine Go.step (g' := (mkF m 42 #[.val (.ref o0), .val (.ref o1)] [(.int (1 : Int32))])) (fun _ k => XS.goto X4.here hx rfl (pc0 := 38) (pc' := 42) rfl (hb hby d3_38) (by decide) (by decide) k) ?_
        rw [show f3_37 = (f3_42 (1 : Int32)) from rfl]
        exact t42 T4 X4 e4 (1 : Int32)
theorem own_unit {P : Addr → Prop} (p0 : Int32) (w_HERTZ : Addr) (w_GIGAHERTZ : Addr) (w_KILOHERTZ : Addr) (w_ANGSTROM : Addr) (w_NANOMETRE : Addr) (w_JOULE : Addr) (w_MEGAHERTZ : Addr) (w_PER_CENTIMETRE : Addr) (w_PER_SECOND : Addr) (w_ELECTRONVOLT : Addr) (w_TERAHERTZ : Addr) (h_w_HERTZ : P w_HERTZ) (h_w_GIGAHERTZ : P w_GIGAHERTZ) (h_w_KILOHERTZ : P w_KILOHERTZ) (h_w_ANGSTROM : P w_ANGSTROM) (h_w_NANOMETRE : P w_NANOMETRE) (h_w_JOULE : P w_JOULE) (h_w_MEGAHERTZ : P w_MEGAHERTZ) (h_w_PER_CENTIMETRE : P w_PER_CENTIMETRE) (h_w_PER_SECOND : P w_PER_SECOND) (h_w_ELECTRONVOLT : P w_ELECTRONVOLT) (h_w_TERAHERTZ : P w_TERAHERTZ) : P (f2_0 p0 w_HERTZ w_GIGAHERTZ w_KILOHERTZ w_ANGSTROM w_NANOMETRE w_JOULE w_MEGAHERTZ w_PER_CENTIMETRE w_PER_SECOND w_ELECTRONVOLT w_TERAHERTZ) := by
  simp only [f2_93, f2_89, f2_83, f2_79, f2_73, f2_69, f2_63, f2_59, f2_53, f2_49, f2_44, f2_40, f2_35, f2_31, f2_26, f2_22, f2_17, f2_13, f2_8, f2_4, f2_0]
  (repeat' split) <;> assumption
theorem pn_0 : plainName "com/example/lattice_node/latticenode/core/UnitInvertsSpectrallyPinLaw" = true := by first | (simp [plainName, overriddenIn]; done) | decide +kernel
theorem ef_0 (m : MethodId) (p0 : Int32) (p1 : Int32) : entryFrame m #[(.int p0), (.int p1)] maxLocals = mkF m 0 #[.val (.int p0), .val (.int p1), .unset, .unset, .unset, .unset, .unset] [] := by first | (simp [entryFrame, mkF, argsToLocals, Value.category, maxLocals]; done) | rfl
def f0_93 (v93_s0 : Int32) : Int32 := (nar .boolean v93_s0)
def f0_92 : Int32 := (f0_93 (0 : Int32))
def f0_88 : Int32 := (f0_93 (1 : Int32))
def f0_70 (p0 : Int32) (p1 : Int32) (w_HERTZ : Addr) (w_GIGAHERTZ : Addr) (w_KILOHERTZ : Addr) (w_ANGSTROM : Addr) (w_NANOMETRE : Addr) (w_JOULE : Addr) (w_MEGAHERTZ : Addr) (w_PER_CENTIMETRE : Addr) (w_PER_SECOND : Addr) (w_ELECTRONVOLT : Addr) (w_TERAHERTZ : Addr) (gq : Addr → Addr) (gp : Addr → Value) (gi : Addr → Int32) (v70_s0 : Int32) : Int32 := if (f3_0 (f2_0 ((p0 &&& (2147483647 : Int32)) % (11 : Int32)) w_HERTZ w_GIGAHERTZ w_KILOHERTZ w_ANGSTROM w_NANOMETRE w_JOULE w_MEGAHERTZ w_PER_CENTIMETRE w_PER_SECOND w_ELECTRONVOLT w_TERAHERTZ) (f2_0 ((p1 &&& (2147483647 : Int32)) % (11 : Int32)) w_HERTZ w_GIGAHERTZ w_KILOHERTZ w_ANGSTROM w_NANOMETRE w_JOULE w_MEGAHERTZ w_PER_CENTIMETRE w_PER_SECOND w_ELECTRONVOLT w_TERAHERTZ) gq gp gi) = v70_s0 then f0_88 else f0_92
def f0_69 (p0 : Int32) (p1 : Int32) (w_HERTZ : Addr) (w_GIGAHERTZ : Addr) (w_KILOHERTZ : Addr) (w_ANGSTROM : Addr) (w_NANOMETRE : Addr) (w_JOULE : Addr) (w_MEGAHERTZ : Addr) (w_PER_CENTIMETRE : Addr) (w_PER_SECOND : Addr) (w_ELECTRONVOLT : Addr) (w_TERAHERTZ : Addr) (gq : Addr → Addr) (gp : Addr → Value) (gi : Addr → Int32) : Int32 := (f0_70 p0 p1 w_HERTZ w_GIGAHERTZ w_KILOHERTZ w_ANGSTROM w_NANOMETRE w_JOULE w_MEGAHERTZ w_PER_CENTIMETRE w_PER_SECOND w_ELECTRONVOLT w_TERAHERTZ gq gp gi (0 : Int32))
def f0_65 (p0 : Int32) (p1 : Int32) (w_HERTZ : Addr) (w_GIGAHERTZ : Addr) (w_KILOHERTZ : Addr) (w_ANGSTROM : Addr) (w_NANOMETRE : Addr) (w_JOULE : Addr) (w_MEGAHERTZ : Addr) (w_PER_CENTIMETRE : Addr) (w_PER_SECOND : Addr) (w_ELECTRONVOLT : Addr) (w_TERAHERTZ : Addr) (gq : Addr → Addr) (gp : Addr → Value) (gi : Addr → Int32) : Int32 := (f0_70 p0 p1 w_HERTZ w_GIGAHERTZ w_KILOHERTZ w_ANGSTROM w_NANOMETRE w_JOULE w_MEGAHERTZ w_PER_CENTIMETRE w_PER_SECOND w_ELECTRONVOLT w_TERAHERTZ gq gp gi (1 : Int32))
def f0_62 (p0 : Int32) (p1 : Int32) (w_HERTZ : Addr) (w_GIGAHERTZ : Addr) (w_KILOHERTZ : Addr) (w_ANGSTROM : Addr) (w_NANOMETRE : Addr) (w_JOULE : Addr) (w_MEGAHERTZ : Addr) (w_PER_CENTIMETRE : Addr) (w_PER_SECOND : Addr) (w_ELECTRONVOLT : Addr) (w_TERAHERTZ : Addr) (gq : Addr → Addr) (gp : Addr → Value) (gi : Addr → Int32) (v51_s0 : Int32) (v62_s0 : Int32) : Int32 := if v51_s0 = v62_s0 then (f0_69 p0 p1 w_HERTZ w_GIGAHERTZ w_KILOHERTZ w_ANGSTROM w_NANOMETRE w_JOULE w_MEGAHERTZ w_PER_CENTIMETRE w_PER_SECOND w_ELECTRONVOLT w_TERAHERTZ gq gp gi) else (f0_65 p0 p1 w_HERTZ w_GIGAHERTZ w_KILOHERTZ w_ANGSTROM w_NANOMETRE w_JOULE w_MEGAHERTZ w_PER_CENTIMETRE w_PER_SECOND w_ELECTRONVOLT w_TERAHERTZ gq gp gi)
def f0_61 (p0 : Int32) (p1 : Int32) (w_HERTZ : Addr) (w_GIGAHERTZ : Addr) (w_KILOHERTZ : Addr) (w_ANGSTROM : Addr) (w_NANOMETRE : Addr) (w_JOULE : Addr) (w_MEGAHERTZ : Addr) (w_PER_CENTIMETRE : Addr) (w_PER_SECOND : Addr) (w_ELECTRONVOLT : Addr) (w_TERAHERTZ : Addr) (gq : Addr → Addr) (gp : Addr → Value) (gi : Addr → Int32) (v51_s0 : Int32) : Int32 := (f0_62 p0 p1 w_HERTZ w_GIGAHERTZ w_KILOHERTZ w_ANGSTROM w_NANOMETRE w_JOULE w_MEGAHERTZ w_PER_CENTIMETRE w_PER_SECOND w_ELECTRONVOLT w_TERAHERTZ gq gp gi v51_s0 (0 : Int32))
def f0_57 (p0 : Int32) (p1 : Int32) (w_HERTZ : Addr) (w_GIGAHERTZ : Addr) (w_KILOHERTZ : Addr) (w_ANGSTROM : Addr) (w_NANOMETRE : Addr) (w_JOULE : Addr) (w_MEGAHERTZ : Addr) (w_PER_CENTIMETRE : Addr) (w_PER_SECOND : Addr) (w_ELECTRONVOLT : Addr) (w_TERAHERTZ : Addr) (gq : Addr → Addr) (gp : Addr → Value) (gi : Addr → Int32) (v51_s0 : Int32) : Int32 := (f0_62 p0 p1 w_HERTZ w_GIGAHERTZ w_KILOHERTZ w_ANGSTROM w_NANOMETRE w_JOULE w_MEGAHERTZ w_PER_CENTIMETRE w_PER_SECOND w_ELECTRONVOLT w_TERAHERTZ gq gp gi v51_s0 (1 : Int32))
def f0_51 (p0 : Int32) (p1 : Int32) (w_HERTZ : Addr) (w_GIGAHERTZ : Addr) (w_KILOHERTZ : Addr) (w_ANGSTROM : Addr) (w_NANOMETRE : Addr) (w_JOULE : Addr) (w_MEGAHERTZ : Addr) (w_PER_CENTIMETRE : Addr) (w_PER_SECOND : Addr) (w_ELECTRONVOLT : Addr) (w_TERAHERTZ : Addr) (gq : Addr → Addr) (gp : Addr → Value) (gi : Addr → Int32) (v51_s0 : Int32) : Int32 := if (f1_0 ((p1 &&& (2147483647 : Int32)) % (11 : Int32))) = (3 : Int32) then (f0_57 p0 p1 w_HERTZ w_GIGAHERTZ w_KILOHERTZ w_ANGSTROM w_NANOMETRE w_JOULE w_MEGAHERTZ w_PER_CENTIMETRE w_PER_SECOND w_ELECTRONVOLT w_TERAHERTZ gq gp gi v51_s0) else (f0_61 p0 p1 w_HERTZ w_GIGAHERTZ w_KILOHERTZ w_ANGSTROM w_NANOMETRE w_JOULE w_MEGAHERTZ w_PER_CENTIMETRE w_PER_SECOND w_ELECTRONVOLT w_TERAHERTZ gq gp gi v51_s0)
def f0_50 (p0 : Int32) (p1 : Int32) (w_HERTZ : Addr) (w_GIGAHERTZ : Addr) (w_KILOHERTZ : Addr) (w_ANGSTROM : Addr) (w_NANOMETRE : Addr) (w_JOULE : Addr) (w_MEGAHERTZ : Addr) (w_PER_CENTIMETRE : Addr) (w_PER_SECOND : Addr) (w_ELECTRONVOLT : Addr) (w_TERAHERTZ : Addr) (gq : Addr → Addr) (gp : Addr → Value) (gi : Addr → Int32) : Int32 := (f0_51 p0 p1 w_HERTZ w_GIGAHERTZ w_KILOHERTZ w_ANGSTROM w_NANOMETRE w_JOULE w_MEGAHERTZ w_PER_CENTIMETRE w_PER_SECOND w_ELECTRONVOLT w_TERAHERTZ gq gp gi (0 : Int32))
def f0_46 (p0 : Int32) (p1 : Int32) (w_HERTZ : Addr) (w_GIGAHERTZ : Addr) (w_KILOHERTZ : Addr) (w_ANGSTROM : Addr) (w_NANOMETRE : Addr) (w_JOULE : Addr) (w_MEGAHERTZ : Addr) (w_PER_CENTIMETRE : Addr) (w_PER_SECOND : Addr) (w_ELECTRONVOLT : Addr) (w_TERAHERTZ : Addr) (gq : Addr → Addr) (gp : Addr → Value) (gi : Addr → Int32) : Int32 := (f0_51 p0 p1 w_HERTZ w_GIGAHERTZ w_KILOHERTZ w_ANGSTROM w_NANOMETRE w_JOULE w_MEGAHERTZ w_PER_CENTIMETRE w_PER_SECOND w_ELECTRONVOLT w_TERAHERTZ gq gp gi (1 : Int32))
def f0_40 (p0 : Int32) (p1 : Int32) (w_HERTZ : Addr) (w_GIGAHERTZ : Addr) (w_KILOHERTZ : Addr) (w_ANGSTROM : Addr) (w_NANOMETRE : Addr) (w_JOULE : Addr) (w_MEGAHERTZ : Addr) (w_PER_CENTIMETRE : Addr) (w_PER_SECOND : Addr) (w_ELECTRONVOLT : Addr) (w_TERAHERTZ : Addr) (gq : Addr → Addr) (gp : Addr → Value) (gi : Addr → Int32) : Int32 := if (f1_0 ((p0 &&& (2147483647 : Int32)) % (11 : Int32))) = (3 : Int32) then (f0_46 p0 p1 w_HERTZ w_GIGAHERTZ w_KILOHERTZ w_ANGSTROM w_NANOMETRE w_JOULE w_MEGAHERTZ w_PER_CENTIMETRE w_PER_SECOND w_ELECTRONVOLT w_TERAHERTZ gq gp gi) else (f0_50 p0 p1 w_HERTZ w_GIGAHERTZ w_KILOHERTZ w_ANGSTROM w_NANOMETRE w_JOULE w_MEGAHERTZ w_PER_CENTIMETRE w_PER_SECOND w_ELECTRONVOLT w_TERAHERTZ gq gp gi)
def f0_34 (p0 : Int32) (p1 : Int32) (w_HERTZ : Addr) (w_GIGAHERTZ : Addr) (w_KILOHERTZ : Addr) (w_ANGSTROM : Addr) (w_NANOMETRE : Addr) (w_JOULE : Addr) (w_MEGAHERTZ : Addr) (w_PER_CENTIMETRE : Addr) (w_PER_SECOND : Addr) (w_ELECTRONVOLT : Addr) (w_TERAHERTZ : Addr) (gq : Addr → Addr) (gp : Addr → Value) (gi : Addr → Int32) : Int32 := if (f1_0 ((p1 &&& (2147483647 : Int32)) % (11 : Int32))) = (2 : Int32) then (f0_69 p0 p1 w_HERTZ w_GIGAHERTZ w_KILOHERTZ w_ANGSTROM w_NANOMETRE w_JOULE w_MEGAHERTZ w_PER_CENTIMETRE w_PER_SECOND w_ELECTRONVOLT w_TERAHERTZ gq gp gi) else (f0_40 p0 p1 w_HERTZ w_GIGAHERTZ w_KILOHERTZ w_ANGSTROM w_NANOMETRE w_JOULE w_MEGAHERTZ w_PER_CENTIMETRE w_PER_SECOND w_ELECTRONVOLT w_TERAHERTZ gq gp gi)
def f0_0 (p0 : Int32) (p1 : Int32) (w_HERTZ : Addr) (w_GIGAHERTZ : Addr) (w_KILOHERTZ : Addr) (w_ANGSTROM : Addr) (w_NANOMETRE : Addr) (w_JOULE : Addr) (w_MEGAHERTZ : Addr) (w_PER_CENTIMETRE : Addr) (w_PER_SECOND : Addr) (w_ELECTRONVOLT : Addr) (w_TERAHERTZ : Addr) (gq : Addr → Addr) (gp : Addr → Value) (gi : Addr → Int32) : Int32 := if (f1_0 ((p0 &&& (2147483647 : Int32)) % (11 : Int32))) = (2 : Int32) then (f0_69 p0 p1 w_HERTZ w_GIGAHERTZ w_KILOHERTZ w_ANGSTROM w_NANOMETRE w_JOULE w_MEGAHERTZ w_PER_CENTIMETRE w_PER_SECOND w_ELECTRONVOLT w_TERAHERTZ gq gp gi) else (f0_34 p0 p1 w_HERTZ w_GIGAHERTZ w_KILOHERTZ w_ANGSTROM w_NANOMETRE w_JOULE w_MEGAHERTZ w_PER_CENTIMETRE w_PER_SECOND w_ELECTRONVOLT w_TERAHERTZ gq gp gi)
set_option maxRecDepth 65536 in
set_option maxHeartbeats 40000000 in
theorem rm0 (l : Launch) (Z : State) (a0 : Array Value) (hw : ∀ d ∈ tables_1, d.before a0 Z = true) (ws : List Jvm.Cond) (p0 : Int32) (p1 : Int32) (w_HERTZ : Addr) (w_GIGAHERTZ : Addr) (w_KILOHERTZ : Addr) (w_ANGSTROM : Addr) (w_NANOMETRE : Addr) (w_JOULE : Addr) (w_MEGAHERTZ : Addr) (w_PER_CENTIMETRE : Addr) (w_PER_SECOND : Addr) (w_ELECTRONVOLT : Addr) (w_TERAHERTZ : Addr) (gq : Addr → Addr) (gp : Addr → Value) (gi : Addr → Int32) (h0 : Heap) (S_HERTZ : Sta Z h0 "com/example/lattice_node/latticenode/core/Unit" "HERTZ" "Lcom/example/lattice_node/latticenode/core/Unit;" (.ref w_HERTZ)) (S_GIGAHERTZ : Sta Z h0 "com/example/lattice_node/latticenode/core/Unit" "GIGAHERTZ" "Lcom/example/lattice_node/latticenode/core/Unit;" (.ref w_GIGAHERTZ)) (S_KILOHERTZ : Sta Z h0 "com/example/lattice_node/latticenode/core/Unit" "KILOHERTZ" "Lcom/example/lattice_node/latticenode/core/Unit;" (.ref w_KILOHERTZ)) (S_ANGSTROM : Sta Z h0 "com/example/lattice_node/latticenode/core/Unit" "ANGSTROM" "Lcom/example/lattice_node/latticenode/core/Unit;" (.ref w_ANGSTROM)) (S_NANOMETRE : Sta Z h0 "com/example/lattice_node/latticenode/core/Unit" "NANOMETRE" "Lcom/example/lattice_node/latticenode/core/Unit;" (.ref w_NANOMETRE)) (S_JOULE : Sta Z h0 "com/example/lattice_node/latticenode/core/Unit" "JOULE" "Lcom/example/lattice_node/latticenode/core/Unit;" (.ref w_JOULE)) (S_MEGAHERTZ : Sta Z h0 "com/example/lattice_node/latticenode/core/Unit" "MEGAHERTZ" "Lcom/example/lattice_node/latticenode/core/Unit;" (.ref w_MEGAHERTZ)) (S_PER_CENTIMETRE : Sta Z h0 "com/example/lattice_node/latticenode/core/Unit" "PER_CENTIMETRE" "Lcom/example/lattice_node/latticenode/core/Unit;" (.ref w_PER_CENTIMETRE)) (S_PER_SECOND : Sta Z h0 "com/example/lattice_node/latticenode/core/Unit" "PER_SECOND" "Lcom/example/lattice_node/latticenode/core/Unit;" (.ref w_PER_SECOND)) (S_ELECTRONVOLT : Sta Z h0 "com/example/lattice_node/latticenode/core/Unit" "ELECTRONVOLT" "Lcom/example/lattice_node/latticenode/core/Unit;" (.ref w_ELECTRONVOLT)) (S_TERAHERTZ : Sta Z h0 "com/example/lattice_node/latticenode/core/Unit" "TERAHERTZ" "Lcom/example/lattice_node/latticenode/core/Unit;" (.ref w_TERAHERTZ)) (U_HERTZ : OkU Z h0 gq gp gi w_HERTZ) (U_GIGAHERTZ : OkU Z h0 gq gp gi w_GIGAHERTZ) (U_KILOHERTZ : OkU Z h0 gq gp gi w_KILOHERTZ) (U_ANGSTROM : OkU Z h0 gq gp gi w_ANGSTROM) (U_NANOMETRE : OkU Z h0 gq gp gi w_NANOMETRE) (U_JOULE : OkU Z h0 gq gp gi w_JOULE) (U_MEGAHERTZ : OkU Z h0 gq gp gi w_MEGAHERTZ) (U_PER_CENTIMETRE : OkU Z h0 gq gp gi w_PER_CENTIMETRE) (U_PER_SECOND : OkU Z h0 gq gp gi w_PER_SECOND) (U_ELECTRONVOLT : OkU Z h0 gq gp gi w_ELECTRONVOLT) (U_TERAHERTZ : OkU Z h0 gq gp gi w_TERAHERTZ) :
    MetFree l x (head1 (Jvm.Cond.code x code maxLocals ret :: ws) room_1) (fun a U => a = #[(.int p0), (.int p1)] ∧ Z.Warmed39 U.vm ∧ U.heap = h0) (fun _ _ _ _ _ => True) (fun _ U o U' => ∃ v L, o = .returned v ∧ (PureQ (.int (f0_0 p0 p1 w_HERTZ w_GIGAHERTZ w_KILOHERTZ w_ANGSTROM w_NANOMETRE w_JOULE w_MEGAHERTZ w_PER_CENTIMETRE w_PER_SECOND w_ELECTRONVOLT w_TERAHERTZ gq gp gi)) h0) v U'.heap L ∧ FrameEnd U o U' L room_1.cells room_1.slots) := by
  refine MetFree.of_bodySF (plainFor_of_name pn_0) hisR ?_
  intro p e s m args below meth c s₁ Bd hml0 hP hK
  obtain ⟨rfl, hZ, hh⟩ := hP
  have hx := Bd.exec
  have hby := Bd.bytes
  have hlk : meth.locks = false := BodyLoose.notSynchronized Bd
  have hml : c.maxLocals = 7 := hml0
  have hown : s.vm.findClass "com/example/lattice_node/latticenode/core/UnitInvertsSpectrallyPinLaw" = some m.cls := findClass_of_methodNamed Bd.named
  have hnm := (name_of_methodNamed Bd.named Bd.method).1
  have X0 : Stand p l e room_1 s m #[(.int p0), (.int p1)] below meth c s₁ ([] : List Loc) 0 0 := Stand.of_body Bd
  have e0 : s₁.heap = h0 := by rw [← hh, Bd.state]; rfl
  show Go p e below s room_1.cells room_1.slots (PureQ (.int (f0_0 p0 p1 w_HERTZ w_GIGAHERTZ w_KILOHERTZ w_ANGSTROM w_NANOMETRE w_JOULE w_MEGAHERTZ w_PER_CENTIMETRE w_PER_SECOND w_ELECTRONVOLT w_TERAHERTZ gq gp gi)) h0) s₁ (entryFrame m #[(.int p0), (.int p1)] maxLocals)
  rw [ef_0 m p0 p1]
  refine Go.step (g' := (mkF m 1 #[.val (.int p0), .val (.int p1), .unset, .unset, .unset, .unset, .unset] [(.int p0)])) (fun _ k => XS.iloadN X0.here hx rfl (hb hby at_0) rfl  k) ?_
  refine Go.step (g' := (mkF m 3 #[.val (.int p0), .val (.int p1), .unset, .unset, .unset, .unset, .unset] [(.int (2147483647 : Int32)), (.int p0)])) (fun _ k => X0.ldcI hx hown (mvT hZ (hw _ (List.mem_of_getElem? (i := 0) rfl))) rfl (hb hby at_1) k) ?_
  refine Go.step (g' := (mkF m 4 #[.val (.int p0), .val (.int p1), .unset, .unset, .unset, .unset, .unset] [(.int (p0 &&& (2147483647 : Int32)))])) (fun _ k => XS.iand X0.here hx rfl (hb hby at_3) rfl k) ?_
  refine Go.step (g' := (mkF m 6 #[.val (.int p0), .val (.int p1), .unset, .unset, .unset, .unset, .unset] [(.int (11 : Int32)), (.int (p0 &&& (2147483647 : Int32)))])) (fun _ k => XS.bipush X0.here hx rfl (hb hby at_4) k) ?_
  refine Go.step (g' := (mkF m 7 #[.val (.int p0), .val (.int p1), .unset, .unset, .unset, .unset, .unset] [(.int ((p0 &&& (2147483647 : Int32)) % (11 : Int32)))])) (fun _ k => Jvm.RoadKit.iremM X0 hx rfl (hb hby at_6) rfl (by decide) k) ?_
  refine Go.step (g' := (mkF m 8 #[.val (.int p0), .val (.int p1), .val (.int ((p0 &&& (2147483647 : Int32)) % (11 : Int32))), .unset, .unset, .unset, .unset] [])) (fun _ k => XS.istoreN X0.here hx rfl (hb hby at_7) rfl (l' := #[.val (.int p0), .val (.int p1), .val (.int ((p0 &&& (2147483647 : Int32)) % (11 : Int32))), .unset, .unset, .unset, .unset]) rfl k) ?_
  refine Go.step (g' := (mkF m 9 #[.val (.int p0), .val (.int p1), .val (.int ((p0 &&& (2147483647 : Int32)) % (11 : Int32))), .unset, .unset, .unset, .unset] [(.int p1)])) (fun _ k => XS.iloadN X0.here hx rfl (hb hby at_8) rfl  k) ?_
  refine Go.step (g' := (mkF m 11 #[.val (.int p0), .val (.int p1), .val (.int ((p0 &&& (2147483647 : Int32)) % (11 : Int32))), .unset, .unset, .unset, .unset] [(.int (2147483647 : Int32)), (.int p1)])) (fun _ k => X0.ldcI hx hown (mvT hZ (hw _ (List.mem_of_getElem? (i := 0) rfl))) rfl (hb hby at_9) k) ?_
  refine Go.step (g' := (mkF m 12 #[.val (.int p0), .val (.int p1), .val (.int ((p0 &&& (2147483647 : Int32)) % (11 : Int32))), .unset, .unset, .unset, .unset] [(.int (p1 &&& (2147483647 : Int32)))])) (fun _ k => XS.iand X0.here hx rfl (hb hby at_11) rfl k) ?_
  refine Go.step (g' := (mkF m 14 #[.val (.int p0), .val (.int p1), .val (.int ((p0 &&& (2147483647 : Int32)) % (11 : Int32))), .unset, .unset, .unset, .unset] [(.int (11 : Int32)), (.int (p1 &&& (2147483647 : Int32)))])) (fun _ k => XS.bipush X0.here hx rfl (hb hby at_12) k) ?_
  refine Go.step (g' := (mkF m 15 #[.val (.int p0), .val (.int p1), .val (.int ((p0 &&& (2147483647 : Int32)) % (11 : Int32))), .unset, .unset, .unset, .unset] [(.int ((p1 &&& (2147483647 : Int32)) % (11 : Int32)))])) (fun _ k => Jvm.RoadKit.iremM X0 hx rfl (hb hby at_14) rfl (by decide) k) ?_
  refine Go.step (g' := (mkF m 16 #[.val (.int p0), .val (.int p1), .val (.int ((p0 &&& (2147483647 : Int32)) % (11 : Int32))), .val (.int ((p1 &&& (2147483647 : Int32)) % (11 : Int32))), .unset, .unset, .unset] [])) (fun _ k => XS.istoreN X0.here hx rfl (hb hby at_15) rfl (l' := #[.val (.int p0), .val (.int p1), .val (.int ((p0 &&& (2147483647 : Int32)) % (11 : Int32))), .val (.int ((p1 &&& (2147483647 : Int32)) % (11 : Int32))), .unset, .unset, .unset]) rfl k) ?_
  refine Go.step (g' := (mkF m 17 #[.val (.int p0), .val (.int p1), .val (.int ((p0 &&& (2147483647 : Int32)) % (11 : Int32))), .val (.int ((p1 &&& (2147483647 : Int32)) % (11 : Int32))), .unset, .unset, .unset] [(.int ((p0 &&& (2147483647 : Int32)) % (11 : Int32)))])) (fun _ k => XS.iloadN X0.here hx rfl (hb hby at_16) rfl  k) ?_
  obtain ⟨_, _, ⟨T1, L1, k1, n1⟩, -, X1, ⟨Lc1, hQ1, l1, y1, z1⟩, st1⟩ := Jvm.LawKit.callS X0 hx (y := (⟨"com/example/lattice_node/latticenode/core/UnitInvertsSpectrallyPinLaw", "kind", "(I)I"⟩ : MethodName)) hown (mvT hZ (hw _ (List.mem_of_getElem? (i := 1) rfl))) (mvT hZ (hw _ (List.mem_of_getElem? (i := 2) rfl))) (mvT hZ (hw _ (List.mem_of_getElem? (i := 3) rfl))) (mvT hZ (hw _ (List.mem_of_getElem? (i := 4) rfl))) (by decide) (backOf (W := 0) (rm1 l Z a0 hw [] ((p0 &&& (2147483647 : Int32)) % (11 : Int32)) h0 ) hZ (hw _ (List.mem_of_getElem? (i := 4) rfl)) (hw _ (List.mem_of_getElem? (i := 3) rfl)) (by decide) (by decide)) (g := (mkF m 17 #[.val (.int p0), .val (.int p1), .val (.int ((p0 &&& (2147483647 : Int32)) % (11 : Int32))), .val (.int ((p1 &&& (2147483647 : Int32)) % (11 : Int32))), .unset, .unset, .unset] [(.int ((p0 &&& (2147483647 : Int32)) % (11 : Int32)))])) rfl (by rw [hml]; rfl) (argsL := [(.int ((p0 &&& (2147483647 : Int32)) % (11 : Int32)))]) (rest := []) (lenOf pd_0 rfl) rfl (by show 2 * 0 + _ ≤ _; exact Nat.le_of_eq rfl) (hb hby at_17) (fun _ _ => ⟨rfl, e0, (by decide : 0 + 0 ≤ _), (by decide : 0 + 0 ≤ _)⟩)
  dsimp only [Pt.U, Pt.locs, Pt.cells, Pt.slots] at X1 l1 y1 z1 st1 hQ1
  subst l1 y1 z1
  obtain ⟨rfl, rfl, e1⟩ := hQ1
  try rw [List.append_nil] at X1
  refine Go.step (g' := (mkF m 20 #[.val (.int p0), .val (.int p1), .val (.int ((p0 &&& (2147483647 : Int32)) % (11 : Int32))), .val (.int ((p1 &&& (2147483647 : Int32)) % (11 : Int32))), .unset, .unset, .unset] [(.int (f1_0 ((p0 &&& (2147483647 : Int32)) % (11 : Int32))))])) st1 ?_
  refine Go.step (g' := (mkF m 22 #[.val (.int p0), .val (.int p1), .val (.int ((p0 &&& (2147483647 : Int32)) % (11 : Int32))), .val (.int ((p1 &&& (2147483647 : Int32)) % (11 : Int32))), .val (.int (f1_0 ((p0 &&& (2147483647 : Int32)) % (11 : Int32)))), .unset, .unset] [])) (fun _ k => XS.istore X1.here hx rfl (hb hby at_20) rfl (l' := #[.val (.int p0), .val (.int p1), .val (.int ((p0 &&& (2147483647 : Int32)) % (11 : Int32))), .val (.int ((p1 &&& (2147483647 : Int32)) % (11 : Int32))), .val (.int (f1_0 ((p0 &&& (2147483647 : Int32)) % (11 : Int32)))), .unset, .unset]) rfl k) ?_
  refine Go.step (g' := (mkF m 23 #[.val (.int p0), .val (.int p1), .val (.int ((p0 &&& (2147483647 : Int32)) % (11 : Int32))), .val (.int ((p1 &&& (2147483647 : Int32)) % (11 : Int32))), .val (.int (f1_0 ((p0 &&& (2147483647 : Int32)) % (11 : Int32)))), .unset, .unset] [(.int ((p1 &&& (2147483647 : Int32)) % (11 : Int32)))])) (fun _ k => XS.iloadN X1.here hx rfl (hb hby at_22) rfl  k) ?_
  obtain ⟨_, _, ⟨T2, L2, k2, n2⟩, -, X2, ⟨Lc2, hQ2, l2, y2, z2⟩, st2⟩ := Jvm.LawKit.callS X1 hx (y := (⟨"com/example/lattice_node/latticenode/core/UnitInvertsSpectrallyPinLaw", "kind", "(I)I"⟩ : MethodName)) hown (mvT hZ (hw _ (List.mem_of_getElem? (i := 1) rfl))) (mvT hZ (hw _ (List.mem_of_getElem? (i := 2) rfl))) (mvT hZ (hw _ (List.mem_of_getElem? (i := 3) rfl))) (mvT hZ (hw _ (List.mem_of_getElem? (i := 4) rfl))) (by decide) (backOf (W := 0) (rm1 l Z a0 hw [] ((p1 &&& (2147483647 : Int32)) % (11 : Int32)) h0 ) hZ (hw _ (List.mem_of_getElem? (i := 4) rfl)) (hw _ (List.mem_of_getElem? (i := 3) rfl)) (by decide) (by decide)) (g := (mkF m 23 #[.val (.int p0), .val (.int p1), .val (.int ((p0 &&& (2147483647 : Int32)) % (11 : Int32))), .val (.int ((p1 &&& (2147483647 : Int32)) % (11 : Int32))), .val (.int (f1_0 ((p0 &&& (2147483647 : Int32)) % (11 : Int32)))), .unset, .unset] [(.int ((p1 &&& (2147483647 : Int32)) % (11 : Int32)))])) rfl (by rw [hml]; rfl) (argsL := [(.int ((p1 &&& (2147483647 : Int32)) % (11 : Int32)))]) (rest := []) (lenOf pd_0 rfl) rfl (by show 2 * 0 + _ ≤ _; exact Nat.le_of_eq rfl) (hb hby at_23) (fun _ _ => ⟨rfl, e1, (by decide : 0 + 0 ≤ _), (by decide : 0 + 0 ≤ _)⟩)
  dsimp only [Pt.U, Pt.locs, Pt.cells, Pt.slots] at X2 l2 y2 z2 st2 hQ2
  subst l2 y2 z2
  obtain ⟨rfl, rfl, e2⟩ := hQ2
  try rw [List.append_nil] at X2
  refine Go.step (g' := (mkF m 26 #[.val (.int p0), .val (.int p1), .val (.int ((p0 &&& (2147483647 : Int32)) % (11 : Int32))), .val (.int ((p1 &&& (2147483647 : Int32)) % (11 : Int32))), .val (.int (f1_0 ((p0 &&& (2147483647 : Int32)) % (11 : Int32)))), .unset, .unset] [(.int (f1_0 ((p1 &&& (2147483647 : Int32)) % (11 : Int32))))])) st2 ?_
  refine Go.step (g' := (mkF m 28 #[.val (.int p0), .val (.int p1), .val (.int ((p0 &&& (2147483647 : Int32)) % (11 : Int32))), .val (.int ((p1 &&& (2147483647 : Int32)) % (11 : Int32))), .val (.int (f1_0 ((p0 &&& (2147483647 : Int32)) % (11 : Int32)))), .val (.int (f1_0 ((p1 &&& (2147483647 : Int32)) % (11 : Int32)))), .unset] [])) (fun _ k => XS.istore X2.here hx rfl (hb hby at_26) rfl (l' := #[.val (.int p0), .val (.int p1), .val (.int ((p0 &&& (2147483647 : Int32)) % (11 : Int32))), .val (.int ((p1 &&& (2147483647 : Int32)) % (11 : Int32))), .val (.int (f1_0 ((p0 &&& (2147483647 : Int32)) % (11 : Int32)))), .val (.int (f1_0 ((p1 &&& (2147483647 : Int32)) % (11 : Int32)))), .unset]) rfl k) ?_
  refine Go.step (g' := (mkF m 30 #[.val (.int p0), .val (.int p1), .val (.int ((p0 &&& (2147483647 : Int32)) % (11 : Int32))), .val (.int ((p1 &&& (2147483647 : Int32)) % (11 : Int32))), .val (.int (f1_0 ((p0 &&& (2147483647 : Int32)) % (11 : Int32)))), .val (.int (f1_0 ((p1 &&& (2147483647 : Int32)) % (11 : Int32)))), .unset] [(.int (f1_0 ((p0 &&& (2147483647 : Int32)) % (11 : Int32))))])) (fun _ k => XS.iload X2.here hx rfl (hb hby at_28) rfl  k) ?_
  refine Go.step (g' := (mkF m 31 #[.val (.int p0), .val (.int p1), .val (.int ((p0 &&& (2147483647 : Int32)) % (11 : Int32))), .val (.int ((p1 &&& (2147483647 : Int32)) % (11 : Int32))), .val (.int (f1_0 ((p0 &&& (2147483647 : Int32)) % (11 : Int32)))), .val (.int (f1_0 ((p1 &&& (2147483647 : Int32)) % (11 : Int32)))), .unset] [(.int (2 : Int32)), (.int (f1_0 ((p0 &&& (2147483647 : Int32)) % (11 : Int32))))])) (fun _ k => XS.iconst X2.here hx rfl (hb hby at_30) k) ?_
  have t70 : ∀ (v70_s0 : Int32), Go p e below s room_1.cells room_1.slots (PureQ (.int (f0_70 p0 p1 w_HERTZ w_GIGAHERTZ w_KILOHERTZ w_ANGSTROM w_NANOMETRE w_JOULE w_MEGAHERTZ w_PER_CENTIMETRE w_PER_SECOND w_ELECTRONVOLT w_TERAHERTZ gq gp gi v70_s0)) h0) T2 (mkF m 70 #[.val (.int p0), .val (.int p1), .val (.int ((p0 &&& (2147483647 : Int32)) % (11 : Int32))), .val (.int ((p1 &&& (2147483647 : Int32)) % (11 : Int32))), .val (.int (f1_0 ((p0 &&& (2147483647 : Int32)) % (11 : Int32)))), .val (.int (f1_0 ((p1 &&& (2147483647 : Int32)) % (11 : Int32)))), .unset] [(.int v70_s0)]) := by
    intro v70_s0
    refine Go.step (g' := (mkF m 72 #[.val (.int p0), .val (.int p1), .val (.int ((p0 &&& (2147483647 : Int32)) % (11 : Int32))), .val (.int ((p1 &&& (2147483647 : Int32)) % (11 : Int32))), .val (.int (f1_0 ((p0 &&& (2147483647 : Int32)) % (11 : Int32)))), .val (.int (f1_0 ((p1 &&& (2147483647 : Int32)) % (11 : Int32)))), .val (.int v70_s0)] [])) (fun _ k => XS.istore X2.here hx rfl (hb hby at_70) rfl (l' := #[.val (.int p0), .val (.int p1), .val (.int ((p0 &&& (2147483647 : Int32)) % (11 : Int32))), .val (.int ((p1 &&& (2147483647 : Int32)) % (11 : Int32))), .val (.int (f1_0 ((p0 &&& (2147483647 : Int32)) % (11 : Int32)))), .val (.int (f1_0 ((p1 &&& (2147483647 : Int32)) % (11 : Int32)))), .val (.int v70_s0)]) rfl k) ?_
    refine Go.step (g' := (mkF m 73 #[.val (.int p0), .val (.int p1), .val (.int ((p0 &&& (2147483647 : Int32)) % (11 : Int32))), .val (.int ((p1 &&& (2147483647 : Int32)) % (11 : Int32))), .val (.int (f1_0 ((p0 &&& (2147483647 : Int32)) % (11 : Int32)))), .val (.int (f1_0 ((p1 &&& (2147483647 : Int32)) % (11 : Int32)))), .val (.int v70_s0)] [(.int ((p0 &&& (2147483647 : Int32)) % (11 : Int32)))])) (fun _ k => XS.iloadN X2.here hx rfl (hb hby at_72) rfl  k) ?_
    obtain ⟨_, _, ⟨T3, L3, k3, n3⟩, -, X3, ⟨Lc3, hQ3, l3, y3, z3⟩, st3⟩ := Jvm.LawKit.callS X2 hx (y := (⟨"com/example/lattice_node/latticenode/core/UnitInvertsSpectrallyPinLaw", "unit", "(I)Lcom/example/lattice_node/latticenode/core/Unit;"⟩ : MethodName)) hown (mvT hZ (hw _ (List.mem_of_getElem? (i := 5) rfl))) (mvT hZ (hw _ (List.mem_of_getElem? (i := 6) rfl))) (mvT hZ (hw _ (List.mem_of_getElem? (i := 3) rfl))) (mvT hZ (hw _ (List.mem_of_getElem? (i := 7) rfl))) (by decide) (backOf (W := 0) (rm2 l Z a0 hw [] ((p0 &&& (2147483647 : Int32)) % (11 : Int32)) w_HERTZ w_GIGAHERTZ w_KILOHERTZ w_ANGSTROM w_NANOMETRE w_JOULE w_MEGAHERTZ w_PER_CENTIMETRE w_PER_SECOND w_ELECTRONVOLT w_TERAHERTZ h0 S_HERTZ S_GIGAHERTZ S_KILOHERTZ S_ANGSTROM S_NANOMETRE S_JOULE S_MEGAHERTZ S_PER_CENTIMETRE S_PER_SECOND S_ELECTRONVOLT S_TERAHERTZ) hZ (hw _ (List.mem_of_getElem? (i := 7) rfl)) (hw _ (List.mem_of_getElem? (i := 3) rfl)) (by decide) (by decide)) (g := (mkF m 73 #[.val (.int p0), .val (.int p1), .val (.int ((p0 &&& (2147483647 : Int32)) % (11 : Int32))), .val (.int ((p1 &&& (2147483647 : Int32)) % (11 : Int32))), .val (.int (f1_0 ((p0 &&& (2147483647 : Int32)) % (11 : Int32)))), .val (.int (f1_0 ((p1 &&& (2147483647 : Int32)) % (11 : Int32)))), .val (.int v70_s0)] [(.int ((p0 &&& (2147483647 : Int32)) % (11 : Int32)))])) rfl (by rw [hml]; rfl) (argsL := [(.int ((p0 &&& (2147483647 : Int32)) % (11 : Int32)))]) (rest := []) (lenOf pd_1 rfl) rfl (by show 2 * 0 + _ ≤ _; exact Nat.le_of_eq rfl) (hb hby at_73) (fun _ _ => ⟨rfl, e2, (by decide : 0 + 0 ≤ _), (by decide : 0 + 0 ≤ _)⟩)
    dsimp only [Pt.U, Pt.locs, Pt.cells, Pt.slots] at X3 l3 y3 z3 st3 hQ3
    subst l3 y3 z3
    obtain ⟨rfl, rfl, e3⟩ := hQ3
    try rw [List.append_nil] at X3
    have Uu4 : OkU Z h0 gq gp gi (f2_0 ((p0 &&& (2147483647 : Int32)) % (11 : Int32)) w_HERTZ w_GIGAHERTZ w_KILOHERTZ w_ANGSTROM w_NANOMETRE w_JOULE w_MEGAHERTZ w_PER_CENTIMETRE w_PER_SECOND w_ELECTRONVOLT w_TERAHERTZ) := own_unit (P := OkU Z h0 gq gp gi) ((p0 &&& (2147483647 : Int32)) % (11 : Int32)) w_HERTZ w_GIGAHERTZ w_KILOHERTZ w_ANGSTROM w_NANOMETRE w_JOULE w_MEGAHERTZ w_PER_CENTIMETRE w_PER_SECOND w_ELECTRONVOLT w_TERAHERTZ U_HERTZ U_GIGAHERTZ U_KILOHERTZ U_ANGSTROM U_NANOMETRE U_JOULE U_MEGAHERTZ U_PER_CENTIMETRE U_PER_SECOND U_ELECTRONVOLT U_TERAHERTZ
    refine Go.step (g' := (mkF m 76 #[.val (.int p0), .val (.int p1), .val (.int ((p0 &&& (2147483647 : Int32)) % (11 : Int32))), .val (.int ((p1 &&& (2147483647 : Int32)) % (11 : Int32))), .val (.int (f1_0 ((p0 &&& (2147483647 : Int32)) % (11 : Int32)))), .val (.int (f1_0 ((p1 &&& (2147483647 : Int32)) % (11 : Int32)))), .val (.int v70_s0)] [(.ref (f2_0 ((p0 &&& (2147483647 : Int32)) % (11 : Int32)) w_HERTZ w_GIGAHERTZ w_KILOHERTZ w_ANGSTROM w_NANOMETRE w_JOULE w_MEGAHERTZ w_PER_CENTIMETRE w_PER_SECOND w_ELECTRONVOLT w_TERAHERTZ))])) st3 ?_
    refine Go.step (g' := (mkF m 77 #[.val (.int p0), .val (.int p1), .val (.int ((p0 &&& (2147483647 : Int32)) % (11 : Int32))), .val (.int ((p1 &&& (2147483647 : Int32)) % (11 : Int32))), .val (.int (f1_0 ((p0 &&& (2147483647 : Int32)) % (11 : Int32)))), .val (.int (f1_0 ((p1 &&& (2147483647 : Int32)) % (11 : Int32)))), .val (.int v70_s0)] [(.int ((p1 &&& (2147483647 : Int32)) % (11 : Int32))), (.ref (f2_0 ((p0 &&& (2147483647 : Int32)) % (11 : Int32)) w_HERTZ w_GIGAHERTZ w_KILOHERTZ w_ANGSTROM w_NANOMETRE w_JOULE w_MEGAHERTZ w_PER_CENTIMETRE w_PER_SECOND w_ELECTRONVOLT w_TERAHERTZ))])) (fun _ k => XS.iloadN X3.here hx rfl (hb hby at_76) rfl  k) ?_
    obtain ⟨_, _, ⟨T5, L5, k5, n5⟩, -, X5, ⟨Lc5, hQ5, l5, y5, z5⟩, st5⟩ := Jvm.LawKit.callS X3 hx (y := (⟨"com/example/lattice_node/latticenode/core/UnitInvertsSpectrallyPinLaw", "unit", "(I)Lcom/example/lattice_node/latticenode/core/Unit;"⟩ : MethodName)) hown (mvT hZ (hw _ (List.mem_of_getElem? (i := 5) rfl))) (mvT hZ (hw _ (List.mem_of_getElem? (i := 6) rfl))) (mvT hZ (hw _ (List.mem_of_getElem? (i := 3) rfl))) (mvT hZ (hw _ (List.mem_of_getElem? (i := 7) rfl))) (by decide) (backOf (W := 1) (rm2 l Z a0 hw [] ((p1 &&& (2147483647 : Int32)) % (11 : Int32)) w_HERTZ w_GIGAHERTZ w_KILOHERTZ w_ANGSTROM w_NANOMETRE w_JOULE w_MEGAHERTZ w_PER_CENTIMETRE w_PER_SECOND w_ELECTRONVOLT w_TERAHERTZ h0 S_HERTZ S_GIGAHERTZ S_KILOHERTZ S_ANGSTROM S_NANOMETRE S_JOULE S_MEGAHERTZ S_PER_CENTIMETRE S_PER_SECOND S_ELECTRONVOLT S_TERAHERTZ) hZ (hw _ (List.mem_of_getElem? (i := 7) rfl)) (hw _ (List.mem_of_getElem? (i := 3) rfl)) (by decide) (by decide)) (g := (mkF m 77 #[.val (.int p0), .val (.int p1), .val (.int ((p0 &&& (2147483647 : Int32)) % (11 : Int32))), .val (.int ((p1 &&& (2147483647 : Int32)) % (11 : Int32))), .val (.int (f1_0 ((p0 &&& (2147483647 : Int32)) % (11 : Int32)))), .val (.int (f1_0 ((p1 &&& (2147483647 : Int32)) % (11 : Int32)))), .val (.int v70_s0)] [(.int ((p1 &&& (2147483647 : Int32)) % (11 : Int32))), (.ref (f2_0 ((p0 &&& (2147483647 : Int32)) % (11 : Int32)) w_HERTZ w_GIGAHERTZ w_KILOHERTZ w_ANGSTROM w_NANOMETRE w_JOULE w_MEGAHERTZ w_PER_CENTIMETRE w_PER_SECOND w_ELECTRONVOLT w_TERAHERTZ))])) rfl (by rw [hml]; rfl) (argsL := [(.int ((p1 &&& (2147483647 : Int32)) % (11 : Int32)))]) (rest := [(.ref (f2_0 ((p0 &&& (2147483647 : Int32)) % (11 : Int32)) w_HERTZ w_GIGAHERTZ w_KILOHERTZ w_ANGSTROM w_NANOMETRE w_JOULE w_MEGAHERTZ w_PER_CENTIMETRE w_PER_SECOND w_ELECTRONVOLT w_TERAHERTZ))]) (lenOf pd_1 rfl) rfl (by show 2 * 0 + _ ≤ _; exact Nat.le_of_eq rfl) (hb hby at_77) (fun _ _ => ⟨rfl, e3, (by decide : 0 + 0 ≤ _), (by decide : 0 + 0 ≤ _)⟩)
    dsimp only [Pt.U, Pt.locs, Pt.cells, Pt.slots] at X5 l5 y5 z5 st5 hQ5
    subst l5 y5 z5
    obtain ⟨rfl, rfl, e5⟩ := hQ5
    try rw [List.append_nil] at X5
    have Uu6 : OkU Z h0 gq gp gi (f2_0 ((p1 &&& (2147483647 : Int32)) % (11 : Int32)) w_HERTZ w_GIGAHERTZ w_KILOHERTZ w_ANGSTROM w_NANOMETRE w_JOULE w_MEGAHERTZ w_PER_CENTIMETRE w_PER_SECOND w_ELECTRONVOLT w_TERAHERTZ) := own_unit (P := OkU Z h0 gq gp gi) ((p1 &&& (2147483647 : Int32)) % (11 : Int32)) w_HERTZ w_GIGAHERTZ w_KILOHERTZ w_ANGSTROM w_NANOMETRE w_JOULE w_MEGAHERTZ w_PER_CENTIMETRE w_PER_SECOND w_ELECTRONVOLT w_TERAHERTZ U_HERTZ U_GIGAHERTZ U_KILOHERTZ U_ANGSTROM U_NANOMETRE U_JOULE U_MEGAHERTZ U_PER_CENTIMETRE U_PER_SECOND U_ELECTRONVOLT U_TERAHERTZ
    refine Go.step (g' := (mkF m 80 #[.val (.int p0), .val (.int p1), .val (.int ((p0 &&& (2147483647 : Int32)) % (11 : Int32))), .val (.int ((p1 &&& (2147483647 : Int32)) % (11 : Int32))), .val (.int (f1_0 ((p0 &&& (2147483647 : Int32)) % (11 : Int32)))), .val (.int (f1_0 ((p1 &&& (2147483647 : Int32)) % (11 : Int32)))), .val (.int v70_s0)] [(.ref (f2_0 ((p1 &&& (2147483647 : Int32)) % (11 : Int32)) w_HERTZ w_GIGAHERTZ w_KILOHERTZ w_ANGSTROM w_NANOMETRE w_JOULE w_MEGAHERTZ w_PER_CENTIMETRE w_PER_SECOND w_ELECTRONVOLT w_TERAHERTZ)), (.ref (f2_0 ((p0 &&& (2147483647 : Int32)) % (11 : Int32)) w_HERTZ w_GIGAHERTZ w_KILOHERTZ w_ANGSTROM w_NANOMETRE w_JOULE w_MEGAHERTZ w_PER_CENTIMETRE w_PER_SECOND w_ELECTRONVOLT w_TERAHERTZ))])) st5 ?_
    obtain ⟨cq7, kq7, q7a, q7b, q7c⟩ := isOf hZ e5 Uu4.1
    obtain ⟨_, _, ⟨T7, L7, k7, n7⟩, -, X7, ⟨Lc7, hQ7, l7, y7, z7⟩, st7⟩ := X5.virtualBack hx (y := (⟨"com/example/lattice_node/latticenode/core/Unit", "invertsSpectrally", "(Lcom/example/lattice_node/latticenode/core/Unit;)Z"⟩ : MethodName)) (z := (⟨"com/example/lattice_node/latticenode/core/Unit", "invertsSpectrally", "(Lcom/example/lattice_node/latticenode/core/Unit;)Z"⟩ : MethodName)) hown (mvT hZ (hw _ (List.mem_of_getElem? (i := 13) rfl))) (mvT hZ (hw _ (List.mem_of_getElem? (i := 14) rfl))) (notFace_of_selects (args := #[]) (mvT hZ (hw _ (List.mem_of_getElem? (i := 16) rfl)))) (mvT hZ (hw _ (List.mem_of_getElem? (i := 16) rfl))) (mvT hZ (hw _ (List.mem_of_getElem? (i := 15) rfl))) (by decide) (backOf (W := 0) (rm3 l Z a0 hw [] (f2_0 ((p0 &&& (2147483647 : Int32)) % (11 : Int32)) w_HERTZ w_GIGAHERTZ w_KILOHERTZ w_ANGSTROM w_NANOMETRE w_JOULE w_MEGAHERTZ w_PER_CENTIMETRE w_PER_SECOND w_ELECTRONVOLT w_TERAHERTZ) (f2_0 ((p1 &&& (2147483647 : Int32)) % (11 : Int32)) w_HERTZ w_GIGAHERTZ w_KILOHERTZ w_ANGSTROM w_NANOMETRE w_JOULE w_MEGAHERTZ w_PER_CENTIMETRE w_PER_SECOND w_ELECTRONVOLT w_TERAHERTZ) gq gp gi h0 Uu4 Uu6) hZ (hw _ (List.mem_of_getElem? (i := 17) rfl)) (hw _ (List.mem_of_getElem? (i := 9) rfl)) (by decide) (by decide)) q7a q7c (g := (mkF m 80 #[.val (.int p0), .val (.int p1), .val (.int ((p0 &&& (2147483647 : Int32)) % (11 : Int32))), .val (.int ((p1 &&& (2147483647 : Int32)) % (11 : Int32))), .val (.int (f1_0 ((p0 &&& (2147483647 : Int32)) % (11 : Int32)))), .val (.int (f1_0 ((p1 &&& (2147483647 : Int32)) % (11 : Int32)))), .val (.int v70_s0)] [(.ref (f2_0 ((p1 &&& (2147483647 : Int32)) % (11 : Int32)) w_HERTZ w_GIGAHERTZ w_KILOHERTZ w_ANGSTROM w_NANOMETRE w_JOULE w_MEGAHERTZ w_PER_CENTIMETRE w_PER_SECOND w_ELECTRONVOLT w_TERAHERTZ)), (.ref (f2_0 ((p0 &&& (2147483647 : Int32)) % (11 : Int32)) w_HERTZ w_GIGAHERTZ w_KILOHERTZ w_ANGSTROM w_NANOMETRE w_JOULE w_MEGAHERTZ w_PER_CENTIMETRE w_PER_SECOND w_ELECTRONVOLT w_TERAHERTZ))])) rfl (by rw [hml]; rfl) (Steps.refl _) (argsL := [(.ref (f2_0 ((p1 &&& (2147483647 : Int32)) % (11 : Int32)) w_HERTZ w_GIGAHERTZ w_KILOHERTZ w_ANGSTROM w_NANOMETRE w_JOULE w_MEGAHERTZ w_PER_CENTIMETRE w_PER_SECOND w_ELECTRONVOLT w_TERAHERTZ))]) (rest := []) (lenOf pd_2 rfl) rfl (by show 2 * 0 + _ ≤ _; exact Nat.le_of_eq rfl) (hb hby at_80) (fun _ _ => ⟨rfl, e5, (by decide : 0 + 0 ≤ _), (by decide : 0 + 0 ≤ _)⟩)
    dsimp only [Pt.U, Pt.locs, Pt.cells, Pt.slots] at X7 l7 y7 z7 st7 hQ7
    subst l7 y7 z7
    obtain ⟨rfl, rfl, e7⟩ := hQ7
    try rw [List.append_nil] at X7
    refine Go.step (g' := (mkF m 83 #[.val (.int p0), .val (.int p1), .val (.int ((p0 &&& (2147483647 : Int32)) % (11 : Int32))), .val (.int ((p1 &&& (2147483647 : Int32)) % (11 : Int32))), .val (.int (f1_0 ((p0 &&& (2147483647 : Int32)) % (11 : Int32)))), .val (.int (f1_0 ((p1 &&& (2147483647 : Int32)) % (11 : Int32)))), .val (.int v70_s0)] [(.int (f3_0 (f2_0 ((p0 &&& (2147483647 : Int32)) % (11 : Int32)) w_HERTZ w_GIGAHERTZ w_KILOHERTZ w_ANGSTROM w_NANOMETRE w_JOULE w_MEGAHERTZ w_PER_CENTIMETRE w_PER_SECOND w_ELECTRONVOLT w_TERAHERTZ) (f2_0 ((p1 &&& (2147483647 : Int32)) % (11 : Int32)) w_HERTZ w_GIGAHERTZ w_KILOHERTZ w_ANGSTROM w_NANOMETRE w_JOULE w_MEGAHERTZ w_PER_CENTIMETRE w_PER_SECOND w_ELECTRONVOLT w_TERAHERTZ) gq gp gi))])) (fun _ k => st7.trans k) ?_
    refine Go.step (g' := (mkF m 85 #[.val (.int p0), .val (.int p1), .val (.int ((p0 &&& (2147483647 : Int32)) % (11 : Int32))), .val (.int ((p1 &&& (2147483647 : Int32)) % (11 : Int32))), .val (.int (f1_0 ((p0 &&& (2147483647 : Int32)) % (11 : Int32)))), .val (.int (f1_0 ((p1 &&& (2147483647 : Int32)) % (11 : Int32)))), .val (.int v70_s0)] [(.int v70_s0), (.int (f3_0 (f2_0 ((p0 &&& (2147483647 : Int32)) % (11 : Int32)) w_HERTZ w_GIGAHERTZ w_KILOHERTZ w_ANGSTROM w_NANOMETRE w_JOULE w_MEGAHERTZ w_PER_CENTIMETRE w_PER_SECOND w_ELECTRONVOLT w_TERAHERTZ) (f2_0 ((p1 &&& (2147483647 : Int32)) % (11 : Int32)) w_HERTZ w_GIGAHERTZ w_KILOHERTZ w_ANGSTROM w_NANOMETRE w_JOULE w_MEGAHERTZ w_PER_CENTIMETRE w_PER_SECOND w_ELECTRONVOLT w_TERAHERTZ) gq gp gi))])) (fun _ k => XS.iload X7.here hx rfl (hb hby at_83) rfl  k) ?_
    have t93 : ∀ (v93_s0 : Int32), Go p e below s room_1.cells room_1.slots (PureQ (.int (f0_93 v93_s0)) h0) T7 (mkF m 93 #[.val (.int p0), .val (.int p1), .val (.int ((p0 &&& (2147483647 : Int32)) % (11 : Int32))), .val (.int ((p1 &&& (2147483647 : Int32)) % (11 : Int32))), .val (.int (f1_0 ((p0 &&& (2147483647 : Int32)) % (11 : Int32)))), .val (.int (f1_0 ((p1 &&& (2147483647 : Int32)) % (11 : Int32)))), .val (.int v70_s0)] [(.int v93_s0)]) := by
      intro v93_s0
      exact Go.retN X7 hx hlk (t := .boolean) Bd.returns (by simp) (hb hby at_93) (by decide) (by decide) ⟨rfl, rfl, e7⟩
    by_cases hc85 : (f3_0 (f2_0 ((p0 &&& (2147483647 : Int32)) % (11 : Int32)) w_HERTZ w_GIGAHERTZ w_KILOHERTZ w_ANGSTROM w_NANOMETRE w_JOULE w_MEGAHERTZ w_PER_CENTIMETRE w_PER_SECOND w_ELECTRONVOLT w_TERAHERTZ) (f2_0 ((p1 &&& (2147483647 : Int32)) % (11 : Int32)) w_HERTZ w_GIGAHERTZ w_KILOHERTZ w_ANGSTROM w_NANOMETRE w_JOULE w_MEGAHERTZ w_PER_CENTIMETRE w_PER_SECOND w_ELECTRONVOLT w_TERAHERTZ) gq gp gi) = v70_s0
    · rw [show (f0_70 p0 p1 w_HERTZ w_GIGAHERTZ w_KILOHERTZ w_ANGSTROM w_NANOMETRE w_JOULE w_MEGAHERTZ w_PER_CENTIMETRE w_PER_SECOND w_ELECTRONVOLT w_TERAHERTZ gq gp gi v70_s0) = f0_88 from if_pos hc85]
      refine Go.step (g' := (mkF m 88 #[.val (.int p0), .val (.int p1), .val (.int ((p0 &&& (2147483647 : Int32)) % (11 : Int32))), .val (.int ((p1 &&& (2147483647 : Int32)) % (11 : Int32))), .val (.int (f1_0 ((p0 &&& (2147483647 : Int32)) % (11 : Int32)))), .val (.int (f1_0 ((p1 &&& (2147483647 : Int32)) % (11 : Int32)))), .val (.int v70_s0)] [])) (fun _ k => XS.icmpNo X7.here hx rfl (hb hby at_85) rfl (teq hc85).2 k) ?_
      refine Go.step (g' := (mkF m 89 #[.val (.int p0), .val (.int p1), .val (.int ((p0 &&& (2147483647 : Int32)) % (11 : Int32))), .val (.int ((p1 &&& (2147483647 : Int32)) % (11 : Int32))), .val (.int (f1_0 ((p0 &&& (2147483647 : Int32)) % (11 : Int32)))), .val (.int (f1_0 ((p1 &&& (2147483647 : Int32)) % (11 : Int32)))), .val (.int v70_s0)] [(.int (1 : Int32))])) (fun _ k => XS.iconst X7.here hx rfl (hb hby at_88) k) ?_
      refine Go.step (g' := (mkF m 93 #[.val (.int p0), .val (.int p1), .val (.int ((p0 &&& (2147483647 : Int32)) % (11 : Int32))), .val (.int ((p1 &&& (2147483647 : Int32)) % (11 : Int32))), .val (.int (f1_0 ((p0 &&& (2147483647 : Int32)) % (11 : Int32)))), .val (.int (f1_0 ((p1 &&& (2147483647 : Int32)) % (11 : Int32)))), .val (.int v70_s0)] [(.int (1 : Int32))])) (fun _ k => XS.goto X7.here hx rfl (pc0 := 89) (pc' := 93) rfl (hb hby at_89) (by decide) (by decide) k) ?_
      rw [show f0_88 = (f0_93 (1 : Int32)) from rfl]
      exact t93 (1 : Int32)
    · rw [show (f0_70 p0 p1 w_HERTZ w_GIGAHERTZ w_KILOHERTZ w_ANGSTROM w_NANOMETRE w_JOULE w_MEGAHERTZ w_PER_CENTIMETRE w_PER_SECOND w_ELECTRONVOLT w_TERAHERTZ gq gp gi v70_s0) = f0_92 from if_neg hc85]
      refine Go.step (g' := (mkF m 92 #[.val (.int p0), .val (.int p1), .val (.int ((p0 &&& (2147483647 : Int32)) % (11 : Int32))), .val (.int ((p1 &&& (2147483647 : Int32)) % (11 : Int32))), .val (.int (f1_0 ((p0 &&& (2147483647 : Int32)) % (11 : Int32)))), .val (.int (f1_0 ((p1 &&& (2147483647 : Int32)) % (11 : Int32)))), .val (.int v70_s0)] [])) (fun _ k => XS.icmpYes X7.here hx rfl (pc0 := 85) (pc' := 92) rfl (hb hby at_85) rfl (feq hc85).2 (by decide) (by decide) k) ?_
      refine Go.step (g' := (mkF m 93 #[.val (.int p0), .val (.int p1), .val (.int ((p0 &&& (2147483647 : Int32)) % (11 : Int32))), .val (.int ((p1 &&& (2147483647 : Int32)) % (11 : Int32))), .val (.int (f1_0 ((p0 &&& (2147483647 : Int32)) % (11 : Int32)))), .val (.int (f1_0 ((p1 &&& (2147483647 : Int32)) % (11 : Int32)))), .val (.int v70_s0)] [(.int (0 : Int32))])) (fun _ k => XS.iconst X7.here hx rfl (hb hby at_92) k) ?_
      rw [show f0_92 = (f0_93 (0 : Int32)) from rfl]
      exact t93 (0 : Int32)
  have t69 : Go p e below s room_1.cells room_1.slots (PureQ (.int (f0_69 p0 p1 w_HERTZ w_GIGAHERTZ w_KILOHERTZ w_ANGSTROM w_NANOMETRE w_JOULE w_MEGAHERTZ w_PER_CENTIMETRE w_PER_SECOND w_ELECTRONVOLT w_TERAHERTZ gq gp gi)) h0) T2 (mkF m 69 #[.val (.int p0), .val (.int p1), .val (.int ((p0 &&& (2147483647 : Int32)) % (11 : Int32))), .val (.int ((p1 &&& (2147483647 : Int32)) % (11 : Int32))), .val (.int (f1_0 ((p0 &&& (2147483647 : Int32)) % (11 : Int32)))), .val (.int (f1_0 ((p1 &&& (2147483647 : Int32)) % (11 : Int32)))), .unset] []) := by
    refine Go.step (g' := (mkF m 70 #[.val (.int p0), .val (.int p1), .val (.int ((p0 &&& (2147483647 : Int32)) % (11 : Int32))), .val (.int ((p1 &&& (2147483647 : Int32)) % (11 : Int32))), .val (.int (f1_0 ((p0 &&& (2147483647 : Int32)) % (11 : Int32)))), .val (.int (f1_0 ((p1 &&& (2147483647 : Int32)) % (11 : Int32)))), .unset] [(.int (0 : Int32))])) (fun _ k => XS.iconst X2.here hx rfl (hb hby at_69) k) ?_
    rw [show (f0_69 p0 p1 w_HERTZ w_GIGAHERTZ w_KILOHERTZ w_ANGSTROM w_NANOMETRE w_JOULE w_MEGAHERTZ w_PER_CENTIMETRE w_PER_SECOND w_ELECTRONVOLT w_TERAHERTZ gq gp gi) = (f0_70 p0 p1 w_HERTZ w_GIGAHERTZ w_KILOHERTZ w_ANGSTROM w_NANOMETRE w_JOULE w_MEGAHERTZ w_PER_CENTIMETRE w_PER_SECOND w_ELECTRONVOLT w_TERAHERTZ gq gp gi (0 : Int32)) from rfl]
    exact t70 (0 : Int32)
  by_cases hc31 : (f1_0 ((p0 &&& (2147483647 : Int32)) % (11 : Int32))) = (2 : Int32)
  · rw [show (f0_0 p0 p1 w_HERTZ w_GIGAHERTZ w_KILOHERTZ w_ANGSTROM w_NANOMETRE w_JOULE w_MEGAHERTZ w_PER_CENTIMETRE w_PER_SECOND w_ELECTRONVOLT w_TERAHERTZ gq gp gi) = (f0_69 p0 p1 w_HERTZ w_GIGAHERTZ w_KILOHERTZ w_ANGSTROM w_NANOMETRE w_JOULE w_MEGAHERTZ w_PER_CENTIMETRE w_PER_SECOND w_ELECTRONVOLT w_TERAHERTZ gq gp gi) from if_pos hc31]
    refine Go.step (g' := (mkF m 69 #[.val (.int p0), .val (.int p1), .val (.int ((p0 &&& (2147483647 : Int32)) % (11 : Int32))), .val (.int ((p1 &&& (2147483647 : Int32)) % (11 : Int32))), .val (.int (f1_0 ((p0 &&& (2147483647 : Int32)) % (11 : Int32)))), .val (.int (f1_0 ((p1 &&& (2147483647 : Int32)) % (11 : Int32)))), .unset] [])) (fun _ k => XS.icmpYes X2.here hx rfl (pc0 := 31) (pc' := 69) rfl (hb hby at_31) rfl (teq hc31).1 (by decide) (by decide) k) ?_
    exact t69 
  · rw [show (f0_0 p0 p1 w_HERTZ w_GIGAHERTZ w_KILOHERTZ w_ANGSTROM w_NANOMETRE w_JOULE w_MEGAHERTZ w_PER_CENTIMETRE w_PER_SECOND w_ELECTRONVOLT w_TERAHERTZ gq gp gi) = (f0_34 p0 p1 w_HERTZ w_GIGAHERTZ w_KILOHERTZ w_ANGSTROM w_NANOMETRE w_JOULE w_MEGAHERTZ w_PER_CENTIMETRE w_PER_SECOND w_ELECTRONVOLT w_TERAHERTZ gq gp gi) from if_neg hc31]
    refine Go.step (g' := (mkF m 34 #[.val (.int p0), .val (.int p1), .val (.int ((p0 &&& (2147483647 : Int32)) % (11 : Int32))), .val (.int ((p1 &&& (2147483647 : Int32)) % (11 : Int32))), .val (.int (f1_0 ((p0 &&& (2147483647 : Int32)) % (11 : Int32)))), .val (.int (f1_0 ((p1 &&& (2147483647 : Int32)) % (11 : Int32)))), .unset] [])) (fun _ k => XS.icmpNo X2.here hx rfl (hb hby at_31) rfl (feq hc31).1 k) ?_
    refine Go.step (g' := (mkF m 36 #[.val (.int p0), .val (.int p1), .val (.int ((p0 &&& (2147483647 : Int32)) % (11 : Int32))), .val (.int ((p1 &&& (2147483647 : Int32)) % (11 : Int32))), .val (.int (f1_0 ((p0 &&& (2147483647 : Int32)) % (11 : Int32)))), .val (.int (f1_0 ((p1 &&& (2147483647 : Int32)) % (11 : Int32)))), .unset] [(.int (f1_0 ((p1 &&& (2147483647 : Int32)) % (11 : Int32))))])) (fun _ k => XS.iload X2.here hx rfl (hb hby at_34) rfl  k) ?_
    refine Go.step (g' := (mkF m 37 #[.val (.int p0), .val (.int p1), .val (.int ((p0 &&& (2147483647 : Int32)) % (11 : Int32))), .val (.int ((p1 &&& (2147483647 : Int32)) % (11 : Int32))), .val (.int (f1_0 ((p0 &&& (2147483647 : Int32)) % (11 : Int32)))), .val (.int (f1_0 ((p1 &&& (2147483647 : Int32)) % (11 : Int32)))), .unset] [(.int (2 : Int32)), (.int (f1_0 ((p1 &&& (2147483647 : Int32)) % (11 : Int32))))])) (fun _ k => XS.iconst X2.here hx rfl (hb hby at_36) k) ?_
    by_cases hc37 : (f1_0 ((p1 &&& (2147483647 : Int32)) % (11 : Int32))) = (2 : Int32)
    · rw [show (f0_34 p0 p1 w_HERTZ w_GIGAHERTZ w_KILOHERTZ w_ANGSTROM w_NANOMETRE w_JOULE w_MEGAHERTZ w_PER_CENTIMETRE w_PER_SECOND w_ELECTRONVOLT w_TERAHERTZ gq gp gi) = (f0_69 p0 p1 w_HERTZ w_GIGAHERTZ w_KILOHERTZ w_ANGSTROM w_NANOMETRE w_JOULE w_MEGAHERTZ w_PER_CENTIMETRE w_PER_SECOND w_ELECTRONVOLT w_TERAHERTZ gq gp gi) from if_pos hc37]
      refine Go.step (g' := (mkF m 69 #[.val (.int p0), .val (.int p1), .val (.int ((p0 &&& (2147483647 : Int32)) % (11 : Int32))), .val (.int ((p1 &&& (2147483647 : Int32)) % (11 : Int32))), .val (.int (f1_0 ((p0 &&& (2147483647 : Int32)) % (11 : Int32)))), .val (.int (f1_0 ((p1 &&& (2147483647 : Int32)) % (11 : Int32)))), .unset] [])) (fun _ k => XS.icmpYes X2.here hx rfl (pc0 := 37) (pc' := 69) rfl (hb hby at_37) rfl (teq hc37).1 (by decide) (by decide) k) ?_
      exact t69 
    · rw [show (f0_34 p0 p1 w_HERTZ w_GIGAHERTZ w_KILOHERTZ w_ANGSTROM w_NANOMETRE w_JOULE w_MEGAHERTZ w_PER_CENTIMETRE w_PER_SECOND w_ELECTRONVOLT w_TERAHERTZ gq gp gi) = (f0_40 p0 p1 w_HERTZ w_GIGAHERTZ w_KILOHERTZ w_ANGSTROM w_NANOMETRE w_JOULE w_MEGAHERTZ w_PER_CENTIMETRE w_PER_SECOND w_ELECTRONVOLT w_TERAHERTZ gq gp gi) from if_neg hc37]
      refine Go.step (g' := (mkF m 40 #[.val (.int p0), .val (.int p1), .val (.int ((p0 &&& (2147483647 : Int32)) % (11 : Int32))), .val (.int ((p1 &&& (2147483647 : Int32)) % (11 : Int32))), .val (.int (f1_0 ((p0 &&& (2147483647 : Int32)) % (11 : Int32)))), .val (.int (f1_0 ((p1 &&& (2147483647 : Int32)) % (11 : Int32)))), .unset] [])) (fun _ k => XS.icmpNo X2.here hx rfl (hb hby at_37) rfl (feq hc37).1 k) ?_
      refine Go.step (g' := (mkF m 42 #[.val (.int p0), .val (.int p1), .val (.int ((p0 &&& (2147483647 : Int32)) % (11 : Int32))), .val (.int ((p1 &&& (2147483647 : Int32)) % (11 : Int32))), .val (.int (f1_0 ((p0 &&& (2147483647 : Int32)) % (11 : Int32)))), .val (.int (f1_0 ((p1 &&& (2147483647 : Int32)) % (11 : Int32)))), .unset] [(.int (f1_0 ((p0 &&& (2147483647 : Int32)) % (11 : Int32))))])) (fun _ k => XS.iload X2.here hx rfl (hb hby at_40) rfl  k) ?_
      refine Go.step (g' := (mkF m 43 #[.val (.int p0), .val (.int p1), .val (.int ((p0 &&& (2147483647 : Int32)) % (11 : Int32))), .val (.int ((p1 &&& (2147483647 : Int32)) % (11 : Int32))), .val (.int (f1_0 ((p0 &&& (2147483647 : Int32)) % (11 : Int32)))), .val (.int (f1_0 ((p1 &&& (2147483647 : Int32)) % (11 : Int32)))), .unset] [(.int (3 : Int32)), (.int (f1_0 ((p0 &&& (2147483647 : Int32)) % (11 : Int32))))])) (fun _ k => XS.iconst X2.here hx rfl (hb hby at_42) k) ?_
      have t51 : ∀ (v51_s0 : Int32), Go p e below s room_1.cells room_1.slots (PureQ (.int (f0_51 p0 p1 w_HERTZ w_GIGAHERTZ w_KILOHERTZ w_ANGSTROM w_NANOMETRE w_JOULE w_MEGAHERTZ w_PER_CENTIMETRE w_PER_SECOND w_ELECTRONVOLT w_TERAHERTZ gq gp gi v51_s0)) h0) T2 (mkF m 51 #[.val (.int p0), .val (.int p1), .val (.int ((p0 &&& (2147483647 : Int32)) % (11 : Int32))), .val (.int ((p1 &&& (2147483647 : Int32)) % (11 : Int32))), .val (.int (f1_0 ((p0 &&& (2147483647 : Int32)) % (11 : Int32)))), .val (.int (f1_0 ((p1 &&& (2147483647 : Int32)) % (11 : Int32)))), .unset] [(.int v51_s0)]) := by
        intro v51_s0
        refine Go.step (g' := (mkF m 53 #[.val (.int p0), .val (.int p1), .val (.int ((p0 &&& (2147483647 : Int32)) % (11 : Int32))), .val (.int ((p1 &&& (2147483647 : Int32)) % (11 : Int32))), .val (.int (f1_0 ((p0 &&& (2147483647 : Int32)) % (11 : Int32)))), .val (.int (f1_0 ((p1 &&& (2147483647 : Int32)) % (11 : Int32)))), .unset] [(.int (f1_0 ((p1 &&& (2147483647 : Int32)) % (11 : Int32)))), (.int v51_s0)])) (fun _ k => XS.iload X2.here hx rfl (hb hby at_51) rfl  k) ?_
        refine Go.step (g' := (mkF m 54 #[.val (.int p0), .val (.int p1), .val (.int ((p0 &&& (2147483647 : Int32)) % (11 : Int32))), .val (.int ((p1 &&& (2147483647 : Int32)) % (11 : Int32))), .val (.int (f1_0 ((p0 &&& (2147483647 : Int32)) % (11 : Int32)))), .val (.int (f1_0 ((p1 &&& (2147483647 : Int32)) % (11 : Int32)))), .unset] [(.int (3 : Int32)), (.int (f1_0 ((p1 &&& (2147483647 : Int32)) % (11 : Int32)))), (.int v51_s0)])) (fun _ k => XS.iconst X2.here hx rfl (hb hby at_53) k) ?_
        have t62 : ∀ (v62_s0 : Int32), Go p e below s room_1.cells room_1.slots (PureQ (.int (f0_62 p0 p1 w_HERTZ w_GIGAHERTZ w_KILOHERTZ w_ANGSTROM w_NANOMETRE w_JOULE w_MEGAHERTZ w_PER_CENTIMETRE w_PER_SECOND w_ELECTRONVOLT w_TERAHERTZ gq gp gi v51_s0 v62_s0)) h0) T2 (mkF m 62 #[.val (.int p0), .val (.int p1), .val (.int ((p0 &&& (2147483647 : Int32)) % (11 : Int32))), .val (.int ((p1 &&& (2147483647 : Int32)) % (11 : Int32))), .val (.int (f1_0 ((p0 &&& (2147483647 : Int32)) % (11 : Int32)))), .val (.int (f1_0 ((p1 &&& (2147483647 : Int32)) % (11 : Int32)))), .unset] [(.int v62_s0), (.int v51_s0)]) := by
          intro v62_s0
          by_cases hc62 : v51_s0 = v62_s0
          · rw [show (f0_62 p0 p1 w_HERTZ w_GIGAHERTZ w_KILOHERTZ w_ANGSTROM w_NANOMETRE w_JOULE w_MEGAHERTZ w_PER_CENTIMETRE w_PER_SECOND w_ELECTRONVOLT w_TERAHERTZ gq gp gi v51_s0 v62_s0) = (f0_69 p0 p1 w_HERTZ w_GIGAHERTZ w_KILOHERTZ w_ANGSTROM w_NANOMETRE w_JOULE w_MEGAHERTZ w_PER_CENTIMETRE w_PER_SECOND w_ELECTRONVOLT w_TERAHERTZ gq gp gi) from if_pos hc62]
            refine Go.step (g' := (mkF m 69 #[.val (.int p0), .val (.int p1), .val (.int ((p0 &&& (2147483647 : Int32)) % (11 : Int32))), .val (.int ((p1 &&& (2147483647 : Int32)) % (11 : Int32))), .val (.int (f1_0 ((p0 &&& (2147483647 : Int32)) % (11 : Int32)))), .val (.int (f1_0 ((p1 &&& (2147483647 : Int32)) % (11 : Int32)))), .unset] [])) (fun _ k => XS.icmpYes X2.here hx rfl (pc0 := 62) (pc' := 69) rfl (hb hby at_62) rfl (teq hc62).1 (by decide) (by decide) k) ?_
            exact t69 
          · rw [show (f0_62 p0 p1 w_HERTZ w_GIGAHERTZ w_KILOHERTZ w_ANGSTROM w_NANOMETRE w_JOULE w_MEGAHERTZ w_PER_CENTIMETRE w_PER_SECOND w_ELECTRONVOLT w_TERAHERTZ gq gp gi v51_s0 v62_s0) = (f0_65 p0 p1 w_HERTZ w_GIGAHERTZ w_KILOHERTZ w_ANGSTROM w_NANOMETRE w_JOULE w_MEGAHERTZ w_PER_CENTIMETRE w_PER_SECOND w_ELECTRONVOLT w_TERAHERTZ gq gp gi) from if_neg hc62]
            refine Go.step (g' := (mkF m 65 #[.val (.int p0), .val (.int p1), .val (.int ((p0 &&& (2147483647 : Int32)) % (11 : Int32))), .val (.int ((p1 &&& (2147483647 : Int32)) % (11 : Int32))), .val (.int (f1_0 ((p0 &&& (2147483647 : Int32)) % (11 : Int32)))), .val (.int (f1_0 ((p1 &&& (2147483647 : Int32)) % (11 : Int32)))), .unset] [])) (fun _ k => XS.icmpNo X2.here hx rfl (hb hby at_62) rfl (feq hc62).1 k) ?_
            refine Go.step (g' := (mkF m 66 #[.val (.int p0), .val (.int p1), .val (.int ((p0 &&& (2147483647 : Int32)) % (11 : Int32))), .val (.int ((p1 &&& (2147483647 : Int32)) % (11 : Int32))), .val (.int (f1_0 ((p0 &&& (2147483647 : Int32)) % (11 : Int32)))), .val (.int (f1_0 ((p1 &&& (2147483647 : Int32)) % (11 : Int32)))), .unset] [(.int (1 : Int32))])) (fun _ k => XS.iconst X2.here hx rfl (hb hby at_65) k) ?_
            refine Go.step (g' := (mkF m 70 #[.val (.int p0), .val (.int p1), .val (.int ((p0 &&& (2147483647 : Int32)) % (11 : Int32))), .val (.int ((p1 &&& (2147483647 : Int32)) % (11 : Int32))), .val (.int (f1_0 ((p0 &&& (2147483647 : Int32)) % (11 : Int32)))), .val (.int (f1_0 ((p1 &&& (2147483647 : Int32)) % (11 : Int32)))), .unset] [(.int (1 : Int32))])) (fun _ k => XS.goto X2.here hx rfl (pc0 := 66) (pc' := 70) rfl (hb hby at_66) (by decide) (by decide) k) ?_
            rw [show (f0_65 p0 p1 w_HERTZ w_GIGAHERTZ w_KILOHERTZ w_ANGSTROM w_NANOMETRE w_JOULE w_MEGAHERTZ w_PER_CENTIMETRE w_PER_SECOND w_ELECTRONVOLT w_TERAHERTZ gq gp gi) = (f0_70 p0 p1 w_HERTZ w_GIGAHERTZ w_KILOHERTZ w_ANGSTROM w_NANOMETRE w_JOULE w_MEGAHERTZ w_PER_CENTIMETRE w_PER_SECOND w_ELECTRONVOLT w_TERAHERTZ gq gp gi (1 : Int32)) from rfl]
            exact t70 (1 : Int32)
        by_cases hc54 : (f1_0 ((p1 &&& (2147483647 : Int32)) % (11 : Int32))) = (3 : Int32)
        · rw [show (f0_51 p0 p1 w_HERTZ w_GIGAHERTZ w_KILOHERTZ w_ANGSTROM w_NANOMETRE w_JOULE w_MEGAHERTZ w_PER_CENTIMETRE w_PER_SECOND w_ELECTRONVOLT w_TERAHERTZ gq gp gi v51_s0) = (f0_57 p0 p1 w_HERTZ w_GIGAHERTZ w_KILOHERTZ w_ANGSTROM w_NANOMETRE w_JOULE w_MEGAHERTZ w_PER_CENTIMETRE w_PER_SECOND w_ELECTRONVOLT w_TERAHERTZ gq gp gi v51_s0) from if_pos hc54]
          refine Go.step (g' := (mkF m 57 #[.val (.int p0), .val (.int p1), .val (.int ((p0 &&& (2147483647 : Int32)) % (11 : Int32))), .val (.int ((p1 &&& (2147483647 : Int32)) % (11 : Int32))), .val (.int (f1_0 ((p0 &&& (2147483647 : Int32)) % (11 : Int32)))), .val (.int (f1_0 ((p1 &&& (2147483647 : Int32)) % (11 : Int32)))), .unset] [(.int v51_s0)])) (fun _ k => XS.icmpNo X2.here hx rfl (hb hby at_54) rfl (teq hc54).2 k) ?_
          refine Go.step (g' := (mkF m 58 #[.val (.int p0), .val (.int p1), .val (.int ((p0 &&& (2147483647 : Int32)) % (11 : Int32))), .val (.int ((p1 &&& (2147483647 : Int32)) % (11 : Int32))), .val (.int (f1_0 ((p0 &&& (2147483647 : Int32)) % (11 : Int32)))), .val (.int (f1_0 ((p1 &&& (2147483647 : Int32)) % (11 : Int32)))), .unset] [(.int (1 : Int32)), (.int v51_s0)])) (fun _ k => XS.iconst X2.here hx rfl (hb hby at_57) k) ?_
          refine Go.step (g' := (mkF m 62 #[.val (.int p0), .val (.int p1), .val (.int ((p0 &&& (2147483647 : Int32)) % (11 : Int32))), .val (.int ((p1 &&& (2147483647 : Int32)) % (11 : Int32))), .val (.int (f1_0 ((p0 &&& (2147483647 : Int32)) % (11 : Int32)))), .val (.int (f1_0 ((p1 &&& (2147483647 : Int32)) % (11 : Int32)))), .unset] [(.int (1 : Int32)), (.int v51_s0)])) (fun _ k => XS.goto X2.here hx rfl (pc0 := 58) (pc' := 62) rfl (hb hby at_58) (by decide) (by decide) k) ?_
          rw [show (f0_57 p0 p1 w_HERTZ w_GIGAHERTZ w_KILOHERTZ w_ANGSTROM w_NANOMETRE w_JOULE w_MEGAHERTZ w_PER_CENTIMETRE w_PER_SECOND w_ELECTRONVOLT w_TERAHERTZ gq gp gi v51_s0) = (f0_62 p0 p1 w_HERTZ w_GIGAHERTZ w_KILOHERTZ w_ANGSTROM w_NANOMETRE w_JOULE w_MEGAHERTZ w_PER_CENTIMETRE w_PER_SECOND w_ELECTRONVOLT w_TERAHERTZ gq gp gi v51_s0 (1 : Int32)) from rfl]
          exact t62 (1 : Int32)
        · rw [show (f0_51 p0 p1 w_HERTZ w_GIGAHERTZ w_KILOHERTZ w_ANGSTROM w_NANOMETRE w_JOULE w_MEGAHERTZ w_PER_CENTIMETRE w_PER_SECOND w_ELECTRONVOLT w_TERAHERTZ gq gp gi v51_s0) = (f0_61 p0 p1 w_HERTZ w_GIGAHERTZ w_KILOHERTZ w_ANGSTROM w_NANOMETRE w_JOULE w_MEGAHERTZ w_PER_CENTIMETRE w_PER_SECOND w_ELECTRONVOLT w_TERAHERTZ gq gp gi v51_s0) from if_neg hc54]
          refine Go.step (g' := (mkF m 61 #[.val (.int p0), .val (.int p1), .val (.int ((p0 &&& (2147483647 : Int32)) % (11 : Int32))), .val (.int ((p1 &&& (2147483647 : Int32)) % (11 : Int32))), .val (.int (f1_0 ((p0 &&& (2147483647 : Int32)) % (11 : Int32)))), .val (.int (f1_0 ((p1 &&& (2147483647 : Int32)) % (11 : Int32)))), .unset] [(.int v51_s0)])) (fun _ k => XS.icmpYes X2.here hx rfl (pc0 := 54) (pc' := 61) rfl (hb hby at_54) rfl (feq hc54).2 (by decide) (by decide) k) ?_
          refine Go.step (g' := (mkF m 62 #[.val (.int p0), .val (.int p1), .val (.int ((p0 &&& (2147483647 : Int32)) % (11 : Int32))), .val (.int ((p1 &&& (2147483647 : Int32)) % (11 : Int32))), .val (.int (f1_0 ((p0 &&& (2147483647 : Int32)) % (11 : Int32)))), .val (.int (f1_0 ((p1 &&& (2147483647 : Int32)) % (11 : Int32)))), .unset] [(.int (0 : Int32)), (.int v51_s0)])) (fun _ k => XS.iconst X2.here hx rfl (hb hby at_61) k) ?_
          rw [show (f0_61 p0 p1 w_HERTZ w_GIGAHERTZ w_KILOHERTZ w_ANGSTROM w_NANOMETRE w_JOULE w_MEGAHERTZ w_PER_CENTIMETRE w_PER_SECOND w_ELECTRONVOLT w_TERAHERTZ gq gp gi v51_s0) = (f0_62 p0 p1 w_HERTZ w_GIGAHERTZ w_KILOHERTZ w_ANGSTROM w_NANOMETRE w_JOULE w_MEGAHERTZ w_PER_CENTIMETRE w_PER_SECOND w_ELECTRONVOLT w_TERAHERTZ gq gp gi v51_s0 (0 : Int32)) from rfl]
          exact t62 (0 : Int32)
      by_cases hc43 : (f1_0 ((p0 &&& (2147483647 : Int32)) % (11 : Int32))) = (3 : Int32)
      · rw [show (f0_40 p0 p1 w_HERTZ w_GIGAHERTZ w_KILOHERTZ w_ANGSTROM w_NANOMETRE w_JOULE w_MEGAHERTZ w_PER_CENTIMETRE w_PER_SECOND w_ELECTRONVOLT w_TERAHERTZ gq gp gi) = (f0_46 p0 p1 w_HERTZ w_GIGAHERTZ w_KILOHERTZ w_ANGSTROM w_NANOMETRE w_JOULE w_MEGAHERTZ w_PER_CENTIMETRE w_PER_SECOND w_ELECTRONVOLT w_TERAHERTZ gq gp gi) from if_pos hc43]
        refine Go.step (g' := (mkF m 46 #[.val (.int p0), .val (.int p1), .val (.int ((p0 &&& (2147483647 : Int32)) % (11 : Int32))), .val (.int ((p1 &&& (2147483647 : Int32)) % (11 : Int32))), .val (.int (f1_0 ((p0 &&& (2147483647 : Int32)) % (11 : Int32)))), .val (.int (f1_0 ((p1 &&& (2147483647 : Int32)) % (11 : Int32)))), .unset] [])) (fun _ k => XS.icmpNo X2.here hx rfl (hb hby at_43) rfl (teq hc43).2 k) ?_
        refine Go.step (g' := (mkF m 47 #[.val (.int p0), .val (.int p1), .val (.int ((p0 &&& (2147483647 : Int32)) % (11 : Int32))), .val (.int ((p1 &&& (2147483647 : Int32)) % (11 : Int32))), .val (.int (f1_0 ((p0 &&& (2147483647 : Int32)) % (11 : Int32)))), .val (.int (f1_0 ((p1 &&& (2147483647 : Int32)) % (11 : Int32)))), .unset] [(.int (1 : Int32))])) (fun _ k => XS.iconst X2.here hx rfl (hb hby at_46) k) ?_
        refine Go.step (g' := (mkF m 51 #[.val (.int p0), .val (.int p1), .val (.int ((p0 &&& (2147483647 : Int32)) % (11 : Int32))), .val (.int ((p1 &&& (2147483647 : Int32)) % (11 : Int32))), .val (.int (f1_0 ((p0 &&& (2147483647 : Int32)) % (11 : Int32)))), .val (.int (f1_0 ((p1 &&& (2147483647 : Int32)) % (11 : Int32)))), .unset] [(.int (1 : Int32))])) (fun _ k => XS.goto X2.here hx rfl (pc0 := 47) (pc' := 51) rfl (hb hby at_47) (by decide) (by decide) k) ?_
        rw [show (f0_46 p0 p1 w_HERTZ w_GIGAHERTZ w_KILOHERTZ w_ANGSTROM w_NANOMETRE w_JOULE w_MEGAHERTZ w_PER_CENTIMETRE w_PER_SECOND w_ELECTRONVOLT w_TERAHERTZ gq gp gi) = (f0_51 p0 p1 w_HERTZ w_GIGAHERTZ w_KILOHERTZ w_ANGSTROM w_NANOMETRE w_JOULE w_MEGAHERTZ w_PER_CENTIMETRE w_PER_SECOND w_ELECTRONVOLT w_TERAHERTZ gq gp gi (1 : Int32)) from rfl]
        exact t51 (1 : Int32)
      · rw [show (f0_40 p0 p1 w_HERTZ w_GIGAHERTZ w_KILOHERTZ w_ANGSTROM w_NANOMETRE w_JOULE w_MEGAHERTZ w_PER_CENTIMETRE w_PER_SECOND w_ELECTRONVOLT w_TERAHERTZ gq gp gi) = (f0_50 p0 p1 w_HERTZ w_GIGAHERTZ w_KILOHERTZ w_ANGSTROM w_NANOMETRE w_JOULE w_MEGAHERTZ w_PER_CENTIMETRE w_PER_SECOND w_ELECTRONVOLT w_TERAHERTZ gq gp gi) from if_neg hc43]
        refine Go.step (g' := (mkF m 50 #[.val (.int p0), .val (.int p1), .val (.int ((p0 &&& (2147483647 : Int32)) % (11 : Int32))), .val (.int ((p1 &&& (2147483647 : Int32)) % (11 : Int32))), .val (.int (f1_0 ((p0 &&& (2147483647 : Int32)) % (11 : Int32)))), .val (.int (f1_0 ((p1 &&& (2147483647 : Int32)) % (11 : Int32)))), .unset] [])) (fun _ k => XS.icmpYes X2.here hx rfl (pc0 := 43) (pc' := 50) rfl (hb hby at_43) rfl (feq hc43).2 (by decide) (by decide) k) ?_
        refine Go.step (g' := (mkF m 51 #[.val (.int p0), .val (.int p1), .val (.int ((p0 &&& (2147483647 : Int32)) % (11 : Int32))), .val (.int ((p1 &&& (2147483647 : Int32)) % (11 : Int32))), .val (.int (f1_0 ((p0 &&& (2147483647 : Int32)) % (11 : Int32)))), .val (.int (f1_0 ((p1 &&& (2147483647 : Int32)) % (11 : Int32)))), .unset] [(.int (0 : Int32))])) (fun _ k => XS.iconst X2.here hx rfl (hb hby at_50) k) ?_
        rw [show (f0_50 p0 p1 w_HERTZ w_GIGAHERTZ w_KILOHERTZ w_ANGSTROM w_NANOMETRE w_JOULE w_MEGAHERTZ w_PER_CENTIMETRE w_PER_SECOND w_ELECTRONVOLT w_TERAHERTZ gq gp gi) = (f0_51 p0 p1 w_HERTZ w_GIGAHERTZ w_KILOHERTZ w_ANGSTROM w_NANOMETRE w_JOULE w_MEGAHERTZ w_PER_CENTIMETRE w_PER_SECOND w_ELECTRONVOLT w_TERAHERTZ gq gp gi (0 : Int32)) from rfl]
        exact t51 (0 : Int32)
theorem own_k (x : Int32) : ∃ k : Fin 11, (x &&& 2147483647) % 11 = Int32.ofNat k.val := by
  have e : (x &&& (2147483647 : Int32)).toInt = x.toInt % (2 ^ 31 : Nat) := c_mask x 2147483647 31 (by decide) (by decide)
  have q : (11 : Int32).toInt = 11 := by decide
  have r := (c_irem (x &&& 2147483647) 11 11 q).1 (by omega)
  have r1 : 0 ≤ ((x &&& (2147483647 : Int32)) % 11).toInt := by omega
  have r2 : ((x &&& (2147483647 : Int32)) % 11).toInt < 11 := by omega
  generalize (x &&& (2147483647 : Int32)) % 11 = z at *
  refine ⟨⟨z.toInt.toNat, by omega⟩, ?_⟩
  apply Int32.toInt_inj.mp
  rw [Int32.toInt_ofNat_of_lt (by simp only; omega)]
  simp only; omega
theorem own_unit_at (k : Fin 11) (w_HERTZ : Addr) (w_GIGAHERTZ : Addr) (w_KILOHERTZ : Addr) (w_ANGSTROM : Addr) (w_NANOMETRE : Addr) (w_JOULE : Addr) (w_MEGAHERTZ : Addr) (w_PER_CENTIMETRE : Addr) (w_PER_SECOND : Addr) (w_ELECTRONVOLT : Addr) (w_TERAHERTZ : Addr) : f2_0 (Int32.ofNat k.val) w_HERTZ w_GIGAHERTZ w_KILOHERTZ w_ANGSTROM w_NANOMETRE w_JOULE w_MEGAHERTZ w_PER_CENTIMETRE w_PER_SECOND w_ELECTRONVOLT w_TERAHERTZ = [w_HERTZ, w_KILOHERTZ, w_MEGAHERTZ, w_GIGAHERTZ, w_TERAHERTZ, w_JOULE, w_PER_CENTIMETRE, w_ELECTRONVOLT, w_PER_SECOND, w_ANGSTROM, w_NANOMETRE].getD k.val 0 := by
  match k with
  | ⟨0, _⟩ => rfl
  | ⟨1, _⟩ => rfl
  | ⟨2, _⟩ => rfl
  | ⟨3, _⟩ => rfl
  | ⟨4, _⟩ => rfl
  | ⟨5, _⟩ => rfl
  | ⟨6, _⟩ => rfl
  | ⟨7, _⟩ => rfl
  | ⟨8, _⟩ => rfl
  | ⟨9, _⟩ => rfl
  | ⟨10, _⟩ => rfl
theorem own_kind_at (k : Fin 11) : f1_0 (Int32.ofNat k.val) = [(0 : Int32), 0, 0, 0, 0, 1, 1, 1, 2, 3, 3].getD k.val 0 := by
  revert k; decide +kernel
set_option maxHeartbeats 4000000 in
theorem law_eq (x y : Int32) (w_HERTZ : Addr) (w_GIGAHERTZ : Addr) (w_KILOHERTZ : Addr) (w_ANGSTROM : Addr) (w_NANOMETRE : Addr) (w_JOULE : Addr) (w_MEGAHERTZ : Addr) (w_PER_CENTIMETRE : Addr) (w_PER_SECOND : Addr) (w_ELECTRONVOLT : Addr) (w_TERAHERTZ : Addr) (gq : Addr → Addr) (gp : Addr → Value) (gi : Addr → Int32) (a_HERTZ : ¬ gp (gq w_HERTZ) = .null) (b_HERTZ : gi (gq w_HERTZ) = 0) (a_KILOHERTZ : ¬ gp (gq w_KILOHERTZ) = .null) (b_KILOHERTZ : gi (gq w_KILOHERTZ) = 0) (a_MEGAHERTZ : ¬ gp (gq w_MEGAHERTZ) = .null) (b_MEGAHERTZ : gi (gq w_MEGAHERTZ) = 0) (a_GIGAHERTZ : ¬ gp (gq w_GIGAHERTZ) = .null) (b_GIGAHERTZ : gi (gq w_GIGAHERTZ) = 0) (a_TERAHERTZ : ¬ gp (gq w_TERAHERTZ) = .null) (b_TERAHERTZ : gi (gq w_TERAHERTZ) = 0) (a_JOULE : ¬ gp (gq w_JOULE) = .null) (b_JOULE : gi (gq w_JOULE) = 0) (a_PER_CENTIMETRE : ¬ gp (gq w_PER_CENTIMETRE) = .null) (b_PER_CENTIMETRE : gi (gq w_PER_CENTIMETRE) = 0) (a_ELECTRONVOLT : ¬ gp (gq w_ELECTRONVOLT) = .null) (b_ELECTRONVOLT : gi (gq w_ELECTRONVOLT) = 0) (a_PER_SECOND : gp (gq w_PER_SECOND) = .null) (b_PER_SECOND : gi (gq w_PER_SECOND) = 0) (a_ANGSTROM : ¬ gp (gq w_ANGSTROM) = .null) (b_ANGSTROM : gi (gq w_ANGSTROM) = 1) (a_NANOMETRE : ¬ gp (gq w_NANOMETRE) = .null) (b_NANOMETRE : gi (gq w_NANOMETRE) = 1) : (f0_0 x y w_HERTZ w_GIGAHERTZ w_KILOHERTZ w_ANGSTROM w_NANOMETRE w_JOULE w_MEGAHERTZ w_PER_CENTIMETRE w_PER_SECOND w_ELECTRONVOLT w_TERAHERTZ gq gp gi) = 1 := by
  have n1 : nar .boolean 1 = 1 := by decide
  have n0 : nar .boolean 0 = 0 := by decide
  simp only [f3_42, f3_41, f3_37, f3_20, f3_10, f3_0, f0_93, f0_92, f0_88, f0_70, f0_69, f0_65, f0_62, f0_61, f0_57, f0_51, f0_50, f0_46, f0_40, f0_34, f0_0]
  obtain ⟨i, hi⟩ := own_k x
  obtain ⟨j, hj⟩ := own_k y
  rw [hi, hj]
  simp only [own_unit_at, own_kind_at]
  clear hi hj
  match i with
  | ⟨0, _⟩ =>
    match j with
    | ⟨0, _⟩ => simp [a_HERTZ, b_HERTZ, a_KILOHERTZ, b_KILOHERTZ, a_MEGAHERTZ, b_MEGAHERTZ, a_GIGAHERTZ, b_GIGAHERTZ, a_TERAHERTZ, b_TERAHERTZ, a_JOULE, b_JOULE, a_PER_CENTIMETRE, b_PER_CENTIMETRE, a_ELECTRONVOLT, b_ELECTRONVOLT, a_PER_SECOND, b_PER_SECOND, a_ANGSTROM, b_ANGSTROM, a_NANOMETRE, b_NANOMETRE, n1, n0]
    | ⟨1, _⟩ => simp [a_HERTZ, b_HERTZ, a_KILOHERTZ, b_KILOHERTZ, a_MEGAHERTZ, b_MEGAHERTZ, a_GIGAHERTZ, b_GIGAHERTZ, a_TERAHERTZ, b_TERAHERTZ, a_JOULE, b_JOULE, a_PER_CENTIMETRE, b_PER_CENTIMETRE, a_ELECTRONVOLT, b_ELECTRONVOLT, a_PER_SECOND, b_PER_SECOND, a_ANGSTROM, b_ANGSTROM, a_NANOMETRE, b_NANOMETRE, n1, n0]
    | ⟨2, _⟩ => simp [a_HERTZ, b_HERTZ, a_KILOHERTZ, b_KILOHERTZ, a_MEGAHERTZ, b_MEGAHERTZ, a_GIGAHERTZ, b_GIGAHERTZ, a_TERAHERTZ, b_TERAHERTZ, a_JOULE, b_JOULE, a_PER_CENTIMETRE, b_PER_CENTIMETRE, a_ELECTRONVOLT, b_ELECTRONVOLT, a_PER_SECOND, b_PER_SECOND, a_ANGSTROM, b_ANGSTROM, a_NANOMETRE, b_NANOMETRE, n1, n0]
    | ⟨3, _⟩ => simp [a_HERTZ, b_HERTZ, a_KILOHERTZ, b_KILOHERTZ, a_MEGAHERTZ, b_MEGAHERTZ, a_GIGAHERTZ, b_GIGAHERTZ, a_TERAHERTZ, b_TERAHERTZ, a_JOULE, b_JOULE, a_PER_CENTIMETRE, b_PER_CENTIMETRE, a_ELECTRONVOLT, b_ELECTRONVOLT, a_PER_SECOND, b_PER_SECOND, a_ANGSTROM, b_ANGSTROM, a_NANOMETRE, b_NANOMETRE, n1, n0]
    | ⟨4, _⟩ => simp [a_HERTZ, b_HERTZ, a_KILOHERTZ, b_KILOHERTZ, a_MEGAHERTZ, b_MEGAHERTZ, a_GIGAHERTZ, b_GIGAHERTZ, a_TERAHERTZ, b_TERAHERTZ, a_JOULE, b_JOULE, a_PER_CENTIMETRE, b_PER_CENTIMETRE, a_ELECTRONVOLT, b_ELECTRONVOLT, a_PER_SECOND, b_PER_SECOND, a_ANGSTROM, b_ANGSTROM, a_NANOMETRE, b_NANOMETRE, n1, n0]
    | ⟨5, _⟩ => simp [a_HERTZ, b_HERTZ, a_KILOHERTZ, b_KILOHERTZ, a_MEGAHERTZ, b_MEGAHERTZ, a_GIGAHERTZ, b_GIGAHERTZ, a_TERAHERTZ, b_TERAHERTZ, a_JOULE, b_JOULE, a_PER_CENTIMETRE, b_PER_CENTIMETRE, a_ELECTRONVOLT, b_ELECTRONVOLT, a_PER_SECOND, b_PER_SECOND, a_ANGSTROM, b_ANGSTROM, a_NANOMETRE, b_NANOMETRE, n1, n0]
    | ⟨6, _⟩ => simp [a_HERTZ, b_HERTZ, a_KILOHERTZ, b_KILOHERTZ, a_MEGAHERTZ, b_MEGAHERTZ, a_GIGAHERTZ, b_GIGAHERTZ, a_TERAHERTZ, b_TERAHERTZ, a_JOULE, b_JOULE, a_PER_CENTIMETRE, b_PER_CENTIMETRE, a_ELECTRONVOLT, b_ELECTRONVOLT, a_PER_SECOND, b_PER_SECOND, a_ANGSTROM, b_ANGSTROM, a_NANOMETRE, b_NANOMETRE, n1, n0]
    | ⟨7, _⟩ => simp [a_HERTZ, b_HERTZ, a_KILOHERTZ, b_KILOHERTZ, a_MEGAHERTZ, b_MEGAHERTZ, a_GIGAHERTZ, b_GIGAHERTZ, a_TERAHERTZ, b_TERAHERTZ, a_JOULE, b_JOULE, a_PER_CENTIMETRE, b_PER_CENTIMETRE, a_ELECTRONVOLT, b_ELECTRONVOLT, a_PER_SECOND, b_PER_SECOND, a_ANGSTROM, b_ANGSTROM, a_NANOMETRE, b_NANOMETRE, n1, n0]
    | ⟨8, _⟩ => simp [a_HERTZ, b_HERTZ, a_KILOHERTZ, b_KILOHERTZ, a_MEGAHERTZ, b_MEGAHERTZ, a_GIGAHERTZ, b_GIGAHERTZ, a_TERAHERTZ, b_TERAHERTZ, a_JOULE, b_JOULE, a_PER_CENTIMETRE, b_PER_CENTIMETRE, a_ELECTRONVOLT, b_ELECTRONVOLT, a_PER_SECOND, b_PER_SECOND, a_ANGSTROM, b_ANGSTROM, a_NANOMETRE, b_NANOMETRE, n1, n0]
    | ⟨9, _⟩ => simp [a_HERTZ, b_HERTZ, a_KILOHERTZ, b_KILOHERTZ, a_MEGAHERTZ, b_MEGAHERTZ, a_GIGAHERTZ, b_GIGAHERTZ, a_TERAHERTZ, b_TERAHERTZ, a_JOULE, b_JOULE, a_PER_CENTIMETRE, b_PER_CENTIMETRE, a_ELECTRONVOLT, b_ELECTRONVOLT, a_PER_SECOND, b_PER_SECOND, a_ANGSTROM, b_ANGSTROM, a_NANOMETRE, b_NANOMETRE, n1, n0]
    | ⟨10, _⟩ => simp [a_HERTZ, b_HERTZ, a_KILOHERTZ, b_KILOHERTZ, a_MEGAHERTZ, b_MEGAHERTZ, a_GIGAHERTZ, b_GIGAHERTZ, a_TERAHERTZ, b_TERAHERTZ, a_JOULE, b_JOULE, a_PER_CENTIMETRE, b_PER_CENTIMETRE, a_ELECTRONVOLT, b_ELECTRONVOLT, a_PER_SECOND, b_PER_SECOND, a_ANGSTROM, b_ANGSTROM, a_NANOMETRE, b_NANOMETRE, n1, n0]
  | ⟨1, _⟩ =>
    match j with
    | ⟨0, _⟩ => simp [a_HERTZ, b_HERTZ, a_KILOHERTZ, b_KILOHERTZ, a_MEGAHERTZ, b_MEGAHERTZ, a_GIGAHERTZ, b_GIGAHERTZ, a_TERAHERTZ, b_TERAHERTZ, a_JOULE, b_JOULE, a_PER_CENTIMETRE, b_PER_CENTIMETRE, a_ELECTRONVOLT, b_ELECTRONVOLT, a_PER_SECOND, b_PER_SECOND, a_ANGSTROM, b_ANGSTROM, a_NANOMETRE, b_NANOMETRE, n1, n0]
    | ⟨1, _⟩ => simp [a_HERTZ, b_HERTZ, a_KILOHERTZ, b_KILOHERTZ, a_MEGAHERTZ, b_MEGAHERTZ, a_GIGAHERTZ, b_GIGAHERTZ, a_TERAHERTZ, b_TERAHERTZ, a_JOULE, b_JOULE, a_PER_CENTIMETRE, b_PER_CENTIMETRE, a_ELECTRONVOLT, b_ELECTRONVOLT, a_PER_SECOND, b_PER_SECOND, a_ANGSTROM, b_ANGSTROM, a_NANOMETRE, b_NANOMETRE, n1, n0]
    | ⟨2, _⟩ => simp [a_HERTZ, b_HERTZ, a_KILOHERTZ, b_KILOHERTZ, a_MEGAHERTZ, b_MEGAHERTZ, a_GIGAHERTZ, b_GIGAHERTZ, a_TERAHERTZ, b_TERAHERTZ, a_JOULE, b_JOULE, a_PER_CENTIMETRE, b_PER_CENTIMETRE, a_ELECTRONVOLT, b_ELECTRONVOLT, a_PER_SECOND, b_PER_SECOND, a_ANGSTROM, b_ANGSTROM, a_NANOMETRE, b_NANOMETRE, n1, n0]
    | ⟨3, _⟩ => simp [a_HERTZ, b_HERTZ, a_KILOHERTZ, b_KILOHERTZ, a_MEGAHERTZ, b_MEGAHERTZ, a_GIGAHERTZ, b_GIGAHERTZ, a_TERAHERTZ, b_TERAHERTZ, a_JOULE, b_JOULE, a_PER_CENTIMETRE, b_PER_CENTIMETRE, a_ELECTRONVOLT, b_ELECTRONVOLT, a_PER_SECOND, b_PER_SECOND, a_ANGSTROM, b_ANGSTROM, a_NANOMETRE, b_NANOMETRE, n1, n0]
    | ⟨4, _⟩ => simp [a_HERTZ, b_HERTZ, a_KILOHERTZ, b_KILOHERTZ, a_MEGAHERTZ, b_MEGAHERTZ, a_GIGAHERTZ, b_GIGAHERTZ, a_TERAHERTZ, b_TERAHERTZ, a_JOULE, b_JOULE, a_PER_CENTIMETRE, b_PER_CENTIMETRE, a_ELECTRONVOLT, b_ELECTRONVOLT, a_PER_SECOND, b_PER_SECOND, a_ANGSTROM, b_ANGSTROM, a_NANOMETRE, b_NANOMETRE, n1, n0]
    | ⟨5, _⟩ => simp [a_HERTZ, b_HERTZ, a_KILOHERTZ, b_KILOHERTZ, a_MEGAHERTZ, b_MEGAHERTZ, a_GIGAHERTZ, b_GIGAHERTZ, a_TERAHERTZ, b_TERAHERTZ, a_JOULE, b_JOULE, a_PER_CENTIMETRE, b_PER_CENTIMETRE, a_ELECTRONVOLT, b_ELECTRONVOLT, a_PER_SECOND, b_PER_SECOND, a_ANGSTROM, b_ANGSTROM, a_NANOMETRE, b_NANOMETRE, n1, n0]
    | ⟨6, _⟩ => simp [a_HERTZ, b_HERTZ, a_KILOHERTZ, b_KILOHERTZ, a_MEGAHERTZ, b_MEGAHERTZ, a_GIGAHERTZ, b_GIGAHERTZ, a_TERAHERTZ, b_TERAHERTZ, a_JOULE, b_JOULE, a_PER_CENTIMETRE, b_PER_CENTIMETRE, a_ELECTRONVOLT, b_ELECTRONVOLT, a_PER_SECOND, b_PER_SECOND, a_ANGSTROM, b_ANGSTROM, a_NANOMETRE, b_NANOMETRE, n1, n0]
    | ⟨7, _⟩ => simp [a_HERTZ, b_HERTZ, a_KILOHERTZ, b_KILOHERTZ, a_MEGAHERTZ, b_MEGAHERTZ, a_GIGAHERTZ, b_GIGAHERTZ, a_TERAHERTZ, b_TERAHERTZ, a_JOULE, b_JOULE, a_PER_CENTIMETRE, b_PER_CENTIMETRE, a_ELECTRONVOLT, b_ELECTRONVOLT, a_PER_SECOND, b_PER_SECOND, a_ANGSTROM, b_ANGSTROM, a_NANOMETRE, b_NANOMETRE, n1, n0]
    | ⟨8, _⟩ => simp [a_HERTZ, b_HERTZ, a_KILOHERTZ, b_KILOHERTZ, a_MEGAHERTZ, b_MEGAHERTZ, a_GIGAHERTZ, b_GIGAHERTZ, a_TERAHERTZ, b_TERAHERTZ, a_JOULE, b_JOULE, a_PER_CENTIMETRE, b_PER_CENTIMETRE, a_ELECTRONVOLT, b_ELECTRONVOLT, a_PER_SECOND, b_PER_SECOND, a_ANGSTROM, b_ANGSTROM, a_NANOMETRE, b_NANOMETRE, n1, n0]
    | ⟨9, _⟩ => simp [a_HERTZ, b_HERTZ, a_KILOHERTZ, b_KILOHERTZ, a_MEGAHERTZ, b_MEGAHERTZ, a_GIGAHERTZ, b_GIGAHERTZ, a_TERAHERTZ, b_TERAHERTZ, a_JOULE, b_JOULE, a_PER_CENTIMETRE, b_PER_CENTIMETRE, a_ELECTRONVOLT, b_ELECTRONVOLT, a_PER_SECOND, b_PER_SECOND, a_ANGSTROM, b_ANGSTROM, a_NANOMETRE, b_NANOMETRE, n1, n0]
    | ⟨10, _⟩ => simp [a_HERTZ, b_HERTZ, a_KILOHERTZ, b_KILOHERTZ, a_MEGAHERTZ, b_MEGAHERTZ, a_GIGAHERTZ, b_GIGAHERTZ, a_TERAHERTZ, b_TERAHERTZ, a_JOULE, b_JOULE, a_PER_CENTIMETRE, b_PER_CENTIMETRE, a_ELECTRONVOLT, b_ELECTRONVOLT, a_PER_SECOND, b_PER_SECOND, a_ANGSTROM, b_ANGSTROM, a_NANOMETRE, b_NANOMETRE, n1, n0]
  | ⟨2, _⟩ =>
    match j with
    | ⟨0, _⟩ => simp [a_HERTZ, b_HERTZ, a_KILOHERTZ, b_KILOHERTZ, a_MEGAHERTZ, b_MEGAHERTZ, a_GIGAHERTZ, b_GIGAHERTZ, a_TERAHERTZ, b_TERAHERTZ, a_JOULE, b_JOULE, a_PER_CENTIMETRE, b_PER_CENTIMETRE, a_ELECTRONVOLT, b_ELECTRONVOLT, a_PER_SECOND, b_PER_SECOND, a_ANGSTROM, b_ANGSTROM, a_NANOMETRE, b_NANOMETRE, n1, n0]
    | ⟨1, _⟩ => simp [a_HERTZ, b_HERTZ, a_KILOHERTZ, b_KILOHERTZ, a_MEGAHERTZ, b_MEGAHERTZ, a_GIGAHERTZ, b_GIGAHERTZ, a_TERAHERTZ, b_TERAHERTZ, a_JOULE, b_JOULE, a_PER_CENTIMETRE, b_PER_CENTIMETRE, a_ELECTRONVOLT, b_ELECTRONVOLT, a_PER_SECOND, b_PER_SECOND, a_ANGSTROM, b_ANGSTROM, a_NANOMETRE, b_NANOMETRE, n1, n0]
    | ⟨2, _⟩ => simp [a_HERTZ, b_HERTZ, a_KILOHERTZ, b_KILOHERTZ, a_MEGAHERTZ, b_MEGAHERTZ, a_GIGAHERTZ, b_GIGAHERTZ, a_TERAHERTZ, b_TERAHERTZ, a_JOULE, b_JOULE, a_PER_CENTIMETRE, b_PER_CENTIMETRE, a_ELECTRONVOLT, b_ELECTRONVOLT, a_PER_SECOND, b_PER_SECOND, a_ANGSTROM, b_ANGSTROM, a_NANOMETRE, b_NANOMETRE, n1, n0]
    | ⟨3, _⟩ => simp [a_HERTZ, b_HERTZ, a_KILOHERTZ, b_KILOHERTZ, a_MEGAHERTZ, b_MEGAHERTZ, a_GIGAHERTZ, b_GIGAHERTZ, a_TERAHERTZ, b_TERAHERTZ, a_JOULE, b_JOULE, a_PER_CENTIMETRE, b_PER_CENTIMETRE, a_ELECTRONVOLT, b_ELECTRONVOLT, a_PER_SECOND, b_PER_SECOND, a_ANGSTROM, b_ANGSTROM, a_NANOMETRE, b_NANOMETRE, n1, n0]
    | ⟨4, _⟩ => simp [a_HERTZ, b_HERTZ, a_KILOHERTZ, b_KILOHERTZ, a_MEGAHERTZ, b_MEGAHERTZ, a_GIGAHERTZ, b_GIGAHERTZ, a_TERAHERTZ, b_TERAHERTZ, a_JOULE, b_JOULE, a_PER_CENTIMETRE, b_PER_CENTIMETRE, a_ELECTRONVOLT, b_ELECTRONVOLT, a_PER_SECOND, b_PER_SECOND, a_ANGSTROM, b_ANGSTROM, a_NANOMETRE, b_NANOMETRE, n1, n0]
    | ⟨5, _⟩ => simp [a_HERTZ, b_HERTZ, a_KILOHERTZ, b_KILOHERTZ, a_MEGAHERTZ, b_MEGAHERTZ, a_GIGAHERTZ, b_GIGAHERTZ, a_TERAHERTZ, b_TERAHERTZ, a_JOULE, b_JOULE, a_PER_CENTIMETRE, b_PER_CENTIMETRE, a_ELECTRONVOLT, b_ELECTRONVOLT, a_PER_SECOND, b_PER_SECOND, a_ANGSTROM, b_ANGSTROM, a_NANOMETRE, b_NANOMETRE, n1, n0]
    | ⟨6, _⟩ => simp [a_HERTZ, b_HERTZ, a_KILOHERTZ, b_KILOHERTZ, a_MEGAHERTZ, b_MEGAHERTZ, a_GIGAHERTZ, b_GIGAHERTZ, a_TERAHERTZ, b_TERAHERTZ, a_JOULE, b_JOULE, a_PER_CENTIMETRE, b_PER_CENTIMETRE, a_ELECTRONVOLT, b_ELECTRONVOLT, a_PER_SECOND, b_PER_SECOND, a_ANGSTROM, b_ANGSTROM, a_NANOMETRE, b_NANOMETRE, n1, n0]
    | ⟨7, _⟩ => simp [a_HERTZ, b_HERTZ, a_KILOHERTZ, b_KILOHERTZ, a_MEGAHERTZ, b_MEGAHERTZ, a_GIGAHERTZ, b_GIGAHERTZ, a_TERAHERTZ, b_TERAHERTZ, a_JOULE, b_JOULE, a_PER_CENTIMETRE, b_PER_CENTIMETRE, a_ELECTRONVOLT, b_ELECTRONVOLT, a_PER_SECOND, b_PER_SECOND, a_ANGSTROM, b_ANGSTROM, a_NANOMETRE, b_NANOMETRE, n1, n0]
    | ⟨8, _⟩ => simp [a_HERTZ, b_HERTZ, a_KILOHERTZ, b_KILOHERTZ, a_MEGAHERTZ, b_MEGAHERTZ, a_GIGAHERTZ, b_GIGAHERTZ, a_TERAHERTZ, b_TERAHERTZ, a_JOULE, b_JOULE, a_PER_CENTIMETRE, b_PER_CENTIMETRE, a_ELECTRONVOLT, b_ELECTRONVOLT, a_PER_SECOND, b_PER_SECOND, a_ANGSTROM, b_ANGSTROM, a_NANOMETRE, b_NANOMETRE, n1, n0]
    | ⟨9, _⟩ => simp [a_HERTZ, b_HERTZ, a_KILOHERTZ, b_KILOHERTZ, a_MEGAHERTZ, b_MEGAHERTZ, a_GIGAHERTZ, b_GIGAHERTZ, a_TERAHERTZ, b_TERAHERTZ, a_JOULE, b_JOULE, a_PER_CENTIMETRE, b_PER_CENTIMETRE, a_ELECTRONVOLT, b_ELECTRONVOLT, a_PER_SECOND, b_PER_SECOND, a_ANGSTROM, b_ANGSTROM, a_NANOMETRE, b_NANOMETRE, n1, n0]
    | ⟨10, _⟩ => simp [a_HERTZ, b_HERTZ, a_KILOHERTZ, b_KILOHERTZ, a_MEGAHERTZ, b_MEGAHERTZ, a_GIGAHERTZ, b_GIGAHERTZ, a_TERAHERTZ, b_TERAHERTZ, a_JOULE, b_JOULE, a_PER_CENTIMETRE, b_PER_CENTIMETRE, a_ELECTRONVOLT, b_ELECTRONVOLT, a_PER_SECOND, b_PER_SECOND, a_ANGSTROM, b_ANGSTROM, a_NANOMETRE, b_NANOMETRE, n1, n0]
  | ⟨3, _⟩ =>
    match j with
    | ⟨0, _⟩ => simp [a_HERTZ, b_HERTZ, a_KILOHERTZ, b_KILOHERTZ, a_MEGAHERTZ, b_MEGAHERTZ, a_GIGAHERTZ, b_GIGAHERTZ, a_TERAHERTZ, b_TERAHERTZ, a_JOULE, b_JOULE, a_PER_CENTIMETRE, b_PER_CENTIMETRE, a_ELECTRONVOLT, b_ELECTRONVOLT, a_PER_SECOND, b_PER_SECOND, a_ANGSTROM, b_ANGSTROM, a_NANOMETRE, b_NANOMETRE, n1, n0]
    | ⟨1, _⟩ => simp [a_HERTZ, b_HERTZ, a_KILOHERTZ, b_KILOHERTZ, a_MEGAHERTZ, b_MEGAHERTZ, a_GIGAHERTZ, b_GIGAHERTZ, a_TERAHERTZ, b_TERAHERTZ, a_JOULE, b_JOULE, a_PER_CENTIMETRE, b_PER_CENTIMETRE, a_ELECTRONVOLT, b_ELECTRONVOLT, a_PER_SECOND, b_PER_SECOND, a_ANGSTROM, b_ANGSTROM, a_NANOMETRE, b_NANOMETRE, n1, n0]
    | ⟨2, _⟩ => simp [a_HERTZ, b_HERTZ, a_KILOHERTZ, b_KILOHERTZ, a_MEGAHERTZ, b_MEGAHERTZ, a_GIGAHERTZ, b_GIGAHERTZ, a_TERAHERTZ, b_TERAHERTZ, a_JOULE, b_JOULE, a_PER_CENTIMETRE, b_PER_CENTIMETRE, a_ELECTRONVOLT, b_ELECTRONVOLT, a_PER_SECOND, b_PER_SECOND, a_ANGSTROM, b_ANGSTROM, a_NANOMETRE, b_NANOMETRE, n1, n0]
    | ⟨3, _⟩ => simp [a_HERTZ, b_HERTZ, a_KILOHERTZ, b_KILOHERTZ, a_MEGAHERTZ, b_MEGAHERTZ, a_GIGAHERTZ, b_GIGAHERTZ, a_TERAHERTZ, b_TERAHERTZ, a_JOULE, b_JOULE, a_PER_CENTIMETRE, b_PER_CENTIMETRE, a_ELECTRONVOLT, b_ELECTRONVOLT, a_PER_SECOND, b_PER_SECOND, a_ANGSTROM, b_ANGSTROM, a_NANOMETRE, b_NANOMETRE, n1, n0]
    | ⟨4, _⟩ => simp [a_HERTZ, b_HERTZ, a_KILOHERTZ, b_KILOHERTZ, a_MEGAHERTZ, b_MEGAHERTZ, a_GIGAHERTZ, b_GIGAHERTZ, a_TERAHERTZ, b_TERAHERTZ, a_JOULE, b_JOULE, a_PER_CENTIMETRE, b_PER_CENTIMETRE, a_ELECTRONVOLT, b_ELECTRONVOLT, a_PER_SECOND, b_PER_SECOND, a_ANGSTROM, b_ANGSTROM, a_NANOMETRE, b_NANOMETRE, n1, n0]
    | ⟨5, _⟩ => simp [a_HERTZ, b_HERTZ, a_KILOHERTZ, b_KILOHERTZ, a_MEGAHERTZ, b_MEGAHERTZ, a_GIGAHERTZ, b_GIGAHERTZ, a_TERAHERTZ, b_TERAHERTZ, a_JOULE, b_JOULE, a_PER_CENTIMETRE, b_PER_CENTIMETRE, a_ELECTRONVOLT, b_ELECTRONVOLT, a_PER_SECOND, b_PER_SECOND, a_ANGSTROM, b_ANGSTROM, a_NANOMETRE, b_NANOMETRE, n1, n0]
    | ⟨6, _⟩ => simp [a_HERTZ, b_HERTZ, a_KILOHERTZ, b_KILOHERTZ, a_MEGAHERTZ, b_MEGAHERTZ, a_GIGAHERTZ, b_GIGAHERTZ, a_TERAHERTZ, b_TERAHERTZ, a_JOULE, b_JOULE, a_PER_CENTIMETRE, b_PER_CENTIMETRE, a_ELECTRONVOLT, b_ELECTRONVOLT, a_PER_SECOND, b_PER_SECOND, a_ANGSTROM, b_ANGSTROM, a_NANOMETRE, b_NANOMETRE, n1, n0]
    | ⟨7, _⟩ => simp [a_HERTZ, b_HERTZ, a_KILOHERTZ, b_KILOHERTZ, a_MEGAHERTZ, b_MEGAHERTZ, a_GIGAHERTZ, b_GIGAHERTZ, a_TERAHERTZ, b_TERAHERTZ, a_JOULE, b_JOULE, a_PER_CENTIMETRE, b_PER_CENTIMETRE, a_ELECTRONVOLT, b_ELECTRONVOLT, a_PER_SECOND, b_PER_SECOND, a_ANGSTROM, b_ANGSTROM, a_NANOMETRE, b_NANOMETRE, n1, n0]
    | ⟨8, _⟩ => simp [a_HERTZ, b_HERTZ, a_KILOHERTZ, b_KILOHERTZ, a_MEGAHERTZ, b_MEGAHERTZ, a_GIGAHERTZ, b_GIGAHERTZ, a_TERAHERTZ, b_TERAHERTZ, a_JOULE, b_JOULE, a_PER_CENTIMETRE, b_PER_CENTIMETRE, a_ELECTRONVOLT, b_ELECTRONVOLT, a_PER_SECOND, b_PER_SECOND, a_ANGSTROM, b_ANGSTROM, a_NANOMETRE, b_NANOMETRE, n1, n0]
    | ⟨9, _⟩ => simp [a_HERTZ, b_HERTZ, a_KILOHERTZ, b_KILOHERTZ, a_MEGAHERTZ, b_MEGAHERTZ, a_GIGAHERTZ, b_GIGAHERTZ, a_TERAHERTZ, b_TERAHERTZ, a_JOULE, b_JOULE, a_PER_CENTIMETRE, b_PER_CENTIMETRE, a_ELECTRONVOLT, b_ELECTRONVOLT, a_PER_SECOND, b_PER_SECOND, a_ANGSTROM, b_ANGSTROM, a_NANOMETRE, b_NANOMETRE, n1, n0]
    | ⟨10, _⟩ => simp [a_HERTZ, b_HERTZ, a_KILOHERTZ, b_KILOHERTZ, a_MEGAHERTZ, b_MEGAHERTZ, a_GIGAHERTZ, b_GIGAHERTZ, a_TERAHERTZ, b_TERAHERTZ, a_JOULE, b_JOULE, a_PER_CENTIMETRE, b_PER_CENTIMETRE, a_ELECTRONVOLT, b_ELECTRONVOLT, a_PER_SECOND, b_PER_SECOND, a_ANGSTROM, b_ANGSTROM, a_NANOMETRE, b_NANOMETRE, n1, n0]
  | ⟨4, _⟩ =>
    match j with
    | ⟨0, _⟩ => simp [a_HERTZ, b_HERTZ, a_KILOHERTZ, b_KILOHERTZ, a_MEGAHERTZ, b_MEGAHERTZ, a_GIGAHERTZ, b_GIGAHERTZ, a_TERAHERTZ, b_TERAHERTZ, a_JOULE, b_JOULE, a_PER_CENTIMETRE, b_PER_CENTIMETRE, a_ELECTRONVOLT, b_ELECTRONVOLT, a_PER_SECOND, b_PER_SECOND, a_ANGSTROM, b_ANGSTROM, a_NANOMETRE, b_NANOMETRE, n1, n0]
    | ⟨1, _⟩ => simp [a_HERTZ, b_HERTZ, a_KILOHERTZ, b_KILOHERTZ, a_MEGAHERTZ, b_MEGAHERTZ, a_GIGAHERTZ, b_GIGAHERTZ, a_TERAHERTZ, b_TERAHERTZ, a_JOULE, b_JOULE, a_PER_CENTIMETRE, b_PER_CENTIMETRE, a_ELECTRONVOLT, b_ELECTRONVOLT, a_PER_SECOND, b_PER_SECOND, a_ANGSTROM, b_ANGSTROM, a_NANOMETRE, b_NANOMETRE, n1, n0]
    | ⟨2, _⟩ => simp [a_HERTZ, b_HERTZ, a_KILOHERTZ, b_KILOHERTZ, a_MEGAHERTZ, b_MEGAHERTZ, a_GIGAHERTZ, b_GIGAHERTZ, a_TERAHERTZ, b_TERAHERTZ, a_JOULE, b_JOULE, a_PER_CENTIMETRE, b_PER_CENTIMETRE, a_ELECTRONVOLT, b_ELECTRONVOLT, a_PER_SECOND, b_PER_SECOND, a_ANGSTROM, b_ANGSTROM, a_NANOMETRE, b_NANOMETRE, n1, n0]
    | ⟨3, _⟩ => simp [a_HERTZ, b_HERTZ, a_KILOHERTZ, b_KILOHERTZ, a_MEGAHERTZ, b_MEGAHERTZ, a_GIGAHERTZ, b_GIGAHERTZ, a_TERAHERTZ, b_TERAHERTZ, a_JOULE, b_JOULE, a_PER_CENTIMETRE, b_PER_CENTIMETRE, a_ELECTRONVOLT, b_ELECTRONVOLT, a_PER_SECOND, b_PER_SECOND, a_ANGSTROM, b_ANGSTROM, a_NANOMETRE, b_NANOMETRE, n1, n0]
    | ⟨4, _⟩ => simp [a_HERTZ, b_HERTZ, a_KILOHERTZ, b_KILOHERTZ, a_MEGAHERTZ, b_MEGAHERTZ, a_GIGAHERTZ, b_GIGAHERTZ, a_TERAHERTZ, b_TERAHERTZ, a_JOULE, b_JOULE, a_PER_CENTIMETRE, b_PER_CENTIMETRE, a_ELECTRONVOLT, b_ELECTRONVOLT, a_PER_SECOND, b_PER_SECOND, a_ANGSTROM, b_ANGSTROM, a_NANOMETRE, b_NANOMETRE, n1, n0]
    | ⟨5, _⟩ => simp [a_HERTZ, b_HERTZ, a_KILOHERTZ, b_KILOHERTZ, a_MEGAHERTZ, b_MEGAHERTZ, a_GIGAHERTZ, b_GIGAHERTZ, a_TERAHERTZ, b_TERAHERTZ, a_JOULE, b_JOULE, a_PER_CENTIMETRE, b_PER_CENTIMETRE, a_ELECTRONVOLT, b_ELECTRONVOLT, a_PER_SECOND, b_PER_SECOND, a_ANGSTROM, b_ANGSTROM, a_NANOMETRE, b_NANOMETRE, n1, n0]
    | ⟨6, _⟩ => simp [a_HERTZ, b_HERTZ, a_KILOHERTZ, b_KILOHERTZ, a_MEGAHERTZ, b_MEGAHERTZ, a_GIGAHERTZ, b_GIGAHERTZ, a_TERAHERTZ, b_TERAHERTZ, a_JOULE, b_JOULE, a_PER_CENTIMETRE, b_PER_CENTIMETRE, a_ELECTRONVOLT, b_ELECTRONVOLT, a_PER_SECOND, b_PER_SECOND, a_ANGSTROM, b_ANGSTROM, a_NANOMETRE, b_NANOMETRE, n1, n0]
    | ⟨7, _⟩ => simp [a_HERTZ, b_HERTZ, a_KILOHERTZ, b_KILOHERTZ, a_MEGAHERTZ, b_MEGAHERTZ, a_GIGAHERTZ, b_GIGAHERTZ, a_TERAHERTZ, b_TERAHERTZ, a_JOULE, b_JOULE, a_PER_CENTIMETRE, b_PER_CENTIMETRE, a_ELECTRONVOLT, b_ELECTRONVOLT, a_PER_SECOND, b_PER_SECOND, a_ANGSTROM, b_ANGSTROM, a_NANOMETRE, b_NANOMETRE, n1, n0]
    | ⟨8, _⟩ => simp [a_HERTZ, b_HERTZ, a_KILOHERTZ, b_KILOHERTZ, a_MEGAHERTZ, b_MEGAHERTZ, a_GIGAHERTZ, b_GIGAHERTZ, a_TERAHERTZ, b_TERAHERTZ, a_JOULE, b_JOULE, a_PER_CENTIMETRE, b_PER_CENTIMETRE, a_ELECTRONVOLT, b_ELECTRONVOLT, a_PER_SECOND, b_PER_SECOND, a_ANGSTROM, b_ANGSTROM, a_NANOMETRE, b_NANOMETRE, n1, n0]
    | ⟨9, _⟩ => simp [a_HERTZ, b_HERTZ, a_KILOHERTZ, b_KILOHERTZ, a_MEGAHERTZ, b_MEGAHERTZ, a_GIGAHERTZ, b_GIGAHERTZ, a_TERAHERTZ, b_TERAHERTZ, a_JOULE, b_JOULE, a_PER_CENTIMETRE, b_PER_CENTIMETRE, a_ELECTRONVOLT, b_ELECTRONVOLT, a_PER_SECOND, b_PER_SECOND, a_ANGSTROM, b_ANGSTROM, a_NANOMETRE, b_NANOMETRE, n1, n0]
    | ⟨10, _⟩ => simp [a_HERTZ, b_HERTZ, a_KILOHERTZ, b_KILOHERTZ, a_MEGAHERTZ, b_MEGAHERTZ, a_GIGAHERTZ, b_GIGAHERTZ, a_TERAHERTZ, b_TERAHERTZ, a_JOULE, b_JOULE, a_PER_CENTIMETRE, b_PER_CENTIMETRE, a_ELECTRONVOLT, b_ELECTRONVOLT, a_PER_SECOND, b_PER_SECOND, a_ANGSTROM, b_ANGSTROM, a_NANOMETRE, b_NANOMETRE, n1, n0]
  | ⟨5, _⟩ =>
    match j with
    | ⟨0, _⟩ => simp [a_HERTZ, b_HERTZ, a_KILOHERTZ, b_KILOHERTZ, a_MEGAHERTZ, b_MEGAHERTZ, a_GIGAHERTZ, b_GIGAHERTZ, a_TERAHERTZ, b_TERAHERTZ, a_JOULE, b_JOULE, a_PER_CENTIMETRE, b_PER_CENTIMETRE, a_ELECTRONVOLT, b_ELECTRONVOLT, a_PER_SECOND, b_PER_SECOND, a_ANGSTROM, b_ANGSTROM, a_NANOMETRE, b_NANOMETRE, n1, n0]
    | ⟨1, _⟩ => simp [a_HERTZ, b_HERTZ, a_KILOHERTZ, b_KILOHERTZ, a_MEGAHERTZ, b_MEGAHERTZ, a_GIGAHERTZ, b_GIGAHERTZ, a_TERAHERTZ, b_TERAHERTZ, a_JOULE, b_JOULE, a_PER_CENTIMETRE, b_PER_CENTIMETRE, a_ELECTRONVOLT, b_ELECTRONVOLT, a_PER_SECOND, b_PER_SECOND, a_ANGSTROM, b_ANGSTROM, a_NANOMETRE, b_NANOMETRE, n1, n0]
    | ⟨2, _⟩ => simp [a_HERTZ, b_HERTZ, a_KILOHERTZ, b_KILOHERTZ, a_MEGAHERTZ, b_MEGAHERTZ, a_GIGAHERTZ, b_GIGAHERTZ, a_TERAHERTZ, b_TERAHERTZ, a_JOULE, b_JOULE, a_PER_CENTIMETRE, b_PER_CENTIMETRE, a_ELECTRONVOLT, b_ELECTRONVOLT, a_PER_SECOND, b_PER_SECOND, a_ANGSTROM, b_ANGSTROM, a_NANOMETRE, b_NANOMETRE, n1, n0]
    | ⟨3, _⟩ => simp [a_HERTZ, b_HERTZ, a_KILOHERTZ, b_KILOHERTZ, a_MEGAHERTZ, b_MEGAHERTZ, a_GIGAHERTZ, b_GIGAHERTZ, a_TERAHERTZ, b_TERAHERTZ, a_JOULE, b_JOULE, a_PER_CENTIMETRE, b_PER_CENTIMETRE, a_ELECTRONVOLT, b_ELECTRONVOLT, a_PER_SECOND, b_PER_SECOND, a_ANGSTROM, b_ANGSTROM, a_NANOMETRE, b_NANOMETRE, n1, n0]
    | ⟨4, _⟩ => simp [a_HERTZ, b_HERTZ, a_KILOHERTZ, b_KILOHERTZ, a_MEGAHERTZ, b_MEGAHERTZ, a_GIGAHERTZ, b_GIGAHERTZ, a_TERAHERTZ, b_TERAHERTZ, a_JOULE, b_JOULE, a_PER_CENTIMETRE, b_PER_CENTIMETRE, a_ELECTRONVOLT, b_ELECTRONVOLT, a_PER_SECOND, b_PER_SECOND, a_ANGSTROM, b_ANGSTROM, a_NANOMETRE, b_NANOMETRE, n1, n0]
    | ⟨5, _⟩ => simp [a_HERTZ, b_HERTZ, a_KILOHERTZ, b_KILOHERTZ, a_MEGAHERTZ, b_MEGAHERTZ, a_GIGAHERTZ, b_GIGAHERTZ, a_TERAHERTZ, b_TERAHERTZ, a_JOULE, b_JOULE, a_PER_CENTIMETRE, b_PER_CENTIMETRE, a_ELECTRONVOLT, b_ELECTRONVOLT, a_PER_SECOND, b_PER_SECOND, a_ANGSTROM, b_ANGSTROM, a_NANOMETRE, b_NANOMETRE, n1, n0]
    | ⟨6, _⟩ => simp [a_HERTZ, b_HERTZ, a_KILOHERTZ, b_KILOHERTZ, a_MEGAHERTZ, b_MEGAHERTZ, a_GIGAHERTZ, b_GIGAHERTZ, a_TERAHERTZ, b_TERAHERTZ, a_JOULE, b_JOULE, a_PER_CENTIMETRE, b_PER_CENTIMETRE, a_ELECTRONVOLT, b_ELECTRONVOLT, a_PER_SECOND, b_PER_SECOND, a_ANGSTROM, b_ANGSTROM, a_NANOMETRE, b_NANOMETRE, n1, n0]
    | ⟨7, _⟩ => simp [a_HERTZ, b_HERTZ, a_KILOHERTZ, b_KILOHERTZ, a_MEGAHERTZ, b_MEGAHERTZ, a_GIGAHERTZ, b_GIGAHERTZ, a_TERAHERTZ, b_TERAHERTZ, a_JOULE, b_JOULE, a_PER_CENTIMETRE, b_PER_CENTIMETRE, a_ELECTRONVOLT, b_ELECTRONVOLT, a_PER_SECOND, b_PER_SECOND, a_ANGSTROM, b_ANGSTROM, a_NANOMETRE, b_NANOMETRE, n1, n0]
    | ⟨8, _⟩ => simp [a_HERTZ, b_HERTZ, a_KILOHERTZ, b_KILOHERTZ, a_MEGAHERTZ, b_MEGAHERTZ, a_GIGAHERTZ, b_GIGAHERTZ, a_TERAHERTZ, b_TERAHERTZ, a_JOULE, b_JOULE, a_PER_CENTIMETRE, b_PER_CENTIMETRE, a_ELECTRONVOLT, b_ELECTRONVOLT, a_PER_SECOND, b_PER_SECOND, a_ANGSTROM, b_ANGSTROM, a_NANOMETRE, b_NANOMETRE, n1, n0]
    | ⟨9, _⟩ => simp [a_HERTZ, b_HERTZ, a_KILOHERTZ, b_KILOHERTZ, a_MEGAHERTZ, b_MEGAHERTZ, a_GIGAHERTZ, b_GIGAHERTZ, a_TERAHERTZ, b_TERAHERTZ, a_JOULE, b_JOULE, a_PER_CENTIMETRE, b_PER_CENTIMETRE, a_ELECTRONVOLT, b_ELECTRONVOLT, a_PER_SECOND, b_PER_SECOND, a_ANGSTROM, b_ANGSTROM, a_NANOMETRE, b_NANOMETRE, n1, n0]
    | ⟨10, _⟩ => simp [a_HERTZ, b_HERTZ, a_KILOHERTZ, b_KILOHERTZ, a_MEGAHERTZ, b_MEGAHERTZ, a_GIGAHERTZ, b_GIGAHERTZ, a_TERAHERTZ, b_TERAHERTZ, a_JOULE, b_JOULE, a_PER_CENTIMETRE, b_PER_CENTIMETRE, a_ELECTRONVOLT, b_ELECTRONVOLT, a_PER_SECOND, b_PER_SECOND, a_ANGSTROM, b_ANGSTROM, a_NANOMETRE, b_NANOMETRE, n1, n0]
  | ⟨6, _⟩ =>
    match j with
    | ⟨0, _⟩ => simp [a_HERTZ, b_HERTZ, a_KILOHERTZ, b_KILOHERTZ, a_MEGAHERTZ, b_MEGAHERTZ, a_GIGAHERTZ, b_GIGAHERTZ, a_TERAHERTZ, b_TERAHERTZ, a_JOULE, b_JOULE, a_PER_CENTIMETRE, b_PER_CENTIMETRE, a_ELECTRONVOLT, b_ELECTRONVOLT, a_PER_SECOND, b_PER_SECOND, a_ANGSTROM, b_ANGSTROM, a_NANOMETRE, b_NANOMETRE, n1, n0]
    | ⟨1, _⟩ => simp [a_HERTZ, b_HERTZ, a_KILOHERTZ, b_KILOHERTZ, a_MEGAHERTZ, b_MEGAHERTZ, a_GIGAHERTZ, b_GIGAHERTZ, a_TERAHERTZ, b_TERAHERTZ, a_JOULE, b_JOULE, a_PER_CENTIMETRE, b_PER_CENTIMETRE, a_ELECTRONVOLT, b_ELECTRONVOLT, a_PER_SECOND, b_PER_SECOND, a_ANGSTROM, b_ANGSTROM, a_NANOMETRE, b_NANOMETRE, n1, n0]
    | ⟨2, _⟩ => simp [a_HERTZ, b_HERTZ, a_KILOHERTZ, b_KILOHERTZ, a_MEGAHERTZ, b_MEGAHERTZ, a_GIGAHERTZ, b_GIGAHERTZ, a_TERAHERTZ, b_TERAHERTZ, a_JOULE, b_JOULE, a_PER_CENTIMETRE, b_PER_CENTIMETRE, a_ELECTRONVOLT, b_ELECTRONVOLT, a_PER_SECOND, b_PER_SECOND, a_ANGSTROM, b_ANGSTROM, a_NANOMETRE, b_NANOMETRE, n1, n0]
    | ⟨3, _⟩ => simp [a_HERTZ, b_HERTZ, a_KILOHERTZ, b_KILOHERTZ, a_MEGAHERTZ, b_MEGAHERTZ, a_GIGAHERTZ, b_GIGAHERTZ, a_TERAHERTZ, b_TERAHERTZ, a_JOULE, b_JOULE, a_PER_CENTIMETRE, b_PER_CENTIMETRE, a_ELECTRONVOLT, b_ELECTRONVOLT, a_PER_SECOND, b_PER_SECOND, a_ANGSTROM, b_ANGSTROM, a_NANOMETRE, b_NANOMETRE, n1, n0]
    | ⟨4, _⟩ => simp [a_HERTZ, b_HERTZ, a_KILOHERTZ, b_KILOHERTZ, a_MEGAHERTZ, b_MEGAHERTZ, a_GIGAHERTZ, b_GIGAHERTZ, a_TERAHERTZ, b_TERAHERTZ, a_JOULE, b_JOULE, a_PER_CENTIMETRE, b_PER_CENTIMETRE, a_ELECTRONVOLT, b_ELECTRONVOLT, a_PER_SECOND, b_PER_SECOND, a_ANGSTROM, b_ANGSTROM, a_NANOMETRE, b_NANOMETRE, n1, n0]
    | ⟨5, _⟩ => simp [a_HERTZ, b_HERTZ, a_KILOHERTZ, b_KILOHERTZ, a_MEGAHERTZ, b_MEGAHERTZ, a_GIGAHERTZ, b_GIGAHERTZ, a_TERAHERTZ, b_TERAHERTZ, a_JOULE, b_JOULE, a_PER_CENTIMETRE, b_PER_CENTIMETRE, a_ELECTRONVOLT, b_ELECTRONVOLT, a_PER_SECOND, b_PER_SECOND, a_ANGSTROM, b_ANGSTROM, a_NANOMETRE, b_NANOMETRE, n1, n0]
    | ⟨6, _⟩ => simp [a_HERTZ, b_HERTZ, a_KILOHERTZ, b_KILOHERTZ, a_MEGAHERTZ, b_MEGAHERTZ, a_GIGAHERTZ, b_GIGAHERTZ, a_TERAHERTZ, b_TERAHERTZ, a_JOULE, b_JOULE, a_PER_CENTIMETRE, b_PER_CENTIMETRE, a_ELECTRONVOLT, b_ELECTRONVOLT, a_PER_SECOND, b_PER_SECOND, a_ANGSTROM, b_ANGSTROM, a_NANOMETRE, b_NANOMETRE, n1, n0]
    | ⟨7, _⟩ => simp [a_HERTZ, b_HERTZ, a_KILOHERTZ, b_KILOHERTZ, a_MEGAHERTZ, b_MEGAHERTZ, a_GIGAHERTZ, b_GIGAHERTZ, a_TERAHERTZ, b_TERAHERTZ, a_JOULE, b_JOULE, a_PER_CENTIMETRE, b_PER_CENTIMETRE, a_ELECTRONVOLT, b_ELECTRONVOLT, a_PER_SECOND, b_PER_SECOND, a_ANGSTROM, b_ANGSTROM, a_NANOMETRE, b_NANOMETRE, n1, n0]
    | ⟨8, _⟩ => simp [a_HERTZ, b_HERTZ, a_KILOHERTZ, b_KILOHERTZ, a_MEGAHERTZ, b_MEGAHERTZ, a_GIGAHERTZ, b_GIGAHERTZ, a_TERAHERTZ, b_TERAHERTZ, a_JOULE, b_JOULE, a_PER_CENTIMETRE, b_PER_CENTIMETRE, a_ELECTRONVOLT, b_ELECTRONVOLT, a_PER_SECOND, b_PER_SECOND, a_ANGSTROM, b_ANGSTROM, a_NANOMETRE, b_NANOMETRE, n1, n0]
    | ⟨9, _⟩ => simp [a_HERTZ, b_HERTZ, a_KILOHERTZ, b_KILOHERTZ, a_MEGAHERTZ, b_MEGAHERTZ, a_GIGAHERTZ, b_GIGAHERTZ, a_TERAHERTZ, b_TERAHERTZ, a_JOULE, b_JOULE, a_PER_CENTIMETRE, b_PER_CENTIMETRE, a_ELECTRONVOLT, b_ELECTRONVOLT, a_PER_SECOND, b_PER_SECOND, a_ANGSTROM, b_ANGSTROM, a_NANOMETRE, b_NANOMETRE, n1, n0]
    | ⟨10, _⟩ => simp [a_HERTZ, b_HERTZ, a_KILOHERTZ, b_KILOHERTZ, a_MEGAHERTZ, b_MEGAHERTZ, a_GIGAHERTZ, b_GIGAHERTZ, a_TERAHERTZ, b_TERAHERTZ, a_JOULE, b_JOULE, a_PER_CENTIMETRE, b_PER_CENTIMETRE, a_ELECTRONVOLT, b_ELECTRONVOLT, a_PER_SECOND, b_PER_SECOND, a_ANGSTROM, b_ANGSTROM, a_NANOMETRE, b_NANOMETRE, n1, n0]
  | ⟨7, _⟩ =>
    match j with
    | ⟨0, _⟩ => simp [a_HERTZ, b_HERTZ, a_KILOHERTZ, b_KILOHERTZ, a_MEGAHERTZ, b_MEGAHERTZ, a_GIGAHERTZ, b_GIGAHERTZ, a_TERAHERTZ, b_TERAHERTZ, a_JOULE, b_JOULE, a_PER_CENTIMETRE, b_PER_CENTIMETRE, a_ELECTRONVOLT, b_ELECTRONVOLT, a_PER_SECOND, b_PER_SECOND, a_ANGSTROM, b_ANGSTROM, a_NANOMETRE, b_NANOMETRE, n1, n0]
    | ⟨1, _⟩ => simp [a_HERTZ, b_HERTZ, a_KILOHERTZ, b_KILOHERTZ, a_MEGAHERTZ, b_MEGAHERTZ, a_GIGAHERTZ, b_GIGAHERTZ, a_TERAHERTZ, b_TERAHERTZ, a_JOULE, b_JOULE, a_PER_CENTIMETRE, b_PER_CENTIMETRE, a_ELECTRONVOLT, b_ELECTRONVOLT, a_PER_SECOND, b_PER_SECOND, a_ANGSTROM, b_ANGSTROM, a_NANOMETRE, b_NANOMETRE, n1, n0]
    | ⟨2, _⟩ => simp [a_HERTZ, b_HERTZ, a_KILOHERTZ, b_KILOHERTZ, a_MEGAHERTZ, b_MEGAHERTZ, a_GIGAHERTZ, b_GIGAHERTZ, a_TERAHERTZ, b_TERAHERTZ, a_JOULE, b_JOULE, a_PER_CENTIMETRE, b_PER_CENTIMETRE, a_ELECTRONVOLT, b_ELECTRONVOLT, a_PER_SECOND, b_PER_SECOND, a_ANGSTROM, b_ANGSTROM, a_NANOMETRE, b_NANOMETRE, n1, n0]
    | ⟨3, _⟩ => simp [a_HERTZ, b_HERTZ, a_KILOHERTZ, b_KILOHERTZ, a_MEGAHERTZ, b_MEGAHERTZ, a_GIGAHERTZ, b_GIGAHERTZ, a_TERAHERTZ, b_TERAHERTZ, a_JOULE, b_JOULE, a_PER_CENTIMETRE, b_PER_CENTIMETRE, a_ELECTRONVOLT, b_ELECTRONVOLT, a_PER_SECOND, b_PER_SECOND, a_ANGSTROM, b_ANGSTROM, a_NANOMETRE, b_NANOMETRE, n1, n0]
    | ⟨4, _⟩ => simp [a_HERTZ, b_HERTZ, a_KILOHERTZ, b_KILOHERTZ, a_MEGAHERTZ, b_MEGAHERTZ, a_GIGAHERTZ, b_GIGAHERTZ, a_TERAHERTZ, b_TERAHERTZ, a_JOULE, b_JOULE, a_PER_CENTIMETRE, b_PER_CENTIMETRE, a_ELECTRONVOLT, b_ELECTRONVOLT, a_PER_SECOND, b_PER_SECOND, a_ANGSTROM, b_ANGSTROM, a_NANOMETRE, b_NANOMETRE, n1, n0]
    | ⟨5, _⟩ => simp [a_HERTZ, b_HERTZ, a_KILOHERTZ, b_KILOHERTZ, a_MEGAHERTZ, b_MEGAHERTZ, a_GIGAHERTZ, b_GIGAHERTZ, a_TERAHERTZ, b_TERAHERTZ, a_JOULE, b_JOULE, a_PER_CENTIMETRE, b_PER_CENTIMETRE, a_ELECTRONVOLT, b_ELECTRONVOLT, a_PER_SECOND, b_PER_SECOND, a_ANGSTROM, b_ANGSTROM, a_NANOMETRE, b_NANOMETRE, n1, n0]
    | ⟨6, _⟩ => simp [a_HERTZ, b_HERTZ, a_KILOHERTZ, b_KILOHERTZ, a_MEGAHERTZ, b_MEGAHERTZ, a_GIGAHERTZ, b_GIGAHERTZ, a_TERAHERTZ, b_TERAHERTZ, a_JOULE, b_JOULE, a_PER_CENTIMETRE, b_PER_CENTIMETRE, a_ELECTRONVOLT, b_ELECTRONVOLT, a_PER_SECOND, b_PER_SECOND, a_ANGSTROM, b_ANGSTROM, a_NANOMETRE, b_NANOMETRE, n1, n0]
    | ⟨7, _⟩ => simp [a_HERTZ, b_HERTZ, a_KILOHERTZ, b_KILOHERTZ, a_MEGAHERTZ, b_MEGAHERTZ, a_GIGAHERTZ, b_GIGAHERTZ, a_TERAHERTZ, b_TERAHERTZ, a_JOULE, b_JOULE, a_PER_CENTIMETRE, b_PER_CENTIMETRE, a_ELECTRONVOLT, b_ELECTRONVOLT, a_PER_SECOND, b_PER_SECOND, a_ANGSTROM, b_ANGSTROM, a_NANOMETRE, b_NANOMETRE, n1, n0]
    | ⟨8, _⟩ => simp [a_HERTZ, b_HERTZ, a_KILOHERTZ, b_KILOHERTZ, a_MEGAHERTZ, b_MEGAHERTZ, a_GIGAHERTZ, b_GIGAHERTZ, a_TERAHERTZ, b_TERAHERTZ, a_JOULE, b_JOULE, a_PER_CENTIMETRE, b_PER_CENTIMETRE, a_ELECTRONVOLT, b_ELECTRONVOLT, a_PER_SECOND, b_PER_SECOND, a_ANGSTROM, b_ANGSTROM, a_NANOMETRE, b_NANOMETRE, n1, n0]
    | ⟨9, _⟩ => simp [a_HERTZ, b_HERTZ, a_KILOHERTZ, b_KILOHERTZ, a_MEGAHERTZ, b_MEGAHERTZ, a_GIGAHERTZ, b_GIGAHERTZ, a_TERAHERTZ, b_TERAHERTZ, a_JOULE, b_JOULE, a_PER_CENTIMETRE, b_PER_CENTIMETRE, a_ELECTRONVOLT, b_ELECTRONVOLT, a_PER_SECOND, b_PER_SECOND, a_ANGSTROM, b_ANGSTROM, a_NANOMETRE, b_NANOMETRE, n1, n0]
    | ⟨10, _⟩ => simp [a_HERTZ, b_HERTZ, a_KILOHERTZ, b_KILOHERTZ, a_MEGAHERTZ, b_MEGAHERTZ, a_GIGAHERTZ, b_GIGAHERTZ, a_TERAHERTZ, b_TERAHERTZ, a_JOULE, b_JOULE, a_PER_CENTIMETRE, b_PER_CENTIMETRE, a_ELECTRONVOLT, b_ELECTRONVOLT, a_PER_SECOND, b_PER_SECOND, a_ANGSTROM, b_ANGSTROM, a_NANOMETRE, b_NANOMETRE, n1, n0]
  | ⟨8, _⟩ =>
    match j with
    | ⟨0, _⟩ => simp [a_HERTZ, b_HERTZ, a_KILOHERTZ, b_KILOHERTZ, a_MEGAHERTZ, b_MEGAHERTZ, a_GIGAHERTZ, b_GIGAHERTZ, a_TERAHERTZ, b_TERAHERTZ, a_JOULE, b_JOULE, a_PER_CENTIMETRE, b_PER_CENTIMETRE, a_ELECTRONVOLT, b_ELECTRONVOLT, a_PER_SECOND, b_PER_SECOND, a_ANGSTROM, b_ANGSTROM, a_NANOMETRE, b_NANOMETRE, n1, n0]
    | ⟨1, _⟩ => simp [a_HERTZ, b_HERTZ, a_KILOHERTZ, b_KILOHERTZ, a_MEGAHERTZ, b_MEGAHERTZ, a_GIGAHERTZ, b_GIGAHERTZ, a_TERAHERTZ, b_TERAHERTZ, a_JOULE, b_JOULE, a_PER_CENTIMETRE, b_PER_CENTIMETRE, a_ELECTRONVOLT, b_ELECTRONVOLT, a_PER_SECOND, b_PER_SECOND, a_ANGSTROM, b_ANGSTROM, a_NANOMETRE, b_NANOMETRE, n1, n0]
    | ⟨2, _⟩ => simp [a_HERTZ, b_HERTZ, a_KILOHERTZ, b_KILOHERTZ, a_MEGAHERTZ, b_MEGAHERTZ, a_GIGAHERTZ, b_GIGAHERTZ, a_TERAHERTZ, b_TERAHERTZ, a_JOULE, b_JOULE, a_PER_CENTIMETRE, b_PER_CENTIMETRE, a_ELECTRONVOLT, b_ELECTRONVOLT, a_PER_SECOND, b_PER_SECOND, a_ANGSTROM, b_ANGSTROM, a_NANOMETRE, b_NANOMETRE, n1, n0]
    | ⟨3, _⟩ => simp [a_HERTZ, b_HERTZ, a_KILOHERTZ, b_KILOHERTZ, a_MEGAHERTZ, b_MEGAHERTZ, a_GIGAHERTZ, b_GIGAHERTZ, a_TERAHERTZ, b_TERAHERTZ, a_JOULE, b_JOULE, a_PER_CENTIMETRE, b_PER_CENTIMETRE, a_ELECTRONVOLT, b_ELECTRONVOLT, a_PER_SECOND, b_PER_SECOND, a_ANGSTROM, b_ANGSTROM, a_NANOMETRE, b_NANOMETRE, n1, n0]
    | ⟨4, _⟩ => simp [a_HERTZ, b_HERTZ, a_KILOHERTZ, b_KILOHERTZ, a_MEGAHERTZ, b_MEGAHERTZ, a_GIGAHERTZ, b_GIGAHERTZ, a_TERAHERTZ, b_TERAHERTZ, a_JOULE, b_JOULE, a_PER_CENTIMETRE, b_PER_CENTIMETRE, a_ELECTRONVOLT, b_ELECTRONVOLT, a_PER_SECOND, b_PER_SECOND, a_ANGSTROM, b_ANGSTROM, a_NANOMETRE, b_NANOMETRE, n1, n0]
    | ⟨5, _⟩ => simp [a_HERTZ, b_HERTZ, a_KILOHERTZ, b_KILOHERTZ, a_MEGAHERTZ, b_MEGAHERTZ, a_GIGAHERTZ, b_GIGAHERTZ, a_TERAHERTZ, b_TERAHERTZ, a_JOULE, b_JOULE, a_PER_CENTIMETRE, b_PER_CENTIMETRE, a_ELECTRONVOLT, b_ELECTRONVOLT, a_PER_SECOND, b_PER_SECOND, a_ANGSTROM, b_ANGSTROM, a_NANOMETRE, b_NANOMETRE, n1, n0]
    | ⟨6, _⟩ => simp [a_HERTZ, b_HERTZ, a_KILOHERTZ, b_KILOHERTZ, a_MEGAHERTZ, b_MEGAHERTZ, a_GIGAHERTZ, b_GIGAHERTZ, a_TERAHERTZ, b_TERAHERTZ, a_JOULE, b_JOULE, a_PER_CENTIMETRE, b_PER_CENTIMETRE, a_ELECTRONVOLT, b_ELECTRONVOLT, a_PER_SECOND, b_PER_SECOND, a_ANGSTROM, b_ANGSTROM, a_NANOMETRE, b_NANOMETRE, n1, n0]
    | ⟨7, _⟩ => simp [a_HERTZ, b_HERTZ, a_KILOHERTZ, b_KILOHERTZ, a_MEGAHERTZ, b_MEGAHERTZ, a_GIGAHERTZ, b_GIGAHERTZ, a_TERAHERTZ, b_TERAHERTZ, a_JOULE, b_JOULE, a_PER_CENTIMETRE, b_PER_CENTIMETRE, a_ELECTRONVOLT, b_ELECTRONVOLT, a_PER_SECOND, b_PER_SECOND, a_ANGSTROM, b_ANGSTROM, a_NANOMETRE, b_NANOMETRE, n1, n0]
    | ⟨8, _⟩ => simp [a_HERTZ, b_HERTZ, a_KILOHERTZ, b_KILOHERTZ, a_MEGAHERTZ, b_MEGAHERTZ, a_GIGAHERTZ, b_GIGAHERTZ, a_TERAHERTZ, b_TERAHERTZ, a_JOULE, b_JOULE, a_PER_CENTIMETRE, b_PER_CENTIMETRE, a_ELECTRONVOLT, b_ELECTRONVOLT, a_PER_SECOND, b_PER_SECOND, a_ANGSTROM, b_ANGSTROM, a_NANOMETRE, b_NANOMETRE, n1, n0]
    | ⟨9, _⟩ => simp [a_HERTZ, b_HERTZ, a_KILOHERTZ, b_KILOHERTZ, a_MEGAHERTZ, b_MEGAHERTZ, a_GIGAHERTZ, b_GIGAHERTZ, a_TERAHERTZ, b_TERAHERTZ, a_JOULE, b_JOULE, a_PER_CENTIMETRE, b_PER_CENTIMETRE, a_ELECTRONVOLT, b_ELECTRONVOLT, a_PER_SECOND, b_PER_SECOND, a_ANGSTROM, b_ANGSTROM, a_NANOMETRE, b_NANOMETRE, n1, n0]
    | ⟨10, _⟩ => simp [a_HERTZ, b_HERTZ, a_KILOHERTZ, b_KILOHERTZ, a_MEGAHERTZ, b_MEGAHERTZ, a_GIGAHERTZ, b_GIGAHERTZ, a_TERAHERTZ, b_TERAHERTZ, a_JOULE, b_JOULE, a_PER_CENTIMETRE, b_PER_CENTIMETRE, a_ELECTRONVOLT, b_ELECTRONVOLT, a_PER_SECOND, b_PER_SECOND, a_ANGSTROM, b_ANGSTROM, a_NANOMETRE, b_NANOMETRE, n1, n0]
  | ⟨9, _⟩ =>
    match j with
    | ⟨0, _⟩ => simp [a_HERTZ, b_HERTZ, a_KILOHERTZ, b_KILOHERTZ, a_MEGAHERTZ, b_MEGAHERTZ, a_GIGAHERTZ, b_GIGAHERTZ, a_TERAHERTZ, b_TERAHERTZ, a_JOULE, b_JOULE, a_PER_CENTIMETRE, b_PER_CENTIMETRE, a_ELECTRONVOLT, b_ELECTRONVOLT, a_PER_SECOND, b_PER_SECOND, a_ANGSTROM, b_ANGSTROM, a_NANOMETRE, b_NANOMETRE, n1, n0]
    | ⟨1, _⟩ => simp [a_HERTZ, b_HERTZ, a_KILOHERTZ, b_KILOHERTZ, a_MEGAHERTZ, b_MEGAHERTZ, a_GIGAHERTZ, b_GIGAHERTZ, a_TERAHERTZ, b_TERAHERTZ, a_JOULE, b_JOULE, a_PER_CENTIMETRE, b_PER_CENTIMETRE, a_ELECTRONVOLT, b_ELECTRONVOLT, a_PER_SECOND, b_PER_SECOND, a_ANGSTROM, b_ANGSTROM, a_NANOMETRE, b_NANOMETRE, n1, n0]
    | ⟨2, _⟩ => simp [a_HERTZ, b_HERTZ, a_KILOHERTZ, b_KILOHERTZ, a_MEGAHERTZ, b_MEGAHERTZ, a_GIGAHERTZ, b_GIGAHERTZ, a_TERAHERTZ, b_TERAHERTZ, a_JOULE, b_JOULE, a_PER_CENTIMETRE, b_PER_CENTIMETRE, a_ELECTRONVOLT, b_ELECTRONVOLT, a_PER_SECOND, b_PER_SECOND, a_ANGSTROM, b_ANGSTROM, a_NANOMETRE, b_NANOMETRE, n1, n0]
    | ⟨3, _⟩ => simp [a_HERTZ, b_HERTZ, a_KILOHERTZ, b_KILOHERTZ, a_MEGAHERTZ, b_MEGAHERTZ, a_GIGAHERTZ, b_GIGAHERTZ, a_TERAHERTZ, b_TERAHERTZ, a_JOULE, b_JOULE, a_PER_CENTIMETRE, b_PER_CENTIMETRE, a_ELECTRONVOLT, b_ELECTRONVOLT, a_PER_SECOND, b_PER_SECOND, a_ANGSTROM, b_ANGSTROM, a_NANOMETRE, b_NANOMETRE, n1, n0]
    | ⟨4, _⟩ => simp [a_HERTZ, b_HERTZ, a_KILOHERTZ, b_KILOHERTZ, a_MEGAHERTZ, b_MEGAHERTZ, a_GIGAHERTZ, b_GIGAHERTZ, a_TERAHERTZ, b_TERAHERTZ, a_JOULE, b_JOULE, a_PER_CENTIMETRE, b_PER_CENTIMETRE, a_ELECTRONVOLT, b_ELECTRONVOLT, a_PER_SECOND, b_PER_SECOND, a_ANGSTROM, b_ANGSTROM, a_NANOMETRE, b_NANOMETRE, n1, n0]
    | ⟨5, _⟩ => simp [a_HERTZ, b_HERTZ, a_KILOHERTZ, b_KILOHERTZ, a_MEGAHERTZ, b_MEGAHERTZ, a_GIGAHERTZ, b_GIGAHERTZ, a_TERAHERTZ, b_TERAHERTZ, a_JOULE, b_JOULE, a_PER_CENTIMETRE, b_PER_CENTIMETRE, a_ELECTRONVOLT, b_ELECTRONVOLT, a_PER_SECOND, b_PER_SECOND, a_ANGSTROM, b_ANGSTROM, a_NANOMETRE, b_NANOMETRE, n1, n0]
    | ⟨6, _⟩ => simp [a_HERTZ, b_HERTZ, a_KILOHERTZ, b_KILOHERTZ, a_MEGAHERTZ, b_MEGAHERTZ, a_GIGAHERTZ, b_GIGAHERTZ, a_TERAHERTZ, b_TERAHERTZ, a_JOULE, b_JOULE, a_PER_CENTIMETRE, b_PER_CENTIMETRE, a_ELECTRONVOLT, b_ELECTRONVOLT, a_PER_SECOND, b_PER_SECOND, a_ANGSTROM, b_ANGSTROM, a_NANOMETRE, b_NANOMETRE, n1, n0]
    | ⟨7, _⟩ => simp [a_HERTZ, b_HERTZ, a_KILOHERTZ, b_KILOHERTZ, a_MEGAHERTZ, b_MEGAHERTZ, a_GIGAHERTZ, b_GIGAHERTZ, a_TERAHERTZ, b_TERAHERTZ, a_JOULE, b_JOULE, a_PER_CENTIMETRE, b_PER_CENTIMETRE, a_ELECTRONVOLT, b_ELECTRONVOLT, a_PER_SECOND, b_PER_SECOND, a_ANGSTROM, b_ANGSTROM, a_NANOMETRE, b_NANOMETRE, n1, n0]
    | ⟨8, _⟩ => simp [a_HERTZ, b_HERTZ, a_KILOHERTZ, b_KILOHERTZ, a_MEGAHERTZ, b_MEGAHERTZ, a_GIGAHERTZ, b_GIGAHERTZ, a_TERAHERTZ, b_TERAHERTZ, a_JOULE, b_JOULE, a_PER_CENTIMETRE, b_PER_CENTIMETRE, a_ELECTRONVOLT, b_ELECTRONVOLT, a_PER_SECOND, b_PER_SECOND, a_ANGSTROM, b_ANGSTROM, a_NANOMETRE, b_NANOMETRE, n1, n0]
    | ⟨9, _⟩ => simp [a_HERTZ, b_HERTZ, a_KILOHERTZ, b_KILOHERTZ, a_MEGAHERTZ, b_MEGAHERTZ, a_GIGAHERTZ, b_GIGAHERTZ, a_TERAHERTZ, b_TERAHERTZ, a_JOULE, b_JOULE, a_PER_CENTIMETRE, b_PER_CENTIMETRE, a_ELECTRONVOLT, b_ELECTRONVOLT, a_PER_SECOND, b_PER_SECOND, a_ANGSTROM, b_ANGSTROM, a_NANOMETRE, b_NANOMETRE, n1, n0]
    | ⟨10, _⟩ => simp [a_HERTZ, b_HERTZ, a_KILOHERTZ, b_KILOHERTZ, a_MEGAHERTZ, b_MEGAHERTZ, a_GIGAHERTZ, b_GIGAHERTZ, a_TERAHERTZ, b_TERAHERTZ, a_JOULE, b_JOULE, a_PER_CENTIMETRE, b_PER_CENTIMETRE, a_ELECTRONVOLT, b_ELECTRONVOLT, a_PER_SECOND, b_PER_SECOND, a_ANGSTROM, b_ANGSTROM, a_NANOMETRE, b_NANOMETRE, n1, n0]
  | ⟨10, _⟩ =>
    match j with
    | ⟨0, _⟩ => simp [a_HERTZ, b_HERTZ, a_KILOHERTZ, b_KILOHERTZ, a_MEGAHERTZ, b_MEGAHERTZ, a_GIGAHERTZ, b_GIGAHERTZ, a_TERAHERTZ, b_TERAHERTZ, a_JOULE, b_JOULE, a_PER_CENTIMETRE, b_PER_CENTIMETRE, a_ELECTRONVOLT, b_ELECTRONVOLT, a_PER_SECOND, b_PER_SECOND, a_ANGSTROM, b_ANGSTROM, a_NANOMETRE, b_NANOMETRE, n1, n0]
    | ⟨1, _⟩ => simp [a_HERTZ, b_HERTZ, a_KILOHERTZ, b_KILOHERTZ, a_MEGAHERTZ, b_MEGAHERTZ, a_GIGAHERTZ, b_GIGAHERTZ, a_TERAHERTZ, b_TERAHERTZ, a_JOULE, b_JOULE, a_PER_CENTIMETRE, b_PER_CENTIMETRE, a_ELECTRONVOLT, b_ELECTRONVOLT, a_PER_SECOND, b_PER_SECOND, a_ANGSTROM, b_ANGSTROM, a_NANOMETRE, b_NANOMETRE, n1, n0]
    | ⟨2, _⟩ => simp [a_HERTZ, b_HERTZ, a_KILOHERTZ, b_KILOHERTZ, a_MEGAHERTZ, b_MEGAHERTZ, a_GIGAHERTZ, b_GIGAHERTZ, a_TERAHERTZ, b_TERAHERTZ, a_JOULE, b_JOULE, a_PER_CENTIMETRE, b_PER_CENTIMETRE, a_ELECTRONVOLT, b_ELECTRONVOLT, a_PER_SECOND, b_PER_SECOND, a_ANGSTROM, b_ANGSTROM, a_NANOMETRE, b_NANOMETRE, n1, n0]
    | ⟨3, _⟩ => simp [a_HERTZ, b_HERTZ, a_KILOHERTZ, b_KILOHERTZ, a_MEGAHERTZ, b_MEGAHERTZ, a_GIGAHERTZ, b_GIGAHERTZ, a_TERAHERTZ, b_TERAHERTZ, a_JOULE, b_JOULE, a_PER_CENTIMETRE, b_PER_CENTIMETRE, a_ELECTRONVOLT, b_ELECTRONVOLT, a_PER_SECOND, b_PER_SECOND, a_ANGSTROM, b_ANGSTROM, a_NANOMETRE, b_NANOMETRE, n1, n0]
    | ⟨4, _⟩ => simp [a_HERTZ, b_HERTZ, a_KILOHERTZ, b_KILOHERTZ, a_MEGAHERTZ, b_MEGAHERTZ, a_GIGAHERTZ, b_GIGAHERTZ, a_TERAHERTZ, b_TERAHERTZ, a_JOULE, b_JOULE, a_PER_CENTIMETRE, b_PER_CENTIMETRE, a_ELECTRONVOLT, b_ELECTRONVOLT, a_PER_SECOND, b_PER_SECOND, a_ANGSTROM, b_ANGSTROM, a_NANOMETRE, b_NANOMETRE, n1, n0]
    | ⟨5, _⟩ => simp [a_HERTZ, b_HERTZ, a_KILOHERTZ, b_KILOHERTZ, a_MEGAHERTZ, b_MEGAHERTZ, a_GIGAHERTZ, b_GIGAHERTZ, a_TERAHERTZ, b_TERAHERTZ, a_JOULE, b_JOULE, a_PER_CENTIMETRE, b_PER_CENTIMETRE, a_ELECTRONVOLT, b_ELECTRONVOLT, a_PER_SECOND, b_PER_SECOND, a_ANGSTROM, b_ANGSTROM, a_NANOMETRE, b_NANOMETRE, n1, n0]
    | ⟨6, _⟩ => simp [a_HERTZ, b_HERTZ, a_KILOHERTZ, b_KILOHERTZ, a_MEGAHERTZ, b_MEGAHERTZ, a_GIGAHERTZ, b_GIGAHERTZ, a_TERAHERTZ, b_TERAHERTZ, a_JOULE, b_JOULE, a_PER_CENTIMETRE, b_PER_CENTIMETRE, a_ELECTRONVOLT, b_ELECTRONVOLT, a_PER_SECOND, b_PER_SECOND, a_ANGSTROM, b_ANGSTROM, a_NANOMETRE, b_NANOMETRE, n1, n0]
    | ⟨7, _⟩ => simp [a_HERTZ, b_HERTZ, a_KILOHERTZ, b_KILOHERTZ, a_MEGAHERTZ, b_MEGAHERTZ, a_GIGAHERTZ, b_GIGAHERTZ, a_TERAHERTZ, b_TERAHERTZ, a_JOULE, b_JOULE, a_PER_CENTIMETRE, b_PER_CENTIMETRE, a_ELECTRONVOLT, b_ELECTRONVOLT, a_PER_SECOND, b_PER_SECOND, a_ANGSTROM, b_ANGSTROM, a_NANOMETRE, b_NANOMETRE, n1, n0]
    | ⟨8, _⟩ => simp [a_HERTZ, b_HERTZ, a_KILOHERTZ, b_KILOHERTZ, a_MEGAHERTZ, b_MEGAHERTZ, a_GIGAHERTZ, b_GIGAHERTZ, a_TERAHERTZ, b_TERAHERTZ, a_JOULE, b_JOULE, a_PER_CENTIMETRE, b_PER_CENTIMETRE, a_ELECTRONVOLT, b_ELECTRONVOLT, a_PER_SECOND, b_PER_SECOND, a_ANGSTROM, b_ANGSTROM, a_NANOMETRE, b_NANOMETRE, n1, n0]
    | ⟨9, _⟩ => simp [a_HERTZ, b_HERTZ, a_KILOHERTZ, b_KILOHERTZ, a_MEGAHERTZ, b_MEGAHERTZ, a_GIGAHERTZ, b_GIGAHERTZ, a_TERAHERTZ, b_TERAHERTZ, a_JOULE, b_JOULE, a_PER_CENTIMETRE, b_PER_CENTIMETRE, a_ELECTRONVOLT, b_ELECTRONVOLT, a_PER_SECOND, b_PER_SECOND, a_ANGSTROM, b_ANGSTROM, a_NANOMETRE, b_NANOMETRE, n1, n0]
    | ⟨10, _⟩ => simp [a_HERTZ, b_HERTZ, a_KILOHERTZ, b_KILOHERTZ, a_MEGAHERTZ, b_MEGAHERTZ, a_GIGAHERTZ, b_GIGAHERTZ, a_TERAHERTZ, b_TERAHERTZ, a_JOULE, b_JOULE, a_PER_CENTIMETRE, b_PER_CENTIMETRE, a_ELECTRONVOLT, b_ELECTRONVOLT, a_PER_SECOND, b_PER_SECOND, a_ANGSTROM, b_ANGSTROM, a_NANOMETRE, b_NANOMETRE, n1, n0]
set_option maxRecDepth 65536 in
set_option maxHeartbeats 40000000 in
theorem comes_1 {Post : Tables → Env → Array Value → State → Outcome → State → Prop} (hpost : ∀ tb e args s v u, (limb_1_1.after args s (.returned v) u = true ∧ limb_1_2.after args s (.returned v) u = true) → FrameEnd s (.returned v) u (Jvm.fieldLocs frame_1_writes args s ++ Jvm.arrayLocs frame_1_arrays args s ++ Jvm.staticLocs frame_1_statics s) 0 0 → Post tb e args s (.returned v) u) :
    ArmFor flags0 classFile x code maxLocals ret World_1 tables_1 room_1 Calls_1 rest_1 Pre_1 Post := by
  intro l hfl _ _ p e ha hc hk s m args below hf hA hF happ hP
  obtain ⟨hcalls, hrest, hpre⟩ := hP
  obtain ⟨-, -, -, hnamed, -, -, -, hat⟩ := (Spec.applies_iff hf).mp happ
  obtain ⟨hg, hn⟩ := and_e (Cond.before_iff.mp (show (Jvm.Cond.and given_1 narrow_1).before args s = true from hpre))
  obtain ⟨gc, hg⟩ := and_e hg
  obtain ⟨g0, hg⟩ := and_e hg
  have g1 := hg
  obtain ⟨w0, w1, rfl⟩ : ∃ w0 w1 : Value, args = #[w0, w1] := by
    have hs : args.size = 2 := by simpa [Cond.value, given_1] using gc
    obtain ⟨L⟩ := args
    match L, hs with
    | [w0, w1], _ => exact ⟨w0, w1, rfl⟩
  have hw := fun d (hd : d ∈ tables_1) => atoms_spec (ws := Jvm.Cond.code x code maxLocals ret :: tables_1) hat d (List.mem_cons_of_mem _ hd)
  have hfit : Fit s := fun {y c} hc i hi => by
    obtain ⟨ha, rfl⟩ := Array.getElem?_eq_some_iff.mp hc
    have q := List.all_eq_true.mp ((Array.all_eq_true_iff_forall_mem.mp hF) _ (Array.getElem_mem ha)) i (List.mem_range.mpr hi)
    simpa [Array.getElem?_eq_getElem hi] using q
  obtain ⟨i0, ei0⟩ := is_v g0
  obtain rfl : w0 = (.int i0) := Option.some.inj ei0
  obtain ⟨i1, ei1⟩ := is_v g1
  obtain rfl : w1 = (.int i1) := Option.some.inj ei1
  obtain ⟨na0, nb0⟩ := and_e hn
  obtain ⟨na1, nb1⟩ := and_e nb0
  obtain ⟨na2, nb2⟩ := and_e nb1
  obtain ⟨na3, nb3⟩ := and_e nb2
  obtain ⟨na4, nb4⟩ := and_e nb3
  obtain ⟨na5, nb5⟩ := and_e nb4
  obtain ⟨na6, nb6⟩ := and_e nb5
  obtain ⟨na7, nb7⟩ := and_e nb6
  obtain ⟨na8, nb8⟩ := and_e nb7
  obtain ⟨na9, nb9⟩ := and_e nb8
  obtain ⟨na10, nb10⟩ := and_e nb9
  obtain ⟨na11, nb11⟩ := and_e nb10
  obtain ⟨na12, nb12⟩ := and_e nb11
  obtain ⟨na13, nb13⟩ := and_e nb12
  obtain ⟨na14, nb14⟩ := and_e nb13
  obtain ⟨na15, nb15⟩ := and_e nb14
  obtain ⟨na16, nb16⟩ := and_e nb15
  obtain ⟨na17, nb17⟩ := and_e nb16
  obtain ⟨na18, nb18⟩ := and_e nb17
  obtain ⟨na19, nb19⟩ := and_e nb18
  obtain ⟨na20, nb20⟩ := and_e nb19
  obtain ⟨na21, nb21⟩ := and_e nb20
  obtain ⟨na22, nb22⟩ := and_e nb21
  obtain ⟨na23, nb23⟩ := and_e nb22
  obtain ⟨na24, nb24⟩ := and_e nb23
  obtain ⟨na25, nb25⟩ := and_e nb24
  obtain ⟨na26, nb26⟩ := and_e nb25
  obtain ⟨na27, nb27⟩ := and_e nb26
  obtain ⟨na28, nb28⟩ := and_e nb27
  obtain ⟨na29, nb29⟩ := and_e nb28
  obtain ⟨na30, nb30⟩ := and_e nb29
  obtain ⟨na31, nb31⟩ := and_e nb30
  obtain ⟨na32, nb32⟩ := and_e nb31
  obtain ⟨w_HERTZ, ev_HERTZ⟩ := exa_v na0
  have E_HERTZ : Exa s s.heap w_HERTZ "com/example/lattice_node/latticenode/core/Unit" := Exa.start ev_HERTZ na0
  have S_HERTZ : Sta s s.heap "com/example/lattice_node/latticenode/core/Unit" "HERTZ" "Lcom/example/lattice_node/latticenode/core/Unit;" (.ref w_HERTZ) := Sta.start ev_HERTZ (Or.inr ⟨(hw _ (List.mem_of_getElem? (i := 9) rfl)), (hw _ (List.mem_of_getElem? (i := 10) rfl))⟩)
  obtain ⟨w_GIGAHERTZ, ev_GIGAHERTZ⟩ := exa_v na1
  have E_GIGAHERTZ : Exa s s.heap w_GIGAHERTZ "com/example/lattice_node/latticenode/core/Unit" := Exa.start ev_GIGAHERTZ na1
  have S_GIGAHERTZ : Sta s s.heap "com/example/lattice_node/latticenode/core/Unit" "GIGAHERTZ" "Lcom/example/lattice_node/latticenode/core/Unit;" (.ref w_GIGAHERTZ) := Sta.start ev_GIGAHERTZ (Or.inr ⟨(hw _ (List.mem_of_getElem? (i := 9) rfl)), (hw _ (List.mem_of_getElem? (i := 12) rfl))⟩)
  obtain ⟨w_KILOHERTZ, ev_KILOHERTZ⟩ := exa_v na7
  have E_KILOHERTZ : Exa s s.heap w_KILOHERTZ "com/example/lattice_node/latticenode/core/Unit" := Exa.start ev_KILOHERTZ na7
  have S_KILOHERTZ : Sta s s.heap "com/example/lattice_node/latticenode/core/Unit" "KILOHERTZ" "Lcom/example/lattice_node/latticenode/core/Unit;" (.ref w_KILOHERTZ) := Sta.start ev_KILOHERTZ (Or.inr ⟨(hw _ (List.mem_of_getElem? (i := 9) rfl)), (hw _ (List.mem_of_getElem? (i := 27) rfl))⟩)
  obtain ⟨w_ANGSTROM, ev_ANGSTROM⟩ := exa_v na9
  have E_ANGSTROM : Exa s s.heap w_ANGSTROM "com/example/lattice_node/latticenode/core/Unit" := Exa.start ev_ANGSTROM na9
  have S_ANGSTROM : Sta s s.heap "com/example/lattice_node/latticenode/core/Unit" "ANGSTROM" "Lcom/example/lattice_node/latticenode/core/Unit;" (.ref w_ANGSTROM) := Sta.start ev_ANGSTROM (Or.inr ⟨(hw _ (List.mem_of_getElem? (i := 9) rfl)), (hw _ (List.mem_of_getElem? (i := 29) rfl))⟩)
  obtain ⟨w_NANOMETRE, ev_NANOMETRE⟩ := exa_v na10
  have E_NANOMETRE : Exa s s.heap w_NANOMETRE "com/example/lattice_node/latticenode/core/Unit" := Exa.start ev_NANOMETRE na10
  have S_NANOMETRE : Sta s s.heap "com/example/lattice_node/latticenode/core/Unit" "NANOMETRE" "Lcom/example/lattice_node/latticenode/core/Unit;" (.ref w_NANOMETRE) := Sta.start ev_NANOMETRE (Or.inr ⟨(hw _ (List.mem_of_getElem? (i := 9) rfl)), (hw _ (List.mem_of_getElem? (i := 31) rfl))⟩)
  obtain ⟨w_JOULE, ev_JOULE⟩ := exa_v na16
  have E_JOULE : Exa s s.heap w_JOULE "com/example/lattice_node/latticenode/core/Unit" := Exa.start ev_JOULE na16
  have S_JOULE : Sta s s.heap "com/example/lattice_node/latticenode/core/Unit" "JOULE" "Lcom/example/lattice_node/latticenode/core/Unit;" (.ref w_JOULE) := Sta.start ev_JOULE (Or.inr ⟨(hw _ (List.mem_of_getElem? (i := 9) rfl)), (hw _ (List.mem_of_getElem? (i := 34) rfl))⟩)
  obtain ⟨w_MEGAHERTZ, ev_MEGAHERTZ⟩ := exa_v na17
  have E_MEGAHERTZ : Exa s s.heap w_MEGAHERTZ "com/example/lattice_node/latticenode/core/Unit" := Exa.start ev_MEGAHERTZ na17
  have S_MEGAHERTZ : Sta s s.heap "com/example/lattice_node/latticenode/core/Unit" "MEGAHERTZ" "Lcom/example/lattice_node/latticenode/core/Unit;" (.ref w_MEGAHERTZ) := Sta.start ev_MEGAHERTZ (Or.inr ⟨(hw _ (List.mem_of_getElem? (i := 9) rfl)), (hw _ (List.mem_of_getElem? (i := 36) rfl))⟩)
  obtain ⟨w_PER_CENTIMETRE, ev_PER_CENTIMETRE⟩ := exa_v na23
  have E_PER_CENTIMETRE : Exa s s.heap w_PER_CENTIMETRE "com/example/lattice_node/latticenode/core/Unit" := Exa.start ev_PER_CENTIMETRE na23
  have S_PER_CENTIMETRE : Sta s s.heap "com/example/lattice_node/latticenode/core/Unit" "PER_CENTIMETRE" "Lcom/example/lattice_node/latticenode/core/Unit;" (.ref w_PER_CENTIMETRE) := Sta.start ev_PER_CENTIMETRE (Or.inr ⟨(hw _ (List.mem_of_getElem? (i := 9) rfl)), (hw _ (List.mem_of_getElem? (i := 39) rfl))⟩)
  obtain ⟨w_PER_SECOND, ev_PER_SECOND⟩ := exa_v na25
  have E_PER_SECOND : Exa s s.heap w_PER_SECOND "com/example/lattice_node/latticenode/core/Unit" := Exa.start ev_PER_SECOND na25
  have S_PER_SECOND : Sta s s.heap "com/example/lattice_node/latticenode/core/Unit" "PER_SECOND" "Lcom/example/lattice_node/latticenode/core/Unit;" (.ref w_PER_SECOND) := Sta.start ev_PER_SECOND (Or.inr ⟨(hw _ (List.mem_of_getElem? (i := 9) rfl)), (hw _ (List.mem_of_getElem? (i := 41) rfl))⟩)
  obtain ⟨w_ELECTRONVOLT, ev_ELECTRONVOLT⟩ := exa_v na29
  have E_ELECTRONVOLT : Exa s s.heap w_ELECTRONVOLT "com/example/lattice_node/latticenode/core/Unit" := Exa.start ev_ELECTRONVOLT na29
  have S_ELECTRONVOLT : Sta s s.heap "com/example/lattice_node/latticenode/core/Unit" "ELECTRONVOLT" "Lcom/example/lattice_node/latticenode/core/Unit;" (.ref w_ELECTRONVOLT) := Sta.start ev_ELECTRONVOLT (Or.inr ⟨(hw _ (List.mem_of_getElem? (i := 9) rfl)), (hw _ (List.mem_of_getElem? (i := 44) rfl))⟩)
  obtain ⟨w_TERAHERTZ, ev_TERAHERTZ⟩ := exa_v na31
  have E_TERAHERTZ : Exa s s.heap w_TERAHERTZ "com/example/lattice_node/latticenode/core/Unit" := Exa.start ev_TERAHERTZ na31
  have S_TERAHERTZ : Sta s s.heap "com/example/lattice_node/latticenode/core/Unit" "TERAHERTZ" "Lcom/example/lattice_node/latticenode/core/Unit;" (.ref w_TERAHERTZ) := Sta.start ev_TERAHERTZ (Or.inr ⟨(hw _ (List.mem_of_getElem? (i := 9) rfl)), (hw _ (List.mem_of_getElem? (i := 46) rfl))⟩)
  obtain ⟨w_FREQUENCY, ev_FREQUENCY⟩ := exa_v na2
  obtain ⟨w_LENGTH, ev_LENGTH⟩ := exa_v na11
  obtain ⟨w_ENERGY, ev_ENERGY⟩ := exa_v na18
  obtain ⟨w_RATE, ev_RATE⟩ := exa_v na26
  have q_HERTZ := own_ref ev_HERTZ ev_FREQUENCY na3
  obtain ⟨x_FREQUENCY, p_FREQUENCY⟩ := own_fex ev_FREQUENCY na4
  have q_GIGAHERTZ := own_ref ev_GIGAHERTZ ev_FREQUENCY na5
  have i_FREQUENCY := own_ord ev_FREQUENCY na6
  have q_KILOHERTZ := own_ref ev_KILOHERTZ ev_FREQUENCY na8
  have q_ANGSTROM := own_ref ev_ANGSTROM ev_LENGTH na12
  obtain ⟨x_LENGTH, p_LENGTH⟩ := own_fex ev_LENGTH na13
  have q_NANOMETRE := own_ref ev_NANOMETRE ev_LENGTH na14
  have i_LENGTH := own_ord ev_LENGTH na15
  have q_JOULE := own_ref ev_JOULE ev_ENERGY na19
  obtain ⟨x_ENERGY, p_ENERGY⟩ := own_fex ev_ENERGY na20
  have q_MEGAHERTZ := own_ref ev_MEGAHERTZ ev_FREQUENCY na21
  have i_ENERGY := own_ord ev_ENERGY na22
  have q_PER_CENTIMETRE := own_ref ev_PER_CENTIMETRE ev_ENERGY na24
  have q_PER_SECOND := own_ref ev_PER_SECOND ev_RATE na27
  have p_RATE := own_fnull ev_RATE na28
  have q_ELECTRONVOLT := own_ref ev_ELECTRONVOLT ev_ENERGY na30
  have q_TERAHERTZ := own_ref ev_TERAHERTZ ev_FREQUENCY na32
  have i_RATE := own_ord ev_RATE nb32
  obtain ⟨U_HERTZ, a_HERTZ, b_HERTZ⟩ := own_ok E_HERTZ q_HERTZ p_FREQUENCY rfl i_FREQUENCY
  obtain ⟨U_GIGAHERTZ, a_GIGAHERTZ, b_GIGAHERTZ⟩ := own_ok E_GIGAHERTZ q_GIGAHERTZ p_FREQUENCY rfl i_FREQUENCY
  obtain ⟨U_KILOHERTZ, a_KILOHERTZ, b_KILOHERTZ⟩ := own_ok E_KILOHERTZ q_KILOHERTZ p_FREQUENCY rfl i_FREQUENCY
  obtain ⟨U_ANGSTROM, a_ANGSTROM, b_ANGSTROM⟩ := own_ok E_ANGSTROM q_ANGSTROM p_LENGTH rfl i_LENGTH
  obtain ⟨U_NANOMETRE, a_NANOMETRE, b_NANOMETRE⟩ := own_ok E_NANOMETRE q_NANOMETRE p_LENGTH rfl i_LENGTH
  obtain ⟨U_JOULE, a_JOULE, b_JOULE⟩ := own_ok E_JOULE q_JOULE p_ENERGY rfl i_ENERGY
  obtain ⟨U_MEGAHERTZ, a_MEGAHERTZ, b_MEGAHERTZ⟩ := own_ok E_MEGAHERTZ q_MEGAHERTZ p_FREQUENCY rfl i_FREQUENCY
  obtain ⟨U_PER_CENTIMETRE, a_PER_CENTIMETRE, b_PER_CENTIMETRE⟩ := own_ok E_PER_CENTIMETRE q_PER_CENTIMETRE p_ENERGY rfl i_ENERGY
  obtain ⟨U_PER_SECOND, a_PER_SECOND, b_PER_SECOND⟩ := own_ok E_PER_SECOND q_PER_SECOND p_RATE rfl i_RATE
  obtain ⟨U_ELECTRONVOLT, a_ELECTRONVOLT, b_ELECTRONVOLT⟩ := own_ok E_ELECTRONVOLT q_ELECTRONVOLT p_ENERGY rfl i_ENERGY
  obtain ⟨U_TERAHERTZ, a_TERAHERTZ, b_TERAHERTZ⟩ := own_ok E_TERAHERTZ q_TERAHERTZ p_FREQUENCY rfl i_FREQUENCY
  obtain ⟨n, o, h1, h2, h3, v, L, rfl, hQ, hq⟩ := rm0 l s _ hw tables_1 i0 i1 w_HERTZ w_GIGAHERTZ w_KILOHERTZ w_ANGSTROM w_NANOMETRE w_JOULE w_MEGAHERTZ w_PER_CENTIMETRE w_PER_SECOND w_ELECTRONVOLT w_TERAHERTZ (own_gq s) (own_gp s) (own_gi s) s.heap  S_HERTZ S_GIGAHERTZ S_KILOHERTZ S_ANGSTROM S_NANOMETRE S_JOULE S_MEGAHERTZ S_PER_CENTIMETRE S_PER_SECOND S_ELECTRONVOLT S_TERAHERTZ U_HERTZ U_GIGAHERTZ U_KILOHERTZ U_ANGSTROM U_NANOMETRE U_JOULE U_MEGAHERTZ U_PER_CENTIMETRE U_PER_SECOND U_ELECTRONVOLT U_TERAHERTZ p e ha hc hk s m _ below hf ((Spec.applies_iff_loose hf).mp happ).1 ⟨rfl, State.Warmed39.refl s, rfl⟩ trivial
  obtain ⟨rfl, rfl, -⟩ := hQ
  rw [law_eq _ _ w_HERTZ w_GIGAHERTZ w_KILOHERTZ w_ANGSTROM w_NANOMETRE w_JOULE w_MEGAHERTZ w_PER_CENTIMETRE w_PER_SECOND w_ELECTRONVOLT w_TERAHERTZ (own_gq s) (own_gp s) (own_gi s) (by rw [a_HERTZ]; exact nofun) b_HERTZ (by rw [a_KILOHERTZ]; exact nofun) b_KILOHERTZ (by rw [a_MEGAHERTZ]; exact nofun) b_MEGAHERTZ (by rw [a_GIGAHERTZ]; exact nofun) b_GIGAHERTZ (by rw [a_TERAHERTZ]; exact nofun) b_TERAHERTZ (by rw [a_JOULE]; exact nofun) b_JOULE (by rw [a_PER_CENTIMETRE]; exact nofun) b_PER_CENTIMETRE (by rw [a_ELECTRONVOLT]; exact nofun) b_ELECTRONVOLT a_PER_SECOND b_PER_SECOND (by rw [a_ANGSTROM]; exact nofun) b_ANGSTROM (by rw [a_NANOMETRE]; exact nofun) b_NANOMETRE] at *
  refine ⟨n, _, h1, h2, h3, hpost _ _ _ _ _ _ ⟨Cond.after_iff.mpr rfl, Cond.after_iff.mpr (eq_i res_at (Term.int_eval (1)) rfl)⟩ ⟨hq.1, hq.2.1, (hq.2.2.sift fun y hy => nomatch hy).mono (by decide) (by decide)⟩⟩
theorem main_1_1 : Claimed_1_1 := comes_1 fun _ _ _ _ _ _ h hF => ⟨h.1, hF⟩
theorem main_1_2 : Claimed_1_2 := comes_1 fun _ _ _ _ _ _ h hF => ⟨h.2, hF⟩
end Jvm.Pilot.@@N@@
namespace Jvm.Pilot.@@N@@
open Jvm Jvm.ClassFile Sem Op Lib Jvm.Free Jvm.Stand Jvm.Pilot.@@N@@.Jvm.D
/-! MADE BY PROGRAM (witnessworld.py) out of the Statement's table words and the real class files: 15 classes; the members and pool entries that the words name. The judged class is class 1, her method 1. -/
namespace start1
open Jvm.ClassFile
def u (s : String) : CpInfo := .utf8 (stringToUtf16 s)
/-- a pool by its gaps: so many unusable entries, then the entry; so many at the end -/
def gap : Nat → List CpInfo → List CpInfo
  | 0, r => r
  | n + 1, r => .unusable :: gap n r
def poolList (es : List (Nat × CpInfo)) (last : Nat) : List CpInfo := es.foldr (fun e r => gap e.1 (e.2 :: r)) (gap last [])
def pool (es : List (Nat × CpInfo)) (last : Nat) : Array CpInfo := ⟨poolList es last⟩
def fileOf (pool : Array CpInfo) (this : Nat) (attrs : Array Attribute := #[]) (ms : Array MethodInfo := #[]) (fl : Nat := 33) (sup : Nat := 0) (ifs : Array Nat := #[]) (fds : Array FieldInfo := #[]) : ClassFile where
  minorVersion := 0
  majorVersion := 65
  constantPool := pool
  accessFlags := fl
  thisClass := this
  superClass := sup
  interfaces := ifs
  fields := fds
  methods := ms
  attributes := attrs
def plain (name : String) (sup : Option ClassId) : Class where
  name := name
  kind := .ordinary
  loader := none
  accessFlags := 33
  super := sup
  interfaces := #[]
  cf := none
  fields := #[]
  methods := #[]
  instanceTypes := #[]
  staticTypes := #[]
  resolved := #[]
  callSites := []
  init := .initialized
  statics := none
  mirror := none

def pool0 : Array CpInfo := pool [(5, u "<init>"), (0, u "()V"), (1, .class_ 10), (1, u "java/lang/Object")] 113

def k0m0 : Method := { name := "<init>", desc := "()V", sig := { parameters := [], returnType := none }, accessFlags := 1, code := none }
/-- java/lang/Object -/
def k0 : Class := { plain "java/lang/Object" none with
  accessFlags := 33
  interfaces := #[]
  cf := some (fileOf pool0 8 #[] #[{ accessFlags := 1, nameIndex := 5, descriptorIndex := 6, attributes := #[] }] 33 0 #[] #[])
  fields := #[]
  methods := #[k0m0]
  instanceTypes := #[]
  staticTypes := #[]
  resolved := Array.replicate 124 none
  statics := none }

def pool1 : Array CpInfo := pool [(2, .class_ 4), (1, u "java/lang/Object"), (0, u "<init>"), (0, u "()V"), (0, .integer 2147483647), (0, .methodref 9 10), (0, .class_ 11), (0, .nameAndType 12 13), (0, u "com/example/lattice_node/latticenode/core/UnitInvertsSpectrallyPinLaw"), (0, u "kind"), (0, u "(I)I"), (0, .methodref 9 15), (0, .nameAndType 16 17), (0, u "unit"), (0, u "(I)Lcom/example/lattice_node/latticenode/core/Unit;"), (0, .methodref 19 20), (0, .class_ 21), (0, .nameAndType 22 23), (0, u "com/example/lattice_node/latticenode/core/Unit"), (0, u "invertsSpectrally"), (0, u "(Lcom/example/lattice_node/latticenode/core/Unit;)Z"), (0, .fieldref 19 25), (0, .nameAndType 26 27), (0, u "HERTZ"), (0, u "Lcom/example/lattice_node/latticenode/core/Unit;"), (0, .fieldref 19 29), (0, .nameAndType 30 27), (0, u "KILOHERTZ"), (0, .fieldref 19 32), (0, .nameAndType 33 27), (0, u "MEGAHERTZ"), (0, .fieldref 19 35), (0, .nameAndType 36 27), (0, u "GIGAHERTZ"), (0, .fieldref 19 38), (0, .nameAndType 39 27), (0, u "TERAHERTZ"), (0, .fieldref 19 41), (0, .nameAndType 42 27), (0, u "JOULE"), (0, .fieldref 19 44), (0, .nameAndType 45 27), (0, u "PER_CENTIMETRE"), (0, .fieldref 19 47), (0, .nameAndType 48 27), (0, u "ELECTRONVOLT"), (0, .fieldref 19 50), (0, .nameAndType 51 27), (0, u "PER_SECOND"), (0, .fieldref 19 53), (0, .nameAndType 54 27), (0, u "ANGSTROM"), (0, .fieldref 19 56), (0, .nameAndType 57 27), (0, u "NANOMETRE"), (2, u "law"), (0, u "(II)Z")] 3

def k1m0 : Method := { name := "<init>", desc := "()V", sig := { parameters := [], returnType := none }, accessFlags := 1, code := none }
def k1c1 : Code := { maxStack := 3, maxLocals := 7, code := code, exceptionTable := #[], attributes := #[] }
def k1m1 : Method := { name := "law", desc := "(II)Z", sig := { parameters := [.int, .int], returnType := some .boolean }, accessFlags := 9, code := some k1c1 }
def k1c2 : Code := { maxStack := 2, maxLocals := 1, code := method_3_code, exceptionTable := #[], attributes := #[] }
def k1m2 : Method := { name := "kind", desc := "(I)I", sig := { parameters := [.int], returnType := some .int }, accessFlags := 10, code := some k1c2 }
def k1c3 : Code := { maxStack := 2, maxLocals := 1, code := method_4_code, exceptionTable := #[], attributes := #[] }
def k1m3 : Method := { name := "unit", desc := "(I)Lcom/example/lattice_node/latticenode/core/Unit;", sig := { parameters := [.int], returnType := some (.object "com/example/lattice_node/latticenode/core/Unit") }, accessFlags := 10, code := some k1c3 }
/-- com/example/lattice_node/latticenode/core/UnitInvertsSpectrallyPinLaw -/
def k1 : Class := { plain "com/example/lattice_node/latticenode/core/UnitInvertsSpectrallyPinLaw" (some 0) with
  accessFlags := 49
  interfaces := #[]
  cf := some (fileOf pool1 9 #[] #[{ accessFlags := 1, nameIndex := 5, descriptorIndex := 6, attributes := #[] }, { accessFlags := 9, nameIndex := 60, descriptorIndex := 61, attributes := #[] }, { accessFlags := 10, nameIndex := 12, descriptorIndex := 13, attributes := #[] }, { accessFlags := 10, nameIndex := 16, descriptorIndex := 17, attributes := #[] }] 49 2 #[] #[])
  fields := #[]
  methods := #[k1m0, k1m1, k1m2, k1m3]
  instanceTypes := #[]
  staticTypes := #[]
  resolved := Array.replicate 65 none
  statics := none }

def pool2 : Array CpInfo := pool [(1, .class_ 2), (0, u "java/lang/constant/Constable"), (0, .class_ 4), (0, u "java/lang/Object")] 6

/-- java/lang/constant/Constable -/
def k2 : Class := { plain "java/lang/constant/Constable" (some 0) with
  accessFlags := 1537
  interfaces := #[]
  cf := some (fileOf pool2 1 #[] #[] 1537 3 #[] #[])
  fields := #[]
  methods := #[]
  instanceTypes := #[]
  staticTypes := #[]
  resolved := Array.replicate 11 none
  statics := none }

def pool3 : Array CpInfo := pool [(1, .class_ 2), (0, u "java/lang/Comparable"), (0, .class_ 4), (0, u "java/lang/Object")] 7

/-- java/lang/Comparable -/
def k3 : Class := { plain "java/lang/Comparable" (some 0) with
  accessFlags := 1537
  interfaces := #[]
  cf := some (fileOf pool3 1 #[] #[] 1537 3 #[] #[])
  fields := #[]
  methods := #[]
  instanceTypes := #[]
  staticTypes := #[]
  resolved := Array.replicate 12 none
  statics := none }

def pool4 : Array CpInfo := pool [(1, .class_ 2), (0, u "java/io/Serializable"), (0, .class_ 4), (0, u "java/lang/Object")] 2

/-- java/io/Serializable -/
def k4 : Class := { plain "java/io/Serializable" (some 0) with
  accessFlags := 1537
  interfaces := #[]
  cf := some (fileOf pool4 1 #[] #[] 1537 3 #[] #[])
  fields := #[]
  methods := #[]
  instanceTypes := #[]
  staticTypes := #[]
  resolved := Array.replicate 7 none
  statics := none }

def pool5 : Array CpInfo := pool [(2, .class_ 4), (1, u "java/lang/Enum"), (0, u "name"), (0, u "Ljava/lang/String;"), (2, u "ordinal"), (0, u "I"), (1, .class_ 14), (1, u "java/lang/Object"), (4, u "hash"), (86, .class_ 108), (1, u "java/lang/Enum$EnumDesc"), (2, .class_ 112), (0, u "java/lang/constant/Constable"), (0, .class_ 114), (0, u "java/lang/Comparable"), (0, .class_ 116), (0, u "java/io/Serializable")] 87

/-- java/lang/Enum -/
def k5 : Class := { plain "java/lang/Enum" (some 0) with
  accessFlags := 1057
  interfaces := #[2, 3, 4]
  cf := some (fileOf pool5 2 #[.nestMembers #[106]] #[] 1057 12 #[111, 113, 115] #[{ accessFlags := 18, nameIndex := 5, descriptorIndex := 6, attributes := #[] }, { accessFlags := 18, nameIndex := 9, descriptorIndex := 10, attributes := #[] }, { accessFlags := 2, nameIndex := 19, descriptorIndex := 10, attributes := #[] }])
  fields := #[{ name := "name", type := (.object "java/lang/String"), accessFlags := 18, slot := 0, constantValue := 0 }, { name := "ordinal", type := .int, accessFlags := 18, slot := 1, constantValue := 0 }, { name := "hash", type := .int, accessFlags := 2, slot := 2, constantValue := 0 }]
  methods := #[]
  instanceTypes := #[(.object "java/lang/String"), .int, .int]
  staticTypes := #[]
  resolved := Array.replicate 204 none
  statics := none }

def pool6 : Array CpInfo := pool [(1, .class_ 2), (0, u "com/example/lattice_node/latticenode/core/Unit"), (2, u "HERTZ"), (0, u "Lcom/example/lattice_node/latticenode/core/Unit;"), (2, u "KILOHERTZ"), (2, u "MEGAHERTZ"), (2, u "GIGAHERTZ"), (2, u "TERAHERTZ"), (2, u "JOULE"), (2, u "PER_CENTIMETRE"), (2, u "ELECTRONVOLT"), (2, u "PER_SECOND"), (2, u "ANGSTROM"), (2, u "NANOMETRE"), (2, u "$VALUES"), (0, u "[Lcom/example/lattice_node/latticenode/core/Unit;"), (6, .class_ 49), (1, u "java/lang/Enum"), (8, u "symbol"), (0, u "Ljava/lang/String;"), (0, .fieldref 1 61), (0, .nameAndType 62 63), (0, u "quantity"), (0, u "Lcom/example/lattice_node/latticenode/core/Unit$Quantity;"), (7, u "size"), (0, u "Ljava/math/BigDecimal;"), (58, u "(Lcom/example/lattice_node/latticenode/core/Unit;)Z"), (0, .fieldref 133 134), (0, .class_ 135), (0, .nameAndType 136 72), (0, u "com/example/lattice_node/latticenode/core/Unit$Quantity"), (0, u "perHertz"), (10, u "invertsSpectrally"), (10, .fieldref 133 159), (0, .nameAndType 160 161), (0, u "inverse"), (0, u "Z")] 112

def k6c0 : Code := { maxStack := 2, maxLocals := 2, code := prog_18_method_10_code, exceptionTable := #[], attributes := #[] }
def k6m0 : Method := { name := "invertsSpectrally", desc := "(Lcom/example/lattice_node/latticenode/core/Unit;)Z", sig := { parameters := [(.object "com/example/lattice_node/latticenode/core/Unit")], returnType := some .boolean }, accessFlags := 1, code := some k6c0 }
/-- com/example/lattice_node/latticenode/core/Unit -/
def k6 : Class := { plain "com/example/lattice_node/latticenode/core/Unit" (some 5) with
  accessFlags := 16433
  interfaces := #[]
  cf := some (fileOf pool6 1 #[.nestMembers #[133]] #[{ accessFlags := 1, nameIndex := 147, descriptorIndex := 131, attributes := #[] }] 16433 47 #[] #[{ accessFlags := 16409, nameIndex := 5, descriptorIndex := 6, attributes := #[] }, { accessFlags := 16409, nameIndex := 9, descriptorIndex := 6, attributes := #[] }, { accessFlags := 16409, nameIndex := 12, descriptorIndex := 6, attributes := #[] }, { accessFlags := 16409, nameIndex := 15, descriptorIndex := 6, attributes := #[] }, { accessFlags := 16409, nameIndex := 18, descriptorIndex := 6, attributes := #[] }, { accessFlags := 16409, nameIndex := 21, descriptorIndex := 6, attributes := #[] }, { accessFlags := 16409, nameIndex := 24, descriptorIndex := 6, attributes := #[] }, { accessFlags := 16409, nameIndex := 27, descriptorIndex := 6, attributes := #[] }, { accessFlags := 16409, nameIndex := 30, descriptorIndex := 6, attributes := #[] }, { accessFlags := 16409, nameIndex := 33, descriptorIndex := 6, attributes := #[] }, { accessFlags := 16409, nameIndex := 36, descriptorIndex := 6, attributes := #[] }, { accessFlags := 18, nameIndex := 58, descriptorIndex := 59, attributes := #[] }, { accessFlags := 18, nameIndex := 62, descriptorIndex := 63, attributes := #[] }, { accessFlags := 18, nameIndex := 71, descriptorIndex := 72, attributes := #[] }, { accessFlags := 4122, nameIndex := 39, descriptorIndex := 40, attributes := #[] }])
  fields := #[{ name := "HERTZ", type := (.object "com/example/lattice_node/latticenode/core/Unit"), accessFlags := 16409, slot := 0, constantValue := 0 }, { name := "KILOHERTZ", type := (.object "com/example/lattice_node/latticenode/core/Unit"), accessFlags := 16409, slot := 1, constantValue := 0 }, { name := "MEGAHERTZ", type := (.object "com/example/lattice_node/latticenode/core/Unit"), accessFlags := 16409, slot := 2, constantValue := 0 }, { name := "GIGAHERTZ", type := (.object "com/example/lattice_node/latticenode/core/Unit"), accessFlags := 16409, slot := 3, constantValue := 0 }, { name := "TERAHERTZ", type := (.object "com/example/lattice_node/latticenode/core/Unit"), accessFlags := 16409, slot := 4, constantValue := 0 }, { name := "JOULE", type := (.object "com/example/lattice_node/latticenode/core/Unit"), accessFlags := 16409, slot := 5, constantValue := 0 }, { name := "PER_CENTIMETRE", type := (.object "com/example/lattice_node/latticenode/core/Unit"), accessFlags := 16409, slot := 6, constantValue := 0 }, { name := "ELECTRONVOLT", type := (.object "com/example/lattice_node/latticenode/core/Unit"), accessFlags := 16409, slot := 7, constantValue := 0 }, { name := "PER_SECOND", type := (.object "com/example/lattice_node/latticenode/core/Unit"), accessFlags := 16409, slot := 8, constantValue := 0 }, { name := "ANGSTROM", type := (.object "com/example/lattice_node/latticenode/core/Unit"), accessFlags := 16409, slot := 9, constantValue := 0 }, { name := "NANOMETRE", type := (.object "com/example/lattice_node/latticenode/core/Unit"), accessFlags := 16409, slot := 10, constantValue := 0 }, { name := "symbol", type := (.object "java/lang/String"), accessFlags := 18, slot := 3, constantValue := 0 }, { name := "quantity", type := (.object "com/example/lattice_node/latticenode/core/Unit$Quantity"), accessFlags := 18, slot := 4, constantValue := 0 }, { name := "size", type := (.object "java/math/BigDecimal"), accessFlags := 18, slot := 5, constantValue := 0 }, { name := "$VALUES", type := (.array (.object "com/example/lattice_node/latticenode/core/Unit")), accessFlags := 4122, slot := 11, constantValue := 0 }]
  methods := #[k6m0]
  instanceTypes := #[(.object "java/lang/String"), .int, .int, (.object "java/lang/String"), (.object "com/example/lattice_node/latticenode/core/Unit$Quantity"), (.object "java/math/BigDecimal")]
  staticTypes := #[(.object "com/example/lattice_node/latticenode/core/Unit"), (.object "com/example/lattice_node/latticenode/core/Unit"), (.object "com/example/lattice_node/latticenode/core/Unit"), (.object "com/example/lattice_node/latticenode/core/Unit"), (.object "com/example/lattice_node/latticenode/core/Unit"), (.object "com/example/lattice_node/latticenode/core/Unit"), (.object "com/example/lattice_node/latticenode/core/Unit"), (.object "com/example/lattice_node/latticenode/core/Unit"), (.object "com/example/lattice_node/latticenode/core/Unit"), (.object "com/example/lattice_node/latticenode/core/Unit"), (.object "com/example/lattice_node/latticenode/core/Unit"), (.array (.object "com/example/lattice_node/latticenode/core/Unit"))]
  resolved := ((Array.replicate 274 none).setIfInBounds 132 (some (.field 7 4))).setIfInBounds 158 (some (.field 7 5))
  statics := some 0 }

def pool7 : Array CpInfo := pool [(1, .class_ 2), (0, u "com/example/lattice_node/latticenode/core/Unit$Quantity"), (2, u "FREQUENCY"), (0, u "Lcom/example/lattice_node/latticenode/core/Unit$Quantity;"), (2, u "ENERGY"), (2, u "RATE"), (2, u "LENGTH"), (2, u "$VALUES"), (0, u "[Lcom/example/lattice_node/latticenode/core/Unit$Quantity;"), (6, .class_ 28), (1, u "java/lang/Enum"), (13, u "perHertz"), (0, u "Ljava/math/BigDecimal;"), (2, u "inverse"), (0, u "Z"), (49, .class_ 98), (0, u "com/example/lattice_node/latticenode/core/Unit")] 2

/-- com/example/lattice_node/latticenode/core/Unit$Quantity -/
def k7 : Class := { plain "com/example/lattice_node/latticenode/core/Unit$Quantity" (some 5) with
  accessFlags := 16432
  interfaces := #[]
  cf := some (fileOf pool7 1 #[.nestHost 97] #[] 16432 26 #[] #[{ accessFlags := 16409, nameIndex := 5, descriptorIndex := 6, attributes := #[] }, { accessFlags := 16409, nameIndex := 9, descriptorIndex := 6, attributes := #[] }, { accessFlags := 16409, nameIndex := 12, descriptorIndex := 6, attributes := #[] }, { accessFlags := 16409, nameIndex := 15, descriptorIndex := 6, attributes := #[] }, { accessFlags := 18, nameIndex := 42, descriptorIndex := 43, attributes := #[] }, { accessFlags := 18, nameIndex := 46, descriptorIndex := 47, attributes := #[] }, { accessFlags := 4122, nameIndex := 18, descriptorIndex := 19, attributes := #[] }])
  fields := #[{ name := "FREQUENCY", type := (.object "com/example/lattice_node/latticenode/core/Unit$Quantity"), accessFlags := 16409, slot := 0, constantValue := 0 }, { name := "ENERGY", type := (.object "com/example/lattice_node/latticenode/core/Unit$Quantity"), accessFlags := 16409, slot := 1, constantValue := 0 }, { name := "RATE", type := (.object "com/example/lattice_node/latticenode/core/Unit$Quantity"), accessFlags := 16409, slot := 2, constantValue := 0 }, { name := "LENGTH", type := (.object "com/example/lattice_node/latticenode/core/Unit$Quantity"), accessFlags := 16409, slot := 3, constantValue := 0 }, { name := "perHertz", type := (.object "java/math/BigDecimal"), accessFlags := 18, slot := 3, constantValue := 0 }, { name := "inverse", type := .boolean, accessFlags := 18, slot := 4, constantValue := 0 }, { name := "$VALUES", type := (.array (.object "com/example/lattice_node/latticenode/core/Unit$Quantity")), accessFlags := 4122, slot := 4, constantValue := 0 }]
  methods := #[]
  instanceTypes := #[(.object "java/lang/String"), .int, .int, (.object "java/math/BigDecimal"), .boolean]
  staticTypes := #[(.object "com/example/lattice_node/latticenode/core/Unit$Quantity"), (.object "com/example/lattice_node/latticenode/core/Unit$Quantity"), (.object "com/example/lattice_node/latticenode/core/Unit$Quantity"), (.object "com/example/lattice_node/latticenode/core/Unit$Quantity"), (.array (.object "com/example/lattice_node/latticenode/core/Unit$Quantity"))]
  resolved := Array.replicate 101 none
  statics := some 1 }

def pool8 : Array CpInfo := pool [(2, .class_ 4), (1, u "java/lang/Object"), (0, u "<init>"), (0, u "()V"), (1, .class_ 10), (1, u "java/lang/Number"), (2, .class_ 14), (0, u "java/io/Serializable"), (0, u "serialVersionUID"), (0, u "J")] 20

def k8m0 : Method := { name := "<init>", desc := "()V", sig := { parameters := [], returnType := none }, accessFlags := 1, code := none }
/-- java/lang/Number -/
def k8 : Class := { plain "java/lang/Number" (some 0) with
  accessFlags := 1057
  interfaces := #[4]
  cf := some (fileOf pool8 8 #[] #[{ accessFlags := 1, nameIndex := 5, descriptorIndex := 6, attributes := #[] }] 1057 2 #[13] #[{ accessFlags := 26, nameIndex := 15, descriptorIndex := 16, attributes := #[] }])
  fields := #[{ name := "serialVersionUID", type := .long, accessFlags := 26, slot := 0, constantValue := 0 }]
  methods := #[k8m0]
  instanceTypes := #[]
  staticTypes := #[.long]
  resolved := Array.replicate 37 none
  statics := none }

def pool9 : Array CpInfo := pool [(3, .class_ 4), (0, u "java/math/BigDecimal"), (7, .class_ 14), (1, u "java/lang/Number"), (4, u "scale"), (0, u "I"), (2, u "precision"), (2, u "intCompact"), (0, u "J"), (2, u "intVal"), (0, u "Ljava/math/BigInteger;"), (65, u "LONG_TEN_POWERS_TABLE"), (0, u "[J"), (88, u "ZERO"), (2, u "INFLATED_BIGINT"), (15, u "TWO"), (41, u "ZERO_THROUGH_TEN"), (0, u "[Ljava/math/BigDecimal;"), (2, u "ZERO_SCALED_BY"), (60, u "$assertionsDisabled"), (0, u "Z"), (163, u "ONE_TENTH"), (0, u "Ljava/math/BigDecimal;"), (5, u "TEN"), (14, .class_ 502), (1, u "java/math/BigDecimal$1"), (15, u "ONE_HALF"), (16, u "ONE"), (107, u "stringCache"), (0, u "Ljava/lang/String;"), (52, .class_ 699), (1, u "java/math/BigDecimal$LongOverflow"), (8, u "FLOAT_10_POW"), (0, u "[F"), (39, u "DOUBLE_10_POW"), (0, u "[D"), (19, .class_ 772), (1, u "java/math/BigDecimal$StringBuilderHelper"), (35, u "BIG_TEN_POWERS_TABLE_MAX"), (2, u "BIG_TEN_POWERS_TABLE"), (0, u "[Ljava/math/BigInteger;"), (14, u "THRESHOLDS_TABLE"), (23, .class_ 853), (1, u "java/math/BigDecimal$UnsafeHolder"), (214, u "LONGLONG_TEN_POWERS_TABLE"), (0, u "[[J"), (112, u "BIG_TEN_POWERS_TABLE_INITLEN"), (113, .class_ 1297), (0, u "java/lang/Comparable"), (0, u "L"), (0, u "D"), (1, u "P_F"), (1, u "Q_MIN_F"), (1, u "Q_MAX_F"), (1, u "P_D"), (1, u "Q_MIN_D"), (1, u "Q_MAX_D"), (1, u "INFLATED"), (0, u "MAX_COMPACT_DIGITS"), (1, u "serialVersionUID"), (2, u "HALF_LONG_MAX_VALUE"), (0, u "HALF_LONG_MIN_VALUE"), (0, u "ROUND_UP"), (6, u "ROUND_DOWN"), (1, u "ROUND_CEILING"), (1, u "ROUND_FLOOR"), (1, u "ROUND_HALF_UP"), (1, u "ROUND_HALF_DOWN"), (1, u "ROUND_HALF_EVEN"), (1, u "ROUND_UNNECESSARY"), (1, u "DIV_NUM_BASE")] 294

/-- java/math/BigDecimal -/
def k9 : Class := { plain "java/math/BigDecimal" (some 8) with
  accessFlags := 33
  interfaces := #[3]
  cf := some (fileOf pool9 3 #[.nestMembers #[500, 851, 770, 697]] #[] 33 12 #[1296] #[{ accessFlags := 26, nameIndex := 1298, descriptorIndex := 1299, attributes := #[] }, { accessFlags := 26, nameIndex := 1301, descriptorIndex := 20, attributes := #[] }, { accessFlags := 26, nameIndex := 1303, descriptorIndex := 20, attributes := #[] }, { accessFlags := 26, nameIndex := 1305, descriptorIndex := 20, attributes := #[] }, { accessFlags := 26, nameIndex := 1307, descriptorIndex := 20, attributes := #[] }, { accessFlags := 26, nameIndex := 1309, descriptorIndex := 20, attributes := #[] }, { accessFlags := 26, nameIndex := 1311, descriptorIndex := 20, attributes := #[] }, { accessFlags := 18, nameIndex := 30, descriptorIndex := 31, attributes := #[] }, { accessFlags := 18, nameIndex := 19, descriptorIndex := 20, attributes := #[] }, { accessFlags := 130, nameIndex := 23, descriptorIndex := 20, attributes := #[] }, { accessFlags := 130, nameIndex := 643, descriptorIndex := 644, attributes := #[] }, { accessFlags := 24, nameIndex := 1313, descriptorIndex := 27, attributes := #[] }, { accessFlags := 26, nameIndex := 190, descriptorIndex := 31, attributes := #[] }, { accessFlags := 146, nameIndex := 26, descriptorIndex := 27, attributes := #[] }, { accessFlags := 26, nameIndex := 1314, descriptorIndex := 20, attributes := #[] }, { accessFlags := 26, nameIndex := 1316, descriptorIndex := 27, attributes := #[] }, { accessFlags := 26, nameIndex := 248, descriptorIndex := 249, attributes := #[] }, { accessFlags := 26, nameIndex := 252, descriptorIndex := 249, attributes := #[] }, { accessFlags := 26, nameIndex := 1319, descriptorIndex := 27, attributes := #[] }, { accessFlags := 26, nameIndex := 1320, descriptorIndex := 27, attributes := #[] }, { accessFlags := 25, nameIndex := 187, descriptorIndex := 479, attributes := #[] }, { accessFlags := 25, nameIndex := 535, descriptorIndex := 479, attributes := #[] }, { accessFlags := 25, nameIndex := 206, descriptorIndex := 479, attributes := #[] }, { accessFlags := 25, nameIndex := 485, descriptorIndex := 479, attributes := #[] }, { accessFlags := 26, nameIndex := 478, descriptorIndex := 479, attributes := #[] }, { accessFlags := 26, nameIndex := 518, descriptorIndex := 479, attributes := #[] }, { accessFlags := 25, nameIndex := 1321, descriptorIndex := 20, attributes := #[] }, { accessFlags := 25, nameIndex := 1328, descriptorIndex := 20, attributes := #[] }, { accessFlags := 25, nameIndex := 1330, descriptorIndex := 20, attributes := #[] }, { accessFlags := 25, nameIndex := 1332, descriptorIndex := 20, attributes := #[] }, { accessFlags := 25, nameIndex := 1334, descriptorIndex := 20, attributes := #[] }, { accessFlags := 25, nameIndex := 1336, descriptorIndex := 20, attributes := #[] }, { accessFlags := 25, nameIndex := 1338, descriptorIndex := 20, attributes := #[] }, { accessFlags := 25, nameIndex := 1340, descriptorIndex := 20, attributes := #[] }, { accessFlags := 26, nameIndex := 749, descriptorIndex := 750, attributes := #[] }, { accessFlags := 26, nameIndex := 708, descriptorIndex := 709, attributes := #[] }, { accessFlags := 26, nameIndex := 97, descriptorIndex := 98, attributes := #[] }, { accessFlags := 74, nameIndex := 811, descriptorIndex := 812, attributes := #[] }, { accessFlags := 26, nameIndex := 1182, descriptorIndex := 20, attributes := #[] }, { accessFlags := 26, nameIndex := 808, descriptorIndex := 20, attributes := #[] }, { accessFlags := 26, nameIndex := 827, descriptorIndex := 98, attributes := #[] }, { accessFlags := 26, nameIndex := 1342, descriptorIndex := 27, attributes := #[] }, { accessFlags := 26, nameIndex := 1068, descriptorIndex := 1069, attributes := #[] }, { accessFlags := 4120, nameIndex := 313, descriptorIndex := 314, attributes := #[] }])
  fields := #[{ name := "L", type := .double, accessFlags := 26, slot := 0, constantValue := 0 }, { name := "P_F", type := .int, accessFlags := 26, slot := 1, constantValue := 0 }, { name := "Q_MIN_F", type := .int, accessFlags := 26, slot := 2, constantValue := 0 }, { name := "Q_MAX_F", type := .int, accessFlags := 26, slot := 3, constantValue := 0 }, { name := "P_D", type := .int, accessFlags := 26, slot := 4, constantValue := 0 }, { name := "Q_MIN_D", type := .int, accessFlags := 26, slot := 5, constantValue := 0 }, { name := "Q_MAX_D", type := .int, accessFlags := 26, slot := 6, constantValue := 0 }, { name := "intVal", type := (.object "java/math/BigInteger"), accessFlags := 18, slot := 0, constantValue := 0 }, { name := "scale", type := .int, accessFlags := 18, slot := 1, constantValue := 0 }, { name := "precision", type := .int, accessFlags := 130, slot := 2, constantValue := 0 }, { name := "stringCache", type := (.object "java/lang/String"), accessFlags := 130, slot := 3, constantValue := 0 }, { name := "INFLATED", type := .long, accessFlags := 24, slot := 7, constantValue := 0 }, { name := "INFLATED_BIGINT", type := (.object "java/math/BigInteger"), accessFlags := 26, slot := 8, constantValue := 0 }, { name := "intCompact", type := .long, accessFlags := 146, slot := 4, constantValue := 0 }, { name := "MAX_COMPACT_DIGITS", type := .int, accessFlags := 26, slot := 9, constantValue := 0 }, { name := "serialVersionUID", type := .long, accessFlags := 26, slot := 10, constantValue := 0 }, { name := "ZERO_THROUGH_TEN", type := (.array (.object "java/math/BigDecimal")), accessFlags := 26, slot := 11, constantValue := 0 }, { name := "ZERO_SCALED_BY", type := (.array (.object "java/math/BigDecimal")), accessFlags := 26, slot := 12, constantValue := 0 }, { name := "HALF_LONG_MAX_VALUE", type := .long, accessFlags := 26, slot := 13, constantValue := 0 }, { name := "HALF_LONG_MIN_VALUE", type := .long, accessFlags := 26, slot := 14, constantValue := 0 }, { name := "ZERO", type := (.object "java/math/BigDecimal"), accessFlags := 25, slot := 15, constantValue := 0 }, { name := "ONE", type := (.object "java/math/BigDecimal"), accessFlags := 25, slot := 16, constantValue := 0 }, { name := "TWO", type := (.object "java/math/BigDecimal"), accessFlags := 25, slot := 17, constantValue := 0 }, { name := "TEN", type := (.object "java/math/BigDecimal"), accessFlags := 25, slot := 18, constantValue := 0 }, { name := "ONE_TENTH", type := (.object "java/math/BigDecimal"), accessFlags := 26, slot := 19, constantValue := 0 }, { name := "ONE_HALF", type := (.object "java/math/BigDecimal"), accessFlags := 26, slot := 20, constantValue := 0 }, { name := "ROUND_UP", type := .int, accessFlags := 25, slot := 21, constantValue := 0 }, { name := "ROUND_DOWN", type := .int, accessFlags := 25, slot := 22, constantValue := 0 }, { name := "ROUND_CEILING", type := .int, accessFlags := 25, slot := 23, constantValue := 0 }, { name := "ROUND_FLOOR", type := .int, accessFlags := 25, slot := 24, constantValue := 0 }, { name := "ROUND_HALF_UP", type := .int, accessFlags := 25, slot := 25, constantValue := 0 }, { name := "ROUND_HALF_DOWN", type := .int, accessFlags := 25, slot := 26, constantValue := 0 }, { name := "ROUND_HALF_EVEN", type := .int, accessFlags := 25, slot := 27, constantValue := 0 }, { name := "ROUND_UNNECESSARY", type := .int, accessFlags := 25, slot := 28, constantValue := 0 }, { name := "DOUBLE_10_POW", type := (.array .double), accessFlags := 26, slot := 29, constantValue := 0 }, { name := "FLOAT_10_POW", type := (.array .float), accessFlags := 26, slot := 30, constantValue := 0 }, { name := "LONG_TEN_POWERS_TABLE", type := (.array .long), accessFlags := 26, slot := 31, constantValue := 0 }, { name := "BIG_TEN_POWERS_TABLE", type := (.array (.object "java/math/BigInteger")), accessFlags := 74, slot := 32, constantValue := 0 }, { name := "BIG_TEN_POWERS_TABLE_INITLEN", type := .int, accessFlags := 26, slot := 33, constantValue := 0 }, { name := "BIG_TEN_POWERS_TABLE_MAX", type := .int, accessFlags := 26, slot := 34, constantValue := 0 }, { name := "THRESHOLDS_TABLE", type := (.array .long), accessFlags := 26, slot := 35, constantValue := 0 }, { name := "DIV_NUM_BASE", type := .long, accessFlags := 26, slot := 36, constantValue := 0 }, { name := "LONGLONG_TEN_POWERS_TABLE", type := (.array (.array .long)), accessFlags := 26, slot := 37, constantValue := 0 }, { name := "$assertionsDisabled", type := .boolean, accessFlags := 4120, slot := 38, constantValue := 0 }]
  methods := #[]
  instanceTypes := #[(.object "java/math/BigInteger"), .int, .int, (.object "java/lang/String"), .long]
  staticTypes := #[.double, .int, .int, .int, .int, .int, .int, .long, (.object "java/math/BigInteger"), .int, .long, (.array (.object "java/math/BigDecimal")), (.array (.object "java/math/BigDecimal")), .long, .long, (.object "java/math/BigDecimal"), (.object "java/math/BigDecimal"), (.object "java/math/BigDecimal"), (.object "java/math/BigDecimal"), (.object "java/math/BigDecimal"), (.object "java/math/BigDecimal"), .int, .int, .int, .int, .int, .int, .int, .int, (.array .double), (.array .float), (.array .long), (.array (.object "java/math/BigInteger")), .int, .int, (.array .long), .long, (.array (.array .long)), .boolean]
  resolved := Array.replicate 1637 none
  statics := none }

def pool10 : Array CpInfo := pool [(1, u "java/lang/Cloneable"), (0, .class_ 1), (0, u "java/lang/Object"), (0, .class_ 3)] 3

/-- java/lang/Cloneable -/
def k10 : Class := { plain "java/lang/Cloneable" (some 0) with
  accessFlags := 1537
  interfaces := #[]
  cf := some (fileOf pool10 2 #[] #[] 1537 4 #[] #[])
  fields := #[]
  methods := #[]
  instanceTypes := #[]
  staticTypes := #[]
  resolved := Array.replicate 8 none
  statics := none }

/-- the primitive byte -/
def k11 : Class := { plain "byte" none with kind := .primitive 'B', accessFlags := 0x411 }
/-- [B -/
def k12 : Class := { plain "[B" (some 0) with kind := .array 11 .byte, interfaces := #[10, 4], accessFlags := 1041 }

/-- the primitive int -/
def k13 : Class := { plain "int" none with kind := .primitive 'I', accessFlags := 0x411 }
/-- [I -/
def k14 : Class := { plain "[I" (some 0) with kind := .array 13 .int, interfaces := #[10, 4], accessFlags := 1041 }

def heap : Heap := #[{ cls := 6, slots := #[.ref 7, .ref 8, .ref 9, .ref 10, .ref 11, .ref 12, .ref 13, .ref 14, .ref 15, .ref 16, .ref 17, .null], vm := .statics 6 },
  { cls := 7, slots := #[.ref 3, .ref 4, .ref 5, .ref 6, .null], vm := .statics 7 },
  { cls := 9, slots := #[.null, .int 0, .int 0, .null, .long 0], vm := .none },
  { cls := 7, slots := #[.null, .int 0, .int 0, .ref 2, .int 0], vm := .none },
  { cls := 7, slots := #[.null, .int 1, .int 0, .ref 2, .int 0], vm := .none },
  { cls := 7, slots := #[.null, .int 2, .int 0, .null, .int 0], vm := .none },
  { cls := 7, slots := #[.null, .int 3, .int 0, .ref 2, .int 1], vm := .none },
  { cls := 6, slots := #[.null, .int 0, .int 0, .null, .ref 3, .null], vm := .none },
  { cls := 6, slots := #[.null, .int 1, .int 0, .null, .ref 3, .null], vm := .none },
  { cls := 6, slots := #[.null, .int 2, .int 0, .null, .ref 3, .null], vm := .none },
  { cls := 6, slots := #[.null, .int 3, .int 0, .null, .ref 3, .null], vm := .none },
  { cls := 6, slots := #[.null, .int 4, .int 0, .null, .ref 3, .null], vm := .none },
  { cls := 6, slots := #[.null, .int 5, .int 0, .null, .ref 4, .null], vm := .none },
  { cls := 6, slots := #[.null, .int 6, .int 0, .null, .ref 4, .null], vm := .none },
  { cls := 6, slots := #[.null, .int 7, .int 0, .null, .ref 4, .null], vm := .none },
  { cls := 6, slots := #[.null, .int 8, .int 0, .null, .ref 5, .null], vm := .none },
  { cls := 6, slots := #[.null, .int 9, .int 0, .null, .ref 6, .null], vm := .none },
  { cls := 6, slots := #[.null, .int 10, .int 0, .null, .ref 6, .null], vm := .none }]
def classes : Array Class := #[k0, k1, k2, k3, k4, k5, k6, k7, k8, k9, k10, k11, k12, k13, k14]
def interned : List (Array UInt16 × Addr) := []
def slotsUsed : Nat := 108
def theMethod : MethodId := ⟨1, 1⟩
def args0 : Array Value := #[.int 0, .int 9]
def aboutOver (below : List Frame) : State where
  vm := { classes := classes, interned := interned.toArray }
  heap := heap
  slotsUsed := slotsUsed
  threads := #[{ frames := .invoking theMethod args0 :: below }]
def below0 : List Frame := [.native { method := ⟨0, 0⟩, args := #[] }]
def about1 : State := aboutOver below0
def p0 : Program := .bare "" "" ""
def e0 : Env := launch0.env 0 0 0
theorem w_frames : about1.frames = Frame.invoking theMethod args0 :: below0 := rfl
set_option maxRecDepth 65536 in
theorem w_args : argsFit about1.vm theMethod args0 = true := by decide +kernel
set_option maxRecDepth 65536 in
theorem w_heap : heapFits about1 = true := by decide +kernel
set_option maxRecDepth 65536 in
theorem w_runnable : about1.curStatus? = some .runnable := by decide +kernel
set_option maxRecDepth 65536 in
theorem w_alone : about1.alone = true := by decide +kernel
set_option maxRecDepth 65536 in
theorem w_named : about1.methodNamed? x = some theMethod := by decide +kernel
set_option maxRecDepth 65536 in
theorem w_hears : about1.hears theMethod below0 = true := by decide +kernel
set_option maxRecDepth 65536 in
theorem w_ripe : about1.ripe theMethod args0 below0 = true := by decide +kernel
theorem w_running : about1.status = .running := rfl
set_option maxRecDepth 65536 in
theorem w_room : about1.hasRoom e0.platform room_1 = true :=
  launch0.hasRoom_least _ room_1 (by decide +kernel) (by decide +kernel) (by decide +kernel) (by decide +kernel) (by decide +kernel) (by decide +kernel)
theorem allAtoms_all (ts : List Jvm.Cond) (a : Array Jvm.Value) (st : Jvm.State) : (allAtoms ts).before a st = ts.all (fun c => c.before a st) := by
  induction ts with
  | nil => rfl
  | cons c t ih =>
    show (Jvm.Cond.and c (allAtoms t)).before a st = _
    rw [Jvm.Cond.before_and, ih, List.all_cons]
def words1 : List Jvm.Cond := Jvm.Cond.code x code maxLocals ret :: tables_1
/-- a 'code' word, met by the world's own term for the bytes: nothing is compared byte by byte -/
theorem code_word {y : MethodName} {bytes : ByteArray} {mx : Nat} {rt : Option FieldType} {a : Array Value} {s : State} {m : MethodId} {meth : Method} {c : Code} (h1 : s.methodNamed? y = some m) (h2 : s.vm.method? m = some meth) (h3 : meth.code = some c) (h4 : c.code = bytes)
    (h5 : (c.maxLocals == mx && c.exceptionTable.isEmpty && decide (c.maxStack ≤ mostOperands) && decide (meth.sig.returnType = rt) && !meth.locks && decide (parseMethodDescriptor y.desc = some meth.sig)) = true) : (Jvm.Cond.code y bytes mx rt).before a s = true := by
  simp only [Bool.and_eq_true, beq_iff_eq, Bool.not_eq_true', decide_eq_true_eq] at h5
  obtain ⟨⟨⟨⟨⟨g1, g2⟩, g3⟩, g4⟩, g5⟩, g6⟩ := h5
  simp [Cond.before, Cond.holds, Cond.value, h1, h2, h3, h4, g1, g2, g3, g4, g5, g6]
def isCode : Jvm.Cond → Bool
  | .code _ _ _ _ => true
  | _ => false
theorem all_split {L : List Jvm.Cond} {P : Jvm.Cond → Bool} (h1 : L.all (fun c => isCode c || P c) = true) (h2 : ∀ c ∈ L.filter isCode, P c = true) : L.all P = true := by
  refine List.all_eq_true.mpr fun c hc => ?_
  have h := List.all_eq_true.mp h1 c hc
  rcases Bool.eq_false_or_eq_true (isCode c) with hi | hi
  · exact h2 c (List.mem_filter.mpr ⟨hc, hi⟩)
  · simpa [hi] using h
set_option maxRecDepth 65536 in
theorem w_c0 : (Jvm.Cond.code x code maxLocals ret).before args0 about1 = true := code_word (m := ⟨1, 1⟩) (meth := k1m1) (c := k1c1) (by decide +kernel) rfl rfl rfl (by decide +kernel)
set_option maxRecDepth 65536 in
theorem w_c1 : (Jvm.Cond.code ({ cls := "com/example/lattice_node/latticenode/core/UnitInvertsSpectrallyPinLaw", name := "kind", desc := "(I)I" } : Jvm.MethodName) method_3_code (1 : Nat) (Option.some Jvm.ClassFile.FieldType.int)).before args0 about1 = true := code_word (m := ⟨1, 2⟩) (meth := k1m2) (c := k1c2) (by decide +kernel) rfl rfl rfl (by decide +kernel)
set_option maxRecDepth 65536 in
theorem w_c2 : (Jvm.Cond.code ({ cls := "com/example/lattice_node/latticenode/core/UnitInvertsSpectrallyPinLaw", name := "unit", desc := "(I)Lcom/example/lattice_node/latticenode/core/Unit;" } : Jvm.MethodName) method_4_code (1 : Nat) (Option.some (Jvm.ClassFile.FieldType.object "com/example/lattice_node/latticenode/core/Unit"))).before args0 about1 = true := code_word (m := ⟨1, 3⟩) (meth := k1m3) (c := k1c3) (by decide +kernel) rfl rfl rfl (by decide +kernel)
set_option maxRecDepth 65536 in
theorem w_c3 : (Jvm.Cond.code ({ cls := "com/example/lattice_node/latticenode/core/Unit", name := "invertsSpectrally", desc := "(Lcom/example/lattice_node/latticenode/core/Unit;)Z" } : Jvm.MethodName) prog_18_method_10_code (2 : Nat) (Option.some Jvm.ClassFile.FieldType.boolean)).before args0 about1 = true := code_word (m := ⟨6, 0⟩) (meth := k6m0) (c := k6c0) (by decide +kernel) rfl rfl rfl (by decide +kernel)
def codes1 : List Jvm.Cond := [Jvm.Cond.code x code maxLocals ret, Jvm.Cond.code ({ cls := "com/example/lattice_node/latticenode/core/UnitInvertsSpectrallyPinLaw", name := "kind", desc := "(I)I" } : Jvm.MethodName) method_3_code (1 : Nat) (Option.some Jvm.ClassFile.FieldType.int), Jvm.Cond.code ({ cls := "com/example/lattice_node/latticenode/core/UnitInvertsSpectrallyPinLaw", name := "unit", desc := "(I)Lcom/example/lattice_node/latticenode/core/Unit;" } : Jvm.MethodName) method_4_code (1 : Nat) (Option.some (Jvm.ClassFile.FieldType.object "com/example/lattice_node/latticenode/core/Unit")), Jvm.Cond.code ({ cls := "com/example/lattice_node/latticenode/core/Unit", name := "invertsSpectrally", desc := "(Lcom/example/lattice_node/latticenode/core/Unit;)Z" } : Jvm.MethodName) prog_18_method_10_code (2 : Nat) (Option.some Jvm.ClassFile.FieldType.boolean)]
set_option maxRecDepth 65536 in
theorem codes_eq : words1.filter isCode = codes1 := rfl
theorem w_codes : ∀ c ∈ words1.filter isCode, c.before args0 about1 = true := by
  rw [codes_eq]
  intro c hc
  simp only [codes1, List.mem_cons, List.not_mem_nil, or_false] at hc
  rcases hc with rfl | rfl | rfl | rfl
  · exact w_c0
  · exact w_c1
  · exact w_c2
  · exact w_c3
set_option maxRecDepth 65536 in
theorem w_t1 : (words1.take 24).all (fun c => isCode c || c.before args0 about1) = true := by decide +kernel
set_option maxRecDepth 65536 in
theorem w_t2 : (words1.drop 24).all (fun c => isCode c || c.before args0 about1) = true := by decide +kernel
theorem w_tables : (allAtoms (Jvm.Cond.code x code maxLocals ret :: tables_1)).before args0 about1 = true := by
  rw [allAtoms_all]
  show words1.all (fun c => c.before args0 about1) = true
  refine all_split ?_ w_codes
  rw [← List.take_append_drop 24 words1, List.all_append, w_t1, w_t2]
  rfl
set_option maxRecDepth 65536 in
theorem w_case : (Jvm.Cond.and given_1 narrow_1).before args0 about1 = true := by decide +kernel
theorem w_applies : (headSpec (Jvm.Cond.code x code maxLocals ret :: tables_1) room_1).applies x e0.platform about1 = true :=
  (Spec.applies_iff w_frames).mpr ⟨w_running, w_runnable, w_alone, w_named, w_hears, w_ripe, w_room, w_tables⟩
theorem atStart : AtStart classFile x code maxLocals ret World_1 tables_1 room_1 Calls_1 rest_1 Pre_1 launch0 p0 e0 about1 theMethod args0 below0 :=
  ⟨lists_1, trivial, launch0.admits_env _ _ _, launch0.least_env, fairChoices_fair.cas, fairChoices_fair.clock, w_frames, w_args, w_heap, w_applies, trivial, trivial, w_case⟩
end start1
theorem witness_1 : WitnessClaimed_1 := ⟨start1.p0, start1.e0, start1.about1, start1.theMethod, start1.args0, start1.below0, start1.atStart⟩
end Jvm.Pilot.@@N@@
