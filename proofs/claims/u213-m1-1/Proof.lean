import JvmDerived
import JvmDerived.Pilot.@@N@@Statement
import JvmDerived.Pilot.@@N@@Code
set_option linter.unusedVariables false
set_option linter.unusedSimpArgs false
namespace Jvm.Pilot.@@N@@
open Jvm Jvm.ClassFile Sem Op Lib Jvm.Free Jvm.Stand Jvm.LawKit Jvm.RoadKit Bundle Jvm.Pilot.@@N@@.Jvm.D
/-! from a frame on, the body comes to its end as Q says -/
section OwnKit
variable {p : Program} {l : Launch} {e : Env} {R : Room} {s : State} {m : MethodId} {args : Array Value} {below : List Frame} {meth : Method} {c : Code} {T T' : State} {locs : List Loc} {cells slots C D : Nat} {Q Q' : Option Value → Heap → List Loc → Prop} {g g' : JFrame}
def Go (p : Program) (e : Env) (below : List Frame) (s : State) (C D : Nat) (Q : Option Value → Heap → List Loc → Prop) (T : State) (g : JFrame) : Prop :=
  ∃ u o, Steps p.tables e below (T.setTop g) u ∧ u.status = .running ∧ Ended u below o ∧ ∃ v L, o = .returned v ∧ Q v u.heap L ∧ FrameEnd s o u L C D
def PureQ (r : Value) (h0 : Heap) (v : Option Value) (h : Heap) (L : List Loc) : Prop := v = some r ∧ L = [] ∧ h = h0
theorem Go.step (k : ∀ t, Steps p.tables e below (T'.setTop g') t → Steps p.tables e below (T.setTop g) t) (h : Go p e below s C D Q T' g') : Go p e below s C D Q T g := by
  obtain ⟨u, o, h1, r⟩ := h
  exact ⟨u, o, k _ h1, r⟩
theorem Go.mono (h : Go p e below s C D Q T g) (q : ∀ v h L, Q v h L → Q' v h L) : Go p e below s C D Q' T g := by
  obtain ⟨u, o, h1, h2, h3, v, L, h4, h5, h6⟩ := h
  exact ⟨u, o, h1, h2, h3, v, L, h4, q _ _ _ h5, h6⟩
theorem Go.retN (X : Stand p l e R s m args below meth c T locs cells slots) (hx : p.tables.exec = Jvm.exec) (hlk : meth.locks = false) {pc : Nat} {Ls : Array Slot} {z : Int32} {t : FieldType} {rest : List Value} (hret : meth.sig.returnType = some t) (ht : t = .boolean ∨ t = .byte ∨ t = .char ∨ t = .short)
    (hd : decode c.code pc = .ok (.ireturn, 1)) (hC : cells ≤ C) (hD : slots ≤ D) (hq : Q (some (.int (nar t z))) T.heap locs) : Go p e below s C D Q T (mkF m pc Ls (.int z :: rest)) := by
  obtain ⟨fs, hr, hrun, hended, hW, hsame⟩ := X.leave (v := some (.int (nar t z))) (fun h => by rw [hret] at h; cases h) hlk
  exact ⟨_, _, Jvm.RoadKit.retN X hx hret ht hd hr, hrun, hended, _, _, rfl, hq, ⟨_, rfl⟩, hW, hsame.mono hC hD⟩
theorem Go.retW (X : Stand p l e R s m args below meth c T locs cells slots) (hx : p.tables.exec = Jvm.exec) (hlk : meth.locks = false) {pc : Nat} {Ls : Array Slot} {w : Value} {t : FieldType} {i : Instr} {rest : List Value} (hret : meth.sig.returnType = some t) (hn : narrow t w = w)
    (hi : (i = .ireturn ∧ (t = .int ∨ t = .boolean ∨ t = .byte ∨ t = .char ∨ t = .short) ∧ ∃ z, w = .int z) ∨ (i = .lreturn ∧ t = .long ∧ ∃ z, w = .long z) ∨ (i = .dreturn ∧ t = .double ∧ ∃ z, w = .double z) ∨ (i = .freturn ∧ t = .float ∧ ∃ z, w = .float z) ∨ (i = .areturn ∧ t.isReference = true ∧ w.isRef = true))
    (hd : decode c.code pc = .ok (i, 1)) (hC : cells ≤ C) (hD : slots ≤ D) (hq : Q (some w) T.heap locs) : Go p e below s C D Q T (mkF m pc Ls (w :: rest)) := by
  obtain ⟨fs, hr, hrun, hended, hW, hsame⟩ := X.leave (v := some w) (fun h => by rw [hret] at h; cases h) hlk
  exact ⟨_, _, retOut X hx hret hn hi hd hr, hrun, hended, _, _, rfl, hq, ⟨_, rfl⟩, hW, hsame.mono hC hD⟩
theorem Go.ret0 (X : Stand p l e R s m args below meth c T locs cells slots) (hx : p.tables.exec = Jvm.exec) (hlk : meth.locks = false) {pc : Nat} {Ls : Array Slot} (hret : meth.sig.returnType = none)
    (hd : decode c.code pc = .ok (.return_, 1)) (hC : cells ≤ C) (hD : slots ≤ D) (hq : Q none T.heap locs) : Go p e below s C D Q T (mkF m pc Ls []) := by
  obtain ⟨fs, hr, hrun, hended, hW, hsame⟩ := X.leave (v := none) (fun _ => rfl) hlk
  exact ⟨_, _, X.returnOut hx hret hd hr, hrun, hended, _, _, rfl, hq, ⟨_, rfl⟩, hW, hsame.mono hC hD⟩
end OwnKit
theorem pd_0 : parseMethodDescriptor "(I)Lcom/example/quotarail/quotarail/service/SessionRequest$Step;" = some ⟨[.int], some (.object "com/example/quotarail/quotarail/service/SessionRequest$Step")⟩ := by decide +kernel
theorem pd_1 : parseMethodDescriptor "()Z" = some ⟨[], some .boolean⟩ := by decide +kernel
theorem own_ord {t : Term} {a : Addr} {k : Int32} {args : Array Value} {s : State} {C n d : String} (ev : t.eval args s none [] s = some (.ref a)) (h : (Jvm.Cond.eq (.field t C n d) (.int k)).value args s none s [] = some true) : s.fieldOf? a C n d = some (.int k) := by
  have e := fld_at (C := C) (n := n) (dd := d) ev
  cases hf : s.fieldOf? a C n d with
  | none => rw [hf] at e; simp [Cond.value, e] at h
  | some v => rw [hf] at e; cases v <;> simp [Cond.value, e, Term.int_eval] at h ⊢; exact h
theorem own_ref {t u : Term} {a b : Addr} {args : Array Value} {s : State} {C n d : String} (ev : t.eval args s none [] s = some (.ref a)) (eu : u.eval args s none [] s = some (.ref b)) (h : (Jvm.Cond.eq (.field t C n d) u).value args s none s [] = some true) : s.fieldOf? a C n d = some (.ref b) := by
  have e := fld_at (C := C) (n := n) (dd := d) ev
  cases hf : s.fieldOf? a C n d with
  | none => rw [hf] at e; simp [Cond.value, e] at h
  | some v => rw [hf] at e; cases v <;> simp [Cond.value, e, eu] at h ⊢; exact h
theorem own_ne {a b : Addr} {v w : Value} {s : State} {C n d : String} (h1 : s.fieldOf? a C n d = some v) (h2 : s.fieldOf? b C n d = some w) (hn : v ≠ w) : a ≠ b := fun e => by
  subst e; exact hn (Option.some.inj (h1.symm.trans h2))
theorem d1_0 : decode method_2_code 0 = .ok (.iload_n 0, 1) := by decide +kernel
theorem d1_1 : decode method_2_code 1 = .ok (.ifCond .ne 7, 3) := by decide +kernel
theorem d1_4 : decode method_2_code 4 = .ok (.getstatic 7, 3) := by decide +kernel
theorem d1_7 : decode method_2_code 7 = .ok (.areturn, 1) := by decide +kernel
theorem d1_8 : decode method_2_code 8 = .ok (.iload_n 0, 1) := by decide +kernel
theorem d1_9 : decode method_2_code 9 = .ok (.iconst 1, 1) := by decide +kernel
theorem d1_10 : decode method_2_code 10 = .ok (.if_icmp .ne 7, 3) := by decide +kernel
theorem d1_13 : decode method_2_code 13 = .ok (.getstatic 13, 3) := by decide +kernel
theorem d1_16 : decode method_2_code 16 = .ok (.areturn, 1) := by decide +kernel
theorem d1_17 : decode method_2_code 17 = .ok (.iload_n 0, 1) := by decide +kernel
theorem d1_18 : decode method_2_code 18 = .ok (.iconst 2, 1) := by decide +kernel
theorem d1_19 : decode method_2_code 19 = .ok (.if_icmp .ne 7, 3) := by decide +kernel
theorem d1_22 : decode method_2_code 22 = .ok (.getstatic 16, 3) := by decide +kernel
theorem d1_25 : decode method_2_code 25 = .ok (.areturn, 1) := by decide +kernel
theorem d1_26 : decode method_2_code 26 = .ok (.iload_n 0, 1) := by decide +kernel
theorem d1_27 : decode method_2_code 27 = .ok (.iconst 3, 1) := by decide +kernel
theorem d1_28 : decode method_2_code 28 = .ok (.if_icmp .ne 7, 3) := by decide +kernel
theorem d1_31 : decode method_2_code 31 = .ok (.getstatic 19, 3) := by decide +kernel
theorem d1_34 : decode method_2_code 34 = .ok (.areturn, 1) := by decide +kernel
theorem d1_35 : decode method_2_code 35 = .ok (.iload_n 0, 1) := by decide +kernel
theorem d1_36 : decode method_2_code 36 = .ok (.iconst 4, 1) := by decide +kernel
theorem d1_37 : decode method_2_code 37 = .ok (.if_icmp .ne 7, 3) := by decide +kernel
theorem d1_40 : decode method_2_code 40 = .ok (.getstatic 22, 3) := by decide +kernel
theorem d1_43 : decode method_2_code 43 = .ok (.areturn, 1) := by decide +kernel
theorem d1_44 : decode method_2_code 44 = .ok (.getstatic 25, 3) := by decide +kernel
theorem d1_47 : decode method_2_code 47 = .ok (.areturn, 1) := by decide +kernel
theorem pn_1 : plainName "com/example/quotarail/quotarail/service/StepIsEventPinLaw" = true := by first | (simp [plainName, overriddenIn]; done) | decide +kernel
theorem ef_1 (m : MethodId) (p0 : Int32) : entryFrame m #[(.int p0)] 1 = mkF m 0 #[.val (.int p0)] [] := by first | (simp [entryFrame, mkF, argsToLocals, Value.category]; done) | rfl
def f1_44 (w_CHECK_BALANCE : Addr) : Addr := w_CHECK_BALANCE
def f1_40 (w_REFUND : Addr) : Addr := w_REFUND
def f1_35 (p0 : Int32) (w_REFUND : Addr) (w_CHECK_BALANCE : Addr) : Addr := if p0 = (4 : Int32) then (f1_40 w_REFUND) else (f1_44 w_CHECK_BALANCE)
def f1_31 (w_DEBIT : Addr) : Addr := w_DEBIT
def f1_26 (p0 : Int32) (w_DEBIT : Addr) (w_REFUND : Addr) (w_CHECK_BALANCE : Addr) : Addr := if p0 = (3 : Int32) then (f1_31 w_DEBIT) else (f1_35 p0 w_REFUND w_CHECK_BALANCE)
def f1_22 (w_TERMINATE : Addr) : Addr := w_TERMINATE
def f1_17 (p0 : Int32) (w_DEBIT : Addr) (w_REFUND : Addr) (w_CHECK_BALANCE : Addr) (w_TERMINATE : Addr) : Addr := if p0 = (2 : Int32) then (f1_22 w_TERMINATE) else (f1_26 p0 w_DEBIT w_REFUND w_CHECK_BALANCE)
def f1_13 (w_UPDATE : Addr) : Addr := w_UPDATE
def f1_8 (p0 : Int32) (w_DEBIT : Addr) (w_REFUND : Addr) (w_CHECK_BALANCE : Addr) (w_TERMINATE : Addr) (w_UPDATE : Addr) : Addr := if p0 = (1 : Int32) then (f1_13 w_UPDATE) else (f1_17 p0 w_DEBIT w_REFUND w_CHECK_BALANCE w_TERMINATE)
def f1_4 (w_OPEN : Addr) : Addr := w_OPEN
def f1_0 (p0 : Int32) (w_OPEN : Addr) (w_DEBIT : Addr) (w_REFUND : Addr) (w_CHECK_BALANCE : Addr) (w_TERMINATE : Addr) (w_UPDATE : Addr) : Addr := if p0 = (0 : Int32) then (f1_4 w_OPEN) else (f1_8 p0 w_DEBIT w_REFUND w_CHECK_BALANCE w_TERMINATE w_UPDATE)
set_option maxRecDepth 65536 in
set_option maxHeartbeats 40000000 in
theorem rm1 (l : Launch) (Z : State) (a0 : Array Value) (hw : ∀ d ∈ tables_1, d.before a0 Z = true) (ws : List Jvm.Cond) (p0 : Int32) (w_OPEN : Addr) (w_DEBIT : Addr) (w_REFUND : Addr) (w_CHECK_BALANCE : Addr) (w_TERMINATE : Addr) (w_UPDATE : Addr) (h0 : Heap) (S_OPEN : Sta Z h0 "com/example/quotarail/quotarail/service/SessionRequest$Step" "OPEN" "Lcom/example/quotarail/quotarail/service/SessionRequest$Step;" (.ref w_OPEN)) (S_DEBIT : Sta Z h0 "com/example/quotarail/quotarail/service/SessionRequest$Step" "DEBIT" "Lcom/example/quotarail/quotarail/service/SessionRequest$Step;" (.ref w_DEBIT)) (S_REFUND : Sta Z h0 "com/example/quotarail/quotarail/service/SessionRequest$Step" "REFUND" "Lcom/example/quotarail/quotarail/service/SessionRequest$Step;" (.ref w_REFUND)) (S_CHECK_BALANCE : Sta Z h0 "com/example/quotarail/quotarail/service/SessionRequest$Step" "CHECK_BALANCE" "Lcom/example/quotarail/quotarail/service/SessionRequest$Step;" (.ref w_CHECK_BALANCE)) (S_TERMINATE : Sta Z h0 "com/example/quotarail/quotarail/service/SessionRequest$Step" "TERMINATE" "Lcom/example/quotarail/quotarail/service/SessionRequest$Step;" (.ref w_TERMINATE)) (S_UPDATE : Sta Z h0 "com/example/quotarail/quotarail/service/SessionRequest$Step" "UPDATE" "Lcom/example/quotarail/quotarail/service/SessionRequest$Step;" (.ref w_UPDATE)) :
    MetFree l (⟨"com/example/quotarail/quotarail/service/StepIsEventPinLaw", "pick", "(I)Lcom/example/quotarail/quotarail/service/SessionRequest$Step;"⟩ : MethodName) (head1 (Jvm.Cond.code (⟨"com/example/quotarail/quotarail/service/StepIsEventPinLaw", "pick", "(I)Lcom/example/quotarail/quotarail/service/SessionRequest$Step;"⟩ : MethodName) method_2_code 1 (some (.object "com/example/quotarail/quotarail/service/SessionRequest$Step")) :: ws) ({ frames := 0, cells := 0, slots := 0, locals := 0 } : Room)) (fun a U => a = #[(.int p0)] ∧ Z.Warmed39 U.vm ∧ U.heap = h0) (fun _ _ _ _ _ => True) (fun _ U o U' => ∃ v L, o = .returned v ∧ (PureQ (.ref (f1_0 p0 w_OPEN w_DEBIT w_REFUND w_CHECK_BALANCE w_TERMINATE w_UPDATE)) h0) v U'.heap L ∧ FrameEnd U o U' L ({ frames := 0, cells := 0, slots := 0, locals := 0 } : Room).cells ({ frames := 0, cells := 0, slots := 0, locals := 0 } : Room).slots) := by
  refine MetFree.of_bodySF (plainFor_of_name pn_1) hisR ?_
  intro p e s m args below meth c s₁ Bd hml0 hP hK
  obtain ⟨rfl, hZ, hh⟩ := hP
  have hx := Bd.exec
  have hby := Bd.bytes
  have hlk : meth.locks = false := BodyLoose.notSynchronized Bd
  have hml : c.maxLocals = 1 := hml0
  have hown : s.vm.findClass "com/example/quotarail/quotarail/service/StepIsEventPinLaw" = some m.cls := findClass_of_methodNamed Bd.named
  have hnm := (name_of_methodNamed Bd.named Bd.method).1
  have X0 : Stand p l e ({ frames := 0, cells := 0, slots := 0, locals := 0 } : Room) s m #[(.int p0)] below meth c s₁ ([] : List Loc) 0 0 := Stand.of_body Bd
  have e0 : s₁.heap = h0 := by rw [← hh, Bd.state]; rfl
  show Go p e below s 0 0 (PureQ (.ref (f1_0 p0 w_OPEN w_DEBIT w_REFUND w_CHECK_BALANCE w_TERMINATE w_UPDATE)) h0) s₁ (entryFrame m #[(.int p0)] 1)
  rw [ef_1 m p0]
  refine Go.step (g' := (mkF m 1 #[.val (.int p0)] [(.int p0)])) (fun _ k => XS.iloadN X0.here hx rfl (hb hby d1_0) rfl  k) ?_
  by_cases hc1 : p0 = (0 : Int32)
  · rw [show (f1_0 p0 w_OPEN w_DEBIT w_REFUND w_CHECK_BALANCE w_TERMINATE w_UPDATE) = (f1_4 w_OPEN) from if_pos hc1]
    refine Go.step (g' := (mkF m 4 #[.val (.int p0)] [])) (fun _ k => XS.ifNo X0.here hx rfl (hb hby d1_1) rfl ((if0 _ _).trans (teq hc1).2) k) ?_
    obtain ⟨T1, X1, e1, st1⟩ := getS2 X0 hx hZ hown (host := "") (Or.inl (hw _ (List.mem_of_getElem? (i := 5) rfl))) Via.refl e0 S_OPEN (g := (mkF m 4 #[.val (.int p0)] [])) rfl (hb hby d1_4)
    refine Go.step (g' := (mkF m 7 #[.val (.int p0)] [(.ref w_OPEN)])) st1 ?_
    exact Go.retW X1 hx hlk (t := (.object "com/example/quotarail/quotarail/service/SessionRequest$Step")) Bd.returns rfl (Or.inr (Or.inr (Or.inr (Or.inr ⟨rfl, rfl, rfl⟩)))) (hb hby d1_7) (by decide) (by decide) ⟨rfl, rfl, e1⟩
  · rw [show (f1_0 p0 w_OPEN w_DEBIT w_REFUND w_CHECK_BALANCE w_TERMINATE w_UPDATE) = (f1_8 p0 w_DEBIT w_REFUND w_CHECK_BALANCE w_TERMINATE w_UPDATE) from if_neg hc1]
    refine Go.step (g' := (mkF m 8 #[.val (.int p0)] [])) (fun _ k => XS.ifYes X0.here hx rfl (pc0 := 1) (pc' := 8) rfl (hb hby d1_1) rfl ((if0 _ _).trans (feq hc1).2) (by decide) (by decide) k) ?_
    refine Go.step (g' := (mkF m 9 #[.val (.int p0)] [(.int p0)])) (fun _ k => XS.iloadN X0.here hx rfl (hb hby d1_8) rfl  k) ?_
    refine Go.step (g' := (mkF m 10 #[.val (.int p0)] [(.int (1 : Int32)), (.int p0)])) (fun _ k => XS.iconst X0.here hx rfl (hb hby d1_9) k) ?_
    by_cases hc10 : p0 = (1 : Int32)
    · rw [show (f1_8 p0 w_DEBIT w_REFUND w_CHECK_BALANCE w_TERMINATE w_UPDATE) = (f1_13 w_UPDATE) from if_pos hc10]
      refine Go.step (g' := (mkF m 13 #[.val (.int p0)] [])) (fun _ k => XS.icmpNo X0.here hx rfl (hb hby d1_10) rfl (teq hc10).2 k) ?_
      obtain ⟨T2, X2, e2, st2⟩ := getS2 X0 hx hZ hown (host := "") (Or.inl (hw _ (List.mem_of_getElem? (i := 22) rfl))) Via.refl e0 S_UPDATE (g := (mkF m 13 #[.val (.int p0)] [])) rfl (hb hby d1_13)
      refine Go.step (g' := (mkF m 16 #[.val (.int p0)] [(.ref w_UPDATE)])) st2 ?_
      exact Go.retW X2 hx hlk (t := (.object "com/example/quotarail/quotarail/service/SessionRequest$Step")) Bd.returns rfl (Or.inr (Or.inr (Or.inr (Or.inr ⟨rfl, rfl, rfl⟩)))) (hb hby d1_16) (by decide) (by decide) ⟨rfl, rfl, e2⟩
    · rw [show (f1_8 p0 w_DEBIT w_REFUND w_CHECK_BALANCE w_TERMINATE w_UPDATE) = (f1_17 p0 w_DEBIT w_REFUND w_CHECK_BALANCE w_TERMINATE) from if_neg hc10]
      refine Go.step (g' := (mkF m 17 #[.val (.int p0)] [])) (fun _ k => XS.icmpYes X0.here hx rfl (pc0 := 10) (pc' := 17) rfl (hb hby d1_10) rfl (feq hc10).2 (by decide) (by decide) k) ?_
      refine Go.step (g' := (mkF m 18 #[.val (.int p0)] [(.int p0)])) (fun _ k => XS.iloadN X0.here hx rfl (hb hby d1_17) rfl  k) ?_
      refine Go.step (g' := (mkF m 19 #[.val (.int p0)] [(.int (2 : Int32)), (.int p0)])) (fun _ k => XS.iconst X0.here hx rfl (hb hby d1_18) k) ?_
      by_cases hc19 : p0 = (2 : Int32)
      · rw [show (f1_17 p0 w_DEBIT w_REFUND w_CHECK_BALANCE w_TERMINATE) = (f1_22 w_TERMINATE) from if_pos hc19]
        refine Go.step (g' := (mkF m 22 #[.val (.int p0)] [])) (fun _ k => XS.icmpNo X0.here hx rfl (hb hby d1_19) rfl (teq hc19).2 k) ?_
        obtain ⟨T3, X3, e3, st3⟩ := getS2 X0 hx hZ hown (host := "") (Or.inl (hw _ (List.mem_of_getElem? (i := 20) rfl))) Via.refl e0 S_TERMINATE (g := (mkF m 22 #[.val (.int p0)] [])) rfl (hb hby d1_22)
        refine Go.step (g' := (mkF m 25 #[.val (.int p0)] [(.ref w_TERMINATE)])) st3 ?_
        exact Go.retW X3 hx hlk (t := (.object "com/example/quotarail/quotarail/service/SessionRequest$Step")) Bd.returns rfl (Or.inr (Or.inr (Or.inr (Or.inr ⟨rfl, rfl, rfl⟩)))) (hb hby d1_25) (by decide) (by decide) ⟨rfl, rfl, e3⟩
      · rw [show (f1_17 p0 w_DEBIT w_REFUND w_CHECK_BALANCE w_TERMINATE) = (f1_26 p0 w_DEBIT w_REFUND w_CHECK_BALANCE) from if_neg hc19]
        refine Go.step (g' := (mkF m 26 #[.val (.int p0)] [])) (fun _ k => XS.icmpYes X0.here hx rfl (pc0 := 19) (pc' := 26) rfl (hb hby d1_19) rfl (feq hc19).2 (by decide) (by decide) k) ?_
        refine Go.step (g' := (mkF m 27 #[.val (.int p0)] [(.int p0)])) (fun _ k => XS.iloadN X0.here hx rfl (hb hby d1_26) rfl  k) ?_
        refine Go.step (g' := (mkF m 28 #[.val (.int p0)] [(.int (3 : Int32)), (.int p0)])) (fun _ k => XS.iconst X0.here hx rfl (hb hby d1_27) k) ?_
        by_cases hc28 : p0 = (3 : Int32)
        · rw [show (f1_26 p0 w_DEBIT w_REFUND w_CHECK_BALANCE) = (f1_31 w_DEBIT) from if_pos hc28]
          refine Go.step (g' := (mkF m 31 #[.val (.int p0)] [])) (fun _ k => XS.icmpNo X0.here hx rfl (hb hby d1_28) rfl (teq hc28).2 k) ?_
          obtain ⟨T4, X4, e4, st4⟩ := getS2 X0 hx hZ hown (host := "") (Or.inl (hw _ (List.mem_of_getElem? (i := 19) rfl))) Via.refl e0 S_DEBIT (g := (mkF m 31 #[.val (.int p0)] [])) rfl (hb hby d1_31)
          refine Go.step (g' := (mkF m 34 #[.val (.int p0)] [(.ref w_DEBIT)])) st4 ?_
          exact Go.retW X4 hx hlk (t := (.object "com/example/quotarail/quotarail/service/SessionRequest$Step")) Bd.returns rfl (Or.inr (Or.inr (Or.inr (Or.inr ⟨rfl, rfl, rfl⟩)))) (hb hby d1_34) (by decide) (by decide) ⟨rfl, rfl, e4⟩
        · rw [show (f1_26 p0 w_DEBIT w_REFUND w_CHECK_BALANCE) = (f1_35 p0 w_REFUND w_CHECK_BALANCE) from if_neg hc28]
          refine Go.step (g' := (mkF m 35 #[.val (.int p0)] [])) (fun _ k => XS.icmpYes X0.here hx rfl (pc0 := 28) (pc' := 35) rfl (hb hby d1_28) rfl (feq hc28).2 (by decide) (by decide) k) ?_
          refine Go.step (g' := (mkF m 36 #[.val (.int p0)] [(.int p0)])) (fun _ k => XS.iloadN X0.here hx rfl (hb hby d1_35) rfl  k) ?_
          refine Go.step (g' := (mkF m 37 #[.val (.int p0)] [(.int (4 : Int32)), (.int p0)])) (fun _ k => XS.iconst X0.here hx rfl (hb hby d1_36) k) ?_
          by_cases hc37 : p0 = (4 : Int32)
          · rw [show (f1_35 p0 w_REFUND w_CHECK_BALANCE) = (f1_40 w_REFUND) from if_pos hc37]
            refine Go.step (g' := (mkF m 40 #[.val (.int p0)] [])) (fun _ k => XS.icmpNo X0.here hx rfl (hb hby d1_37) rfl (teq hc37).2 k) ?_
            obtain ⟨T5, X5, e5, st5⟩ := getS2 X0 hx hZ hown (host := "") (Or.inl (hw _ (List.mem_of_getElem? (i := 25) rfl))) Via.refl e0 S_REFUND (g := (mkF m 40 #[.val (.int p0)] [])) rfl (hb hby d1_40)
            refine Go.step (g' := (mkF m 43 #[.val (.int p0)] [(.ref w_REFUND)])) st5 ?_
            exact Go.retW X5 hx hlk (t := (.object "com/example/quotarail/quotarail/service/SessionRequest$Step")) Bd.returns rfl (Or.inr (Or.inr (Or.inr (Or.inr ⟨rfl, rfl, rfl⟩)))) (hb hby d1_43) (by decide) (by decide) ⟨rfl, rfl, e5⟩
          · rw [show (f1_35 p0 w_REFUND w_CHECK_BALANCE) = (f1_44 w_CHECK_BALANCE) from if_neg hc37]
            refine Go.step (g' := (mkF m 44 #[.val (.int p0)] [])) (fun _ k => XS.icmpYes X0.here hx rfl (pc0 := 37) (pc' := 44) rfl (hb hby d1_37) rfl (feq hc37).2 (by decide) (by decide) k) ?_
            obtain ⟨T6, X6, e6, st6⟩ := getS2 X0 hx hZ hown (host := "") (Or.inl (hw _ (List.mem_of_getElem? (i := 24) rfl))) Via.refl e0 S_CHECK_BALANCE (g := (mkF m 44 #[.val (.int p0)] [])) rfl (hb hby d1_44)
            refine Go.step (g' := (mkF m 47 #[.val (.int p0)] [(.ref w_CHECK_BALANCE)])) st6 ?_
            exact Go.retW X6 hx hlk (t := (.object "com/example/quotarail/quotarail/service/SessionRequest$Step")) Bd.returns rfl (Or.inr (Or.inr (Or.inr (Or.inr ⟨rfl, rfl, rfl⟩)))) (hb hby d1_47) (by decide) (by decide) ⟨rfl, rfl, e6⟩
theorem d2_0 : decode prog_50_method_4_code 0 = .ok (.aload_n 0, 1) := by decide +kernel
theorem d2_1 : decode prog_50_method_4_code 1 = .ok (.getstatic 13, 3) := by decide +kernel
theorem d2_4 : decode prog_50_method_4_code 4 = .ok (.if_acmp .eq 17, 3) := by decide +kernel
theorem d2_7 : decode prog_50_method_4_code 7 = .ok (.aload_n 0, 1) := by decide +kernel
theorem d2_8 : decode prog_50_method_4_code 8 = .ok (.getstatic 16, 3) := by decide +kernel
theorem d2_11 : decode prog_50_method_4_code 11 = .ok (.if_acmp .eq 10, 3) := by decide +kernel
theorem d2_14 : decode prog_50_method_4_code 14 = .ok (.aload_n 0, 1) := by decide +kernel
theorem d2_15 : decode prog_50_method_4_code 15 = .ok (.getstatic 19, 3) := by decide +kernel
theorem d2_18 : decode prog_50_method_4_code 18 = .ok (.if_acmp .ne 7, 3) := by decide +kernel
theorem d2_21 : decode prog_50_method_4_code 21 = .ok (.iconst 1, 1) := by decide +kernel
theorem d2_22 : decode prog_50_method_4_code 22 = .ok (.goto 4, 3) := by decide +kernel
theorem d2_25 : decode prog_50_method_4_code 25 = .ok (.iconst 0, 1) := by decide +kernel
theorem d2_26 : decode prog_50_method_4_code 26 = .ok (.ireturn, 1) := by decide +kernel
theorem pn_2 : plainName "com/example/quotarail/quotarail/service/SessionRequest$Step" = true := by first | (simp [plainName, overriddenIn]; done) | decide +kernel
theorem ef_2 (m : MethodId) (o0 : Addr) : entryFrame m #[(.ref o0)] 1 = mkF m 0 #[.val (.ref o0)] [] := by first | (simp [entryFrame, mkF, argsToLocals, Value.category]; done) | rfl
def f2_26 (v26_s0 : Int32) : Int32 := (nar .boolean v26_s0)
def f2_21 : Int32 := (f2_26 (1 : Int32))
def f2_25 : Int32 := (f2_26 (0 : Int32))
def f2_14 (o0 : Addr) (w_CHECK_BALANCE : Addr) : Int32 := if o0 = w_CHECK_BALANCE then f2_21 else f2_25
def f2_7 (o0 : Addr) (w_REFUND : Addr) (w_CHECK_BALANCE : Addr) : Int32 := if o0 = w_REFUND then f2_21 else (f2_14 o0 w_CHECK_BALANCE)
def f2_0 (o0 : Addr) (w_DEBIT : Addr) (w_REFUND : Addr) (w_CHECK_BALANCE : Addr) : Int32 := if o0 = w_DEBIT then f2_21 else (f2_7 o0 w_REFUND w_CHECK_BALANCE)
set_option maxRecDepth 65536 in
set_option maxHeartbeats 40000000 in
theorem rm2 (l : Launch) (Z : State) (a0 : Array Value) (hw : ∀ d ∈ tables_1, d.before a0 Z = true) (ws : List Jvm.Cond) (o0 : Addr) (w_OPEN : Addr) (w_DEBIT : Addr) (w_REFUND : Addr) (w_CHECK_BALANCE : Addr) (w_TERMINATE : Addr) (w_UPDATE : Addr) (h0 : Heap) (S_OPEN : Sta Z h0 "com/example/quotarail/quotarail/service/SessionRequest$Step" "OPEN" "Lcom/example/quotarail/quotarail/service/SessionRequest$Step;" (.ref w_OPEN)) (S_DEBIT : Sta Z h0 "com/example/quotarail/quotarail/service/SessionRequest$Step" "DEBIT" "Lcom/example/quotarail/quotarail/service/SessionRequest$Step;" (.ref w_DEBIT)) (S_REFUND : Sta Z h0 "com/example/quotarail/quotarail/service/SessionRequest$Step" "REFUND" "Lcom/example/quotarail/quotarail/service/SessionRequest$Step;" (.ref w_REFUND)) (S_CHECK_BALANCE : Sta Z h0 "com/example/quotarail/quotarail/service/SessionRequest$Step" "CHECK_BALANCE" "Lcom/example/quotarail/quotarail/service/SessionRequest$Step;" (.ref w_CHECK_BALANCE)) (S_TERMINATE : Sta Z h0 "com/example/quotarail/quotarail/service/SessionRequest$Step" "TERMINATE" "Lcom/example/quotarail/quotarail/service/SessionRequest$Step;" (.ref w_TERMINATE)) (S_UPDATE : Sta Z h0 "com/example/quotarail/quotarail/service/SessionRequest$Step" "UPDATE" "Lcom/example/quotarail/quotarail/service/SessionRequest$Step;" (.ref w_UPDATE)) :
    MetFree l (⟨"com/example/quotarail/quotarail/service/SessionRequest$Step", "isEvent", "()Z"⟩ : MethodName) (head1 (Jvm.Cond.code (⟨"com/example/quotarail/quotarail/service/SessionRequest$Step", "isEvent", "()Z"⟩ : MethodName) prog_50_method_4_code 1 (some .boolean) :: ws) ({ frames := 0, cells := 0, slots := 0, locals := 0 } : Room)) (fun a U => a = #[(.ref o0)] ∧ Z.Warmed39 U.vm ∧ U.heap = h0) (fun _ _ _ _ _ => True) (fun _ U o U' => ∃ v L, o = .returned v ∧ (PureQ (.int (f2_0 o0 w_DEBIT w_REFUND w_CHECK_BALANCE)) h0) v U'.heap L ∧ FrameEnd U o U' L ({ frames := 0, cells := 0, slots := 0, locals := 0 } : Room).cells ({ frames := 0, cells := 0, slots := 0, locals := 0 } : Room).slots) := by
  refine MetFree.of_bodySF (plainFor_of_name pn_2) hisR ?_
  intro p e s m args below meth c s₁ Bd hml0 hP hK
  obtain ⟨rfl, hZ, hh⟩ := hP
  have hx := Bd.exec
  have hby := Bd.bytes
  have hlk : meth.locks = false := BodyLoose.notSynchronized Bd
  have hml : c.maxLocals = 1 := hml0
  have hown : s.vm.findClass "com/example/quotarail/quotarail/service/SessionRequest$Step" = some m.cls := findClass_of_methodNamed Bd.named
  have hnm := (name_of_methodNamed Bd.named Bd.method).1
  have X0 : Stand p l e ({ frames := 0, cells := 0, slots := 0, locals := 0 } : Room) s m #[(.ref o0)] below meth c s₁ ([] : List Loc) 0 0 := Stand.of_body Bd
  have e0 : s₁.heap = h0 := by rw [← hh, Bd.state]; rfl
  show Go p e below s 0 0 (PureQ (.int (f2_0 o0 w_DEBIT w_REFUND w_CHECK_BALANCE)) h0) s₁ (entryFrame m #[(.ref o0)] 1)
  rw [ef_2 m o0]
  refine Go.step (g' := (mkF m 1 #[.val (.ref o0)] [(.ref o0)])) (fun _ k => XS.aloadN X0.here hx rfl (hb hby d2_0) rfl rfl  k) ?_
  obtain ⟨T1, X1, e1, st1⟩ := getS2 X0 hx hZ hown (host := "") (Or.inl (hw _ (List.mem_of_getElem? (i := 13) rfl))) Via.refl e0 S_DEBIT (g := (mkF m 1 #[.val (.ref o0)] [(.ref o0)])) rfl (hb hby d2_1)
  refine Go.step (g' := (mkF m 4 #[.val (.ref o0)] [(.ref w_DEBIT), (.ref o0)])) st1 ?_
  have t26 : ∀ (T_26 : State) (X_26 : Stand p l e ({ frames := 0, cells := 0, slots := 0, locals := 0 } : Room) s m #[(.ref o0)] below meth c T_26 ([] : List Loc) 0 0) (e_26 : T_26.heap = h0) (v26_s0 : Int32), Go p e below s 0 0 (PureQ (.int (f2_26 v26_s0)) h0) T_26 (mkF m 26 #[.val (.ref o0)] [(.int v26_s0)]) := by
    intro T_26 X_26 e_26 v26_s0
    exact Go.retN X_26 hx hlk (t := .boolean) Bd.returns (by simp) (hb hby d2_26) (by decide) (by decide) ⟨rfl, rfl, e_26⟩
  have t21 : ∀ (T_21 : State) (X_21 : Stand p l e ({ frames := 0, cells := 0, slots := 0, locals := 0 } : Room) s m #[(.ref o0)] below meth c T_21 ([] : List Loc) 0 0) (e_21 : T_21.heap = h0), Go p e below s 0 0 (PureQ (.int f2_21) h0) T_21 (mkF m 21 #[.val (.ref o0)] []) := by
    intro T_21 X_21 e_21
    refine Go.step (g' := (mkF m 22 #[.val (.ref o0)] [(.int (1 : Int32))])) (fun _ k => XS.iconst X_21.here hx rfl (hb hby d2_21) k) ?_
    refine Go.step (g' := (mkF m 26 #[.val (.ref o0)] [(.int (1 : Int32))])) (fun _ k => XS.goto X_21.here hx rfl (pc0 := 22) (pc' := 26) rfl (hb hby d2_22) (by decide) (by decide) k) ?_
    rw [show f2_21 = (f2_26 (1 : Int32)) from rfl]
    exact t26 T_21 X_21 e_21 (1 : Int32)
  by_cases hc4 : o0 = w_DEBIT
  · rw [show (f2_0 o0 w_DEBIT w_REFUND w_CHECK_BALANCE) = f2_21 from if_pos hc4]
    refine Go.step (g' := (mkF m 21 #[.val (.ref o0)] [])) (fun _ k => Jvm.RoadKit.acmp (g := (mkF m 4 #[.val (.ref o0)] [(.ref w_DEBIT), (.ref o0)])) X1 hx rfl rfl rfl (pc0 := 4) (pc' := 21) (same := true) rfl (hb hby d2_4) rfl (decide_eq_true (congrArg Value.ref hc4)) (by decide) (by decide) k) ?_
    exact t21 T1 X1 e1
  · rw [show (f2_0 o0 w_DEBIT w_REFUND w_CHECK_BALANCE) = (f2_7 o0 w_REFUND w_CHECK_BALANCE) from if_neg hc4]
    refine Go.step (g' := (mkF m 7 #[.val (.ref o0)] [])) (fun _ k => Jvm.RoadKit.acmp (g := (mkF m 4 #[.val (.ref o0)] [(.ref w_DEBIT), (.ref o0)])) X1 hx rfl rfl rfl (pc0 := 4) (pc' := 7) (same := false) rfl (hb hby d2_4) rfl (decide_eq_false fun q => hc4 (Value.ref.inj q)) (by decide) (by decide) k) ?_
    refine Go.step (g' := (mkF m 8 #[.val (.ref o0)] [(.ref o0)])) (fun _ k => XS.aloadN X1.here hx rfl (hb hby d2_7) rfl rfl  k) ?_
    obtain ⟨T2, X2, e2, st2⟩ := getS2 X1 hx hZ hown (host := "") (Or.inl (hw _ (List.mem_of_getElem? (i := 15) rfl))) Via.refl e1 S_REFUND (g := (mkF m 8 #[.val (.ref o0)] [(.ref o0)])) rfl (hb hby d2_8)
    refine Go.step (g' := (mkF m 11 #[.val (.ref o0)] [(.ref w_REFUND), (.ref o0)])) st2 ?_
    by_cases hc11 : o0 = w_REFUND
    · rw [show (f2_7 o0 w_REFUND w_CHECK_BALANCE) = f2_21 from if_pos hc11]
      refine Go.step (g' := (mkF m 21 #[.val (.ref o0)] [])) (fun _ k => Jvm.RoadKit.acmp (g := (mkF m 11 #[.val (.ref o0)] [(.ref w_REFUND), (.ref o0)])) X2 hx rfl rfl rfl (pc0 := 11) (pc' := 21) (same := true) rfl (hb hby d2_11) rfl (decide_eq_true (congrArg Value.ref hc11)) (by decide) (by decide) k) ?_
      exact t21 T2 X2 e2
    · rw [show (f2_7 o0 w_REFUND w_CHECK_BALANCE) = (f2_14 o0 w_CHECK_BALANCE) from if_neg hc11]
      refine Go.step (g' := (mkF m 14 #[.val (.ref o0)] [])) (fun _ k => Jvm.RoadKit.acmp (g := (mkF m 11 #[.val (.ref o0)] [(.ref w_REFUND), (.ref o0)])) X2 hx rfl rfl rfl (pc0 := 11) (pc' := 14) (same := false) rfl (hb hby d2_11) rfl (decide_eq_false fun q => hc11 (Value.ref.inj q)) (by decide) (by decide) k) ?_
      refine Go.step (g' := (mkF m 15 #[.val (.ref o0)] [(.ref o0)])) (fun _ k => XS.aloadN X2.here hx rfl (hb hby d2_14) rfl rfl  k) ?_
      obtain ⟨T3, X3, e3, st3⟩ := getS2 X2 hx hZ hown (host := "") (Or.inl (hw _ (List.mem_of_getElem? (i := 17) rfl))) Via.refl e2 S_CHECK_BALANCE (g := (mkF m 15 #[.val (.ref o0)] [(.ref o0)])) rfl (hb hby d2_15)
      refine Go.step (g' := (mkF m 18 #[.val (.ref o0)] [(.ref w_CHECK_BALANCE), (.ref o0)])) st3 ?_
      by_cases hc18 : o0 = w_CHECK_BALANCE
      · rw [show (f2_14 o0 w_CHECK_BALANCE) = f2_21 from if_pos hc18]
        refine Go.step (g' := (mkF m 21 #[.val (.ref o0)] [])) (fun _ k => Jvm.RoadKit.acmp (g := (mkF m 18 #[.val (.ref o0)] [(.ref w_CHECK_BALANCE), (.ref o0)])) X3 hx rfl rfl rfl (pc0 := 18) (pc' := 21) (same := true) rfl (hb hby d2_18) rfl (decide_eq_true (congrArg Value.ref hc18)) (by decide) (by decide) k) ?_
        exact t21 T3 X3 e3
      · rw [show (f2_14 o0 w_CHECK_BALANCE) = f2_25 from if_neg hc18]
        refine Go.step (g' := (mkF m 25 #[.val (.ref o0)] [])) (fun _ k => Jvm.RoadKit.acmp (g := (mkF m 18 #[.val (.ref o0)] [(.ref w_CHECK_BALANCE), (.ref o0)])) X3 hx rfl rfl rfl (pc0 := 18) (pc' := 25) (same := false) rfl (hb hby d2_18) rfl (decide_eq_false fun q => hc18 (Value.ref.inj q)) (by decide) (by decide) k) ?_
        refine Go.step (g' := (mkF m 26 #[.val (.ref o0)] [(.int (0 : Int32))])) (fun _ k => XS.iconst X3.here hx rfl (hb hby d2_25) k) ?_
        rw [show f2_25 = (f2_26 (0 : Int32)) from rfl]
        exact t26 T3 X3 e3 (0 : Int32)
theorem own_pick {P : Addr → Prop} (p0 : Int32) (w_OPEN : Addr) (w_DEBIT : Addr) (w_REFUND : Addr) (w_CHECK_BALANCE : Addr) (w_TERMINATE : Addr) (w_UPDATE : Addr) (hOPEN : P w_OPEN) (hDEBIT : P w_DEBIT) (hREFUND : P w_REFUND) (hCHECK_BALANCE : P w_CHECK_BALANCE) (hTERMINATE : P w_TERMINATE) (hUPDATE : P w_UPDATE) : P (f1_0 p0 w_OPEN w_DEBIT w_REFUND w_CHECK_BALANCE w_TERMINATE w_UPDATE) := by
  simp only [f1_44, f1_40, f1_35, f1_31, f1_26, f1_22, f1_17, f1_13, f1_8, f1_4, f1_0]
  (repeat' split) <;> assumption
theorem pn_0 : plainName "com/example/quotarail/quotarail/service/StepIsEventPinLaw" = true := by first | (simp [plainName, overriddenIn]; done) | decide +kernel
theorem ef_0 (m : MethodId) (p0 : Int32) : entryFrame m #[(.int p0)] maxLocals = mkF m 0 #[.val (.int p0), .unset, .unset, .unset, .unset] [] := by first | (simp [entryFrame, mkF, argsToLocals, Value.category, maxLocals]; done) | rfl
def f0_58 (v58_s0 : Int32) : Int32 := (nar .boolean v58_s0)
def f0_57 : Int32 := (f0_58 (0 : Int32))
def f0_53 : Int32 := (f0_58 (1 : Int32))
def f0_42 (p0 : Int32) (w_OPEN : Addr) (w_DEBIT : Addr) (w_REFUND : Addr) (w_CHECK_BALANCE : Addr) (w_TERMINATE : Addr) (w_UPDATE : Addr) (v42_s0 : Int32) : Int32 := if (f2_0 (f1_0 ((p0 &&& (2147483647 : Int32)) % (6 : Int32)) w_OPEN w_DEBIT w_REFUND w_CHECK_BALANCE w_TERMINATE w_UPDATE) w_DEBIT w_REFUND w_CHECK_BALANCE) = v42_s0 then f0_53 else f0_57
def f0_41 (p0 : Int32) (w_OPEN : Addr) (w_DEBIT : Addr) (w_REFUND : Addr) (w_CHECK_BALANCE : Addr) (w_TERMINATE : Addr) (w_UPDATE : Addr) : Int32 := (f0_42 p0 w_OPEN w_DEBIT w_REFUND w_CHECK_BALANCE w_TERMINATE w_UPDATE (0 : Int32))
def f0_37 (p0 : Int32) (w_OPEN : Addr) (w_DEBIT : Addr) (w_REFUND : Addr) (w_CHECK_BALANCE : Addr) (w_TERMINATE : Addr) (w_UPDATE : Addr) : Int32 := (f0_42 p0 w_OPEN w_DEBIT w_REFUND w_CHECK_BALANCE w_TERMINATE w_UPDATE (1 : Int32))
def f0_32 (p0 : Int32) (w_OPEN : Addr) (w_DEBIT : Addr) (w_REFUND : Addr) (w_CHECK_BALANCE : Addr) (w_TERMINATE : Addr) (w_UPDATE : Addr) (v32_s0 : Int32) : Int32 := if v32_s0 = (0 : Int32) then (f0_37 p0 w_OPEN w_DEBIT w_REFUND w_CHECK_BALANCE w_TERMINATE w_UPDATE) else (f0_41 p0 w_OPEN w_DEBIT w_REFUND w_CHECK_BALANCE w_TERMINATE w_UPDATE)
def f0_27 (p0 : Int32) (w_OPEN : Addr) (w_DEBIT : Addr) (w_REFUND : Addr) (w_CHECK_BALANCE : Addr) (w_TERMINATE : Addr) (w_UPDATE : Addr) : Int32 := (f0_32 p0 w_OPEN w_DEBIT w_REFUND w_CHECK_BALANCE w_TERMINATE w_UPDATE (1 : Int32))
def f0_31 (p0 : Int32) (w_OPEN : Addr) (w_DEBIT : Addr) (w_REFUND : Addr) (w_CHECK_BALANCE : Addr) (w_TERMINATE : Addr) (w_UPDATE : Addr) : Int32 := (f0_32 p0 w_OPEN w_DEBIT w_REFUND w_CHECK_BALANCE w_TERMINATE w_UPDATE (0 : Int32))
def f0_22 (p0 : Int32) (w_OPEN : Addr) (w_DEBIT : Addr) (w_REFUND : Addr) (w_CHECK_BALANCE : Addr) (w_TERMINATE : Addr) (w_UPDATE : Addr) : Int32 := if ((p0 &&& (2147483647 : Int32)) % (6 : Int32)) = (2 : Int32) then (f0_27 p0 w_OPEN w_DEBIT w_REFUND w_CHECK_BALANCE w_TERMINATE w_UPDATE) else (f0_31 p0 w_OPEN w_DEBIT w_REFUND w_CHECK_BALANCE w_TERMINATE w_UPDATE)
def f0_17 (p0 : Int32) (w_OPEN : Addr) (w_DEBIT : Addr) (w_REFUND : Addr) (w_CHECK_BALANCE : Addr) (w_TERMINATE : Addr) (w_UPDATE : Addr) : Int32 := if ((p0 &&& (2147483647 : Int32)) % (6 : Int32)) = (1 : Int32) then (f0_27 p0 w_OPEN w_DEBIT w_REFUND w_CHECK_BALANCE w_TERMINATE w_UPDATE) else (f0_22 p0 w_OPEN w_DEBIT w_REFUND w_CHECK_BALANCE w_TERMINATE w_UPDATE)
def f0_0 (p0 : Int32) (w_OPEN : Addr) (w_DEBIT : Addr) (w_REFUND : Addr) (w_CHECK_BALANCE : Addr) (w_TERMINATE : Addr) (w_UPDATE : Addr) : Int32 := if ((p0 &&& (2147483647 : Int32)) % (6 : Int32)) = (0 : Int32) then (f0_27 p0 w_OPEN w_DEBIT w_REFUND w_CHECK_BALANCE w_TERMINATE w_UPDATE) else (f0_17 p0 w_OPEN w_DEBIT w_REFUND w_CHECK_BALANCE w_TERMINATE w_UPDATE)
set_option maxRecDepth 65536 in
set_option maxHeartbeats 40000000 in
theorem rm0 (l : Launch) (Z : State) (a0 : Array Value) (hw : ∀ d ∈ tables_1, d.before a0 Z = true) (ws : List Jvm.Cond) (p0 : Int32) (w_OPEN : Addr) (w_DEBIT : Addr) (w_REFUND : Addr) (w_CHECK_BALANCE : Addr) (w_TERMINATE : Addr) (w_UPDATE : Addr) (h0 : Heap) (S_OPEN : Sta Z h0 "com/example/quotarail/quotarail/service/SessionRequest$Step" "OPEN" "Lcom/example/quotarail/quotarail/service/SessionRequest$Step;" (.ref w_OPEN)) (S_DEBIT : Sta Z h0 "com/example/quotarail/quotarail/service/SessionRequest$Step" "DEBIT" "Lcom/example/quotarail/quotarail/service/SessionRequest$Step;" (.ref w_DEBIT)) (S_REFUND : Sta Z h0 "com/example/quotarail/quotarail/service/SessionRequest$Step" "REFUND" "Lcom/example/quotarail/quotarail/service/SessionRequest$Step;" (.ref w_REFUND)) (S_CHECK_BALANCE : Sta Z h0 "com/example/quotarail/quotarail/service/SessionRequest$Step" "CHECK_BALANCE" "Lcom/example/quotarail/quotarail/service/SessionRequest$Step;" (.ref w_CHECK_BALANCE)) (S_TERMINATE : Sta Z h0 "com/example/quotarail/quotarail/service/SessionRequest$Step" "TERMINATE" "Lcom/example/quotarail/quotarail/service/SessionRequest$Step;" (.ref w_TERMINATE)) (S_UPDATE : Sta Z h0 "com/example/quotarail/quotarail/service/SessionRequest$Step" "UPDATE" "Lcom/example/quotarail/quotarail/service/SessionRequest$Step;" (.ref w_UPDATE)) (E_OPEN : Exa Z h0 w_OPEN "com/example/quotarail/quotarail/service/SessionRequest$Step") (E_DEBIT : Exa Z h0 w_DEBIT "com/example/quotarail/quotarail/service/SessionRequest$Step") (E_REFUND : Exa Z h0 w_REFUND "com/example/quotarail/quotarail/service/SessionRequest$Step") (E_CHECK_BALANCE : Exa Z h0 w_CHECK_BALANCE "com/example/quotarail/quotarail/service/SessionRequest$Step") (E_TERMINATE : Exa Z h0 w_TERMINATE "com/example/quotarail/quotarail/service/SessionRequest$Step") (E_UPDATE : Exa Z h0 w_UPDATE "com/example/quotarail/quotarail/service/SessionRequest$Step") :
    MetFree l x (head1 (Jvm.Cond.code x code maxLocals ret :: ws) room_1) (fun a U => a = #[(.int p0)] ∧ Z.Warmed39 U.vm ∧ U.heap = h0) (fun _ _ _ _ _ => True) (fun _ U o U' => ∃ v L, o = .returned v ∧ (PureQ (.int (f0_0 p0 w_OPEN w_DEBIT w_REFUND w_CHECK_BALANCE w_TERMINATE w_UPDATE)) h0) v U'.heap L ∧ FrameEnd U o U' L room_1.cells room_1.slots) := by
  refine MetFree.of_bodySF (plainFor_of_name pn_0) hisR ?_
  intro p e s m args below meth c s₁ Bd hml0 hP hK
  obtain ⟨rfl, hZ, hh⟩ := hP
  have hx := Bd.exec
  have hby := Bd.bytes
  have hlk : meth.locks = false := BodyLoose.notSynchronized Bd
  have hml : c.maxLocals = 5 := hml0
  have hown : s.vm.findClass "com/example/quotarail/quotarail/service/StepIsEventPinLaw" = some m.cls := findClass_of_methodNamed Bd.named
  have hnm := (name_of_methodNamed Bd.named Bd.method).1
  have X0 : Stand p l e room_1 s m #[(.int p0)] below meth c s₁ ([] : List Loc) 0 0 := Stand.of_body Bd
  have e0 : s₁.heap = h0 := by rw [← hh, Bd.state]; rfl
  show Go p e below s room_1.cells room_1.slots (PureQ (.int (f0_0 p0 w_OPEN w_DEBIT w_REFUND w_CHECK_BALANCE w_TERMINATE w_UPDATE)) h0) s₁ (entryFrame m #[(.int p0)] maxLocals)
  rw [ef_0 m p0]
  refine Go.step (g' := (mkF m 1 #[.val (.int p0), .unset, .unset, .unset, .unset] [(.int p0)])) (fun _ k => XS.iloadN X0.here hx rfl (hb hby at_0) rfl  k) ?_
  refine Go.step (g' := (mkF m 3 #[.val (.int p0), .unset, .unset, .unset, .unset] [(.int (2147483647 : Int32)), (.int p0)])) (fun _ k => X0.ldcI hx hown (mvT hZ (hw _ (List.mem_of_getElem? (i := 0) rfl))) rfl (hb hby at_1) k) ?_
  refine Go.step (g' := (mkF m 4 #[.val (.int p0), .unset, .unset, .unset, .unset] [(.int (p0 &&& (2147483647 : Int32)))])) (fun _ k => XS.iand X0.here hx rfl (hb hby at_3) rfl k) ?_
  refine Go.step (g' := (mkF m 6 #[.val (.int p0), .unset, .unset, .unset, .unset] [(.int (6 : Int32)), (.int (p0 &&& (2147483647 : Int32)))])) (fun _ k => XS.bipush X0.here hx rfl (hb hby at_4) k) ?_
  refine Go.step (g' := (mkF m 7 #[.val (.int p0), .unset, .unset, .unset, .unset] [(.int ((p0 &&& (2147483647 : Int32)) % (6 : Int32)))])) (fun _ k => Jvm.RoadKit.iremM X0 hx rfl (hb hby at_6) rfl (by decide) k) ?_
  refine Go.step (g' := (mkF m 8 #[.val (.int p0), .val (.int ((p0 &&& (2147483647 : Int32)) % (6 : Int32))), .unset, .unset, .unset] [])) (fun _ k => XS.istoreN X0.here hx rfl (hb hby at_7) rfl (l' := #[.val (.int p0), .val (.int ((p0 &&& (2147483647 : Int32)) % (6 : Int32))), .unset, .unset, .unset]) rfl k) ?_
  refine Go.step (g' := (mkF m 9 #[.val (.int p0), .val (.int ((p0 &&& (2147483647 : Int32)) % (6 : Int32))), .unset, .unset, .unset] [(.int ((p0 &&& (2147483647 : Int32)) % (6 : Int32)))])) (fun _ k => XS.iloadN X0.here hx rfl (hb hby at_8) rfl  k) ?_
  obtain ⟨_, _, ⟨T1, L1, k1, n1⟩, -, X1, ⟨Lc1, hQ1, l1, y1, z1⟩, st1⟩ := Jvm.LawKit.callS X0 hx (y := (⟨"com/example/quotarail/quotarail/service/StepIsEventPinLaw", "pick", "(I)Lcom/example/quotarail/quotarail/service/SessionRequest$Step;"⟩ : MethodName)) hown (mvT hZ (hw _ (List.mem_of_getElem? (i := 1) rfl))) (mvT hZ (hw _ (List.mem_of_getElem? (i := 2) rfl))) (mvT hZ (hw _ (List.mem_of_getElem? (i := 3) rfl))) (mvT hZ (hw _ (List.mem_of_getElem? (i := 4) rfl))) (by decide) (backOf (W := 0) (rm1 l Z a0 hw [] ((p0 &&& (2147483647 : Int32)) % (6 : Int32)) w_OPEN w_DEBIT w_REFUND w_CHECK_BALANCE w_TERMINATE w_UPDATE h0 S_OPEN S_DEBIT S_REFUND S_CHECK_BALANCE S_TERMINATE S_UPDATE) hZ (hw _ (List.mem_of_getElem? (i := 4) rfl)) (hw _ (List.mem_of_getElem? (i := 3) rfl)) (by decide) (by decide)) (g := (mkF m 9 #[.val (.int p0), .val (.int ((p0 &&& (2147483647 : Int32)) % (6 : Int32))), .unset, .unset, .unset] [(.int ((p0 &&& (2147483647 : Int32)) % (6 : Int32)))])) rfl (by rw [hml]; rfl) (argsL := [(.int ((p0 &&& (2147483647 : Int32)) % (6 : Int32)))]) (rest := []) (lenOf pd_0 rfl) rfl (by show 2 * 0 + _ ≤ _; exact Nat.le_of_eq rfl) (hb hby at_9) (fun _ _ => ⟨rfl, e0, (by decide : 0 + 0 ≤ _), (by decide : 0 + 0 ≤ _)⟩)
  dsimp only [Pt.U, Pt.locs, Pt.cells, Pt.slots] at X1 l1 y1 z1 st1 hQ1
  subst l1 y1 z1
  obtain ⟨rfl, rfl, e1⟩ := hQ1
  try rw [List.append_nil] at X1
  have Epick : Exa Z h0 (f1_0 ((p0 &&& (2147483647 : Int32)) % (6 : Int32)) w_OPEN w_DEBIT w_REFUND w_CHECK_BALANCE w_TERMINATE w_UPDATE) "com/example/quotarail/quotarail/service/SessionRequest$Step" := own_pick (P := fun a => Exa Z h0 a "com/example/quotarail/quotarail/service/SessionRequest$Step") ((p0 &&& (2147483647 : Int32)) % (6 : Int32)) w_OPEN w_DEBIT w_REFUND w_CHECK_BALANCE w_TERMINATE w_UPDATE E_OPEN E_DEBIT E_REFUND E_CHECK_BALANCE E_TERMINATE E_UPDATE
  refine Go.step (g' := (mkF m 12 #[.val (.int p0), .val (.int ((p0 &&& (2147483647 : Int32)) % (6 : Int32))), .unset, .unset, .unset] [(.ref (f1_0 ((p0 &&& (2147483647 : Int32)) % (6 : Int32)) w_OPEN w_DEBIT w_REFUND w_CHECK_BALANCE w_TERMINATE w_UPDATE))])) st1 ?_
  refine Go.step (g' := (mkF m 13 #[.val (.int p0), .val (.int ((p0 &&& (2147483647 : Int32)) % (6 : Int32))), .val (.ref (f1_0 ((p0 &&& (2147483647 : Int32)) % (6 : Int32)) w_OPEN w_DEBIT w_REFUND w_CHECK_BALANCE w_TERMINATE w_UPDATE)), .unset, .unset] [])) (fun _ k => XS.astoreN X1.here hx rfl (hb hby at_12) rfl rfl (l' := #[.val (.int p0), .val (.int ((p0 &&& (2147483647 : Int32)) % (6 : Int32))), .val (.ref (f1_0 ((p0 &&& (2147483647 : Int32)) % (6 : Int32)) w_OPEN w_DEBIT w_REFUND w_CHECK_BALANCE w_TERMINATE w_UPDATE)), .unset, .unset]) rfl k) ?_
  refine Go.step (g' := (mkF m 14 #[.val (.int p0), .val (.int ((p0 &&& (2147483647 : Int32)) % (6 : Int32))), .val (.ref (f1_0 ((p0 &&& (2147483647 : Int32)) % (6 : Int32)) w_OPEN w_DEBIT w_REFUND w_CHECK_BALANCE w_TERMINATE w_UPDATE)), .unset, .unset] [(.int ((p0 &&& (2147483647 : Int32)) % (6 : Int32)))])) (fun _ k => XS.iloadN X1.here hx rfl (hb hby at_13) rfl  k) ?_
  have t32 : ∀ (v32_s0 : Int32), Go p e below s room_1.cells room_1.slots (PureQ (.int (f0_32 p0 w_OPEN w_DEBIT w_REFUND w_CHECK_BALANCE w_TERMINATE w_UPDATE v32_s0)) h0) T1 (mkF m 32 #[.val (.int p0), .val (.int ((p0 &&& (2147483647 : Int32)) % (6 : Int32))), .val (.ref (f1_0 ((p0 &&& (2147483647 : Int32)) % (6 : Int32)) w_OPEN w_DEBIT w_REFUND w_CHECK_BALANCE w_TERMINATE w_UPDATE)), .unset, .unset] [(.int v32_s0)]) := by
    intro v32_s0
    refine Go.step (g' := (mkF m 33 #[.val (.int p0), .val (.int ((p0 &&& (2147483647 : Int32)) % (6 : Int32))), .val (.ref (f1_0 ((p0 &&& (2147483647 : Int32)) % (6 : Int32)) w_OPEN w_DEBIT w_REFUND w_CHECK_BALANCE w_TERMINATE w_UPDATE)), .val (.int v32_s0), .unset] [])) (fun _ k => XS.istoreN X1.here hx rfl (hb hby at_32) rfl (l' := #[.val (.int p0), .val (.int ((p0 &&& (2147483647 : Int32)) % (6 : Int32))), .val (.ref (f1_0 ((p0 &&& (2147483647 : Int32)) % (6 : Int32)) w_OPEN w_DEBIT w_REFUND w_CHECK_BALANCE w_TERMINATE w_UPDATE)), .val (.int v32_s0), .unset]) rfl k) ?_
    refine Go.step (g' := (mkF m 34 #[.val (.int p0), .val (.int ((p0 &&& (2147483647 : Int32)) % (6 : Int32))), .val (.ref (f1_0 ((p0 &&& (2147483647 : Int32)) % (6 : Int32)) w_OPEN w_DEBIT w_REFUND w_CHECK_BALANCE w_TERMINATE w_UPDATE)), .val (.int v32_s0), .unset] [(.int v32_s0)])) (fun _ k => XS.iloadN X1.here hx rfl (hb hby at_33) rfl  k) ?_
    have t42 : ∀ (v42_s0 : Int32), Go p e below s room_1.cells room_1.slots (PureQ (.int (f0_42 p0 w_OPEN w_DEBIT w_REFUND w_CHECK_BALANCE w_TERMINATE w_UPDATE v42_s0)) h0) T1 (mkF m 42 #[.val (.int p0), .val (.int ((p0 &&& (2147483647 : Int32)) % (6 : Int32))), .val (.ref (f1_0 ((p0 &&& (2147483647 : Int32)) % (6 : Int32)) w_OPEN w_DEBIT w_REFUND w_CHECK_BALANCE w_TERMINATE w_UPDATE)), .val (.int v32_s0), .unset] [(.int v42_s0)]) := by
      intro v42_s0
      refine Go.step (g' := (mkF m 44 #[.val (.int p0), .val (.int ((p0 &&& (2147483647 : Int32)) % (6 : Int32))), .val (.ref (f1_0 ((p0 &&& (2147483647 : Int32)) % (6 : Int32)) w_OPEN w_DEBIT w_REFUND w_CHECK_BALANCE w_TERMINATE w_UPDATE)), .val (.int v32_s0), .val (.int v42_s0)] [])) (fun _ k => XS.istore X1.here hx rfl (hb hby at_42) rfl (l' := #[.val (.int p0), .val (.int ((p0 &&& (2147483647 : Int32)) % (6 : Int32))), .val (.ref (f1_0 ((p0 &&& (2147483647 : Int32)) % (6 : Int32)) w_OPEN w_DEBIT w_REFUND w_CHECK_BALANCE w_TERMINATE w_UPDATE)), .val (.int v32_s0), .val (.int v42_s0)]) rfl k) ?_
      refine Go.step (g' := (mkF m 45 #[.val (.int p0), .val (.int ((p0 &&& (2147483647 : Int32)) % (6 : Int32))), .val (.ref (f1_0 ((p0 &&& (2147483647 : Int32)) % (6 : Int32)) w_OPEN w_DEBIT w_REFUND w_CHECK_BALANCE w_TERMINATE w_UPDATE)), .val (.int v32_s0), .val (.int v42_s0)] [(.ref (f1_0 ((p0 &&& (2147483647 : Int32)) % (6 : Int32)) w_OPEN w_DEBIT w_REFUND w_CHECK_BALANCE w_TERMINATE w_UPDATE))])) (fun _ k => XS.aloadN X1.here hx rfl (hb hby at_44) rfl rfl  k) ?_
      obtain ⟨cq2, kq2, q2a, q2b, q2c⟩ := isOf hZ e1 Epick
      obtain ⟨_, _, ⟨T2, L2, k2, n2⟩, -, X2, ⟨Lc2, hQ2, l2, y2, z2⟩, st2⟩ := X1.virtualBack hx (y := (⟨"com/example/quotarail/quotarail/service/SessionRequest$Step", "isEvent", "()Z"⟩ : MethodName)) (z := (⟨"com/example/quotarail/quotarail/service/SessionRequest$Step", "isEvent", "()Z"⟩ : MethodName)) hown (mvT hZ (hw _ (List.mem_of_getElem? (i := 8) rfl))) (mvT hZ (hw _ (List.mem_of_getElem? (i := 9) rfl))) (notFace_of_selects (args := #[]) (mvT hZ (hw _ (List.mem_of_getElem? (i := 11) rfl)))) (mvT hZ (hw _ (List.mem_of_getElem? (i := 11) rfl))) (mvT hZ (hw _ (List.mem_of_getElem? (i := 10) rfl))) (by decide) (backOf (W := 0) (rm2 l Z a0 hw [] (f1_0 ((p0 &&& (2147483647 : Int32)) % (6 : Int32)) w_OPEN w_DEBIT w_REFUND w_CHECK_BALANCE w_TERMINATE w_UPDATE) w_OPEN w_DEBIT w_REFUND w_CHECK_BALANCE w_TERMINATE w_UPDATE h0 S_OPEN S_DEBIT S_REFUND S_CHECK_BALANCE S_TERMINATE S_UPDATE) hZ (hw _ (List.mem_of_getElem? (i := 12) rfl)) (hw _ (List.mem_of_getElem? (i := 6) rfl)) (by decide) (by decide)) q2a q2c (g := (mkF m 45 #[.val (.int p0), .val (.int ((p0 &&& (2147483647 : Int32)) % (6 : Int32))), .val (.ref (f1_0 ((p0 &&& (2147483647 : Int32)) % (6 : Int32)) w_OPEN w_DEBIT w_REFUND w_CHECK_BALANCE w_TERMINATE w_UPDATE)), .val (.int v32_s0), .val (.int v42_s0)] [(.ref (f1_0 ((p0 &&& (2147483647 : Int32)) % (6 : Int32)) w_OPEN w_DEBIT w_REFUND w_CHECK_BALANCE w_TERMINATE w_UPDATE))])) rfl (by rw [hml]; rfl) (Steps.refl _) (argsL := []) (rest := []) (lenOf pd_1 rfl) rfl (by show 2 * 0 + _ ≤ _; exact Nat.le_of_eq rfl) (hb hby at_45) (fun _ _ => ⟨rfl, e1, (by decide : 0 + 0 ≤ _), (by decide : 0 + 0 ≤ _)⟩)
      dsimp only [Pt.U, Pt.locs, Pt.cells, Pt.slots] at X2 l2 y2 z2 st2 hQ2
      subst l2 y2 z2
      obtain ⟨rfl, rfl, e2⟩ := hQ2
      try rw [List.append_nil] at X2
      refine Go.step (g' := (mkF m 48 #[.val (.int p0), .val (.int ((p0 &&& (2147483647 : Int32)) % (6 : Int32))), .val (.ref (f1_0 ((p0 &&& (2147483647 : Int32)) % (6 : Int32)) w_OPEN w_DEBIT w_REFUND w_CHECK_BALANCE w_TERMINATE w_UPDATE)), .val (.int v32_s0), .val (.int v42_s0)] [(.int (f2_0 (f1_0 ((p0 &&& (2147483647 : Int32)) % (6 : Int32)) w_OPEN w_DEBIT w_REFUND w_CHECK_BALANCE w_TERMINATE w_UPDATE) w_DEBIT w_REFUND w_CHECK_BALANCE))])) (fun _ k => st2.trans k) ?_
      refine Go.step (g' := (mkF m 50 #[.val (.int p0), .val (.int ((p0 &&& (2147483647 : Int32)) % (6 : Int32))), .val (.ref (f1_0 ((p0 &&& (2147483647 : Int32)) % (6 : Int32)) w_OPEN w_DEBIT w_REFUND w_CHECK_BALANCE w_TERMINATE w_UPDATE)), .val (.int v32_s0), .val (.int v42_s0)] [(.int v42_s0), (.int (f2_0 (f1_0 ((p0 &&& (2147483647 : Int32)) % (6 : Int32)) w_OPEN w_DEBIT w_REFUND w_CHECK_BALANCE w_TERMINATE w_UPDATE) w_DEBIT w_REFUND w_CHECK_BALANCE))])) (fun _ k => XS.iload X2.here hx rfl (hb hby at_48) rfl  k) ?_
      have t58 : ∀ (v58_s0 : Int32), Go p e below s room_1.cells room_1.slots (PureQ (.int (f0_58 v58_s0)) h0) T2 (mkF m 58 #[.val (.int p0), .val (.int ((p0 &&& (2147483647 : Int32)) % (6 : Int32))), .val (.ref (f1_0 ((p0 &&& (2147483647 : Int32)) % (6 : Int32)) w_OPEN w_DEBIT w_REFUND w_CHECK_BALANCE w_TERMINATE w_UPDATE)), .val (.int v32_s0), .val (.int v42_s0)] [(.int v58_s0)]) := by
        intro v58_s0
        exact Go.retN X2 hx hlk (t := .boolean) Bd.returns (by simp) (hb hby at_58) (by decide) (by decide) ⟨rfl, rfl, e2⟩
      by_cases hc50 : (f2_0 (f1_0 ((p0 &&& (2147483647 : Int32)) % (6 : Int32)) w_OPEN w_DEBIT w_REFUND w_CHECK_BALANCE w_TERMINATE w_UPDATE) w_DEBIT w_REFUND w_CHECK_BALANCE) = v42_s0
      · rw [show (f0_42 p0 w_OPEN w_DEBIT w_REFUND w_CHECK_BALANCE w_TERMINATE w_UPDATE v42_s0) = f0_53 from if_pos hc50]
        refine Go.step (g' := (mkF m 53 #[.val (.int p0), .val (.int ((p0 &&& (2147483647 : Int32)) % (6 : Int32))), .val (.ref (f1_0 ((p0 &&& (2147483647 : Int32)) % (6 : Int32)) w_OPEN w_DEBIT w_REFUND w_CHECK_BALANCE w_TERMINATE w_UPDATE)), .val (.int v32_s0), .val (.int v42_s0)] [])) (fun _ k => XS.icmpNo X2.here hx rfl (hb hby at_50) rfl (teq hc50).2 k) ?_
        refine Go.step (g' := (mkF m 54 #[.val (.int p0), .val (.int ((p0 &&& (2147483647 : Int32)) % (6 : Int32))), .val (.ref (f1_0 ((p0 &&& (2147483647 : Int32)) % (6 : Int32)) w_OPEN w_DEBIT w_REFUND w_CHECK_BALANCE w_TERMINATE w_UPDATE)), .val (.int v32_s0), .val (.int v42_s0)] [(.int (1 : Int32))])) (fun _ k => XS.iconst X2.here hx rfl (hb hby at_53) k) ?_
        refine Go.step (g' := (mkF m 58 #[.val (.int p0), .val (.int ((p0 &&& (2147483647 : Int32)) % (6 : Int32))), .val (.ref (f1_0 ((p0 &&& (2147483647 : Int32)) % (6 : Int32)) w_OPEN w_DEBIT w_REFUND w_CHECK_BALANCE w_TERMINATE w_UPDATE)), .val (.int v32_s0), .val (.int v42_s0)] [(.int (1 : Int32))])) (fun _ k => XS.goto X2.here hx rfl (pc0 := 54) (pc' := 58) rfl (hb hby at_54) (by decide) (by decide) k) ?_
        rw [show f0_53 = (f0_58 (1 : Int32)) from rfl]
        exact t58 (1 : Int32)
      · rw [show (f0_42 p0 w_OPEN w_DEBIT w_REFUND w_CHECK_BALANCE w_TERMINATE w_UPDATE v42_s0) = f0_57 from if_neg hc50]
        refine Go.step (g' := (mkF m 57 #[.val (.int p0), .val (.int ((p0 &&& (2147483647 : Int32)) % (6 : Int32))), .val (.ref (f1_0 ((p0 &&& (2147483647 : Int32)) % (6 : Int32)) w_OPEN w_DEBIT w_REFUND w_CHECK_BALANCE w_TERMINATE w_UPDATE)), .val (.int v32_s0), .val (.int v42_s0)] [])) (fun _ k => XS.icmpYes X2.here hx rfl (pc0 := 50) (pc' := 57) rfl (hb hby at_50) rfl (feq hc50).2 (by decide) (by decide) k) ?_
        refine Go.step (g' := (mkF m 58 #[.val (.int p0), .val (.int ((p0 &&& (2147483647 : Int32)) % (6 : Int32))), .val (.ref (f1_0 ((p0 &&& (2147483647 : Int32)) % (6 : Int32)) w_OPEN w_DEBIT w_REFUND w_CHECK_BALANCE w_TERMINATE w_UPDATE)), .val (.int v32_s0), .val (.int v42_s0)] [(.int (0 : Int32))])) (fun _ k => XS.iconst X2.here hx rfl (hb hby at_57) k) ?_
        rw [show f0_57 = (f0_58 (0 : Int32)) from rfl]
        exact t58 (0 : Int32)
    by_cases hc34 : v32_s0 = (0 : Int32)
    · rw [show (f0_32 p0 w_OPEN w_DEBIT w_REFUND w_CHECK_BALANCE w_TERMINATE w_UPDATE v32_s0) = (f0_37 p0 w_OPEN w_DEBIT w_REFUND w_CHECK_BALANCE w_TERMINATE w_UPDATE) from if_pos hc34]
      refine Go.step (g' := (mkF m 37 #[.val (.int p0), .val (.int ((p0 &&& (2147483647 : Int32)) % (6 : Int32))), .val (.ref (f1_0 ((p0 &&& (2147483647 : Int32)) % (6 : Int32)) w_OPEN w_DEBIT w_REFUND w_CHECK_BALANCE w_TERMINATE w_UPDATE)), .val (.int v32_s0), .unset] [])) (fun _ k => XS.ifNo X1.here hx rfl (hb hby at_34) rfl ((if0 _ _).trans (teq hc34).2) k) ?_
      refine Go.step (g' := (mkF m 38 #[.val (.int p0), .val (.int ((p0 &&& (2147483647 : Int32)) % (6 : Int32))), .val (.ref (f1_0 ((p0 &&& (2147483647 : Int32)) % (6 : Int32)) w_OPEN w_DEBIT w_REFUND w_CHECK_BALANCE w_TERMINATE w_UPDATE)), .val (.int v32_s0), .unset] [(.int (1 : Int32))])) (fun _ k => XS.iconst X1.here hx rfl (hb hby at_37) k) ?_
      refine Go.step (g' := (mkF m 42 #[.val (.int p0), .val (.int ((p0 &&& (2147483647 : Int32)) % (6 : Int32))), .val (.ref (f1_0 ((p0 &&& (2147483647 : Int32)) % (6 : Int32)) w_OPEN w_DEBIT w_REFUND w_CHECK_BALANCE w_TERMINATE w_UPDATE)), .val (.int v32_s0), .unset] [(.int (1 : Int32))])) (fun _ k => XS.goto X1.here hx rfl (pc0 := 38) (pc' := 42) rfl (hb hby at_38) (by decide) (by decide) k) ?_
      rw [show (f0_37 p0 w_OPEN w_DEBIT w_REFUND w_CHECK_BALANCE w_TERMINATE w_UPDATE) = (f0_42 p0 w_OPEN w_DEBIT w_REFUND w_CHECK_BALANCE w_TERMINATE w_UPDATE (1 : Int32)) from rfl]
      exact t42 (1 : Int32)
    · rw [show (f0_32 p0 w_OPEN w_DEBIT w_REFUND w_CHECK_BALANCE w_TERMINATE w_UPDATE v32_s0) = (f0_41 p0 w_OPEN w_DEBIT w_REFUND w_CHECK_BALANCE w_TERMINATE w_UPDATE) from if_neg hc34]
      refine Go.step (g' := (mkF m 41 #[.val (.int p0), .val (.int ((p0 &&& (2147483647 : Int32)) % (6 : Int32))), .val (.ref (f1_0 ((p0 &&& (2147483647 : Int32)) % (6 : Int32)) w_OPEN w_DEBIT w_REFUND w_CHECK_BALANCE w_TERMINATE w_UPDATE)), .val (.int v32_s0), .unset] [])) (fun _ k => XS.ifYes X1.here hx rfl (pc0 := 34) (pc' := 41) rfl (hb hby at_34) rfl ((if0 _ _).trans (feq hc34).2) (by decide) (by decide) k) ?_
      refine Go.step (g' := (mkF m 42 #[.val (.int p0), .val (.int ((p0 &&& (2147483647 : Int32)) % (6 : Int32))), .val (.ref (f1_0 ((p0 &&& (2147483647 : Int32)) % (6 : Int32)) w_OPEN w_DEBIT w_REFUND w_CHECK_BALANCE w_TERMINATE w_UPDATE)), .val (.int v32_s0), .unset] [(.int (0 : Int32))])) (fun _ k => XS.iconst X1.here hx rfl (hb hby at_41) k) ?_
      rw [show (f0_41 p0 w_OPEN w_DEBIT w_REFUND w_CHECK_BALANCE w_TERMINATE w_UPDATE) = (f0_42 p0 w_OPEN w_DEBIT w_REFUND w_CHECK_BALANCE w_TERMINATE w_UPDATE (0 : Int32)) from rfl]
      exact t42 (0 : Int32)
  have t27 : Go p e below s room_1.cells room_1.slots (PureQ (.int (f0_27 p0 w_OPEN w_DEBIT w_REFUND w_CHECK_BALANCE w_TERMINATE w_UPDATE)) h0) T1 (mkF m 27 #[.val (.int p0), .val (.int ((p0 &&& (2147483647 : Int32)) % (6 : Int32))), .val (.ref (f1_0 ((p0 &&& (2147483647 : Int32)) % (6 : Int32)) w_OPEN w_DEBIT w_REFUND w_CHECK_BALANCE w_TERMINATE w_UPDATE)), .unset, .unset] []) := by
    refine Go.step (g' := (mkF m 28 #[.val (.int p0), .val (.int ((p0 &&& (2147483647 : Int32)) % (6 : Int32))), .val (.ref (f1_0 ((p0 &&& (2147483647 : Int32)) % (6 : Int32)) w_OPEN w_DEBIT w_REFUND w_CHECK_BALANCE w_TERMINATE w_UPDATE)), .unset, .unset] [(.int (1 : Int32))])) (fun _ k => XS.iconst X1.here hx rfl (hb hby at_27) k) ?_
    refine Go.step (g' := (mkF m 32 #[.val (.int p0), .val (.int ((p0 &&& (2147483647 : Int32)) % (6 : Int32))), .val (.ref (f1_0 ((p0 &&& (2147483647 : Int32)) % (6 : Int32)) w_OPEN w_DEBIT w_REFUND w_CHECK_BALANCE w_TERMINATE w_UPDATE)), .unset, .unset] [(.int (1 : Int32))])) (fun _ k => XS.goto X1.here hx rfl (pc0 := 28) (pc' := 32) rfl (hb hby at_28) (by decide) (by decide) k) ?_
    rw [show (f0_27 p0 w_OPEN w_DEBIT w_REFUND w_CHECK_BALANCE w_TERMINATE w_UPDATE) = (f0_32 p0 w_OPEN w_DEBIT w_REFUND w_CHECK_BALANCE w_TERMINATE w_UPDATE (1 : Int32)) from rfl]
    exact t32 (1 : Int32)
  by_cases hc14 : ((p0 &&& (2147483647 : Int32)) % (6 : Int32)) = (0 : Int32)
  · rw [show (f0_0 p0 w_OPEN w_DEBIT w_REFUND w_CHECK_BALANCE w_TERMINATE w_UPDATE) = (f0_27 p0 w_OPEN w_DEBIT w_REFUND w_CHECK_BALANCE w_TERMINATE w_UPDATE) from if_pos hc14]
    refine Go.step (g' := (mkF m 27 #[.val (.int p0), .val (.int ((p0 &&& (2147483647 : Int32)) % (6 : Int32))), .val (.ref (f1_0 ((p0 &&& (2147483647 : Int32)) % (6 : Int32)) w_OPEN w_DEBIT w_REFUND w_CHECK_BALANCE w_TERMINATE w_UPDATE)), .unset, .unset] [])) (fun _ k => XS.ifYes X1.here hx rfl (pc0 := 14) (pc' := 27) rfl (hb hby at_14) rfl ((if0 _ _).trans (teq hc14).1) (by decide) (by decide) k) ?_
    exact t27 
  · rw [show (f0_0 p0 w_OPEN w_DEBIT w_REFUND w_CHECK_BALANCE w_TERMINATE w_UPDATE) = (f0_17 p0 w_OPEN w_DEBIT w_REFUND w_CHECK_BALANCE w_TERMINATE w_UPDATE) from if_neg hc14]
    refine Go.step (g' := (mkF m 17 #[.val (.int p0), .val (.int ((p0 &&& (2147483647 : Int32)) % (6 : Int32))), .val (.ref (f1_0 ((p0 &&& (2147483647 : Int32)) % (6 : Int32)) w_OPEN w_DEBIT w_REFUND w_CHECK_BALANCE w_TERMINATE w_UPDATE)), .unset, .unset] [])) (fun _ k => XS.ifNo X1.here hx rfl (hb hby at_14) rfl ((if0 _ _).trans (feq hc14).1) k) ?_
    refine Go.step (g' := (mkF m 18 #[.val (.int p0), .val (.int ((p0 &&& (2147483647 : Int32)) % (6 : Int32))), .val (.ref (f1_0 ((p0 &&& (2147483647 : Int32)) % (6 : Int32)) w_OPEN w_DEBIT w_REFUND w_CHECK_BALANCE w_TERMINATE w_UPDATE)), .unset, .unset] [(.int ((p0 &&& (2147483647 : Int32)) % (6 : Int32)))])) (fun _ k => XS.iloadN X1.here hx rfl (hb hby at_17) rfl  k) ?_
    refine Go.step (g' := (mkF m 19 #[.val (.int p0), .val (.int ((p0 &&& (2147483647 : Int32)) % (6 : Int32))), .val (.ref (f1_0 ((p0 &&& (2147483647 : Int32)) % (6 : Int32)) w_OPEN w_DEBIT w_REFUND w_CHECK_BALANCE w_TERMINATE w_UPDATE)), .unset, .unset] [(.int (1 : Int32)), (.int ((p0 &&& (2147483647 : Int32)) % (6 : Int32)))])) (fun _ k => XS.iconst X1.here hx rfl (hb hby at_18) k) ?_
    by_cases hc19 : ((p0 &&& (2147483647 : Int32)) % (6 : Int32)) = (1 : Int32)
    · rw [show (f0_17 p0 w_OPEN w_DEBIT w_REFUND w_CHECK_BALANCE w_TERMINATE w_UPDATE) = (f0_27 p0 w_OPEN w_DEBIT w_REFUND w_CHECK_BALANCE w_TERMINATE w_UPDATE) from if_pos hc19]
      refine Go.step (g' := (mkF m 27 #[.val (.int p0), .val (.int ((p0 &&& (2147483647 : Int32)) % (6 : Int32))), .val (.ref (f1_0 ((p0 &&& (2147483647 : Int32)) % (6 : Int32)) w_OPEN w_DEBIT w_REFUND w_CHECK_BALANCE w_TERMINATE w_UPDATE)), .unset, .unset] [])) (fun _ k => XS.icmpYes X1.here hx rfl (pc0 := 19) (pc' := 27) rfl (hb hby at_19) rfl (teq hc19).1 (by decide) (by decide) k) ?_
      exact t27 
    · rw [show (f0_17 p0 w_OPEN w_DEBIT w_REFUND w_CHECK_BALANCE w_TERMINATE w_UPDATE) = (f0_22 p0 w_OPEN w_DEBIT w_REFUND w_CHECK_BALANCE w_TERMINATE w_UPDATE) from if_neg hc19]
      refine Go.step (g' := (mkF m 22 #[.val (.int p0), .val (.int ((p0 &&& (2147483647 : Int32)) % (6 : Int32))), .val (.ref (f1_0 ((p0 &&& (2147483647 : Int32)) % (6 : Int32)) w_OPEN w_DEBIT w_REFUND w_CHECK_BALANCE w_TERMINATE w_UPDATE)), .unset, .unset] [])) (fun _ k => XS.icmpNo X1.here hx rfl (hb hby at_19) rfl (feq hc19).1 k) ?_
      refine Go.step (g' := (mkF m 23 #[.val (.int p0), .val (.int ((p0 &&& (2147483647 : Int32)) % (6 : Int32))), .val (.ref (f1_0 ((p0 &&& (2147483647 : Int32)) % (6 : Int32)) w_OPEN w_DEBIT w_REFUND w_CHECK_BALANCE w_TERMINATE w_UPDATE)), .unset, .unset] [(.int ((p0 &&& (2147483647 : Int32)) % (6 : Int32)))])) (fun _ k => XS.iloadN X1.here hx rfl (hb hby at_22) rfl  k) ?_
      refine Go.step (g' := (mkF m 24 #[.val (.int p0), .val (.int ((p0 &&& (2147483647 : Int32)) % (6 : Int32))), .val (.ref (f1_0 ((p0 &&& (2147483647 : Int32)) % (6 : Int32)) w_OPEN w_DEBIT w_REFUND w_CHECK_BALANCE w_TERMINATE w_UPDATE)), .unset, .unset] [(.int (2 : Int32)), (.int ((p0 &&& (2147483647 : Int32)) % (6 : Int32)))])) (fun _ k => XS.iconst X1.here hx rfl (hb hby at_23) k) ?_
      by_cases hc24 : ((p0 &&& (2147483647 : Int32)) % (6 : Int32)) = (2 : Int32)
      · rw [show (f0_22 p0 w_OPEN w_DEBIT w_REFUND w_CHECK_BALANCE w_TERMINATE w_UPDATE) = (f0_27 p0 w_OPEN w_DEBIT w_REFUND w_CHECK_BALANCE w_TERMINATE w_UPDATE) from if_pos hc24]
        refine Go.step (g' := (mkF m 27 #[.val (.int p0), .val (.int ((p0 &&& (2147483647 : Int32)) % (6 : Int32))), .val (.ref (f1_0 ((p0 &&& (2147483647 : Int32)) % (6 : Int32)) w_OPEN w_DEBIT w_REFUND w_CHECK_BALANCE w_TERMINATE w_UPDATE)), .unset, .unset] [])) (fun _ k => XS.icmpNo X1.here hx rfl (hb hby at_24) rfl (teq hc24).2 k) ?_
        exact t27 
      · rw [show (f0_22 p0 w_OPEN w_DEBIT w_REFUND w_CHECK_BALANCE w_TERMINATE w_UPDATE) = (f0_31 p0 w_OPEN w_DEBIT w_REFUND w_CHECK_BALANCE w_TERMINATE w_UPDATE) from if_neg hc24]
        refine Go.step (g' := (mkF m 31 #[.val (.int p0), .val (.int ((p0 &&& (2147483647 : Int32)) % (6 : Int32))), .val (.ref (f1_0 ((p0 &&& (2147483647 : Int32)) % (6 : Int32)) w_OPEN w_DEBIT w_REFUND w_CHECK_BALANCE w_TERMINATE w_UPDATE)), .unset, .unset] [])) (fun _ k => XS.icmpYes X1.here hx rfl (pc0 := 24) (pc' := 31) rfl (hb hby at_24) rfl (feq hc24).2 (by decide) (by decide) k) ?_
        refine Go.step (g' := (mkF m 32 #[.val (.int p0), .val (.int ((p0 &&& (2147483647 : Int32)) % (6 : Int32))), .val (.ref (f1_0 ((p0 &&& (2147483647 : Int32)) % (6 : Int32)) w_OPEN w_DEBIT w_REFUND w_CHECK_BALANCE w_TERMINATE w_UPDATE)), .unset, .unset] [(.int (0 : Int32))])) (fun _ k => XS.iconst X1.here hx rfl (hb hby at_31) k) ?_
        rw [show (f0_31 p0 w_OPEN w_DEBIT w_REFUND w_CHECK_BALANCE w_TERMINATE w_UPDATE) = (f0_32 p0 w_OPEN w_DEBIT w_REFUND w_CHECK_BALANCE w_TERMINATE w_UPDATE (0 : Int32)) from rfl]
        exact t32 (0 : Int32)
theorem law_eq (w_OPEN : Addr) (w_DEBIT : Addr) (w_REFUND : Addr) (w_CHECK_BALANCE : Addr) (w_TERMINATE : Addr) (w_UPDATE : Addr) (x : Int32) (n_OPEN_DEBIT : w_OPEN ≠ w_DEBIT) (n_OPEN_REFUND : w_OPEN ≠ w_REFUND) (n_OPEN_CHECK_BALANCE : w_OPEN ≠ w_CHECK_BALANCE) (n_OPEN_TERMINATE : w_OPEN ≠ w_TERMINATE) (n_OPEN_UPDATE : w_OPEN ≠ w_UPDATE) (n_DEBIT_REFUND : w_DEBIT ≠ w_REFUND) (n_DEBIT_CHECK_BALANCE : w_DEBIT ≠ w_CHECK_BALANCE) (n_DEBIT_TERMINATE : w_DEBIT ≠ w_TERMINATE) (n_DEBIT_UPDATE : w_DEBIT ≠ w_UPDATE) (n_REFUND_CHECK_BALANCE : w_REFUND ≠ w_CHECK_BALANCE) (n_REFUND_TERMINATE : w_REFUND ≠ w_TERMINATE) (n_REFUND_UPDATE : w_REFUND ≠ w_UPDATE) (n_CHECK_BALANCE_TERMINATE : w_CHECK_BALANCE ≠ w_TERMINATE) (n_CHECK_BALANCE_UPDATE : w_CHECK_BALANCE ≠ w_UPDATE) (n_TERMINATE_UPDATE : w_TERMINATE ≠ w_UPDATE) : (f0_0 x w_OPEN w_DEBIT w_REFUND w_CHECK_BALANCE w_TERMINATE w_UPDATE) = 1 := by
  have n1 : nar .boolean 1 = 1 := by decide
  have n0 : nar .boolean 0 = 0 := by decide
  have m_DEBIT_OPEN := Ne.symm n_OPEN_DEBIT
  have m_REFUND_OPEN := Ne.symm n_OPEN_REFUND
  have m_CHECK_BALANCE_OPEN := Ne.symm n_OPEN_CHECK_BALANCE
  have m_TERMINATE_OPEN := Ne.symm n_OPEN_TERMINATE
  have m_UPDATE_OPEN := Ne.symm n_OPEN_UPDATE
  have m_REFUND_DEBIT := Ne.symm n_DEBIT_REFUND
  have m_CHECK_BALANCE_DEBIT := Ne.symm n_DEBIT_CHECK_BALANCE
  have m_TERMINATE_DEBIT := Ne.symm n_DEBIT_TERMINATE
  have m_UPDATE_DEBIT := Ne.symm n_DEBIT_UPDATE
  have m_CHECK_BALANCE_REFUND := Ne.symm n_REFUND_CHECK_BALANCE
  have m_TERMINATE_REFUND := Ne.symm n_REFUND_TERMINATE
  have m_UPDATE_REFUND := Ne.symm n_REFUND_UPDATE
  have m_TERMINATE_CHECK_BALANCE := Ne.symm n_CHECK_BALANCE_TERMINATE
  have m_UPDATE_CHECK_BALANCE := Ne.symm n_CHECK_BALANCE_UPDATE
  have m_UPDATE_TERMINATE := Ne.symm n_TERMINATE_UPDATE
  simp only [f1_44, f1_40, f1_35, f1_31, f1_26, f1_22, f1_17, f1_13, f1_8, f1_4, f1_0, f2_26, f2_21, f2_25, f2_14, f2_7, f2_0, f0_58, f0_57, f0_53, f0_42, f0_41, f0_37, f0_32, f0_27, f0_31, f0_22, f0_17, f0_0]
  generalize (x &&& 2147483647) % 6 = k
  by_cases k0 : k = 0
  · simp [k0, n1, n0, n_OPEN_DEBIT, m_DEBIT_OPEN, n_OPEN_REFUND, m_REFUND_OPEN, n_OPEN_CHECK_BALANCE, m_CHECK_BALANCE_OPEN, n_OPEN_TERMINATE, m_TERMINATE_OPEN, n_OPEN_UPDATE, m_UPDATE_OPEN, n_DEBIT_REFUND, m_REFUND_DEBIT, n_DEBIT_CHECK_BALANCE, m_CHECK_BALANCE_DEBIT, n_DEBIT_TERMINATE, m_TERMINATE_DEBIT, n_DEBIT_UPDATE, m_UPDATE_DEBIT, n_REFUND_CHECK_BALANCE, m_CHECK_BALANCE_REFUND, n_REFUND_TERMINATE, m_TERMINATE_REFUND, n_REFUND_UPDATE, m_UPDATE_REFUND, n_CHECK_BALANCE_TERMINATE, m_TERMINATE_CHECK_BALANCE, n_CHECK_BALANCE_UPDATE, m_UPDATE_CHECK_BALANCE, n_TERMINATE_UPDATE, m_UPDATE_TERMINATE]
  by_cases k1 : k = 1
  · simp [k1, n1, n0, n_OPEN_DEBIT, m_DEBIT_OPEN, n_OPEN_REFUND, m_REFUND_OPEN, n_OPEN_CHECK_BALANCE, m_CHECK_BALANCE_OPEN, n_OPEN_TERMINATE, m_TERMINATE_OPEN, n_OPEN_UPDATE, m_UPDATE_OPEN, n_DEBIT_REFUND, m_REFUND_DEBIT, n_DEBIT_CHECK_BALANCE, m_CHECK_BALANCE_DEBIT, n_DEBIT_TERMINATE, m_TERMINATE_DEBIT, n_DEBIT_UPDATE, m_UPDATE_DEBIT, n_REFUND_CHECK_BALANCE, m_CHECK_BALANCE_REFUND, n_REFUND_TERMINATE, m_TERMINATE_REFUND, n_REFUND_UPDATE, m_UPDATE_REFUND, n_CHECK_BALANCE_TERMINATE, m_TERMINATE_CHECK_BALANCE, n_CHECK_BALANCE_UPDATE, m_UPDATE_CHECK_BALANCE, n_TERMINATE_UPDATE, m_UPDATE_TERMINATE]
  by_cases k2 : k = 2
  · simp [k2, n1, n0, n_OPEN_DEBIT, m_DEBIT_OPEN, n_OPEN_REFUND, m_REFUND_OPEN, n_OPEN_CHECK_BALANCE, m_CHECK_BALANCE_OPEN, n_OPEN_TERMINATE, m_TERMINATE_OPEN, n_OPEN_UPDATE, m_UPDATE_OPEN, n_DEBIT_REFUND, m_REFUND_DEBIT, n_DEBIT_CHECK_BALANCE, m_CHECK_BALANCE_DEBIT, n_DEBIT_TERMINATE, m_TERMINATE_DEBIT, n_DEBIT_UPDATE, m_UPDATE_DEBIT, n_REFUND_CHECK_BALANCE, m_CHECK_BALANCE_REFUND, n_REFUND_TERMINATE, m_TERMINATE_REFUND, n_REFUND_UPDATE, m_UPDATE_REFUND, n_CHECK_BALANCE_TERMINATE, m_TERMINATE_CHECK_BALANCE, n_CHECK_BALANCE_UPDATE, m_UPDATE_CHECK_BALANCE, n_TERMINATE_UPDATE, m_UPDATE_TERMINATE]
  by_cases k3 : k = 3
  · simp [k3, n1, n0, n_OPEN_DEBIT, m_DEBIT_OPEN, n_OPEN_REFUND, m_REFUND_OPEN, n_OPEN_CHECK_BALANCE, m_CHECK_BALANCE_OPEN, n_OPEN_TERMINATE, m_TERMINATE_OPEN, n_OPEN_UPDATE, m_UPDATE_OPEN, n_DEBIT_REFUND, m_REFUND_DEBIT, n_DEBIT_CHECK_BALANCE, m_CHECK_BALANCE_DEBIT, n_DEBIT_TERMINATE, m_TERMINATE_DEBIT, n_DEBIT_UPDATE, m_UPDATE_DEBIT, n_REFUND_CHECK_BALANCE, m_CHECK_BALANCE_REFUND, n_REFUND_TERMINATE, m_TERMINATE_REFUND, n_REFUND_UPDATE, m_UPDATE_REFUND, n_CHECK_BALANCE_TERMINATE, m_TERMINATE_CHECK_BALANCE, n_CHECK_BALANCE_UPDATE, m_UPDATE_CHECK_BALANCE, n_TERMINATE_UPDATE, m_UPDATE_TERMINATE]
  by_cases k4 : k = 4
  · simp [k4, n1, n0, n_OPEN_DEBIT, m_DEBIT_OPEN, n_OPEN_REFUND, m_REFUND_OPEN, n_OPEN_CHECK_BALANCE, m_CHECK_BALANCE_OPEN, n_OPEN_TERMINATE, m_TERMINATE_OPEN, n_OPEN_UPDATE, m_UPDATE_OPEN, n_DEBIT_REFUND, m_REFUND_DEBIT, n_DEBIT_CHECK_BALANCE, m_CHECK_BALANCE_DEBIT, n_DEBIT_TERMINATE, m_TERMINATE_DEBIT, n_DEBIT_UPDATE, m_UPDATE_DEBIT, n_REFUND_CHECK_BALANCE, m_CHECK_BALANCE_REFUND, n_REFUND_TERMINATE, m_TERMINATE_REFUND, n_REFUND_UPDATE, m_UPDATE_REFUND, n_CHECK_BALANCE_TERMINATE, m_TERMINATE_CHECK_BALANCE, n_CHECK_BALANCE_UPDATE, m_UPDATE_CHECK_BALANCE, n_TERMINATE_UPDATE, m_UPDATE_TERMINATE]
  simp [k0, k1, k2, k3, k4, n1, n0, n_OPEN_DEBIT, m_DEBIT_OPEN, n_OPEN_REFUND, m_REFUND_OPEN, n_OPEN_CHECK_BALANCE, m_CHECK_BALANCE_OPEN, n_OPEN_TERMINATE, m_TERMINATE_OPEN, n_OPEN_UPDATE, m_UPDATE_OPEN, n_DEBIT_REFUND, m_REFUND_DEBIT, n_DEBIT_CHECK_BALANCE, m_CHECK_BALANCE_DEBIT, n_DEBIT_TERMINATE, m_TERMINATE_DEBIT, n_DEBIT_UPDATE, m_UPDATE_DEBIT, n_REFUND_CHECK_BALANCE, m_CHECK_BALANCE_REFUND, n_REFUND_TERMINATE, m_TERMINATE_REFUND, n_REFUND_UPDATE, m_UPDATE_REFUND, n_CHECK_BALANCE_TERMINATE, m_TERMINATE_CHECK_BALANCE, n_CHECK_BALANCE_UPDATE, m_UPDATE_CHECK_BALANCE, n_TERMINATE_UPDATE, m_UPDATE_TERMINATE]
set_option maxRecDepth 65536 in
set_option maxHeartbeats 40000000 in
theorem comes_1 {Post : Tables → Env → Array Value → State → Outcome → State → Prop} (hpost : ∀ tb e args s v u, (limb_1_1.after args s (.returned v) u = true ∧ limb_1_2.after args s (.returned v) u = true) → FrameEnd s (.returned v) u (Jvm.fieldLocs frame_1_writes args s ++ Jvm.arrayLocs frame_1_arrays args s ++ Jvm.staticLocs frame_1_statics s) 0 0 → Post tb e args s (.returned v) u) :
    ArmFor flags0 classFile x code maxLocals ret World_1 tables_1 room_1 Calls_1 rest_1 Pre_1 Post := by
  intro l hfl _ _ p e ha hc hk s m args below hf hA hF happ hP
  obtain ⟨hcalls, hrest, hpre⟩ := hP
  obtain ⟨-, -, -, hnamed, -, -, -, hat⟩ := (Spec.applies_iff hf).mp happ
  obtain ⟨hg, hn⟩ := and_e (Cond.before_iff.mp (show (Jvm.Cond.and given_1 narrow_1).before args s = true from hpre))
  obtain ⟨gc, hg⟩ := and_e hg
  have g0 := hg
  obtain ⟨w0, rfl⟩ : ∃ w0 : Value, args = #[w0] := by
    have hs : args.size = 1 := by simpa [Cond.value, given_1] using gc
    obtain ⟨L⟩ := args
    match L, hs with
    | [w0], _ => exact ⟨w0, rfl⟩
  have hw := fun d (hd : d ∈ tables_1) => atoms_spec (ws := Jvm.Cond.code x code maxLocals ret :: tables_1) hat d (List.mem_cons_of_mem _ hd)
  have hfit : Fit s := fun {y c} hc i hi => by
    obtain ⟨ha, rfl⟩ := Array.getElem?_eq_some_iff.mp hc
    have q := List.all_eq_true.mp ((Array.all_eq_true_iff_forall_mem.mp hF) _ (Array.getElem_mem ha)) i (List.mem_range.mpr hi)
    simpa [Array.getElem?_eq_getElem hi] using q
  obtain ⟨i0, ei0⟩ := is_v g0
  obtain rfl : w0 = (.int i0) := Option.some.inj ei0
  obtain ⟨na0, nb0⟩ := and_e hn
  obtain ⟨na1, nb1⟩ := and_e nb0
  obtain ⟨na2, nb2⟩ := and_e nb1
  obtain ⟨na3, nb3⟩ := and_e nb2
  obtain ⟨na4, nb4⟩ := and_e nb3
  obtain ⟨na5, nb5⟩ := and_e nb4
  obtain ⟨na6, nb6⟩ := and_e nb5
  obtain ⟨na7, nb7⟩ := and_e nb6
  obtain ⟨na8, nb8⟩ := and_e nb7
  obtain ⟨na9, nb9⟩ := and_e nb8
  obtain ⟨na10, nb10⟩ := and_e nb9
  obtain ⟨w_OPEN, ev_OPEN⟩ := exa_v na0
  have E_OPEN : Exa s s.heap w_OPEN "com/example/quotarail/quotarail/service/SessionRequest$Step" := Exa.start ev_OPEN na0
  have S_OPEN : Sta s s.heap "com/example/quotarail/quotarail/service/SessionRequest$Step" "OPEN" "Lcom/example/quotarail/quotarail/service/SessionRequest$Step;" (.ref w_OPEN) := Sta.start ev_OPEN (Or.inr ⟨(hw _ (List.mem_of_getElem? (i := 6) rfl)), (hw _ (List.mem_of_getElem? (i := 7) rfl))⟩)
  obtain ⟨w_DEBIT, ev_DEBIT⟩ := exa_v na1
  have E_DEBIT : Exa s s.heap w_DEBIT "com/example/quotarail/quotarail/service/SessionRequest$Step" := Exa.start ev_DEBIT na1
  have S_DEBIT : Sta s s.heap "com/example/quotarail/quotarail/service/SessionRequest$Step" "DEBIT" "Lcom/example/quotarail/quotarail/service/SessionRequest$Step;" (.ref w_DEBIT) := Sta.start ev_DEBIT (Or.inr ⟨(hw _ (List.mem_of_getElem? (i := 6) rfl)), (hw _ (List.mem_of_getElem? (i := 14) rfl))⟩)
  obtain ⟨w_REFUND, ev_REFUND⟩ := exa_v na4
  have E_REFUND : Exa s s.heap w_REFUND "com/example/quotarail/quotarail/service/SessionRequest$Step" := Exa.start ev_REFUND na4
  have S_REFUND : Sta s s.heap "com/example/quotarail/quotarail/service/SessionRequest$Step" "REFUND" "Lcom/example/quotarail/quotarail/service/SessionRequest$Step;" (.ref w_REFUND) := Sta.start ev_REFUND (Or.inr ⟨(hw _ (List.mem_of_getElem? (i := 6) rfl)), (hw _ (List.mem_of_getElem? (i := 16) rfl))⟩)
  obtain ⟨w_CHECK_BALANCE, ev_CHECK_BALANCE⟩ := exa_v na6
  have E_CHECK_BALANCE : Exa s s.heap w_CHECK_BALANCE "com/example/quotarail/quotarail/service/SessionRequest$Step" := Exa.start ev_CHECK_BALANCE na6
  have S_CHECK_BALANCE : Sta s s.heap "com/example/quotarail/quotarail/service/SessionRequest$Step" "CHECK_BALANCE" "Lcom/example/quotarail/quotarail/service/SessionRequest$Step;" (.ref w_CHECK_BALANCE) := Sta.start ev_CHECK_BALANCE (Or.inr ⟨(hw _ (List.mem_of_getElem? (i := 6) rfl)), (hw _ (List.mem_of_getElem? (i := 18) rfl))⟩)
  obtain ⟨w_TERMINATE, ev_TERMINATE⟩ := exa_v na8
  have E_TERMINATE : Exa s s.heap w_TERMINATE "com/example/quotarail/quotarail/service/SessionRequest$Step" := Exa.start ev_TERMINATE na8
  have S_TERMINATE : Sta s s.heap "com/example/quotarail/quotarail/service/SessionRequest$Step" "TERMINATE" "Lcom/example/quotarail/quotarail/service/SessionRequest$Step;" (.ref w_TERMINATE) := Sta.start ev_TERMINATE (Or.inr ⟨(hw _ (List.mem_of_getElem? (i := 6) rfl)), (hw _ (List.mem_of_getElem? (i := 21) rfl))⟩)
  obtain ⟨w_UPDATE, ev_UPDATE⟩ := exa_v na10
  have E_UPDATE : Exa s s.heap w_UPDATE "com/example/quotarail/quotarail/service/SessionRequest$Step" := Exa.start ev_UPDATE na10
  have S_UPDATE : Sta s s.heap "com/example/quotarail/quotarail/service/SessionRequest$Step" "UPDATE" "Lcom/example/quotarail/quotarail/service/SessionRequest$Step;" (.ref w_UPDATE) := Sta.start ev_UPDATE (Or.inr ⟨(hw _ (List.mem_of_getElem? (i := 6) rfl)), (hw _ (List.mem_of_getElem? (i := 23) rfl))⟩)
  have O_OPEN := own_ord ev_OPEN na2
  have O_DEBIT := own_ord ev_DEBIT na3
  have O_REFUND := own_ord ev_REFUND na5
  have O_CHECK_BALANCE := own_ord ev_CHECK_BALANCE na7
  have O_TERMINATE := own_ord ev_TERMINATE na9
  have O_UPDATE := own_ord ev_UPDATE nb10
  have n_OPEN_DEBIT : w_OPEN ≠ w_DEBIT := own_ne O_OPEN O_DEBIT (by decide)
  have n_OPEN_REFUND : w_OPEN ≠ w_REFUND := own_ne O_OPEN O_REFUND (by decide)
  have n_OPEN_CHECK_BALANCE : w_OPEN ≠ w_CHECK_BALANCE := own_ne O_OPEN O_CHECK_BALANCE (by decide)
  have n_OPEN_TERMINATE : w_OPEN ≠ w_TERMINATE := own_ne O_OPEN O_TERMINATE (by decide)
  have n_OPEN_UPDATE : w_OPEN ≠ w_UPDATE := own_ne O_OPEN O_UPDATE (by decide)
  have n_DEBIT_REFUND : w_DEBIT ≠ w_REFUND := own_ne O_DEBIT O_REFUND (by decide)
  have n_DEBIT_CHECK_BALANCE : w_DEBIT ≠ w_CHECK_BALANCE := own_ne O_DEBIT O_CHECK_BALANCE (by decide)
  have n_DEBIT_TERMINATE : w_DEBIT ≠ w_TERMINATE := own_ne O_DEBIT O_TERMINATE (by decide)
  have n_DEBIT_UPDATE : w_DEBIT ≠ w_UPDATE := own_ne O_DEBIT O_UPDATE (by decide)
  have n_REFUND_CHECK_BALANCE : w_REFUND ≠ w_CHECK_BALANCE := own_ne O_REFUND O_CHECK_BALANCE (by decide)
  have n_REFUND_TERMINATE : w_REFUND ≠ w_TERMINATE := own_ne O_REFUND O_TERMINATE (by decide)
  have n_REFUND_UPDATE : w_REFUND ≠ w_UPDATE := own_ne O_REFUND O_UPDATE (by decide)
  have n_CHECK_BALANCE_TERMINATE : w_CHECK_BALANCE ≠ w_TERMINATE := own_ne O_CHECK_BALANCE O_TERMINATE (by decide)
  have n_CHECK_BALANCE_UPDATE : w_CHECK_BALANCE ≠ w_UPDATE := own_ne O_CHECK_BALANCE O_UPDATE (by decide)
  have n_TERMINATE_UPDATE : w_TERMINATE ≠ w_UPDATE := own_ne O_TERMINATE O_UPDATE (by decide)
  obtain ⟨n, o, h1, h2, h3, v, L, rfl, hQ, hq⟩ := rm0 l s _ hw tables_1 i0 w_OPEN w_DEBIT w_REFUND w_CHECK_BALANCE w_TERMINATE w_UPDATE s.heap  S_OPEN S_DEBIT S_REFUND S_CHECK_BALANCE S_TERMINATE S_UPDATE E_OPEN E_DEBIT E_REFUND E_CHECK_BALANCE E_TERMINATE E_UPDATE p e ha hc hk s m _ below hf ((Spec.applies_iff_loose hf).mp happ).1 ⟨rfl, State.Warmed39.refl s, rfl⟩ trivial
  obtain ⟨rfl, rfl, -⟩ := hQ
  rw [law_eq w_OPEN w_DEBIT w_REFUND w_CHECK_BALANCE w_TERMINATE w_UPDATE _ n_OPEN_DEBIT n_OPEN_REFUND n_OPEN_CHECK_BALANCE n_OPEN_TERMINATE n_OPEN_UPDATE n_DEBIT_REFUND n_DEBIT_CHECK_BALANCE n_DEBIT_TERMINATE n_DEBIT_UPDATE n_REFUND_CHECK_BALANCE n_REFUND_TERMINATE n_REFUND_UPDATE n_CHECK_BALANCE_TERMINATE n_CHECK_BALANCE_UPDATE n_TERMINATE_UPDATE] at *
  refine ⟨n, _, h1, h2, h3, hpost _ _ _ _ _ _ ⟨Cond.after_iff.mpr rfl, Cond.after_iff.mpr (eq_i res_at (Term.int_eval (1)) rfl)⟩ ⟨hq.1, hq.2.1, (hq.2.2.sift fun y hy => nomatch hy).mono (by decide) (by decide)⟩⟩
theorem main_1_1 : Claimed_1_1 := comes_1 fun _ _ _ _ _ _ h hF => ⟨h.1, hF⟩
theorem main_1_2 : Claimed_1_2 := comes_1 fun _ _ _ _ _ _ h hF => ⟨h.2, hF⟩
end Jvm.Pilot.@@N@@
namespace Jvm.Pilot.@@N@@
open Jvm Jvm.ClassFile Sem Op Lib Jvm.Free Jvm.Stand Jvm.Pilot.@@N@@.Jvm.D
/-! MADE BY PROGRAM (witnessworld.py) out of the Statement's table words and the real class files: 12 classes; the members and pool entries that the words name. The judged class is class 1, her method 2. -/
namespace start1
open Jvm.ClassFile
def u (s : String) : CpInfo := .utf8 (stringToUtf16 s)
/-- a pool by its gaps: so many unusable entries, then the entry; so many at the end -/
def gap : Nat → List CpInfo → List CpInfo
  | 0, r => r
  | n + 1, r => .unusable :: gap n r
def poolList (es : List (Nat × CpInfo)) (last : Nat) : List CpInfo := es.foldr (fun e r => gap e.1 (e.2 :: r)) (gap last [])
def pool (es : List (Nat × CpInfo)) (last : Nat) : Array CpInfo := ⟨poolList es last⟩
def fileOf (pool : Array CpInfo) (this : Nat) (attrs : Array Attribute := #[]) (ms : Array MethodInfo := #[]) (fl : Nat := 33) (sup : Nat := 0) (ifs : Array Nat := #[]) (fds : Array FieldInfo := #[]) : ClassFile where
  minorVersion := 0
  majorVersion := 65
  constantPool := pool
  accessFlags := fl
  thisClass := this
  superClass := sup
  interfaces := ifs
  fields := fds
  methods := ms
  attributes := attrs
def plain (name : String) (sup : Option ClassId) : Class where
  name := name
  kind := .ordinary
  loader := none
  accessFlags := 33
  super := sup
  interfaces := #[]
  cf := none
  fields := #[]
  methods := #[]
  instanceTypes := #[]
  staticTypes := #[]
  resolved := #[]
  callSites := []
  init := .initialized
  statics := none
  mirror := none

def pool0 : Array CpInfo := pool [(5, u "<init>"), (0, u "()V"), (1, .class_ 10), (1, u "java/lang/Object")] 113

def k0m0 : Method := { name := "<init>", desc := "()V", sig := { parameters := [], returnType := none }, accessFlags := 1, code := none }
/-- java/lang/Object -/
def k0 : Class := { plain "java/lang/Object" none with
  accessFlags := 33
  interfaces := #[]
  cf := some (fileOf pool0 8 #[] #[{ accessFlags := 1, nameIndex := 5, descriptorIndex := 6, attributes := #[] }] 33 0 #[] #[])
  fields := #[]
  methods := #[k0m0]
  instanceTypes := #[]
  staticTypes := #[]
  resolved := Array.replicate 124 none
  statics := none }

def pool1 : Array CpInfo := pool [(2, .class_ 4), (1, u "java/lang/Object"), (0, u "<init>"), (0, u "()V"), (0, .fieldref 8 9), (0, .class_ 10), (0, .nameAndType 11 12), (0, u "com/example/quotarail/quotarail/service/SessionRequest$Step"), (0, u "OPEN"), (0, u "Lcom/example/quotarail/quotarail/service/SessionRequest$Step;"), (0, .fieldref 8 14), (0, .nameAndType 15 12), (0, u "UPDATE"), (0, .fieldref 8 17), (0, .nameAndType 18 12), (0, u "TERMINATE"), (0, .fieldref 8 20), (0, .nameAndType 21 12), (0, u "DEBIT"), (0, .fieldref 8 23), (0, .nameAndType 24 12), (0, u "REFUND"), (0, .fieldref 8 26), (0, .nameAndType 27 12), (0, u "CHECK_BALANCE"), (0, .integer 2147483647), (0, .methodref 30 31), (0, .class_ 32), (0, .nameAndType 33 34), (0, u "com/example/quotarail/quotarail/service/StepIsEventPinLaw"), (0, u "pick"), (0, u "(I)Lcom/example/quotarail/quotarail/service/SessionRequest$Step;"), (0, .methodref 8 36), (0, .nameAndType 37 38), (0, u "isEvent"), (0, u "()Z"), (3, u "law"), (0, u "(I)Z")] 6

def k1m0 : Method := { name := "<init>", desc := "()V", sig := { parameters := [], returnType := none }, accessFlags := 1, code := none }
def k1c1 : Code := { maxStack := 2, maxLocals := 1, code := method_2_code, exceptionTable := #[], attributes := #[] }
def k1m1 : Method := { name := "pick", desc := "(I)Lcom/example/quotarail/quotarail/service/SessionRequest$Step;", sig := { parameters := [.int], returnType := some (.object "com/example/quotarail/quotarail/service/SessionRequest$Step") }, accessFlags := 10, code := some k1c1 }
def k1c2 : Code := { maxStack := 2, maxLocals := 5, code := code, exceptionTable := #[], attributes := #[] }
def k1m2 : Method := { name := "law", desc := "(I)Z", sig := { parameters := [.int], returnType := some .boolean }, accessFlags := 9, code := some k1c2 }
/-- com/example/quotarail/quotarail/service/StepIsEventPinLaw -/
def k1 : Class := { plain "com/example/quotarail/quotarail/service/StepIsEventPinLaw" (some 0) with
  accessFlags := 49
  interfaces := #[]
  cf := some (fileOf pool1 30 #[] #[{ accessFlags := 1, nameIndex := 5, descriptorIndex := 6, attributes := #[] }, { accessFlags := 10, nameIndex := 33, descriptorIndex := 34, attributes := #[] }, { accessFlags := 9, nameIndex := 42, descriptorIndex := 43, attributes := #[] }] 49 2 #[] #[])
  fields := #[]
  methods := #[k1m0, k1m1, k1m2]
  instanceTypes := #[]
  staticTypes := #[]
  resolved := Array.replicate 50 none
  statics := none }

def pool2 : Array CpInfo := pool [(1, .class_ 2), (0, u "java/lang/constant/Constable"), (0, .class_ 4), (0, u "java/lang/Object")] 6

/-- java/lang/constant/Constable -/
def k2 : Class := { plain "java/lang/constant/Constable" (some 0) with
  accessFlags := 1537
  interfaces := #[]
  cf := some (fileOf pool2 1 #[] #[] 1537 3 #[] #[])
  fields := #[]
  methods := #[]
  instanceTypes := #[]
  staticTypes := #[]
  resolved := Array.replicate 11 none
  statics := none }

def pool3 : Array CpInfo := pool [(1, .class_ 2), (0, u "java/lang/Comparable"), (0, .class_ 4), (0, u "java/lang/Object")] 7

/-- java/lang/Comparable -/
def k3 : Class := { plain "java/lang/Comparable" (some 0) with
  accessFlags := 1537
  interfaces := #[]
  cf := some (fileOf pool3 1 #[] #[] 1537 3 #[] #[])
  fields := #[]
  methods := #[]
  instanceTypes := #[]
  staticTypes := #[]
  resolved := Array.replicate 12 none
  statics := none }

def pool4 : Array CpInfo := pool [(1, .class_ 2), (0, u "java/io/Serializable"), (0, .class_ 4), (0, u "java/lang/Object")] 2

/-- java/io/Serializable -/
def k4 : Class := { plain "java/io/Serializable" (some 0) with
  accessFlags := 1537
  interfaces := #[]
  cf := some (fileOf pool4 1 #[] #[] 1537 3 #[] #[])
  fields := #[]
  methods := #[]
  instanceTypes := #[]
  staticTypes := #[]
  resolved := Array.replicate 7 none
  statics := none }

def pool5 : Array CpInfo := pool [(2, .class_ 4), (1, u "java/lang/Enum"), (0, u "name"), (0, u "Ljava/lang/String;"), (2, u "ordinal"), (0, u "I"), (1, .class_ 14), (1, u "java/lang/Object"), (4, u "hash"), (86, .class_ 108), (1, u "java/lang/Enum$EnumDesc"), (2, .class_ 112), (0, u "java/lang/constant/Constable"), (0, .class_ 114), (0, u "java/lang/Comparable"), (0, .class_ 116), (0, u "java/io/Serializable")] 87

/-- java/lang/Enum -/
def k5 : Class := { plain "java/lang/Enum" (some 0) with
  accessFlags := 1057
  interfaces := #[2, 3, 4]
  cf := some (fileOf pool5 2 #[.nestMembers #[106]] #[] 1057 12 #[111, 113, 115] #[{ accessFlags := 18, nameIndex := 5, descriptorIndex := 6, attributes := #[] }, { accessFlags := 18, nameIndex := 9, descriptorIndex := 10, attributes := #[] }, { accessFlags := 2, nameIndex := 19, descriptorIndex := 10, attributes := #[] }])
  fields := #[{ name := "name", type := (.object "java/lang/String"), accessFlags := 18, slot := 0, constantValue := 0 }, { name := "ordinal", type := .int, accessFlags := 18, slot := 1, constantValue := 0 }, { name := "hash", type := .int, accessFlags := 2, slot := 2, constantValue := 0 }]
  methods := #[]
  instanceTypes := #[(.object "java/lang/String"), .int, .int]
  staticTypes := #[]
  resolved := Array.replicate 204 none
  statics := none }

def pool6 : Array CpInfo := pool [(1, .class_ 2), (0, u "com/example/quotarail/quotarail/service/SessionRequest$Step"), (2, u "OPEN"), (0, u "Lcom/example/quotarail/quotarail/service/SessionRequest$Step;"), (2, u "UPDATE"), (2, u "TERMINATE"), (0, .fieldref 1 14), (0, .nameAndType 15 6), (0, u "DEBIT"), (0, .fieldref 1 17), (0, .nameAndType 18 6), (0, u "REFUND"), (0, .fieldref 1 20), (0, .nameAndType 21 6), (0, u "CHECK_BALANCE"), (2, u "$VALUES"), (0, u "[Lcom/example/quotarail/quotarail/service/SessionRequest$Step;"), (6, .class_ 34), (1, u "java/lang/Enum"), (24, u "isEvent"), (0, u "()Z"), (6, .class_ 68), (0, u "com/example/quotarail/quotarail/service/SessionRequest")] 2

def k6c0 : Code := { maxStack := 2, maxLocals := 1, code := prog_50_method_4_code, exceptionTable := #[], attributes := #[] }
def k6m0 : Method := { name := "isEvent", desc := "()Z", sig := { parameters := [], returnType := some .boolean }, accessFlags := 1, code := some k6c0 }
/-- com/example/quotarail/quotarail/service/SessionRequest$Step -/
def k6 : Class := { plain "com/example/quotarail/quotarail/service/SessionRequest$Step" (some 5) with
  accessFlags := 16433
  interfaces := #[]
  cf := some (fileOf pool6 1 #[.nestHost 67] #[{ accessFlags := 1, nameIndex := 59, descriptorIndex := 60, attributes := #[] }] 16433 32 #[] #[{ accessFlags := 16409, nameIndex := 5, descriptorIndex := 6, attributes := #[] }, { accessFlags := 16409, nameIndex := 9, descriptorIndex := 6, attributes := #[] }, { accessFlags := 16409, nameIndex := 12, descriptorIndex := 6, attributes := #[] }, { accessFlags := 16409, nameIndex := 15, descriptorIndex := 6, attributes := #[] }, { accessFlags := 16409, nameIndex := 18, descriptorIndex := 6, attributes := #[] }, { accessFlags := 16409, nameIndex := 21, descriptorIndex := 6, attributes := #[] }, { accessFlags := 4122, nameIndex := 24, descriptorIndex := 25, attributes := #[] }])
  fields := #[{ name := "OPEN", type := (.object "com/example/quotarail/quotarail/service/SessionRequest$Step"), accessFlags := 16409, slot := 0, constantValue := 0 }, { name := "UPDATE", type := (.object "com/example/quotarail/quotarail/service/SessionRequest$Step"), accessFlags := 16409, slot := 1, constantValue := 0 }, { name := "TERMINATE", type := (.object "com/example/quotarail/quotarail/service/SessionRequest$Step"), accessFlags := 16409, slot := 2, constantValue := 0 }, { name := "DEBIT", type := (.object "com/example/quotarail/quotarail/service/SessionRequest$Step"), accessFlags := 16409, slot := 3, constantValue := 0 }, { name := "REFUND", type := (.object "com/example/quotarail/quotarail/service/SessionRequest$Step"), accessFlags := 16409, slot := 4, constantValue := 0 }, { name := "CHECK_BALANCE", type := (.object "com/example/quotarail/quotarail/service/SessionRequest$Step"), accessFlags := 16409, slot := 5, constantValue := 0 }, { name := "$VALUES", type := (.array (.object "com/example/quotarail/quotarail/service/SessionRequest$Step")), accessFlags := 4122, slot := 6, constantValue := 0 }]
  methods := #[k6m0]
  instanceTypes := #[(.object "java/lang/String"), .int, .int]
  staticTypes := #[(.object "com/example/quotarail/quotarail/service/SessionRequest$Step"), (.object "com/example/quotarail/quotarail/service/SessionRequest$Step"), (.object "com/example/quotarail/quotarail/service/SessionRequest$Step"), (.object "com/example/quotarail/quotarail/service/SessionRequest$Step"), (.object "com/example/quotarail/quotarail/service/SessionRequest$Step"), (.object "com/example/quotarail/quotarail/service/SessionRequest$Step"), (.array (.object "com/example/quotarail/quotarail/service/SessionRequest$Step"))]
  resolved := Array.replicate 71 none
  statics := some 0 }

def pool7 : Array CpInfo := pool [(1, u "java/lang/Cloneable"), (0, .class_ 1), (0, u "java/lang/Object"), (0, .class_ 3)] 3

/-- java/lang/Cloneable -/
def k7 : Class := { plain "java/lang/Cloneable" (some 0) with
  accessFlags := 1537
  interfaces := #[]
  cf := some (fileOf pool7 2 #[] #[] 1537 4 #[] #[])
  fields := #[]
  methods := #[]
  instanceTypes := #[]
  staticTypes := #[]
  resolved := Array.replicate 8 none
  statics := none }

/-- the primitive byte -/
def k8 : Class := { plain "byte" none with kind := .primitive 'B', accessFlags := 0x411 }
/-- [B -/
def k9 : Class := { plain "[B" (some 0) with kind := .array 8 .byte, interfaces := #[7, 4], accessFlags := 1041 }

/-- the primitive int -/
def k10 : Class := { plain "int" none with kind := .primitive 'I', accessFlags := 0x411 }
/-- [I -/
def k11 : Class := { plain "[I" (some 0) with kind := .array 10 .int, interfaces := #[7, 4], accessFlags := 1041 }

def heap : Heap := #[{ cls := 6, slots := #[.ref 1, .ref 2, .ref 3, .ref 4, .ref 5, .ref 6, .null], vm := .statics 6 },
  { cls := 6, slots := #[.null, .int 0, .int 0], vm := .none },
  { cls := 6, slots := #[.null, .int 1, .int 0], vm := .none },
  { cls := 6, slots := #[.null, .int 2, .int 0], vm := .none },
  { cls := 6, slots := #[.null, .int 3, .int 0], vm := .none },
  { cls := 6, slots := #[.null, .int 4, .int 0], vm := .none },
  { cls := 6, slots := #[.null, .int 5, .int 0], vm := .none }]
def classes : Array Class := #[k0, k1, k2, k3, k4, k5, k6, k7, k8, k9, k10, k11]
def interned : List (Array UInt16 × Addr) := []
def slotsUsed : Nat := 25
def theMethod : MethodId := ⟨1, 2⟩
def args0 : Array Value := #[.int 5]
def aboutOver (below : List Frame) : State where
  vm := { classes := classes, interned := interned.toArray }
  heap := heap
  slotsUsed := slotsUsed
  threads := #[{ frames := .invoking theMethod args0 :: below }]
def below0 : List Frame := [.native { method := ⟨0, 0⟩, args := #[] }]
def about1 : State := aboutOver below0
def p0 : Program := .bare "" "" ""
def e0 : Env := launch0.env 0 0 0
theorem w_frames : about1.frames = Frame.invoking theMethod args0 :: below0 := rfl
set_option maxRecDepth 65536 in
theorem w_args : argsFit about1.vm theMethod args0 = true := by decide +kernel
set_option maxRecDepth 65536 in
theorem w_heap : heapFits about1 = true := by decide +kernel
set_option maxRecDepth 65536 in
theorem w_runnable : about1.curStatus? = some .runnable := by decide +kernel
set_option maxRecDepth 65536 in
theorem w_alone : about1.alone = true := by decide +kernel
set_option maxRecDepth 65536 in
theorem w_named : about1.methodNamed? x = some theMethod := by decide +kernel
set_option maxRecDepth 65536 in
theorem w_hears : about1.hears theMethod below0 = true := by decide +kernel
set_option maxRecDepth 65536 in
theorem w_ripe : about1.ripe theMethod args0 below0 = true := by decide +kernel
theorem w_running : about1.status = .running := rfl
set_option maxRecDepth 65536 in
theorem w_room : about1.hasRoom e0.platform room_1 = true :=
  launch0.hasRoom_least _ room_1 (by decide +kernel) (by decide +kernel) (by decide +kernel) (by decide +kernel) (by decide +kernel) (by decide +kernel)
theorem allAtoms_all (ts : List Jvm.Cond) (a : Array Jvm.Value) (st : Jvm.State) : (allAtoms ts).before a st = ts.all (fun c => c.before a st) := by
  induction ts with
  | nil => rfl
  | cons c t ih =>
    show (Jvm.Cond.and c (allAtoms t)).before a st = _
    rw [Jvm.Cond.before_and, ih, List.all_cons]
def words1 : List Jvm.Cond := Jvm.Cond.code x code maxLocals ret :: tables_1
/-- a 'code' word, met by the world's own term for the bytes: nothing is compared byte by byte -/
theorem code_word {y : MethodName} {bytes : ByteArray} {mx : Nat} {rt : Option FieldType} {a : Array Value} {s : State} {m : MethodId} {meth : Method} {c : Code} (h1 : s.methodNamed? y = some m) (h2 : s.vm.method? m = some meth) (h3 : meth.code = some c) (h4 : c.code = bytes)
    (h5 : (c.maxLocals == mx && c.exceptionTable.isEmpty && decide (c.maxStack ≤ mostOperands) && decide (meth.sig.returnType = rt) && !meth.locks && decide (parseMethodDescriptor y.desc = some meth.sig)) = true) : (Jvm.Cond.code y bytes mx rt).before a s = true := by
  simp only [Bool.and_eq_true, beq_iff_eq, Bool.not_eq_true', decide_eq_true_eq] at h5
  obtain ⟨⟨⟨⟨⟨g1, g2⟩, g3⟩, g4⟩, g5⟩, g6⟩ := h5
  simp [Cond.before, Cond.holds, Cond.value, h1, h2, h3, h4, g1, g2, g3, g4, g5, g6]
def isCode : Jvm.Cond → Bool
  | .code _ _ _ _ => true
  | _ => false
theorem all_split {L : List Jvm.Cond} {P : Jvm.Cond → Bool} (h1 : L.all (fun c => isCode c || P c) = true) (h2 : ∀ c ∈ L.filter isCode, P c = true) : L.all P = true := by
  refine List.all_eq_true.mpr fun c hc => ?_
  have h := List.all_eq_true.mp h1 c hc
  rcases Bool.eq_false_or_eq_true (isCode c) with hi | hi
  · exact h2 c (List.mem_filter.mpr ⟨hc, hi⟩)
  · simpa [hi] using h
set_option maxRecDepth 65536 in
theorem w_c0 : (Jvm.Cond.code x code maxLocals ret).before args0 about1 = true := code_word (m := ⟨1, 2⟩) (meth := k1m2) (c := k1c2) (by decide +kernel) rfl rfl rfl (by decide +kernel)
set_option maxRecDepth 65536 in
theorem w_c1 : (Jvm.Cond.code ({ cls := "com/example/quotarail/quotarail/service/StepIsEventPinLaw", name := "pick", desc := "(I)Lcom/example/quotarail/quotarail/service/SessionRequest$Step;" } : Jvm.MethodName) method_2_code (1 : Nat) (Option.some (Jvm.ClassFile.FieldType.object "com/example/quotarail/quotarail/service/SessionRequest$Step"))).before args0 about1 = true := code_word (m := ⟨1, 1⟩) (meth := k1m1) (c := k1c1) (by decide +kernel) rfl rfl rfl (by decide +kernel)
set_option maxRecDepth 65536 in
theorem w_c2 : (Jvm.Cond.code ({ cls := "com/example/quotarail/quotarail/service/SessionRequest$Step", name := "isEvent", desc := "()Z" } : Jvm.MethodName) prog_50_method_4_code (1 : Nat) (Option.some Jvm.ClassFile.FieldType.boolean)).before args0 about1 = true := code_word (m := ⟨6, 0⟩) (meth := k6m0) (c := k6c0) (by decide +kernel) rfl rfl rfl (by decide +kernel)
def codes1 : List Jvm.Cond := [Jvm.Cond.code x code maxLocals ret, Jvm.Cond.code ({ cls := "com/example/quotarail/quotarail/service/StepIsEventPinLaw", name := "pick", desc := "(I)Lcom/example/quotarail/quotarail/service/SessionRequest$Step;" } : Jvm.MethodName) method_2_code (1 : Nat) (Option.some (Jvm.ClassFile.FieldType.object "com/example/quotarail/quotarail/service/SessionRequest$Step")), Jvm.Cond.code ({ cls := "com/example/quotarail/quotarail/service/SessionRequest$Step", name := "isEvent", desc := "()Z" } : Jvm.MethodName) prog_50_method_4_code (1 : Nat) (Option.some Jvm.ClassFile.FieldType.boolean)]
set_option maxRecDepth 65536 in
theorem codes_eq : words1.filter isCode = codes1 := rfl
theorem w_codes : ∀ c ∈ words1.filter isCode, c.before args0 about1 = true := by
  rw [codes_eq]
  intro c hc
  simp only [codes1, List.mem_cons, List.not_mem_nil, or_false] at hc
  rcases hc with rfl | rfl | rfl
  · exact w_c0
  · exact w_c1
  · exact w_c2
set_option maxRecDepth 65536 in
theorem w_t1 : (words1.take 24).all (fun c => isCode c || c.before args0 about1) = true := by decide +kernel
set_option maxRecDepth 65536 in
theorem w_t2 : (words1.drop 24).all (fun c => isCode c || c.before args0 about1) = true := by decide +kernel
theorem w_tables : (allAtoms (Jvm.Cond.code x code maxLocals ret :: tables_1)).before args0 about1 = true := by
  rw [allAtoms_all]
  show words1.all (fun c => c.before args0 about1) = true
  refine all_split ?_ w_codes
  rw [← List.take_append_drop 24 words1, List.all_append, w_t1, w_t2]
  rfl
set_option maxRecDepth 65536 in
theorem w_case : (Jvm.Cond.and given_1 narrow_1).before args0 about1 = true := by decide +kernel
theorem w_applies : (headSpec (Jvm.Cond.code x code maxLocals ret :: tables_1) room_1).applies x e0.platform about1 = true :=
  (Spec.applies_iff w_frames).mpr ⟨w_running, w_runnable, w_alone, w_named, w_hears, w_ripe, w_room, w_tables⟩
theorem atStart : AtStart classFile x code maxLocals ret World_1 tables_1 room_1 Calls_1 rest_1 Pre_1 launch0 p0 e0 about1 theMethod args0 below0 :=
  ⟨lists_1, trivial, launch0.admits_env _ _ _, launch0.least_env, fairChoices_fair.cas, fairChoices_fair.clock, w_frames, w_args, w_heap, w_applies, trivial, trivial, w_case⟩
end start1
theorem witness_1 : WitnessClaimed_1 := ⟨start1.p0, start1.e0, start1.about1, start1.theMethod, start1.args0, start1.below0, start1.atStart⟩
end Jvm.Pilot.@@N@@
