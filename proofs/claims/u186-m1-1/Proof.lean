import JvmDerived
import JvmDerived.Pilot.@@N@@Statement
import JvmDerived.Pilot.@@N@@Code
set_option linter.unusedVariables false
set_option linter.unusedSimpArgs false
namespace Jvm.Pilot.@@N@@
open Jvm Jvm.ClassFile Sem Op Lib Jvm.Free Jvm.Stand Jvm.LawKit Jvm.RoadKit Bundle Jvm.Pilot.@@N@@.Jvm.D
/-! from a frame on, the body comes to its end as Q says -/
section OwnKit
variable {p : Program} {l : Launch} {e : Env} {R : Room} {s : State} {m : MethodId} {args : Array Value} {below : List Frame} {meth : Method} {c : Code} {T T' : State} {locs : List Loc} {cells slots C D : Nat} {Q Q' : Option Value → Heap → List Loc → Prop} {g g' : JFrame}
def Go (p : Program) (e : Env) (below : List Frame) (s : State) (C D : Nat) (Q : Option Value → Heap → List Loc → Prop) (T : State) (g : JFrame) : Prop :=
  ∃ u o, Steps p.tables e below (T.setTop g) u ∧ u.status = .running ∧ Ended u below o ∧ ∃ v L, o = .returned v ∧ Q v u.heap L ∧ FrameEnd s o u L C D
def PureQ (r : Value) (h0 : Heap) (v : Option Value) (h : Heap) (L : List Loc) : Prop := v = some r ∧ L = [] ∧ h = h0
theorem Go.step (k : ∀ t, Steps p.tables e below (T'.setTop g') t → Steps p.tables e below (T.setTop g) t) (h : Go p e below s C D Q T' g') : Go p e below s C D Q T g := by
  obtain ⟨u, o, h1, r⟩ := h
  exact ⟨u, o, k _ h1, r⟩
theorem Go.mono (h : Go p e below s C D Q T g) (q : ∀ v h L, Q v h L → Q' v h L) : Go p e below s C D Q' T g := by
  obtain ⟨u, o, h1, h2, h3, v, L, h4, h5, h6⟩ := h
  exact ⟨u, o, h1, h2, h3, v, L, h4, q _ _ _ h5, h6⟩
theorem Go.retN (X : Stand p l e R s m args below meth c T locs cells slots) (hx : p.tables.exec = Jvm.exec) (hlk : meth.locks = false) {pc : Nat} {Ls : Array Slot} {z : Int32} {t : FieldType} {rest : List Value} (hret : meth.sig.returnType = some t) (ht : t = .boolean ∨ t = .byte ∨ t = .char ∨ t = .short)
    (hd : decode c.code pc = .ok (.ireturn, 1)) (hC : cells ≤ C) (hD : slots ≤ D) (hq : Q (some (.int (nar t z))) T.heap locs) : Go p e below s C D Q T (mkF m pc Ls (.int z :: rest)) := by
  obtain ⟨fs, hr, hrun, hended, hW, hsame⟩ := X.leave (v := some (.int (nar t z))) (fun h => by rw [hret] at h; cases h) hlk
  exact ⟨_, _, Jvm.RoadKit.retN X hx hret ht hd hr, hrun, hended, _, _, rfl, hq, ⟨_, rfl⟩, hW, hsame.mono hC hD⟩
theorem Go.retW (X : Stand p l e R s m args below meth c T locs cells slots) (hx : p.tables.exec = Jvm.exec) (hlk : meth.locks = false) {pc : Nat} {Ls : Array Slot} {w : Value} {t : FieldType} {i : Instr} {rest : List Value} (hret : meth.sig.returnType = some t) (hn : narrow t w = w)
    (hi : (i = .ireturn ∧ (t = .int ∨ t = .boolean ∨ t = .byte ∨ t = .char ∨ t = .short) ∧ ∃ z, w = .int z) ∨ (i = .lreturn ∧ t = .long ∧ ∃ z, w = .long z) ∨ (i = .dreturn ∧ t = .double ∧ ∃ z, w = .double z) ∨ (i = .freturn ∧ t = .float ∧ ∃ z, w = .float z) ∨ (i = .areturn ∧ t.isReference = true ∧ w.isRef = true))
    (hd : decode c.code pc = .ok (i, 1)) (hC : cells ≤ C) (hD : slots ≤ D) (hq : Q (some w) T.heap locs) : Go p e below s C D Q T (mkF m pc Ls (w :: rest)) := by
  obtain ⟨fs, hr, hrun, hended, hW, hsame⟩ := X.leave (v := some w) (fun h => by rw [hret] at h; cases h) hlk
  exact ⟨_, _, retOut X hx hret hn hi hd hr, hrun, hended, _, _, rfl, hq, ⟨_, rfl⟩, hW, hsame.mono hC hD⟩
theorem Go.ret0 (X : Stand p l e R s m args below meth c T locs cells slots) (hx : p.tables.exec = Jvm.exec) (hlk : meth.locks = false) {pc : Nat} {Ls : Array Slot} (hret : meth.sig.returnType = none)
    (hd : decode c.code pc = .ok (.return_, 1)) (hC : cells ≤ C) (hD : slots ≤ D) (hq : Q none T.heap locs) : Go p e below s C D Q T (mkF m pc Ls []) := by
  obtain ⟨fs, hr, hrun, hended, hW, hsame⟩ := X.leave (v := none) (fun _ => rfl) hlk
  exact ⟨_, _, X.returnOut hx hret hd hr, hrun, hended, _, _, rfl, hq, ⟨_, rfl⟩, hW, hsame.mono hC hD⟩
end OwnKit
theorem pd_0 : parseMethodDescriptor "(I)Lcom/example/redelivery/redelivery/ApiKeys$Role;" = some ⟨[.int], some (.object "com/example/redelivery/redelivery/ApiKeys$Role")⟩ := by decide +kernel
theorem pd_1 : parseMethodDescriptor "(Lcom/example/redelivery/redelivery/ApiKeys$Role;)Z" = some ⟨[(.object "com/example/redelivery/redelivery/ApiKeys$Role")], some .boolean⟩ := by decide +kernel
theorem own_ord {t : Term} {a : Addr} {k : Int32} {args : Array Value} {s : State} {C n d : String} (ev : t.eval args s none [] s = some (.ref a)) (h : (Jvm.Cond.eq (.field t C n d) (.int k)).value args s none s [] = some true) : s.fieldOf? a C n d = some (.int k) := by
  have e := fld_at (C := C) (n := n) (dd := d) ev
  cases hf : s.fieldOf? a C n d with
  | none => rw [hf] at e; simp [Cond.value, e] at h
  | some v => rw [hf] at e; cases v <;> simp [Cond.value, e, Term.int_eval] at h ⊢; exact h
theorem own_ref {t u : Term} {a b : Addr} {args : Array Value} {s : State} {C n d : String} (ev : t.eval args s none [] s = some (.ref a)) (eu : u.eval args s none [] s = some (.ref b)) (h : (Jvm.Cond.eq (.field t C n d) u).value args s none s [] = some true) : s.fieldOf? a C n d = some (.ref b) := by
  have e := fld_at (C := C) (n := n) (dd := d) ev
  cases hf : s.fieldOf? a C n d with
  | none => rw [hf] at e; simp [Cond.value, e] at h
  | some v => rw [hf] at e; cases v <;> simp [Cond.value, e, eu] at h ⊢; exact h
theorem own_ne {a b : Addr} {v w : Value} {s : State} {C n d : String} (h1 : s.fieldOf? a C n d = some v) (h2 : s.fieldOf? b C n d = some w) (hn : v ≠ w) : a ≠ b := fun e => by
  subst e; exact hn (Option.some.inj (h1.symm.trans h2))
theorem d1_0 : decode method_2_code 0 = .ok (.iload_n 0, 1) := by decide +kernel
theorem d1_1 : decode method_2_code 1 = .ok (.iconst 1, 1) := by decide +kernel
theorem d1_2 : decode method_2_code 2 = .ok (.iand, 1) := by decide +kernel
theorem d1_3 : decode method_2_code 3 = .ok (.ifCond .ne 7, 3) := by decide +kernel
theorem d1_6 : decode method_2_code 6 = .ok (.getstatic 7, 3) := by decide +kernel
theorem d1_9 : decode method_2_code 9 = .ok (.areturn, 1) := by decide +kernel
theorem d1_10 : decode method_2_code 10 = .ok (.getstatic 13, 3) := by decide +kernel
theorem d1_13 : decode method_2_code 13 = .ok (.areturn, 1) := by decide +kernel
theorem pn_1 : plainName "com/example/redelivery/redelivery/RoleMayCallPinLaw" = true := by first | (simp [plainName, overriddenIn]; done) | decide +kernel
theorem ef_1 (m : MethodId) (p0 : Int32) : entryFrame m #[(.int p0)] 1 = mkF m 0 #[.val (.int p0)] [] := by first | (simp [entryFrame, mkF, argsToLocals, Value.category]; done) | rfl
def f1_10 (w_ADMIN : Addr) : Addr := w_ADMIN
def f1_6 (w_PUBLISH : Addr) : Addr := w_PUBLISH
def f1_0 (p0 : Int32) (w_PUBLISH : Addr) (w_ADMIN : Addr) : Addr := if (p0 &&& (1 : Int32)) = (0 : Int32) then (f1_6 w_PUBLISH) else (f1_10 w_ADMIN)
set_option maxRecDepth 65536 in
set_option maxHeartbeats 40000000 in
theorem rm1 (l : Launch) (Z : State) (a0 : Array Value) (hw : ∀ d ∈ tables_1, d.before a0 Z = true) (ws : List Jvm.Cond) (p0 : Int32) (w_PUBLISH : Addr) (w_ADMIN : Addr) (h0 : Heap) (S_PUBLISH : Sta Z h0 "com/example/redelivery/redelivery/ApiKeys$Role" "PUBLISH" "Lcom/example/redelivery/redelivery/ApiKeys$Role;" (.ref w_PUBLISH)) (S_ADMIN : Sta Z h0 "com/example/redelivery/redelivery/ApiKeys$Role" "ADMIN" "Lcom/example/redelivery/redelivery/ApiKeys$Role;" (.ref w_ADMIN)) :
    MetFree l (⟨"com/example/redelivery/redelivery/RoleMayCallPinLaw", "pick", "(I)Lcom/example/redelivery/redelivery/ApiKeys$Role;"⟩ : MethodName) (head1 (Jvm.Cond.code (⟨"com/example/redelivery/redelivery/RoleMayCallPinLaw", "pick", "(I)Lcom/example/redelivery/redelivery/ApiKeys$Role;"⟩ : MethodName) method_2_code 1 (some (.object "com/example/redelivery/redelivery/ApiKeys$Role")) :: ws) ({ frames := 0, cells := 0, slots := 0, locals := 0 } : Room)) (fun a U => a = #[(.int p0)] ∧ Z.Warmed39 U.vm ∧ U.heap = h0) (fun _ _ _ _ _ => True) (fun _ U o U' => ∃ v L, o = .returned v ∧ (PureQ (.ref (f1_0 p0 w_PUBLISH w_ADMIN)) h0) v U'.heap L ∧ FrameEnd U o U' L ({ frames := 0, cells := 0, slots := 0, locals := 0 } : Room).cells ({ frames := 0, cells := 0, slots := 0, locals := 0 } : Room).slots) := by
  refine MetFree.of_bodySF (plainFor_of_name pn_1) hisR ?_
  intro p e s m args below meth c s₁ Bd hml0 hP hK
  obtain ⟨rfl, hZ, hh⟩ := hP
  have hx := Bd.exec
  have hby := Bd.bytes
  have hlk : meth.locks = false := BodyLoose.notSynchronized Bd
  have hml : c.maxLocals = 1 := hml0
  have hown : s.vm.findClass "com/example/redelivery/redelivery/RoleMayCallPinLaw" = some m.cls := findClass_of_methodNamed Bd.named
  have hnm := (name_of_methodNamed Bd.named Bd.method).1
  have X0 : Stand p l e ({ frames := 0, cells := 0, slots := 0, locals := 0 } : Room) s m #[(.int p0)] below meth c s₁ ([] : List Loc) 0 0 := Stand.of_body Bd
  have e0 : s₁.heap = h0 := by rw [← hh, Bd.state]; rfl
  show Go p e below s 0 0 (PureQ (.ref (f1_0 p0 w_PUBLISH w_ADMIN)) h0) s₁ (entryFrame m #[(.int p0)] 1)
  rw [ef_1 m p0]
  refine Go.step (g' := (mkF m 1 #[.val (.int p0)] [(.int p0)])) (fun _ k => XS.iloadN X0.here hx rfl (hb hby d1_0) rfl  k) ?_
  refine Go.step (g' := (mkF m 2 #[.val (.int p0)] [(.int (1 : Int32)), (.int p0)])) (fun _ k => XS.iconst X0.here hx rfl (hb hby d1_1) k) ?_
  refine Go.step (g' := (mkF m 3 #[.val (.int p0)] [(.int (p0 &&& (1 : Int32)))])) (fun _ k => XS.iand X0.here hx rfl (hb hby d1_2) rfl k) ?_
  by_cases hc3 : (p0 &&& (1 : Int32)) = (0 : Int32)
  · rw [show (f1_0 p0 w_PUBLISH w_ADMIN) = (f1_6 w_PUBLISH) from if_pos hc3]
    refine Go.step (g' := (mkF m 6 #[.val (.int p0)] [])) (fun _ k => XS.ifNo X0.here hx rfl (hb hby d1_3) rfl ((if0 _ _).trans (teq hc3).2) k) ?_
    obtain ⟨T1, X1, e1, st1⟩ := getS2 X0 hx hZ hown (host := "") (Or.inl (hw _ (List.mem_of_getElem? (i := 4) rfl))) Via.refl e0 S_PUBLISH (g := (mkF m 6 #[.val (.int p0)] [])) rfl (hb hby d1_6)
    refine Go.step (g' := (mkF m 9 #[.val (.int p0)] [(.ref w_PUBLISH)])) st1 ?_
    exact Go.retW X1 hx hlk (t := (.object "com/example/redelivery/redelivery/ApiKeys$Role")) Bd.returns rfl (Or.inr (Or.inr (Or.inr (Or.inr ⟨rfl, rfl, rfl⟩)))) (hb hby d1_9) (by decide) (by decide) ⟨rfl, rfl, e1⟩
  · rw [show (f1_0 p0 w_PUBLISH w_ADMIN) = (f1_10 w_ADMIN) from if_neg hc3]
    refine Go.step (g' := (mkF m 10 #[.val (.int p0)] [])) (fun _ k => XS.ifYes X0.here hx rfl (pc0 := 3) (pc' := 10) rfl (hb hby d1_3) rfl ((if0 _ _).trans (feq hc3).2) (by decide) (by decide) k) ?_
    obtain ⟨T2, X2, e2, st2⟩ := getS2 X0 hx hZ hown (host := "") (Or.inl (hw _ (List.mem_of_getElem? (i := 7) rfl))) Via.refl e0 S_ADMIN (g := (mkF m 10 #[.val (.int p0)] [])) rfl (hb hby d1_10)
    refine Go.step (g' := (mkF m 13 #[.val (.int p0)] [(.ref w_ADMIN)])) st2 ?_
    exact Go.retW X2 hx hlk (t := (.object "com/example/redelivery/redelivery/ApiKeys$Role")) Bd.returns rfl (Or.inr (Or.inr (Or.inr (Or.inr ⟨rfl, rfl, rfl⟩)))) (hb hby d1_13) (by decide) (by decide) ⟨rfl, rfl, e2⟩
theorem d2_0 : decode prog_3_method_4_code 0 = .ok (.aload_n 0, 1) := by decide +kernel
theorem d2_1 : decode prog_3_method_4_code 1 = .ok (.getstatic 7, 3) := by decide +kernel
theorem d2_4 : decode prog_3_method_4_code 4 = .ok (.if_acmp .eq 10, 3) := by decide +kernel
theorem d2_7 : decode prog_3_method_4_code 7 = .ok (.aload_n 1, 1) := by decide +kernel
theorem d2_8 : decode prog_3_method_4_code 8 = .ok (.getstatic 3, 3) := by decide +kernel
theorem d2_11 : decode prog_3_method_4_code 11 = .ok (.if_acmp .ne 7, 3) := by decide +kernel
theorem d2_14 : decode prog_3_method_4_code 14 = .ok (.iconst 1, 1) := by decide +kernel
theorem d2_15 : decode prog_3_method_4_code 15 = .ok (.goto 4, 3) := by decide +kernel
theorem d2_18 : decode prog_3_method_4_code 18 = .ok (.iconst 0, 1) := by decide +kernel
theorem d2_19 : decode prog_3_method_4_code 19 = .ok (.ireturn, 1) := by decide +kernel
theorem pn_2 : plainName "com/example/redelivery/redelivery/ApiKeys$Role" = true := by first | (simp [plainName, overriddenIn]; done) | decide +kernel
theorem ef_2 (m : MethodId) (o0 : Addr) (o1 : Addr) : entryFrame m #[(.ref o0), (.ref o1)] 2 = mkF m 0 #[.val (.ref o0), .val (.ref o1)] [] := by first | (simp [entryFrame, mkF, argsToLocals, Value.category]; done) | rfl
def f2_19 (v19_s0 : Int32) : Int32 := (nar .boolean v19_s0)
def f2_14 : Int32 := (f2_19 (1 : Int32))
def f2_18 : Int32 := (f2_19 (0 : Int32))
def f2_7 (o1 : Addr) (w_PUBLISH : Addr) : Int32 := if o1 = w_PUBLISH then f2_14 else f2_18
def f2_0 (o0 : Addr) (o1 : Addr) (w_PUBLISH : Addr) (w_ADMIN : Addr) : Int32 := if o0 = w_ADMIN then f2_14 else (f2_7 o1 w_PUBLISH)
set_option maxRecDepth 65536 in
set_option maxHeartbeats 40000000 in
theorem rm2 (l : Launch) (Z : State) (a0 : Array Value) (hw : ∀ d ∈ tables_1, d.before a0 Z = true) (ws : List Jvm.Cond) (o0 : Addr) (o1 : Addr) (w_PUBLISH : Addr) (w_ADMIN : Addr) (h0 : Heap) (S_PUBLISH : Sta Z h0 "com/example/redelivery/redelivery/ApiKeys$Role" "PUBLISH" "Lcom/example/redelivery/redelivery/ApiKeys$Role;" (.ref w_PUBLISH)) (S_ADMIN : Sta Z h0 "com/example/redelivery/redelivery/ApiKeys$Role" "ADMIN" "Lcom/example/redelivery/redelivery/ApiKeys$Role;" (.ref w_ADMIN)) :
    MetFree l (⟨"com/example/redelivery/redelivery/ApiKeys$Role", "mayCall", "(Lcom/example/redelivery/redelivery/ApiKeys$Role;)Z"⟩ : MethodName) (head1 (Jvm.Cond.code (⟨"com/example/redelivery/redelivery/ApiKeys$Role", "mayCall", "(Lcom/example/redelivery/redelivery/ApiKeys$Role;)Z"⟩ : MethodName) prog_3_method_4_code 2 (some .boolean) :: ws) ({ frames := 0, cells := 0, slots := 0, locals := 0 } : Room)) (fun a U => a = #[(.ref o0), (.ref o1)] ∧ Z.Warmed39 U.vm ∧ U.heap = h0) (fun _ _ _ _ _ => True) (fun _ U o U' => ∃ v L, o = .returned v ∧ (PureQ (.int (f2_0 o0 o1 w_PUBLISH w_ADMIN)) h0) v U'.heap L ∧ FrameEnd U o U' L ({ frames := 0, cells := 0, slots := 0, locals := 0 } : Room).cells ({ frames := 0, cells := 0, slots := 0, locals := 0 } : Room).slots) := by
  refine MetFree.of_bodySF (plainFor_of_name pn_2) hisR ?_
  intro p e s m args below meth c s₁ Bd hml0 hP hK
  obtain ⟨rfl, hZ, hh⟩ := hP
  have hx := Bd.exec
  have hby := Bd.bytes
  have hlk : meth.locks = false := BodyLoose.notSynchronized Bd
  have hml : c.maxLocals = 2 := hml0
  have hown : s.vm.findClass "com/example/redelivery/redelivery/ApiKeys$Role" = some m.cls := findClass_of_methodNamed Bd.named
  have hnm := (name_of_methodNamed Bd.named Bd.method).1
  have X0 : Stand p l e ({ frames := 0, cells := 0, slots := 0, locals := 0 } : Room) s m #[(.ref o0), (.ref o1)] below meth c s₁ ([] : List Loc) 0 0 := Stand.of_body Bd
  have e0 : s₁.heap = h0 := by rw [← hh, Bd.state]; rfl
  show Go p e below s 0 0 (PureQ (.int (f2_0 o0 o1 w_PUBLISH w_ADMIN)) h0) s₁ (entryFrame m #[(.ref o0), (.ref o1)] 2)
  rw [ef_2 m o0 o1]
  refine Go.step (g' := (mkF m 1 #[.val (.ref o0), .val (.ref o1)] [(.ref o0)])) (fun _ k => XS.aloadN X0.here hx rfl (hb hby d2_0) rfl rfl  k) ?_
  obtain ⟨T1, X1, e1, st1⟩ := getS2 X0 hx hZ hown (host := "") (Or.inl (hw _ (List.mem_of_getElem? (i := 14) rfl))) Via.refl e0 S_ADMIN (g := (mkF m 1 #[.val (.ref o0), .val (.ref o1)] [(.ref o0)])) rfl (hb hby d2_1)
  refine Go.step (g' := (mkF m 4 #[.val (.ref o0), .val (.ref o1)] [(.ref w_ADMIN), (.ref o0)])) st1 ?_
  have t19 : ∀ (T_19 : State) (X_19 : Stand p l e ({ frames := 0, cells := 0, slots := 0, locals := 0 } : Room) s m #[(.ref o0), (.ref o1)] below meth c T_19 ([] : List Loc) 0 0) (e_19 : T_19.heap = h0) (v19_s0 : Int32), Go p e below s 0 0 (PureQ (.int (f2_19 v19_s0)) h0) T_19 (mkF m 19 #[.val (.ref o0), .val (.ref o1)] [(.int v19_s0)]) := by
    intro T_19 X_19 e_19 v19_s0
    exact Go.retN X_19 hx hlk (t := .boolean) Bd.returns (by simp) (hb hby d2_19) (by decide) (by decide) ⟨rfl, rfl, e_19⟩
  have t14 : ∀ (T_14 : State) (X_14 : Stand p l e ({ frames := 0, cells := 0, slots := 0, locals := 0 } : Room) s m #[(.ref o0), (.ref o1)] below meth c T_14 ([] : List Loc) 0 0) (e_14 : T_14.heap = h0), Go p e below s 0 0 (PureQ (.int f2_14) h0) T_14 (mkF m 14 #[.val (.ref o0), .val (.ref o1)] []) := by
    intro T_14 X_14 e_14
    refine Go.step (g' := (mkF m 15 #[.val (.ref o0), .val (.ref o1)] [(.int (1 : Int32))])) (fun _ k => XS.iconst X_14.here hx rfl (hb hby d2_14) k) ?_
    refine Go.step (g' := (mkF m 19 #[.val (.ref o0), .val (.ref o1)] [(.int (1 : Int32))])) (fun _ k => XS.goto X_14.here hx rfl (pc0 := 15) (pc' := 19) rfl (hb hby d2_15) (by decide) (by decide) k) ?_
    rw [show f2_14 = (f2_19 (1 : Int32)) from rfl]
    exact t19 T_14 X_14 e_14 (1 : Int32)
  by_cases hc4 : o0 = w_ADMIN
  · rw [show (f2_0 o0 o1 w_PUBLISH w_ADMIN) = f2_14 from if_pos hc4]
    refine Go.step (g' := (mkF m 14 #[.val (.ref o0), .val (.ref o1)] [])) (fun _ k => Jvm.RoadKit.acmp (g := (mkF m 4 #[.val (.ref o0), .val (.ref o1)] [(.ref w_ADMIN), (.ref o0)])) X1 hx rfl rfl rfl (pc0 := 4) (pc' := 14) (same := true) rfl (hb hby d2_4) rfl (decide_eq_true (congrArg Value.ref hc4)) (by decide) (by decide) k) ?_
    exact t14 T1 X1 e1
  · rw [show (f2_0 o0 o1 w_PUBLISH w_ADMIN) = (f2_7 o1 w_PUBLISH) from if_neg hc4]
    refine Go.step (g' := (mkF m 7 #[.val (.ref o0), .val (.ref o1)] [])) (fun _ k => Jvm.RoadKit.acmp (g := (mkF m 4 #[.val (.ref o0), .val (.ref o1)] [(.ref w_ADMIN), (.ref o0)])) X1 hx rfl rfl rfl (pc0 := 4) (pc' := 7) (same := false) rfl (hb hby d2_4) rfl (decide_eq_false fun q => hc4 (Value.ref.inj q)) (by decide) (by decide) k) ?_
    refine Go.step (g' := (mkF m 8 #[.val (.ref o0), .val (.ref o1)] [(.ref o1)])) (fun _ k => XS.aloadN X1.here hx rfl (hb hby d2_7) rfl rfl  k) ?_
    obtain ⟨T2, X2, e2, st2⟩ := getS2 X1 hx hZ hown (host := "") (Or.inl (hw _ (List.mem_of_getElem? (i := 15) rfl))) Via.refl e1 S_PUBLISH (g := (mkF m 8 #[.val (.ref o0), .val (.ref o1)] [(.ref o1)])) rfl (hb hby d2_8)
    refine Go.step (g' := (mkF m 11 #[.val (.ref o0), .val (.ref o1)] [(.ref w_PUBLISH), (.ref o1)])) st2 ?_
    by_cases hc11 : o1 = w_PUBLISH
    · rw [show (f2_7 o1 w_PUBLISH) = f2_14 from if_pos hc11]
      refine Go.step (g' := (mkF m 14 #[.val (.ref o0), .val (.ref o1)] [])) (fun _ k => Jvm.RoadKit.acmp (g := (mkF m 11 #[.val (.ref o0), .val (.ref o1)] [(.ref w_PUBLISH), (.ref o1)])) X2 hx rfl rfl rfl (pc0 := 11) (pc' := 14) (same := true) rfl (hb hby d2_11) rfl (decide_eq_true (congrArg Value.ref hc11)) (by decide) (by decide) k) ?_
      exact t14 T2 X2 e2
    · rw [show (f2_7 o1 w_PUBLISH) = f2_18 from if_neg hc11]
      refine Go.step (g' := (mkF m 18 #[.val (.ref o0), .val (.ref o1)] [])) (fun _ k => Jvm.RoadKit.acmp (g := (mkF m 11 #[.val (.ref o0), .val (.ref o1)] [(.ref w_PUBLISH), (.ref o1)])) X2 hx rfl rfl rfl (pc0 := 11) (pc' := 18) (same := false) rfl (hb hby d2_11) rfl (decide_eq_false fun q => hc11 (Value.ref.inj q)) (by decide) (by decide) k) ?_
      refine Go.step (g' := (mkF m 19 #[.val (.ref o0), .val (.ref o1)] [(.int (0 : Int32))])) (fun _ k => XS.iconst X2.here hx rfl (hb hby d2_18) k) ?_
      rw [show f2_18 = (f2_19 (0 : Int32)) from rfl]
      exact t19 T2 X2 e2 (0 : Int32)
theorem own_pick {P : Addr → Prop} (p0 : Int32) (w_PUBLISH : Addr) (w_ADMIN : Addr) (h_w_PUBLISH : P w_PUBLISH) (h_w_ADMIN : P w_ADMIN) : P (f1_0 p0 w_PUBLISH w_ADMIN) := by
  simp only [f1_10, f1_6, f1_0]
  (repeat' split) <;> assumption
theorem pn_0 : plainName "com/example/redelivery/redelivery/RoleMayCallPinLaw" = true := by first | (simp [plainName, overriddenIn]; done) | decide +kernel
theorem ef_0 (m : MethodId) (p0 : Int32) (p1 : Int32) : entryFrame m #[(.int p0), (.int p1)] maxLocals = mkF m 0 #[.val (.int p0), .val (.int p1), .unset, .unset, .unset, .unset] [] := by first | (simp [entryFrame, mkF, argsToLocals, Value.category, maxLocals]; done) | rfl
def f0_58 (v58_s0 : Int32) : Int32 := (nar .boolean v58_s0)
def f0_57 : Int32 := (f0_58 (0 : Int32))
def f0_53 : Int32 := (f0_58 (1 : Int32))
def f0_39 (p0 : Int32) (p1 : Int32) (w_PUBLISH : Addr) (w_ADMIN : Addr) (v39_4 : Int32) : Int32 := if (f2_0 (f1_0 p0 w_PUBLISH w_ADMIN) (f1_0 p1 w_PUBLISH w_ADMIN) w_PUBLISH w_ADMIN) = v39_4 then f0_53 else f0_57
def f0_36 (p0 : Int32) (p1 : Int32) (w_PUBLISH : Addr) (w_ADMIN : Addr) : Int32 := (f0_39 p0 p1 w_PUBLISH w_ADMIN (1 : Int32))
def f0_30 (p0 : Int32) (p1 : Int32) (w_PUBLISH : Addr) (w_ADMIN : Addr) : Int32 := (f0_39 p0 p1 w_PUBLISH w_ADMIN (0 : Int32))
def f0_23 (p0 : Int32) (p1 : Int32) (w_PUBLISH : Addr) (w_ADMIN : Addr) : Int32 := if (f1_0 p1 w_PUBLISH w_ADMIN) = w_ADMIN then (f0_30 p0 p1 w_PUBLISH w_ADMIN) else (f0_36 p0 p1 w_PUBLISH w_ADMIN)
def f0_17 (p0 : Int32) (p1 : Int32) (w_PUBLISH : Addr) (w_ADMIN : Addr) : Int32 := (f0_39 p0 p1 w_PUBLISH w_ADMIN (1 : Int32))
def f0_0 (p0 : Int32) (p1 : Int32) (w_PUBLISH : Addr) (w_ADMIN : Addr) : Int32 := if (f1_0 p0 w_PUBLISH w_ADMIN) = w_ADMIN then (f0_17 p0 p1 w_PUBLISH w_ADMIN) else (f0_23 p0 p1 w_PUBLISH w_ADMIN)
set_option maxRecDepth 65536 in
set_option maxHeartbeats 40000000 in
theorem rm0 (l : Launch) (Z : State) (a0 : Array Value) (hw : ∀ d ∈ tables_1, d.before a0 Z = true) (ws : List Jvm.Cond) (p0 : Int32) (p1 : Int32) (w_PUBLISH : Addr) (w_ADMIN : Addr) (h0 : Heap) (S_PUBLISH : Sta Z h0 "com/example/redelivery/redelivery/ApiKeys$Role" "PUBLISH" "Lcom/example/redelivery/redelivery/ApiKeys$Role;" (.ref w_PUBLISH)) (S_ADMIN : Sta Z h0 "com/example/redelivery/redelivery/ApiKeys$Role" "ADMIN" "Lcom/example/redelivery/redelivery/ApiKeys$Role;" (.ref w_ADMIN)) (E_PUBLISH : Exa Z h0 w_PUBLISH "com/example/redelivery/redelivery/ApiKeys$Role") (E_ADMIN : Exa Z h0 w_ADMIN "com/example/redelivery/redelivery/ApiKeys$Role") :
    MetFree l x (head1 (Jvm.Cond.code x code maxLocals ret :: ws) room_1) (fun a U => a = #[(.int p0), (.int p1)] ∧ Z.Warmed39 U.vm ∧ U.heap = h0) (fun _ _ _ _ _ => True) (fun _ U o U' => ∃ v L, o = .returned v ∧ (PureQ (.int (f0_0 p0 p1 w_PUBLISH w_ADMIN)) h0) v U'.heap L ∧ FrameEnd U o U' L room_1.cells room_1.slots) := by
  refine MetFree.of_bodySF (plainFor_of_name pn_0) hisR ?_
  intro p e s m args below meth c s₁ Bd hml0 hP hK
  obtain ⟨rfl, hZ, hh⟩ := hP
  have hx := Bd.exec
  have hby := Bd.bytes
  have hlk : meth.locks = false := BodyLoose.notSynchronized Bd
  have hml : c.maxLocals = 6 := hml0
  have hown : s.vm.findClass "com/example/redelivery/redelivery/RoleMayCallPinLaw" = some m.cls := findClass_of_methodNamed Bd.named
  have hnm := (name_of_methodNamed Bd.named Bd.method).1
  have X0 : Stand p l e room_1 s m #[(.int p0), (.int p1)] below meth c s₁ ([] : List Loc) 0 0 := Stand.of_body Bd
  have e0 : s₁.heap = h0 := by rw [← hh, Bd.state]; rfl
  show Go p e below s room_1.cells room_1.slots (PureQ (.int (f0_0 p0 p1 w_PUBLISH w_ADMIN)) h0) s₁ (entryFrame m #[(.int p0), (.int p1)] maxLocals)
  rw [ef_0 m p0 p1]
  refine Go.step (g' := (mkF m 1 #[.val (.int p0), .val (.int p1), .unset, .unset, .unset, .unset] [(.int p0)])) (fun _ k => XS.iloadN X0.here hx rfl (hb hby at_0) rfl  k) ?_
  obtain ⟨_, _, ⟨T1, L1, k1, n1⟩, -, X1, ⟨Lc1, hQ1, l1, y1, z1⟩, st1⟩ := Jvm.LawKit.callS X0 hx (y := (⟨"com/example/redelivery/redelivery/RoleMayCallPinLaw", "pick", "(I)Lcom/example/redelivery/redelivery/ApiKeys$Role;"⟩ : MethodName)) hown (mvT hZ (hw _ (List.mem_of_getElem? (i := 0) rfl))) (mvT hZ (hw _ (List.mem_of_getElem? (i := 1) rfl))) (mvT hZ (hw _ (List.mem_of_getElem? (i := 2) rfl))) (mvT hZ (hw _ (List.mem_of_getElem? (i := 3) rfl))) (by decide) (backOf (W := 0) (rm1 l Z a0 hw [] p0 w_PUBLISH w_ADMIN h0 S_PUBLISH S_ADMIN) hZ (hw _ (List.mem_of_getElem? (i := 3) rfl)) (hw _ (List.mem_of_getElem? (i := 2) rfl)) (by decide) (by decide)) (g := (mkF m 1 #[.val (.int p0), .val (.int p1), .unset, .unset, .unset, .unset] [(.int p0)])) rfl (by rw [hml]; rfl) (argsL := [(.int p0)]) (rest := []) (lenOf pd_0 rfl) rfl (by show 2 * 0 + _ ≤ _; exact Nat.le_of_eq rfl) (hb hby at_1) (fun _ _ => ⟨rfl, e0, (by decide : 0 + 0 ≤ _), (by decide : 0 + 0 ≤ _)⟩)
  dsimp only [Pt.U, Pt.locs, Pt.cells, Pt.slots] at X1 l1 y1 z1 st1 hQ1
  subst l1 y1 z1
  obtain ⟨rfl, rfl, e1⟩ := hQ1
  try rw [List.append_nil] at X1
  have Ep2 : Exa Z h0 (f1_0 p0 w_PUBLISH w_ADMIN) "com/example/redelivery/redelivery/ApiKeys$Role" := own_pick (P := fun a => Exa Z h0 a "com/example/redelivery/redelivery/ApiKeys$Role") p0 w_PUBLISH w_ADMIN E_PUBLISH E_ADMIN
  refine Go.step (g' := (mkF m 4 #[.val (.int p0), .val (.int p1), .unset, .unset, .unset, .unset] [(.ref (f1_0 p0 w_PUBLISH w_ADMIN))])) st1 ?_
  refine Go.step (g' := (mkF m 5 #[.val (.int p0), .val (.int p1), .val (.ref (f1_0 p0 w_PUBLISH w_ADMIN)), .unset, .unset, .unset] [])) (fun _ k => XS.astoreN X1.here hx rfl (hb hby at_4) rfl rfl (l' := #[.val (.int p0), .val (.int p1), .val (.ref (f1_0 p0 w_PUBLISH w_ADMIN)), .unset, .unset, .unset]) rfl k) ?_
  refine Go.step (g' := (mkF m 6 #[.val (.int p0), .val (.int p1), .val (.ref (f1_0 p0 w_PUBLISH w_ADMIN)), .unset, .unset, .unset] [(.int p1)])) (fun _ k => XS.iloadN X1.here hx rfl (hb hby at_5) rfl  k) ?_
  obtain ⟨_, _, ⟨T3, L3, k3, n3⟩, -, X3, ⟨Lc3, hQ3, l3, y3, z3⟩, st3⟩ := Jvm.LawKit.callS X1 hx (y := (⟨"com/example/redelivery/redelivery/RoleMayCallPinLaw", "pick", "(I)Lcom/example/redelivery/redelivery/ApiKeys$Role;"⟩ : MethodName)) hown (mvT hZ (hw _ (List.mem_of_getElem? (i := 0) rfl))) (mvT hZ (hw _ (List.mem_of_getElem? (i := 1) rfl))) (mvT hZ (hw _ (List.mem_of_getElem? (i := 2) rfl))) (mvT hZ (hw _ (List.mem_of_getElem? (i := 3) rfl))) (by decide) (backOf (W := 0) (rm1 l Z a0 hw [] p1 w_PUBLISH w_ADMIN h0 S_PUBLISH S_ADMIN) hZ (hw _ (List.mem_of_getElem? (i := 3) rfl)) (hw _ (List.mem_of_getElem? (i := 2) rfl)) (by decide) (by decide)) (g := (mkF m 6 #[.val (.int p0), .val (.int p1), .val (.ref (f1_0 p0 w_PUBLISH w_ADMIN)), .unset, .unset, .unset] [(.int p1)])) rfl (by rw [hml]; rfl) (argsL := [(.int p1)]) (rest := []) (lenOf pd_0 rfl) rfl (by show 2 * 0 + _ ≤ _; exact Nat.le_of_eq rfl) (hb hby at_6) (fun _ _ => ⟨rfl, e1, (by decide : 0 + 0 ≤ _), (by decide : 0 + 0 ≤ _)⟩)
  dsimp only [Pt.U, Pt.locs, Pt.cells, Pt.slots] at X3 l3 y3 z3 st3 hQ3
  subst l3 y3 z3
  obtain ⟨rfl, rfl, e3⟩ := hQ3
  try rw [List.append_nil] at X3
  have Ep4 : Exa Z h0 (f1_0 p1 w_PUBLISH w_ADMIN) "com/example/redelivery/redelivery/ApiKeys$Role" := own_pick (P := fun a => Exa Z h0 a "com/example/redelivery/redelivery/ApiKeys$Role") p1 w_PUBLISH w_ADMIN E_PUBLISH E_ADMIN
  refine Go.step (g' := (mkF m 9 #[.val (.int p0), .val (.int p1), .val (.ref (f1_0 p0 w_PUBLISH w_ADMIN)), .unset, .unset, .unset] [(.ref (f1_0 p1 w_PUBLISH w_ADMIN))])) st3 ?_
  refine Go.step (g' := (mkF m 10 #[.val (.int p0), .val (.int p1), .val (.ref (f1_0 p0 w_PUBLISH w_ADMIN)), .val (.ref (f1_0 p1 w_PUBLISH w_ADMIN)), .unset, .unset] [])) (fun _ k => XS.astoreN X3.here hx rfl (hb hby at_9) rfl rfl (l' := #[.val (.int p0), .val (.int p1), .val (.ref (f1_0 p0 w_PUBLISH w_ADMIN)), .val (.ref (f1_0 p1 w_PUBLISH w_ADMIN)), .unset, .unset]) rfl k) ?_
  refine Go.step (g' := (mkF m 11 #[.val (.int p0), .val (.int p1), .val (.ref (f1_0 p0 w_PUBLISH w_ADMIN)), .val (.ref (f1_0 p1 w_PUBLISH w_ADMIN)), .unset, .unset] [(.ref (f1_0 p0 w_PUBLISH w_ADMIN))])) (fun _ k => XS.aloadN X3.here hx rfl (hb hby at_10) rfl rfl  k) ?_
  obtain ⟨T5, X5, e5, st5⟩ := getS2 X3 hx hZ hown (host := "") (Or.inl (hw _ (List.mem_of_getElem? (i := 7) rfl))) Via.refl e3 S_ADMIN (g := (mkF m 11 #[.val (.int p0), .val (.int p1), .val (.ref (f1_0 p0 w_PUBLISH w_ADMIN)), .val (.ref (f1_0 p1 w_PUBLISH w_ADMIN)), .unset, .unset] [(.ref (f1_0 p0 w_PUBLISH w_ADMIN))])) rfl (hb hby at_11)
  refine Go.step (g' := (mkF m 14 #[.val (.int p0), .val (.int p1), .val (.ref (f1_0 p0 w_PUBLISH w_ADMIN)), .val (.ref (f1_0 p1 w_PUBLISH w_ADMIN)), .unset, .unset] [(.ref w_ADMIN), (.ref (f1_0 p0 w_PUBLISH w_ADMIN))])) st5 ?_
  have t39 : ∀ (T_39 : State) (X_39 : Stand p l e room_1 s m #[(.int p0), (.int p1)] below meth c T_39 ([] : List Loc) 0 0) (e_39 : T_39.heap = h0) (v39_4 : Int32), Go p e below s room_1.cells room_1.slots (PureQ (.int (f0_39 p0 p1 w_PUBLISH w_ADMIN v39_4)) h0) T_39 (mkF m 39 #[.val (.int p0), .val (.int p1), .val (.ref (f1_0 p0 w_PUBLISH w_ADMIN)), .val (.ref (f1_0 p1 w_PUBLISH w_ADMIN)), .val (.int v39_4), .unset] []) := by
    intro T_39 X_39 e_39 v39_4
    refine Go.step (g' := (mkF m 40 #[.val (.int p0), .val (.int p1), .val (.ref (f1_0 p0 w_PUBLISH w_ADMIN)), .val (.ref (f1_0 p1 w_PUBLISH w_ADMIN)), .val (.int v39_4), .unset] [(.ref (f1_0 p0 w_PUBLISH w_ADMIN))])) (fun _ k => XS.aloadN X_39.here hx rfl (hb hby at_39) rfl rfl  k) ?_
    refine Go.step (g' := (mkF m 41 #[.val (.int p0), .val (.int p1), .val (.ref (f1_0 p0 w_PUBLISH w_ADMIN)), .val (.ref (f1_0 p1 w_PUBLISH w_ADMIN)), .val (.int v39_4), .unset] [(.ref (f1_0 p1 w_PUBLISH w_ADMIN)), (.ref (f1_0 p0 w_PUBLISH w_ADMIN))])) (fun _ k => XS.aloadN X_39.here hx rfl (hb hby at_40) rfl rfl  k) ?_
    obtain ⟨cq7, kq7, q7a, q7b, q7c⟩ := isOf hZ e_39 Ep2
    obtain ⟨_, _, ⟨T7, L7, k7, n7⟩, -, X7, ⟨Lc7, hQ7, l7, y7, z7⟩, st7⟩ := X_39.virtualBack hx (y := (⟨"com/example/redelivery/redelivery/ApiKeys$Role", "mayCall", "(Lcom/example/redelivery/redelivery/ApiKeys$Role;)Z"⟩ : MethodName)) (z := (⟨"com/example/redelivery/redelivery/ApiKeys$Role", "mayCall", "(Lcom/example/redelivery/redelivery/ApiKeys$Role;)Z"⟩ : MethodName)) hown (mvT hZ (hw _ (List.mem_of_getElem? (i := 9) rfl))) (mvT hZ (hw _ (List.mem_of_getElem? (i := 10) rfl))) (notFace_of_selects (args := #[]) (mvT hZ (hw _ (List.mem_of_getElem? (i := 12) rfl)))) (mvT hZ (hw _ (List.mem_of_getElem? (i := 12) rfl))) (mvT hZ (hw _ (List.mem_of_getElem? (i := 11) rfl))) (by decide) (backOf (W := 0) (rm2 l Z a0 hw [] (f1_0 p0 w_PUBLISH w_ADMIN) (f1_0 p1 w_PUBLISH w_ADMIN) w_PUBLISH w_ADMIN h0 S_PUBLISH S_ADMIN) hZ (hw _ (List.mem_of_getElem? (i := 13) rfl)) (hw _ (List.mem_of_getElem? (i := 5) rfl)) (by decide) (by decide)) q7a q7c (g := (mkF m 41 #[.val (.int p0), .val (.int p1), .val (.ref (f1_0 p0 w_PUBLISH w_ADMIN)), .val (.ref (f1_0 p1 w_PUBLISH w_ADMIN)), .val (.int v39_4), .unset] [(.ref (f1_0 p1 w_PUBLISH w_ADMIN)), (.ref (f1_0 p0 w_PUBLISH w_ADMIN))])) rfl (by rw [hml]; rfl) (Steps.refl _) (argsL := [(.ref (f1_0 p1 w_PUBLISH w_ADMIN))]) (rest := []) (lenOf pd_1 rfl) rfl (by show 2 * 0 + _ ≤ _; exact Nat.le_of_eq rfl) (hb hby at_41) (fun _ _ => ⟨rfl, e_39, (by decide : 0 + 0 ≤ _), (by decide : 0 + 0 ≤ _)⟩)
    dsimp only [Pt.U, Pt.locs, Pt.cells, Pt.slots] at X7 l7 y7 z7 st7 hQ7
    subst l7 y7 z7
    obtain ⟨rfl, rfl, e7⟩ := hQ7
    try rw [List.append_nil] at X7
    refine Go.step (g' := (mkF m 44 #[.val (.int p0), .val (.int p1), .val (.ref (f1_0 p0 w_PUBLISH w_ADMIN)), .val (.ref (f1_0 p1 w_PUBLISH w_ADMIN)), .val (.int v39_4), .unset] [(.int (f2_0 (f1_0 p0 w_PUBLISH w_ADMIN) (f1_0 p1 w_PUBLISH w_ADMIN) w_PUBLISH w_ADMIN))])) (fun _ k => st7.trans k) ?_
    refine Go.step (g' := (mkF m 46 #[.val (.int p0), .val (.int p1), .val (.ref (f1_0 p0 w_PUBLISH w_ADMIN)), .val (.ref (f1_0 p1 w_PUBLISH w_ADMIN)), .val (.int v39_4), .val (.int (f2_0 (f1_0 p0 w_PUBLISH w_ADMIN) (f1_0 p1 w_PUBLISH w_ADMIN) w_PUBLISH w_ADMIN))] [])) (fun _ k => XS.istore X7.here hx rfl (hb hby at_44) rfl (l' := #[.val (.int p0), .val (.int p1), .val (.ref (f1_0 p0 w_PUBLISH w_ADMIN)), .val (.ref (f1_0 p1 w_PUBLISH w_ADMIN)), .val (.int v39_4), .val (.int (f2_0 (f1_0 p0 w_PUBLISH w_ADMIN) (f1_0 p1 w_PUBLISH w_ADMIN) w_PUBLISH w_ADMIN))]) rfl k) ?_
    refine Go.step (g' := (mkF m 48 #[.val (.int p0), .val (.int p1), .val (.ref (f1_0 p0 w_PUBLISH w_ADMIN)), .val (.ref (f1_0 p1 w_PUBLISH w_ADMIN)), .val (.int v39_4), .val (.int (f2_0 (f1_0 p0 w_PUBLISH w_ADMIN) (f1_0 p1 w_PUBLISH w_ADMIN) w_PUBLISH w_ADMIN))] [(.int (f2_0 (f1_0 p0 w_PUBLISH w_ADMIN) (f1_0 p1 w_PUBLISH w_ADMIN) w_PUBLISH w_ADMIN))])) (fun _ k => XS.iload X7.here hx rfl (hb hby at_46) rfl  k) ?_
    refine Go.step (g' := (mkF m 50 #[.val (.int p0), .val (.int p1), .val (.ref (f1_0 p0 w_PUBLISH w_ADMIN)), .val (.ref (f1_0 p1 w_PUBLISH w_ADMIN)), .val (.int v39_4), .val (.int (f2_0 (f1_0 p0 w_PUBLISH w_ADMIN) (f1_0 p1 w_PUBLISH w_ADMIN) w_PUBLISH w_ADMIN))] [(.int v39_4), (.int (f2_0 (f1_0 p0 w_PUBLISH w_ADMIN) (f1_0 p1 w_PUBLISH w_ADMIN) w_PUBLISH w_ADMIN))])) (fun _ k => XS.iload X7.here hx rfl (hb hby at_48) rfl  k) ?_
    have t58 : ∀ (v58_s0 : Int32), Go p e below s room_1.cells room_1.slots (PureQ (.int (f0_58 v58_s0)) h0) T7 (mkF m 58 #[.val (.int p0), .val (.int p1), .val (.ref (f1_0 p0 w_PUBLISH w_ADMIN)), .val (.ref (f1_0 p1 w_PUBLISH w_ADMIN)), .val (.int v39_4), .val (.int (f2_0 (f1_0 p0 w_PUBLISH w_ADMIN) (f1_0 p1 w_PUBLISH w_ADMIN) w_PUBLISH w_ADMIN))] [(.int v58_s0)]) := by
      intro v58_s0
      exact Go.retN X7 hx hlk (t := .boolean) Bd.returns (by simp) (hb hby at_58) (by decide) (by decide) ⟨rfl, rfl, e7⟩
    by_cases hc50 : (f2_0 (f1_0 p0 w_PUBLISH w_ADMIN) (f1_0 p1 w_PUBLISH w_ADMIN) w_PUBLISH w_ADMIN) = v39_4
    · rw [show (f0_39 p0 p1 w_PUBLISH w_ADMIN v39_4) = f0_53 from if_pos hc50]
      refine Go.step (g' := (mkF m 53 #[.val (.int p0), .val (.int p1), .val (.ref (f1_0 p0 w_PUBLISH w_ADMIN)), .val (.ref (f1_0 p1 w_PUBLISH w_ADMIN)), .val (.int v39_4), .val (.int (f2_0 (f1_0 p0 w_PUBLISH w_ADMIN) (f1_0 p1 w_PUBLISH w_ADMIN) w_PUBLISH w_ADMIN))] [])) (fun _ k => XS.icmpNo X7.here hx rfl (hb hby at_50) rfl (teq hc50).2 k) ?_
      refine Go.step (g' := (mkF m 54 #[.val (.int p0), .val (.int p1), .val (.ref (f1_0 p0 w_PUBLISH w_ADMIN)), .val (.ref (f1_0 p1 w_PUBLISH w_ADMIN)), .val (.int v39_4), .val (.int (f2_0 (f1_0 p0 w_PUBLISH w_ADMIN) (f1_0 p1 w_PUBLISH w_ADMIN) w_PUBLISH w_ADMIN))] [(.int (1 : Int32))])) (fun _ k => XS.iconst X7.here hx rfl (hb hby at_53) k) ?_
      refine Go.step (g' := (mkF m 58 #[.val (.int p0), .val (.int p1), .val (.ref (f1_0 p0 w_PUBLISH w_ADMIN)), .val (.ref (f1_0 p1 w_PUBLISH w_ADMIN)), .val (.int v39_4), .val (.int (f2_0 (f1_0 p0 w_PUBLISH w_ADMIN) (f1_0 p1 w_PUBLISH w_ADMIN) w_PUBLISH w_ADMIN))] [(.int (1 : Int32))])) (fun _ k => XS.goto X7.here hx rfl (pc0 := 54) (pc' := 58) rfl (hb hby at_54) (by decide) (by decide) k) ?_
      rw [show f0_53 = (f0_58 (1 : Int32)) from rfl]
      exact t58 (1 : Int32)
    · rw [show (f0_39 p0 p1 w_PUBLISH w_ADMIN v39_4) = f0_57 from if_neg hc50]
      refine Go.step (g' := (mkF m 57 #[.val (.int p0), .val (.int p1), .val (.ref (f1_0 p0 w_PUBLISH w_ADMIN)), .val (.ref (f1_0 p1 w_PUBLISH w_ADMIN)), .val (.int v39_4), .val (.int (f2_0 (f1_0 p0 w_PUBLISH w_ADMIN) (f1_0 p1 w_PUBLISH w_ADMIN) w_PUBLISH w_ADMIN))] [])) (fun _ k => XS.icmpYes X7.here hx rfl (pc0 := 50) (pc' := 57) rfl (hb hby at_50) rfl (feq hc50).2 (by decide) (by decide) k) ?_
      refine Go.step (g' := (mkF m 58 #[.val (.int p0), .val (.int p1), .val (.ref (f1_0 p0 w_PUBLISH w_ADMIN)), .val (.ref (f1_0 p1 w_PUBLISH w_ADMIN)), .val (.int v39_4), .val (.int (f2_0 (f1_0 p0 w_PUBLISH w_ADMIN) (f1_0 p1 w_PUBLISH w_ADMIN) w_PUBLISH w_ADMIN))] [(.int (0 : Int32))])) (fun _ k => XS.iconst X7.here hx rfl (hb hby at_57) k) ?_
      rw [show f0_57 = (f0_58 (0 : Int32)) from rfl]
      exact t58 (0 : Int32)
  by_cases hc14 : (f1_0 p0 w_PUBLISH w_ADMIN) = w_ADMIN
  · rw [show (f0_0 p0 p1 w_PUBLISH w_ADMIN) = (f0_17 p0 p1 w_PUBLISH w_ADMIN) from if_pos hc14]
    refine Go.step (g' := (mkF m 17 #[.val (.int p0), .val (.int p1), .val (.ref (f1_0 p0 w_PUBLISH w_ADMIN)), .val (.ref (f1_0 p1 w_PUBLISH w_ADMIN)), .unset, .unset] [])) (fun _ k => Jvm.RoadKit.acmp (g := (mkF m 14 #[.val (.int p0), .val (.int p1), .val (.ref (f1_0 p0 w_PUBLISH w_ADMIN)), .val (.ref (f1_0 p1 w_PUBLISH w_ADMIN)), .unset, .unset] [(.ref w_ADMIN), (.ref (f1_0 p0 w_PUBLISH w_ADMIN))])) X5 hx rfl rfl rfl (pc0 := 14) (pc' := 17) (same := true) rfl (hb hby at_14) rfl (decide_eq_true (congrArg Value.ref hc14)) (by decide) (by decide) k) ?_
    refine Go.step (g' := (mkF m 18 #[.val (.int p0), .val (.int p1), .val (.ref (f1_0 p0 w_PUBLISH w_ADMIN)), .val (.ref (f1_0 p1 w_PUBLISH w_ADMIN)), .unset, .unset] [(.int (1 : Int32))])) (fun _ k => XS.iconst X5.here hx rfl (hb hby at_17) k) ?_
    refine Go.step (g' := (mkF m 20 #[.val (.int p0), .val (.int p1), .val (.ref (f1_0 p0 w_PUBLISH w_ADMIN)), .val (.ref (f1_0 p1 w_PUBLISH w_ADMIN)), .val (.int (1 : Int32)), .unset] [])) (fun _ k => XS.istore X5.here hx rfl (hb hby at_18) rfl (l' := #[.val (.int p0), .val (.int p1), .val (.ref (f1_0 p0 w_PUBLISH w_ADMIN)), .val (.ref (f1_0 p1 w_PUBLISH w_ADMIN)), .val (.int (1 : Int32)), .unset]) rfl k) ?_
    refine Go.step (g' := (mkF m 39 #[.val (.int p0), .val (.int p1), .val (.ref (f1_0 p0 w_PUBLISH w_ADMIN)), .val (.ref (f1_0 p1 w_PUBLISH w_ADMIN)), .val (.int (1 : Int32)), .unset] [])) (fun _ k => XS.goto X5.here hx rfl (pc0 := 20) (pc' := 39) rfl (hb hby at_20) (by decide) (by decide) k) ?_
    rw [show (f0_17 p0 p1 w_PUBLISH w_ADMIN) = (f0_39 p0 p1 w_PUBLISH w_ADMIN (1 : Int32)) from rfl]
    exact t39 T5 X5 e5 (1 : Int32)
  · rw [show (f0_0 p0 p1 w_PUBLISH w_ADMIN) = (f0_23 p0 p1 w_PUBLISH w_ADMIN) from if_neg hc14]
    refine Go.step (g' := (mkF m 23 #[.val (.int p0), .val (.int p1), .val (.ref (f1_0 p0 w_PUBLISH w_ADMIN)), .val (.ref (f1_0 p1 w_PUBLISH w_ADMIN)), .unset, .unset] [])) (fun _ k => Jvm.RoadKit.acmp (g := (mkF m 14 #[.val (.int p0), .val (.int p1), .val (.ref (f1_0 p0 w_PUBLISH w_ADMIN)), .val (.ref (f1_0 p1 w_PUBLISH w_ADMIN)), .unset, .unset] [(.ref w_ADMIN), (.ref (f1_0 p0 w_PUBLISH w_ADMIN))])) X5 hx rfl rfl rfl (pc0 := 14) (pc' := 23) (same := false) rfl (hb hby at_14) rfl (decide_eq_false fun q => hc14 (Value.ref.inj q)) (by decide) (by decide) k) ?_
    refine Go.step (g' := (mkF m 24 #[.val (.int p0), .val (.int p1), .val (.ref (f1_0 p0 w_PUBLISH w_ADMIN)), .val (.ref (f1_0 p1 w_PUBLISH w_ADMIN)), .unset, .unset] [(.ref (f1_0 p1 w_PUBLISH w_ADMIN))])) (fun _ k => XS.aloadN X5.here hx rfl (hb hby at_23) rfl rfl  k) ?_
    obtain ⟨T6, X6, e6, st6⟩ := getS2 X5 hx hZ hown (host := "") (Or.inl (hw _ (List.mem_of_getElem? (i := 7) rfl))) Via.refl e5 S_ADMIN (g := (mkF m 24 #[.val (.int p0), .val (.int p1), .val (.ref (f1_0 p0 w_PUBLISH w_ADMIN)), .val (.ref (f1_0 p1 w_PUBLISH w_ADMIN)), .unset, .unset] [(.ref (f1_0 p1 w_PUBLISH w_ADMIN))])) rfl (hb hby at_24)
    refine Go.step (g' := (mkF m 27 #[.val (.int p0), .val (.int p1), .val (.ref (f1_0 p0 w_PUBLISH w_ADMIN)), .val (.ref (f1_0 p1 w_PUBLISH w_ADMIN)), .unset, .unset] [(.ref w_ADMIN), (.ref (f1_0 p1 w_PUBLISH w_ADMIN))])) st6 ?_
    by_cases hc27 : (f1_0 p1 w_PUBLISH w_ADMIN) = w_ADMIN
    · rw [show (f0_23 p0 p1 w_PUBLISH w_ADMIN) = (f0_30 p0 p1 w_PUBLISH w_ADMIN) from if_pos hc27]
      refine Go.step (g' := (mkF m 30 #[.val (.int p0), .val (.int p1), .val (.ref (f1_0 p0 w_PUBLISH w_ADMIN)), .val (.ref (f1_0 p1 w_PUBLISH w_ADMIN)), .unset, .unset] [])) (fun _ k => Jvm.RoadKit.acmp (g := (mkF m 27 #[.val (.int p0), .val (.int p1), .val (.ref (f1_0 p0 w_PUBLISH w_ADMIN)), .val (.ref (f1_0 p1 w_PUBLISH w_ADMIN)), .unset, .unset] [(.ref w_ADMIN), (.ref (f1_0 p1 w_PUBLISH w_ADMIN))])) X6 hx rfl rfl rfl (pc0 := 27) (pc' := 30) (same := true) rfl (hb hby at_27) rfl (decide_eq_true (congrArg Value.ref hc27)) (by decide) (by decide) k) ?_
      refine Go.step (g' := (mkF m 31 #[.val (.int p0), .val (.int p1), .val (.ref (f1_0 p0 w_PUBLISH w_ADMIN)), .val (.ref (f1_0 p1 w_PUBLISH w_ADMIN)), .unset, .unset] [(.int (0 : Int32))])) (fun _ k => XS.iconst X6.here hx rfl (hb hby at_30) k) ?_
      refine Go.step (g' := (mkF m 33 #[.val (.int p0), .val (.int p1), .val (.ref (f1_0 p0 w_PUBLISH w_ADMIN)), .val (.ref (f1_0 p1 w_PUBLISH w_ADMIN)), .val (.int (0 : Int32)), .unset] [])) (fun _ k => XS.istore X6.here hx rfl (hb hby at_31) rfl (l' := #[.val (.int p0), .val (.int p1), .val (.ref (f1_0 p0 w_PUBLISH w_ADMIN)), .val (.ref (f1_0 p1 w_PUBLISH w_ADMIN)), .val (.int (0 : Int32)), .unset]) rfl k) ?_
      refine Go.step (g' := (mkF m 39 #[.val (.int p0), .val (.int p1), .val (.ref (f1_0 p0 w_PUBLISH w_ADMIN)), .val (.ref (f1_0 p1 w_PUBLISH w_ADMIN)), .val (.int (0 : Int32)), .unset] [])) (fun _ k => XS.goto X6.here hx rfl (pc0 := 33) (pc' := 39) rfl (hb hby at_33) (by decide) (by decide) k) ?_
      rw [show (f0_30 p0 p1 w_PUBLISH w_ADMIN) = (f0_39 p0 p1 w_PUBLISH w_ADMIN (0 : Int32)) from rfl]
      exact t39 T6 X6 e6 (0 : Int32)
    · rw [show (f0_23 p0 p1 w_PUBLISH w_ADMIN) = (f0_36 p0 p1 w_PUBLISH w_ADMIN) from if_neg hc27]
      refine Go.step (g' := (mkF m 36 #[.val (.int p0), .val (.int p1), .val (.ref (f1_0 p0 w_PUBLISH w_ADMIN)), .val (.ref (f1_0 p1 w_PUBLISH w_ADMIN)), .unset, .unset] [])) (fun _ k => Jvm.RoadKit.acmp (g := (mkF m 27 #[.val (.int p0), .val (.int p1), .val (.ref (f1_0 p0 w_PUBLISH w_ADMIN)), .val (.ref (f1_0 p1 w_PUBLISH w_ADMIN)), .unset, .unset] [(.ref w_ADMIN), (.ref (f1_0 p1 w_PUBLISH w_ADMIN))])) X6 hx rfl rfl rfl (pc0 := 27) (pc' := 36) (same := false) rfl (hb hby at_27) rfl (decide_eq_false fun q => hc27 (Value.ref.inj q)) (by decide) (by decide) k) ?_
      refine Go.step (g' := (mkF m 37 #[.val (.int p0), .val (.int p1), .val (.ref (f1_0 p0 w_PUBLISH w_ADMIN)), .val (.ref (f1_0 p1 w_PUBLISH w_ADMIN)), .unset, .unset] [(.int (1 : Int32))])) (fun _ k => XS.iconst X6.here hx rfl (hb hby at_36) k) ?_
      refine Go.step (g' := (mkF m 39 #[.val (.int p0), .val (.int p1), .val (.ref (f1_0 p0 w_PUBLISH w_ADMIN)), .val (.ref (f1_0 p1 w_PUBLISH w_ADMIN)), .val (.int (1 : Int32)), .unset] [])) (fun _ k => XS.istore X6.here hx rfl (hb hby at_37) rfl (l' := #[.val (.int p0), .val (.int p1), .val (.ref (f1_0 p0 w_PUBLISH w_ADMIN)), .val (.ref (f1_0 p1 w_PUBLISH w_ADMIN)), .val (.int (1 : Int32)), .unset]) rfl k) ?_
      rw [show (f0_36 p0 p1 w_PUBLISH w_ADMIN) = (f0_39 p0 p1 w_PUBLISH w_ADMIN (1 : Int32)) from rfl]
      exact t39 T6 X6 e6 (1 : Int32)
theorem law_eq (w_PUBLISH w_ADMIN : Addr) (x y : Int32) (ne : w_PUBLISH ≠ w_ADMIN) : (f0_0 x y w_PUBLISH w_ADMIN) = 1 := by
  have n1 : nar .boolean 1 = 1 := by decide
  have n0 : nar .boolean 0 = 0 := by decide
  have ne' := Ne.symm ne
  simp only [f1_10, f1_6, f1_0, f2_19, f2_14, f2_18, f2_7, f2_0, f0_58, f0_57, f0_53, f0_39, f0_36, f0_30, f0_23, f0_17, f0_0]
  by_cases h1 : x &&& 1 = 0 <;> by_cases h2 : y &&& 1 = 0 <;> simp_all
set_option maxRecDepth 65536 in
set_option maxHeartbeats 40000000 in
theorem comes_1 {Post : Tables → Env → Array Value → State → Outcome → State → Prop} (hpost : ∀ tb e args s v u, (limb_1_1.after args s (.returned v) u = true ∧ limb_1_2.after args s (.returned v) u = true) → FrameEnd s (.returned v) u (Jvm.fieldLocs frame_1_writes args s ++ Jvm.arrayLocs frame_1_arrays args s ++ Jvm.staticLocs frame_1_statics s) 0 0 → Post tb e args s (.returned v) u) :
    ArmFor flags0 classFile x code maxLocals ret World_1 tables_1 room_1 Calls_1 rest_1 Pre_1 Post := by
  intro l hfl _ _ p e ha hc hk s m args below hf hA hF happ hP
  obtain ⟨hcalls, hrest, hpre⟩ := hP
  obtain ⟨-, -, -, hnamed, -, -, -, hat⟩ := (Spec.applies_iff hf).mp happ
  obtain ⟨hg, hn⟩ := and_e (Cond.before_iff.mp (show (Jvm.Cond.and given_1 narrow_1).before args s = true from hpre))
  obtain ⟨gc, hg⟩ := and_e hg
  obtain ⟨g0, hg⟩ := and_e hg
  have g1 := hg
  obtain ⟨w0, w1, rfl⟩ : ∃ w0 w1 : Value, args = #[w0, w1] := by
    have hs : args.size = 2 := by simpa [Cond.value, given_1] using gc
    obtain ⟨L⟩ := args
    match L, hs with
    | [w0, w1], _ => exact ⟨w0, w1, rfl⟩
  have hw := fun d (hd : d ∈ tables_1) => atoms_spec (ws := Jvm.Cond.code x code maxLocals ret :: tables_1) hat d (List.mem_cons_of_mem _ hd)
  have hfit : Fit s := fun {y c} hc i hi => by
    obtain ⟨ha, rfl⟩ := Array.getElem?_eq_some_iff.mp hc
    have q := List.all_eq_true.mp ((Array.all_eq_true_iff_forall_mem.mp hF) _ (Array.getElem_mem ha)) i (List.mem_range.mpr hi)
    simpa [Array.getElem?_eq_getElem hi] using q
  obtain ⟨i0, ei0⟩ := is_v g0
  obtain rfl : w0 = (.int i0) := Option.some.inj ei0
  obtain ⟨i1, ei1⟩ := is_v g1
  obtain rfl : w1 = (.int i1) := Option.some.inj ei1
  obtain ⟨na0, nb0⟩ := and_e hn
  obtain ⟨na1, nb1⟩ := and_e nb0
  obtain ⟨na2, nb2⟩ := and_e nb1
  obtain ⟨w_PUBLISH, ev_PUBLISH⟩ := exa_v na0
  have E_PUBLISH : Exa s s.heap w_PUBLISH "com/example/redelivery/redelivery/ApiKeys$Role" := Exa.start ev_PUBLISH na0
  have S_PUBLISH : Sta s s.heap "com/example/redelivery/redelivery/ApiKeys$Role" "PUBLISH" "Lcom/example/redelivery/redelivery/ApiKeys$Role;" (.ref w_PUBLISH) := Sta.start ev_PUBLISH (Or.inr ⟨(hw _ (List.mem_of_getElem? (i := 5) rfl)), (hw _ (List.mem_of_getElem? (i := 6) rfl))⟩)
  obtain ⟨w_ADMIN, ev_ADMIN⟩ := exa_v na1
  have E_ADMIN : Exa s s.heap w_ADMIN "com/example/redelivery/redelivery/ApiKeys$Role" := Exa.start ev_ADMIN na1
  have S_ADMIN : Sta s s.heap "com/example/redelivery/redelivery/ApiKeys$Role" "ADMIN" "Lcom/example/redelivery/redelivery/ApiKeys$Role;" (.ref w_ADMIN) := Sta.start ev_ADMIN (Or.inr ⟨(hw _ (List.mem_of_getElem? (i := 5) rfl)), (hw _ (List.mem_of_getElem? (i := 8) rfl))⟩)
  have O_PUBLISH := own_ord ev_PUBLISH na2
  have O_ADMIN := own_ord ev_ADMIN nb2
  have ne : w_PUBLISH ≠ w_ADMIN := own_ne O_PUBLISH O_ADMIN (by decide)
  obtain ⟨n, o, h1, h2, h3, v, L, rfl, hQ, hq⟩ := rm0 l s _ hw tables_1 i0 i1 w_PUBLISH w_ADMIN s.heap  S_PUBLISH S_ADMIN E_PUBLISH E_ADMIN p e ha hc hk s m _ below hf ((Spec.applies_iff_loose hf).mp happ).1 ⟨rfl, State.Warmed39.refl s, rfl⟩ trivial
  obtain ⟨rfl, rfl, -⟩ := hQ
  rw [law_eq w_PUBLISH w_ADMIN _ _ ne] at *
  refine ⟨n, _, h1, h2, h3, hpost _ _ _ _ _ _ ⟨Cond.after_iff.mpr rfl, Cond.after_iff.mpr (eq_i res_at (Term.int_eval (1)) rfl)⟩ ⟨hq.1, hq.2.1, (hq.2.2.sift fun y hy => nomatch hy).mono (by decide) (by decide)⟩⟩
theorem main_1_1 : Claimed_1_1 := comes_1 fun _ _ _ _ _ _ h hF => ⟨h.1, hF⟩
theorem main_1_2 : Claimed_1_2 := comes_1 fun _ _ _ _ _ _ h hF => ⟨h.2, hF⟩
end Jvm.Pilot.@@N@@
namespace Jvm.Pilot.@@N@@
open Jvm Jvm.ClassFile Sem Op Lib Jvm.Free Jvm.Stand Jvm.Pilot.@@N@@.Jvm.D
/-! MADE BY PROGRAM (witnessworld.py) out of the Statement's table words and the real class files: 12 classes; the members and pool entries that the words name. The judged class is class 1, her method 2. -/
namespace start1
open Jvm.ClassFile
def u (s : String) : CpInfo := .utf8 (stringToUtf16 s)
/-- a pool by its gaps: so many unusable entries, then the entry; so many at the end -/
def gap : Nat → List CpInfo → List CpInfo
  | 0, r => r
  | n + 1, r => .unusable :: gap n r
def poolList (es : List (Nat × CpInfo)) (last : Nat) : List CpInfo := es.foldr (fun e r => gap e.1 (e.2 :: r)) (gap last [])
def pool (es : List (Nat × CpInfo)) (last : Nat) : Array CpInfo := ⟨poolList es last⟩
def fileOf (pool : Array CpInfo) (this : Nat) (attrs : Array Attribute := #[]) (ms : Array MethodInfo := #[]) (fl : Nat := 33) (sup : Nat := 0) (ifs : Array Nat := #[]) (fds : Array FieldInfo := #[]) : ClassFile where
  minorVersion := 0
  majorVersion := 65
  constantPool := pool
  accessFlags := fl
  thisClass := this
  superClass := sup
  interfaces := ifs
  fields := fds
  methods := ms
  attributes := attrs
def plain (name : String) (sup : Option ClassId) : Class where
  name := name
  kind := .ordinary
  loader := none
  accessFlags := 33
  super := sup
  interfaces := #[]
  cf := none
  fields := #[]
  methods := #[]
  instanceTypes := #[]
  staticTypes := #[]
  resolved := #[]
  callSites := []
  init := .initialized
  statics := none
  mirror := none

def pool0 : Array CpInfo := pool [(5, u "<init>"), (0, u "()V"), (1, .class_ 10), (1, u "java/lang/Object")] 113

def k0m0 : Method := { name := "<init>", desc := "()V", sig := { parameters := [], returnType := none }, accessFlags := 1, code := none }
/-- java/lang/Object -/
def k0 : Class := { plain "java/lang/Object" none with
  accessFlags := 33
  interfaces := #[]
  cf := some (fileOf pool0 8 #[] #[{ accessFlags := 1, nameIndex := 5, descriptorIndex := 6, attributes := #[] }] 33 0 #[] #[])
  fields := #[]
  methods := #[k0m0]
  instanceTypes := #[]
  staticTypes := #[]
  resolved := Array.replicate 124 none
  statics := none }

def pool1 : Array CpInfo := pool [(2, .class_ 4), (1, u "java/lang/Object"), (0, u "<init>"), (0, u "()V"), (0, .fieldref 8 9), (0, .class_ 10), (0, .nameAndType 11 12), (0, u "com/example/redelivery/redelivery/ApiKeys$Role"), (0, u "PUBLISH"), (0, u "Lcom/example/redelivery/redelivery/ApiKeys$Role;"), (0, .fieldref 8 14), (0, .nameAndType 15 12), (0, u "ADMIN"), (0, .methodref 17 18), (0, .class_ 19), (0, .nameAndType 20 21), (0, u "com/example/redelivery/redelivery/RoleMayCallPinLaw"), (0, u "pick"), (0, u "(I)Lcom/example/redelivery/redelivery/ApiKeys$Role;"), (0, .methodref 8 23), (0, .nameAndType 24 25), (0, u "mayCall"), (0, u "(Lcom/example/redelivery/redelivery/ApiKeys$Role;)Z"), (3, u "law"), (0, u "(II)Z")] 6

def k1m0 : Method := { name := "<init>", desc := "()V", sig := { parameters := [], returnType := none }, accessFlags := 1, code := none }
def k1c1 : Code := { maxStack := 2, maxLocals := 1, code := method_2_code, exceptionTable := #[], attributes := #[] }
def k1m1 : Method := { name := "pick", desc := "(I)Lcom/example/redelivery/redelivery/ApiKeys$Role;", sig := { parameters := [.int], returnType := some (.object "com/example/redelivery/redelivery/ApiKeys$Role") }, accessFlags := 10, code := some k1c1 }
def k1c2 : Code := { maxStack := 2, maxLocals := 6, code := code, exceptionTable := #[], attributes := #[] }
def k1m2 : Method := { name := "law", desc := "(II)Z", sig := { parameters := [.int, .int], returnType := some .boolean }, accessFlags := 9, code := some k1c2 }
/-- com/example/redelivery/redelivery/RoleMayCallPinLaw -/
def k1 : Class := { plain "com/example/redelivery/redelivery/RoleMayCallPinLaw" (some 0) with
  accessFlags := 49
  interfaces := #[]
  cf := some (fileOf pool1 17 #[] #[{ accessFlags := 1, nameIndex := 5, descriptorIndex := 6, attributes := #[] }, { accessFlags := 10, nameIndex := 20, descriptorIndex := 21, attributes := #[] }, { accessFlags := 9, nameIndex := 29, descriptorIndex := 30, attributes := #[] }] 49 2 #[] #[])
  fields := #[]
  methods := #[k1m0, k1m1, k1m2]
  instanceTypes := #[]
  staticTypes := #[]
  resolved := Array.replicate 37 none
  statics := none }

def pool2 : Array CpInfo := pool [(1, .class_ 2), (0, u "java/lang/constant/Constable"), (0, .class_ 4), (0, u "java/lang/Object")] 6

/-- java/lang/constant/Constable -/
def k2 : Class := { plain "java/lang/constant/Constable" (some 0) with
  accessFlags := 1537
  interfaces := #[]
  cf := some (fileOf pool2 1 #[] #[] 1537 3 #[] #[])
  fields := #[]
  methods := #[]
  instanceTypes := #[]
  staticTypes := #[]
  resolved := Array.replicate 11 none
  statics := none }

def pool3 : Array CpInfo := pool [(1, .class_ 2), (0, u "java/lang/Comparable"), (0, .class_ 4), (0, u "java/lang/Object")] 7

/-- java/lang/Comparable -/
def k3 : Class := { plain "java/lang/Comparable" (some 0) with
  accessFlags := 1537
  interfaces := #[]
  cf := some (fileOf pool3 1 #[] #[] 1537 3 #[] #[])
  fields := #[]
  methods := #[]
  instanceTypes := #[]
  staticTypes := #[]
  resolved := Array.replicate 12 none
  statics := none }

def pool4 : Array CpInfo := pool [(1, .class_ 2), (0, u "java/io/Serializable"), (0, .class_ 4), (0, u "java/lang/Object")] 2

/-- java/io/Serializable -/
def k4 : Class := { plain "java/io/Serializable" (some 0) with
  accessFlags := 1537
  interfaces := #[]
  cf := some (fileOf pool4 1 #[] #[] 1537 3 #[] #[])
  fields := #[]
  methods := #[]
  instanceTypes := #[]
  staticTypes := #[]
  resolved := Array.replicate 7 none
  statics := none }

def pool5 : Array CpInfo := pool [(2, .class_ 4), (1, u "java/lang/Enum"), (0, u "name"), (0, u "Ljava/lang/String;"), (2, u "ordinal"), (0, u "I"), (1, .class_ 14), (1, u "java/lang/Object"), (4, u "hash"), (86, .class_ 108), (1, u "java/lang/Enum$EnumDesc"), (2, .class_ 112), (0, u "java/lang/constant/Constable"), (0, .class_ 114), (0, u "java/lang/Comparable"), (0, .class_ 116), (0, u "java/io/Serializable")] 87

/-- java/lang/Enum -/
def k5 : Class := { plain "java/lang/Enum" (some 0) with
  accessFlags := 1057
  interfaces := #[2, 3, 4]
  cf := some (fileOf pool5 2 #[.nestMembers #[106]] #[] 1057 12 #[111, 113, 115] #[{ accessFlags := 18, nameIndex := 5, descriptorIndex := 6, attributes := #[] }, { accessFlags := 18, nameIndex := 9, descriptorIndex := 10, attributes := #[] }, { accessFlags := 2, nameIndex := 19, descriptorIndex := 10, attributes := #[] }])
  fields := #[{ name := "name", type := (.object "java/lang/String"), accessFlags := 18, slot := 0, constantValue := 0 }, { name := "ordinal", type := .int, accessFlags := 18, slot := 1, constantValue := 0 }, { name := "hash", type := .int, accessFlags := 2, slot := 2, constantValue := 0 }]
  methods := #[]
  instanceTypes := #[(.object "java/lang/String"), .int, .int]
  staticTypes := #[]
  resolved := Array.replicate 204 none
  statics := none }

def pool6 : Array CpInfo := pool [(1, .class_ 2), (0, u "com/example/redelivery/redelivery/ApiKeys$Role"), (0, .fieldref 1 4), (0, .nameAndType 5 6), (0, u "PUBLISH"), (0, u "Lcom/example/redelivery/redelivery/ApiKeys$Role;"), (0, .fieldref 1 8), (0, .nameAndType 9 6), (0, u "ADMIN"), (2, u "$VALUES"), (0, u "[Lcom/example/redelivery/redelivery/ApiKeys$Role;"), (6, .class_ 22), (1, u "java/lang/Enum"), (52, u "mayCall"), (0, u "(Lcom/example/redelivery/redelivery/ApiKeys$Role;)Z"), (9, .class_ 87), (0, u "com/example/redelivery/redelivery/ApiKeys")] 2

def k6c0 : Code := { maxStack := 2, maxLocals := 2, code := prog_3_method_4_code, exceptionTable := #[], attributes := #[] }
def k6m0 : Method := { name := "mayCall", desc := "(Lcom/example/redelivery/redelivery/ApiKeys$Role;)Z", sig := { parameters := [(.object "com/example/redelivery/redelivery/ApiKeys$Role")], returnType := some .boolean }, accessFlags := 0, code := some k6c0 }
/-- com/example/redelivery/redelivery/ApiKeys$Role -/
def k6 : Class := { plain "com/example/redelivery/redelivery/ApiKeys$Role" (some 5) with
  accessFlags := 16432
  interfaces := #[]
  cf := some (fileOf pool6 1 #[.nestHost 86] #[{ accessFlags := 0, nameIndex := 75, descriptorIndex := 76, attributes := #[] }] 16432 20 #[] #[{ accessFlags := 16409, nameIndex := 5, descriptorIndex := 6, attributes := #[] }, { accessFlags := 16409, nameIndex := 9, descriptorIndex := 6, attributes := #[] }, { accessFlags := 4122, nameIndex := 12, descriptorIndex := 13, attributes := #[] }])
  fields := #[{ name := "PUBLISH", type := (.object "com/example/redelivery/redelivery/ApiKeys$Role"), accessFlags := 16409, slot := 0, constantValue := 0 }, { name := "ADMIN", type := (.object "com/example/redelivery/redelivery/ApiKeys$Role"), accessFlags := 16409, slot := 1, constantValue := 0 }, { name := "$VALUES", type := (.array (.object "com/example/redelivery/redelivery/ApiKeys$Role")), accessFlags := 4122, slot := 2, constantValue := 0 }]
  methods := #[k6m0]
  instanceTypes := #[(.object "java/lang/String"), .int, .int]
  staticTypes := #[(.object "com/example/redelivery/redelivery/ApiKeys$Role"), (.object "com/example/redelivery/redelivery/ApiKeys$Role"), (.array (.object "com/example/redelivery/redelivery/ApiKeys$Role"))]
  resolved := Array.replicate 90 none
  statics := some 0 }

def pool7 : Array CpInfo := pool [(1, u "java/lang/Cloneable"), (0, .class_ 1), (0, u "java/lang/Object"), (0, .class_ 3)] 3

/-- java/lang/Cloneable -/
def k7 : Class := { plain "java/lang/Cloneable" (some 0) with
  accessFlags := 1537
  interfaces := #[]
  cf := some (fileOf pool7 2 #[] #[] 1537 4 #[] #[])
  fields := #[]
  methods := #[]
  instanceTypes := #[]
  staticTypes := #[]
  resolved := Array.replicate 8 none
  statics := none }

/-- the primitive byte -/
def k8 : Class := { plain "byte" none with kind := .primitive 'B', accessFlags := 0x411 }
/-- [B -/
def k9 : Class := { plain "[B" (some 0) with kind := .array 8 .byte, interfaces := #[7, 4], accessFlags := 1041 }

/-- the primitive int -/
def k10 : Class := { plain "int" none with kind := .primitive 'I', accessFlags := 0x411 }
/-- [I -/
def k11 : Class := { plain "[I" (some 0) with kind := .array 10 .int, interfaces := #[7, 4], accessFlags := 1041 }

def heap : Heap := #[{ cls := 6, slots := #[.ref 1, .ref 2, .null], vm := .statics 6 },
  { cls := 6, slots := #[.null, .int 0, .int 0], vm := .none },
  { cls := 6, slots := #[.null, .int 1, .int 0], vm := .none }]
def classes : Array Class := #[k0, k1, k2, k3, k4, k5, k6, k7, k8, k9, k10, k11]
def interned : List (Array UInt16 × Addr) := []
def slotsUsed : Nat := 9
def theMethod : MethodId := ⟨1, 2⟩
def args0 : Array Value := #[.int 0, .int 1]
def aboutOver (below : List Frame) : State where
  vm := { classes := classes, interned := interned.toArray }
  heap := heap
  slotsUsed := slotsUsed
  threads := #[{ frames := .invoking theMethod args0 :: below }]
def below0 : List Frame := [.native { method := ⟨0, 0⟩, args := #[] }]
def about1 : State := aboutOver below0
def p0 : Program := .bare "" "" ""
def e0 : Env := launch0.env 0 0 0
theorem w_frames : about1.frames = Frame.invoking theMethod args0 :: below0 := rfl
set_option maxRecDepth 65536 in
theorem w_args : argsFit about1.vm theMethod args0 = true := by decide +kernel
set_option maxRecDepth 65536 in
theorem w_heap : heapFits about1 = true := by decide +kernel
set_option maxRecDepth 65536 in
theorem w_runnable : about1.curStatus? = some .runnable := by decide +kernel
set_option maxRecDepth 65536 in
theorem w_alone : about1.alone = true := by decide +kernel
set_option maxRecDepth 65536 in
theorem w_named : about1.methodNamed? x = some theMethod := by decide +kernel
set_option maxRecDepth 65536 in
theorem w_hears : about1.hears theMethod below0 = true := by decide +kernel
set_option maxRecDepth 65536 in
theorem w_ripe : about1.ripe theMethod args0 below0 = true := by decide +kernel
theorem w_running : about1.status = .running := rfl
set_option maxRecDepth 65536 in
theorem w_room : about1.hasRoom e0.platform room_1 = true :=
  launch0.hasRoom_least _ room_1 (by decide +kernel) (by decide +kernel) (by decide +kernel) (by decide +kernel) (by decide +kernel) (by decide +kernel)
theorem allAtoms_all (ts : List Jvm.Cond) (a : Array Jvm.Value) (st : Jvm.State) : (allAtoms ts).before a st = ts.all (fun c => c.before a st) := by
  induction ts with
  | nil => rfl
  | cons c t ih =>
    show (Jvm.Cond.and c (allAtoms t)).before a st = _
    rw [Jvm.Cond.before_and, ih, List.all_cons]
def words1 : List Jvm.Cond := Jvm.Cond.code x code maxLocals ret :: tables_1
/-- a 'code' word, met by the world's own term for the bytes: nothing is compared byte by byte -/
theorem code_word {y : MethodName} {bytes : ByteArray} {mx : Nat} {rt : Option FieldType} {a : Array Value} {s : State} {m : MethodId} {meth : Method} {c : Code} (h1 : s.methodNamed? y = some m) (h2 : s.vm.method? m = some meth) (h3 : meth.code = some c) (h4 : c.code = bytes)
    (h5 : (c.maxLocals == mx && c.exceptionTable.isEmpty && decide (c.maxStack ≤ mostOperands) && decide (meth.sig.returnType = rt) && !meth.locks && decide (parseMethodDescriptor y.desc = some meth.sig)) = true) : (Jvm.Cond.code y bytes mx rt).before a s = true := by
  simp only [Bool.and_eq_true, beq_iff_eq, Bool.not_eq_true', decide_eq_true_eq] at h5
  obtain ⟨⟨⟨⟨⟨g1, g2⟩, g3⟩, g4⟩, g5⟩, g6⟩ := h5
  simp [Cond.before, Cond.holds, Cond.value, h1, h2, h3, h4, g1, g2, g3, g4, g5, g6]
def isCode : Jvm.Cond → Bool
  | .code _ _ _ _ => true
  | _ => false
theorem all_split {L : List Jvm.Cond} {P : Jvm.Cond → Bool} (h1 : L.all (fun c => isCode c || P c) = true) (h2 : ∀ c ∈ L.filter isCode, P c = true) : L.all P = true := by
  refine List.all_eq_true.mpr fun c hc => ?_
  have h := List.all_eq_true.mp h1 c hc
  rcases Bool.eq_false_or_eq_true (isCode c) with hi | hi
  · exact h2 c (List.mem_filter.mpr ⟨hc, hi⟩)
  · simpa [hi] using h
set_option maxRecDepth 65536 in
theorem w_c0 : (Jvm.Cond.code x code maxLocals ret).before args0 about1 = true := code_word (m := ⟨1, 2⟩) (meth := k1m2) (c := k1c2) (by decide +kernel) rfl rfl rfl (by decide +kernel)
set_option maxRecDepth 65536 in
theorem w_c1 : (Jvm.Cond.code ({ cls := "com/example/redelivery/redelivery/RoleMayCallPinLaw", name := "pick", desc := "(I)Lcom/example/redelivery/redelivery/ApiKeys$Role;" } : Jvm.MethodName) method_2_code (1 : Nat) (Option.some (Jvm.ClassFile.FieldType.object "com/example/redelivery/redelivery/ApiKeys$Role"))).before args0 about1 = true := code_word (m := ⟨1, 1⟩) (meth := k1m1) (c := k1c1) (by decide +kernel) rfl rfl rfl (by decide +kernel)
set_option maxRecDepth 65536 in
theorem w_c2 : (Jvm.Cond.code ({ cls := "com/example/redelivery/redelivery/ApiKeys$Role", name := "mayCall", desc := "(Lcom/example/redelivery/redelivery/ApiKeys$Role;)Z" } : Jvm.MethodName) prog_3_method_4_code (2 : Nat) (Option.some Jvm.ClassFile.FieldType.boolean)).before args0 about1 = true := code_word (m := ⟨6, 0⟩) (meth := k6m0) (c := k6c0) (by decide +kernel) rfl rfl rfl (by decide +kernel)
def codes1 : List Jvm.Cond := [Jvm.Cond.code x code maxLocals ret, Jvm.Cond.code ({ cls := "com/example/redelivery/redelivery/RoleMayCallPinLaw", name := "pick", desc := "(I)Lcom/example/redelivery/redelivery/ApiKeys$Role;" } : Jvm.MethodName) method_2_code (1 : Nat) (Option.some (Jvm.ClassFile.FieldType.object "com/example/redelivery/redelivery/ApiKeys$Role")), Jvm.Cond.code ({ cls := "com/example/redelivery/redelivery/ApiKeys$Role", name := "mayCall", desc := "(Lcom/example/redelivery/redelivery/ApiKeys$Role;)Z" } : Jvm.MethodName) prog_3_method_4_code (2 : Nat) (Option.some Jvm.ClassFile.FieldType.boolean)]
set_option maxRecDepth 65536 in
theorem codes_eq : words1.filter isCode = codes1 := rfl
theorem w_codes : ∀ c ∈ words1.filter isCode, c.before args0 about1 = true := by
  rw [codes_eq]
  intro c hc
  simp only [codes1, List.mem_cons, List.not_mem_nil, or_false] at hc
  rcases hc with rfl | rfl | rfl
  · exact w_c0
  · exact w_c1
  · exact w_c2
set_option maxRecDepth 65536 in
theorem w_t1 : words1.all (fun c => isCode c || c.before args0 about1) = true := by decide +kernel
theorem w_tables : (allAtoms (Jvm.Cond.code x code maxLocals ret :: tables_1)).before args0 about1 = true := by
  rw [allAtoms_all]
  show words1.all (fun c => c.before args0 about1) = true
  refine all_split ?_ w_codes
  rw [w_t1]
set_option maxRecDepth 65536 in
theorem w_case : (Jvm.Cond.and given_1 narrow_1).before args0 about1 = true := by decide +kernel
theorem w_applies : (headSpec (Jvm.Cond.code x code maxLocals ret :: tables_1) room_1).applies x e0.platform about1 = true :=
  (Spec.applies_iff w_frames).mpr ⟨w_running, w_runnable, w_alone, w_named, w_hears, w_ripe, w_room, w_tables⟩
theorem atStart : AtStart classFile x code maxLocals ret World_1 tables_1 room_1 Calls_1 rest_1 Pre_1 launch0 p0 e0 about1 theMethod args0 below0 :=
  ⟨lists_1, trivial, launch0.admits_env _ _ _, launch0.least_env, fairChoices_fair.cas, fairChoices_fair.clock, w_frames, w_args, w_heap, w_applies, trivial, trivial, w_case⟩
end start1
theorem witness_1 : WitnessClaimed_1 := ⟨start1.p0, start1.e0, start1.about1, start1.theMethod, start1.args0, start1.below0, start1.atStart⟩
end Jvm.Pilot.@@N@@
